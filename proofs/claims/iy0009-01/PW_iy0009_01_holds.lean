import PyProof.Rows.All
import Wide.All
import OpenK.AllK
import Wide.FinOn
import PySem.Challenge.RW_iy0009_01
set_option Elab.async false
set_option linter.unusedVariables false
set_option linter.unusedSimpArgs false
set_option maxRecDepth 100000
set_option genSizeOf false
set_option bootstrap.genMatcherCode false
set_option tactic.hygienic false
section
open PySem PySem.W PyProof.Rows
namespace Mine
set_option genCtorIdx false
noncomputable abbrev Bs := List UInt8
inductive Val where
 | none
 | bool (b : Bool)
 | int (i : Int)
 | str (s : String)
 | bytes (b : Bs)
 | tup (vs : List Val)
 | lst (l : Nat)
 | dct (l : Nat)
 | inst (c : Nat) (l : Nat)
 | lB (is : List Int)
 | posix
inductive Cell where
 | lst (vs : List Val)
 | dct (es : List (Bs × Val))
 | ns (c : Nat) (attrs : List (Nat × Val))
 | dead
noncomputable def Cell.kill : Cell -> Cell
 | .lst vs => .lst vs
 | _ => .dead
noncomputable abbrev H := List Cell
inductive Res (α : Type) where
 | ok (a : α) (h : H)
 | exc (h : H)
 | bad
inductive Xy where
 | next | brk | cont
 | ret (v : Val)
noncomputable def Val.ctorIdx (x : Val) : Nat := x.casesOn 0 (fun _ => 1) (fun _ => 2) (fun _ => 3) (fun _ => 4) (fun _ => 5) (fun _ => 6) (fun _ => 7) (fun _ _ => 8) (fun _ => 9) 10
noncomputable def Cell.ctorIdx (x : Cell) : Nat := x.casesOn (fun _ => 0) (fun _ => 1) (fun _ _ => 2) 3
noncomputable def Res.ctorIdx {α} (x : Res α) : Nat := x.casesOn (fun _ _ => 0) (fun _ => 1) 2
noncomputable def Xy.ctorIdx (x : Xy) : Nat := x.casesOn 0 1 2 (fun _ => 3)
noncomputable abbrev Ls := List (Option Val)
inductive SR where
 | ok (f : Xy) (ls : Ls) (h : H)
 | exc (ls : Ls) (h : H)
 | bad
noncomputable def SR.ctorIdx (x : SR) : Nat := x.casesOn (fun _ _ _ => 0) (fun _ _ => 1) 2
inductive aau (u : Unit) where | add | sub | fdiv | mod
noncomputable abbrev vI := aau ()
noncomputable def aau.ctorIdx {u : Unit} (x : aau u) : Nat := x.casesOn 0 1 2 3
inductive aas (u : Unit) where | eq | ne | lt | le | gt | ge | is_ | jV | Ja | pQ
noncomputable abbrev qO := aas ()
noncomputable def aas.ctorIdx {u : Unit} (x : aas u) : Nat := x.casesOn 0 1 2 3 4 5 6 7 8 9
inductive aav (u : Unit) where | eX | bytes_ | pX | int_ | bool_ | Gp | Cz
noncomputable abbrev Mi := aav ()
noncomputable def aav.ctorIdx {u : Unit} (x : aav u) : Nat := x.casesOn 0 1 2 3 4 5 6
inductive aar (u : Unit) where | aO | aZ | bk | cT | mJ | iW | gq | get_ | match_ | wX | yL | sX | Fq | zY
noncomputable abbrev zM := aar ()
noncomputable def aar.ctorIdx {u : Unit} (x : aar u) : Nat := x.casesOn 0 1 2 3 4 5 6 7 8 9 10 11 12 13
set_option genInjectivity false
mutual
inductive ME where
 | bY
 | eZ (b : Bool)
 | aq (i : Int)
 | tE (s : String)
 | aj (b : Bs)
 | var (x : Nat)
 | slash
 | posix
 | bin (op : vI) (a b : ME)
 | cmp (op : qO) (a b : ME)
 | ji (o1 o2 : qO) (a b c : ME)
 | and (a b : ME)
 | or (a b : ME)
 | not (a : ME)
 | neg (i : Int)
 | ite (t a b : ME)
 | idx (a b : ME)
 | slc (a lo hi : ME)
 | attr (a : ME) (k : Nat)
 | tup (es : gw)
 | lst (es : gw)
 | dict (es : gw)
 | cI (f : Nat) (es : gw)
 | oM (c : Nat) (es : gw)
 | cg (b : Mi) (es : gw)
 | meth (a : ME) (m : zM) (es : gw)
 | comp (it : ME) (HX : Bool) (c elt : ME)
 | uE (GF kI elt : ME)
inductive gw where
 | nil
 | cons (e : ME) (es : gw)
end
inductive Tg where
 | var (x : Nat)
 | attr (a : ME) (k : Nat)
 | idx (a b : ME)
mutual
inductive MS where
 | assign (t : Tg) (e : ME)
 | assign2 (t u : Tg) (e : ME)
 | dD (ts : List Tg) (e : ME)
 | lF (xs : List Nat) (e : ME)
 | aug (x : Nat) (op : vI) (e : ME)
 | dw (t : ME) (a b : bG)
 | whl (t : ME) (b : bG)
 | uT (x : Nat) (it : ME) (b : bG)
 | sZ (xs : List Nat) (it : ME) (b : bG)
 | Dq (x : Nat) (lo hi : ME) (b : bG)
 | ret (e : ME)
 | raise (e : ME)
 | Fe (a : bG) (x : Nat)
 | expr (e : ME)
 | brk
 | cont
inductive bG where
 | nil
 | cons (s : MS) (b : bG)
end
set_option genInjectivity true
noncomputable def MS.ctorIdx (x : MS) : Nat := x.casesOn (fun _ _ => 0) (fun _ _ _ => 1) (fun _ _ => 2) (fun _ _ => 3) (fun _ _ _ => 4) (fun _ _ _ => 5) (fun _ _ => 6) (fun _ _ _ => 7) (fun _ _ _ => 8) (fun _ _ _ _ => 9) (fun _ => 10) (fun _ => 11) (fun _ _ => 12) (fun _ => 13) 14 15
noncomputable def bH : Nat := 16777216
noncomputable def clip (n : Nat) (i : Int) : Nat := if i < 0 then (i + n).toNat else min i.toNat n
noncomputable def Bd (b : Bs) (lo hi : Option Int) : Bs :=
 let l := match lo with | some i => clip b.length i | none => 0
 let h := match hi with | some i => clip b.length i | none => b.length
 (b.drop l).take (h - l)
noncomputable def vEq (u v : Val) : Option Bool := match u with
 | .int i => match v with | .int j => some (decide (i = j)) | _ => none
 | .bytes a => match v with | .bytes b => some (decide (a = b)) | _ => none
 | .str a => match v with | .str b => some (decide (a = b)) | _ => none
 | .bool a => match v with | .bool b => some (a == b) | _ => none
 | _ => none
noncomputable def vIs (u v : Val) : Option Bool := match u with
 | .none => match v with | .none => some true | .bool _ => some false | _ => none
 | .bool a => match v with | .bool b => some (a == b) | .none => some false | _ => none
 | .int _ => match v with | .none => some false | _ => none
 | .tup _ => match v with | .none => some false | _ => none
 | _ => none
noncomputable def GJ (u v : Val) : Option Bool := match u with
 | .int i => match v with | .int j => some (decide (i = j)) | _ => none
 | .bytes a => match v with | .bytes b => some (decide (a = b)) | _ => none
 | _ => none
noncomputable def dM (v : Val) : List Val -> Option Bool
 | [] => some false
 | x :: r => match GJ x v,dM v r with
  | some a,some b => some (a || b)
  | _,_ => none
noncomputable def cW : List Bs := [[97,108,110,117,109],[97,108,112,104,97],[98,108,97,110,107],[99,110,116,114,108],[100,105,103,105,116],[103,114,97,112,104],[108,111,119,101,114],[112,114,105,110,116],[112,117,110,99,116],[115,112,97,99,101],[117,112,112,101,114],[120,100,105,103,105,116]]
noncomputable def gk : List Bs := [[48,45,57,65,45,90,97,45,122],[65,45,90,97,45,122],[92,116,32],[92,120,48,48,45,92,120,49,102,92,120,55,102],[48,45,57],[33,45,46,48,45,126],[97,45,122],[32,45,46,48,45,126],[33,45,46,58,45,64,92,91,45,96,123,45,126],[92,116,92,110,92,114,32],[65,45,90],[48,45,57,65,45,70,97,45,102]]
noncomputable def bI (w : Bs) : Option Bs := (cW.zip gk).lookup w
noncomputable def in1 (a b : Bs) : Option Bool := match a with
 | [] => none
 | c :: r => match r with
  | [] => if b.length <= bH then some (b.contains c) else none
  | _ :: _ => none
noncomputable def tR (h : H) (u v : Val) : Option Bool := match v with
 | .bytes b => match u with
  | .int i => if 0 <= i /\ i < 256 then some (b.contains i.toNat.toUInt8) else none
  | .bytes a => in1 a b
  | _ => none
 | .tup vs => dM u vs
 | .lst l => match h[l]? with
  | some (.lst vs) => dM u vs
  | _ => none
 | .posix => match u with | .bytes w => some (bI w).isSome | _ => none
 | _ => none
noncomputable def v9 (u v : Val) (k : Int -> Int -> Bool) : Option Bool := match u with
 | .int i => match v with | .int j => some (k i j) | _ => none
 | _ => none
noncomputable def dR (h : H) (op : qO) (a b : Val) : Option Bool := match op with
 | .eq => vEq a b
 | .ne => (vEq a b).map not
 | .lt => v9 a b fun i j => decide (i < j)
 | .le => v9 a b fun i j => decide (i <= j)
 | .gt => v9 a b fun i j => decide (j < i)
 | .ge => v9 a b fun i j => decide (j <= i)
 | .is_ => vIs a b
 | .jV => (vIs a b).map not
 | .Ja => tR h a b
 | .pQ => (tR h a b).map not
noncomputable def truth (h : H) : Val -> Option Bool
 | .none => some false
 | .bool b => some b
 | .bytes b => if b.length <= bH then some (!b.isEmpty) else none
 | .lst l => match h[l]? with
  | some (.lst vs) => if vs.length <= bH then some (!vs.isEmpty) else none
  | _ => none
 | .lB is => if is.length <= bH then some (!is.isEmpty) else none
 | _ => none
noncomputable def gY (op : vI) (a b : Val) (h : H) : Res Val := match a with
 | .int i => match b with
  | .int j => match op with
   | .add => .ok (.int (i + j)) h
   | .sub => .ok (.int (i - j)) h
   | .fdiv => if 0 < j /\ j < 1073741824 then .ok (.int (i / j)) h else .bad
   | .mod => if 0 < j then .ok (.int (i % j)) h else .bad
  | _ => .bad
 | .bytes x => match b with
  | .bytes y => match op with
   | .add => if x.length + y.length <= bH then .ok (.bytes (x ++ y)) h else .bad
   | _ => .bad
  | _ => .bad
 | .lst l => match b with
  | .lst m => match op with
   | .add => match h[l]? with
    | some (.lst vs) => match h[m]? with
     | some (.lst ws) => if vs.length + ws.length <= bH then .ok (.lst h.length) (h ++ [.lst (vs ++ ws)]) else .bad
     | _ => .bad
    | _ => .bad
   | _ => .bad
  | _ => .bad
 | _ => .bad
noncomputable def Yo {α : Type} (vs : List α) (i : Int) : Option α := if 0 <= i then vs[i.toNat]? else if 0 <= i + vs.length then vs[(i + vs.length).toNat]? else none
noncomputable def jQ (v : Val) (k : Int -> Res Val) : Res Val := match v with
 | .int i => k i
 | _ => .bad
noncomputable def Kr (o : Option Val) (h : H) : Res Val := match o with
 | some v => .ok v h
 | none => .bad
noncomputable def bW (a b : Val) (h : H) : Res Val := match a with
 | .bytes x => jQ b fun i => if 0 <= i /\ x.length <= bH then Kr (x[i.toNat]?.map fun c => .int c.toNat) h else .bad
 | .tup vs => jQ b fun i => if 0 <= i /\ vs.length <= bH then Kr vs[i.toNat]? h else .bad
 | .lst l => jQ b fun i => match h[l]? with
  | some (.lst vs) => if vs.length <= bH then Kr (Yo vs i) h else .bad
  | _ => .bad
 | .lB is => jQ b fun i => if 0 <= i /\ is.length <= bH then Kr (is[i.toNat]?.map .int) h else .bad
 | .posix => match b with
  | .bytes w => Kr ((bI w).map .bytes) h
  | _ => .bad
 | _ => .bad
noncomputable def Ob : Val -> Option (Option Int)
 | .none => some none
 | .int i => some (some i)
 | _ => none
noncomputable def gO (a lo hi : Val) (h : H) : Res Val := match a with
 | .bytes x => match Ob lo with
  | some l => match Ob hi with
   | some u => if x.length <= bH then .ok (.bytes (Bd x l u)) h else .bad
   | none => .bad
  | none => .bad
 | _ => .bad
noncomputable def cX (x : Bs) (c : UInt8) : Bs := (x.reverse.dropWhile (· == c)).reverse
noncomputable def cU (x : Bs) (c : UInt8) (i : Nat) : Int := match (x.drop i).findIdx? (· == c) with
 | some k => ((i + k : Nat) : Int)
 | none => -1
noncomputable def air (c : UInt8) : Option Nat := if 48 <= c /\ c <= 57 then some (c.toNat - 48) else if 97 <= c /\ c <= 102 then some (c.toNat - 87) else none
noncomputable def hex2 (s : String) : Option Int := if s = "00" then some 0 else if s = "1f" then some 31 else if s = "7f" then some 127 else none
theorem Rf {P : String -> Int -> Prop} {s : String} {i : Int} (a : P "00" 0) (b : P "1f" 31) (c : P "7f" 127) (e : hex2 s = some i) : P s i := by
 unfold hex2 at e
 by_cases h : s = "00"
 ·rw [if_pos h] at e; cases e; rw [h]; exact a
 rw [if_neg h] at e
 by_cases h : s = "1f"
 ·rw [if_pos h] at e; cases e; rw [h]; exact b
 rw [if_neg h] at e
 by_cases h : s = "7f"
 ·rw [if_pos h] at e; cases e; rw [h]; exact c
 rw [if_neg h] at e; cases e
noncomputable def Z1 (b : Bs) : Option String := if b = [48,48] then some "00" else if b = [49,102] then some "1f" else if b = [55,102] then some "7f" else none
noncomputable def bytesOf : List Val -> Option Bs
 | [] => some []
 | v :: r => match v with
  | .int i => if 0 <= i /\ i < 256 then (bytesOf r).map (i.toNat.toUInt8 :: ·) else none
  | _ => none
noncomputable def pZ : List Val -> Option Bs
 | [] => some []
 | v :: r => match v with
  | .bytes b => (pZ r).map (b ++ ·)
  | _ => none
noncomputable def uP (vs : List Val) (k : Val -> Res Val) : Res Val := match vs with
 | [] => .bad
 | v :: r => match r with
  | [] => k v
  | _ :: _ => .bad
noncomputable def MJ (vs : List Val) (k : Val -> Val -> Res Val) : Res Val := match vs with
 | [] => .bad
 | v :: r => uP r (k v)
noncomputable def Cp (h : H) (v : Val) (k : Nat -> List Val -> Res Val) : Res Val := match v with
 | .lst l => match h[l]? with
  | some (.lst vs) => k l vs
  | _ => .bad
 | _ => .bad
noncomputable def aeM (v : Val) (h : H) : Res Val := match v with
 | .bytes x => if x.length <= bH then .ok (.int x.length) h else .bad
 | .lst l => match h[l]? with
  | some (.lst vs) => if vs.length <= bH then .ok (.int vs.length) h else .bad
  | _ => .bad
 | .lB is => if is.length <= bH then .ok (.int is.length) h else .bad
 | _ => .bad
noncomputable def MF (vs : List Val) (h : H) : Res Val := match bytesOf vs with
 | some x => if x.length <= bH then .ok (.bytes x) h else .bad
 | none => .bad
noncomputable def vInt (a b : Val) (h : H) : Res Val := match a with
 | .str s => jQ b fun n => if n = 16 then match hex2 s with
   | some i => .ok (.int i) h
   | none => .bad
  else .bad
 | _ => .bad
noncomputable def iU (b : Mi) (vs : List Val) (h : H) : Res Val := match b with
 | .eX => uP vs fun v => aeM v h
 | .bytes_ => uP vs fun v => Cp h v fun _ vs => MF vs h
 | .pX => uP vs fun v => Cp h v fun _ vs => if vs.length <= bH then .ok (.lst h.length) (h ++ [.lst vs]) else .bad
 | .int_ => MJ vs fun a b => vInt a b h
 | .bool_ => uP vs fun v => match v with
  | .bool b => .ok (.bool b) h
  | _ => .bad
 | .Gp => MJ vs fun a b => jQ a fun i => jQ b fun j => .ok (.int (if i < j then j else i)) h
 | .Cz => MJ vs fun a b => jQ a fun i => jQ b fun j => .ok (.int (if j < i then j else i)) h
noncomputable def lO (es : List (Bs × Val)) (w : Bs) : Val := match es.lookup w with
 | some v => v
 | none => .none
noncomputable def onBytes (v : Val) (k : Bs -> Res Val) : Res Val := match v with
 | .bytes x => k x
 | _ => .bad
noncomputable def Ks (b : Bs) (k : UInt8 -> Res Val) : Res Val := match b with
 | [] => .bad
 | c :: r => match r with
  | [] => k c
  | _ :: _ => .bad
noncomputable def abe (x : Bs) (i : Int) (c : UInt8) (h : H) : Res Val := if 0 <= i /\ i <= x.length /\ x.length <= bH then .ok (.int (cU x c i.toNat)) h else .bad
noncomputable def WQ (ws : List Val) (h : H) : Res Val := match pZ ws with
 | some x => if x.length <= bH /\ ws.length <= bH then .ok (.bytes x) h else .bad
 | none => .bad
noncomputable def gW (m : zM) (a : Val) (vs : List Val) (h : H) : Res Val := match m with
 | .aO => uP vs fun v => Cp h a fun l ws => if ws.length < bH then .ok .none (h.set l (.lst (ws ++ [v]))) else .bad
 | .aZ => uP vs fun v => onBytes a fun x => onBytes v fun y => .ok (.bool (y.isPrefixOf x)) h
 | .bk => uP vs fun v => onBytes a fun x => onBytes v fun y => .ok (.bool (y.isSuffixOf x)) h
 | .cT => uP vs fun v => onBytes a fun x => onBytes v fun y => Ks y fun c => if x.length <= bH then .ok (.bytes (cX x c)) h else .bad
 | .mJ => MJ vs fun v n => onBytes a fun x => onBytes v fun y => Ks y fun c => jQ n fun i => abe x i c h
 | .iW => uP vs fun v => onBytes a fun x => match x with
  | [] => Cp h v fun _ ws => WQ ws h
  | _ :: _ => .bad
 | .gq => match vs with
  | [] => onBytes a fun x => match Z1 x with
   | some s => .ok (.str s) h
   | none => .bad
  | _ :: _ => .bad
 | .get_ => uP vs fun v => match a with
  | .dct l => match h[l]? with
   | some (.dct es) => onBytes v fun w => .ok (lO es w) h
   | _ => .bad
  | _ => .bad
 | _ => .bad
noncomputable def wJ (v : Val) : Bool := match v with
 | .bytes _ => true
 | _ => false
noncomputable def Pu (m : zM) (a : Val) (h : H) : Bool := match m with
 | .aO => match a with
  | .lst l => match h[l]? with
   | some (.lst _) => true
   | _ => false
  | _ => false
 | .get_ => match a with
  | .dct l => match h[l]? with
   | some (.dct _) => true
   | _ => false
  | _ => false
 | .aZ => wJ a
 | .bk => wJ a
 | .cT => wJ a
 | .mJ => wJ a
 | .iW => wJ a
 | .gq => wJ a
 | _ => false
noncomputable def je (c : Nat) (m : zM) : Option Nat := match c,m with
 | 0,.sX => some 5
 | 0,.yL => some 6
 | 0,.wX => some 7
 | 0,.match_ => some 8
 | 1,.match_ => some 21
 | _,_ => none
noncomputable def initOf (c : Nat) : Nat := if c = 0 then 4 else 20
noncomputable abbrev bK := Nat -> List Val -> H -> Res Val
noncomputable def Res.bind {α β : Type} (r : Res α) (f : α -> H -> Res β) : Res β := match r with
 | .ok a h => f a h
 | .exc h => .exc h
 | .bad => .bad
noncomputable def Res.ug {α : Type} (r : Res α) : Res α := match r with
 | .exc _ => .bad
 | r => r
noncomputable def lM (o : Option Bool) (h : H) : Res Val := match o with
 | some b => .ok (.bool b) h
 | none => .bad
noncomputable def kO : List (Nat × Val) -> Nat -> Val -> List (Nat × Val)
 | [],k,v => [(k,v)]
 | (j,w) :: r,k,v => if j = k then (j,v) :: r else (j,w) :: kO r k v
inductive Src where
 | lst (l : Nat)
 | vals (vs : List Val)
noncomputable def Src.ctorIdx (x : Src) : Nat := x.casesOn (fun _ => 0) fun _ => 1
noncomputable def srcOf : Val -> Option Src
 | .tup vs => some (.vals vs)
 | .bytes x => some (.vals (x.map fun c => .int c.toNat))
 | .lst l => some (.lst l)
 | _ => none
noncomputable def lY : Val -> Option Src
 | .bytes x => some (.vals (x.map fun c => .int c.toNat))
 | .lst l => some (.lst l)
 | _ => none
noncomputable def nx (src : Src) (i : Nat) (h : H) : Option (Option Val) := match src with
 | .vals vs => some vs[i]?
 | .lst l => match h[l]? with
  | some (.lst vs) => some vs[i]?
  | _ => none
theorem JL : ∃ n : Nat,n = 100000 := ⟨_,rfl⟩
noncomputable def FUEL : Nat := Classical.choose JL
theorem bL : FUEL = 100000 := Classical.choose_spec JL
noncomputable def cH (src : Src) (f : Val -> H -> Res Unit) : Nat -> Nat -> H -> Res Unit
 | 0,_,_ => .bad
 | n + 1,i,h => match nx src i h with
  | none => .bad
  | some none => .ok () h
  | some (some x) => (f x h).bind fun _ h' => cH src f n (i + 1) h'
theorem mH {src : Src} {f : Val -> H -> Res Unit} {n i : Nat} {h : H} {x : Val} (e : nx src i h = some (some x)) : cH src f (n + 1) i h = (f x h).bind fun _ h' => cH src f n (i + 1) h' := by
 show (match nx src i h with
  | none => Res.bad
  | some none => .ok () h
  | some (some x) => (f x h).bind fun _ h => cH src f n (i + 1) h) = _
 rw [e]
theorem pC {src : Src} {f : Val -> H -> Res Unit} {n i : Nat} {h : H} (e : nx src i h = some none) : cH src f (n + 1) i h = .ok () h := by
 show (match nx src i h with
  | none => Res.bad
  | some none => .ok () h
  | some (some x) => (f x h).bind fun _ h => cH src f n (i + 1) h) = _
 rw [e]
theorem zc {src : Src} {f : Val -> H -> Res Unit} {n i : Nat} {h : H} (e : nx src i h = none) : cH src f (n + 1) i h = .bad := by
 show (match nx src i h with
  | none => Res.bad
  | some none => .ok () h
  | some (some x) => (f x h).bind fun _ h => cH src f n (i + 1) h) = _
 rw [e]
noncomputable def nD (l : Nat) (y : Val) (h : H) : Res Unit := (gW .aO (.lst l) [y] h).bind fun _ h => .ok () h
noncomputable def tv (f : H -> Res Val) : (H -> Res Val) × (H -> Res Bool) := (f,fun h => (f h).bind fun u h => match truth h u with
  | some b => .ok b h
  | none => .bad)
mutual
noncomputable def nJ (C : bK) : ME -> Ls -> (H -> Res Val) × (H -> Res Bool)
 | .bY,_ => tv fun h => .ok .none h
 | .eZ b,_ => tv fun h => .ok (.bool b) h
 | .aq i,_ => tv fun h => .ok (.int i) h
 | .tE s,_ => tv fun h => .ok (.str s) h
 | .aj b,_ => tv fun h => .ok (.bytes b) h
 | .var x,ls => tv fun h => match ls[x]? with
  | some (some v) => .ok v h
  | _ => .bad
 | .slash,_ => tv fun h => .ok (.int 47) h
 | .posix,_ => tv fun h => .ok .posix h
 | .bin op a b,ls => tv fun h => ((nJ C a ls).1 h).bind fun u h => ((nJ C b ls).1 h).bind fun v h => gY op u v h
 | .cmp op a b,ls => tv fun h => ((nJ C a ls).1 h).bind fun u h => ((nJ C b ls).1 h).bind fun v h => lM (dR h op u v) h
 | .ji o1 o2 a b c,ls => tv fun h => ((nJ C a ls).1 h).bind fun u h => ((nJ C b ls).1 h).bind fun v h => match dR h o1 u v with
  | some true => ((nJ C c ls).1 h).bind fun w h => lM (dR h o2 v w) h
  | some false => .ok (.bool false) h
  | none => .bad
 | .and a b,ls => (fun h => ((nJ C a ls).1 h).bind fun u h => match truth h u with
  | some true => (nJ C b ls).1 h
  | some false => .ok u h
  | none => .bad,fun h => ((nJ C a ls).2 h).bind fun u h => if u then (nJ C b ls).2 h else .ok false h)
 | .or a b,ls => (fun h => ((nJ C a ls).1 h).bind fun u h => match truth h u with
  | some true => .ok u h
  | some false => (nJ C b ls).1 h
  | none => .bad,fun h => ((nJ C a ls).2 h).bind fun u h => if u then .ok true h else (nJ C b ls).2 h)
 | .not a,ls => (fun h => ((nJ C a ls).1 h).bind fun u h => lM ((truth h u).map fun b => !b) h,fun h => ((nJ C a ls).2 h).bind fun b h => .ok (!b) h)
 | .neg i,_ => tv fun h => .ok (.int (-i)) h
 | .ite t a b,ls => tv fun h => ((nJ C t ls).2 h).bind fun c h => if c then (nJ C a ls).1 h else (nJ C b ls).1 h
 | .idx a b,ls => tv fun h => ((nJ C a ls).1 h).bind fun u h => ((nJ C b ls).1 h).bind fun v h => bW u v h
 | .slc a lo hi,ls => tv fun h => ((nJ C a ls).1 h).bind fun u h => ((nJ C lo ls).1 h).bind fun l h => ((nJ C hi ls).1 h).bind fun r h => gO u l r h
 | .attr a k,ls => tv fun h => ((nJ C a ls).1 h).bind fun u h => match u with
  | .inst _ l => match h[l]? with
   | some (.ns _ as) => match as.lookup k with
    | some v => .ok v h
    | none => .bad
   | _ => .bad
  | _ => .bad
 | .tup es,ls => tv fun h => (Av C es ls h).bind fun vs h => if vs.length <= bH then .ok (.tup vs) h else .bad
 | .lst es,ls => tv fun h => (Av C es ls h).bind fun vs h => if vs.length <= bH then .ok (.lst h.length) (h ++ [.lst vs]) else .bad
 | .dict es,ls => tv fun h => (ZP C es ls h).bind fun kvs h => if (kvs.map (·.1)).Nodup /\ kvs.length <= 15 /\ 0 < kvs.length then .ok (.dct h.length) (h ++ [.dct kvs]) else .bad
 | .cI f es,ls => tv fun h => (Av C es ls h).bind fun vs h => C f vs h
 | .oM c es,ls => tv fun h => (Av C es ls h).bind fun vs h => (C (initOf c) (.inst c h.length :: vs) (h ++ [.ns c []])).bind fun r h' => match r with
  | .none => .ok (.inst c h.length) h'
  | _ => .bad
 | .cg b es,ls => tv fun h => (Av C es ls h).bind fun vs h => iU b vs h
 | .meth a m es,ls => tv fun h => ((nJ C a ls).1 h).bind fun u h => match u with
  | .inst c l => match je c m,h[l]? with
   | some f,some (.ns _ _) => (Av C es ls h).bind fun vs h => C f (u :: vs) h
   | _,_ => .bad
  | _ => if Pu m u h then (Av C es ls h).bind fun vs h => gW m u vs h else .bad
 | .comp it HX c elt,ls => tv fun h => ((nJ C it ls).1 h).bind fun v h => match lY v with
  | some src => ((cH src (fun x h1 => (if HX then (nJ C c (ls ++ [some x])).2 h1 else .ok true h1).bind fun b h2 => if b then ((nJ C elt (ls ++ [some x])).1 h2).bind fun y h3 => nD h.length y h3 else .ok () h2) FUEL 0 (h ++ [.lst []])).ug).bind fun _ h' => .ok (.lst h.length) h'
  | none => .bad
 | .uE GF kI elt,ls => tv fun h => ((nJ C GF ls).1 h).bind fun v h => match lY v with
  | some src => ((cH src (fun x h1 => ((nJ C kI (ls ++ [some x,none])).1 h1).bind fun w h2 => match lY w with
    | some kJ => cH kJ (fun y h3 => ((nJ C elt (ls ++ [some x,some y])).1 h3).bind fun z h4 => nD h.length z h4) FUEL 0 h2
    | none => .bad) FUEL 0 (h ++ [.lst []])).ug).bind fun _ h' => .ok (.lst h.length) h'
  | none => .bad
noncomputable def Av (C : bK) : gw -> Ls -> H -> Res (List Val)
 | .nil,_,h => .ok [] h
 | .cons e es,ls,h => ((nJ C e ls).1 h).bind fun v h => (Av C es ls h).bind fun vs h => .ok (v :: vs) h
noncomputable def ZP (C : bK) : gw -> Ls -> H -> Res (List (Bs × Val))
 | .nil,_,h => .ok [] h
 | .cons k (.cons e es),ls,h => ((nJ C k ls).1 h).bind fun kv h => ((nJ C e ls).1 h).bind fun v h => (ZP C es ls h).bind fun r h => match kv with
  | .bytes b => .ok ((b,v) :: r) h
  | _ => .bad
 | .cons _ .nil,_,_ => .bad
end
noncomputable def aL (C : bK) (ls : Ls) (e : ME) (h : H) : Res Val := (nJ C e ls).1 h
noncomputable def jd (C : bK) (ls : Ls) (e : ME) (h : H) : Res Bool := (nJ C e ls).2 h
noncomputable def pI (C : bK) (ls : Ls) (es : gw) (h : H) : Res (List Val) := Av C es ls h
noncomputable def Ew (C : bK) (ls : Ls) (es : gw) (h : H) : Res (List (Bs × Val)) := ZP C es ls h
section
variable (C : bK) (ls : Ls)
theorem zm  (h : H) : aL C ls (.bY) h = (.ok .none h) := rfl
theorem Lf (b : Bool) (h : H) : aL C ls (.eZ b) h = (.ok (.bool b) h) := rfl
theorem Rr (i : Int) (h : H) : aL C ls (.aq i) h = (.ok (.int i) h) := rfl
theorem Rq (s : String) (h : H) : aL C ls (.tE s) h = (.ok (.str s) h) := rfl
theorem G7 (b : Bs) (h : H) : aL C ls (.aj b) h = (.ok (.bytes b) h) := rfl
theorem jE (x : Nat) (h : H) : aL C ls (.var x) h = (match ls[x]? with
  | some (some v) => .ok v h
  | _ => .bad) := rfl
theorem zf  (h : H) : aL C ls (.slash) h = (.ok (.int 47) h) := rfl
theorem zj  (h : H) : aL C ls (.posix) h = (.ok .posix h) := rfl
theorem vC (op : vI) (a b : ME) (h : H) : aL C ls (.bin op a b) h = ((aL C ls a h).bind fun u h => (aL C ls b h).bind fun v h => gY op u v h) := rfl
theorem pJ (op : qO) (a b : ME) (h : H) : aL C ls (.cmp op a b) h = ((aL C ls a h).bind fun u h => (aL C ls b h).bind fun v h => lM (dR h op u v) h) := rfl
theorem wV (o1 o2 : qO) (a b c : ME) (h : H) : aL C ls (.ji o1 o2 a b c) h = ((aL C ls a h).bind fun u h => (aL C ls b h).bind fun v h => match dR h o1 u v with
  | some true => (aL C ls c h).bind fun w h => lM (dR h o2 v w) h
  | some false => .ok (.bool false) h
  | none => .bad) := rfl
theorem Jr (a b : ME) (h : H) : aL C ls (.and a b) h = ((aL C ls a h).bind fun u h => match truth h u with
  | some true => aL C ls b h
  | some false => .ok u h
  | none => .bad) := rfl
theorem Rp (a b : ME) (h : H) : aL C ls (.or a b) h = ((aL C ls a h).bind fun u h => match truth h u with
  | some true => .ok u h
  | some false => aL C ls b h
  | none => .bad) := rfl
theorem Jo (a : ME) (h : H) : aL C ls (.not a) h = ((aL C ls a h).bind fun u h => lM ((truth h u).map fun b => !b) h) := rfl
theorem vB (i : Int) (h : H) : aL C ls (.neg i) h = (.ok (.int (-i)) h) := rfl
theorem Jp (t a b : ME) (h : H) : aL C ls (.ite t a b) h = ((jd C ls t h).bind fun c h => if c then aL C ls a h else aL C ls b h) := rfl
theorem Jq (a b : ME) (h : H) : aL C ls (.idx a b) h = ((aL C ls a h).bind fun u h => (aL C ls b h).bind fun v h => bW u v h) := rfl
theorem Aw (a lo hi : ME) (h : H) : aL C ls (.slc a lo hi) h = ((aL C ls a h).bind fun u h => (aL C ls lo h).bind fun l h => (aL C ls hi h).bind fun r h => gO u l r h) := rfl
theorem DP (a : ME) (k : Nat) (h : H) : aL C ls (.attr a k) h = ((aL C ls a h).bind fun u h => match u with
  | .inst _ l => match h[l]? with
   | some (.ns _ as) => match as.lookup k with
    | some v => .ok v h
    | none => .bad
   | _ => .bad
  | _ => .bad) := rfl
theorem Jm (es : gw) (h : H) : aL C ls (.tup es) h = ((pI C ls es h).bind fun vs h => if vs.length <= bH then .ok (.tup vs) h else .bad) := rfl
theorem rB (es : gw) (h : H) : aL C ls (.lst es) h = ((pI C ls es h).bind fun vs h => if vs.length <= bH then .ok (.lst h.length) (h ++ [.lst vs]) else .bad) := rfl
theorem DN (es : gw) (h : H) : aL C ls (.dict es) h = ((Ew C ls es h).bind fun kvs h => if (kvs.map (·.1)).Nodup /\ kvs.length <= 15 /\ 0 < kvs.length then .ok (.dct h.length) (h ++ [.dct kvs]) else .bad) := rfl
theorem zp (f : Nat) (es : gw) (h : H) : aL C ls (.cI f es) h = ((pI C ls es h).bind fun vs h => C f vs h) := rfl
theorem zq (c : Nat) (es : gw) (h : H) : aL C ls (.oM c es) h = ((pI C ls es h).bind fun vs h => (C (initOf c) (.inst c h.length :: vs) (h ++ [.ns c []])).bind fun r h' => match r with
  | .none => .ok (.inst c h.length) h'
  | _ => .bad) := rfl
theorem zu (b : Mi) (es : gw) (h : H) : aL C ls (.cg b es) h = ((pI C ls es h).bind fun vs h => iU b vs h) := rfl
theorem DK (a : ME) (m : zM) (es : gw) (h : H) : aL C ls (.meth a m es) h = ((aL C ls a h).bind fun u h => match u with
  | .inst c l => match je c m,h[l]? with
   | some f,some (.ns _ _) => (pI C ls es h).bind fun vs h => C f (u :: vs) h
   | _,_ => .bad
  | _ => if Pu m u h then (pI C ls es h).bind fun vs h => gW m u vs h else .bad) := rfl
theorem rC (it : ME) (HX : Bool) (c elt : ME) (h : H) : aL C ls (.comp it HX c elt) h = ((aL C ls it h).bind fun v h => match lY v with
  | some src => ((cH src (fun x h1 => (if HX then jd C (ls ++ [some x]) c h1 else .ok true h1).bind fun b h2 => if b then (aL C (ls ++ [some x]) elt h2).bind fun y h3 => nD h.length y h3 else .ok () h2) FUEL 0 (h ++ [.lst []])).ug).bind fun _ h' => .ok (.lst h.length) h'
  | none => .bad) := rfl
theorem tB (GF kI elt : ME) (h : H) : aL C ls (.uE GF kI elt) h = ((aL C ls GF h).bind fun v h => match lY v with
  | some src => ((cH src (fun x h1 => (aL C (ls ++ [some x,none]) kI h1).bind fun w h2 => match lY w with
    | some kJ => cH kJ (fun y h3 => (aL C (ls ++ [some x,some y]) elt h3).bind fun z h4 => nD h.length z h4) FUEL 0 h2
    | none => .bad) FUEL 0 (h ++ [.lst []])).ug).bind fun _ h' => .ok (.lst h.length) h'
  | none => .bad) := rfl
theorem Jl (a : ME) (h : H) : jd C ls (.not a) h = ((jd C ls a h).bind fun b h => .ok (!b) h) := rfl
theorem pH (a b : ME) (h : H) : jd C ls (.and a b) h = ((jd C ls a h).bind fun u h => if u then jd C ls b h else .ok false h) := rfl
theorem Ro (a b : ME) (h : H) : jd C ls (.or a b) h = ((jd C ls a h).bind fun u h => if u then .ok true h else jd C ls b h) := rfl
theorem rA  (h : H) : pI C ls (.nil) h = (.ok [] h) := rfl
theorem oJ (e : ME) (es : gw) (h : H) : pI C ls (.cons e es) h = ((aL C ls e h).bind fun v h => (pI C ls es h).bind fun vs h => .ok (v :: vs) h) := rfl
theorem Js  (h : H) : Ew C ls (.nil) h = (.ok [] h) := rfl
theorem DQ (k e : ME) (es : gw) (h : H) : Ew C ls (.cons k (.cons e es)) h = ((aL C ls k h).bind fun kv h => (aL C ls e h).bind fun v h => (Ew C ls es h).bind fun r h => match kv with
  | .bytes b => .ok ((b,v) :: r) h
  | _ => .bad) := rfl
end
noncomputable def SR.of (ls : Ls) (r : Res Val) (f : Val -> H -> SR) : SR := match r with
 | .ok v h => f v h
 | .exc h => .exc ls h
 | .bad => .bad
noncomputable def SR.ofT (ls : Ls) (r : Res Bool) (f : Bool -> H -> SR) : SR := match r with
 | .ok v h => f v h
 | .exc h => .exc ls h
 | .bad => .bad
noncomputable def putAt : Ls -> Nat -> Val -> Option Ls
 | [],_,_ => none
 | _ :: r,0,v => some (some v :: r)
 | a :: r,n + 1,v => (putAt r n v).map (a :: ·)
noncomputable def store (C : bK) (t : Tg) (v : Val) (ls : Ls) (h : H) : SR := match t with
 | .var x => match putAt ls x v with
  | some ls' => .ok .next ls' h
  | none => .bad
 | .attr a k => SR.of ls (aL C ls a h) fun u h => match u with
  | .inst _ l => match h[l]? with
   | some (.ns c as) => .ok .next ls (h.set l (.ns c (kO as k v)))
   | _ => .bad
  | _ => .bad
 | .idx a b => SR.of ls (aL C ls a h) fun u h => SR.of ls (aL C ls b h) fun i h => match u,i with
  | .lst l,.int (-1) => match h[l]? with
   | some (.lst vs) => if vs.isEmpty then .bad else .ok .next ls (h.set l (.lst (vs.dropLast ++ [v])))
   | _ => .bad
  | _,_ => .bad
noncomputable def SR.then (r : SR) (f : Ls -> H -> SR) : SR := match r with
 | .ok .next ls h => f ls h
 | r => r
noncomputable def fB (C : bK) : List Tg -> List Val -> Ls -> H -> SR
 | [],[],ls,h => .ok .next ls h
 | t :: ts,v :: vs,ls,h => (store C t v ls h).then fun ls h => fB C ts vs ls h
 | _,_,_,_ => .bad
noncomputable def SR.turn (r : SR) (k : Ls -> H -> SR) : SR := match r with
 | .ok .next ls h | .ok .cont ls h => k ls h
 | .ok .brk ls h => .ok .next ls h
 | .ok (.ret v) ls h => .ok (.ret v) ls h
 | .exc ls h => .exc ls h
 | .bad => .bad
noncomputable def vM (HX : Ls -> H -> Res Bool) (body : Ls -> H -> SR) : Nat -> Ls -> H -> SR
 | 0,_,_ => .bad
 | n + 1,ls,h => SR.ofT ls (HX ls h) fun b h => if b then (body ls h).turn fun ls h => vM HX body n ls h else .ok .next ls h
noncomputable def forL (src : Src) (put : Val -> Ls -> H -> SR) (body : Ls -> H -> SR) : Nat -> Nat -> Ls -> H -> SR
 | 0,_,_,_ => .bad
 | n + 1,i,ls,h => match nx src i h with
  | none => .bad
  | some none => .ok .next ls h
  | some (some x) => (put x ls h).then fun ls h => (body ls h).turn fun ls h => forL src put body n (i + 1) ls h
theorem Ri {src : Src} {put : Val -> Ls -> H -> SR} {body : Ls -> H -> SR} {n i : Nat} {ls : Ls} {h : H} (e : nx src i h = none) : forL src put body (n + 1) i ls h = .bad := by
 show (match nx src i h with
  | none => SR.bad
  | some none => .ok .next ls h
  | some (some x) => (put x ls h).then fun ls h => (body ls h).turn fun ls h => forL src put body n (i + 1) ls h) = _
 rw [e]
noncomputable def Wj (op : vI) (u v : Val) (x : Nat) (ls : Ls) (h : H) : SR := match op,u,v with
 | .add,.int i,.int j => .ok .next (ls.set x (some (.int (i + j)))) h
 | .add,.bytes a,.bytes b => if a.length + b.length <= bH then .ok .next (ls.set x (some (.bytes (a ++ b)))) h else .bad
 | _,_,_ => .bad
mutual
noncomputable def exS (C : bK) : MS -> Ls -> H -> SR
 | .assign t e,ls,h => SR.of ls (aL C ls e h) fun v h => store C t v ls h
 | .assign2 t u e,ls,h => SR.of ls (aL C ls e h) fun v h => (store C t v ls h).then fun ls h => store C u v ls h
 | .dD ts e,ls,h => SR.of ls (aL C ls e h) fun v h => match v with
  | .tup vs => if vs.length = ts.length then fB C ts vs ls h else .bad
  | _ => .bad
 | .lF xs e,ls,h => SR.of ls (aL C ls e h) fun v h => match v with
  | .tup vs => if vs.length = xs.length then fB C (xs.reverse.map Tg.var) vs.reverse ls h else .bad
  | _ => .bad
 | .aug x op e,ls,h => match ls[x]? with
  | some (some u) => SR.of ls (aL C ls e h) fun v h => Wj op u v x ls h
  | _ => .bad
 | .dw t a b,ls,h => SR.ofT ls (jd C ls t h) fun c h => if c then dz C a ls h else dz C b ls h
 | .whl t b,ls,h => vM (fun ls h => jd C ls t h) (fun ls h => dz C b ls h) FUEL ls h
 | .uT x it b,ls,h => SR.of ls (aL C ls it h) fun v h => match srcOf v with
  | some src => forL src (fun v ls h => store C (.var x) v ls h) (fun ls h => dz C b ls h) FUEL 0 ls h
  | none => .bad
 | .sZ xs it b,ls,h => SR.of ls (aL C ls it h) fun v h => match srcOf v with
  | some src => forL src (fun v ls h => match v with
    | .tup vs => if vs.length = xs.length then fB C (xs.map Tg.var) vs ls h else .bad
    | _ => .bad) (fun ls h => dz C b ls h) FUEL 0 ls h
  | none => .bad
 | .Dq x lo hi b,ls,h => SR.of ls (aL C ls lo h) fun u h => SR.of ls (aL C ls hi h) fun v h => match u,v with
  | .int i,.int j => if -1000000 < i /\ i < 1000000 /\ -1000000 < j /\ j < 1000000 then forL (.vals ((List.range (j - i).toNat).map fun k => .int (i + (k : Nat)))) (fun v ls h => store C (.var x) v ls h) (fun ls h => dz C b ls h) FUEL 0 ls h else .bad
  | _,_ => .bad
 | .ret e,ls,h => SR.of ls (aL C ls e h) fun v h => .ok (.ret v) ls h
 | .raise e,ls,h => SR.of ls (aL C ls e h) fun _ h => .exc ls h
 | .Fe a x,ls,h => match dz C a ls h with
  | .exc ls' h => if x < ls'.length /\ ls'.length = ls.length then .ok .next (ls'.set x (some .none)) (h.map Cell.kill) else .bad
  | r => r
 | .expr e,ls,h => SR.of ls (aL C ls e h) fun v h => match v with
  | .none => .ok .next ls h
  | _ => .bad
 | .brk,ls,h => .ok .brk ls h
 | .cont,ls,h => .ok .cont ls h
noncomputable def dz (C : bK) : bG -> Ls -> H -> SR
 | .nil,ls,h => .ok .next ls h
 | .cons s b,ls,h => (exS C s ls h).then fun ls h => dz C b ls h
end
structure FD where
 np : Nat
 dflt : List Val
 ns : Nat
 body : bG
noncomputable def cj (C : bK) (d : FD) (vs : List Val) (h : H) : Res Val :=
 if vs.length <= d.np /\ d.np <= vs.length + d.dflt.length then
  match dz C d.body ((vs ++ d.dflt.drop (vs.length + d.dflt.length - d.np)).map some ++ List.replicate (d.ns - d.np) none) h with
  | .ok (.ret v) _ h => .ok v h
  | .ok .next _ h => .ok .none h
  | .ok _ _ _ => .bad
  | .exc _ h => .exc h
  | .bad => .bad
 else .bad
theorem eO (C : bK) (x : Nat) (v : Val) (ls : Ls) (h : H) : store C (.var x) v ls h = if x < ls.length then .ok .next (ls.set x (some v)) h else .bad := by
 have q : ∀ (ls : Ls) (x : Nat),putAt ls x v = if x < ls.length then some (ls.set x (some v)) else none := by
  intro ls
  induction ls with
  | nil => intro x; rfl
  | cons a r ih =>
   intro x
   cases x with
   | zero => rfl
   | succ n =>
    show (putAt r n v).map (a :: ·) = _
    rw [ih]
    by_cases g : n < r.length
    ·rw [if_pos g,if_pos (show n + 1 < (a :: r).length from Nat.succ_lt_succ g)]; rfl
    ·rw [if_neg g,if_neg (show ¬ n + 1 < (a :: r).length from fun k => g (Nat.lt_of_succ_lt_succ k))]; rfl
 show (match putAt ls x v with
  | some ls' => SR.ok .next ls' h
  | none => .bad) = _
 rw [q]
 by_cases g : x < ls.length
 ·rw [if_pos g,if_pos g]
 ·rw [if_neg g,if_neg g]
section
variable {α : Type} {P : Prop} {a : α} {h h' : H} {f : Xy} {ls ls' : Ls}
theorem cN (e : (none : Option α) = some a) : P := by cases e
theorem SX (e : some a = none) : P := by cases e
theorem rbo (e : (Res.bad : Res α) = .ok a h) : P := by cases e
theorem reo (e : Res.exc h' = .ok a h) : P := by cases e
theorem sbo (e : SR.bad = .ok f ls h) : P := by cases e
theorem seo (e : SR.exc ls' h' = .ok f ls h) : P := by cases e
theorem qD (e : false = true) : P := by cases e
theorem tnf (e : true = false) : P := by cases e
end
section
variable {α β : Type} {G : Prop} {P : α -> Prop}
theorem pB {o : Option Cell} {f : List Val -> α} {b : α} (p : P (match o with | some (.lst vs) => f vs | _ => b)) (nb : ¬ P b) (k : ∀ vs,o = some (.lst vs) -> P (f vs) -> G) : G := by
 cases o with
 | none => exact (nb p).elim
 | some c => cases c with
  | lst vs => exact k vs rfl p
  | _ => exact (nb p).elim
theorem I9 {o : Option Cell} {f : List (Bs × Val) -> α} {b : α} (p : P (match o with | some (.dct es) => f es | _ => b)) (nb : ¬ P b) (k : ∀ es,o = some (.dct es) -> P (f es) -> G) : G := by
 cases o with
 | none => exact (nb p).elim
 | some c => cases c with
  | dct es => exact k es rfl p
  | _ => exact (nb p).elim
theorem Zq {o : Option Cell} {f : Nat -> List (Nat × Val) -> α} {b : α} (p : P (match o with | some (.ns c as) => f c as | _ => b)) (nb : ¬ P b) (k : ∀ c as,o = some (.ns c as) -> P (f c as) -> G) : G := by
 cases o with
 | none => exact (nb p).elim
 | some c => cases c with
  | ns c as => exact k c as rfl p
  | _ => exact (nb p).elim
theorem Vv {o : Option (Option Val)} {f : Val -> α} {b : α} (p : P (match o with | some (some a) => f a | _ => b)) (nb : ¬ P b) (k : ∀ a,o = some (some a) -> P (f a) -> G) : G := by
 cases o with
 | none => exact (nb p).elim
 | some a => cases a with
  | none => exact (nb p).elim
  | some a => exact k a rfl p
theorem Zo {o : Option Bool} {a b c : α} (p : P (match o with | some true => a | some false => b | none => c)) (nc : ¬ P c) (k1 : o = some true -> P a -> G) (k2 : o = some false -> P b -> G) : G := by
 cases o with
 | none => exact (nc p).elim
 | some x => cases x with
  | true => exact k1 rfl p
  | false => exact k2 rfl p
theorem yZ {v : Val} {f : Bs -> α} {b : α} (p : P (match v with | .bytes x => f x | _ => b)) (nb : ¬ P b) (k : ∀ x,v = .bytes x -> P (f x) -> G) : G := by
 cases v with
 | bytes x => exact k x rfl p
 | _ => exact (nb p).elim
theorem QT {v : Val} {f : Nat -> Nat -> α} {b : α} (p : P (match v with | .inst c l => f c l | _ => b)) (nb : ¬ P b) (k : ∀ c l,v = .inst c l -> P (f c l) -> G) : G := by
 cases v with
 | inst c l => exact k c l rfl p
 | _ => exact (nb p).elim
theorem Di {v : Val} {a b : α} (p : P (match v with | .none => a | _ => b)) (nb : ¬ P b) (k : v = .none -> P a -> G) : G := by
 cases v with
 | none => exact k rfl p
 | _ => exact (nb p).elim
theorem I8 {v : Val} {f : List Val -> α} {b : α} (p : P (match v with | .tup x => f x | _ => b)) (nb : ¬ P b) (k : ∀ x,v = .tup x -> P (f x) -> G) : G := by
 cases v with
 | tup x => exact k x rfl p
 | _ => exact (nb p).elim
theorem Zr {u v : Val} {f : Int -> Int -> α} {b : α} (p : P (match u,v with | .int i,.int j => f i j | _,_ => b)) (nb : ¬ P b) (k : ∀ i j,u = .int i -> v = .int j -> P (f i j) -> G) : G := by
 cases u with
 | int i => cases v with
  | int j => exact k i j rfl rfl p
  | _ => exact (nb p).elim
 | _ => exact (nb p).elim
theorem lN {c : Prop} [Decidable c] {a b : α} (p : P (if c then a else b)) (nb : ¬ P b) (k : c -> P a -> G) : G := by
 by_cases h : c
 ·rw [if_pos h] at p; exact k h p
 ·rw [if_neg h] at p; exact (nb p).elim
end
end Mine
end
section
open PySem PySem.W
namespace Mine
noncomputable abbrev gj : Nat := 0
noncomputable abbrev m9 : Nat := 1
noncomputable abbrev rQ : Nat := 2
noncomputable abbrev jG : Nat := 3
noncomputable abbrev rR : Nat := 4
noncomputable abbrev kh : Nat := 5
noncomputable abbrev bM : Nat := 6
noncomputable abbrev dW : Nat := 7
noncomputable abbrev j9 : Nat := 8
noncomputable abbrev rP : Nat := 9
noncomputable abbrev gJ : Nat := 10
noncomputable abbrev aU : Nat := 11
noncomputable abbrev eN : Nat := 12
noncomputable abbrev iK : Nat := 13
noncomputable abbrev fP : Nat := 14
noncomputable abbrev oX : Nat := 15
noncomputable abbrev fL : Nat := 16
noncomputable abbrev gD : Nat := 17
noncomputable abbrev bT : Nat := 18
noncomputable abbrev jk : Nat := 19
noncomputable abbrev j8 : Nat := 20
noncomputable abbrev jl : Nat := 21
noncomputable abbrev ni : Nat := 22
noncomputable abbrev oY : Nat := 23
noncomputable abbrev fK : Nat := 24
noncomputable abbrev nj : Nat := 25
noncomputable abbrev ahx : Nat := 26
noncomputable abbrev jF : Nat := 27
noncomputable def rT : bG :=
  (.cons (.assign (.var 1) (.aj []))
  (.cons (.uT 2 (.var 0) (.cons (.dw (.cmp .Ja (.var 2) (.aj [40,41,91,93,123,125,63,42,43,45,124,94,36,92,46,38,126,35,32,9,10,13,11,12])) (.cons (.aug 1 .add (.aj [92]))
  .nil) .nil)
  (.cons (.aug 1 .add (.cg .bytes_ (.cons (.lst (.cons (.var 2) .nil)) .nil)))
  .nil)))
  (.cons (.ret (.var 1))
  .nil)))
noncomputable def Sv : List Str := ["octets","out","octet"]
noncomputable def cZ : bG :=
  (.cons (.dw (.cmp .ne (.idx (.var 0) (.var 1)) (.aq 92)) (.cons (.ret (.tup (.cons (.idx (.var 0) (.var 1)) (.cons (.bin .add (.var 1) (.aq 1)) .nil))))
  .nil) .nil)
  (.cons (.dw (.cmp .eq (.idx (.var 0) (.bin .add (.var 1) (.aq 1))) (.aq 120)) (.cons (.ret (.tup (.cons (.cg .int_ (.cons (.meth (.slc (.var 0) (.bin .add (.var 1) (.aq 2)) (.bin .add (.var 1) (.aq 4))) .gq .nil) (.cons (.aq 16) .nil))) (.cons (.bin .add (.var 1) (.aq 4)) .nil))))
  .nil) .nil)
  (.cons (.dw (.cmp .eq (.idx (.var 0) (.bin .add (.var 1) (.aq 1))) (.aq 116)) (.cons (.ret (.tup (.cons (.aq 9) (.cons (.bin .add (.var 1) (.aq 2)) .nil))))
  .nil) .nil)
  (.cons (.dw (.cmp .eq (.idx (.var 0) (.bin .add (.var 1) (.aq 1))) (.aq 110)) (.cons (.ret (.tup (.cons (.aq 10) (.cons (.bin .add (.var 1) (.aq 2)) .nil))))
  .nil) .nil)
  (.cons (.dw (.cmp .eq (.idx (.var 0) (.bin .add (.var 1) (.aq 1))) (.aq 114)) (.cons (.ret (.tup (.cons (.aq 13) (.cons (.bin .add (.var 1) (.aq 2)) .nil))))
  .nil) .nil)
  (.cons (.ret (.tup (.cons (.idx (.var 0) (.bin .add (.var 1) (.aq 1))) (.cons (.bin .add (.var 1) (.aq 2)) .nil))))
  .nil))))))
noncomputable def Bj : List Str := ["text","i"]
noncomputable def dF : bG :=
  (.cons (.assign (.var 2) (.cmp .eq (.idx (.var 0) (.var 1)) (.aq 94)))
  (.cons (.dw (.var 2) (.cons (.aug 1 .add (.aq 1))
  .nil) .nil)
  (.cons (.assign (.var 3) (.lst .nil))
  (.cons (.whl (.cmp .ne (.idx (.var 0) (.var 1)) (.aq 93)) (.cons (.dD [(.var 4),(.var 1)] (.cI m9 (.cons (.var 0) (.cons (.var 1) .nil))))
  (.cons (.assign (.var 5) (.var 4))
  (.cons (.dw (.cmp .eq (.idx (.var 0) (.var 1)) (.aq 45)) (.cons (.dD [(.var 5),(.var 1)] (.cI m9 (.cons (.var 0) (.cons (.bin .add (.var 1) (.aq 1)) .nil))))
  .nil) .nil)
  (.cons (.expr (.meth (.var 3) .aO (.cons (.tup (.cons (.var 4) (.cons (.var 5) .nil))) .nil)))
  .nil)))))
  (.cons (.ret (.tup (.cons (.tup (.cons (.var 2) (.cons (.var 3) .nil))) (.cons (.bin .add (.var 1) (.aq 1)) .nil))))
  .nil)))))
noncomputable def rM : List Str := ["text","i","negated","ranges","low","high"]
noncomputable def aF : bG :=
  (.cons (.assign (.var 2) (.lst .nil))
  (.cons (.whl (.and (.cmp .lt (.var 1) (.cg .eX (.cons (.var 0) .nil))) (.cmp .ne (.idx (.var 0) (.var 1)) (.aq 41))) (.cons (.assign (.var 3) (.tE "octet"))
  (.cons (.assign (.var 4) (.tup (.cons (.eZ true) (.cons (.lst .nil) .nil))))
  (.cons (.dw (.cmp .eq (.slc (.var 0) (.var 1) (.bin .add (.var 1) (.aq 4))) (.aj [40,63,33,41])) (.cons (.assign (.var 3) (.tE "never"))
  (.cons (.aug 1 .add (.aq 4))
  .nil)) (.cons (.dw (.cmp .eq (.idx (.var 0) (.var 1)) (.aq 40)) (.cons (.assign (.var 3) (.tE "group"))
  (.cons (.dD [(.var 4),(.var 1)] (.cI jG (.cons (.var 0) (.cons (.ite (.cmp .eq (.idx (.var 0) (.bin .add (.var 1) (.aq 1))) (.aq 63)) (.bin .add (.var 1) (.aq 3)) (.bin .add (.var 1) (.aq 1))) .nil))))
  (.cons (.aug 1 .add (.aq 1))
  .nil))) (.cons (.dw (.cmp .eq (.idx (.var 0) (.var 1)) (.aq 91)) (.cons (.dD [(.var 4),(.var 1)] (.cI rQ (.cons (.var 0) (.cons (.bin .add (.var 1) (.aq 1)) .nil))))
  .nil) (.cons (.dw (.cmp .eq (.slc (.var 0) (.var 1) (.bin .add (.var 1) (.aq 2))) (.aj [92,90])) (.cons (.assign (.var 3) (.tE "end"))
  (.cons (.aug 1 .add (.aq 2))
  .nil)) (.cons (.dw (.cmp .eq (.idx (.var 0) (.var 1)) (.aq 46)) (.cons (.aug 1 .add (.aq 1))
  .nil) (.cons (.dw (.cmp .eq (.idx (.var 0) (.var 1)) (.aq 92)) (.cons (.aug 1 .add (.aq 1))
  .nil) .nil)
  (.cons (.assign (.var 4) (.tup (.cons (.eZ false) (.cons (.lst (.cons (.tup (.cons (.idx (.var 0) (.var 1)) (.cons (.idx (.var 0) (.var 1)) .nil))) .nil)) .nil))))
  (.cons (.aug 1 .add (.aq 1))
  .nil))))
  .nil))
  .nil))
  .nil))
  .nil))
  (.cons (.dD [(.var 5),(.var 6)] (.tup (.cons (.aq 1) (.cons (.aq 1) .nil))))
  (.cons (.dw (.and (.cmp .lt (.var 1) (.cg .eX (.cons (.var 0) .nil))) (.cmp .Ja (.idx (.var 0) (.var 1)) (.aj [42,43,63]))) (.cons (.assign (.var 5) (.ite (.cmp .eq (.idx (.var 0) (.var 1)) (.aq 43)) (.aq 1) (.aq 0)))
  (.cons (.assign (.var 6) (.ite (.cmp .eq (.idx (.var 0) (.var 1)) (.aq 63)) (.aq 1) .bY))
  (.cons (.aug 1 .add (.aq 1))
  (.cons (.dw (.and (.cmp .lt (.var 1) (.cg .eX (.cons (.var 0) .nil))) (.cmp .eq (.idx (.var 0) (.var 1)) (.aq 63))) (.cons (.aug 1 .add (.aq 1))
  .nil) .nil)
  .nil)))) .nil)
  (.cons (.expr (.meth (.var 2) .aO (.cons (.tup (.cons (.var 3) (.cons (.var 4) (.cons (.var 5) (.cons (.var 6) .nil))))) .nil)))
  .nil)))))))
  (.cons (.ret (.tup (.cons (.var 2) (.cons (.var 1) .nil))))
  .nil)))
noncomputable def rK : List Str := ["text","i","parts","kind","what","least","most"]
noncomputable def iD : bG :=
  (.cons (.assign (.attr (.var 0) 0) (.var 2))
  (.cons (.dD [(.attr (.var 0) 1),(.var 3)] (.cI jG (.cons (.var 1) (.cons (.ite (.cmp .eq (.slc (.var 1) .bY (.aq 5)) (.aj [40,63,109,115,41])) (.aq 5) (.aq 0)) .nil))))
  .nil))
noncomputable def lH : List Str := ["self","text","ignorecase","_"]
noncomputable def aK : bG :=
  (.cons (.dD [(.var 3),(.var 4)] (.var 1))
  (.cons (.assign (.var 5) (.lst (.cons (.var 2) .nil)))
  (.cons (.dw (.and (.attr (.var 0) 0) (.ji .le .le (.aq 65) (.var 2) (.aq 90))) (.cons (.expr (.meth (.var 5) .aO (.cons (.bin .add (.var 2) (.aq 32)) .nil)))
  .nil) .nil)
  (.cons (.dw (.and (.attr (.var 0) 0) (.ji .le .le (.aq 97) (.var 2) (.aq 122))) (.cons (.expr (.meth (.var 5) .aO (.cons (.bin .sub (.var 2) (.aq 32)) .nil)))
  .nil) .nil)
  (.cons (.sZ [6,7] (.var 4) (.cons (.uT 8 (.var 5) (.cons (.dw (.ji .le .le (.var 6) (.var 8) (.var 7)) (.cons (.ret (.not (.var 3)))
  .nil) .nil)
  .nil))
  .nil))
  (.cons (.ret (.var 3))
  .nil))))))
noncomputable def j7 : List Str := ["self","what","octet","negated","ranges","octets","low","high","one"]
noncomputable def bO : bG :=
  (.cons (.dw (.cmp .eq (.var 1) (.tE "group")) (.cons (.ret (.meth (.var 0) .wX (.cons (.var 2) (.cons (.var 3) (.cons (.var 4) .nil)))))
  .nil) .nil)
  (.cons (.dw (.cmp .eq (.var 1) (.tE "end")) (.cons (.ret (.comp (.var 4) true (.cmp .eq (.var 5) (.cg .eX (.cons (.var 3) .nil))) (.var 5)))
  .nil) .nil)
  (.cons (.dw (.cmp .eq (.var 1) (.tE "never")) (.cons (.ret (.lst .nil))
  .nil) .nil)
  (.cons (.ret (.comp (.var 4) true (.and (.cmp .lt (.var 5) (.cg .eX (.cons (.var 3) .nil))) (.meth (.var 0) .sX (.cons (.var 2) (.cons (.idx (.var 3) (.var 5)) .nil)))) (.bin .add (.var 5) (.aq 1))))
  .nil))))
noncomputable def lG : List Str := ["self","kind","what","name","places"]
noncomputable def aV : bG :=
  (.cons (.sZ [4,5,6,7] (.var 1) (.cons (.assign (.var 8) (.ite (.cmp .eq (.var 6) (.aq 0)) (.cg .pX (.cons (.var 3) .nil)) (.lst .nil)))
  (.cons (.assign (.var 9) (.cg .pX (.cons (.var 3) .nil)))
  (.cons (.assign (.var 10) (.aq 0))
  (.cons (.whl (.and (.var 9) (.or (.cmp .is_ (.var 7) .bY) (.cmp .lt (.var 10) (.var 7)))) (.cons (.aug 10 .add (.aq 1))
  (.cons (.assign (.var 11) (.lst .nil))
  (.cons (.uT 12 (.meth (.var 0) .yL (.cons (.var 4) (.cons (.var 5) (.cons (.var 2) (.cons (.var 9) .nil))))) (.cons (.dw (.and (.cmp .pQ (.var 12) (.var 8)) (.cmp .pQ (.var 12) (.var 11))) (.cons (.expr (.meth (.var 11) .aO (.cons (.var 12) .nil)))
  .nil) .nil)
  .nil))
  (.cons (.assign (.var 8) (.bin .add (.var 8) (.var 11)))
  (.cons (.assign (.var 9) (.var 11))
  .nil))))))
  (.cons (.assign (.var 3) (.var 8))
  .nil))))))
  (.cons (.ret (.var 3))
  .nil))
noncomputable def lJ : List Str := ["self","parts","name","places","kind","what","least","most","done","now","many","fresh","place"]
noncomputable def gU : bG :=
  (.cons (.ret (.cmp .gt (.cg .eX (.cons (.meth (.var 0) .wX (.cons (.attr (.var 0) 1) (.cons (.var 1) (.cons (.lst (.cons (.aq 0) .nil)) .nil)))) .nil)) (.aq 0)))
  .nil)
noncomputable def j6 : List Str := ["self","name"]
noncomputable def jc : bG :=
  (.cons (.assign (.var 1) (.lst .nil))
  (.cons (.sZ [2,3] (.var 0) (.cons (.sZ [4,5] (.tup (.cons (.tup (.cons (.var 2) (.cons (.cg .Cz (.cons (.var 3) (.cons (.bin .sub .slash (.aq 1)) .nil))) .nil))) (.cons (.tup (.cons (.cg .Gp (.cons (.var 2) (.cons (.bin .add .slash (.aq 1)) .nil))) (.cons (.var 3) .nil))) .nil))) (.cons (.dw (.cmp .gt (.var 4) (.var 5)) (.cons .cont
  .nil) .nil)
  (.cons (.assign (.var 6) (.cI gj (.cons (.cg .bytes_ (.cons (.lst (.cons (.var 4) .nil)) .nil)) .nil)))
  (.cons (.dw (.cmp .ne (.var 4) (.var 5)) (.cons (.aug 6 .add (.bin .add (.aj [45]) (.cI gj (.cons (.cg .bytes_ (.cons (.lst (.cons (.var 5) .nil)) .nil)) .nil))))
  .nil) .nil)
  (.cons (.expr (.meth (.var 1) .aO (.cons (.var 6) .nil)))
  .nil)))))
  .nil))
  (.cons (.ret (.meth (.aj []) .iW (.cons (.var 1) .nil)))
  .nil)))
noncomputable def Er : List Str := ["members","out","low","high","a","b","piece"]
noncomputable def cO : bG :=
  (.cons (.assign (.var 4) (.bin .add (.var 1) (.aq 2)))
  (.cons (.assign (.var 5) (.var 4))
  (.cons (.whl (.and (.cmp .lt (.var 5) (.cg .eX (.cons (.var 0) .nil))) (.cmp .ne (.slc (.var 0) (.var 5) (.bin .add (.var 5) (.aq 1))) (.aj [93]))) (.cons (.aug 5 .add (.aq 1))
  .nil))
  (.cons (.dw (.cmp .ge (.var 5) (.cg .eX (.cons (.var 0) .nil))) (.cons (.raise (.var 0))
  .nil) .nil)
  (.cons (.dw (.or (.cmp .eq (.var 5) (.var 4)) (.cmp .ne (.slc (.var 0) (.bin .sub (.var 5) (.aq 1)) (.var 5)) (.aj [58]))) (.cons (.expr (.meth (.var 2) .aO (.cons (.tup (.cons (.aq 91) (.cons (.aq 91) .nil))) .nil)))
  (.cons (.ret (.tup (.cons (.bin .sub (.var 4) (.aq 2)) (.cons (.aq 91) .nil))))
  .nil)) .nil)
  (.cons (.dw (.cmp .pQ (.slc (.var 0) (.var 4) (.bin .sub (.var 5) (.aq 1))) .posix) (.cons (.raise (.var 0))
  .nil) .nil)
  (.cons (.expr (.meth (.var 3) .aO (.cons (.idx .posix (.slc (.var 0) (.var 4) (.bin .sub (.var 5) (.aq 1)))) .nil)))
  (.cons (.ret (.tup (.cons (.var 5) (.cons .bY .nil))))
  .nil))))))))
noncomputable def qd : List Str := ["pattern","i","members","classes","start","j"]
noncomputable def ak : bG :=
  (.cons (.assign (.var 2) (.cg .eX (.cons (.var 0) .nil)))
  (.cons (.assign (.var 3) (.cmp .Ja (.slc (.var 0) (.var 1) (.bin .add (.var 1) (.aq 1))) (.tup (.cons (.aj [33]) (.cons (.aj [94]) .nil)))))
  (.cons (.dw (.var 3) (.cons (.aug 1 .add (.aq 1))
  .nil) .nil)
  (.cons (.assign (.var 4) (.lst .nil))
  (.cons (.assign (.var 5) (.lst .nil))
  (.cons (.assign (.var 6) .bY)
  (.cons (.assign (.var 7) (.eZ true))
  (.cons (.whl (.eZ true) (.cons (.dw (.cmp .ge (.var 1) (.var 2)) (.cons (.raise (.var 0))
  .nil) .nil)
  (.cons (.assign (.var 8) (.slc (.var 0) (.var 1) (.bin .add (.var 1) (.aq 1))))
  (.cons (.dw (.and (.cmp .eq (.var 8) (.aj [93])) (.not (.var 7))) (.cons .brk
  .nil) .nil)
  (.cons (.assign (.var 7) (.eZ false))
  (.cons (.dw (.cmp .eq (.var 8) (.aj [92])) (.cons (.aug 1 .add (.aq 1))
  (.cons (.dw (.cmp .ge (.var 1) (.var 2)) (.cons (.raise (.var 0))
  .nil) .nil)
  (.cons (.assign (.var 6) (.idx (.var 0) (.var 1)))
  (.cons (.expr (.meth (.var 4) .aO (.cons (.tup (.cons (.var 6) (.cons (.var 6) .nil))) .nil)))
  .nil)))) (.cons (.dw (.and (.cmp .eq (.var 8) (.aj [45])) (.and (.cmp .jV (.var 6) .bY) (.and (.cmp .lt (.bin .add (.var 1) (.aq 1)) (.var 2)) (.cmp .ne (.slc (.var 0) (.bin .add (.var 1) (.aq 1)) (.bin .add (.var 1) (.aq 2))) (.aj [93]))))) (.cons (.aug 1 .add (.aq 1))
  (.cons (.dw (.cmp .eq (.slc (.var 0) (.var 1) (.bin .add (.var 1) (.aq 1))) (.aj [92])) (.cons (.aug 1 .add (.aq 1))
  (.cons (.dw (.cmp .ge (.var 1) (.var 2)) (.cons (.raise (.var 0))
  .nil) .nil)
  .nil)) .nil)
  (.cons (.dw (.cmp .le (.var 6) (.idx (.var 0) (.var 1))) (.cons (.assign (.idx (.var 4) (.neg 1)) (.tup (.cons (.var 6) (.cons (.idx (.var 0) (.var 1)) .nil))))
  .nil) .nil)
  (.cons (.assign (.var 6) .bY)
  .nil)))) (.cons (.dw (.and (.cmp .eq (.var 8) (.aj [91])) (.cmp .eq (.slc (.var 0) (.bin .add (.var 1) (.aq 1)) (.bin .add (.var 1) (.aq 2))) (.aj [58]))) (.cons (.dD [(.var 1),(.var 6)] (.cI gJ (.cons (.var 0) (.cons (.var 1) (.cons (.var 4) (.cons (.var 5) .nil))))))
  .nil) (.cons (.assign (.var 6) (.idx (.var 0) (.var 1)))
  (.cons (.expr (.meth (.var 4) .aO (.cons (.tup (.cons (.var 6) (.cons (.var 6) .nil))) .nil)))
  .nil)))
  .nil))
  .nil))
  (.cons (.aug 1 .add (.aq 1))
  .nil)))))))
  (.cons (.assign (.var 9) (.bin .add (.cI rP (.cons (.var 4) .nil)) (.meth (.aj []) .iW (.cons (.var 5) .nil))))
  (.cons (.dw (.var 3) (.cons (.ret (.tup (.cons (.bin .add (.var 1) (.aq 1)) (.cons (.bin .add (.bin .add (.aj [91,94,47]) (.var 9)) (.aj [93])) .nil))))
  .nil) .nil)
  (.cons (.dw (.not (.var 9)) (.cons (.ret (.tup (.cons (.bin .add (.var 1) (.aq 1)) (.cons (.aj [40,63,33,41]) .nil))))
  .nil) .nil)
  (.cons (.ret (.tup (.cons (.bin .add (.var 1) (.aq 1)) (.cons (.bin .add (.bin .add (.aj [91]) (.var 9)) (.aj [93])) .nil))))
  .nil))))))))))))
noncomputable def eV : List Str := ["pattern","i","n","negated","members","classes","prev","first","c","body"]
noncomputable def aW : bG :=
  (.cons (.dw (.cmp .eq (.var 0) (.aj [42])) (.cons (.ret (.aj [91,94,47,93,43]))
  .nil) .nil)
  (.cons (.assign (.var 1) (.aj []))
  (.cons (.lF [2,3] (.tup (.cons (.aq 0) (.cons (.cg .eX (.cons (.var 0) .nil)) .nil))))
  (.cons (.whl (.cmp .lt (.var 2) (.var 3)) (.cons (.assign (.var 4) (.slc (.var 0) (.var 2) (.bin .add (.var 2) (.aq 1))))
  (.cons (.aug 2 .add (.aq 1))
  (.cons (.dw (.cmp .eq (.var 4) (.aj [42])) (.cons (.whl (.and (.cmp .lt (.var 2) (.var 3)) (.cmp .eq (.slc (.var 0) (.var 2) (.bin .add (.var 2) (.aq 1))) (.aj [42]))) (.cons (.aug 2 .add (.aq 1))
  .nil))
  (.cons (.aug 1 .add (.aj [91,94,47,93,42]))
  .nil)) (.cons (.dw (.cmp .eq (.var 4) (.aj [63])) (.cons (.aug 1 .add (.aj [91,94,47,93]))
  .nil) (.cons (.dw (.cmp .eq (.var 4) (.aj [92])) (.cons (.dw (.cmp .lt (.var 2) (.var 3)) (.cons (.aug 1 .add (.cI gj (.cons (.slc (.var 0) (.var 2) (.bin .add (.var 2) (.aq 1))) .nil)))
  (.cons (.aug 2 .add (.aq 1))
  .nil)) (.cons (.aug 1 .add (.cI gj (.cons (.var 4) .nil)))
  .nil))
  .nil) (.cons (.dw (.cmp .eq (.var 4) (.aj [91])) (.cons (.dD [(.var 2),(.var 5)] (.cI aU (.cons (.var 0) (.cons (.var 2) .nil))))
  (.cons (.aug 1 .add (.var 5))
  .nil)) (.cons (.aug 1 .add (.cI gj (.cons (.var 4) .nil)))
  .nil))
  .nil))
  .nil))
  .nil))
  .nil))))
  (.cons (.ret (.var 1))
  .nil)))))
noncomputable def ju : List Str := ["segment","res","i","n","c","bracket"]
noncomputable def aJ : bG :=
  (.cons (.dw (.cmp .pQ (.aj [91]) (.var 0)) (.cons (.ret (.meth (.var 0) .Fq (.cons (.aj [47]) .nil)))
  .nil) .nil)
  (.cons (.assign (.var 1) (.lst .nil))
  (.cons (.assign2 (.var 2) (.var 3) (.aq 0))
  (.cons (.whl (.cmp .lt (.var 3) (.cg .eX (.cons (.var 0) .nil))) (.cons (.assign (.var 4) (.slc (.var 0) (.var 3) (.bin .add (.var 3) (.aq 1))))
  (.cons (.dw (.and (.cmp .eq (.var 4) (.aj [92])) (.cmp .lt (.bin .add (.var 3) (.aq 1)) (.cg .eX (.cons (.var 0) .nil)))) (.cons (.aug 3 .add (.aq 2))
  .nil) (.cons (.dw (.cmp .eq (.var 4) (.aj [91])) (.cons (.dD [(.var 3),(.var 5)] (.cI aU (.cons (.var 0) (.cons (.bin .add (.var 3) (.aq 1)) .nil))))
  .nil) (.cons (.dw (.cmp .eq (.var 4) (.aj [47])) (.cons (.expr (.meth (.var 1) .aO (.cons (.slc (.var 0) (.var 2) (.var 3)) .nil)))
  (.cons (.assign (.var 2) (.bin .add (.var 3) (.aq 1)))
  .nil)) .nil)
  (.cons (.aug 3 .add (.aq 1))
  .nil)))
  .nil))
  .nil)))
  (.cons (.expr (.meth (.var 1) .aO (.cons (.slc (.var 0) (.var 2) .bY) .nil)))
  (.cons (.ret (.var 1))
  .nil))))))
noncomputable def mL : List Str := ["pat","segments","start","i","c","_bracket"]
noncomputable def bN : bG :=
  (.cons (.assign (.var 1) (.lst .nil))
  (.cons (.uT 2 (.var 0) (.cons (.dw (.and (.cmp .eq (.var 2) (.aj [42,42])) (.and (.var 1) (.cmp .eq (.idx (.var 1) (.neg 1)) (.aj [42,42])))) (.cons .cont
  .nil) .nil)
  (.cons (.expr (.meth (.var 1) .aO (.cons (.var 2) .nil)))
  .nil)))
  (.cons (.ret (.var 1))
  .nil)))
noncomputable def fO : List Str := ["segments","collapsed","segment"]
noncomputable def dH : bG :=
  (.cons (.dw (.cmp .eq (.var 0) (.aj [42,42])) (.cons (.ret (.aj [46,42]))
  .nil) .nil)
  (.cons (.assign (.var 1) (.aj []))
  (.cons (.assign (.var 2) (.cI fP (.cons (.cI iK (.cons (.var 0) .nil)) .nil)))
  (.cons (.assign (.var 3) (.aq 0))
  (.cons (.whl (.cmp .lt (.var 3) (.cg .eX (.cons (.var 2) .nil))) (.cons (.assign (.var 4) (.idx (.var 2) (.var 3)))
  (.cons (.dw (.and (.cmp .gt (.var 3) (.aq 0)) (.cmp .ne (.idx (.var 2) (.bin .sub (.var 3) (.aq 1))) (.aj [42,42]))) (.cons (.aug 1 .add (.cI gj (.cons (.aj [47]) .nil)))
  .nil) .nil)
  (.cons (.dw (.cmp .eq (.var 4) (.aj [42,42])) (.cons (.assign (.var 5) (.cI jF (.cons (.var 2) (.cons (.var 3) .nil))))
  (.cons (.aug 1 .add (.var 5))
  (.cons (.dw (.cmp .eq (.var 5) (.aj [46,42])) (.cons .brk
  .nil) .nil)
  .nil))) (.cons (.aug 1 .add (.cI eN (.cons (.var 4) .nil)))
  .nil))
  (.cons (.aug 3 .add (.aq 1))
  .nil)))))
  (.cons (.ret (.var 1))
  .nil))))))
noncomputable def uL : List Str := ["pat","res","segments","i","segment","regex_part"]
noncomputable def cV : bG :=
  (.cons (.ret (.cI oX (.cons (.var 0) .nil)))
  .nil)
noncomputable def iG : List Str := ["pattern"]
noncomputable def dO : bG :=
  (.cons (.dw (.meth (.var 0) .aZ (.cons (.aj [47,42,42,47]) .nil)) (.cons (.ret (.tup (.cons (.slc (.var 0) (.aq 4) .bY) (.cons (.aj [40,46,42,47,41,63]) .nil))))
  .nil) (.cons (.dw (.meth (.var 0) .aZ (.cons (.aj [42,42,47]) .nil)) (.cons (.ret (.tup (.cons (.slc (.var 0) (.aq 3) .bY) (.cons (.aj [40,46,42,47,41,63]) .nil))))
  .nil) (.cons (.dw (.meth (.var 0) .aZ (.cons (.aj [47]) .nil)) (.cons (.ret (.tup (.cons (.slc (.var 0) (.aq 1) .bY) (.cons (.aj []) .nil))))
  .nil) (.cons (.ret (.tup (.cons (.var 0) (.cons (.aj []) .nil))))
  .nil))
  .nil))
  .nil))
  .nil)
noncomputable def gB : List Str := ["pat","res"]
noncomputable def bF : bG :=
  (.cons (.assign (.var 1) (.aj [40,63,109,115,41]))
  (.cons (.dw (.cmp .pQ (.aj [47]) (.slc (.var 0) .bY (.neg 1))) (.cons (.aug 1 .add (.aj [40,46,42,47,41,63]))
  .nil) .nil)
  (.cons (.dD [(.var 0),(.var 2)] (.cI gD (.cons (.var 0) (.cons (.var 1) .nil))))
  (.cons (.dw (.var 2) (.cons (.aug 1 .add (.var 2))
  .nil) .nil)
  (.cons (.aug 1 .add (.cI fL (.cons (.var 0) .nil)))
  (.cons (.dw (.not (.meth (.var 0) .bk (.cons (.aj [47]) .nil))) (.cons (.aug 1 .add (.aj [47,63]))
  .nil) .nil)
  (.cons (.ret (.bin .add (.var 1) (.aj [92,90])))
  .nil)))))))
noncomputable def j4 : List Str := ["pat","res","prefix_added"]
noncomputable def dj : bG :=
  (.cons (.ret (.meth (.oM 1 (.cons (.var 1) (.cons (.var 2) .nil))) .match_ (.cons (.var 0) .nil)))
  .nil)
noncomputable def nO : List Str := ["path","pattern","ignorecase"]
noncomputable def bU : bG :=
  (.cons (.assign (.attr (.var 0) 2) (.var 1))
  (.cons (.assign (.attr (.var 0) 0) (.var 2))
  (.cons (.dw (.meth (.var 1) .aZ (.cons (.aj [33]) .nil)) (.cons (.assign (.attr (.var 0) 3) (.eZ false))
  (.cons (.assign (.var 1) (.slc (.var 1) (.aq 1) .bY))
  .nil)) (.cons (.dw (.and (.meth (.var 1) .aZ (.cons (.aj [92]) .nil)) (.and (.cmp .gt (.cg .eX (.cons (.var 1) .nil)) (.aq 1)) (.cmp .Ja (.slc (.var 1) (.aq 1) (.aq 2)) (.tup (.cons (.aj [33]) (.cons (.aj [35]) .nil)))))) (.cons (.assign (.var 1) (.slc (.var 1) (.aq 1) .bY))
  .nil) .nil)
  (.cons (.assign (.attr (.var 0) 3) (.eZ true))
  .nil)))
  (.cons (.assign (.attr (.var 0) 4) (.meth (.var 1) .bk (.cons (.aj [47]) .nil)))
  (.cons (.assign (.attr (.var 0) 5) (.not (.meth (.var 1) .cT (.cons (.aj [47]) .nil))))
  (.cons (.assign (.attr (.var 0) 6) (.oM 0 (.cons (.cI bT (.cons (.var 1) .nil)) (.cons (.attr (.var 0) 0) .nil))))
  (.cons (.assign (.attr (.var 0) 7) (.oM 0 (.cons (.cI bT (.cons (.meth (.var 1) .cT (.cons (.aj [47]) .nil)) .nil)) (.cons (.attr (.var 0) 0) .nil))))
  (.cons (.assign (.attr (.var 0) 8) (.or (.meth (.meth (.var 1) .cT (.cons (.aj [47]) .nil)) .bk (.cons (.aj [47,42]) .nil)) (.meth (.meth (.var 1) .cT (.cons (.aj [47]) .nil)) .bk (.cons (.aj [47,42,42]) .nil))))
  .nil))))))))
noncomputable def j5 : List Str := ["self","pattern","ignorecase"]
noncomputable def jm : bG :=
  (.cons (.dw (.attr (.var 0) 5) (.cons (.ret (.eZ false))
  .nil) .nil)
  (.cons (.dw (.and (.attr (.var 0) 4) (.and (.not (.attr (.var 0) 3)) (.not (.meth (.var 1) .bk (.cons (.aj [47]) .nil))))) (.cons (.ret (.eZ false))
  .nil) .nil)
  (.cons (.dw (.meth (.attr (.var 0) 6) .match_ (.cons (.var 1) .nil)) (.cons (.ret (.eZ true))
  .nil) .nil)
  (.cons (.dw (.and (.attr (.var 0) 4) (.and (.attr (.var 0) 3) (.and (.not (.meth (.var 1) .bk (.cons (.aj [47]) .nil))) (.cmp .Ja (.aj [47]) (.var 1))))) (.cons (.ret (.cg .bool_ (.cons (.meth (.attr (.var 0) 6) .match_ (.cons (.bin .add (.idx (.meth (.var 1) .zY (.cons (.aj [47]) (.cons (.aq 1) .nil))) (.aq 0)) (.aj [47])) .nil)) .nil)))
  .nil) .nil)
  (.cons (.ret (.eZ false))
  .nil)))))
noncomputable def nQ : List Str := ["self","path"]
noncomputable def nq : bG :=
  (.cons (.ret (.lst (.cons (.aj [97]) (.cons (.aj [99]) (.cons (.aj [122]) (.cons (.aj [65]) (.cons (.aj [45]) (.cons (.aj [48]) (.cons (.aj [57]) (.cons (.aj [33]) (.cons (.aj [94]) (.cons (.aj [93]) (.cons (.aj [92]) (.cons (.aj [47]) (.cons (.aj [58]) (.cons (.aj [91]) (.cons (.aj [91,58,97,108,112,104,97,58,93]) (.cons (.aj [91,58,112,117,110,99,116,58,93]) (.cons (.aj [91,58,115,112,97,99,101,58,93]) (.cons (.aj [91,58,99,110,116,114,108,58,93]) (.cons (.aj [95]) (.cons (.aj [255]) (.cons (.aj [91,58,100,105,103,105,116,58,93]) (.cons (.aj [91,58,102,111,111,58,93]) (.cons (.aj [91,58,117,112,112,101,114,58,93]) (.cons (.aj [91,58,120,100,105,103,105,116,58,93]) (.cons (.aj [32]) (.cons (.aj [45]) (.cons (.aj [92]) (.cons (.aj [91,58,103,114,97,112,104,58,93]) (.cons (.aj [91,58,108,111,119,101,114,58,93]) (.cons (.aj [91,58,97,108,110,117,109,58,93]) (.cons (.aj [91,58,98,108,97,110,107,58,93]) (.cons (.aj [91,58,112,114,105,110,116,58,93]) (.cons (.aj [97,45]) (.cons (.aj [91,58]) (.cons (.aj [46]) .nil)))))))))))))))))))))))))))))))))))))
  .nil)
noncomputable def Bk : List Str := []
noncomputable def fj : bG :=
  (.cons (.assign (.var 2) (.ji .le .le (.aq 65) (.var 1) (.aq 90)))
  (.cons (.assign (.var 3) (.ji .le .le (.aq 97) (.var 1) (.aq 122)))
  (.cons (.assign (.var 4) (.ji .le .le (.aq 48) (.var 1) (.aq 57)))
  (.cons (.assign (.var 5) (.dict (.cons (.aj [97,108,110,117,109]) (.cons (.or (.var 2) (.or (.var 3) (.var 4))) (.cons (.aj [97,108,112,104,97]) (.cons (.or (.var 2) (.var 3)) (.cons (.aj [98,108,97,110,107]) (.cons (.or (.cmp .eq (.var 1) (.aq 32)) (.cmp .eq (.var 1) (.aq 9))) (.cons (.aj [99,110,116,114,108]) (.cons (.or (.cmp .lt (.var 1) (.aq 32)) (.cmp .eq (.var 1) (.aq 127))) (.cons (.aj [100,105,103,105,116]) (.cons (.var 4) (.cons (.aj [103,114,97,112,104]) (.cons (.ji .lt .lt (.aq 32) (.var 1) (.aq 127)) (.cons (.aj [108,111,119,101,114]) (.cons (.var 3) (.cons (.aj [112,114,105,110,116]) (.cons (.ji .le .lt (.aq 32) (.var 1) (.aq 127)) (.cons (.aj [112,117,110,99,116]) (.cons (.and (.ji .lt .lt (.aq 32) (.var 1) (.aq 127)) (.not (.or (.var 2) (.or (.var 3) (.var 4))))) (.cons (.aj [115,112,97,99,101]) (.cons (.cmp .Ja (.var 1) (.lst (.cons (.aq 9) (.cons (.aq 10) (.cons (.aq 13) (.cons (.aq 32) .nil)))))) (.cons (.aj [117,112,112,101,114]) (.cons (.var 2) (.cons (.aj [120,100,105,103,105,116]) (.cons (.or (.var 4) (.or (.ji .le .le (.aq 65) (.var 1) (.aq 70)) (.ji .le .le (.aq 97) (.var 1) (.aq 102)))) .nil))))))))))))))))))))))))))
  (.cons (.ret (.meth (.var 5) .get_ (.cons (.var 0) .nil)))
  .nil)))))
noncomputable def uM : List Str := ["word","c","upper","lower","digit","table"]
noncomputable def aM : bG :=
  (.cons (.assign (.var 3) (.cmp .Ja (.slc (.var 0) (.var 1) (.bin .add (.var 1) (.aq 1))) (.lst (.cons (.aj [33]) (.cons (.aj [94]) .nil)))))
  (.cons (.dw (.var 3) (.cons (.aug 1 .add (.aq 1))
  .nil) .nil)
  (.cons (.assign (.var 4) (.var 1))
  (.cons (.assign (.var 5) .bY)
  (.cons (.assign (.var 6) (.eZ false))
  (.cons (.whl (.and (.cmp .lt (.var 1) (.cg .eX (.cons (.var 0) .nil))) (.or (.cmp .ne (.idx (.var 0) (.var 1)) (.aq 93)) (.cmp .eq (.var 1) (.var 4)))) (.cons (.assign (.var 7) (.idx (.var 0) (.var 1)))
  (.cons (.assign (.var 8) (.cmp .eq (.var 7) (.aq 92)))
  (.cons (.dw (.var 8) (.cons (.aug 1 .add (.aq 1))
  (.cons (.dw (.cmp .eq (.var 1) (.cg .eX (.cons (.var 0) .nil))) (.cons (.ret .bY)
  .nil) .nil)
  (.cons (.assign (.var 7) (.idx (.var 0) (.var 1)))
  .nil))) .nil)
  (.cons (.dw (.and (.not (.var 8)) (.and (.cmp .eq (.var 7) (.aq 45)) (.and (.cmp .jV (.var 5) .bY) (.and (.cmp .lt (.bin .add (.var 1) (.aq 1)) (.cg .eX (.cons (.var 0) .nil))) (.cmp .ne (.idx (.var 0) (.bin .add (.var 1) (.aq 1))) (.aq 93)))))) (.cons (.aug 1 .add (.ite (.cmp .eq (.idx (.var 0) (.bin .add (.var 1) (.aq 1))) (.aq 92)) (.aq 2) (.aq 1)))
  (.cons (.dw (.cmp .eq (.var 1) (.cg .eX (.cons (.var 0) .nil))) (.cons (.ret .bY)
  .nil) .nil)
  (.cons (.assign (.var 6) (.or (.var 6) (.ji .le .le (.var 5) (.var 2) (.idx (.var 0) (.var 1)))))
  (.cons (.assign (.var 5) .bY)
  .nil)))) (.cons (.dw (.and (.not (.var 8)) (.cmp .eq (.slc (.var 0) (.var 1) (.bin .add (.var 1) (.aq 2))) (.aj [91,58]))) (.cons (.assign (.var 9) (.meth (.var 0) .mJ (.cons (.aj [93]) (.cons (.bin .add (.var 1) (.aq 2)) .nil))))
  (.cons (.dw (.cmp .lt (.var 9) (.aq 0)) (.cons (.ret .bY)
  .nil) .nil)
  (.cons (.dw (.or (.cmp .eq (.var 9) (.bin .add (.var 1) (.aq 2))) (.cmp .ne (.idx (.var 0) (.bin .sub (.var 9) (.aq 1))) (.aq 58))) (.cons (.assign (.var 6) (.or (.var 6) (.cmp .eq (.var 2) (.aq 91))))
  (.cons (.assign (.var 5) (.aq 91))
  .nil)) (.cons (.assign (.var 10) (.cI oY (.cons (.slc (.var 0) (.bin .add (.var 1) (.aq 2)) (.bin .sub (.var 9) (.aq 1))) (.cons (.var 2) .nil))))
  (.cons (.dw (.cmp .is_ (.var 10) .bY) (.cons (.ret .bY)
  .nil) .nil)
  (.cons (.assign (.var 6) (.or (.var 6) (.var 10)))
  (.cons (.assign (.var 5) .bY)
  (.cons (.assign (.var 1) (.var 9))
  .nil))))))
  .nil))) (.cons (.assign (.var 6) (.or (.var 6) (.cmp .eq (.var 2) (.var 7))))
  (.cons (.assign (.var 5) (.var 7))
  .nil)))
  .nil))
  (.cons (.aug 1 .add (.aq 1))
  .nil))))))
  (.cons (.dw (.cmp .ge (.var 1) (.cg .eX (.cons (.var 0) .nil))) (.cons (.ret .bY)
  .nil) .nil)
  (.cons (.ret (.tup (.cons (.cmp .ne (.var 6) (.var 3)) (.cons (.bin .add (.var 1) (.aq 1)) .nil))))
  .nil))))))))
noncomputable def qe : List Str := ["text","i","octet","denied","start","low","met","c","quoted","end","told"]
noncomputable def cQ : bG :=
  (.cons (.assign (.var 2) (.cI fK (.cons (.var 0) (.cons (.aq 1) (.cons (.var 1) .nil)))))
  (.cons (.dw (.cmp .is_ (.var 2) .bY) (.cons (.ret .bY)
  .nil) .nil)
  (.cons (.dD [(.var 3),(.var 4)] (.var 2))
  (.cons (.assign (.var 3) (.and (.var 3) (.cmp .eq (.var 4) (.cg .eX (.cons (.var 0) .nil)))))
  (.cons (.whl (.cmp .lt (.var 4) (.cg .eX (.cons (.var 0) .nil))) (.cons (.dw (.cmp .eq (.idx (.var 0) (.var 4)) (.aq 91)) (.cons (.assign (.var 2) (.cI fK (.cons (.var 0) (.cons (.bin .add (.var 4) (.aq 1)) (.cons (.var 1) .nil)))))
  (.cons (.dw (.cmp .is_ (.var 2) .bY) (.cons (.ret .bY)
  .nil) .nil)
  (.cons (.assign (.var 4) (.idx (.var 2) (.aq 1)))
  .nil))) (.cons (.aug 4 .add (.ite (.cmp .eq (.idx (.var 0) (.var 4)) (.aq 92)) (.aq 2) (.aq 1)))
  .nil))
  .nil))
  (.cons (.ret (.var 3))
  .nil))))))
noncomputable def xQ : List Str := ["text","octet","told","fits","i"]
noncomputable def dg : bG :=
  (.cons (.assign (.var 1) (.ite (.var 0) (.idx (.var 0) (.aq 0)) (.aq 0)))
  (.cons (.assign (.var 2) (.aj [91]))
  (.cons (.Dq 3 (.aq 1) (.cg .Cz (.cons (.aq 7) (.cons (.cg .eX (.cons (.var 0) .nil)) .nil))) (.cons (.assign (.var 4) (.idx (.cI ni .nil) (.bin .mod (.idx (.var 0) (.var 3)) (.aq 35))))
  (.cons (.aug 2 .add (.ite (.and (.cmp .eq (.var 4) (.aj [93])) (.cmp .pQ (.var 2) (.lst (.cons (.aj [91]) (.cons (.aj [91,33]) (.cons (.aj [91,94]) .nil)))))) (.aj [99]) (.var 4)))
  .nil)))
  (.cons (.dw (.cmp .gt (.bin .mod (.var 1) (.aq 8)) (.aq 0)) (.cons (.aug 2 .add (.aj [93]))
  .nil) .nil)
  (.cons (.assign (.var 5) (.bin .add (.lst (.cons (.bin .mod (.bin .fdiv (.var 1) (.aq 8)) (.aq 256)) (.cons (.aq 46) (.cons (.aq 48) (.cons (.aq 97) (.cons (.aq 255) .nil)))))) (.uE (.slc (.var 2) (.aq 1) (.aq 6)) (.lst (.cons (.neg 1) (.cons (.aq 0) (.cons (.aq 1) .nil)))) (.bin .mod (.bin .add (.var 10) (.var 11)) (.aq 256)))))
  (.cons (.assign (.var 5) (.comp (.var 5) true (.and (.cmp .ne (.var 10) (.aq 0)) (.cmp .ne (.var 10) (.aq 47))) (.var 10)))
  (.cons (.assign (.var 6) (.cI nj (.cons (.var 2) (.cons (.idx (.var 5) (.aq 0)) .nil))))
  (.cons (.Fe (.cons (.assign (.var 7) (.cI jk (.cons (.cg .bytes_ (.cons (.lst (.cons (.idx (.var 5) (.aq 0)) .nil)) .nil)) (.cons (.var 2) .nil))))
  .nil) 7)
  (.cons (.dw (.cmp .jV (.var 7) (.var 6)) (.cons (.ret (.eZ false))
  .nil) .nil)
  (.cons (.dw (.cmp .is_ (.var 6) .bY) (.cons (.ret (.eZ true))
  .nil) .nil)
  (.cons (.assign (.var 8) (.oM 1 (.cons (.var 2) .nil)))
  (.cons (.uT 9 (.var 5) (.cons (.dw (.cmp .jV (.meth (.var 8) .match_ (.cons (.cg .bytes_ (.cons (.lst (.cons (.var 9) .nil)) .nil)) .nil)) (.cI nj (.cons (.var 2) (.cons (.var 9) .nil)))) (.cons (.ret (.eZ false))
  .nil) .nil)
  .nil))
  (.cons (.ret (.eZ true))
  .nil)))))))))))))
noncomputable def nP : List Str := ["script","n","text","k","piece","octets","expected","told","made","c"]
noncomputable def FT (f : Nat) : Option FD := match f with
 | 0 => some ⟨1,[],3,rT⟩
 | 1 => some ⟨2,[],2,cZ⟩
 | 2 => some ⟨2,[],rM.length,dF⟩
 | 3 => some ⟨2,[],rK.length,aF⟩
 | 4 => some ⟨3,[],lH.length,iD⟩
 | 5 => some ⟨3,[],j7.length,aK⟩
 | 6 => some ⟨5,[],lG.length,bO⟩
 | 7 => some ⟨4,[],lJ.length,aV⟩
 | 8 => some ⟨2,[],j6.length,gU⟩
 | 9 => some ⟨1,[],Er.length,jc⟩
 | 10 => some ⟨4,[],qd.length,cO⟩
 | 11 => some ⟨2,[],eV.length,ak⟩
 | 12 => some ⟨1,[],ju.length,aW⟩
 | 13 => some ⟨1,[],mL.length,aJ⟩
 | 14 => some ⟨1,[],fO.length,bN⟩
 | 15 => some ⟨1,[],uL.length,dH⟩
 | 16 => some ⟨1,[],iG.length,cV⟩
 | 17 => some ⟨2,[],gB.length,dO⟩
 | 18 => some ⟨1,[],j4.length,bF⟩
 | 19 => some ⟨3,[.bool false],nO.length,dj⟩
 | 20 => some ⟨3,[.bool false],j5.length,bU⟩
 | 21 => some ⟨2,[],nQ.length,jm⟩
 | 22 => some ⟨0,[],0,nq⟩
 | 23 => some ⟨2,[],uM.length,fj⟩
 | 24 => some ⟨3,[],qe.length,aM⟩
 | 25 => some ⟨2,[],xQ.length,cQ⟩
 | _ => none
noncomputable def lu : FD := ⟨1,[],nP.length,dg⟩
noncomputable def aG : Nat -> bK
 | 0,_,_,_ => .bad
 | n + 1,f,vs,h => match FT f with
  | some d => cj (aG n) d vs h
  | none => .bad
theorem Hq {n f : Nat} {vs : List Val} {h : H} {d : FD} (e : FT f = some d) : aG (n + 1) f vs h = cj (aG n) d vs h := by
 show (match FT f with
  | some d => cj (aG n) d vs h
  | none => Res.bad) = _
 rw [e]
theorem Hr {n f : Nat} {vs : List Val} {h : H} (e : FT f = none) : aG (n + 1) f vs h = .bad := by
 show (match FT f with
  | some d => cj (aG n) d vs h
  | none => Res.bad) = _
 rw [e]
end Mine
end
section
open PySem PySem.W PyProof.Rows PySem.Calls
namespace Mine
noncomputable def aam (b : List UInt8) : PySem.Str := ⟨(b.map fun c => c.toNat).toArray⟩
noncomputable def qb (w : World) (b : List UInt8) : Int := hashStr w (aam b)
theorem sE (i : Int) : -2 ^ 63 <= reduceHash i /\ reduceHash i < 2 ^ 63 /\ reduceHash i ≠ -1 := by
 unfold reduceHash
 split
 ·rename_i h
  simp only [Bool.and_eq_true,decide_eq_true_eq] at h
  split
  ·decide
  ·rename_i h2
   exact ⟨h.1,h.2,by simpa using h2⟩
 ·have h0 : 0 <= ((i.natAbs : Int) % (2 ^ 61 - 1)) := Int.emod_nonneg _ (by decide)
  have h1 : ((i.natAbs : Int) % (2 ^ 61 - 1)) < 2 ^ 61 - 1 := Int.emod_lt_of_pos _ (by decide)
  by_cases hc : i < 0
  ·simp only [hc,if_true]
   split
   ·decide
   ·rename_i h2
    refine ⟨?_,?_,by simpa using h2⟩ <;> omega
  ·simp only [hc,if_false]
   split
   ·decide
   ·rename_i h2
    refine ⟨?_,?_,by simpa using h2⟩ <;> omega
theorem Dl (w : World) (b : List UInt8) : -2 ^ 63 <= qb w b /\ qb w b < 2 ^ 63 /\ qb w b ≠ -1 := by
 unfold qb hashStr
 split
 ·decide
 ·exact sE _
theorem slot_bytes_hash : Slot "bytes" "__hash__" "bytes.__hash__" :=
 .of (owner := "bytes") (n := "__hash__") (by rw [typeLookup_type,builtinLookup_eq_fast]; kernel_rfl) (by decide +kernel) (by decide +kernel) (by decide +kernel)
  (by first | exact .inl (by decide +kernel) | exact .inr (by decide +kernel)) (by rw [isSubtype_type]; kernel_rfl)
theorem entry_bytes_hash : entryFor table "bytes.__hash__" = some Builtin.«bytes.__hash__» := entryFor_of_tree (by kernel_rfl)
theorem uX (a : Value) : argsOk "bytes.__hash__" ⟨[a],[]⟩ := by
 unfold argsOk; kernel_rfl
section
variable {prog : Program} {w : World} {A : Around} {E : Value -> Shared -> Prop} {s : Shared}
theorem zZ {b : List UInt8} {t : Tok} {Q : Int -> Shared -> Prop} (h : Q (qb w b) { s with toks := s.toks + 1 }) :
  wpAny (model prog w) A (pyHash (.bytes b.toArray t)) Q E s := by
 have hr := Dl w b
 unfold pyHash
 show wpAny _ _ (pyHashByItsType (.bytes b.toArray t)) Q E s
 unfold pyHashByItsType
 have hv : [Value.bytes b.toArray t].any Value.onHeap = false := rfl
 refine wpAny_bind ?_
 rw [cRoomFor,if_neg (by rw [hv]; exact Bool.false_ne_true)]; refine wpAny_pure ?_
 refine wpAny_bind (wpAny_specialOf (typeIs_bytes s _ t) slot_bytes_hash.lookup ?_)
 show wpAny _ _ (if (some (Value.builtin "bytes.__hash__") == some Value.none) = true then _ else _) Q E s
 rw [if_neg (by rw [beq_builtin_none]; exact Bool.false_ne_true)]
 refine wpAny_bind (wpAny_specialOf (typeIs_bytes s _ t) slot_bytes_hash.lookup ?_)
 show wpAny _ _ (callSpecialIfBoundUnlessNone? (.bytes b.toArray t) "__hash__" _ >>= _) Q E s
 refine wpAny_bind (wpAny_callSpecialIfBoundUnlessNone?_slot (typeIs_bytes s _ t) slot_bytes_hash
  (wpAny_call_entry slot_bytes_hash (typeIs_bytes s _ t) entry_bytes_hash
   (show wpAny _ _ (strHash ⟨b.toArray.map (·.toNat)⟩ >>= fun i => (do ret (<- mkInt i))) _ _ s from ?_) (uX _)))
 rw [show (⟨b.toArray.map (·.toNat)⟩ : PySem.Str) = aam b from by simp [aam]]
 unfold strHash
 refine wpAny_bind (wpAny_bind (wpAny_askSetting (wpAny_pure (wpAny_ret_mkInt ?_))))
 show wpAny _ _ (if (decide (-(2 : Int) ^ 63 <= qb w b) && decide (qb w b < 2 ^ 63)) = true then pure (if (qb w b == -1) = true then -2 else qb w b) else _) Q E _
 rw [if_pos (by rw [decide_eq_true hr.1,decide_eq_true hr.2.1]; rfl),if_neg (by simpa using hr.2.2)]
 exact wpAny_pure h
theorem eqBool_bytes {a b : List UInt8} {t u : Tok} {Q : Bool -> Shared -> Prop} (h : Q (decide (a = b)) s) :
  wpAny (model prog w) A (eqBool (.bytes a.toArray t) (.bytes b.toArray u)) Q E s := by
 unfold eqBool
 show wpAny _ _ (if (Value.bytes a.toArray t == Value.bytes b.toArray u) = true then _ else _) Q E s
 by_cases hab : (Value.bytes a.toArray t == Value.bytes b.toArray u) = true
 ·rw [if_pos hab]
  have e : a = b := by
   have := eq_of_beq hab
   injection this with h1 h2
   exact congrArg Array.toList h1
  subst e
  exact wpAny_bind (wpAny_rule (wpAny_pure (by simpa using h)))
 ·rw [if_neg hab]
  refine wpAny_bind (richCompare_gives (op := .Eq) (T := "bytes") rfl rfl FB.slot_bytes_eq FB.entry_bytes_eq (FB.args_bytes_eq_2 _ _) (gives_bytes_eq a.toArray b.toArray t u) (fun x => nomatch x) (wpAny_truthy_bool ?_))
  have e : (a.toArray.toList == b.toArray.toList) = decide (a = b) := by
   show (a == b) = _
   by_cases hne : a = b
   ·subst hne; simp
   ·rw [decide_eq_false hne]; exact beq_eq_false_iff_ne.mpr hne
  rw [e]; exact h
end
noncomputable def isB (k : List UInt8) : Value -> Bool
 | .bytes b _ => b == k.toArray
 | _ => false
theorem jL {k : List UInt8} {v : Value} (h : isB k v = true) : ∃ t,v = .bytes k.toArray t := by
 cases v with
 | bytes b t => exact ⟨t,congrArg (Value.bytes · t) (eq_of_beq h)⟩
 | _ => exact (Bool.false_ne_true h).elim
theorem wK (k : List UInt8) (t : Tok) : isB k (.bytes k.toArray t) = true := beq_self_eq_true k.toArray
noncomputable def oN (prog : Program) (w : World) : KeyKind prog w (List UInt8) where
 is := isB
 hash := qb w
 inj := fun v a b ha hb => by
  obtain ⟨t,rfl⟩ := jL ha
  obtain ⟨u,h⟩ := jL hb
  injection h with h1 h2
  exact congrArg Array.toList h1
 byValue := fun k v h => by obtain ⟨t,rfl⟩ := jL h; rfl
 pyHash := fun hv h => by obtain ⟨t,rfl⟩ := jL hv; exact zZ h
 eqBool := fun hu hv h => by
  obtain ⟨t,rfl⟩ := jL hu
  obtain ⟨u,rfl⟩ := jL hv
  exact eqBool_bytes h
 «strs» := fun k x t v h => (Bool.false_ne_true h).elim
end Mine
end
section
open PySem PySem.W PyProof.Rows PySem.Spec PySem.Calls
namespace Mine
noncomputable def clsAt (c : Nat) : Addr := if c = 0 then 92 else 241
noncomputable def o8 : Addr := 97
noncomputable def jq : Addr := 107
noncomputable def eE : Nat -> PySem.Str
 | 0 => "ignorecase" | 1 => "parts" | 2 => "pattern" | 3 => "is_exclude" | 4 => "is_directory_only"
 | 5 => "is_empty" | 6 => "_re" | 7 => "_name_re" | _ => "_describes_contents"
def Bm (h : Heap) (x C d : Addr) : Prop := ∃ o,h.get? x = some o /\ o.cls = .ref C /\ o.dict = some d /\ o.data = .plain
mutual
inductive aC (h : Heap) (ρ : List Addr) : Val -> Value -> Prop
 | none : aC h ρ .none .none
 | bool (b : Bool) : aC h ρ (.bool b) (.bool b)
 | int (i : Int) (t : Tok) : aC h ρ (.int i) (.int i t)
 | str (s : String) (t : Tok) : aC h ρ (.str s) (.str (PySem.Str.ofString s) t)
 | bytes (b : Bs) (t : Tok) : aC h ρ (.bytes b) (.bytes b.toArray t)
 | tup {vs : List Val} {ws : List Value} {a : Addr} (ha : a ∉ ρ) (ht : IsTup h a ws.toArray) (hv : aD h ρ vs ws) : aC h ρ (.tup vs) (.ref a)
 | lst {l : Nat} {a : Addr} (ha : ρ[l]? = some a) : aC h ρ (.lst l) (.ref a)
 | dct {l : Nat} {a : Addr} (ha : ρ[l]? = some a) : aC h ρ (.dct l) (.ref a)
 | inst {c l : Nat} {x d : Addr} (hx : x ∉ ρ) (hd : ρ[l]? = some d) (hs : Bm h x (clsAt c) d) : aC h ρ (.inst c l) (.ref x)
 | lB {is : List Int} {a : Addr} {ws : List Value} (ha : a ∉ ρ) (hl : h.IsList a ws.toArray) (hi : IntsAre ws is) : aC h ρ (.lB is) (.ref a)
 | posix : aC h ρ .posix (.ref o8)
inductive aD (h : Heap) (ρ : List Addr) : List Val -> List Value -> Prop
 | nil : aD h ρ [] []
 | cons {v : Val} {w : Value} {vs : List Val} {ws : List Value} (hv : aC h ρ v w) (hr : aD h ρ vs ws) : aD h ρ (v :: vs) (w :: ws)
end
@[elab_as_elim] theorem aC.cs {h : Heap} {ρ : List Addr} {motive : ∀ v x,aC h ρ v x -> Prop} (none : motive _ _ .none) (bool : ∀ b,motive _ _ (.bool b)) (int : ∀ i t,motive _ _ (.int i t)) (str : ∀ s t,motive _ _ (.str s t)) (bytes : ∀ b t,motive _ _ (.bytes b t))
  (tup : ∀ {vs ws a} ha ht hv,motive _ _ (.tup (vs := vs) (ws := ws) (a := a) ha ht hv)) (lst : ∀ {l a} ha,motive _ _ (.lst (l := l) (a := a) ha)) (dct : ∀ {l a} ha,motive _ _ (.dct (l := l) (a := a) ha))
  (inst : ∀ {c l x d} hx hd hs,motive _ _ (.inst (c := c) (l := l) (x := x) (d := d) hx hd hs)) (lB : ∀ {is a ws} ha hl hi,motive _ _ (.lB (is := is) (a := a) (ws := ws) ha hl hi)) (posix : motive _ _ .posix) {v : Val} {x : Value} (r : aC h ρ v x) : motive v x r :=
 aC.casesOn (motive_1 := motive) r none bool int str bytes tup lst dct inst lB posix
@[elab_as_elim] theorem aD.cs {h : Heap} {ρ : List Addr} {motive : ∀ v x,aD h ρ v x -> Prop} (nil : motive _ _ .nil) (cons : ∀ {v w vs ws} hv hr,motive _ _ (.cons (v := v) (w := w) (vs := vs) (ws := ws) hv hr)) {vs : List Val} {ws : List Value} (r : aD h ρ vs ws) : motive vs ws r :=
 aD.casesOn (motive_2 := motive) r nil cons
def agH (h : Heap) (ρ : List Addr) (v : Val) (x : Value) : Prop := match v with
 | .none => x = .none
 | .bool b => x = .bool b
 | .int i => ∃ t,x = .int i t
 | .str s => ∃ t,x = .str (PySem.Str.ofString s) t
 | .bytes b => ∃ t,x = .bytes b.toArray t
 | .tup vs => ∃ ws a,x = .ref a /\ a ∉ ρ /\ IsTup h a ws.toArray /\ aD h ρ vs ws
 | .lst l => ∃ a,x = .ref a /\ ρ[l]? = some a
 | .dct l => ∃ a,x = .ref a /\ ρ[l]? = some a
 | .inst c l => ∃ y d,x = .ref y /\ y ∉ ρ /\ ρ[l]? = some d /\ Bm h y (clsAt c) d
 | .lB is => ∃ a ws,x = .ref a /\ a ∉ ρ /\ h.IsList a ws.toArray /\ IntsAre ws is
 | .posix => x = .ref o8
theorem aC.inv {h : Heap} {ρ : List Addr} {v : Val} {x : Value} (r : aC h ρ v x) : agH h ρ v x := by
 induction r using aC.cs with
 | none => rfl
 | bool => rfl
 | int i t => exact ⟨t,rfl⟩
 | str s t => exact ⟨t,rfl⟩
 | bytes b t => exact ⟨t,rfl⟩
 | tup ha ht hv => exact ⟨_,_,rfl,ha,ht,hv⟩
 | lst ha => exact ⟨_,rfl,ha⟩
 | dct ha => exact ⟨_,rfl,ha⟩
 | inst hx hd hs => exact ⟨_,_,rfl,hx,hd,hs⟩
 | lB ha hl hi => exact ⟨_,_,rfl,ha,hl,hi⟩
 | posix => rfl
def adJ (h : Heap) (ρ : List Addr) (vs : List Val) (ws : List Value) : Prop := match vs with
 | [] => ws = []
 | v :: vs => ∃ w r,ws = w :: r /\ aC h ρ v w /\ aD h ρ vs r
theorem aD.inv {h : Heap} {ρ : List Addr} {vs : List Val} {ws : List Value} (r : aD h ρ vs ws) : adJ h ρ vs ws := by
 induction r using aD.cs with
 | nil => rfl
 | cons hv hr => exact ⟨_,_,rfl,hv,hr⟩
def S9 (o : Obj) : Prop := (∃ xs n,o.data = .seq xs n) \/ o.data = .plain
def Keeps (ρ : List Addr) (h h' : Heap) : Prop := ∀ b o,h.get? b = some o -> S9 o -> b ∉ ρ -> ∃ sl,h'.get? b = some { o with slots := sl }
def cC (h : Heap) (τ : List Addr) : Prop := ∀ a ∈ τ,h.get? a = none
def oO (h : Heap) (τ : List Addr) : Prop := ∀ a ∈ τ,∀ o,h.get? a = some o -> ¬ S9 o
theorem cC.weak {h : Heap} {τ : List Addr} (f : cC h τ) : oO h τ := fun a ha o e => by rw [f a ha] at e; exact cN e
theorem bZ {ρ : List Addr} {l : Nat} {a : Addr} (e : ρ[l]? = some a) : a ∈ ρ := List.mem_of_getElem? e
theorem q8 {ρ τ : List Addr} {l : Nat} {a : Addr} (e : ρ[l]? = some a) : (ρ ++ τ)[l]? = some a := by
 rw [List.getElem?_append_left (List.getElem?_eq_some_iff.mp e).1]; exact e
section
variable {h h' : Heap} {ρ τ : List Addr}
theorem sJ {a : Addr} {o : Obj} (f : cC h τ) (e : h.get? a = some o) (ha : a ∉ ρ) : a ∉ ρ ++ τ := fun m => by
 rcases List.mem_append.mp m with m | m
 ·exact ha m
 ·rw [f a m] at e; exact cN e
theorem qt {a : Addr} {o : Obj} (f : oO h τ) (e : h.get? a = some o) (hi : S9 o) (ha : a ∉ ρ) : a ∉ ρ ++ τ := fun m => by
 rcases List.mem_append.mp m with m | m
 ·exact ha m
 ·exact f a m o e hi
theorem aC.lA (k : Keeps ρ h h') (f : oO h τ) {v : Val} {w : Value} (r : aC h ρ v w) : aC h' (ρ ++ τ) v w := by
 refine aC.rec (motive_1 := fun v w _ => aC h' (ρ ++ τ) v w) (motive_2 := fun vs ws _ => aD h' (ρ ++ τ) vs ws) .none .bool .int .str .bytes (fun ha ht hv ih => ?_) (fun ha => .lst (q8 ha)) (fun ha => .dct (q8 ha)) (fun hx hd hs => ?_) (fun ha hl hi => ?_) .posix .nil (fun _ _ a b => .cons a b) r
 ·obtain ⟨o,ho,hc,n,hd⟩ := ht
  obtain ⟨sl,e⟩ := k _ _ ho (.inl ⟨_,_,hd⟩) ha
  exact .tup (qt f ho (.inl ⟨_,_,hd⟩) ha) ⟨_,e,hc,n,hd⟩ ih
 ·obtain ⟨o,ho,hc,hd',hp⟩ := hs
  obtain ⟨sl,e⟩ := k _ _ ho (.inr hp) hx
  exact .inst (qt f ho (.inr hp) hx) (q8 hd) ⟨_,e,hc,hd',hp⟩
 ·obtain ⟨o,ho,hc,n,hd⟩ := hl
  obtain ⟨sl,e⟩ := k _ _ ho (.inl ⟨_,_,hd⟩) ha
  exact .lB (qt f ho (.inl ⟨_,_,hd⟩) ha) ⟨_,e,hc,n,hd⟩ hi
@[elab_as_elim] theorem aD.ind {motive : ∀ vs ws,aD h ρ vs ws -> Prop} (nil : motive [] [] .nil) (cons : ∀ {v w vs ws} (hv : aC h ρ v w) (hr : aD h ρ vs ws),motive vs ws hr -> motive (v :: vs) (w :: ws) (.cons hv hr)) {vs : List Val} {ws : List Value} (r : aD h ρ vs ws) : motive vs ws r :=
 aD.rec (motive_1 := fun _ _ _ => True) (motive_2 := motive) trivial (fun _ => trivial) (fun _ _ => trivial) (fun _ _ => trivial) (fun _ _ => trivial) (fun _ _ _ _ => trivial) (fun _ => trivial) (fun _ => trivial) (fun _ _ _ => trivial) (fun _ _ _ => trivial) trivial nil (fun hv hr _ ih => cons hv hr ih) r
theorem aD.lA (k : Keeps ρ h h') (f : oO h τ) {vs : List Val} {ws : List Value} (r : aD h ρ vs ws) : aD h' (ρ ++ τ) vs ws := by
 induction r using aD.ind with
 | nil => exact .nil
 | cons hv _ ih => exact .cons (hv.lA k f) ih
theorem aC.grow (k : Keeps ρ h h') (f : cC h τ) {v : Val} {w : Value} (r : aC h ρ v w) : aC h' (ρ ++ τ) v w := r.lA k f.weak
theorem aD.grow (k : Keeps ρ h h') (f : cC h τ) {v : List Val} {w : List Value} (r : aD h ρ v w) : aD h' (ρ ++ τ) v w := r.lA k f.weak
theorem aD.length {vs : List Val} {ws : List Value} (x : aD h ρ vs ws) : ws.length = vs.length := by
 cases x with
 | nil => rfl
 | cons hv hr => rw [List.length_cons,List.length_cons,aD.length hr]
theorem aD.get {vs : List Val} {ws : List Value} (x : aD h ρ vs ws) : ∀ {i : Nat} {v : Val},vs[i]? = some v -> ∃ w,ws[i]? = some w /\ aC h ρ v w := by
 intro i v e
 cases x with
 | nil => exact cN e
 | cons hv hr =>
  cases i with
  | zero => cases e; exact ⟨_,rfl,hv⟩
  | succ i => exact aD.get hr (by simpa using e)
theorem aD.append {vs vs' : List Val} {ws ws' : List Value} (x : aD h ρ vs ws) (y : aD h ρ vs' ws') : aD h ρ (vs ++ vs') (ws ++ ws') := by
 cases x with
 | nil => exact y
 | cons hv hr => exact .cons hv (aD.append hr y)
theorem aD.one {v : Val} {w : Value} (x : aC h ρ v w) : aD h ρ [v] [w] := .cons x .nil
theorem aD.drop {vs : List Val} {ws : List Value} (x : aD h ρ vs ws) : ∀ n,aD h ρ (vs.drop n) (ws.drop n) := by
 intro n
 cases n with
 | zero => exact x
 | succ n =>
  cases x with
  | nil => exact .nil
  | cons hv hr => exact aD.drop hr n
theorem aD.take {vs : List Val} {ws : List Value} (x : aD h ρ vs ws) : ∀ n,aD h ρ (vs.take n) (ws.take n) := by
 intro n
 cases n with
 | zero => exact .nil
 | succ n =>
  cases x with
  | nil => exact .nil
  | cons hv hr => exact .cons hv (aD.take hr n)
end
noncomputable def Et : List PySem.Str := ["ignorecase","parts","pattern","is_exclude","is_directory_only","is_empty","_re","_name_re","_describes_contents"]
def Ss (h : Heap) (ρ : List Addr) (a : Addr) (as : List (Nat × Val)) : Prop :=
 ∃ m,h.Ns1 a m /\ PySem.Within m Et /\ ∀ k v,k <= 8 -> as.lookup k = some v -> ∃ w,m (eE k) = some w /\ aC h ρ v w
def adS (prog : Program) (w : World) (h : Heap) (ρ : List Addr) (a : Addr) (es : List (Bs × Val)) : Prop :=
 ∃ m,h.MapOf (oN prog w) a m /\ (∀ k v,es.lookup k = some v -> ∃ w,m k = some w /\ aC h ρ v w) /\ ∀ k,es.lookup k = none -> m k = none
noncomputable def iC (prog : Program) (w : World) (h : Heap) (ρ : List Addr) : Cell -> Addr -> Prop
 | .lst vs,a => ∃ ws : List Value,PlainL h a ws.toArray /\ aD h ρ vs ws
 | .dct es,a => adS prog w h ρ a es
 | .ns _ as,a => Ss h ρ a as
 | .dead,_ => True
theorem S9.mq {o : Obj} (x : S9 o) : ∀ ws,o.data ≠ .fields ws := fun ws q => by
 rcases x with ⟨_,_,e⟩ | e <;> rw [q] at e <;> cases e
theorem S9.noDict {o : Obj} (x : S9 o) : ∀ es n,o.data ≠ .dict es n := fun es n q => by
 rcases x with ⟨_,_,e⟩ | e <;> rw [q] at e <;> cases e
theorem xY {o : Obj} {vs : Array Value} {n : Nat} (h : o.data = .seq vs n) : ∀ ws,o.data ≠ .fields ws := fun ws q => by rw [h] at q; cases q
structure cu (prog : Program) (w : World) (h : Heap) (ρ : List Addr) (H : List Cell) : Prop where
 len : ρ.length = H.length
 nodup : ρ.Nodup
 cell : ∀ (i : Nat) (c : Cell) (a : Addr),H[i]? = some c -> ρ[i]? = some a -> iC prog w h ρ c a
 sI : ∀ a ∈ ρ,∃ o,h.get? a = some o /\ ∀ vs,o.data ≠ .fields vs
theorem cu.old {prog : Program} {w : World} {h : Heap} {ρ : List Addr} {H : List Cell} (x : cu prog w h ρ H) (a : Addr) (ha : a ∈ ρ) : ∃ o,h.get? a = some o := let ⟨o,ho,_⟩ := x.sI a ha; ⟨o,ho⟩
theorem iC.nf {prog : Program} {w : World} {h : Heap} {ρ : List Addr} {c : Cell} {a : Addr} (x : iC prog w h ρ c a) (hd : c ≠ .dead) : ∃ o,h.get? a = some o /\ ∀ vs,o.data ≠ .fields vs := by
 cases c with
 | lst vs => obtain ⟨ws,⟨o,n,ho,_,_,q⟩,_⟩ := x; exact ⟨o,ho,fun vs e => by rw [q] at e; cases e⟩
 | dct es => obtain ⟨m,⟨o,es',ep,ho,_,q,_⟩,_⟩ := x; exact ⟨o,ho,fun vs e => by rw [q] at e; cases e⟩
 | ns c as => obtain ⟨m,⟨o,es,ep,ho,q,_⟩,_⟩ := x; exact ⟨o,ho,fun vs e => by rw [q] at e; cases e⟩
 | dead => exact absurd rfl hd
section
variable {prog : Program} {w : World} {h h' : Heap} {ρ τ : List Addr} {H : List Cell}
theorem Keeps.qp (k : ∀ b o,h.get? b = some o -> h'.get? b = some o) : Keeps ρ h h' := fun b o e _ _ => ⟨o.slots,k b o e⟩
theorem cC.nil : cC h [] := fun _ ha => nomatch ha
theorem aC.all (k : ∀ b o,h.get? b = some o -> h'.get? b = some o) {v : Val} {x : Value} (r : aC h ρ v x) : aC h' ρ v x := by
 have := r.grow (τ := []) (Keeps.qp k) cC.nil
 rwa [List.append_nil] at this
theorem aD.all (k : ∀ b o,h.get? b = some o -> h'.get? b = some o) {v : List Val} {x : List Value} (r : aD h ρ v x) : aD h' ρ v x := by
 have := r.grow (τ := []) (Keeps.qp k) cC.nil
 rwa [List.append_nil] at this
theorem Ss.lA (k : Keeps ρ h h') (f : oO h τ) {a : Addr} {as : List (Nat × Val)} {o : Obj} {sl : Array (Option Value)} (e : h.get? a = some o) (e' : h'.get? a = some { o with slots := sl }) (x : Ss h ρ a as) : Ss h' (ρ ++ τ) a as := by
 obtain ⟨m,hn,hw,h1⟩ := x
 obtain ⟨o2,es,ep,hg,hdat,hk,hf⟩ := hn
 rw [e] at hg; cases hg
 exact ⟨m,⟨_,es,ep,e',hdat,hk,hf⟩,hw,fun k' v hl q => let ⟨w',a1,a2⟩ := h1 k' v hl q; ⟨w',a1,a2.lA k f⟩⟩
theorem iC.lA (k : Keeps ρ h h') (f : oO h τ) {c : Cell} {a : Addr} {o : Obj} (e : h.get? a = some o) (e' : h'.get? a = some o) (x : iC prog w h ρ c a) : iC prog w h' (ρ ++ τ) c a := by
 cases c with
 | lst vs =>
  obtain ⟨ws,⟨o',n,ho,hc,hn,hd⟩,hv⟩ := x
  rw [e] at ho; cases ho
  exact ⟨ws,⟨_,n,e',hc,hn,hd⟩,hv.lA k f⟩
 | dct es =>
  obtain ⟨m,⟨o',es',ep,ho,hx,hd,hk,hf⟩,h1,h2⟩ := x
  rw [e] at ho; cases ho
  exact ⟨m,⟨_,es',ep,e',hx,hd,hk,hf⟩,fun k' v q => let ⟨w',a1,a2⟩ := h1 k' v q; ⟨w',a1,a2.lA k f⟩,h2⟩
 | ns c as => exact Ss.lA k f (sl := o.slots) e (by cases o; exact e') x
 | dead => trivial
theorem iC.grow (k : Keeps ρ h h') (f : cC h τ) {c : Cell} {a : Addr} {o : Obj} (e : h.get? a = some o) (e' : h'.get? a = some o) (x : iC prog w h ρ c a) : iC prog w h' (ρ ++ τ) c a := x.lA k f.weak e e'
theorem iC.kill (k : Keeps ρ h h') (f : cC h τ) {c : Cell} {a : Addr} {o : Obj} {sl : Array (Option Value)} (e : h.get? a = some o) (e' : (∀ vs,o.data ≠ .fields vs) -> h'.get? a = some { o with slots := sl }) (x : iC prog w h ρ c a) : iC prog w h' (ρ ++ τ) c.kill a := by
 cases c with
 | lst vs =>
  obtain ⟨ws,⟨o',n,ho,hc,hn,hd⟩,hv⟩ := x
  rw [e] at ho; cases ho
  exact ⟨ws,⟨_,n,e' (xY hd),hc,hn,hd⟩,hv.grow k f⟩
 | _ => trivial
theorem aC.keep {v : Val} {u : Value} (k : Keeps ρ h h') (r : aC h ρ v u) : aC h' ρ v u := by
 have := r.grow (τ := []) k cC.nil
 rwa [List.append_nil] at this
theorem aD.keep {v : List Val} {u : List Value} (k : Keeps ρ h h') (r : aD h ρ v u) : aD h' ρ v u := by
 have := r.grow (τ := []) k cC.nil
 rwa [List.append_nil] at this
theorem cu.keep (hk : Keeps ρ h h') (k : ∀ a o,a ∈ ρ -> h.get? a = some o -> h'.get? a = some o) (x : cu prog w h ρ H) : cu prog w h' ρ H where
 len := x.len
 nodup := x.nodup
 cell := fun i c a hc ha => by
  obtain ⟨o,ho⟩ := x.old a (bZ ha)
  have := (x.cell i c a hc ha).grow (τ := []) hk cC.nil ho (k _ _ (bZ ha) ho)
  rwa [List.append_nil] at this
 sI := fun a ha => let ⟨o,ho,hn⟩ := x.sI a ha; ⟨o,k _ _ ha ho,hn⟩
theorem cu.all (k : ∀ b o,h.get? b = some o -> h'.get? b = some o) (x : cu prog w h ρ H) : cu prog w h' ρ H := x.keep (Keeps.qp k) fun a o _ => k a o
theorem cu.kill (u : h.UpToSlots h') (x : cu prog w h ρ H) : cu prog w h' ρ (H.map Cell.kill) where
 len := by rw [List.length_map]; exact x.len
 nodup := x.nodup
 cell := fun i c a hc ha => by
  rw [List.getElem?_map] at hc
  cases hi : H[i]? with
  | none => rw [hi] at hc; exact cN hc
  | some c' =>
   rw [hi] at hc; cases hc
   obtain ⟨o,ho,hf⟩ := x.sI a (bZ ha)
   obtain ⟨sl,hs⟩ := u a o ho hf
   have := (x.cell i c' a hi ha).kill (τ := []) (fun b o e hn _ => u b o e hn.mq) cC.nil ho fun _ => hs
   rwa [List.append_nil] at this
 sI := fun a ha => by
  obtain ⟨o,ho,hf⟩ := x.sI a ha
  obtain ⟨sl,hs⟩ := u a o ho hf
  exact ⟨_,hs,hf⟩
theorem KR (c : Cell) : c.kill.kill = c.kill := by cases c <;> rfl
theorem yh (H : List Cell) : (H.map Cell.kill).map Cell.kill = H.map Cell.kill := by simp [KR]
end
structure Ext (W : List Addr) (ρ : List Addr) (s : Shared) (ρ' : List Addr) (s' : Shared) : Prop where
 rest : s' = { s with heap := s'.heap,toks := s'.toks }
 pre : ∃ τ,ρ' = ρ ++ τ /\ cC s.heap τ
 keep : ∀ b o,s.heap.get? b = some o -> b ∉ ρ -> b ∉ W -> s'.heap.get? b = some o
 live : ∀ b,s'.heap.get? b = none -> s.heap.get? b = none
structure mO (W : List Addr) (ρ : List Addr) (s : Shared) (ρ' : List Addr) (s' : Shared) : Prop where
 rest : s' = { s with heap := s'.heap,toks := s'.toks }
 pre : ∃ τ,ρ' = ρ ++ τ /\ cC s.heap τ
 keep : ∀ b o,s.heap.get? b = some o -> (∀ vs,o.data ≠ .fields vs) -> b ∉ ρ -> b ∉ W -> ∃ sl,s'.heap.get? b = some { o with slots := sl }
section
variable {W : List Addr} {ρ ρ₁ ρ₂ τ : List Addr} {s s₁ s₂ : Shared}
theorem Ext.refl : Ext W ρ s ρ s := ⟨rfl,⟨[],(List.append_nil _).symm,cC.nil⟩,fun _ _ e _ _ => e,fun _ e => e⟩
theorem Ext.all {h' : Heap} {k : Nat} (hk : ∀ b o,s.heap.get? b = some o -> h'.get? b = some o) : Ext W ρ s ρ { s with heap := h',toks := k } :=
 ⟨rfl,⟨[],(List.append_nil _).symm,cC.nil⟩,fun b o e _ _ => hk b o e,fun b e => by
  cases q : s.heap.get? b with
  | none => rfl
  | some o => rw [show h'.get? b = some o from hk b o q] at e; exact SX e⟩
theorem Ext.toks {k : Nat} : Ext W ρ s ρ { s with toks := k } := Ext.all (h' := s.heap) fun _ _ e => e
theorem Ext.mono {W' : List Addr} (x : Ext W ρ s ρ₁ s₁) (h : ∀ a ∈ W,a ∈ W') : Ext W' ρ s ρ₁ s₁ := ⟨x.rest,x.pre,fun b o e h1 h2 => x.keep b o e h1 fun m => h2 (h b m),x.live⟩
theorem Ext.w (x : Ext [] ρ s ρ₁ s₁) : Ext W ρ s ρ₁ s₁ := x.mono fun _ m => nomatch m
theorem mO.mono {W' : List Addr} (x : mO W ρ s ρ₁ s₁) (h : ∀ a ∈ W,a ∈ W') : mO W' ρ s ρ₁ s₁ := ⟨x.rest,x.pre,fun b o e hn h1 h2 => x.keep b o e hn h1 fun m => h2 (h b m)⟩
theorem mO.w (x : mO [] ρ s ρ₁ s₁) : mO W ρ s ρ₁ s₁ := x.mono fun _ m => nomatch m
theorem Ext.toX (x : Ext W ρ s ρ₁ s₁) : mO W ρ s ρ₁ s₁ := ⟨x.rest,x.pre,fun b o e _ h1 h2 => ⟨o.slots,x.keep b o e h1 h2⟩⟩
theorem o7 (x : ∃ τ,ρ₁ = ρ ++ τ /\ cC s.heap τ) (y : ∃ τ,ρ₂ = ρ₁ ++ τ /\ cC s₁.heap τ) (k : ∀ b,s₁.heap.get? b = none -> s.heap.get? b = none) :
  ∃ τ,ρ₂ = ρ ++ τ /\ cC s.heap τ := by
 obtain ⟨τ,rfl,f⟩ := x
 obtain ⟨τ',rfl,f'⟩ := y
 refine ⟨τ ++ τ',by rw [List.append_assoc],fun a ha => ?_⟩
 rcases List.mem_append.mp ha with m | m
 ·exact f a m
 ·exact k a (f' a m)
theorem fJ (x : ∃ τ,ρ₁ = ρ ++ τ /\ cC s.heap τ) {b : Addr} {o : Obj} (e : s.heap.get? b = some o) (hb : b ∉ ρ) : b ∉ ρ₁ := by
 obtain ⟨τ,rfl,f⟩ := x
 exact sJ f e hb
theorem dX (x : s₁ = { s with heap := s₁.heap,toks := s₁.toks }) (y : s₂ = { s₁ with heap := s₂.heap,toks := s₂.toks }) : s₂ = { s with heap := s₂.heap,toks := s₂.toks } := by
 cases s; cases s₁; cases s₂
 simp only [Shared.mk.injEq] at x y ⊢
 obtain ⟨_,a1,a2,_,a3⟩ := x
 obtain ⟨_,b1,b2,_,b3⟩ := y
 exact ⟨trivial,b1.trans a1,b2.trans a2,trivial,b3.trans a3⟩
theorem Ext.trans (x : Ext W ρ s ρ₁ s₁) (y : Ext W ρ₁ s₁ ρ₂ s₂) : Ext W ρ s ρ₂ s₂ where
 rest := dX x.rest y.rest
 pre := o7 x.pre y.pre x.live
 keep := fun b o e h1 h2 => y.keep b o (x.keep b o e h1 h2) (fJ x.pre e h1) h2
 live := fun b e => x.live b (y.live b e)
theorem Ext.vP (x : Ext W ρ s ρ₁ s₁) (y : mO W ρ₁ s₁ ρ₂ s₂) : mO W ρ s ρ₂ s₂ where
 rest := dX x.rest y.rest
 pre := o7 x.pre y.pre x.live
 keep := fun b o e hn h1 h2 => y.keep b o (x.keep b o e h1 h2) hn (fJ x.pre e h1) h2
theorem Ext.keeps (x : Ext [] ρ s ρ₁ s₁) : Keeps ρ s.heap s₁.heap := fun b o e _ h1 => ⟨o.slots,x.keep b o e h1 (fun m => nomatch m)⟩
theorem Ext.val (x : Ext [] ρ s ρ₁ s₁) {v : Val} {u : Value} (r : aC s.heap ρ v u) : aC s₁.heap ρ₁ v u := by
 obtain ⟨τ,rfl,f⟩ := x.pre
 exact r.grow x.keeps f
theorem Ext.vals (x : Ext [] ρ s ρ₁ s₁) {v : List Val} {u : List Value} (r : aD s.heap ρ v u) : aD s₁.heap ρ₁ v u := by
 obtain ⟨τ,rfl,f⟩ := x.pre
 exact r.grow x.keeps f
end
structure Cx where
 base : Heap
 env : Env
 frs : List Env
 nm : List (Option PySem.Str)
def xO (cx : Cx) (h : Heap) (ρ : List Addr) (m : PySem.Str -> Option Value) (n : PySem.Str) (v : Val) : Prop :=
 (cx.env.kindOf n = some .local /\ ∃ u,m n = some u /\ aC h ρ v u) \/
 (cx.env.kindOf n = some .cell /\ ∃ ca o u,cx.env.cells.lookup n = some ca /\ ca ∉ ρ /\ ca ≠ cx.env.locals /\ h.get? ca = some o /\ o.data = .cell (some u) /\ aC h ρ v u)
def rN (cx : Cx) (h : Heap) (ρ : List Addr) (ls : Ls) : Prop :=
 ∃ m,h.Ns cx.env.locals m /\ ∀ (x : Nat) (v : Val) (n : PySem.Str),ls[x]? = some (some v) -> cx.nm[x]? = some (some n) -> xO cx h ρ m n v
structure St (prog : Program) (w : World) (cx : Cx) (ρ : List Addr) (ls : Ls) (H : List Cell) (s : Shared) : Prop where
 stay : cx.base.StaysIn s.heap
 low : ∀ a ∈ ρ,cx.base.get? a = none
 hr : cu prog w s.heap ρ H
 ff : s.heap.FunFrames cx.base cx.frs
 Lb : ∀ e ∈ cx.frs,∀ L,e.frame = some L -> L ∉ ρ
 loc : cx.env.locals ∉ ρ
 xU : rN cx s.heap ρ ls
 lens : ls.length = cx.nm.length
structure rU (cx : Cx) (A : Around) (d : Nat) : Prop where
 frames : A.frames = some cx.frs
 handled : A.handled = none
 depth : A.depth + 3 * d + 3 < recursionLimit
structure tQ (cx : Cx) (A : Around) (d : Nat) : Prop where
 frames : A.frames = some cx.frs
 handled : A.handled = none
 depth : A.depth + 3 * d + 1 < recursionLimit
theorem rU.c {cx : Cx} {A : Around} {d : Nat} (x : rU cx A d) : tQ cx A d := ⟨x.frames,x.handled,by have := x.depth; lia⟩
theorem rU.make {cx : Cx} {A : Around} {d : Nat} (x : rU cx A d) (C : Addr) (vals : List Value) : tQ cx (A.under (.builtin "type.__call__" ⟨.ref C :: vals,[]⟩)) d := ⟨x.frames,x.handled,by
 have := x.depth
 show A.depth + 1 + 3 * d + 1 < _
 lia⟩
section
variable {cx : Cx} {h h' : Heap} {ρ τ : List Addr} {ls : Ls}
theorem Ns.here {h : Heap} {a : Addr} {m : PySem.Str -> Option Value} (x : h.Ns a m) : ∃ o,h.get? a = some o /\ ∃ es n,o.data = .dict es n := by
 obtain ⟨o,es,ep,ho,hd,_⟩ := x
 exact ⟨o,ho,es,ep,hd⟩
theorem Ns.uniq {h : Heap} {a : Addr} {m m' : PySem.Str -> Option Value} (x : h.Ns a m) (y : h.Ns a m') : m = m' := by
 obtain ⟨o,es,ep,ho,hd,_,hf⟩ := x
 obtain ⟨o',es',ep',ho',hd',_,hf'⟩ := y
 rw [ho] at ho'; cases ho'
 rw [hd] at hd'; cases hd'
 funext n
 rw [<- hf,<- hf']
theorem xO.grow {m : PySem.Str -> Option Value} {n : PySem.Str} {v : Val} (k : Keeps ρ h h') (f : cC h τ) (kc : ∀ b o u,h.get? b = some o -> o.data = .cell u -> b ∉ ρ -> b ≠ cx.env.locals -> ∃ sl,h'.get? b = some { o with slots := sl })
  (x : xO cx h ρ m n v) : xO cx h' (ρ ++ τ) m n v := by
 rcases x with ⟨h1,u,h2,h3⟩ | ⟨h1,ca,o,u,h2,h3,h3',h4,h5,h6⟩
 ·exact .inl ⟨h1,u,h2,h3.grow k f⟩
 ·obtain ⟨sl,e⟩ := kc _ _ _ h4 h5 h3 h3'
  exact .inr ⟨h1,ca,_,u,h2,sJ f h4 h3,h3',e,h5,h6.grow k f⟩
end
section
variable {prog : Program} {w : World} {cx : Cx} {ρ ρ₁ : List Addr} {ls : Ls} {H H₁ : List Cell} {s s₁ : Shared}
theorem Iu (st : cx.base.StaysIn s.heap) (low : ∀ a ∈ ρ,cx.base.get? a = none) (p : ∃ τ,ρ₁ = ρ ++ τ /\ cC s.heap τ) : ∀ a ∈ ρ₁,cx.base.get? a = none := by
 obtain ⟨τ,rfl,f⟩ := p
 intro a ha
 rcases List.mem_append.mp ha with m | m
 ·exact low a m
 ·cases q : cx.base.get? a with
  | none => rfl
  | some o => have := st a o q; rw [f a m] at this; exact cN this
theorem St.step (x : St prog w cx ρ ls H s) (e : Ext [] ρ s ρ₁ s₁) (hr : cu prog w s₁.heap ρ₁ H₁) : St prog w cx ρ₁ ls H₁ s₁ where
 stay := fun b o q => e.keep b o (x.stay b o q) (fun m => by rw [x.low b m] at q; exact cN q) (fun m => nomatch m)
 low := Iu x.stay x.low e.pre
 hr := hr
 ff := by
  have main : ∀ l : List Env,(∀ e ∈ l,∀ L,e.frame = some L -> L ∉ ρ) -> s.heap.FunFrames cx.base l -> s₁.heap.FunFrames cx.base l := by
   intro l
   induction l with
   | nil => intro _ _; trivial
   | cons a r ih =>
    intro hl hf
    obtain ⟨hk,⟨L,o,h1,h2,h3,h4⟩,hr⟩ := hf
    exact ⟨hk,⟨L,o,h1,h2,e.keep L o h3 (hl a (.head _) L h1) (fun m => nomatch m),h4⟩,ih (fun e' he => hl e' (.tail _ he)) hr⟩
  exact main _ x.Lb x.ff
 Lb := fun a ha L hL => by
  obtain ⟨o,ho⟩ : ∃ o,s.heap.get? L = some o := by
   obtain ⟨_,o,ho,_⟩ := x.ff.mem (List.mem_filterMap.mpr ⟨a,ha,hL⟩)
   exact ⟨o,ho⟩
  exact fJ e.pre ho (x.Lb a ha L hL)
 loc := by
  obtain ⟨m,hn,_⟩ := x.xU
  obtain ⟨o,ho,_⟩ := Ns.here hn
  exact fJ e.pre ho x.loc
 xU := by
  obtain ⟨m,hn,hs⟩ := x.xU
  obtain ⟨τ,rfl,f⟩ := e.pre
  refine ⟨m,?_,fun y v n h1 h2 => (hs y v n h1 h2).grow e.keeps f fun b o u h3 _ h5 _ => ⟨o.slots,e.keep b o h3 h5 (fun m => nomatch m)⟩⟩
  obtain ⟨o,es,ep,ho,r⟩ := hn
  exact ⟨o,es,ep,e.keep _ o ho x.loc (fun m => nomatch m),r⟩
 lens := x.lens
end
noncomputable abbrev Rl (α β : Type) := Heap -> List Addr -> α -> β -> Prop
def Fly (cx : Cx) (h : Heap) (x : Value) : Prop := ∃ e a0,x = .ref e /\ Heap.FlyingW cx.base cx.frs e (.ref jq) a0 h
def Post (prog : Program) (w : World) (cx : Cx) {α β : Type} (R : Rl α β) (ρ : List Addr) (s : Shared) (r : Res α) (Q : β -> Shared -> Prop) (E : Value -> Shared -> Prop) : Prop := match r with
 | .ok v H' => ∀ u ρ' s',Ext [] ρ s ρ' s' -> cu prog w s'.heap ρ' H' -> R s'.heap ρ' v u -> Q u s'
 | .exc H' => ∀ x ρ' s',mO [] ρ s ρ' s' -> cu prog w s'.heap ρ' (H'.map Cell.kill) -> Fly cx s'.heap x -> E x s'
 | .bad => False
section
variable {prog : Program} {w : World} {cx : Cx} {α β γ δ : Type} {R : Rl α β} {R' : Rl γ δ} {ρ ρ₁ : List Addr} {s s₁ : Shared} {Q : β -> Shared -> Prop} {Q' : δ -> Shared -> Prop} {E : Value -> Shared -> Prop}
theorem Post.no {r : Res α} (x : Post prog w cx R ρ s r Q E) (e : r = .bad) : False := by subst e; exact x
theorem Post.shift {r : Res α} (e : Ext [] ρ s ρ₁ s₁) (x : Post prog w cx R ρ s r Q E) : Post prog w cx R ρ₁ s₁ r Q E := by
 cases r with
 | ok v H' => exact fun u ρ' s' e' hr hv => x u ρ' s' (e.trans e') hr hv
 | exc H' => exact fun u ρ' s' e' hr hf => x u ρ' s' (e.vP e') hr hf
 | bad => exact x
theorem Post.bind {r : Res α} {f : α -> H -> Res γ} (x : Post prog w cx R' ρ s (r.bind f) Q' E)
  (k : ∀ v u h₁ ρ₁ s₁,Ext [] ρ s ρ₁ s₁ -> cu prog w s₁.heap ρ₁ h₁ -> R s₁.heap ρ₁ v u -> Post prog w cx R' ρ₁ s₁ (f v h₁) Q' E -> Q u s₁) : Post prog w cx R ρ s r Q E := by
 cases r with
 | ok v H' => exact fun u ρ' s' e hr hv => k v u H' ρ' s' e hr hv (Post.shift e x)
 | exc H' => exact x
 | bad => exact x
section
variable {G : Prop}
theorem Post.KC {o : Option Cell} {f : List Val -> Res α} (hP : Post prog w cx R ρ s (match o with | some (.lst vs) => f vs | _ => .bad) Q E) (k : ∀ vs,o = some (.lst vs) -> Post prog w cx R ρ s (f vs) Q E -> G) : G := pB (P := fun r => Post prog w cx R ρ s r Q E) hP (fun h => h) k
theorem Post.agm {o : Option Cell} {f : List (Bs × Val) -> Res α} (hP : Post prog w cx R ρ s (match o with | some (.dct vs) => f vs | _ => .bad) Q E) (k : ∀ vs,o = some (.dct vs) -> Post prog w cx R ρ s (f vs) Q E -> G) : G := I9 (P := fun r => Post prog w cx R ρ s r Q E) hP (fun h => h) k
theorem Post.nsI {o : Option Cell} {f : Nat -> List (Nat × Val) -> Res α} (hP : Post prog w cx R ρ s (match o with | some (.ns c as) => f c as | _ => .bad) Q E) (k : ∀ c as,o = some (.ns c as) -> Post prog w cx R ρ s (f c as) Q E -> G) : G := Zq (P := fun r => Post prog w cx R ρ s r Q E) hP (fun h => h) k
theorem Post.aeL {o : Option (Option Val)} {f : Val -> Res α} (hP : Post prog w cx R ρ s (match o with | some (some a) => f a | _ => .bad) Q E) (k : ∀ a,o = some (some a) -> Post prog w cx R ρ s (f a) Q E -> G) : G := Vv (P := fun r => Post prog w cx R ρ s r Q E) hP (fun h => h) k
theorem Post.obI {o : Option Bool} {a b : Res α} (hP : Post prog w cx R ρ s (match o with | some true => a | some false => b | none => .bad) Q E) (k1 : o = some true -> Post prog w cx R ρ s a Q E -> G) (k2 : o = some false -> Post prog w cx R ρ s b Q E -> G) : G := Zo (P := fun r => Post prog w cx R ρ s r Q E) hP (fun h => h) k1 k2
theorem Post.aah {v : Val} {f : Bs -> Res α} (hP : Post prog w cx R ρ s (match v with | .bytes b => f b | _ => .bad) Q E) (k : ∀ b,v = .bytes b -> Post prog w cx R ρ s (f b) Q E -> G) : G := yZ (P := fun r => Post prog w cx R ρ s r Q E) hP (fun h => h) k
theorem Post.acX {v : Val} {f : Nat -> Nat -> Res α} (hP : Post prog w cx R ρ s (match v with | .inst c l => f c l | _ => .bad) Q E) (k : ∀ c l,v = .inst c l -> Post prog w cx R ρ s (f c l) Q E -> G) : G := QT (P := fun r => Post prog w cx R ρ s r Q E) hP (fun h => h) k
theorem Post.Ow {v : Val} {r : Res α} (hP : Post prog w cx R ρ s (match v with | .none => r | _ => .bad) Q E) (k : v = .none -> Post prog w cx R ρ s r Q E -> G) : G := Di (P := fun r => Post prog w cx R ρ s r Q E) hP (fun h => h) k
theorem Post.Mr {c : Prop} [Decidable c] {r : Res α} (hP : Post prog w cx R ρ s (if c then r else .bad) Q E) (k : c -> Post prog w cx R ρ s r Q E -> G) : G := lN (P := fun r => Post prog w cx R ρ s r Q E) hP (fun h => h) k
theorem Post.lM {h : List Cell} {o : Option Bool} {R : Rl Val β} {Q : β -> Shared -> Prop} (hP : Post prog w cx R ρ s (lM o h) Q E) (k : ∀ c,o = some c -> Post prog w cx R ρ s (.ok (.bool c) h) Q E -> G) : G := by
 cases o with
 | none => exact hP.elim
 | some c => exact k c rfl hP
end
theorem Post.ok {v : α} {u : β} {H' : List Cell} {ρ' : List Addr} {s' : Shared} (x : Post prog w cx R ρ s (.ok v H') Q E) (e : Ext [] ρ s ρ' s') (hr : cu prog w s'.heap ρ' H') (hv : R s'.heap ρ' v u) : Q u s' := x u ρ' s' e hr hv
theorem Post.same {v : α} {u : β} {H' : List Cell} {h' : Heap} {k : Nat} (x : Post prog w cx R ρ s (.ok v H') Q E) (hk : ∀ b o,s.heap.get? b = some o -> h'.get? b = some o) (hr : cu prog w s.heap ρ H') (hv : R h' ρ v u) :
  Q u { s with heap := h',toks := k } := x u ρ _ (Ext.all hk) (hr.all hk) hv
theorem Post.toks {v : α} {u : β} {H' : List Cell} {k : Nat} (x : Post prog w cx R ρ s (.ok v H') Q E) (hr : cu prog w s.heap ρ H') (hv : R s.heap ρ v u) : Q u { s with toks := k } :=
 x.same (h' := s.heap) (fun _ _ e => e) hr hv
theorem Post.here {v : α} {u : β} {H' : List Cell} (x : Post prog w cx R ρ s (.ok v H') Q E) (hr : cu prog w s.heap ρ H') (hv : R s.heap ρ v u) : Q u s := x u ρ _ Ext.refl hr hv
end
noncomputable abbrev RV : Rl Val Value := fun h ρ v u => aC h ρ v u
noncomputable abbrev RVs : Rl (List Val) (List Value) := fun h ρ v u => aD h ρ v u
noncomputable abbrev RB : Rl Bool Bool := fun _ _ b c => b = c
noncomputable def yH : vI -> Operator
 | .add => .Add | .sub => .Sub | .fdiv => .FloorDiv | .mod => .Mod
noncomputable def jo : qO -> CmpOp
 | .eq => .Eq | .ne => .NotEq | .lt => .Lt | .le => .LtE | .gt => .Gt | .ge => .GtE | .is_ => .Is | .jV => .IsNot | .Ja => .In | .pQ => .NotIn
section
variable {prog : Program} {w : World} {cx : Cx} {A : Around} {ρ : List Addr} {H : List Cell} {s : Shared} {E : Value -> Shared -> Prop}
theorem PlainL.isList {h : Heap} {a : Addr} {its : Array Value} (x : PlainL h a its) : h.IsList a its := let ⟨o,n,e,hc,_,hd⟩ := x; ⟨o,e,hc,n,hd⟩
theorem cu.N6 (hr : cu prog w s.heap ρ H) {l : Nat} {a : Addr} {vs : List Val} (e : H[l]? = some (.lst vs)) (ha : ρ[l]? = some a) : ∃ ws : List Value,PlainL s.heap a ws.toArray /\ aD s.heap ρ vs ws := hr.cell l _ a e ha
theorem cu.lst (hr : cu prog w s.heap ρ H) {l : Nat} {a : Addr} {vs : List Val} (e : H[l]? = some (.lst vs)) (ha : ρ[l]? = some a) : ∃ ws : List Value,s.heap.IsList a ws.toArray /\ aD s.heap ρ vs ws := let ⟨ws,h1,h2⟩ := hr.N6 e ha; ⟨ws,h1.isList,h2⟩
theorem cu.at (hr : cu prog w s.heap ρ H) {l : Nat} {c : Cell} (e : H[l]? = some c) : ∃ a,ρ[l]? = some a := by
 have h1 := (List.getElem?_eq_some_iff.mp e).1
 rw [<- hr.len] at h1
 exact ⟨_,List.getElem?_eq_getElem h1⟩
theorem add_lists {a b : Addr} {xs ys : List Value} {Q : Value -> Shared -> Prop} (hx : s.heap.IsList a xs.toArray) (hy : s.heap.IsList b ys.toArray) (hz : xs.length + ys.length <= 16777216)
  (h : ∀ l c h' k,(∀ b o,s.heap.get? b = some o -> h'.get? b = some o) -> s.heap.get? l = none -> h'.get? l = some ⟨.type "list",none,.seq (xs ++ ys).toArray c,#[]⟩ -> Q (.ref l) { s with heap := h',toks := k }) :
  wpAny (model prog w) A (binaryOp .Add (.ref a) (.ref b)) Q E s := by
 obtain ⟨⟨c1,d1,t1,s1⟩,ho,hc,n,hd⟩ := id hx
 obtain ⟨⟨c2,d2,t2,s2⟩,ho2,hc2,n2,hd2⟩ := id hy
 simp only at hc hd hc2 hd2
 subst hc hd hc2 hd2
 have hz' : xs.toArray.size + ys.toArray.size <= sizeLine := by rw [List.size_toArray,List.size_toArray,sizeLine_eq]; exact hz
 refine concat_meets hx.typeIs hy.typeIs noFill_list_add seq_list_add F.slot_list_add F.entry_list_add (F.args_list_add_2 _ _) (list_addW a b _ _ n n2 d1 d2 s1 s2 hz') ⟨ho,ho2,?_⟩
 exact h _ 0 _ _ (fun b o e => Heap.get?_push_of_some _ e) (Heap.get?_none_of_le (Nat.le_refl _)) (by rw [<- List.append_toArray]; exact Heap.get?_push_size _ rfl)
theorem cu.put {h h' : Heap} {ρ : List Addr} {H : List Cell} {l : Nat} {a : Addr} {c : Cell} (hr : cu prog w h ρ H) (ha : ρ[l]? = some a) (hk : ∀ b o,b ≠ a -> h.get? b = some o -> h'.get? b = some o) (hc : iC prog w h' ρ c a) (ho : ∃ o,h'.get? a = some o) (hd : c ≠ .dead) : cu prog w h' ρ (H.set l c) where
 len := by rw [List.length_set,hr.len]
 nodup := hr.nodup
 cell := fun i c' b hi hb => by
  by_cases e : l = i
  ·subst e
   rw [ha] at hb; cases hb
   rw [List.getElem?_set_self' ] at hi
   cases hq : H[l]? with
   | none => rw [hq] at hi; exact cN hi
   | some q => rw [hq] at hi; cases hi; exact hc
  ·rw [List.getElem?_set_ne e] at hi
   have hne : b ≠ a := fun q => by
    subst q
    obtain ⟨h1,h2⟩ := List.getElem?_eq_some_iff.mp ha
    obtain ⟨h3,h4⟩ := List.getElem?_eq_some_iff.mp hb
    rcases Nat.lt_trichotomy l i with q | q | q
    ·exact List.pairwise_iff_getElem.mp hr.nodup l i h1 h3 q (h2.trans h4.symm)
    ·exact e q
    ·exact List.pairwise_iff_getElem.mp hr.nodup i l h3 h1 q (h4.trans h2.symm)
   obtain ⟨o,hbo⟩ := hr.old b (bZ hb)
   have := (hr.cell i c' b hi hb).grow (h' := h') (τ := []) (fun b' o' e' _ hn => ⟨o'.slots,hk b' o' (fun q => hn (q ▸ bZ ha)) e'⟩) cC.nil hbo (hk b o hne hbo)
   rwa [List.append_nil] at this
 sI := fun b hb => by
  by_cases e : b = a
  ·subst e; exact hc.nf hd
  ·obtain ⟨o,hbo,hn⟩ := hr.sI b hb; exact ⟨o,hk b o e hbo,hn⟩
theorem Keeps.put {h h' : Heap} {ρ : List Addr} {a : Addr} {l : Nat} (ha : ρ[l]? = some a) (hk : ∀ b o,b ≠ a -> h.get? b = some o -> h'.get? b = some o) : Keeps ρ h h' := fun b' o' e' _ hn => ⟨o'.slots,hk b' o' (fun q => hn (q ▸ bZ ha)) e'⟩
theorem Ext.put {W : List Addr} {l : Nat} {a : Addr} {h' : Heap} {k : Nat} (ha : ρ[l]? = some a) (hk : ∀ b o,b ≠ a -> s.heap.get? b = some o -> h'.get? b = some o) (ho : ∃ o,h'.get? a = some o) : Ext W ρ s ρ { s with heap := h',toks := k } where
 rest := rfl
 pre := ⟨[],(List.append_nil _).symm,cC.nil⟩
 keep := fun b o e hb _ => hk b o (fun q => hb (q ▸ bZ ha)) e
 live := fun b e => by
  by_cases q : b = a
  ·subst q; obtain ⟨o,ho⟩ := ho; rw [show Shared.heap { s with heap := h',toks := k } = h' from rfl,ho] at e; exact SX e
  ·cases hb : s.heap.get? b with
   | none => rfl
   | some o => have := hk b o q hb; rw [show Shared.heap { s with heap := h',toks := k } = h' from rfl,this] at e; exact SX e
theorem cu.snoc {h h' : Heap} {ρ : List Addr} {H : List Cell} {l : Addr} {c : Cell} (hr : cu prog w h ρ H) (hk : ∀ b,b ≠ l -> h'.get? b = h.get? b) (hl : l ∉ ρ) (hi : ∀ o,h.get? l = some o -> ¬ S9 o) (hc : iC prog w h' (ρ ++ [l]) c l) (ho : ∃ o,h'.get? l = some o) (hd : c ≠ .dead := by intro q; cases q) : cu prog w h' (ρ ++ [l]) (H ++ [c]) where
 len := by rw [List.length_append,List.length_append,hr.len]; rfl
 nodup := by
  rw [List.nodup_append]
  refine ⟨hr.nodup,by simp,fun a ha b hb => ?_⟩
  rw [List.mem_singleton.mp hb]
  rintro rfl
  exact hl ha
 cell := fun i c' a hc' ha => by
  have f : oO h [l] := fun b hb => by rw [List.mem_singleton.mp hb]; exact hi
  have k : Keeps ρ h h' := fun b o e im hb => ⟨o.slots,by
   by_cases q : b = l
   ·subst q; exact absurd im (hi o e)
   ·rw [hk b q]; exact e⟩
  by_cases hi' : i < H.length
  ·rw [List.getElem?_append_left hi'] at hc'
   rw [List.getElem?_append_left (by rw [hr.len]; exact hi')] at ha
   obtain ⟨o,ho'⟩ := hr.old a (bZ ha)
   have hne : a ≠ l := fun q => hl (q ▸ bZ ha)
   exact (hr.cell i c' a hc' ha).lA k f ho' (by rw [hk a hne]; exact ho')
  ·have h1 := (List.getElem?_eq_some_iff.mp hc').1
   rw [List.length_append,List.length_singleton] at h1
   obtain rfl : i = H.length := by omega
   rw [List.getElem?_append_right (Nat.le_refl _),Nat.sub_self] at hc'
   rw [List.getElem?_append_right (by rw [hr.len]; exact Nat.le_refl _),hr.len,Nat.sub_self] at ha
   cases hc'; cases ha
   exact hc
 sI := fun a ha => by
  rcases List.mem_append.mp ha with m | m
  ·obtain ⟨o,ho',hn⟩ := hr.sI a m
   exact ⟨o,by rw [hk a (fun q => hl (q ▸ m))]; exact ho',hn⟩
  ·rw [List.mem_singleton.mp m]; exact hc.nf hd
theorem cu.push {h h' : Heap} {ρ : List Addr} {H : List Cell} {l : Addr} {c : Nat} {vs : List Val} {ws : List Value} {sl : Array (Option Value)} (hr : cu prog w h ρ H) (hk : ∀ b o,h.get? b = some o -> h'.get? b = some o) (hn : h.get? l = none) (hl : h'.get? l = some ⟨.type "list",none,.seq ws.toArray c,sl⟩)
  (hv : aD h ρ vs ws) : cu prog w h' (ρ ++ [l]) (H ++ [.lst vs]) where
 len := by rw [List.length_append,List.length_append,hr.len]; rfl
 nodup := by
  rw [List.nodup_append]
  refine ⟨hr.nodup,by simp,fun a ha b hb => ?_⟩
  rw [List.mem_singleton.mp hb]
  rintro rfl
  obtain ⟨o,ho⟩ := hr.old a ha
  rw [hn] at ho; exact cN ho
 cell := fun i c' a hc ha => by
  have f : cC h [l] := fun b hb => by rw [List.mem_singleton.mp hb]; exact hn
  by_cases hi : i < H.length
  ·rw [List.getElem?_append_left hi] at hc
   rw [List.getElem?_append_left (by rw [hr.len]; exact hi)] at ha
   obtain ⟨o,ho⟩ := hr.old a (bZ ha)
   exact (hr.cell i c' a hc ha).grow (Keeps.qp hk) f ho (hk _ _ ho)
  ·have h1 := (List.getElem?_eq_some_iff.mp hc).1
   rw [List.length_append,List.length_singleton] at h1
   obtain rfl : i = H.length := by omega
   rw [List.getElem?_append_right (Nat.le_refl _),Nat.sub_self] at hc
   rw [List.getElem?_append_right (by rw [hr.len]; exact Nat.le_refl _),hr.len,Nat.sub_self] at ha
   cases hc; cases ha
   exact ⟨ws,⟨_,c,hl,rfl,rfl,rfl⟩,hv.grow (Keeps.qp hk) f⟩
 sI := fun a ha => by
  rcases List.mem_append.mp ha with m | m
  ·obtain ⟨o,ho,hn⟩ := hr.sI a m
   exact ⟨o,hk _ _ ho,hn⟩
  ·rw [List.mem_singleton.mp m]; exact ⟨_,hl,fun vs q => nomatch q⟩
theorem Ext.one {l : Addr} {h' : Heap} {k : Nat} (hk : ∀ b o,s.heap.get? b = some o -> h'.get? b = some o) (hn : s.heap.get? l = none) : Ext [] ρ s (ρ ++ [l]) { s with heap := h',toks := k } where
 rest := rfl
 pre := ⟨[l],rfl,fun b hb => by rw [List.mem_singleton.mp hb]; exact hn⟩
 keep := fun b o e _ _ => hk b o e
 live := (Ext.all (W := []) (ρ := ρ) (k := k) hk).live
theorem q7 {ρ : List Addr} {H : List Cell} {l : Addr} (e : ρ.length = H.length) : (ρ ++ [l])[H.length]? = some l := by
 rw [<- e]; simp
theorem cu.sW {u : Addr} {vs : List Val} {ws : List Value} {c : Nat} {h' : Heap} {k : Nat} {sl : Array (Option Value)} {Q : Value -> Shared -> Prop} (hr : cu prog w s.heap ρ H) (hk : ∀ b o,s.heap.get? b = some o -> h'.get? b = some o) (hn : s.heap.get? u = none)
  (hl : h'.get? u = some ⟨.type "list",none,.seq ws.toArray c,sl⟩) (hv : aD s.heap ρ vs ws) (hP : Post prog w cx RV ρ s (.ok (.lst H.length) (H ++ [.lst vs])) Q E) : Q (.ref u) { s with heap := h',toks := k } :=
 hP.ok (Ext.one hk hn) (hr.push hk hn hl hv) (.lst (q7 hr.len))
theorem Ub {op : vI} {u v : Val} {x y : Value} {Q : Value -> Shared -> Prop} (hr : cu prog w s.heap ρ H) (hu : aC s.heap ρ u x) (hv : aC s.heap ρ v y) (hP : Post prog w cx RV ρ s (gY op u v H) Q E) :
  wpAny (model prog w) A (binaryOp (yH op) x y) Q E s := by
 induction hu using aC.cs with
 | int i t => induction hv using aC.cs with
  | int j t' => cases op with
   | add => dsimp only [gY] at hP; exact add_int (hP.toks hr (.int _ _))
   | sub => dsimp only [gY] at hP; exact P.sub_int (hP.toks hr (.int _ _))
   | fdiv =>
    dsimp only [gY] at hP
    by_cases hj : 0 < j /\ j < 1073741824
    ·rw [if_pos hj] at hP
     refine floordiv_int (by have := hj.1; lia) ?_ (.inl (PyProof.noPylong_small (by have := hj.1; have := hj.2; lia)))
     rw [Int.fdiv_eq_ediv_of_nonneg _ (Int.le_of_lt hj.1)]
     exact hP.toks hr (.int _ _)
    ·rw [if_neg hj] at hP; exfalso; exact hP.no rfl
   | mod =>
    dsimp only [gY] at hP
    by_cases hj : 0 < j
    ·rw [if_pos hj] at hP
     refine mod_int' (by lia) ?_
     rw [Int.fmod_eq_emod_of_nonneg _ (Int.le_of_lt hj)]
     exact hP.toks hr (.int _ _)
    ·rw [if_neg hj] at hP; exfalso; exact hP.no rfl
  | _ => exfalso; exact hP.no rfl
 | bytes x t => induction hv using aC.cs with
  | bytes y t' => cases op with
   | add =>
    dsimp only [gY] at hP
    by_cases hz : x.length + y.length <= bH
    ·rw [if_pos hz] at hP
     refine KBy.add_bytes (by simpa [bH] using hz) fun t' k => ?_
     rw [List.append_toArray]
     exact hP.toks hr (.bytes _ _)
    ·rw [if_neg hz] at hP; exfalso; exact hP.no rfl
   | _ => exfalso; exact hP.no rfl
  | _ => exfalso; exact hP.no rfl
 | lst ha => induction hv using aC.cs with
  | lst hb => cases op with
   | add =>
    refine hP.KC fun vs h1 hP => hP.KC fun us h2 hP => hP.Mr fun hz hP => ?_
    obtain ⟨xs,hx,rx⟩ := hr.lst h1 ha
    obtain ⟨ys,hy,ry⟩ := hr.lst h2 hb
    refine add_lists hx hy (by rw [rx.length,ry.length]; exact hz) fun l c h' k hk hn hl => ?_
    exact hr.sW hk hn hl (rx.append ry) hP
   | _ => exfalso; exact hP.no rfl
  | _ => exfalso; exact hP.no rfl
 | _ => exfalso; exact hP.no rfl
end
end Mine
end
section
open PySem PySem.W PyProof.Rows PySem.Spec PySem.Calls PySem.Builtin
namespace Mine
theorem xZ : typeLookup (.type "bytes") "__index__" = pure none := by rw [typeLookup_type,builtinLookup_eq_fast]; kernel_rfl
theorem pR : isSubtype (.type "bytes") (.type "tuple") = pure false := by rw [isSubtype_type]; kernel_rfl
theorem rE {b : List UInt8} {t u : Tok} {i : Int} (h0 : 0 <= i) (h1 : i < 256) : Gives («bytes.__contains__» ⟨[.bytes b.toArray t,.int i u],[]⟩) (.val (.bool (b.contains i.toNat.toUInt8))) := by
 refine .of_wp fun M A E s Q hq => ?_
 show wpAny M A (Bytes.containsIn "bytes.__contains__" (.bytes b.toArray t) (.int i u) >>= fun r => ret (.bool r)) _ E s
 refine wpAny_bind ?_
 unfold Bytes.containsIn
 refine wpAny_bind (wpAny_attempt (wpAny_of_eq (a := i) rfl ?_))
 refine wpAny_bind (wpAny_of_eq KBy.buffer_eq ?_)
 show wpAny M A (if (decide (i < 0) || decide (i ≥ 256)) = true then _ else _) _ E s
 rw [if_neg (by simp only [Bool.or_eq_true,decide_eq_true_eq]; lia)]
 refine wpAny_pure (wpAny_pure ⟨_,rfl,?_⟩)
 rw [List.contains_toArray]
 exact hq
theorem DG (b : List UInt8) (i : Nat) (h : i < b.length) : b.toArray.extract i (i + 1) = #[b[i]] := by
 apply Array.ext'
 rw [Array.toList_extract]
 show (b.drop i).take (i + 1 - i) = [b[i]]
 rw [List.drop_eq_getElem_cons h,Nat.add_sub_cancel_left]
 rfl
theorem Dw (b : List UInt8) (c : UInt8) (lo : Nat) : Bytes.find? b.toArray #[c] lo b.length = ((b.drop lo).findIdx? (· == c)).map (· + lo) := by
 unfold Bytes.find?
 have hn : b.length + 1 - (lo + (#[c] : Array UInt8).size) = b.length - lo := by
  exact Nat.add_sub_add_right _ 1 _
 rw [hn]
 have main : ∀ (n lo : Nat),n = b.length - lo -> lo <= b.length -> ((List.range n).map (· + lo)).find? (fun i => b.toArray.extract i (i + (#[c] : Array UInt8).size) == #[c]) = ((b.drop lo).findIdx? (· == c)).map (· + lo) := by
  intro n
  induction n with
  | zero =>
   intro lo h hl
   rw [List.drop_eq_nil_of_le (Nat.le_of_sub_eq_zero h.symm)]
   rfl
  | succ n ih =>
   intro lo h hl
   have hlt : lo < b.length := Nat.sub_pos_iff_lt.mp (h ▸ Nat.succ_pos n)
   rw [List.drop_eq_getElem_cons hlt,List.range_succ_eq_map,List.map_cons,List.find?_cons,List.findIdx?_cons]
   have e1 : (b.toArray.extract (0 + lo) (0 + lo + (#[c] : Array UInt8).size) == #[c]) = (b[lo] == c) := by
    simp only [Nat.zero_add]
    rw [show lo + (#[c] : Array UInt8).size = lo + 1 from rfl,DG b lo hlt]
    simp
   rw [e1]
   cases hc : (b[lo] == c) with
   | true => simp
   | false =>
    simp only [Bool.false_eq_true,if_false]
    have := ih (lo + 1) (by rw [Nat.sub_succ,<- h]; rfl) hlt
    rw [List.map_map,show ((fun x => x + lo) ∘ Nat.succ) = fun x => x + (lo + 1) from funext fun x => Nat.succ_add x lo,this]
    cases (b.drop (lo + 1)).findIdx? (· == c) with
    | none => rfl
    | some k => exact congrArg some (Nat.succ_add k lo).symm
 by_cases hl : lo <= b.length
 ·exact main _ lo rfl hl
 ·rw [Nat.sub_eq_zero_of_le (Nat.le_of_not_le hl),List.drop_eq_nil_of_le (Nat.le_of_not_le hl)]; rfl
theorem yr {M : Model} {A : Around} {E : Value -> Shared -> Prop} {s : Shared} {b : Array UInt8} {t : Tok} {Q : Int -> Shared -> Prop} (hh : A.handled = none)
  (h : ∀ h' tk e,(∀ b o,s.heap.get? b = some o -> h'.get? b = some o) -> E (.ref e) { s with heap := h',toks := tk }) : wpAny M A (asIndex (.bytes b t)) Q E s := by
 unfold asIndex
 refine wpAny_bind (wpAny_of_eq (a := none) rfl ?_)
 show wpAny M A (callSpecial? (.bytes b t) "__index__" >>= _) Q E s
 refine wpAny_bind ?_
 have e : callSpecial? (.bytes b t) "__index__" = pure none := by
  unfold callSpecial?
  rw [KBy.special_eq xZ]
  rfl
 refine wpAny_of_eq e ?_
 show wpAny M A (typeNameOfCut 200 (.bytes b t) >>= fun n => raiseErrorMade "TypeError" _) Q E s
 refine wpAny_bind (wpAny_of_eq (a := "bytes") (by kernel_rfl) ?_)
 exact wpAny_raiseErrorMade plainExc_TypeError hh (fun h' tk e x => h h' tk e x.keeps) (by decide +kernel)
theorem rD {b : List UInt8} {c : UInt8} {t u : Tok} : Meets («bytes.__contains__» ⟨[.bytes b.toArray t,.bytes [c].toArray u],[]⟩) (fun A R s => A.handled = none /\ ∀ h' k,(∀ b o,s.heap.get? b = some o -> h'.get? b = some o) -> R (.ok (.ret (.bool (b.contains c)))) { s with heap := h',toks := k }) := by
 refine .of_wp fun prog w A R s hS => ?_
 obtain ⟨hh,h⟩ := hS
 show wpAny _ _ (Bytes.containsIn "bytes.__contains__" (.bytes b.toArray t) (.bytes [c].toArray u) >>= fun r => ret (.bool r)) _ _ s
 refine wpAny_bind ?_
 unfold Bytes.containsIn
 refine wpAny_bind (wpAny_attempt (yr hh fun h' tk e hk => ?_))
 refine wpAny_bind (wpAny_of_eq KBy.buffer_eq ?_)
 refine wpAny_bind (wpAny_of_eq KBy.buffer_eq ?_)
 refine wpAny_bind (wpAny_rule (wpAny_pure (wpAny_pure ⟨_,rfl,?_⟩)))
 have e : (Bytes.find? b.toArray #[c] 0 b.length).isSome = b.contains c := by
  rw [Dw]
  simp only [List.drop_zero,Option.isSome_map,List.findIdx?_isSome,List.contains_eq_any_beq]
  refine congrArg (fun f => b.any f) (funext fun x => ?_)
  exact Bool.beq_comm
 rw [show b.toArray.size = b.length from rfl,e]
 exact h h' tk hk
theorem aZ {b c : List UInt8} {t u : Tok} : Gives («bytes.startswith» ⟨[.bytes b.toArray t,.bytes c.toArray u],[]⟩) (.val (.bool (c.isPrefixOf b))) := by
 refine .of_wp fun M A E s Q hq => ?_
 show wpAny M A (isInstance (.bytes c.toArray u) (.type "tuple") >>= fun r => _) _ E s
 refine wpAny_bind (wpAny_isInstance (typeIs_bytes s _ u) pR ?_)
 show wpAny M A (Bytes.buffer? _ (.bytes c.toArray u) >>= fun r => _) _ E s
 refine wpAny_bind (wpAny_of_eq KBy.buffer_eq ?_)
 refine wpAny_pure ⟨_,rfl,?_⟩
 have e : (if (min (b.length : Int) (if ((b.length : Int)) < 0 then max 0 ((b.length : Int) + (b.length : Int)) else (b.length : Int))) - (if (0 : Int) < 0 then max 0 ((0 : Int) + (b.length : Int)) else 0) < ((c.toArray.size : Nat) : Int) then false
   else (b.toArray.extract (if (0 : Int) < 0 then max 0 ((0 : Int) + (b.length : Int)) else 0 : Int).toNat ((if (0 : Int) < 0 then max 0 ((0 : Int) + (b.length : Int)) else 0 : Int).toNat + c.toArray.size) == c.toArray)) = c.isPrefixOf b := by
  rw [if_neg (show ¬ ((b.length : Int) < 0) by lia),if_neg (show ¬ ((0 : Int) < 0) by lia),List.size_toArray]
  split
  ·rename_i h
   rw [eq_comm,Bool.eq_false_iff]
   intro h2
   have := (List.isPrefixOf_iff_prefix.mp h2).length_le
   lia
  ·rename_i h
   have hl : c.length <= b.length := by lia
   show (b.toArray.extract 0 (0 + c.length) == c.toArray) = _
   have e2 : b.toArray.extract 0 (0 + c.length) = (b.take c.length).toArray := by
    apply Array.ext'
    rw [Array.toList_extract]
    show (b.drop 0).take (0 + c.length - 0) = _
    rw [List.drop_zero,Nat.zero_add,Nat.sub_zero]
   rw [e2]
   rw [Bool.eq_iff_iff,beq_iff_eq,List.isPrefixOf_iff_prefix]
   constructor
   ·intro q
    have q' : b.take c.length = c := congrArg Array.toList q
    rw [<- q']; exact List.take_prefix _ _
   ·intro q
    rw [List.prefix_iff_eq_take.mp q]
    simp
 rw [<- e] at hq
 exact hq
theorem bk {b c : List UInt8} {t u : Tok} : Gives («bytes.endswith» ⟨[.bytes b.toArray t,.bytes c.toArray u],[]⟩) (.val (.bool (c.isSuffixOf b))) := by
 refine .of_wp fun M A E s Q hq => ?_
 show wpAny M A (isInstance (.bytes c.toArray u) (.type "tuple") >>= fun r => _) _ E s
 refine wpAny_bind (wpAny_isInstance (typeIs_bytes s _ u) pR ?_)
 show wpAny M A (Bytes.buffer? _ (.bytes c.toArray u) >>= fun r => _) _ E s
 refine wpAny_bind (wpAny_of_eq KBy.buffer_eq ?_)
 refine wpAny_pure ⟨_,rfl,?_⟩
 have e : (if (min (b.length : Int) (if ((b.length : Int)) < 0 then max 0 ((b.length : Int) + (b.length : Int)) else (b.length : Int))) - (if (0 : Int) < 0 then max 0 ((0 : Int) + (b.length : Int)) else 0) < ((c.toArray.size : Nat) : Int) then false
   else (b.toArray.extract ((min (b.length : Int) (if ((b.length : Int)) < 0 then max 0 ((b.length : Int) + (b.length : Int)) else (b.length : Int))).toNat - c.toArray.size) (min (b.length : Int) (if ((b.length : Int)) < 0 then max 0 ((b.length : Int) + (b.length : Int)) else (b.length : Int))).toNat == c.toArray)) = c.isSuffixOf b := by
  rw [if_neg (show ¬ ((b.length : Int) < 0) by lia),if_neg (show ¬ ((0 : Int) < 0) by lia),List.size_toArray,Int.min_self]
  split
  ·rename_i h
   rw [eq_comm,Bool.eq_false_iff]
   intro h2
   have := (List.isSuffixOf_iff_suffix.mp h2).length_le
   lia
  ·rename_i h
   have hl : c.length <= b.length := by lia
   rw [Int.toNat_natCast]
   have e2 : b.toArray.extract (b.length - c.length) b.length = (b.drop (b.length - c.length)).toArray := by
    apply Array.ext'
    rw [Array.toList_extract]
    show (b.drop (b.length - c.length)).take (b.length - (b.length - c.length)) = _
    rw [List.take_of_length_le (by rw [List.length_drop]; exact Nat.le_refl _)]
   rw [e2]
   rw [Bool.eq_iff_iff,beq_iff_eq,List.isSuffixOf_iff_suffix]
   constructor
   ·intro q
    have q' : b.drop (b.length - c.length) = c := congrArg Array.toList q
    rw [<- q']; exact List.drop_suffix _ _
   ·intro q
    rw [<- List.suffix_iff_eq_drop.mp q]
 rw [<- e] at hq
 exact hq
theorem cT {b : List UInt8} {c : UInt8} {t u : Tok} (hl : b.length <= 16777216) : Meets («bytes.rstrip» ⟨[.bytes b.toArray t,.bytes [c].toArray u],[]⟩) (fun _ R s => ∀ t' k,R (.ok (.ret (.bytes (cX b c).toArray t'))) { s with toks := k }) := by
 refine .of_wp fun prog w A R s h => ?_
 show wpAny _ _ (Bytes.bytesLike _ (.bytes [c].toArray u) >>= fun r => _) _ _ s
 refine wpAny_bind (wpAny_of_eq KBd.like_eq (wpAny_bind (wpAny_pure ?_)))
 refine wpAny_bind (wpAny_of_eq (a := b.toArray) rfl ?_)
 have e : (b.toArray.toList.reverse.dropWhile (#[c] : Array UInt8).contains).reverse = cX b c := by
  unfold cX
  refine congrArg (fun f => (b.reverse.dropWhile f).reverse) (funext fun x => ?_)
  rw [Bool.eq_iff_iff]
  simp
 show wpAny _ _ (if ((b.toArray.toList.reverse.dropWhile (#[c] : Array UInt8).contains).reverse.length == b.toArray.size) = true then _ else _) _ _ s
 have hle : (cX b c).length <= b.length := by
  unfold cX
  rw [List.length_reverse]
  exact Nat.le_trans (List.dropWhile_sublist _).length_le (by rw [List.length_reverse]; exact Nat.le_refl _)
 rw [e]
 by_cases hq : ((cX b c).length == b.toArray.size) = true
 ·rw [if_pos hq]
  have hs : cX b c = b := by
   have h1 : (cX b c).length = b.length := by simpa using hq
   unfold cX at h1 ⊢
   have hp : (b.reverse.dropWhile (· == c)).reverse <+: b := by
    have := List.dropWhile_suffix (l := b.reverse) (· == c)
    simpa using List.reverse_prefix.mpr this
   exact hp.eq_of_length h1
  refine wpAny_bind (wpAny_rule (wpAny_bind ?_))
  show wpAny _ _ (typeOf (.bytes b.toArray t) >>= fun r => _) _ _ s
  refine wpAny_bind (wpAny_typeOf (typeIs_bytes s _ t) ?_)
  refine wpAny_ite ?_
  rw [if_pos (by decide)]
  have := h t s.toks
  rw [hs] at this
  exact wpAny_pure (wpAny_pure ⟨_,rfl,this⟩)
 ·rw [if_neg hq]
  refine wpAny_bind ?_
  show wpAny _ _ (mkBytes ((b.toArray.toList.reverse.dropWhile (#[c] : Array UInt8).contains).reverse).toArray) _ _ s
  rw [e]
  exact wpAny_mkBytes (wpAny_pure ⟨_,rfl,h _ _⟩) (by rw [List.size_toArray,sizeLine_eq]; lia)
theorem Lz {i : Int} {v : Tok} : Bytes.bound? (some (.int i v)) = pure (some i) := by
 show (specialOf (.int i v) "__index__" >>= _) = _
 rw [show specialOf (.int i v) "__index__" = typeLookup (.type "int") "__index__" from rfl,F.slot_int_index.lookup]
 rfl
theorem mJ {b : List UInt8} {c : UInt8} {t u v : Tok} {i : Int} (h0 : 0 <= i) (h1 : i <= b.length) : Gives («bytes.find» ⟨[.bytes b.toArray t,.bytes [c].toArray u,.int i v],[]⟩) (.int (cU b c i.toNat)) := by
 refine .of_wp fun M A E s Q hq => ?_
 show wpAny M A (Bytes.searchArgs .bytes "find" _ >>= fun r => _) _ E s
 refine wpAny_bind ?_
 unfold Bytes.searchArgs
 refine wpAny_bind (wpAny_of_eq (a := (.bytes b.toArray t,[.bytes #[c] u,.int i v])) rfl ?_)
 refine wpAny_bind (wpAny_of_eq Lz ?_)
 refine wpAny_bind (wpAny_of_eq (a := none) rfl ?_)
 refine wpAny_bind (wpAny_of_eq KBy.buffer_eq ?_)
 refine wpAny_bind (wpAny_pure ?_)
 refine wpAny_bind (wpAny_of_eq (a := b.toArray) rfl (wpAny_pure ?_))
 simp only [Option.getD_some,Option.getD_none,List.size_toArray,if_neg (show ¬ i < 0 by lia),if_neg (show ¬ ((b.length : Nat) : Int) < 0 by lia),Int.min_self,Int.toNat_natCast]
 by_cases hc : (b.length : Int) - i < (([c] : List UInt8).length : Nat)
 ·have e : cU b c i.toNat = -1 := by
   unfold cU
   rw [List.drop_eq_nil_of_le (by simp at hc; lia)]; rfl
  rw [if_pos hc]
  rw [e] at hq
  refine wpAny_bind (wpAny_rule ?_)
  exact wpAny_bind (wpAny_mkInt (wpAny_pure ⟨_,rfl,hq⟩))
 ·rw [if_neg hc]
  dsimp only [Option.bind_some]
  rw [if_neg (by decide),Dw]
  unfold cU at hq
  cases hf : (b.drop i.toNat).findIdx? (· == c) with
  | none =>
   rw [hf] at hq
   refine wpAny_bind (wpAny_rule ?_)
   exact wpAny_bind (wpAny_mkInt (wpAny_pure ⟨_,rfl,hq⟩))
  | some k =>
   rw [hf] at hq
   dsimp only at hq
   rw [Nat.add_comm] at hq
   exact wpAny_bind (wpAny_mkInt (wpAny_pure ⟨_,rfl,hq⟩))
theorem nu : Slot "bytes" "join" "bytes.join" :=
 .of (owner := "bytes") (n := "join") (by rw [typeLookup_type,builtinLookup_eq_fast]; kernel_rfl) (by decide +kernel) (by decide +kernel) (by decide +kernel)
  (by first | exact .inl (by decide +kernel) | exact .inr (by decide +kernel)) (by rw [isSubtype_type]; kernel_rfl)
theorem uN : typeOf (.builtin "bytes.join") = pure (.type "method_descriptor") := by show builtinType _ = _; rw [builtinType_eq_fast]; kernel_rfl
theorem tC : entryFor table "bytes.join" = some Builtin.«bytes.join» := entryFor_of_tree (by kernel_rfl)
theorem uW (a b : Value) : argsOk "bytes.join" ⟨[a,b],[]⟩ := by unfold argsOk; kernel_rfl
theorem lq : Slot "bytes" "rstrip" "bytes.rstrip" :=
 .of (owner := "bytes") (n := "rstrip") (by rw [typeLookup_type,builtinLookup_eq_fast]; kernel_rfl) (by decide +kernel) (by decide +kernel) (by decide +kernel)
  (by first | exact .inl (by decide +kernel) | exact .inr (by decide +kernel)) (by rw [isSubtype_type]; kernel_rfl)
theorem qP : typeOf (.builtin "bytes.rstrip") = pure (.type "method_descriptor") := by show builtinType _ = _; rw [builtinType_eq_fast]; kernel_rfl
theorem qF : entryFor table "bytes.rstrip" = some Builtin.«bytes.rstrip» := entryFor_of_tree (by kernel_rfl)
theorem rH (a b : Value) : argsOk "bytes.rstrip" ⟨[a,b],[]⟩ := by unfold argsOk; kernel_rfl
theorem nA : Slot "bytes" "find" "bytes.find" :=
 .of (owner := "bytes") (n := "find") (by rw [typeLookup_type,builtinLookup_eq_fast]; kernel_rfl) (by decide +kernel) (by decide +kernel) (by decide +kernel)
  (by first | exact .inl (by decide +kernel) | exact .inr (by decide +kernel)) (by rw [isSubtype_type]; kernel_rfl)
theorem uO : typeOf (.builtin "bytes.find") = pure (.type "method_descriptor") := by show builtinType _ = _; rw [builtinType_eq_fast]; kernel_rfl
theorem tD : entryFor table "bytes.find" = some Builtin.«bytes.find» := entryFor_of_tree (by kernel_rfl)
theorem uY (a b c : Value) : argsOk "bytes.find" ⟨[a,b,c],[]⟩ := by unfold argsOk; kernel_rfl
theorem Ed {id : String} {b : Array UInt8} {t : Tok} {full : Bool} : Bytes.buffer? id (.bytes b t) full = pure (some b) := by
 unfold Bytes.buffer?
 rw [KBy.special_eq KBy.look_buffer,KBy.own_buffer,KBy.own_release]
 kernel_rfl
theorem TV {id : String} {b : Array UInt8} {t : Tok} : Bytes.takeBufferQuiet? id (.bytes b t) 0 = pure (some (b,none)) := by
 unfold Bytes.takeBufferQuiet? Bytes.takeBuffer?
 rw [KBy.special_eq KBy.look_buffer,KBy.own_buffer,Ed]
 kernel_rfl
inductive gK : List Value -> List (List UInt8) -> Prop
 | nil : gK [] []
 | cons (b : List UInt8) (t : Tok) {vs : List Value} {bs : List (List UInt8)} (h : gK vs bs) : gK (.bytes b.toArray t :: vs) (b :: bs)
theorem gK.get {vs : List Value} {bs : List (List UInt8)} (h : gK vs bs) : ∀ {i : Nat},i < bs.length -> ∃ b t,bs[i]? = some b /\ vs[i]? = some (.bytes b.toArray t) := by
 induction h with
 | nil => intro i hi; simp at hi
 | cons b t h ih =>
  intro i hi
  cases i with
  | zero => exact ⟨b,t,rfl,rfl⟩
  | succ i =>
   obtain ⟨b',t',h1,h2⟩ := ih (i := i) (by simpa using hi)
   exact ⟨b',t',by simpa using h1,by simpa using h2⟩
theorem gK.length {vs : List Value} {bs : List (List UInt8)} (h : gK vs bs) : vs.length = bs.length := by
 induction h with
 | nil => rfl
 | cons b t h ih => simp [ih]
theorem yU : ∀ (bs : List (List UInt8)),Bytes.joined #[] (bs.map List.toArray) = bs.flatten.toArray := by
 have main : ∀ (bs : List (List UInt8)) (n : Nat) (acc : Array UInt8),((bs.map List.toArray).zipIdx n).foldl (fun out (x : Array UInt8 × Nat) => (if x.2 > 0 then out ++ #[] else out) ++ x.1) acc = acc ++ bs.flatten.toArray := by
  intro bs
  induction bs with
  | nil => intro n acc; simp
  | cons b bs ih =>
   intro n acc
   rw [List.map_cons,List.zipIdx_cons,List.foldl_cons,ih]
   by_cases hn : n > 0
   ·simp [hn]
   ·simp [hn]
 intro bs
 have := main bs 0 #[]
 simpa [Bytes.joined] using this
theorem qu {M : Model} {A : Around} {E : Value -> Shared -> Prop} {s : Shared} {Q : Unit -> Shared -> Prop} {keep : List Value} (h : Q () s) : ∀ (l : List (Value × Option Value)),(∀ p ∈ l,p.2 = none) -> wpAny M A (Bytes.joinLetGo l keep) Q E s
 | [],_ => by unfold Bytes.joinLetGo; exact wpAny_pure h
 | (x,w) :: r,hl => by
  obtain rfl : w = none := hl _ (.head _)
  unfold Bytes.joinLetGo
  refine wpAny_bind (wpAny_letGo ?_)
  exact qu h r fun p hp => hl p (.tail _ hp)
theorem join_loop {prog : Program} {w : World} {s : Shared} {ws : List Value} {bs : List (List UInt8)} (hb : gK ws bs) {f : Nat -> Array (Array UInt8) × List (Value × Option Value) -> Sem (ForInStep (Array (Array UInt8) × List (Value × Option Value)))}
  {Q : Array (Array UInt8) × List (Value × Option Value) -> Shared -> Prop} {E : Value -> Shared -> Prop} {A : Around}
  (turn : ∀ (i : Nat) (b : List UInt8) (u : Tok) st,ws[i]? = some (.bytes b.toArray u) -> (∀ p ∈ st.2,p.2 = none /\ p.1.onHeap = false) -> ∀ Q' : ForInStep (Array (Array UInt8) × List (Value × Option Value)) -> Shared -> Prop,Q' (ForInStep.yield (st.1.push b.toArray,st.2 ++ [(Value.bytes b.toArray u,none)])) s -> wpAny (model prog w) A (f i st) Q' E s)
  (fin : ∀ st,st.1 = (bs.map List.toArray).toArray -> (∀ p ∈ st.2,p.2 = none /\ p.1.onHeap = false) -> Q st s) :
  wpAny (model prog w) A (forIn [:ws.toArray.size] (#[],[]) f) Q E s := by
 have hlen := hb.length
 rw [Std.Legacy.Range.forIn_eq_forIn_range']
 refine wpAny_forIn_list _ (fun rest st s' => s' = s /\ ∃ i,rest = List.range' i (bs.length - i) /\ i <= bs.length /\ st.1 = ((bs.take i).map List.toArray).toArray /\ (∀ p ∈ st.2,p.2 = none /\ p.1.onHeap = false)) _ ?_ ?_ _ _ ⟨rfl,0,?_,Nat.zero_le _,rfl,fun p hp => nomatch hp⟩
 ·rintro i rest st s' ⟨rfl,j,hj,hle,hst,hp⟩
  have hlt : j < bs.length := by
   rcases Nat.lt_or_ge j bs.length with h | h
   ·exact h
   ·rw [show bs.length - j = 0 by lia] at hj; cases hj
  obtain ⟨b,u,hb1,hb2⟩ := hb.get hlt
  rw [show bs.length - j = (bs.length - (j + 1)) + 1 by lia,List.range'_succ] at hj
  injection hj with e1 e2
  subst e1
  refine turn i b u st hb2 hp _ ⟨rfl,i + 1,e2,hlt,?_,?_⟩
  ·rw [hst,List.take_add_one,hb1]
   simp
  ·intro p hp'
   rcases List.mem_append.mp hp' with m | m
   ·exact hp p m
   ·rw [List.mem_singleton.mp m]; exact ⟨rfl,rfl⟩
 ·rintro st s' ⟨rfl,j,hj,hle,hst,hp⟩
  have : bs.length - j = 0 := by
   have := congrArg List.length hj
   simpa using this.symm
  obtain rfl : j = bs.length := by lia
  rw [List.take_length] at hst
  exact fin st hst hp
 ·simp [hlen]
theorem yV {bs : List (List UInt8)} (hz : bs.flatten.length <= 16777216) (st : Array (Array UInt8)) (hst : st = (bs.map List.toArray).toArray) : Bytes.tooLong (Array.foldl (fun x1 x2 => x1 + x2.size) ((#[] : Array UInt8).size * (st.size - 1)) st) = false := by
 rw [hst]
 have main : ∀ (bs : List (List UInt8)) (n : Nat),(bs.map List.toArray).foldl (fun x1 (x2 : Array UInt8) => x1 + x2.size) n = n + bs.flatten.length := by
  intro bs
  induction bs with
  | nil => intro n; simp
  | cons b bs ih => intro n; rw [List.map_cons,List.foldl_cons,ih]; simp; lia
 rw [List.foldl_toArray,main]
 refine KBy.tooLong_not ?_
 simp only [List.size_toArray,List.length_nil,Nat.zero_mul,Nat.zero_add]
 exact hz
theorem Cq {l : List (Value × Option Value)} (h : ∀ p ∈ l,p.2 = none /\ p.1.onHeap = false) : (Bytes.Kind.bytes == Bytes.Kind.bytearray || l.any fun x => x.1.onHeap) = false := by
 rw [Bool.or_eq_false_iff]
 refine ⟨by decide,?_⟩
 rw [List.any_eq_false]
 intro p hp
 rw [(h p hp).2]
 exact Bool.false_ne_true
theorem VJ {ws : List Value} {i : Nat} {v d : Value} (e : ws[i]? = some v) : ws.toArray.getD i d = v := by
 obtain ⟨h1,h2⟩ := List.getElem?_eq_some_iff.mp e
 simp [h1,h2]
theorem yw {α : Type} {c : Prop} [Decidable c] {M : Model} {A : Around} {a b : Sem α} {Q : α -> Shared -> Prop} {E : Value -> Shared -> Prop} {s : Shared} (h : c) (k : wpAny M A a Q E s) : wpAny M A (if c then a else b) Q E s := by rw [if_pos h]; exact k
theorem oZ {α : Type} {c : Prop} [Decidable c] {M : Model} {A : Around} {a b : Sem α} {Q : α -> Shared -> Prop} {E : Value -> Shared -> Prop} {s : Shared} (h : ¬ c) (k : wpAny M A b Q E s) : wpAny M A (if c then a else b) Q E s := by rw [if_neg h]; exact k
theorem iW {l : Addr} {t : Tok} {ws : List Value} {bs : List (List UInt8)} (hb : gK ws bs) (hz : bs.flatten.length <= 16777216) :
  Meets («bytes.join» ⟨[.bytes #[] t,.ref l],[]⟩) (fun _ R s => s.heap.IsList l ws.toArray /\ ∀ t' k,R (.ok (.ret (.bytes bs.flatten.toArray t'))) { s with toks := k }) := by
 refine .of_wp fun prog w A R s hS => ?_
 obtain ⟨hl,h⟩ := hS
 obtain ⟨o,ho,hc,n,hd⟩ := id hl
 refine wpAny_bind (wpAny_of_eq (a := (.bytes #[] t,.ref l)) rfl ?_)
 show wpAny _ _ (Bytes.joinItems (.ref l) >>= fun seq => _) _ _ s
 refine wpAny_bind ?_
 unfold Bytes.joinItems
 refine wpAny_bind (wpAny_typeOf hl.typeIs ?_)
 show wpAny _ _ (if (Value.type "list" == Value.type "list" || Value.type "list" == Value.type "tuple") = true then pure (Value.ref l) else _) _ _ s
 refine yw (by decide +kernel) ?_
 refine wpAny_pure ?_
 refine wpAny_bind (wpAny_seqItems ho hd ?_)
 -- one item alone is handed back
 by_cases h1 : ∃ b u,ws = [Value.bytes b u]
 ·obtain ⟨b,u,rfl⟩ := h1
  cases hb with
  | cons b u hr =>
   cases hr
   refine wpAny_bind (wpAny_typeOf (typeIs_bytes s _ u) ?_)
   show wpAny _ _ (if (Value.type "bytes" == Value.type "bytes") = true then _ else _) _ _ s
   refine yw (by decide +kernel) ?_
   refine wpAny_bind (wpAny_rule (wpAny_pure ⟨_,rfl,?_⟩))
   have := h u s.toks
   rw [show [b].flatten = b by simp] at this
   exact this
 ·have hlen := hb.length
  match ws,hb,h1,hlen with
  | [],hb,h1,hlen =>
   cases hb
   refine wpAny_bind (wpAny_of_eq (a := (#[],[])) (by rw [Std.Legacy.Range.forIn_eq_forIn_range']; rfl) ?_)
   dsimp only
   refine wpAny_bind (wpAny_of_eq (a := #[]) rfl ?_)
   refine oZ (by rw [yV hz #[] rfl]; exact Bool.false_ne_true) ?_
   refine wpAny_bind ?_
   show wpAny _ _ (mkBytes (Bytes.joined #[] (([] : List (List UInt8)).map List.toArray))) _ _ s
   rw [yU]
   refine wpAny_mkBytes ?_ (by rw [List.size_toArray,sizeLine_eq]; exact hz)
   refine wpAny_bind (wpAny_holding (wpAny_point ?_))
   exact wpAny_bind (qu (wpAny_pure ⟨_,rfl,h _ _⟩) _ fun p hq => nomatch hq)
  | x :: y :: r,hb,h1,hlen =>
   refine wpAny_bind (join_loop hb ?_ ?_)
   ·intro i b u st hi hp Q' hQ
    refine wpAny_bind (wpAny_seqItems ho hd ?_)
    dsimp only
    rw [VJ hi]
    refine oZ (by rw [Cq hp]; exact Bool.false_ne_true) ?_
    refine wpAny_bind (wpAny_holding (wpAny_of_eq TV ?_))
    refine wpAny_bind (wpAny_seqItems ho hd ?_)
    dsimp only
    refine oZ (by simp) ?_
    exact wpAny_pure hQ
   ·intro st hst hp
    dsimp only
    refine wpAny_bind (wpAny_of_eq (a := #[]) rfl ?_)
    refine oZ (by rw [yV hz _ hst]; exact Bool.false_ne_true) ?_
    rw [hst]
    refine wpAny_bind ?_
    show wpAny _ _ (mkBytes (Bytes.joined #[] (bs.map List.toArray))) _ _ s
    rw [yU]
    refine wpAny_mkBytes ?_ (by rw [List.size_toArray,sizeLine_eq]; exact hz)
    refine wpAny_bind (wpAny_holding (wpAny_point ?_))
    refine wpAny_bind (qu ?_ _ fun p hq => (hp p hq).1)
    exact wpAny_pure ⟨_,rfl,h _ _⟩
  | [x],hb,h1,hlen =>
   cases hb with
   | cons b u hr => exact absurd ⟨_,u,rfl⟩ h1
end Mine
end
section
open PySem PySem.W PyProof.Rows PySem.Spec PySem.Calls
namespace Mine
def cY (prog : Program) (w : World) (h : Heap) : Prop :=
 ∃ m,h.MapOf (oN prog w) o8 m /\ (∀ k v,bI k = some v -> ∃ t,m k = some (.bytes v.toArray t)) /\ ∀ k,bI k = none -> m k = none
theorem iJ {α : Type} [DecidableEq α] [BEq α] [LawfulBEq α] (a b : α) : (a == b) = decide (a = b) := by
 by_cases h : a = b
 ·subst h; simp
 ·simp [h]
theorem z9 {a b : String} (h : PySem.Str.ofString a = PySem.Str.ofString b) : a = b := by
 rw [PySem.Str.ofString_eq_byList] at h
 unfold PySem.Str.ofStringByList at h
 have h1 : a.toList.map Char.toNat = b.toList.map Char.toNat := by
  have := congrArg (fun x : PySem.Str => x.cps.toList) h
  simpa using this
 have h2 : a.toList = b.toList := List.map_inj_right (fun x y e => Char.toNat_inj.mp e) |>.mp h1
 exact String.toList_inj.mp h2
section
variable {prog : Program} {w : World} {cx : Cx} {A : Around} {ρ : List Addr} {H : List Cell} {s : Shared} {E : Value -> Shared -> Prop} {Q : Value -> Shared -> Prop}
noncomputable def eqB (x : Value) : Value -> Bool
 | .int i _ => match x with | .int j _ => decide (i = j) | _ => false
 | .bytes a _ => match x with | .bytes b _ => decide (a.toList = b.toList) | _ => false
 | _ => false
def EqG (x y : Value) (c : Bool) : Prop := eqB x y = c /\ ∀ A s,SeqAt.EqAt A s y x c
theorem acY {h : Heap} {u v : Val} {x y : Value} {c : Bool} (hx : aC h ρ v x) (hy : aC h ρ u y) (e : GJ u v = some c) : EqG x y c := by
 have int : ∀ {i j t t'},EqG (.int j t') (.int i t) (decide (i = j)) := fun {i j t t'} => ⟨rfl,fun A s prog w E Q hq => wpAny_eqBool_int (by rw [iJ]; exact hq)⟩
 have Xr : ∀ {a b : Bs} {t t'},EqG (.bytes b.toArray t') (.bytes a.toArray t) (decide (a = b)) := fun {a b t t'} => ⟨rfl,fun A s prog w E Q hq => eqBool_bytes hq⟩
 cases u with
 | int i => cases v with
  | int j => obtain ⟨t,rfl⟩ := hx.inv; obtain ⟨t',rfl⟩ := hy.inv; cases (Option.some.inj e); exact int
  | _ => exact cN e
 | bytes i => cases v with
  | bytes j => obtain ⟨t,rfl⟩ := hx.inv; obtain ⟨t',rfl⟩ := hy.inv; cases (Option.some.inj e); exact Xr
  | _ => exact cN e
 | _ => exact cN e
def SM (x : Value) (ws : List Value) (b : Bool) : Prop := ws.any (eqB x) = b /\ ∀ y ∈ ws,∀ A s,SeqAt.EqAt A s y x (eqB x y)
theorem SM.cons {x y : Value} {ws : List Value} {c d : Bool} (a : EqG x y c) (b : SM x ws d) : SM x (y :: ws) (c || d) := ⟨by rw [List.any_cons,a.1,b.1],fun z hz => by
 rcases List.mem_cons.mp hz with rfl | hz
 ·exact fun A s => a.1.symm ▸ a.2 A s
 ·exact b.2 z hz⟩
theorem Wm {v u : Val} {vs : List Val} {b : Bool} (e : dM v (u :: vs) = some b) : ∃ c d,GJ u v = some c /\ dM v vs = some d /\ (c || d) = b := by
 have e : (match GJ u v,dM v vs with | some c,some d => some (c || d) | _,_ => none) = some b := e
 revert e
 cases GJ u v with
 | none => exact cN
 | some c => cases dM v vs with
  | none => exact cN
  | some d => exact fun e => ⟨c,d,rfl,rfl,Option.some.inj e⟩
theorem any_eq {h : Heap} {v : Val} {x : Value} (hx : aC h ρ v x) (vs : List Val) : ∀ {ws : List Value} {b : Bool},aD h ρ vs ws -> dM v vs = some b -> SM x ws b := by
 induction vs with
 | nil => intro ws b r e; cases r.inv; cases (Option.some.inj e); exact ⟨rfl,fun y hy => absurd hy List.not_mem_nil⟩
 | cons u vs ih =>
  intro ws b r e
  obtain ⟨y,ws,rfl,hy,hr⟩ := r.inv
  obtain ⟨c,d,h1,h2,rfl⟩ := Wm e
  exact SM.cons (acY hx hy h1) (ih hr h2)
def Mh (prog : Program) (w : World) (A : Around) (Q : Value -> Shared -> Prop) (E : Value -> Shared -> Prop) (s : Shared) (op no : CmpOp) (x y : Value) (b : Bool) : Prop := (Q (.bool b) s -> wpAny (model prog w) A (compareOp op x y) Q E s) /\ (Q (.bool (!b)) s -> wpAny (model prog w) A (compareOp no x y) Q E s)
theorem Q0 {v : Val} {x : Value} {vs : List Val} {ws : List Value} {b : Bool} {a : Addr} (hx : aC s.heap ρ v x) (hl : s.heap.IsList a ws.toArray \/ IsTup s.heap a ws.toArray) (hv : aD s.heap ρ vs ws) (e : dM v vs = some b) : Mh prog w A Q E s .In .NotIn x (.ref a) b := by
 obtain ⟨h1,h2⟩ := any_eq hx _ hv e
 have h1' : ws.toArray.any (eqB x) = b := by simpa using h1
 have h2' : ∀ y ∈ ws.toArray,∀ A,SeqAt.EqAt A s y x (eqB x y) := fun y hy A => h2 y (by simpa using hy) A _
 subst h1'
 rcases hl with hl | hl
 ·exact ⟨SeqAt.in_listAt (eqB x) hl fun y hy => h2' y hy _,SeqAt.notIn_listAt (eqB x) hl fun y hy => h2' y hy _⟩
 ·exact ⟨SeqAt.in_tupleAt (eqB x) hl fun y hy => h2' y hy _,SeqAt.notIn_tupleAt (eqB x) hl fun y hy => h2' y hy _⟩
theorem FP {m : Bs -> Option Value} {wb : Bs} (m1 : ∀ k v,bI k = some v -> ∃ t,m k = some (.bytes v.toArray t)) (m2 : ∀ k,bI k = none -> m k = none) : (m wb).isSome = (bI wb).isSome := by
 cases hg : bI wb with
 | none => rw [m2 _ hg]; rfl
 | some v => obtain ⟨t,ht⟩ := m1 _ _ hg; rw [ht]; rfl
inductive Ma (h : Mine.H) : Val -> Val -> Bool -> Prop
 | ib {i : Int} {b : Bs} (hi : 0 <= i /\ i < 256) : Ma h (.int i) (.bytes b) (b.contains i.toNat.toUInt8)
 | bb {c : UInt8} {b : Bs} : Ma h (.bytes [c]) (.bytes b) (b.contains c)
 | tup {u : Val} {vs : List Val} {r : Bool} (e : dM u vs = some r) : Ma h u (.tup vs) r
 | lst {u : Val} {l : Nat} {vs : List Val} {r : Bool} (hl : h[l]? = some (.lst vs)) (e : dM u vs = some r) : Ma h u (.lst l) r
 | posix {w : Bs} : Ma h (.bytes w) .posix (bI w).isSome
theorem Dh {α : Type} {c : Prop} [Decidable c] {o : Option α} {a : α} (e : (if c then o else none) = some a) : c /\ o = some a := by
 by_cases h : c
 ·rw [if_pos h] at e; exact ⟨h,e⟩
 ·rw [if_neg h] at e; exact cN e
theorem Vx {a b : Bs} {r : Bool} (e : in1 a b = some r) : ∃ c,a = [c] /\ r = b.contains c := by
 rcases a with _ | ⟨c,_ | ⟨_,_⟩⟩
 ·exact cN e
 ·exact ⟨c,rfl,(Option.some.inj (Dh e).2).symm⟩
 ·exact cN e
theorem Ti {h : Mine.H} {u v : Val} {b : Bool} (e : tR h u v = some b) : Ma h u v b := by
 cases v with
 | bytes x => cases u with
  | int i => obtain ⟨hi,e⟩ := Dh e; cases (Option.some.inj e); exact .ib hi
  | bytes a => obtain ⟨c,rfl,rfl⟩ := Vx e; exact .bb
  | _ => exact cN e
 | tup vs => exact .tup e
 | lst l =>
  have e : (match h[l]? with | some (.lst vs) => dM u vs | _ => none) = some b := e
  cases hl : h[l]? with
  | none => rw [hl] at e; exact cN e
  | some c =>
   rw [hl] at e
   cases c with
   | lst vs => exact .lst hl e
   | _ => exact cN e
 | posix => cases u with
  | bytes w => cases (Option.some.inj e); exact .posix
  | _ => exact cN e
 | _ => exact cN e
def Ws (Q : Value -> Shared -> Prop) (s : Shared) (b : Bool) : Prop := ∀ h' k,(∀ b o,s.heap.get? b = some o -> h'.get? b = some o) -> Q (.bool b) { s with heap := h',toks := k }
theorem Ws.here {b : Bool} (q : Ws Q s b) : Q (.bool b) s := q s.heap s.toks fun _ _ e => e
def adT (prog : Program) (w : World) (A : Around) (Q : Value -> Shared -> Prop) (E : Value -> Shared -> Prop) (s : Shared) (op no : CmpOp) (x y : Value) (b : Bool) : Prop := (Ws Q s b -> wpAny (model prog w) A (compareOp op x y) Q E s) /\ (Ws Q s (!b) -> wpAny (model prog w) A (compareOp no x y) Q E s)
theorem Mh.all {op no : CmpOp} {x y : Value} {b : Bool} (a : Mh prog w A Q E s op no x y b) : adT prog w A Q E s op no x y b := ⟨fun q => a.1 q.here,fun q => a.2 q.here⟩
theorem Nu {v c : Val} {x y : Value} {b : Bool} (hh : A.handled = none) (hr : cu prog w s.heap ρ H) (hpx : cY prog w s.heap) (hv : aC s.heap ρ v x) (hc : aC s.heap ρ c y) (e : tR H v c = some b) : adT prog w A Q E s .In .NotIn x y b := by
 cases Ti e with
 | ib hi =>
  obtain ⟨t,rfl⟩ := hc.inv; obtain ⟨t',rfl⟩ := hv.inv
  exact ⟨fun q => in_gives (typeIs_bytes _ _ _) FB.slot_bytes_contains FB.entry_bytes_contains (FB.args_bytes_contains_2 _ _) (rE hi.1 hi.2) q.here,fun q => notIn_gives (typeIs_bytes _ _ _) FB.slot_bytes_contains FB.entry_bytes_contains (FB.args_bytes_contains_2 _ _) (rE hi.1 hi.2) q.here⟩
 | bb =>
  obtain ⟨t,rfl⟩ := hc.inv; obtain ⟨t',rfl⟩ := hv.inv
  exact ⟨fun q => SeqRoads2.in_meets (typeIs_bytes _ _ _) FB.slot_bytes_contains FB.entry_bytes_contains (FB.args_bytes_contains_2 _ _) rD ⟨hh,fun h' k hk => ⟨_,rfl,q h' k hk⟩⟩,fun q => SeqRoads2.notIn_meets (typeIs_bytes _ _ _) FB.slot_bytes_contains FB.entry_bytes_contains (FB.args_bytes_contains_2 _ _) rD ⟨hh,fun h' k hk => ⟨_,rfl,q h' k hk⟩⟩⟩
 | tup e =>
  obtain ⟨ws,a,rfl,ha,ht,hvs⟩ := hc.inv
  exact (Q0 hv (.inr ht) hvs e).all
 | lst hl e =>
  obtain ⟨a,rfl,ha⟩ := hc.inv
  obtain ⟨ws,hws,rws⟩ := hr.lst hl ha
  exact (Q0 hv (.inl hws) rws e).all
 | posix =>
  cases hc.inv; obtain ⟨t,rfl⟩ := hv.inv
  obtain ⟨m,hm,m1,m2⟩ := hpx
  rw [<- FP m1 m2]
  exact ⟨fun q => wpAny_in_of (knd := oN prog w) (wK _ t) (by decide) hm (q s.heap _ fun _ _ e => e),fun q => wpAny_notIn_of (knd := oN prog w) (wK _ t) (by decide) hm (q s.heap _ fun _ _ e => e)⟩
theorem str_beq (a b : String) : ((PySem.Str.ofString a).cps.toList == (PySem.Str.ofString b).cps.toList) = decide (a = b) := by
 rw [iJ,decide_eq_decide]
 refine ⟨fun q => z9 ?_,fun q => by rw [q]⟩
 cases h1 : PySem.Str.ofString a; cases h2 : PySem.Str.ofString b
 rw [h1,h2] at q
 exact congrArg PySem.Str.mk (Array.toList_inj.mp q)
theorem Nx {v c : Val} {x y : Value} {b : Bool} (hv : aC s.heap ρ v x) (hc : aC s.heap ρ c y) (e : vEq v c = some b) : Mh prog w A Q E s .Eq .NotEq x y b := by
 cases v with
 | int i => cases c with
  | int j => obtain ⟨t,rfl⟩ := hc.inv; obtain ⟨t',rfl⟩ := hv.inv; cases (Option.some.inj e); exact ⟨fun hq => IsLeap.wpAny_eq_int' (by rw [iJ]; exact hq),fun hq => P.ne_int (by rw [bne,iJ]; exact hq)⟩
  | _ => exact cN e
 | bytes a => cases c with
  | bytes b => obtain ⟨t,rfl⟩ := hc.inv; obtain ⟨t',rfl⟩ := hv.inv; cases (Option.some.inj e); exact ⟨fun hq => eq_bytes (by rw [iJ]; exact hq),fun hq => ne_bytes (by rw [bne,iJ]; exact hq)⟩
  | _ => exact cN e
 | str a => cases c with
  | str b => obtain ⟨t,rfl⟩ := hc.inv; obtain ⟨t',rfl⟩ := hv.inv; cases (Option.some.inj e); exact ⟨fun hq => P.eq_str (by rw [str_beq]; exact hq),fun hq => P.ne_str (by rw [bne,str_beq]; exact hq)⟩
  | _ => exact cN e
 | bool a => cases c with
  | bool b => cases hc.inv; cases hv.inv; cases (Option.some.inj e); exact ⟨fun hq => eq_bool hq,fun hq => ne_bool hq⟩
  | _ => exact cN e
 | _ => exact cN e
theorem mF {x y : Value} {b : Bool} (h1 : PySem.plainIs x y = true) (h2 : (x == y) = b) : Mh prog w A Q E s .Is .IsNot x y b := ⟨fun hq => wpAny_is_plain h1 (by rw [h2]; exact hq),fun hq => wpAny_isNot_plain h1 (by rw [h2]; exact hq)⟩
theorem Nt {v c : Val} {x y : Value} {b : Bool} (hv : aC s.heap ρ v x) (hc : aC s.heap ρ c y) (e : vIs v c = some b) : Mh prog w A Q E s .Is .IsNot x y b := by
 cases v with
 | none => cases c with
  | none => cases hc.inv; cases hv.inv; cases (Option.some.inj e); exact mF rfl rfl
  | bool b => cases hc.inv; cases hv.inv; cases (Option.some.inj e); exact mF rfl rfl
  | _ => exact cN e
 | bool a => cases c with
  | none => cases hc.inv; cases hv.inv; cases (Option.some.inj e); exact mF rfl rfl
  | bool b => cases hc.inv; cases hv.inv; cases (Option.some.inj e); exact mF rfl (by cases a <;> cases b <;> rfl)
  | _ => exact cN e
 | int i => cases c with
  | none => cases hc.inv; obtain ⟨t,rfl⟩ := hv.inv; cases (Option.some.inj e); exact mF rfl rfl
  | _ => exact cN e
 | tup vs => cases c with
  | none => cases hc.inv; obtain ⟨ws,a,rfl,_⟩ := hv.inv; cases (Option.some.inj e); exact mF rfl rfl
  | _ => exact cN e
 | _ => exact cN e
theorem mV {u v : Val} {x y : Value} {b : Bool} {k : Int -> Int -> Bool} {h : Heap} (hu : aC h ρ u x) (hv : aC h ρ v y) (e : v9 u v k = some b) : ∃ i j t t',x = .int i t /\ y = .int j t' /\ b = k i j := by
 cases u with
 | int i => cases v with
  | int j => obtain ⟨t,rfl⟩ := hu.inv; obtain ⟨t',rfl⟩ := hv.inv; exact ⟨i,j,t,t',rfl,rfl,(Option.some.inj e).symm⟩
  | _ => exact cN e
 | _ => exact cN e
theorem lg {op : qO} {u v : Val} {x y : Value} (hh : A.handled = none) (hr : cu prog w s.heap ρ H) (hpx : cY prog w s.heap) (hu : aC s.heap ρ u x) (hv : aC s.heap ρ v y) {b : Bool} (e : dR H op u v = some b)
  (hq : ∀ h' k,(∀ b o,s.heap.get? b = some o -> h'.get? b = some o) -> Q (.bool b) { s with heap := h',toks := k }) : wpAny (model prog w) A (compareOp (jo op) x y) Q E s := by
 have hq0 : Q (.bool b) s := hq s.heap s.toks fun _ _ e => e
 cases op with
 | eq => exact (Nx hu hv e).1 hq0
 | ne =>
  obtain ⟨c,hc,rfl⟩ := Option.map_eq_some_iff.mp e
  exact (Nx hu hv hc).2 hq0
 | lt => obtain ⟨i,j,t,t',rfl,rfl,rfl⟩ := mV hu hv e; exact wpAny_lt_int hq0
 | le => obtain ⟨i,j,t,t',rfl,rfl,rfl⟩ := mV hu hv e; exact P.le_int hq0
 | gt => obtain ⟨i,j,t,t',rfl,rfl,rfl⟩ := mV hu hv e; exact P.gt_int hq0
 | ge => obtain ⟨i,j,t,t',rfl,rfl,rfl⟩ := mV hu hv e; exact P.ge_int hq0
 | is_ => exact (Nt hu hv e).1 hq0
 | jV =>
  obtain ⟨c,hc,rfl⟩ := Option.map_eq_some_iff.mp e
  exact (Nt hu hv hc).2 hq0
 | Ja => exact (Nu hh hr hpx hu hv e).1 hq
 | pQ =>
  obtain ⟨c,hc,rfl⟩ := Option.map_eq_some_iff.mp e
  exact (Nu hh hr hpx hu hv hc).2 hq
end
end Mine
end
section
open PySem PySem.W PyProof.Rows PySem.Spec PySem.Calls PySem.Builtin
namespace Mine
theorem QX (u v : Tok) : «int.__new__» ⟨[.type "int",.str (PySem.Str.ofString "00") u,.int 16 v],[]⟩ = (mkInt 0 >>= fun i => ret i) := by kernel_rfl
theorem QW (u v : Tok) : «int.__new__» ⟨[.type "int",.str (PySem.Str.ofString "1f") u,.int 16 v],[]⟩ = (mkInt 31 >>= fun i => ret i) := by kernel_rfl
theorem QV (u v : Tok) : «int.__new__» ⟨[.type "int",.str (PySem.Str.ofString "7f") u,.int 16 v],[]⟩ = (mkInt 127 >>= fun i => ret i) := by kernel_rfl
theorem vN (a b : Value) : checkTypeCall "int" ⟨[a,b],[]⟩ = pure () := by kernel_rfl
theorem yd (a b : Value) : checkBuiltinCall "int.__new__" ⟨[.type "int",a,b],[]⟩ = pure () := by kernel_rfl
theorem args_object_init_3 (a b c : Value) : argsOk "object.__init__" ⟨[a,b,c],[]⟩ := by unfold argsOk; kernel_rfl
theorem Z0 : ∀ id,_codecs.runDecoder id _codecs.utf8Decoder none true ([48,48] : List UInt8).toArray 0 [] = pure ((PySem.Str.ofString "00").cps,2) := fun id => by kernel_rfl
theorem ZX : ∀ id,_codecs.runDecoder id _codecs.utf8Decoder none true ([49,102] : List UInt8).toArray 0 [] = pure ((PySem.Str.ofString "1f").cps,2) := fun id => by kernel_rfl
theorem ZW : ∀ id,_codecs.runDecoder id _codecs.utf8Decoder none true ([55,102] : List UInt8).toArray 0 [] = pure ((PySem.Str.ofString "7f").cps,2) := fun id => by kernel_rfl
theorem Hp {prog : Program} {w : World} {A : Around} {E : Value -> Shared -> Prop} {s : Shared} {x : PySem.Str} {t v : Tok} {n : Int} {Q : Value -> Shared -> Prop} (e : «int.__new__» ⟨[.type "int",.str x t,.int 16 v],[]⟩ = (mkInt n >>= fun i => ret i))
  (h : ∀ t k,Q (.int n t) { s with toks := k }) : wpAny (model prog w) A (call (.type "int") [.str x t,.int 16 v]) Q E s := by
 have g : Gives («int.__new__» ⟨[.type "int",.str x t,.int 16 v],[]⟩) (.int n) := .of_wp fun M A E s Q hq => by
  rw [e]
  exact wpAny_bind (wpAny_mkInt (wpAny_pure ⟨_,rfl,hq⟩))
 exact callType_new F.called_int F.newNe_int (vN _ _) (yd _ _) (fun obj => args_object_init_3 obj _ _) F.entry_int_new g.meets (show (Made.int n).post _ s from ⟨rfl,h _ _⟩)
section
variable {prog : Program} {w : World} {cx : Cx} {A : Around} {ρ : List Addr} {H : List Cell} {s : Shared} {E : Value -> Shared -> Prop} {Q : Value -> Shared -> Prop}
theorem IntsAre.get {vs : List Value} {is : List Int} (h : IntsAre vs is) {i : Nat} {k : Int} (e : is[i]? = some k) : ∃ t,vs[i]? = some (.int k t) := by
 have hl := h.length
 obtain ⟨h1,h2⟩ := List.getElem?_eq_some_iff.mp e
 obtain ⟨n,t,h3,h4⟩ := h.at i vs[i] (List.getElem?_eq_getElem (by omega))
 rw [e] at h4; cases h4
 exact ⟨t,by rw [List.getElem?_eq_getElem (by omega),h3]⟩
theorem Pz {n : Nat} {i : Int} (h : n <= bH) (h1 : i < n) : i < 2 ^ 63 := by unfold bH at h; omega
@[elab_as_elim] theorem Post.int {G : Value -> Prop} {v : Val} {y : Value} {k : Int -> Res Val} (hv : aC s.heap ρ v y) (hP : Post prog w cx RV ρ s (jQ v k) Q E) (g : ∀ i t,Post prog w cx RV ρ s (k i) Q E -> G (.int i t)) : G y := by
 induction hv using aC.cs with
 | int i t => exact g i t hP
 | _ => exact (hP.no rfl).elim
theorem Post.opt {G : Prop} {o : Option Val} (hP : Post prog w cx RV ρ s (Kr o H) Q E) (g : ∀ v,o = some v -> Post prog w cx RV ρ s (.ok v H) Q E -> G) : G := by
 cases o with
 | none => exact (hP.no rfl).elim
 | some v => exact g v rfl hP
theorem Post.ifs {G c : Prop} [Decidable c] {r : Res Val} (hP : Post prog w cx RV ρ s (if c then r else .bad) Q E) (g : c -> Post prog w cx RV ρ s r Q E -> G) : G := by
 by_cases h : c
 ·rw [if_pos h] at hP; exact g h hP
 ·rw [if_neg h] at hP; exact hP.elim
theorem T9 {u v : Val} {x y : Value} (hr : cu prog w s.heap ρ H) (hpx : cY prog w s.heap) (hu : aC s.heap ρ u x) (hv : aC s.heap ρ v y) (hP : Post prog w cx RV ρ s (bW u v H) Q E) :
  wpAny (model prog w) A (getItem x y) Q E s := by
 induction hu using aC.cs with
 | bytes b tb =>
  refine hP.int hv fun i t hP => ?_
  refine hP.ifs fun hc hP => ?_
  refine hP.opt fun v he' hP => ?_
  obtain ⟨c,he,rfl⟩ := Option.map_eq_some_iff.mp he'
  obtain ⟨h1,h2⟩ := List.getElem?_eq_some_iff.mp he
  refine W.getItem_bytes (by have := hc.2; unfold bH at this; lia) hc.1 (by have := hc.1; lia) ?_
  have : b.getD i.toNat 0 = c := by rw [List.getD_eq_getElem?_getD,he]; rfl
  rw [this]
  exact hP.toks hr (.int _ _)
 | @tup vs ws a ha ht hvs =>
  refine hP.int hv fun i t hP => ?_
  refine hP.ifs fun hc hP => ?_
  refine hP.opt fun v he hP => ?_
  obtain ⟨h1,h2⟩ := List.getElem?_eq_some_iff.mp he
  obtain ⟨y,hy,ry⟩ := hvs.get he
  have hl := hvs.length
  have h0 := hc.1
  refine getItem_tuple (j := i.toNat) (x := y) ht (by lia) (Pz hc.2 (by lia)) ?_ (by simpa using hy) (hP.here hr ry)
  have e1 : ¬ i < 0 := by lia
  have e2 : i < (vs.length : Int) := by lia
  simp [seqIndex?,hl,e1,e2,h0]
 | lst ha =>
  refine hP.int hv fun i t hP => ?_
  refine hP.KC fun vs hl hP => ?_
  refine hP.ifs fun hz hP => ?_
  refine hP.opt fun v he hP => ?_
  obtain ⟨ws,hw,Ml⟩ := hr.lst hl ha
  have hlen := Ml.length
  unfold Yo at he
  by_cases h0 : 0 <= i
  ·rw [if_pos h0] at he
   obtain ⟨h1,h2⟩ := List.getElem?_eq_some_iff.mp he
   obtain ⟨y,hy,ry⟩ := Ml.get he
   exact wpAny_getItem_list (x := y) hw h0 (Pz hz (by lia)) (by simpa using hy) (hP.here hr ry)
  ·rw [if_neg h0] at he
   refine lN (P := (· = some v)) he cN fun h00 he => ?_
   obtain ⟨y,hy,ry⟩ := Ml.get he
   refine wpAny_getItem_list_neg (x := y) hw (by lia) (by rw [List.size_toArray,hlen]; lia) (by unfold bH at hz; lia) ?_ (hP.here hr ry)
   rw [List.size_toArray,hlen]
   simpa using hy
 | lB ha hl hi =>
  refine hP.int hv fun i t hP => ?_
  refine hP.ifs fun hc hP => ?_
  refine hP.opt fun v he' hP => ?_
  obtain ⟨k,he,rfl⟩ := Option.map_eq_some_iff.mp he'
  obtain ⟨t,ht⟩ := IntsAre.get hi he
  obtain ⟨h1,h2⟩ := List.getElem?_eq_some_iff.mp he
  exact wpAny_getItem_list (x := .int k t) hl hc.1 (Pz hc.2 (by have := hc.1; lia)) (by simpa using ht) (hP.here hr (.int _ _))
 | posix => induction hv using aC.cs with
  | bytes wb tb =>
   refine hP.opt fun v he' hP => ?_
   obtain ⟨v,hg,rfl⟩ := Option.map_eq_some_iff.mp he'
   obtain ⟨m,hm,m1,m2⟩ := hpx
   obtain ⟨t,ht⟩ := m1 _ _ hg
   exact wpAny_getItem_of (knd := oN prog w) (show (oN prog w).is wb (.bytes wb.toArray tb) = true from wK wb tb) hm ht (hP.toks hr (.bytes _ _))
  | _ => exfalso; exact hP.no rfl
 | _ => exfalso; exact hP.no rfl
theorem afa (y : Int) : (max 0 y).toNat = y.toNat := by
 rcases Int.le_total 0 y with h | h
 ·rw [Int.max_eq_right h]
 ·rw [Int.max_eq_left h,Int.toNat_of_nonpos h]; rfl
theorem V6 (n : Nat) (i : Int) : clipAt n i = clip n i := by
 unfold clipAt clip
 rw [afa]
 by_cases h : i < 0
 ·rw [if_pos h,if_pos h,Int.min_eq_left (Int.le_trans (Int.add_le_add_right (Int.le_of_lt h) _) (Int.le_of_eq (Int.zero_add _)))]
 ·rw [if_neg h,if_neg h]
  obtain ⟨k,rfl⟩ := Int.eq_ofNat_of_zero_le (Int.not_lt.mp h)
  rw [Int.toNat_natCast]
  rcases Nat.le_total k n with h | h
  ·rw [Int.min_eq_left (Int.ofNat_le.mpr h),Nat.min_eq_left h,Int.toNat_natCast]
  ·rw [Int.min_eq_right (Int.ofNat_le.mpr h),Nat.min_eq_right h,Int.toNat_natCast]
theorem vZ (b : Bs) (lo hi : Option Int) : KBy.picked b.toArray lo hi = (Bd b lo hi).toArray := by
 rw [KBc.picked_eq]
 unfold Bd
 cases lo <;> cases hi <;> simp [V6]
theorem Wf (b : Bs) (lo hi : Option Int) : (Bd b lo hi).length <= b.length :=
 Nat.le_trans (List.length_take_le' _ _) (by rw [List.length_drop]; exact Nat.sub_le _ _)
theorem Il {h : Heap} {v : Val} {o : Option Int} {y : Value} (hv : aC h ρ v y) (e : Ob v = some o) : IsPart y o := by
 induction hv using aC.cs with
 | none => cases (Option.some.inj e); exact .none
 | int i t => cases (Option.some.inj e); exact .int _ _
 | _ => exact cN e
theorem T8 {u l r : Val} {x y z : Value} {a : Addr} (hr : cu prog w s.heap ρ H) (hu : aC s.heap ρ u x) (hl : aC s.heap ρ l y) (hh : aC s.heap ρ r z) (hs : s.heap.IsSliceOf a y z .none) (hP : Post prog w cx RV ρ s (gO u l r H) Q E) :
  wpAny (model prog w) A (getItem x (.ref a)) Q E s := by
 induction hu using aC.cs with
 | bytes b tb =>
  dsimp only [gO] at hP
  cases e1 : Ob l with
  | none => rw [e1] at hP; exfalso; exact hP
  | some lo => cases e2 : Ob r with
   | none => rw [e1,e2] at hP; exfalso; exact hP
   | some hi =>
    rw [e1,e2] at hP
    refine hP.ifs fun hz hP => ?_
    refine getItem_meets (typeIs_bytes _ _ _) (by decide) FB.slot_bytes_getitem FB.entry_bytes_getitem (FB.args_bytes_getitem_2 _ _) (KBc.meets_slice2 _ _ _ (Il hl e1) (Il hh e2)) ⟨hs,?_,fun t' k => ?_⟩
    ·rw [vZ,List.size_toArray,sizeLine_eq]
     exact Nat.le_trans (Wf _ _ _) hz
    ·rw [vZ]
     exact hP.toks hr (.bytes _ _)
 | _ => exfalso; exact hP.no rfl
theorem Ad {α : Type} {l : List α} (h : l.length <= bH) : (l.toArray.size : Int) < 2 ^ 63 := by rw [List.size_toArray]; unfold bH at h; lia
theorem Py {l : Bs} (h : l.length <= bH) : l.toArray.size <= 1099511627776 := by rw [List.size_toArray]; unfold bH at h; lia
theorem jK {u : Val} {x : Value} {b : Bool} {Q : Bool -> Shared -> Prop} (hr : cu prog w s.heap ρ H) (hu : aC s.heap ρ u x) (e : truth H u = some b) (h : ∀ k,Q b { s with toks := k }) : wpAny (model prog w) A (truthy x) Q E s := by
 induction hu using aC.cs with
 | none => cases (Option.some.inj e); exact truthy_none (h s.toks)
 | bool c => cases (Option.some.inj e); exact wpAny_truthy_bool (h s.toks)
 | bytes b tb =>
  refine lN (P := (· = some _)) e cN fun hz e => ?_
  cases (Option.some.inj e)
  refine W.truthy_bytes (Py hz) ?_
  have : (((b.toArray.size : Nat) : Int) != 0) = !b.isEmpty := by cases b <;> rfl
  rw [this]; exact h _
 | lst ha =>
  refine pB (P := (· = some _)) e cN fun vs hl e => lN (P := (· = some _)) e cN fun hz e => ?_
  cases (Option.some.inj e)
  obtain ⟨ws,hw,Ml⟩ := hr.lst hl ha
  refine wpAny_truthy_list hw (Ad (Ml.length ▸ hz)) ?_
  have : (!ws.toArray.isEmpty) = !vs.isEmpty := by cases Ml <;> rfl
  rw [this]; exact h _
 | @lB is a ws ha hl hi =>
  refine lN (P := (· = some _)) e cN fun hz e => ?_
  cases (Option.some.inj e)
  refine wpAny_truthy_list hl (Ad (hi.length ▸ hz)) ?_
  have : (!ws.toArray.isEmpty) = !is.isEmpty := by cases hi <;> rfl
  rw [this]; exact h _
 | _ => exact cN e
noncomputable def Ek : Mi -> Value
 | .eX => .builtin "len" | .Gp => .builtin "max" | .Cz => .builtin "min" | .bytes_ => .type "bytes" | .pX => .type "list" | .int_ => .type "int" | .bool_ => .type "bool"
theorem Bc {h : Heap} {vs : List Val} {ws : List Value} (hr : aD h ρ vs ws) : ∀ {x : Bs},bytesOf vs = some x -> ∃ ns : List Int,IntsAre ws ns /\ (∀ n ∈ ns,0 <= n /\ n < 256) /\ byteArr ns = x.toArray := by
 induction hr using aD.ind with
 | nil => intro x e; cases (Option.some.inj e); exact ⟨[],.nil,(fun _ h => nomatch h),rfl⟩
 | cons hv hr ih =>
  intro x e
  induction hv using aC.cs with
  | int i t =>
   dsimp only [bytesOf] at e
   by_cases hc : 0 <= i /\ i < 256
   ·rw [if_pos hc] at e
    obtain ⟨y,hy,rfl⟩ := Option.map_eq_some_iff.mp e
    obtain ⟨ns,h1,h2,h3⟩ := ih hy
    refine ⟨_ :: ns,.cons _ _ h1,fun n hn => ?_,?_⟩
    ·rcases List.mem_cons.mp hn with rfl | hn
     ·exact hc
     ·exact h2 n hn
    ·unfold byteArr at h3 ⊢
     rw [List.map_cons]
     have : ns.map (fun n => n.toNat.toUInt8) = y := congrArg Array.toList h3
     rw [this]
   ·rw [if_neg hc] at e; exact cN e
  | _ => exact cN e
theorem oH {h : Heap} {vs : List Val} {ws : List Value} (hr : aD h ρ vs ws) : ∀ {x : Bs},pZ vs = some x -> ∃ bs : List Bs,gK ws bs /\ bs.flatten = x := by
 induction hr using aD.ind with
 | nil => intro x e; cases (Option.some.inj e); exact ⟨[],.nil,rfl⟩
 | cons hv hr ih =>
  intro x e
  induction hv using aC.cs with
  | bytes b t =>
   obtain ⟨y,hy,rfl⟩ := Option.map_eq_some_iff.mp e
   obtain ⟨bs,h1,h2⟩ := ih hy
   exact ⟨_ :: bs,.cons _ _ h1,by rw [List.flatten_cons,h2]⟩
  | _ => exact cN e
@[elab_as_elim] theorem Post.one {G : List Value -> Prop} {vs : List Val} {ws : List Value} {k : Val -> Res Val} (hv : aD s.heap ρ vs ws) (hP : Post prog w cx RV ρ s (uP vs k) Q E) (g : ∀ v x,aC s.heap ρ v x -> Post prog w cx RV ρ s (k v) Q E -> G [x]) : G ws := by
 induction hv using aD.cs with
 | nil => exact (hP.no rfl).elim
 | cons h1 h2 => induction h2 using aD.cs with
  | nil => exact g _ _ h1 hP
  | cons _ _ => exact (hP.no rfl).elim
@[elab_as_elim] theorem Post.two {G : List Value -> Prop} {vs : List Val} {ws : List Value} {k : Val -> Val -> Res Val} (hv : aD s.heap ρ vs ws) (hP : Post prog w cx RV ρ s (MJ vs k) Q E) (g : ∀ v u x y,aC s.heap ρ v x -> aC s.heap ρ u y -> Post prog w cx RV ρ s (k v u) Q E -> G [x,y]) : G ws := by
 induction hv using aD.cs with
 | nil => exact (hP.no rfl).elim
 | cons h1 h2 => exact Post.one (G := fun l => G (_ :: l)) h2 hP fun u y h3 hP => g _ _ _ _ h1 h3 hP
@[elab_as_elim] theorem Post.lst {G : Value -> Prop} {v : Val} {x : Value} {k : Nat -> List Val -> Res Val} (hr : cu prog w s.heap ρ H) (hv : aC s.heap ρ v x) (hP : Post prog w cx RV ρ s (Cp H v k) Q E)
  (g : ∀ (l : Nat) (a : Addr) (vs : List Val) (ws : List Value),H[l]? = some (.lst vs) -> ρ[l]? = some a -> PlainL s.heap a ws.toArray -> aD s.heap ρ vs ws -> Post prog w cx RV ρ s (k l vs) Q E -> G (.ref a)) : G x := by
 induction hv using aC.cs with
 | lst ha =>
  refine Post.KC hP fun vs hl hP => ?_
  obtain ⟨ws,hw,rws⟩ := hr.N6 hl ha
  exact g _ _ _ ws hl ha hw rws hP
 | _ => exact (hP.no rfl).elim
@[elab_as_elim] theorem Post.bytes {G : Value -> Prop} {v : Val} {x : Value} {k : Bs -> Res Val} (hv : aC s.heap ρ v x) (hP : Post prog w cx RV ρ s (onBytes v k) Q E) (g : ∀ b t,Post prog w cx RV ρ s (k b) Q E -> G (.bytes b.toArray t)) : G x := by
 induction hv using aC.cs with
 | bytes b t => exact g b t hP
 | _ => exact (hP.no rfl).elim
theorem Ua {b : Mi} {vs : List Val} {ws : List Value} (hh : A.handled = none) (hr : cu prog w s.heap ρ H) (hv : aD s.heap ρ vs ws) (hP : Post prog w cx RV ρ s (iU b vs H) Q E) :
  wpAny (model prog w) A (call (Ek b) ws) Q E s := by
 cases b with
 | eX =>
  refine Post.one hv hP fun v x h1 hP => ?_
  induction h1 using aC.cs with
  | bytes b t =>
   refine hP.ifs fun hz hP => ?_
   exact len_bytes (Py hz) (hP.toks hr (.int _ _))
  | lst ha =>
   refine Post.KC hP fun vs hl hP => hP.ifs fun hz hP => ?_
   obtain ⟨ws,hw,Ml⟩ := hr.lst hl ha
   have hlen := Ml.length
   refine call_len_list hw (Ad (hlen ▸ hz)) ?_
   rw [List.size_toArray,hlen]
   exact hP.toks hr (.int _ _)
  | lB ha hl hi =>
   refine hP.ifs fun hz hP => ?_
   have hlen := hi.length
   refine call_len_list hl (Ad (hlen ▸ hz)) ?_
   rw [List.size_toArray,hlen]
   exact hP.toks hr (.int _ _)
  | _ => exfalso; exact hP.no rfl
 | bytes_ =>
  refine Post.one hv hP fun v x h1 hP => ?_
  refine Post.lst hr h1 hP fun l a vs ws hl ha hw rws hP => ?_
  unfold MF at hP
  cases hx : bytesOf vs with
  | none => rw [hx] at hP; exfalso; exact hP
  | some x =>
   rw [hx] at hP
   refine hP.ifs fun hz hP => ?_
   obtain ⟨ns,i1,i2,i3⟩ := Bc rws hx
   have hlen : ws.length = x.length := by rw [i1.length,<- byteArr_size,i3,List.size_toArray]
   refine call_bytes_ints hw.isList i1 i2 (by rw [hlen,sizeLine_eq]; exact hz) hh fun h' t k hk => ?_
   rw [i3]
   exact hP.same hk hr (.bytes _ _)
 | pX =>
  refine Post.one hv hP fun v x h1 hP => ?_
  refine Post.lst hr h1 hP fun l a vs ws hl ha hw rws hP => ?_
  refine hP.ifs fun hz hP => ?_
  have hlen := rws.length
  obtain ⟨o,ho,hc,n,hd⟩ := hw.isList
  exact call_list_seq _ (.inl rfl) ho hc hd (fun h' c' hk hl' => hr.sW hk (Heap.get?_none_of_le (Nat.le_refl _)) hl' rws hP) (by rw [List.size_toArray,hlen,sizeLine_eq]; exact hz)
 | int_ =>
  refine Post.two hv hP fun v u x y h1 h2 hP => ?_
  induction h1 using aC.cs with
  | str t tk =>
   refine Post.int h2 hP fun n t2 hP => ?_
   refine hP.ifs fun hc hP => ?_
   obtain rfl := hc
   cases he : hex2 t with
   | none => rw [he] at hP; exfalso; exact hP
   | some i =>
    rw [he] at hP
    exact Hp (Rf (P := fun t i => «int.__new__» ⟨[.type "int",.str (PySem.Str.ofString t) tk,.int 16 t2],[]⟩ = (mkInt i >>= fun i => ret i)) (QX _ _) (QW _ _) (QV _ _) he) fun t k => hP.toks hr (.int _ _)
  | _ => exfalso; exact hP.no rfl
 | bool_ =>
  refine Post.one hv hP fun v x h1 hP => ?_
  induction h1 using aC.cs with
  | bool b => exact call_bool_bool (Post.here hP hr (.bool _))
  | _ => exfalso; exact hP.no rfl
 | Gp =>
  refine Post.two hv hP fun v u x y h1 h2 hP => ?_
  refine Post.int h1 hP fun i t hP => ?_
  refine Post.int h2 hP fun j t2 hP => ?_
  refine max_two_ints hh fun h' tk hk => ?_
  by_cases hc : j > i
  ·rw [if_pos hc]; rw [if_pos hc] at hP; exact hP.same hk hr (.int _ _)
  ·rw [if_neg hc]; rw [if_neg hc] at hP; exact hP.same hk hr (.int _ _)
 | Cz =>
  refine Post.two hv hP fun v u x y h1 h2 hP => ?_
  refine Post.int h1 hP fun i t hP => ?_
  refine Post.int h2 hP fun j t2 hP => ?_
  refine min_two_ints hh fun h' tk hk => ?_
  by_cases hc : j < i
  ·rw [if_pos hc]; rw [if_pos hc] at hP; exact hP.same hk hr (.int _ _)
  ·rw [if_neg hc]; rw [if_neg hc] at hP; exact hP.same hk hr (.int _ _)
end
noncomputable def qY : zM -> PySem.Str
 | .aO => "append" | .aZ => "startswith" | .bk => "endswith" | .cT => "rstrip" | .mJ => "find" | .iW => "join" | .gq => "decode" | .get_ => "get"
 | .match_ => "match" | .wX => "ends" | .yL => "once" | .sX => "holds" | .Fq => "split" | .zY => "rsplit"
noncomputable def Cy : zM -> PySem.Value
 | .aO => .builtin "list.append" | .aZ => .builtin "bytes.startswith" | .bk => .builtin "bytes.endswith" | .cT => .builtin "bytes.rstrip" | .mJ => .builtin "bytes.find" | .iW => .builtin "bytes.join" | .gq => .builtin "bytes.decode" | .get_ => .builtin "dict.get"
 | _ => .none
section
variable {prog : Program} {w : World} {cx : Cx} {A : Around} {ρ : List Addr} {H : List Cell} {s : Shared} {E : Value -> Shared -> Prop} {Q : Value -> Shared -> Prop}
theorem bt {b : Bs} {t : Tok} {pl : Sem Bool} {id : String} {nm : PySem.Str} {Q : Value × List Value -> Shared -> Prop} (sl : Slot "bytes" nm id) (ty : typeOf (.builtin id) = pure (.type "method_descriptor")) (q : Q (.builtin id,[.bytes b.toArray t]) s) : wpAny (model prog w) A (getMethod (.bytes b.toArray t) nm pl) Q E s :=
 KBd.method_of (.bytes b.toArray t) (typeIs_bytes _ _ _) sl ty KBd.noRef q
theorem Nv {m : zM} {v : Val} {x : Value} {pl : Sem Bool} {Q : Value × List Value -> Shared -> Prop} (hr : cu prog w s.heap ρ H) (hv : aC s.heap ρ v x) (e : Pu m v H = true) (h : Q (Cy m,[x]) s) :
  wpAny (model prog w) A (getMethod x (qY m) pl) Q E s := by
 have Xr : wJ v = true -> ∃ (b : Bs) (t : Tok),x = .bytes b.toArray t := fun q => by
  induction hv using aC.cs with
  | bytes b t => exact ⟨b,t,rfl⟩
  | _ => exact qD q
 cases m with
 | aO => induction hv using aC.cs with
  | lst ha =>
   refine pB (P := (· = true)) e qD fun vs hl _ => ?_
   obtain ⟨ws,⟨o,n,ho,hc,hn,hd⟩,_⟩ := hr.N6 hl ha
   exact getMethod_builtin ⟨o,ho,hc⟩ F.plainAttrs_list F.slot_list_append F.type_list_append (fun a e => by cases e; exact ⟨o,ho,hn⟩) h
  | _ => exact qD e
 | get_ => induction hv using aC.cs with
  | dct ha =>
   refine I9 (P := (· = true)) e qD fun es' hl _ => ?_
   obtain ⟨mm,⟨o,es,ep,ho,hx,hd,_⟩,_⟩ := hr.cell _ _ _ hl ha
   exact getMethod_builtin ⟨o,ho,hx.1⟩ F.plainAttrs_dict F.slot_dict_get F.type_dict_get (fun a e => by cases e; exact ⟨o,ho,hx.2.1⟩) h
  | _ => exact qD e
 | aZ => obtain ⟨b,t,rfl⟩ := Xr e; exact bt (nm := "startswith") (id := "bytes.startswith") FB.slot_bytes_startswith FB.type_bytes_startswith h
 | bk => obtain ⟨b,t,rfl⟩ := Xr e; exact bt (nm := "endswith") (id := "bytes.endswith") FB.slot_bytes_endswith FB.type_bytes_endswith h
 | cT => obtain ⟨b,t,rfl⟩ := Xr e; exact bt (nm := "rstrip") (id := "bytes.rstrip") lq qP h
 | mJ => obtain ⟨b,t,rfl⟩ := Xr e; exact bt (nm := "find") (id := "bytes.find") nA uO h
 | iW => obtain ⟨b,t,rfl⟩ := Xr e; exact bt (nm := "join") (id := "bytes.join") nu uN h
 | gq => obtain ⟨b,t,rfl⟩ := Xr e; exact bt (nm := "decode") (id := "bytes.decode") FB.slot_bytes_decode FB.type_bytes_decode h
 | _ => exact qD e
theorem Post.Ks {G : Prop} {b : Bs} {k : UInt8 -> Res Val} (hP : Post prog w cx RV ρ s (Ks b k) Q E) (g : ∀ c,b = [c] -> Post prog w cx RV ρ s (k c) Q E -> G) : G := by
 cases b with
 | nil => exact (hP.no rfl).elim
 | cons c r => cases r with
  | nil => exact g c rfl hP
  | cons _ _ => exact (hP.no rfl).elim
theorem Ia {m : zM} {v : Val} {vs : List Val} {x : Value} {ws : List Value} (hh : A.handled = none) (hr : cu prog w s.heap ρ H) (hsm : sysModules ∉ ρ) (hv : aC s.heap ρ v x) (hvs : aD s.heap ρ vs ws) (hP : Post prog w cx RV ρ s (gW m v vs H) Q E) :
  wpAny (model prog w) A (call (Cy m) (x :: ws)) Q E s := by
 cases m with
 | aO =>
  refine Post.one hvs hP fun wv y h1 hP => ?_
  refine Post.lst hr hv hP fun l a us zs hl ha hp rws hP => ?_
  refine hP.ifs fun hz hP => ?_
  have hlen := rws.length
  refine list_append_plainL hp (fun h' hp' hsb => ?_) (by rw [List.size_toArray,hlen,sizeLine_eq]; unfold bH at hz; lia)
  obtain ⟨o,n,ho,hrest⟩ := hp'
  have hk : ∀ b o,b ≠ a -> s.heap.get? b = some o -> h'.get? b = some o := fun b o q e => by rw [hsb.2 b q]; exact e
  refine hP.ok (Ext.put (k := s.toks) ha hk ⟨_,ho⟩) (hr.put ha hk ?_ ⟨_,ho⟩ fun q => nomatch q) .none
  refine ⟨zs ++ [y],?_,aD.append ?_ (aD.one ?_)⟩
  ·rw [<- List.push_toArray]; exact ⟨o,n,ho,hrest⟩
  ·have := rws.grow (Keeps.put ha hk) cC.nil; rwa [List.append_nil] at this
  ·have := h1.grow (Keeps.put ha hk) cC.nil; rwa [List.append_nil] at this
 | aZ =>
  refine Post.one hvs hP fun u y h1 hP => ?_
  refine Post.bytes hv hP fun b t hP => ?_
  refine Post.bytes h1 hP fun c t2 hP => ?_
  exact call_gives FB.slot_bytes_startswith (typeIs_bytes _ _ _) FB.entry_bytes_startswith (FB.args_bytes_startswith_2 _ _) aZ (hP.here hr (.bool _))
 | bk =>
  refine Post.one hvs hP fun u y h1 hP => ?_
  refine Post.bytes hv hP fun b t hP => ?_
  refine Post.bytes h1 hP fun c t2 hP => ?_
  exact call_gives FB.slot_bytes_endswith (typeIs_bytes _ _ _) FB.entry_bytes_endswith (FB.args_bytes_endswith_2 _ _) bk (hP.here hr (.bool _))
 | cT =>
  refine Post.one hvs hP fun u y h1 hP => ?_
  refine Post.bytes hv hP fun b t hP => ?_
  refine Post.bytes h1 hP fun c t2 hP => ?_
  refine hP.Ks fun c hb hP => ?_
  subst hb
  refine hP.ifs fun hz hP => ?_
  exact call_meets lq (typeIs_bytes _ _ _) qF (rH _ _) (cT hz) fun t' k => hP.toks hr (.bytes _ _)
 | mJ =>
  refine Post.two hvs hP fun u n y z h1 h2 hP => ?_
  refine Post.bytes hv hP fun b t hP => ?_
  refine Post.bytes h1 hP fun c t2 hP => ?_
  refine hP.Ks fun c hb hP => ?_
  subst hb
  refine Post.int h2 hP fun i t3 hP => ?_
  refine Post.ifs hP fun hz hP => ?_
  exact call_gives nA (typeIs_bytes _ _ _) tD (uY _ _ _) (mJ hz.1 hz.2.1) (hP.toks hr (.int _ _))
 | iW =>
  refine Post.one hvs hP fun u y h1 hP => ?_
  refine Post.bytes hv hP fun b t hP => ?_
  cases b with
  | nil =>
   refine Post.lst hr h1 hP fun l a us zs hl ha hp rws hP => ?_
   unfold WQ at hP
   cases hx : pZ us with
   | none => rw [hx] at hP; exfalso; exact hP
   | some x =>
    rw [hx] at hP
    refine hP.ifs fun hz hP => ?_
    obtain ⟨bs,i1,rfl⟩ := oH rws hx
    exact call_meets nu (typeIs_bytes _ _ _) tC (uW _ _) (iW i1 hz.1) ⟨hp.isList,fun t' k => hP.toks hr (.bytes _ _)⟩
  | cons _ _ => exfalso; exact hP.no rfl
 | gq => induction hvs using aD.cs with
  | nil =>
   refine Post.bytes hv hP fun b t hP => ?_
   cases he : Z1 b with
   | none => rw [he] at hP; exfalso; exact hP
   | some q =>
    rw [he] at hP
    unfold Z1 at he
    by_cases g1 : b = [48,48]
    ·subst g1
     rw [if_pos rfl] at he
     cases he
     exact KBd.decode Z0 (by decide) fun t' k => hP.toks hr (.str _ _)
    rw [if_neg g1] at he
    by_cases g2 : b = [49,102]
    ·subst g2
     rw [if_pos rfl] at he
     cases he
     exact KBd.decode ZX (by decide) fun t' k => hP.toks hr (.str _ _)
    rw [if_neg g2] at he
    by_cases g3 : b = [55,102]
    ·subst g3
     rw [if_pos rfl] at he
     cases he
     exact KBd.decode ZW (by decide) fun t' k => hP.toks hr (.str _ _)
    ·rw [if_neg g3] at he
     exact cN he
  | cons _ _ => exfalso; exact hP.no rfl
 | get_ =>
  refine Post.one hvs hP fun u y h1 hP => ?_
  induction hv using aC.cs with
  | @dct l a ha =>
   refine Post.agm hP fun es hl hP => ?_
   refine Post.bytes h1 hP fun wb tb hP => ?_
   obtain ⟨mm,hm,m1,m2⟩ := hr.cell _ _ _ hl ha
   have hT : s.TypeIs (.ref a) "dict" := hm.typeIs
   refine call_meetsIn F.slot_dict_get hT F.entry_dict_get (F.args_dict_get_2 _ _) (meets_dict_get (oN prog w) a (show (oN prog w).is wb (.bytes wb.toArray tb) = true from wK wb tb) ?_) ⟨_,hm,?_⟩
   ·rw [beq_eq_false_iff_ne]; rintro rfl; exact hsm (bZ ha)
   ·unfold lO at hP
    cases hg : es.lookup wb with
    | none => rw [hg] at hP; rw [m2 _ hg]; exact hP.toks hr .none
    | some v => rw [hg] at hP; obtain ⟨u,h3,h4⟩ := m1 _ _ hg; rw [h3]; exact hP.toks hr h4
  | _ => exfalso; exact hP.no rfl
 | _ => exfalso; exact hP.no rfl
end
noncomputable def fNm : Nat -> PySem.Str
 | 0 => "_escape" | 1 => "_read_octet" | 2 => "_read_class" | 3 => "_read_parts" | 4 => "__init__" | 5 => "holds" | 6 => "once" | 7 => "ends" | 8 => "match"
 | 9 => "_render" | 10 => "_posix_class" | 11 => "translate_bracket_expression" | 12 => "_translate_segment" | 13 => "_split_segments" | 14 => "_collapse_double_asterisks" | 15 => "_translate" | 16 => "translate_wildmatch"
 | 17 => "_handle_leading_patterns" | 18 => "translate_ignore" | 19 => "match_pattern" | 20 => "__init__" | 21 => "match" | 22 => "_law_pieces" | 23 => "_law_class" | 24 => "_law_bracket" | 25 => "_law_fits" | 26 => "law" | _ => "_translate_double_asterisk"
noncomputable def Dz (f : Nat) : Bool := f <= 3 || (9 <= f && f <= 19) || (22 <= f && f <= 27)
noncomputable def DW : Nat -> PySem.Str | 0 => "Expression" | _ => "Pattern"
noncomputable def uG : Mi -> PySem.Str
 | .eX => "len" | .bytes_ => "bytes" | .pX => "list" | .int_ => "int" | .bool_ => "bool" | .Gp => "max" | .Cz => "min"
inductive GmX (aQ : Nat -> Addr) (h : Heap) (G : Addr) : Prop where
 | mk (m : PySem.Str -> Option Value) (ns : h.Ns G m) (fn : ∀ f,Dz f = true -> m (fNm f) = some (.ref (aQ f))) (cls : ∀ c,m (DW c) = some (.ref (clsAt c))) (Ir : m "MalformedPattern" = some (.ref jq)) (sl : ∃ t,m "_SLASH" = some (.int 47 t)) (px : m "_POSIX_CLASSES" = some (.ref o8)) (blt : ∀ b,m (uG b) = none) (rg : m "range" = none) : GmX aQ h G
inductive BmX (h : Heap) : Prop where
 | mk (m : PySem.Str -> Option Value) (ns : h.Ns builtinsNs m) (blt : ∀ b,m (uG b) = some (Ek b)) (rg : m "range" = some (.type "range")) : BmX h
structure tL (aQ : Nat -> Addr) (h : Heap) (G : Addr) : Prop where
 gm : GmX aQ h G
 bm : BmX h
noncomputable def initFn (c : Nat) : Nat := if c = 0 then 4 else 20
noncomputable def ae9 : Nat -> zM -> Option Nat := je
inductive adU (aQ : Nat -> Addr) (h : Heap) (c : Nat) : Prop where
 | mk (N : Addr) (mN : PySem.Str -> Option Value) (X : PyProof.Rows.ClsAt h (clsAt c) N mN) (g1 : mN "__getattribute__" = none) (g2 : mN "__getattr__" = none) (g3 : mN "__setattr__" = none) (na : ∀ k,k <= 8 -> mN (eE k) = none) (ini : mN "__init__" = some (.ref (aQ (initOf c)))) (mth : ∀ m f,je c m = some f -> mN (qY m) = some (.ref (aQ f))) : adU aQ h c
theorem Z5 {h : Heap} {C N : Addr} {mN : PySem.Str -> Option Value} {G : Prop} (X : PyProof.Rows.ClsAt h C N mN) (k : ∀ {nm q bs sn sub col dd k0 k1 k2 k3 k5},h.get? C = some (excClassObj nm q C N bs [.type "object"] true sn sub false col dd k0 k1 k2 k3 k5 "object.__new__") -> G) : G := by
 obtain ⟨nm,q,bs,sn,sub,col,dd,k0,k1,k2,k3,k5,e⟩ := X.obj
 exact k e
structure vH (aQ : Nat -> Addr) (h : Heap) (c : Nat) : Prop where
 ex : adU aQ h c
 adf : ∃ K : PySem.W.Frag,K.In h /\ makesIn K (clsAt c) = true /\ findIn K (.ref (clsAt c)) "__init__" = some (some (.ref (aQ (initOf c)))) /\ typeIn K (.ref (aQ (initOf c))) = some (.type "function")
structure bx (prog : Program) (w : World) (aQ : Nat -> Addr) (G : Addr) (TT : Heap -> Prop) (cx : Cx) : Prop where
 top : TT cx.base
 kind : cx.env.scope.kind = .function
 globals : cx.env.globals = G
 builtins : cx.env.builtins = builtinsNs
 glob : tL aQ cx.base G
 posix : cY prog w cx.base
 sm : ∃ o,cx.base.get? sysModules = some o
 cls : ∀ c,vH aQ cx.base c
 fn : ∀ f,∃ o fd,cx.base.get? (aQ f) = some o /\ o.cls = .type "function" /\ o.data = .func fd
section
variable {prog : Program} {w : World} {aQ : Nat -> Addr} {G : Addr} {TT : Heap -> Prop}
theorem Ns.stay {h h' : Heap} {a : Addr} {m : PySem.Str -> Option Value} (k : h.StaysIn h') (x : h.Ns a m) : h'.Ns a m := by
 obtain ⟨o,es,ep,ho,r⟩ := x
 exact ⟨o,es,ep,k _ _ ho,r⟩
theorem cY.stay {h h' : Heap} (k : h.StaysIn h') (x : cY prog w h) : cY prog w h' := by
 obtain ⟨m,⟨o,es,ep,ho,r⟩,h1⟩ := x
 exact ⟨m,⟨o,es,ep,k _ _ ho,r⟩,h1⟩
theorem tL.stay {h h' : Heap} (k : h.StaysIn h') (x : tL aQ h G) : tL aQ h' G where
 gm := by obtain ⟨m,h1,a,b,c,d,e,f,g⟩ := x.gm; exact ⟨m,Ns.stay k h1,a,b,c,d,e,f,g⟩
 bm := by obtain ⟨m,h1,a,b⟩ := x.bm; exact ⟨m,Ns.stay k h1,a,b⟩
variable {cx : Cx} {A : Around} {ρ : List Addr} {ls : Ls} {H : List Cell} {s : Shared} {E : Value -> Shared -> Prop} {Q : Value -> Shared -> Prop}
theorem St.posix (ok : bx prog w aQ G TT cx) (st : St prog w cx ρ ls H s) : cY prog w s.heap := ok.posix.stay st.stay
theorem St.sm (ok : bx prog w aQ G TT cx) (st : St prog w cx ρ ls H s) : sysModules ∉ ρ := fun m => by
 obtain ⟨o,ho⟩ := ok.sm
 rw [st.low _ m] at ho; exact cN ho
theorem mC (ok : bx prog w aQ G TT cx) (st : St prog w cx ρ ls H s) {n : PySem.Str} {v : Value} {pos : Pos} (hd : (n == ("__debug__" : PySem.Str)) = false) (hk : cx.env.kindOf n = some .globalImplicit) (hv : ∀ m,cx.base.Ns G m -> m n = some v) (h : Q v s) : wpAny (model prog w) A (eval (.Name n pos) cx.env) Q E s := by
 obtain ⟨m,hm,_⟩ := ok.glob.gm
 refine wpAny_Name (ks_loadName_global ok.kind hk (loadGlobal_global (mg := m) ?_ (hv m hm) h)) hd
 rw [ok.globals]; exact Ns.stay st.stay hm
theorem CN (ok : bx prog w aQ G TT cx) (st : St prog w cx ρ ls H s) {n : PySem.Str} {v : Value} {pos : Pos} (hd : (n == ("__debug__" : PySem.Str)) = false) (hk : cx.env.kindOf n = some .globalImplicit) (hv : ∀ m,cx.base.Ns G m -> m n = none) (hb : ∀ m,cx.base.Ns builtinsNs m -> m n = some v) (h : Q v s) : wpAny (model prog w) A (eval (.Name n pos) cx.env) Q E s := by
 obtain ⟨m,hm,_⟩ := ok.glob.gm
 obtain ⟨b,hbm,_⟩ := ok.glob.bm
 refine wpAny_Name (ks_loadName_global ok.kind hk (loadGlobal_builtin (mg := m) (mb := b) ?_ (hv m hm) ?_ (hb b hbm) h)) hd
 ·rw [ok.globals]; exact Ns.stay st.stay hm
 ·rw [ok.builtins]; exact Ns.stay st.stay hbm
theorem KJ (ok : bx prog w aQ G TT cx) (st : St prog w cx ρ ls H s) {x : Nat} {n : PySem.Str} {v : Val} {pos : Pos} (hd : (n == ("__debug__" : PySem.Str)) = false) (hn : cx.nm[x]? = some (some n)) (hx : ls[x]? = some (some v)) (h : ∀ u,aC s.heap ρ v u -> Q u s) : wpAny (model prog w) A (eval (.Name n pos) cx.env) Q E s := by
 obtain ⟨m,hm,hs⟩ := st.xU
 rcases hs x v n hx hn with ⟨hk,u,hu,hr⟩ | ⟨hk,ca,o,u,hc,_,_,ho,hd',hr⟩
 ·exact wpAny_Name (wpAny_loadName_local ok.kind hk hm hu (h u hr)) hd
 ·exact wpAny_Name (wpAny_loadName_cell ok.kind hk hc ⟨o,ho,hd'⟩ (h u hr)) hd
end
section
variable (prog : Program) (w : World) (C : bK) (d : Nat)
def aY (cx : Cx) (ls : Ls) (m : ME) (e : PySem.Expr) : Prop := ∀ A ρ H s Q E,rU cx A d -> St prog w cx ρ ls H s -> Post prog w cx RV ρ s (aL C ls m H) Q E -> wpAny (model prog w) A (eval e cx.env) Q E s
def jj (cx : Cx) (ls : Ls) (m : ME) (e : PySem.Expr) : Prop := ∀ A ρ H s Q E,rU cx A d -> St prog w cx ρ ls H s -> Post prog w cx RB ρ s (jd C ls m H) Q E -> wpAny (model prog w) A (isTrue e cx.env (eval e cx.env)) Q E s
def yt (cx : Cx) (ls : Ls) (m : gw) (es : List PySem.Expr) : Prop := ∀ pos A ρ H s Q E,rU cx A d -> St prog w cx ρ ls H s -> Post prog w cx RVs ρ s (pI C ls m H) Q E -> wpAny (model prog w) A (spliced (backTo pos (starEach es cx.env))) Q E s
end
section
variable {prog : Program} {w : World} {C : bK} {d : Nat} {aQ : Nat -> Addr} {G : Addr} {TT : Heap -> Prop} {cx : Cx} {ls : Ls}
theorem U0 {k : Nat} {pos : Pos} : aY prog w C d cx ls .bY (.Constant .none k pos) := fun A ρ H s Q E hA st hP => by
 rw [zm] at hP
 exact Constant_none (hP.here st.hr .none)
theorem U8 {b : Bool} {k : Nat} {pos : Pos} : aY prog w C d cx ls (.eZ b) (.Constant (.bool b) k pos) := fun A ρ H s Q E hA st hP => by
 rw [Lf] at hP
 exact Constant_bool (hP.here st.hr (.bool _))
theorem YG {i : Int} {k : Nat} {pos : Pos} : aY prog w C d cx ls (.aq i) (.Constant (.int i) k pos) := fun A ρ H s Q E hA st hP => by
 rw [Rr] at hP
 exact wpAny_Constant_int (hP.toks st.hr (.int _ _))
theorem YK {op : vI} {a b : ME} {l r : PySem.Expr} {pos : Pos} (h1 : aY prog w C d cx ls a l) (h2 : aY prog w C d cx ls b r) : aY prog w C d cx ls (.bin op a b) (.BinOp l (yH op) r pos) := fun A ρ H s Q E hA st hP => by
 rw [vC] at hP
 exact wpAny_BinOp (h1 _ _ _ _ _ _ hA st (Post.bind hP fun v u H1 ρ1 s1 e1 hr1 r1 bQ => h2 _ _ _ _ _ _ hA (st.step e1 hr1) (Post.bind bQ fun v2 u2 H2 ρ2 s2 e2 hr2 r2 hP2 => Ub hr2 (e2.val r1) r2 hP2)))
theorem Pa {b : Bs} {k : Nat} {pos : Pos} : aY prog w C d cx ls (.aj b) (.Constant (.bytes b) k pos) := fun A ρ H s Q E hA st hP => by
 rw [G7] at hP
 exact Constant_bytes (hP.toks st.hr (.bytes _ _))
theorem Yy {x : String} {k : Nat} {pos : Pos} : aY prog w C d cx ls (.tE x) (.Constant (.str (PySem.Str.ofString x)) k pos) := fun A ρ H s Q E hA st hP => by
 rw [Rq] at hP
 exact wpAny_Constant_str (hP.toks st.hr (.str _ _))
theorem Yw {x : Nat} {n : PySem.Str} {pos : Pos} (ok : bx prog w aQ G TT cx) (hd : (n == ("__debug__" : PySem.Str)) = false) (hn : cx.nm[x]? = some (some n)) : aY prog w C d cx ls (.var x) (.Name n pos) := fun A ρ H s Q E hA st hP => by
 rw [jE] at hP
 exact hP.aeL fun v hx hP => KJ ok st hd hn hx fun u hu => hP.here st.hr hu
theorem OJ {pos : Pos} (ok : bx prog w aQ G TT cx) (hk : cx.env.kindOf "_SLASH" = some .globalImplicit) : aY prog w C d cx ls .slash (.Name "_SLASH" pos) := fun A ρ H s Q E hA st hP => by
 rw [zf] at hP
 obtain ⟨m,hm,_,_,_,⟨t,ht⟩,_⟩ := ok.glob.gm
 refine mC ok st (by decide +kernel) hk (v := .int 47 t) (fun m' hm' => by rw [Ns.uniq hm' hm]; exact ht) (hP.here st.hr (.int _ _))
theorem O4 {pos : Pos} (ok : bx prog w aQ G TT cx) (hk : cx.env.kindOf "_POSIX_CLASSES" = some .globalImplicit) : aY prog w C d cx ls .posix (.Name "_POSIX_CLASSES" pos) := fun A ρ H s Q E hA st hP => by
 rw [zj] at hP
 obtain ⟨m,hm,_,_,_,_,ht,_⟩ := ok.glob.gm
 refine mC ok st (by decide +kernel) hk (v := .ref o8) (fun m' hm' => by rw [Ns.uniq hm' hm]; exact ht) (hP.here st.hr .posix)
theorem YJ {op : qO} {a b : ME} {l r : PySem.Expr} {pos : Pos} (ok : bx prog w aQ G TT cx) (hb : behindInMarks (jo op) r = false) (h1 : aY prog w C d cx ls a l) (h2 : aY prog w C d cx ls b r) : aY prog w C d cx ls (.cmp op a b) (.Compare l [jo op] [r] pos) := fun A ρ H s Q E hA st hP => by
 rw [pJ] at hP
 refine wpAny_Compare1 (h1 _ _ _ _ _ _ hA st (Post.bind hP fun v u H1 ρ1 s1 e1 hr1 r1 bQ => h2 _ _ _ _ _ _ hA (st.step e1 hr1) (Post.bind bQ fun v2 u2 H2 ρ2 s2 e2 hr2 r2 hP2 => ?_))) hb
 have st2 := (st.step e1 hr1).step e2 hr2
 exact hP2.lM fun c hc hP2 => lg hA.handled hr2 (st2.posix ok) (e2.val r1) r2 hc fun h' k hk => hP2.same hk hr2 (.bool _)
noncomputable def FZ : ME -> Bool
 | .not _ | .and _ _ | .or _ _ => false
 | _ => true
noncomputable def N7 (e : PySem.Expr) : Bool := !(e.ctorIdx == 3 || e.ctorIdx == 0 || e.ctorIdx == 5 || e.ctorIdx == 15)
theorem pG {m : ME} {H : List Cell} (h : FZ m = true) : jd C ls m H = (aL C ls m H).bind fun u h => match truth h u with | some b => .ok b h | none => .bad := by
 cases m <;> first | rfl | cases h
theorem Res.assoc {α β γ : Type} (r : Res α) (f : α -> Mine.H -> Res β) (g : β -> Mine.H -> Res γ) : (r.bind f).bind g = r.bind fun a h => (f a h).bind g := by cases r <;> rfl
theorem Post.trI {H : List Cell} {o : Option Bool} {ρ : List Addr} {s : Shared} {Q : Bool -> Shared -> Prop} {E : Value -> Shared -> Prop} {G : Prop} (hP : Post prog w cx RB ρ s (match o with | some b => .ok b H | none => .bad) Q E) (k : ∀ c,o = some c -> Post prog w cx RB ρ s (.ok c H) Q E -> G) : G := by
 cases o with
 | none => exact hP.elim
 | some c => exact k c rfl hP
theorem Post.tO {H : List Cell} {o : Option Bool} {ρ : List Addr} {s : Shared} {Q : Bool -> Shared -> Prop} {E : Value -> Shared -> Prop} {G : Prop} (hP : Post prog w cx RB ρ s ((Mine.lM o H).bind fun u h => match truth h u with | some b => .ok b h | none => .bad) Q E) (k : ∀ c,o = some c -> Post prog w cx RB ρ s (.ok c H) Q E -> G) : G := by
 cases o with
 | none => exact hP.elim
 | some c => exact k c rfl hP
theorem U6 {op : qO} {a b : ME} {l r : PySem.Expr} {pos : Pos} (ok : bx prog w aQ G TT cx) (hb : behindInMarks (jo op) r = false) (h1 : aY prog w C d cx ls a l) (h2 : aY prog w C d cx ls b r) : jj prog w C d cx ls (.cmp op a b) (.Compare l [jo op] [r] pos) := fun A ρ H s Q E hA st hP => by
 rw [pG rfl,pJ,Res.assoc] at hP
 refine wpAny_isTrue_Compare1 (h1 _ _ _ _ _ _ hA st (Post.bind hP fun v u H1 ρ1 s1 e1 hr1 r1 bQ => h2 _ _ _ _ _ _ hA (st.step e1 hr1) (Post.bind (Res.assoc _ _ _ ▸ bQ) fun v2 u2 H2 ρ2 s2 e2 hr2 r2 hP2 => ?_))) hb
 have st2 := (st.step e1 hr1).step e2 hr2
 refine Post.tO hP2 fun c hc hP2 => ?_
 refine lg hA.handled hr2 (st2.posix ok) (e2.val r1) r2 hc fun h' k hk => wpAny_truthy_bool ?_
 exact Post.same (R := RB) (v := c) hP2 hk hr2 rfl
theorem U7 {o1 o2 : qO} {a b c : ME} {l r1 r2 : PySem.Expr} {pos : Pos} (ok : bx prog w aQ G TT cx) (hb : lastMarks [jo o1,jo o2] [r1,r2] = false) (h1 : aY prog w C d cx ls a l) (h2 : aY prog w C d cx ls b r1) (h3 : aY prog w C d cx ls c r2) : aY prog w C d cx ls (.ji o1 o2 a b c) (.Compare l [jo o1,jo o2] [r1,r2] pos) := fun A ρ H s Q E hA st hP => by
 rw [wV] at hP
 refine Compare_chain (h1 _ _ _ _ _ _ hA st (Post.bind hP fun v u H1 ρ1 s1 e1 hr1 r1 bQ => chain_link (h2 _ _ _ _ _ _ hA (st.step e1 hr1) (Post.bind bQ fun v2 u2 H2 ρ2 s2 e2 hr2 r2 hP2 => ?_)))) hb
 have st2 := (st.step e1 hr1).step e2 hr2
 refine hP2.obI (fun hc hP2 => ?_) fun hc hP2 => ?_
 ·refine lg hA.handled hr2 (st2.posix ok) (e2.val r1) r2 hc fun h' k hk => wpAny_truthy_bool ?_
  rw [if_pos rfl]
  have e3 : Ext [] ρ2 s2 ρ2 { s2 with heap := h',toks := k } := Ext.all hk
  have st3 := st2.step e3 (hr2.all hk)
  refine chain_last (h3 _ _ _ _ _ _ hA st3 (Post.bind (hP2.shift e3) fun v3 u3 H3 ρ3 s3 e4 uQ r3 uR => ?_))
  have st4 := st3.step e4 uQ
  exact uR.lM fun c' hc' uR => lg hA.handled uQ (st4.posix ok) (e4.val (e3.val r2)) r3 hc' fun h' k hk => uR.same hk uQ (.bool _)
 ·refine lg hA.handled hr2 (st2.posix ok) (e2.val r1) r2 hc fun h' k hk => wpAny_truthy_bool ?_
  rw [if_neg Bool.false_ne_true]
  exact hP2.same hk hr2 (.bool _)
theorem Pb {a b : ME} {e1 e2 : PySem.Expr} {rest : List PySem.Expr} {pos : Pos} (h1 : aY prog w C d cx ls a e1) (h2 : aY prog w C d cx ls b (.BoolOp .And (e2 :: rest) pos)) : aY prog w C d cx ls (.and a b) (.BoolOp .And (e1 :: e2 :: rest) pos) := fun A ρ H s Q E hA st hP => by
 rw [Jr] at hP
 refine BoolOp_and (h1 _ _ _ _ _ _ hA st (Post.bind hP fun v u H1 ρ1 s1 e1 hr1 r1 bQ => ?_))
 refine bQ.obI (fun ht bQ => jK hr1 r1 ht fun k => ?_) fun ht bQ => jK hr1 r1 ht fun k => ?_
 ·rw [if_pos rfl]
  exact h2 _ _ _ _ _ _ hA ((st.step e1 hr1).step Ext.toks hr1) (bQ.shift Ext.toks)
 ·rw [if_neg Bool.false_ne_true]
  exact bQ.toks hr1 r1
theorem W0 {a b : ME} {e1 e2 : PySem.Expr} {rest : List PySem.Expr} {pos : Pos} (h1 : aY prog w C d cx ls a e1) (h2 : aY prog w C d cx ls b (.BoolOp .Or (e2 :: rest) pos)) : aY prog w C d cx ls (.or a b) (.BoolOp .Or (e1 :: e2 :: rest) pos) := fun A ρ H s Q E hA st hP => by
 rw [Rp] at hP
 refine BoolOp_or (h1 _ _ _ _ _ _ hA st (Post.bind hP fun v u H1 ρ1 s1 e1 hr1 r1 bQ => ?_))
 refine bQ.obI (fun ht bQ => jK hr1 r1 ht fun k => ?_) fun ht bQ => jK hr1 r1 ht fun k => ?_
 ·rw [if_pos rfl]
  exact bQ.toks hr1 r1
 ·rw [if_neg Bool.false_ne_true]
  exact h2 _ _ _ _ _ _ hA ((st.step e1 hr1).step Ext.toks hr1) (bQ.shift Ext.toks)
theorem O5 {a : ME} {op : BoolOp} {e : PySem.Expr} {pos : Pos} (h1 : aY prog w C d cx ls a e) : aY prog w C d cx ls a (.BoolOp op [e] pos) := fun A ρ H s Q E hA st hP => BoolOp_one (h1 _ _ _ _ _ _ hA st hP)
theorem YB {a : ME} {e : PySem.Expr} {pos : Pos} (h1 : aY prog w C d cx ls a e) : aY prog w C d cx ls (.not a) (.UnaryOp .Not e pos) := fun A ρ H s Q E hA st hP => by
 rw [Jo] at hP
 refine UnaryOp_ (h1 _ _ _ _ _ _ hA st (Post.bind hP fun v u H1 ρ1 s1 e1 hr1 r1 bQ => ?_))
 cases ht : truth H1 v with
 | none => rw [ht] at bQ; exact bQ.elim
 | some b =>
  rw [ht] at bQ
  exact not_of (jK hr1 r1 ht fun k => bQ.toks hr1 (.bool _))
theorem YC {i : Int} {k : Nat} {p pos : Pos} : aY prog w C d cx ls (.neg i) (.UnaryOp .USub (.Constant (.int i) k p) pos) := fun A ρ H s Q E hA st hP => by
 rw [vB] at hP
 exact UnaryOp_ (wpAny_Constant_int (PyProof.Rows.neg_int (hP.toks st.hr (.int _ _))))
theorem YF {t a b : ME} {et ea eb : PySem.Expr} {pos : Pos} (h1 : jj prog w C d cx ls t et) (h2 : aY prog w C d cx ls a ea) (h3 : aY prog w C d cx ls b eb) : aY prog w C d cx ls (.ite t a b) (.IfExp et ea eb pos) := fun A ρ H s Q E hA st hP => by
 rw [Jp] at hP
 refine IfExp_ (h1 _ _ _ _ _ _ hA st (Post.bind hP fun v u H1 ρ1 s1 e1 hr1 r1 bQ => ?_))
 cases (show v = u from r1)
 split
 ·rename_i hc; rw [if_pos hc] at bQ; exact h2 _ _ _ _ _ _ hA (st.step e1 hr1) bQ
 ·rename_i hc; rw [if_neg hc] at bQ; exact h3 _ _ _ _ _ _ hA (st.step e1 hr1) bQ
theorem Yp {a : ME} {e : PySem.Expr} {pos : Pos} (h1 : jj prog w C d cx ls a e) : jj prog w C d cx ls (.not a) (.UnaryOp .Not e pos) := fun A ρ H s Q E hA st hP => by
 rw [Jl] at hP
 refine isTrue_not (h1 _ _ _ _ _ _ hA st (Post.bind hP fun v u H1 ρ1 s1 e1 hr1 r1 bQ => ?_))
 cases (show v = u from r1)
 exact Post.here (R := RB) bQ hr1 rfl
theorem Ol {a b : ME} {e1 : PySem.Expr} {rest : List PySem.Expr} {pos : Pos} (h1 : jj prog w C d cx ls a e1) (h2 : jj prog w C d cx ls b (.BoolOp .And rest pos)) : jj prog w C d cx ls (.and a b) (.BoolOp .And (e1 :: rest) pos) := fun A ρ H s Q E hA st hP => by
 rw [pH] at hP
 refine isTrue_and (h1 _ _ _ _ _ _ hA st (Post.bind hP fun v u H1 ρ1 s1 e1 hr1 r1 bQ => ?_))
 cases (show v = u from r1)
 split
 ·rename_i hc; rw [if_pos hc] at bQ; exact h2 _ _ _ _ _ _ hA (st.step e1 hr1) bQ
 ·rename_i hc; rw [if_neg hc] at bQ; exact Post.here (R := RB) bQ hr1 rfl
theorem WX {a b : ME} {e1 : PySem.Expr} {rest : List PySem.Expr} {pos : Pos} (h1 : jj prog w C d cx ls a e1) (h2 : jj prog w C d cx ls b (.BoolOp .Or rest pos)) : jj prog w C d cx ls (.or a b) (.BoolOp .Or (e1 :: rest) pos) := fun A ρ H s Q E hA st hP => by
 rw [Ro] at hP
 refine isTrue_or (h1 _ _ _ _ _ _ hA st (Post.bind hP fun v u H1 ρ1 s1 e1 hr1 r1 bQ => ?_))
 cases (show v = u from r1)
 split
 ·rename_i hc; rw [if_pos hc] at bQ; exact Post.here (R := RB) bQ hr1 rfl
 ·rename_i hc; rw [if_neg hc] at bQ; exact h2 _ _ _ _ _ _ hA (st.step e1 hr1) bQ
theorem Gh {a : ME} {e : PySem.Expr} {pos : Pos} (h1 : jj prog w C d cx ls a e) : jj prog w C d cx ls a (.BoolOp .And [e] pos) := fun A ρ H s Q E hA st hP => by
 refine isTrue_and (wpAny_mono (h1 _ _ _ _ _ _ hA st hP) (fun c s' h => ?_) fun _ _ x => x)
 split
 ·rename_i hc; subst hc; exact isTrue_and_nil h
 ·rename_i hc; rw [Bool.not_eq_true] at hc; subst hc; exact h
theorem Kw {a : ME} {e : PySem.Expr} {pos : Pos} (h1 : jj prog w C d cx ls a e) : jj prog w C d cx ls a (.BoolOp .Or [e] pos) := fun A ρ H s Q E hA st hP => by
 refine isTrue_or (wpAny_mono (h1 _ _ _ _ _ _ hA st hP) (fun c s' h => ?_) fun _ _ x => x)
 split
 ·rename_i hc; subst hc; exact h
 ·rename_i hc; rw [Bool.not_eq_true] at hc; subst hc; exact isTrue_or_nil h
theorem Oi {m : ME} {e : PySem.Expr} (hm : FZ m = true) (he : N7 e = true) (h1 : aY prog w C d cx ls m e) : jj prog w C d cx ls m e := fun A ρ H s Q E hA st hP => by
 rw [pG hm] at hP
 refine wpAny_isTrue_value (h1 _ _ _ _ _ _ hA st (Post.bind hP fun v u H1 ρ1 s1 e1 hr1 r1 bQ => ?_)) (by cases e <;> first | rfl | cases he)
 exact Post.trI bQ fun b ht bQ => jK hr1 r1 ht fun k => Post.toks (R := RB) bQ hr1 rfl
theorem Post.obB {H : List Cell} {o : Option Bool} {r : Res Val} {f : Val -> Mine.H -> Res Bool} {ρ : List Addr} {s : Shared} {Q : Bool -> Shared -> Prop} {E : Value -> Shared -> Prop} {G : Prop} (hP : Post prog w cx RB ρ s ((match o with | some true => r | some false => .ok (.bool false) H | none => .bad).bind f) Q E)
  (k1 : o = some true -> Post prog w cx RB ρ s (r.bind f) Q E -> G) (k2 : o = some false -> Post prog w cx RB ρ s (f (.bool false) H) Q E -> G) : G := by
 cases o with
 | none => exact hP.elim
 | some c => cases c with
  | true => exact k1 rfl hP
  | false => exact k2 rfl hP
theorem Oj {o1 o2 : qO} {a b c : ME} {l r1 r2 : PySem.Expr} {pos : Pos} (ok : bx prog w aQ G TT cx) (hb : lastMarks [jo o1,jo o2] [r1,r2] = false) (h1 : aY prog w C d cx ls a l) (h2 : aY prog w C d cx ls b r1) (h3 : aY prog w C d cx ls c r2) : jj prog w C d cx ls (.ji o1 o2 a b c) (.Compare l [jo o1,jo o2] [r1,r2] pos) := fun A ρ H s Q E hA st hP => by
 rw [pG rfl,wV] at hP
 rw [Res.assoc] at hP
 refine isTrue_chain (h1 _ _ _ _ _ _ hA st (Post.bind hP fun v u H1 ρ1 s1 e1 hr1 r1 bQ => test_link (h2 _ _ _ _ _ _ hA (st.step e1 hr1) (Post.bind (Res.assoc _ _ _ ▸ bQ) fun v2 u2 H2 ρ2 s2 e2 hr2 r2 hP2 => ?_)))) hb
 have st2 := (st.step e1 hr1).step e2 hr2
 refine Post.obB hP2 (fun hc hP2 => ?_) fun hc hP2 => ?_
 ·refine lg hA.handled hr2 (st2.posix ok) (e2.val r1) r2 hc fun h' k hk => wpAny_truthy_bool ?_
  rw [if_pos rfl]
  have e3 : Ext [] ρ2 s2 ρ2 { s2 with heap := h',toks := k } := Ext.all hk
  have st3 := st2.step e3 (hr2.all hk)
  rw [Res.assoc] at hP2
  refine test_last (h3 _ _ _ _ _ _ hA st3 (Post.bind (hP2.shift e3) fun v3 u3 H3 ρ3 s3 e4 uQ r3 uR => ?_))
  have st4 := st3.step e4 uQ
  exact Post.tO uR fun c' hc' uR => lg hA.handled uQ (st4.posix ok) (e4.val (e3.val r2)) r3 hc' fun h' k hk => wpAny_truthy_bool (Post.same (R := RB) (v := c') uR hk uQ rfl)
 ·refine lg hA.handled hr2 (st2.posix ok) (e2.val r1) r2 hc fun h' k hk => wpAny_truthy_bool ?_
  rw [if_neg Bool.false_ne_true]
  exact Post.same (R := RB) (v := false) hP2 hk hr2 rfl
noncomputable def aP (e : PySem.Expr) : Bool := !(e.ctorIdx == 22)
theorem dI {e : PySem.Expr} {es : List PySem.Expr} {env : Env} (h : aP e = true) : starEach (e :: es) env = (false,eval e env) :: starEach es env := by cases e <;> first | rfl | cases h
theorem Yv : yt prog w C d cx ls .nil [] := fun pos A ρ H s Q E hA st hP => by
 rw [rA] at hP
 exact args_nil (hP.here st.hr .nil)
theorem Uz {m : ME} {ms : gw} {e : PySem.Expr} {es : List PySem.Expr} (hu : aP e = true) (h1 : aY prog w C d cx ls m e) (h2 : yt prog w C d cx ls ms es) : yt prog w C d cx ls (.cons m ms) (e :: es) := fun pos A ρ H s Q E hA st hP => by
 rw [oJ] at hP
 refine args_cons (h1 _ _ _ _ _ _ hA st (Post.bind hP fun v u H1 ρ1 s1 e1 hr1 r1 bQ => h2 _ _ _ _ _ _ _ hA (st.step e1 hr1) (Post.bind bQ fun v2 u2 H2 ρ2 s2 e2 hr2 r2 hP2 => ?_))) (dI hu)
 exact hP2.here hr2 (.cons (e2.val r1) r2)
theorem Yx {ms : gw} {es : List PySem.Expr} {k : Nat} {pos : Pos} (h1 : yt prog w C d cx ls ms es) : aY prog w C d cx ls (.tup ms) (.Tuple es k pos) := fun A ρ H s Q E hA st hP => by
 rw [Jm] at hP
 refine Tuple_ (h1 _ _ _ _ _ _ _ hA st (Post.bind hP fun v u H1 ρ1 s1 e1 hr1 r1 bQ => ?_))
 refine bQ.Mr fun hz bQ => ?_
 ·refine wpAny_newTuple ?_ (by rw [r1.length,sizeLine_eq]; exact hz)
  have hk : ∀ b o,s1.heap.get? b = some o -> (s1.heap.push { cls := .type "tuple",data := .seq u.toArray }).get? b = some o := fun b o e => Heap.get?_push_of_some _ e
  refine bQ.same (k := s1.toks) hk hr1 ?_
  refine .tup (fun m => ?_) ⟨_,Heap.get?_push_size _ rfl,rfl,_,rfl⟩ (r1.all hk)
  obtain ⟨o,ho⟩ := hr1.old _ m
  exact absurd (Heap.lt_size ho) (Nat.lt_irrefl _)
theorem YD {ms : gw} {es : List PySem.Expr} {pos : Pos} (h1 : yt prog w C d cx ls ms es) : aY prog w C d cx ls (.lst ms) (.List es pos) := fun A ρ H s Q E hA st hP => by
 rw [rB] at hP
 refine List_ (h1 _ _ _ _ _ _ _ hA st (Post.bind hP fun v u H1 ρ1 s1 e1 hr1 r1 bQ => ?_))
 refine bQ.Mr fun hz bQ => ?_
 ·refine wpAny_newList ?_ (by rw [r1.length,sizeLine_eq]; exact hz)
  have hk : ∀ b o,s1.heap.get? b = some o -> (s1.heap.push { cls := .type "list",data := .seq u.toArray }).get? b = some o := fun b o e => Heap.get?_push_of_some _ e
  exact hr1.sW (k := s1.toks) hk (Heap.get?_none_of_le (Nat.le_refl _)) (Heap.get?_push_size _ rfl) r1 bQ
end
section
variable (prog : Program) (w : World) (C : bK) (d : Nat)
def Sg (cx : Cx) (ls : Ls) (m : ME) (e : Option PySem.Expr) : Prop := ∀ A ρ H s Q E,rU cx A d -> St prog w cx ρ ls H s -> Post prog w cx RV ρ s (aL C ls m H) Q E -> wpAny (model prog w) A (evalPart e cx.env) Q E s
inductive nM (h : Heap) (ρ : List Addr) : List (Bs × Val) -> List (Value × Value) -> Prop
 | nil : nM h ρ [] []
 | cons {k : Bs} {t : Tok} {v : Val} {u : Value} {ks : List (Bs × Val)} {ps : List (Value × Value)} (hv : aC h ρ v u) (hr : nM h ρ ks ps) : nM h ρ ((k,v) :: ks) ((.bytes k.toArray t,u) :: ps)
noncomputable abbrev RD : Rl (List (Bs × Val)) (List (Value × Value)) := fun h ρ v u => nM h ρ v u
def Sq (cx : Cx) (ls : Ls) (ms : gw) (ks : List (Option PySem.Expr)) (vs : List PySem.Expr) : Prop := ∀ pos A ρ H s Q E,rU cx A d -> St prog w cx ρ ls H s -> Post prog w cx RD ρ s (Ew C ls ms H) Q E -> wpAny (model prog w) A (evalPairs (pairTrees ks vs cx.env pos)) Q E s
def HF (Q : Value -> Shared -> Prop) (E : Value -> Shared -> Prop) (r : Result) (s : Shared) : Prop := match r with
 | .ok (.ret v) => Q v s
 | .ok _ => False
 | .error e => E e s
def oR (aQ : Nat -> Addr) (G : Addr) (TT : Heap -> Prop) : Prop := ∀ cx ls f vs ws A ρ H s Q E,bx prog w aQ G TT cx -> tQ cx A d -> St prog w cx ρ ls H s -> aD s.heap ρ vs ws -> Post prog w cx RV ρ s (C f vs H) Q E -> codeAny (model prog w) A (.call (.ref (aQ f)) ⟨ws,[]⟩) (HF Q E) s
end
theorem nM.grow {h h' : Heap} {ρ τ : List Addr} (k : Keeps ρ h h') (f : cC h τ) : ∀ {v : List (Bs × Val)} {w : List (Value × Value)},nM h ρ v w -> nM h' (ρ ++ τ) v w := fun r => by
 induction r with
 | nil => exact .nil
 | cons hv _ ih => exact .cons (hv.grow k f) ih
theorem Ni {prog : Program} {w : World} {A : Around} {E : Value -> Shared -> Prop} {s : Shared} {value slice : PySem.Expr} {o i : Value} {T id : String} {ops : List Value} {Q : Value -> Shared -> Prop} (hT : s.TypeIs o T) (hl : typeLookup (.type T) "__getitem__" = pure (some (.builtin id)))
  (hg : wpAny (model prog w) A (getItem o i) Q E s) (hs : subscripted slice false o i = operate ops (getItem o i)) :
  wpAny (model prog w) A (subscriptTail value slice o i) Q E s := by
 unfold subscriptTail
 refine wpAny_bind ?_
 rw [getitemInPython_of_ne hT.not_modules]
 refine wpAny_bind (wpAny_specialOf hT hl ?_)
 have fin : wpAny (model prog w) A (subscripted slice false o i) (fun r s₃ => wpAny (model prog w) A (letTemporaryGo value o r >>= fun _ => pure r) Q E s₃) E s := by
  rw [hs]
  exact wpAny_operating (wpAny_mono hg (fun r s₃ h₃ => wpAny_bind (wpAny_letTemporaryGo (wpAny_pure h₃))) fun _ _ x => x)
 first
  | exact wpAny_pure (wpAny_bind fin)
  | exact wpAny_bind (wpAny_pure (wpAny_bind fin))
  | exact wpAny_bind fin
noncomputable def Aa (e : PySem.Expr) : Bool := !(e.ctorIdx == 26)
theorem qQ {e : PySem.Expr} {o i : Value} (h : Aa e = true) : subscripted e false o i = operate [o,i] (getItem o i) := by
 cases e <;> first | rfl | cases h
section
variable {prog : Program} {w : World} {C : bK} {d : Nat} {aQ : Nat -> Addr} {G : Addr} {TT : Heap -> Prop} {cx : Cx} {ls : Ls}
theorem Uy : Sg prog w C d cx ls .bY none := fun A ρ H s Q E hA st hP => by
 rw [zm] at hP
 exact wpAny_evalPart_none (hP.here st.hr .none)
theorem Ux {m : ME} {e : PySem.Expr} (h : aY prog w C d cx ls m e) : Sg prog w C d cx ls m (some e) := fun A ρ H s Q E hA st hP => wpAny_evalPart_some (h _ _ _ _ _ _ hA st hP)
theorem Q5 {A : Around} {ρ : List Addr} {H : List Cell} {s : Shared} {u v : Val} {x y : Value} {Q : Value -> Shared -> Prop} {E : Value -> Shared -> Prop} (hr : cu prog w s.heap ρ H) (hpx : cY prog w s.heap) (hu : aC s.heap ρ u x) (hv : aC s.heap ρ v y) (hP : Post prog w cx RV ρ s (bW u v H) Q E) :
  ∃ T id,s.TypeIs x T /\ typeLookup (.type T) "__getitem__" = pure (some (.builtin id)) := by
 induction hu using aC.cs with
 | bytes b t => exact ⟨_,_,typeIs_bytes _ _ _,FB.slot_bytes_getitem.lookup⟩
 | tup ha ht hv => obtain ⟨o,ho,hc,_⟩ := ht; exact ⟨_,_,⟨o,ho,hc⟩,F.slot_tuple_getitem.lookup⟩
 | lst ha =>
  refine Post.int hv hP fun i t hP => ?_
  exact hP.KC fun vs hl _ => by obtain ⟨ws,⟨o,n,ho,hc,_⟩,_⟩ := hr.N6 hl ha; exact ⟨_,_,⟨o,ho,hc⟩,F.slot_list_getitem.lookup⟩
 | lB ha hl hi => obtain ⟨o,ho,hc,_⟩ := hl; exact ⟨_,_,⟨o,ho,hc⟩,F.slot_list_getitem.lookup⟩
 | posix =>
  obtain ⟨m,hm,_⟩ := hpx
  exact ⟨_,_,hm.typeIs,F.slot_dict_getitem.lookup⟩
 | _ => exact (hP.no rfl).elim
theorem YH {a b : ME} {l r : PySem.Expr} {pos : Pos} (ok : bx prog w aQ G TT cx) (hn : Aa r = true) (h1 : aY prog w C d cx ls a l) (h2 : aY prog w C d cx ls b r) : aY prog w C d cx ls (.idx a b) (.Subscript l r pos) := fun A ρ H s Q E hA st hP => by
 rw [Jq] at hP
 refine Subscript_ (h1 _ _ _ _ _ _ hA st (Post.bind hP fun v u H1 ρ1 s1 e1 hr1 r1 bQ => h2 _ _ _ _ _ _ hA (st.step e1 hr1) (Post.bind bQ fun v2 u2 H2 ρ2 s2 e2 hr2 r2 hP2 => ?_)))
 have st2 := (st.step e1 hr1).step e2 hr2
 obtain ⟨T,id,hT,hl⟩ := Q5 (A := A) hr2 (st2.posix ok) (e2.val r1) r2 hP2
 exact Ni hT hl (T9 hr2 (st2.posix ok) (e2.val r1) r2 hP2) (qQ hn)
noncomputable def isNm (e : PySem.Expr) : Bool := e.ctorIdx == 23
theorem Yz {a lo hi : ME} {l : PySem.Expr} {el eh : Option PySem.Expr} {p pos : Pos} (hn : isNm l = true) (h1 : aY prog w C d cx ls a l) (h2 : Sg prog w C d cx ls lo el) (h3 : Sg prog w C d cx ls hi eh) : aY prog w C d cx ls (.slc a lo hi) (.Subscript l (.Slice el eh none p) pos) := fun A ρ H s Q E hA st hP => by
 rw [Aw] at hP
 refine wpAny_Subscript_Slice (T := "bytes") FB.slot_bytes_getitem.lookup (h1 _ _ _ _ _ _ hA st (Post.bind hP fun v u H1 ρ1 s1 e1 hr1 r1 bQ => wpAny_Slice (h2 _ _ _ _ _ _ hA (st.step e1 hr1) (Post.bind bQ fun v2 u2 H2 ρ2 s2 e2 hr2 r2 hP2 =>
  h3 _ _ _ _ _ _ hA ((st.step e1 hr1).step e2 hr2) (Post.bind hP2 fun v3 u3 H3 ρ3 s3 e3 uQ r3 uR => wpAny_evalPart_none ?_))))) (by cases l <;> first | (intros; rfl) | cases hn)
 have hk : ∀ b o,s3.heap.get? b = some o -> (s3.heap.push { cls := .type "slice",data := .fields #[u2,u3,.none] }).get? b = some o := fun b o e => Heap.get?_push_of_some _ e
 have e4 : Ext [] ρ3 s3 ρ3 { s3 with heap := s3.heap.push { cls := .type "slice",data := .fields #[u2,u3,.none] },toks := s3.toks } := Ext.all hk
 refine ⟨?_,T8 (uQ.all hk) (e4.val (e3.val (e2.val r1))) (e4.val (e3.val r2)) (e4.val r3) (Heap.IsSliceOf.new _ _ _ _) (uR.shift e4)⟩
 exact uR.aah fun b e _ => by subst e; obtain ⟨t,rfl⟩ := r1.inv; exact typeIs_bytes _ _ _
theorem Rg {A : Around} {ρ : List Addr} {H : List Cell} {s : Shared} {E : Value -> Shared -> Prop} {Q : Value -> Shared -> Prop} {c l k : Nat} {as : List (Nat × Val)} {v : Val} {x : Addr} {expr : Bool} {i : Nat} (ok : bx prog w aQ G TT cx) (hk : k <= 8) (st : St prog w cx ρ ls H s) (hx : aC s.heap ρ (.inst c l) (.ref x)) (hl : H[l]? = some (.ns i as)) (hv : as.lookup k = some v)
  (h : ∀ u k,aC s.heap ρ v u -> Q u { s with toks := k }) (hh : ∀ u,aC s.heap ρ v u -> handedOut u = pure u) (hB : ∀ k,k <= 8 -> typeLookup (.type "object") (eE k) = pure none) : wpAny (model prog w) A (getAttr (.ref x) (eE k) expr) Q E s := by
 cases hx with
 | inst hxn hd hs =>
  obtain ⟨m,hm,hw,h1⟩ := st.hr.cell _ _ _ hl hd
  obtain ⟨u,hu,ru⟩ := h1 k v hk hv
  obtain ⟨o,ho,hoc,hod,hop⟩ := hs
  obtain ⟨N,mN,X,hng,_,_,hna,_⟩ := (ok.cls c).ex
  refine Z5 (X.keeps st.stay) fun hC => ?_
  obtain ⟨hp,g,dr,t,os⟩ := s
  exact PySem.load_attr hC (X.keeps st.stay).ns hng (hna k hk) (hB k hk) ⟨o,ho,hoc,(fun c' e' => by rw [hop] at e'; cases e'),.inr ⟨_,hod,(fun e' => hxn (e' ▸ bZ hd)),hm⟩⟩ hu (hh u ru) (h u _ ru)
@[elab_as_elim] theorem le8 {P : Nat -> Prop} (p0 : P 0) (p1 : P 1) (p2 : P 2) (p3 : P 3) (p4 : P 4) (p5 : P 5) (p6 : P 6) (p7 : P 7) (p8 : P 8) (k : Nat) (h : k <= 8) : P k := by
 rcases k with _ | _ | _ | _ | _ | _ | _ | _ | _ | k
 ·exact p0
 ·exact p1
 ·exact p2
 ·exact p3
 ·exact p4
 ·exact p5
 ·exact p6
 ·exact p7
 ·exact p8
 ·exact absurd (Nat.le_trans (Nat.le_add_left 9 k) h) (by decide)
theorem yM : ∀ k,k <= 8 -> typeLookup (.type "object") (eE k) = pure none := by
 intro k hk
 rw [typeLookup_type,builtinLookup_eq_fast]
 exact le8 (by kernel_rfl) (by kernel_rfl) (by kernel_rfl) (by kernel_rfl) (by kernel_rfl) (by kernel_rfl) (by kernel_rfl) (by kernel_rfl) (by kernel_rfl) k hk
theorem Wk {value : PySem.Expr} {attr : PySem.Str} {pos : Pos} {env : Env} (hn : isNm value = true) : eval (.Attribute value attr pos) env = (do
   let o <- eval value env
   standAt (Pos.atName pos)
   let r <- holding [o] (getAttr o attr true)
   letTemporaryGo value o r
   pure r) := by
 cases value <;> first | rfl | cases hn
theorem aC.Vw {h : Heap} {ρ : List Addr} {c l : Nat} {u : Value} (r : aC h ρ (.inst c l) u) : ∃ y,u = .ref y := by cases r; exact ⟨_,rfl⟩
theorem G3 {h : Heap} {ρ : List Addr} {v : Val} {u : Value} (r : aC h ρ v u) : handedOut u = pure u := by
 cases r <;> rfl
theorem U9 {a : ME} {k : Nat} {l : PySem.Expr} {pos : Pos} (ok : bx prog w aQ G TT cx) (hn : isNm l = true) (hk : k <= 8) (h1 : aY prog w C d cx ls a l) : aY prog w C d cx ls (.attr a k) (.Attribute l (eE k) pos) := fun A ρ H s Q E hA st hP => by
 rw [DP] at hP
 refine Attribute_any_ (h1 _ _ _ _ _ _ hA st (Post.bind hP fun v u H1 ρ1 s1 e1 hr1 r1 bQ => ?_)) (Wk hn)
 refine bQ.acX fun c l e bQ => bQ.nsI fun i as hl hQ => ?_
 subst e
 obtain ⟨y,rfl⟩ := r1.Vw
 cases hv : as.lookup k with
 | none => rw [hv] at hQ; exact hQ.elim
 | some v =>
 rw [hv] at hQ
 exact Rg ok hk (st.step e1 hr1) r1 hl hv (fun u k ru => hQ.toks hr1 ru) (fun u ru => G3 ru) yM
theorem UW : Sq prog w C d cx ls .nil [] [] := fun pos A ρ H s Q E hA st hP => by
 rw [Js] at hP
 exact pairTrees_nil_walk (hP.here st.hr .nil)
theorem OD {mk mv : ME} {ms : gw} {k v : PySem.Expr} {ks : List (Option PySem.Expr)} {vs : List PySem.Expr} (h1 : aY prog w C d cx ls mk k) (h2 : aY prog w C d cx ls mv v) (h3 : Sq prog w C d cx ls ms ks vs) : Sq prog w C d cx ls (.cons mk (.cons mv ms)) (some k :: ks) (v :: vs) := fun pos A ρ H s Q E hA st hP => by
 rw [DQ] at hP
 refine pairTrees_cons_walk (h1 _ _ _ _ _ _ hA st (Post.bind hP fun v u H1 ρ1 s1 e1 hr1 r1 bQ => h2 _ _ _ _ _ _ hA (st.step e1 hr1) (Post.bind bQ fun v2 u2 H2 ρ2 s2 e2 hr2 r2 hP2 => h3 _ _ _ _ _ _ _ hA ((st.step e1 hr1).step e2 hr2) (Post.bind hP2 fun v3 u3 H3 ρ3 s3 e3 uQ r3 uR => ?_))))
 refine yZ (P := fun r => Post prog w cx RD ρ3 s3 r Q E) uR (fun h => h) fun b e uR => ?_
 subst e
 obtain ⟨t,rfl⟩ := r1.inv
 exact uR.here uQ (.cons (e3.val r2) r3)
theorem abd {k : Bs} {u : Value} {l : List (Bs × Value)} : valueAt ((k,u) :: l) k = some u := by simp [valueAt]
theorem WM {k k' : Bs} {u : Value} {l : List (Bs × Value)} (h : (k' == k) = false) : valueAt ((k,u) :: l) k' = valueAt l k' := by
 have : ¬ k = k' := fun e => by rw [e] at h; simp at h
 simp [valueAt,this]
structure Bl (prog : Program) (w : World) (h : Heap) (ρ : List Addr) (kvs : List (Bs × Val)) (ps : List (Value × Value)) (kws : List (Bs × Value)) : Prop where
 c : Carries (oN prog w) ps kws
 ks : kws.map (·.1) = kvs.map (·.1)
 len : kws.length = kvs.length
 some : ∀ k v,kvs.lookup k = some v -> ∃ u,valueAt kws k = some u /\ aC h ρ v u
 none : ∀ k,kvs.lookup k = none -> valueAt kws k = none
theorem Bl.cons {h : Heap} {ρ : List Addr} {kvs : List (Bs × Val)} {ps : List (Value × Value)} {kws : List (Bs × Value)} {k : Bs} {t : Tok} {v : Val} {u : Value} (x : Bl prog w h ρ kvs ps kws) (hv : aC h ρ v u) : Bl prog w h ρ ((k,v) :: kvs) ((.bytes k.toArray t,u) :: ps) ((k,u) :: kws) where
 c := ⟨wK k t,rfl,x.c⟩
 ks := congrArg (k :: ·) x.ks
 len := congrArg (· + 1) x.len
 some := fun k' v' e => by
  rw [List.lookup_cons] at e
  by_cases hq : (k' == k) = true
  ·rw [hq] at e
   cases e
   obtain rfl := eq_of_beq hq
   exact ⟨u,abd,hv⟩
  ·rw [Bool.not_eq_true] at hq
   rw [hq] at e
   obtain ⟨u',h6,h7⟩ := x.some k' v' e
   exact ⟨u',(WM hq).trans h6,h7⟩
 none := fun k' e => by
  rw [List.lookup_cons] at e
  by_cases hq : (k' == k) = true
  ·rw [hq] at e; exact SX e
  ·rw [Bool.not_eq_true] at hq
   rw [hq] at e
   exact (WM hq).trans (x.none k' e)
theorem nM.keys {h : Heap} {ρ : List Addr} {kvs : List (Bs × Val)} {ps : List (Value × Value)} (r : nM h ρ kvs ps) : ∃ kws : List (Bs × Value),Bl prog w h ρ kvs ps kws := by
 induction r with
 | nil => exact ⟨[],trivial,rfl,rfl,(fun k v e => nomatch e),fun _ _ => rfl⟩
 | cons hv hr ih =>
  obtain ⟨kws,x⟩ := ih
  exact ⟨_,x.cons hv⟩
theorem U4 {ms : gw} {ks : List (Option PySem.Expr)} {vs : List PySem.Expr} {pos : Pos} (hall : ks.all (·.isSome) = true) (hl : ks.length = vs.length) (h0 : ks ≠ []) (hlen : ks.length <= 15) (h1 : Sq prog w C d cx ls ms ks vs) : aY prog w C d cx ls (.dict ms) (.Dict ks vs pos) := fun A ρ H s Q E hA st hP => by
 rw [DN] at hP
 have hk : ∀ b o,s.heap.get? b = some o -> (s.heap.push { cls := .type "dict",data := .dict #[] }).get? b = some o := fun b o e => Heap.get?_push_of_some _ e
 have e0 : Ext [] ρ s ρ { s with heap := s.heap.push { cls := .type "dict",data := .dict #[] },toks := s.toks } := Ext.all hk
 have hD : (s.heap.push { cls := .type "dict",data := .dict #[] }).get? s.heap.objs.size = some { cls := .type "dict",data := .dict #[] } := Heap.get?_push_size _ rfl
 have S7 : s.heap.objs.size ∉ ρ := fun m => by obtain ⟨o,ho⟩ := st.hr.old _ m; exact absurd (Heap.lt_size ho) (Nat.lt_irrefl _)
 have hDf : s.heap.get? s.heap.objs.size = none := Heap.get?_none_of_le (Nat.le_refl _)
 refine wpAny_Dict_walk (knd := oN prog w) hall hl h0 hlen (h1 _ _ _ _ _ _ _ hA (st.step e0 (st.hr.all hk)) ?_)
 cases hr : Ew C ls ms H with
 | bad => rw [hr] at hP; exact hP.elim
 | exc H' =>
  rw [hr] at hP
  exact Post.shift (α := Val) (R := RV) (r := .exc H') (Q := Q) (E := E) e0 hP
 | ok kvs H1 =>
  rw [hr] at hP
  refine Post.Mr hP fun hcond hP => ?_
  ·intro ps ρ1 s1 e1 hr1 r1
   obtain ⟨kws,c1,c2,_,c4,c5⟩ := nM.keys (prog := prog) (w := w) r1
   have hD1 := e1.keep _ _ hD S7 (fun m => nomatch m)
   refine ⟨kws,c1,⟨_,#[],0,hD1,⟨rfl,rfl,rfl⟩,rfl,(fun e he => by simp at he),.nil,List.nodup_nil⟩,fun h' hdo hsb => ?_⟩
   rw [merged_nil_of_nodup _ (by rw [c2]; exact hcond.1)] at hdo
   have hm := hdo.mapOf
   obtain ⟨o,es,ep,ho,_⟩ := id hm
   have hne : s.heap.objs.size ∉ ρ1 := fJ e1.pre hD S7
   have hni : ∀ o,s1.heap.get? s.heap.objs.size = some o -> ¬ S9 o := fun o e => by
    rw [hD1] at e; cases e
    rintro (⟨_,_,q⟩ | q) <;> cases q
   have hk1 : Keeps ρ1 s1.heap h' := fun b o e im hb => ⟨o.slots,by
    by_cases q : b = s.heap.objs.size
    ·subst q; exact absurd im (hni o e)
    ·rw [hsb.2 b q]; exact e⟩
   have hf1 : oO s1.heap [s.heap.objs.size] := fun b hb => by rw [List.mem_singleton.mp hb]; exact hni
   have e01 := e0.trans e1
   refine hP.ok (ρ' := ρ1 ++ [s.heap.objs.size]) ⟨?_,?_,?_,?_⟩ (hr1.snoc hsb.2 hne hni ⟨_,hm,?_,c5⟩ ⟨o,ho⟩) (.dct (q7 hr1.len))
   ·exact dX e01.rest rfl
   ·obtain ⟨τ,rfl,f⟩ := e01.pre
    refine ⟨τ ++ [s.heap.objs.size],by rw [List.append_assoc],fun a ha => ?_⟩
    rcases List.mem_append.mp ha with m | m
    ·exact f a m
    ·rw [List.mem_singleton.mp m]; exact hDf
   ·intro b o e hb _
    have : b ≠ s.heap.objs.size := fun q => by rw [q,hDf] at e; exact cN e
    show h'.get? b = some o
    rw [hsb.2 b this]
    exact e01.keep b o e hb (fun m => nomatch m)
   ·intro b e
    by_cases q : b = s.heap.objs.size
    ·rw [q]; exact hDf
    ·exact e01.live b (by rw [<- hsb.2 b q]; exact e)
   ·intro k v e
    obtain ⟨u,h3,h4⟩ := c4 k v e
    exact ⟨u,h3,h4.lA hk1 hf1⟩
end
noncomputable def aX (es : List PySem.Expr) : Bool := es.all aP
theorem fD {pos : Pos} {env : Env} : ∀ {es : List PySem.Expr},aX es = true -> (backTo pos (starEach es env)).any (·.1) = false
 | [],_ => rfl
 | e :: es,h => by
  have h' : aP e = true /\ aX es = true := by simpa [aX] using h
  rw [dI h'.1]
  show (false || (backTo pos (starEach es env)).any (·.1)) = false
  rw [fD h'.2]; rfl
theorem mK {M : Model} {A : Around} {E : Value -> Shared -> Prop} {s : Shared} {f : Value} {pos : Pos} {env : Env} {es : List PySem.Expr} {Q : Args -> Shared -> Prop} (hu : aX es = true)
  (h : wpAny M A (spliced (backTo pos (starEach es env))) (fun vs s' => Q ⟨vs,[]⟩ s') E s) : wpAny M A (evalArgs f true (backTo pos (starEach es env)) []) Q E s := by
 cases es with
 | nil =>
  exact fun Γ p hΓ => PySem.evalArgs_none (M := M) (h Γ p hΓ) Γ p hΓ
 | cons e es =>
  have h' : aP e = true /\ aX es = true := by simpa [aX] using hu
  rw [dI h'.1] at h ⊢
  exact evalArgs_plain h
noncomputable def tH : PySem.Expr -> Bool
 | .Call (.Name _ _) [] [] _ => false
 | _ => true
set_option tactic.hygienic true in
theorem Vc {o : PySem.Expr} {name : PySem.Str} {apos pos : Pos} {args : List PySem.Expr} {env : Env} (hb : tH o = true) (hn : args.length < 30) (hu : aX args = true) (hp : (apos.endLine == pos.line) = true) :
  eval (.Call (.Attribute o name apos) args [] pos) env = (do
   let ov <- eval o env
   standAt apos.atName
   let __x <- holding [ov] (getMethod ov name (do return (<- importBound o env).getD true))
   match __x with
    | (f,first) => callWith pos f first (backTo pos (starEach args env)) []) := by
 have e1 : attributeBase o name env (eval o env) = eval o env := by
  cases o <;> try rfl
  rename_i f as kws p
  cases f <;> try rfl
  cases as <;> try rfl
  cases kws <;> first | rfl | exact qD hb
 have hlen : ∀ {es : List PySem.Expr},aX es = true -> (backTo pos (starEach es env)).all (fun x => !x.1) = true := by
  intro es h
  have := fD (pos := pos) (env := env) h
  rw [List.any_eq_false] at this
  rw [List.all_eq_true]
  intro x hx
  simpa using this x hx
 have e2 : methodCallForm (args.length + ([] : List Keyword).length) (backTo pos (starEach args env)) [] = true := by
  unfold methodCallForm
  rw [hlen hu]
  simp
  omega
 show (do
  let ov <- attributeBase o name env (eval o env)
  standAt apos.atName
  methodCall o name apos pos env ov (args.length + ([] : List Keyword).length) (backTo pos (starEach args env)) (backToKw pos (keywordEach [] env))) = _
 rw [e1]
 unfold methodCall
 show (do
  let ov <- eval o env
  standAt apos.atName
  let (f,first) <- holding [ov] (calleeOf (methodCallForm (args.length + ([] : List Keyword).length) (backTo pos (starEach args env)) []) o env ov name)
  let callPos <- methodCallPos (methodCallForm (args.length + ([] : List Keyword).length) (backTo pos (starEach args env)) []) o env apos pos
  callWith callPos f first (backTo pos (starEach args env)) []) = _
 rw [e2]
 have e3 : methodCallPos true o env apos pos = pure pos := by
  unfold methodCallPos
  rw [hp]; rfl
 rw [e3]
 rfl
section
variable {prog : Program} {w : World} {C : bK} {d : Nat} {aQ : Nat -> Addr} {G : Addr} {TT : Heap -> Prop} {cx : Cx} {ls : Ls}
theorem O7 {f : Nat} {ms : gw} {es : List PySem.Expr} {p pos : Pos} (ok : bx prog w aQ G TT cx) (hC : oR prog w C d aQ G TT) (hg : Dz f = true) (hd : (fNm f == ("__debug__" : PySem.Str)) = false) (hk : cx.env.kindOf (fNm f) = some .globalImplicit) (hu : aX es = true) (h1 : yt prog w C d cx ls ms es) : aY prog w C d cx ls (.cI f ms) (.Call (.Name (fNm f) p) es [] pos) := fun A ρ H s Q E hA st hP => by
 rw [zp] at hP
 obtain ⟨m,hm,hf,_⟩ := ok.glob.gm
 obtain ⟨o,fd,ho,hoc,hfd⟩ := ok.fn f
 refine Call_ (mC ok st hd hk (v := .ref (aQ f)) (fun m' hm' => by rw [Ns.uniq hm' hm]; exact hf f hg) ?_)
 refine callWith_function (o := o) (fd := fd) (mK hu (h1 _ _ _ _ _ _ _ hA st (Post.bind hP fun v u H1 ρ1 s1 e1 hr1 r1 bQ => ?_)))
 have st1 := st.step e1 hr1
 exact ⟨⟨st1.stay _ _ ho,hfd⟩,wpAny_call (hC _ _ _ _ _ _ _ _ _ _ _ ok hA.c st1 r1 bQ)⟩
theorem zx {M : Model} {A : Around} {E : Value -> Shared -> Prop} {s : Shared} {pos : Pos} {v : Value} {first : List Value} {args : List (Bool × Sem Value)} {Q : Value -> Shared -> Prop} (hv : (∃ id,v = .builtin id) \/ ∃ T,v = .type T) (hp : args.any (·.1) = false)
  (key : wpAny M A (evalArgs v true args []) (fun a s₁ => wpAny M A (call v (first ++ a.pos) a.kw) Q E s₁) E s) : wpAny M A (callWith pos v first args []) Q E s := by
 rcases hv with ⟨id,rfl⟩ | ⟨T,rfl⟩
 ·exact callWith_builtin hp key
 ·exact PySem.callWith_type hp key
theorem Ej (b : Mi) : (∃ id,Ek b = .builtin id) \/ ∃ T,Ek b = .type T := by
 cases b <;> first | exact .inl ⟨_,rfl⟩ | exact .inr ⟨_,rfl⟩
theorem Ac {m : zM} {v : Val} {H : List Cell} (h : Pu m v H = true) : ∃ id,Cy m = .builtin id := by
 cases m <;> first | exact ⟨_,rfl⟩ | (exfalso; revert h; cases v <;> exact Bool.false_ne_true)
theorem O9 {b : Mi} {ms : gw} {es : List PySem.Expr} {p pos : Pos} (ok : bx prog w aQ G TT cx) (hd : (uG b == ("__debug__" : PySem.Str)) = false) (hk : cx.env.kindOf (uG b) = some .globalImplicit) (hu : aX es = true) (h1 : yt prog w C d cx ls ms es) : aY prog w C d cx ls (.cg b ms) (.Call (.Name (uG b) p) es [] pos) := fun A ρ H s Q E hA st hP => by
 rw [zu] at hP
 obtain ⟨m,hm,_,_,_,_,_,hf,_⟩ := ok.glob.gm
 obtain ⟨mb,hmb,hb,_⟩ := ok.glob.bm
 refine Call_ (CN ok st hd hk (v := Ek b) (fun m' hm' => by rw [Ns.uniq hm' hm]; exact hf b) (fun m' hm' => by rw [Ns.uniq hm' hmb]; exact hb b) ?_)
 have key : wpAny (model prog w) A (evalArgs (Ek b) true (backTo pos (starEach es cx.env)) []) (fun a s₁ => wpAny (model prog w) A (call (Ek b) ([] ++ a.pos) a.kw) Q E s₁) E s :=
  mK hu (h1 _ _ _ _ _ _ _ hA st (Post.bind hP fun v u H1 ρ1 s1 e1 hr1 r1 bQ => Ua hA.handled hr1 r1 bQ))
 exact zx (Ej b) (fD hu) key
theorem RZ : ∀ m f c,je c m = some f -> qY m ∉ Et := by
 intro m f c h
 cases m <;> first | (unfold je at h; split at h <;> cases h; done) | decide +kernel
theorem Kv : ∀ m f c,je c m = some f -> ∃ y,typeLookup (.type "object") (qY m) = pure y := by
 intro m f c h
 cases m
 all_goals first
  | (unfold je at h; split at h <;> exact cN h; done)
  | exact ⟨none,by rw [typeLookup_type,builtinLookup_eq_fast]; kernel_rfl⟩
theorem Post.fnI {ρ : List Addr} {s : Shared} {Q : Value -> Shared -> Prop} {E : Value -> Shared -> Prop} {G : Prop} {o : Option Nat} {p : Option Cell} {k : Nat -> Res Val} (hP : Post prog w cx RV ρ s (match o,p with | some f,some (.ns _ _) => k f | _,_ => .bad) Q E) (g : ∀ f i as,o = some f -> p = some (.ns i as) -> Post prog w cx RV ρ s (k f) Q E -> G) : G := by
 cases o with
 | none => exact hP.elim
 | some f => cases p with
  | none => exact hP.elim
  | some c => cases c with
   | ns i as => exact g f i as rfl rfl hP
   | _ => exact hP.elim
theorem Post.abS {ρ : List Addr} {s : Shared} {Q : Value -> Shared -> Prop} {E : Value -> Shared -> Prop} {G : Prop} {v : Val} {f : Nat -> Nat -> Res Val} {r : Res Val} (hP : Post prog w cx RV ρ s (match v with | .inst c l => f c l | _ => r) Q E) (a : ∀ c l,v = .inst c l -> Post prog w cx RV ρ s (f c l) Q E -> G) (b : Post prog w cx RV ρ s r Q E -> G) : G := by
 cases v with
 | inst c l => exact a c l rfl hP
 | _ => exact b hP
theorem U3 {a : ME} {m : zM} {ms : gw} {o : PySem.Expr} {es : List PySem.Expr} {apos pos : Pos} (ok : bx prog w aQ G TT cx) (hC : oR prog w C d aQ G TT) (hb : tH o = true) (hn : es.length < 30) (hu : aX es = true) (hp : (apos.endLine == pos.line) = true)
  (h0 : aY prog w C d cx ls a o) (h1 : yt prog w C d cx ls ms es) : aY prog w C d cx ls (.meth a m ms) (.Call (.Attribute o (qY m) apos) es [] pos) := fun A ρ H s Q E hA st hP => by
 rw [DK] at hP
 refine MethodCall_ (h0 _ _ _ _ _ _ hA st (Post.bind hP fun v u H1 ρ1 s1 e1 hr1 r1 bQ => ?_)) (Vc hb hn hu hp)
 have st1 := st.step e1 hr1
 refine Post.abS bQ (fun c l e bQ => ?_) fun bQ => bQ.Mr fun hok bQ => ?_
 ·subst e
  refine Post.fnI bQ fun f i as hf hl bQ => ?_
  obtain ⟨y,hy⟩ := Kv _ _ _ hf
  obtain ⟨of,fd,ho,hoc,hfd⟩ := ok.fn f
  obtain ⟨N,mN,X,hng,hnh,_,hna,_,hmm⟩ := (ok.cls c).ex
  refine Z5 (X.keeps st1.stay) fun hCo => ?_
  obtain ⟨x,dx,rfl,hxn,hd,ox,hox,ZC,Aj,Vz⟩ := r1.inv
  obtain ⟨mA,hm,hw,_⟩ := hr1.cell _ _ _ hl hd
  have hnone : mA (qY m) = none := by
   cases hq : mA (qY m) with
   | none => rfl
   | some z => exact absurd (hw _ (by rw [hq]; exact fun e => nomatch e)) (RZ _ _ _ hf)
  have fin : wpAny (model prog w) A (callWith pos (.ref (aQ f)) [.ref x] (backTo pos (starEach es cx.env)) []) Q E s1 := by
   refine callWith_function (o := of) (fd := fd) (mK hu (h1 _ _ _ _ _ _ _ hA st1 (Post.bind bQ fun v2 u2 H2 ρ2 s2 e2 hr2 r2 hP2 => ?_)))
   have st2 := st1.step e2 hr2
   exact ⟨⟨st2.stay _ _ ho,hfd⟩,wpAny_call (hC _ _ _ _ _ _ _ _ _ _ _ ok hA.c st2 (.cons (e2.val r1) r2) hP2)⟩
  have hfo := st1.stay _ _ ho
  have hns := (X.keeps st1.stay).ns
  obtain ⟨hp',g,dr,t,os⟩ := s1
  exact PySem.method_of hCo hns hng hnh (hmm _ _ hf) hfo hoc hy ⟨ox,hox,ZC,(fun c' e' => by rw [Vz] at e'; cases e'),.inr ⟨_,Aj,(fun e' => hxn (e' ▸ bZ hd)),hm⟩⟩ hnone fin
 ·refine Nv hr1 r1 hok ?_
  have key : wpAny (model prog w) A (evalArgs (Cy m) true (backTo pos (starEach es cx.env)) []) (fun a s₁ => wpAny (model prog w) A (call (Cy m) ([u] ++ a.pos) a.kw) Q E s₁) E s1 :=
   mK hu (h1 _ _ _ _ _ _ _ hA st1 (Post.bind bQ fun v2 u2 H2 ρ2 s2 e2 hr2 r2 hP2 => Ia hA.handled hr2 ((st1.step e2 hr2).sm ok) (e2.val r1) r2 hP2))
  exact zx (.inl (Ac hok)) (fD hu) key
theorem O8 {c : Nat} {ms : gw} {e : PySem.Expr} {es : List PySem.Expr} {p pos : Pos} (ok : bx prog w aQ G TT cx) (hC : oR prog w C d aQ G TT) (hd : (DW c == ("__debug__" : PySem.Str)) = false) (hk : cx.env.kindOf (DW c) = some .globalImplicit) (hu : aX (e :: es) = true) (h1 : yt prog w C d cx ls ms (e :: es)) : aY prog w C d cx ls (.oM c ms) (.Call (.Name (DW c) p) (e :: es) [] pos) := fun A ρ H s Q E hA st hP => by
 rw [zq] at hP
 obtain ⟨m,hm,_,hf,_⟩ := ok.glob.gm
 obtain ⟨N,mN,X,hng,hnh,_,hna,hin,_⟩ := (ok.cls c).ex
 have hu' : aP e = true /\ aX es = true := by simpa [aX] using hu
 refine Call_ (mC ok st hd hk (v := .ref (clsAt c)) (fun m' hm' => by rw [Ns.uniq hm' hm]; exact hf c) ?_)
 refine callWith_cls X (h1 _ _ _ _ _ _ _ hA st (Post.bind hP fun v u H1 ρ1 s1 e1 hr1 r1 bQ => ?_)) (dI hu'.1) (fD hu'.2)
 have st1 := st.step e1 hr1
 refine ⟨st1.stay,?_⟩
 obtain ⟨K,hK,k1,k2,k3⟩ := (ok.cls c).adf
 have hK1 : K.In s1.heap := fun a o e => st1.stay _ _ (hK a o e)
 have e0 : ∀ b o,s1.heap.get? b = some o -> ((s1.heap.push emptyDict).push (instObj (clsAt c) s1.heap.objs.size)).get? b = some o := fun b o e => Heap.get?_push_of_some _ (Heap.get?_push_of_some _ e)
 have hDf : s1.heap.get? s1.heap.objs.size = none := Heap.get?_none_of_le (Nat.le_refl _)
 have hXf : s1.heap.get? (s1.heap.objs.size + 1) = none := Heap.get?_none_of_le (Nat.le_succ _)
 have hgX : ((s1.heap.push emptyDict).push (instObj (clsAt c) s1.heap.objs.size)).get? (s1.heap.objs.size + 1) = some (instObj (clsAt c) s1.heap.objs.size) := by heap_get
 have hgD : ((s1.heap.push emptyDict).push (instObj (clsAt c) s1.heap.objs.size)).get? s1.heap.objs.size = some emptyDict := Heap.get?_push_of_some _ (Heap.get?_push_at rfl rfl)
 have S7 : s1.heap.objs.size ∉ ρ1 := fun m => by obtain ⟨o,ho⟩ := hr1.old _ m; exact absurd (Heap.lt_size ho) (Nat.lt_irrefl _)
 have hXn : s1.heap.objs.size + 1 ∉ ρ1 := fun m => by obtain ⟨o,ho⟩ := hr1.old _ m; exact absurd (Nat.lt_of_succ_lt (Heap.lt_size ho)) (Nat.lt_irrefl _)
 have fX : cC s1.heap [s1.heap.objs.size] := fun b hb => by rw [List.mem_singleton.mp hb]; exact hDf
 have kX : Keeps ρ1 s1.heap ((s1.heap.push emptyDict).push (instObj (clsAt c) s1.heap.objs.size)) := Keeps.qp e0
 have e2 : Ext [] ρ1 s1 (ρ1 ++ [s1.heap.objs.size]) { s1 with heap := (s1.heap.push emptyDict).push (instObj (clsAt c) s1.heap.objs.size),toks := s1.toks } := Ext.one e0 hDf
 have hr2 : cu prog w ((s1.heap.push emptyDict).push (instObj (clsAt c) s1.heap.objs.size)) (ρ1 ++ [s1.heap.objs.size]) (H1 ++ [.ns c []]) := by
  have hA := hr1.all e0
  refine cu.snoc hA (fun b _ => rfl) S7 (fun o e => ?_) ?_ ⟨_,hgD⟩
  ·rw [hgD] at e; cases e
   rintro (⟨_,_,q⟩ | q) <;> cases q
  ·exact ⟨fun _ => none,Heap.Ns1.of_empty ⟨_,#[],_,hgD,rfl,fun e he => absurd he (by simp),fun _ => rfl⟩,(fun y hy => absurd rfl hy),fun k v _ e => nomatch e⟩
 have rX : aC ((s1.heap.push emptyDict).push (instObj (clsAt c) s1.heap.objs.size)) (ρ1 ++ [s1.heap.objs.size]) (.inst c H1.length) (.ref (s1.heap.objs.size + 1)) := by
  refine .inst (fun m => ?_) (q7 hr1.len) ⟨_,hgX,rfl,rfl,rfl⟩
  rcases List.mem_append.mp m with m | m
  ·exact hXn m
  ·exact absurd (List.mem_singleton.mp m) (Nat.succ_ne_self _)
 refine wpAny_call ?_
 obtain ⟨hp',g,dr,t,os⟩ := s1
 refine make_core (makes_of hK1 k1) (looks_findIn hK1 k2) (fun self => bind_fn hK1 self k3) (.inl rfl) ?_
 refine codeAny_mono (hC _ _ _ _ _ _ _ _ _ (fun v s' => v = .none /\ Q (.ref (hp'.objs.size + 1)) s') E ok (hA.make _ _) (st1.step e2 hr2) (.cons rX (e2.vals r1)) ?_) fun r s' z => ?_
 ·refine Post.bind (R' := RV) (bQ.shift e2) fun v3 u3 H3 ρ3 s3 e3 uQ r3 uR => ?_
  exact uR.Ow fun e uR => by subst e; exact ⟨r3.inv,uR.here uQ (e3.val rX)⟩
 ·rcases r with e | (v | _ | _ | _) <;> exact z
end
def cM (h : Heap) (ρ : List Addr) (it : Addr) (src : Src) (i : Nat) : Prop := match src with
 | .lst l => ∃ a,ρ[l]? = some a /\ h.IsListIter it a i
 | .vals vs => (∃ t ws,t ∉ ρ /\ IsTupIter h it t i /\ IsTup h t ws.toArray /\ aD h ρ vs ws) \/
   (∃ (b : Bs) (t : Tok),vs = b.map (fun c => .int c.toNat) /\ KBw.IsBytesIter h it b.toArray t i) \/
   ∃ (lo : Int) (n : Nat),vs = (List.range n).map (fun k => .int (lo + (k : Nat))) /\ i <= n /\ IsRangeIter h it (lo + i) ((n : Int) - i) 1
section
variable {prog : Program} {w : World} {A : Around} {ρ ρ₁ : List Addr} {H : List Cell} {s s₁ : Shared} {E : Value -> Shared -> Prop}
theorem cM.there {h : Heap} {it : Addr} {src : Src} {i : Nat} (x : cM h ρ it src i) : ∃ o,h.get? it = some o /\ ∃ vs,o.data = .fields vs := by
 cases src with
 | lst l => obtain ⟨a,_,o,ho,_,hd⟩ := x; exact ⟨o,ho,_,hd⟩
 | vals vs =>
  rcases x with ⟨t,ws,_,⟨o,ho,_,hd⟩,_⟩ | ⟨b,t,_,o,ho,_,hd⟩ | ⟨lo,n,_,_,ho⟩
  ·exact ⟨o,ho,_,hd⟩
  ·exact ⟨o,ho,_,hd⟩
  ·exact ⟨_,ho,_,rfl⟩
theorem cM.grow {h h' : Heap} {τ : List Addr} {it : Addr} {src : Src} {i : Nat} (f : cC h τ) (hk : Keeps ρ h h') (ke : ∀ o,h.get? it = some o -> h'.get? it = some o) (x : cM h ρ it src i) : cM h' (ρ ++ τ) it src i := by
 cases src with
 | lst l =>
  obtain ⟨a,ha,o,ho,hc,hd⟩ := x
  exact ⟨a,q8 ha,o,ke o ho,hc,hd⟩
 | vals vs =>
  rcases x with ⟨t,ws,ht,⟨o,ho,hc,hd⟩,⟨o2,ho2,hc2,n2,hd2⟩,hv⟩ | ⟨b,t,hvs,o,ho,hc,hd⟩ | ⟨lo,n,hvs,hn,ho⟩
  ·obtain ⟨sl,e2⟩ := hk _ _ ho2 (.inl ⟨_,_,hd2⟩) ht
   exact .inl ⟨t,ws,sJ f ho2 ht,⟨o,ke o ho,hc,hd⟩,⟨_,e2,hc2,n2,hd2⟩,hv.grow hk f⟩
  ·exact .inr (.inl ⟨b,t,hvs,o,ke o ho,hc,hd⟩)
  ·exact .inr (.inr ⟨lo,n,hvs,hn,ke _ ho⟩)
theorem cM.ext {it : Addr} {src : Src} {i : Nat} {W : List Addr} (e : Ext W ρ s ρ₁ s₁) (hk : Keeps ρ s.heap s₁.heap) (hi : it ∉ ρ) (hw : it ∉ W) (x : cM s.heap ρ it src i) : cM s₁.heap ρ₁ it src i := by
 obtain ⟨τ,rfl,f⟩ := e.pre
 exact x.grow f hk fun o ho => e.keep _ _ ho hi hw
theorem qT {it : Addr} {src : Src} {i : Nat} {v : Val} {Q : Option Value -> Shared -> Prop} (hr : cu prog w s.heap ρ H) (hx : cM s.heap ρ it src i) (hi : it ∉ ρ) (e : nx src i H = some (some v))
  (h : ∀ u h' k,Heap.SameBut it s.heap h' -> cM h' ρ it src (i + 1) -> aC s.heap ρ v u -> Q (some u) { s with heap := h',toks := k }) : wpAny (model prog w) A (pyNext (.ref it)) Q E s := by
 cases src with
 | lst l =>
  obtain ⟨a,ha,hit⟩ := hx
  refine pB (P := (· = some (some v))) e cN fun vs hl e => ?_
  obtain ⟨ws,hw,Ml⟩ := hr.lst hl ha
  obtain ⟨u,hu,ru⟩ := Ml.get (Option.some.inj e)
  exact wpAny_pyNext_list_item hit hw (by simpa using hu) fun h' h1 h2 => h u h' s.toks h2 ⟨a,ha,h1⟩ ru
 | vals vs =>
  have e' : vs[i]? = some v := Option.some.inj e
  rcases hx with ⟨t,ws,ht,hit,htup,hv⟩ | ⟨b,t,hvs,hit⟩ | ⟨lo,n,hvs,hn,hit⟩
  ·obtain ⟨u,hu,ru⟩ := hv.get e'
   obtain ⟨o,ho,hc,n,hd⟩ := id htup
   obtain ⟨oi,hoi,hci,hdi⟩ := id hit
   have hne : t ≠ it := fun q => by subst q; rw [ho] at hoi; cases hoi; rw [hd] at hdi; cases hdi
   refine next_tuple_item hit htup (by simpa using hu) fun h' h1 h2 => h u h' s.toks h2 (.inl ⟨t,ws,ht,h1,⟨o,by rw [h2.2 t hne]; exact ho,hc,n,hd⟩,?_⟩) ru
   have := hv.lA (h' := h') (τ := []) (fun b o' e1 im _ => ⟨o'.slots,by
    have : b ≠ it := fun q => by subst q; rw [e1] at hoi; cases hoi; exact im.mq _ hdi
    rw [h2.2 b this]; exact e1⟩) cC.nil.weak
   rwa [List.append_nil] at this
  ·subst hvs
   rw [List.getElem?_map] at e'
   cases hb : b[i]? with
   | none => rw [hb] at e'; exact cN e'
   | some c =>
    rw [hb] at e'; cases e'
    exact KBw.next_item hit (by simpa using hb) fun h' h1 h2 => h _ h' _ h2 (.inr (.inl ⟨b,t,rfl,h1⟩)) (.int _ _)
  ·subst hvs
   rw [List.getElem?_map] at e'
   cases hb : (List.range n)[i]? with
   | none => rw [hb] at e'; exact cN e'
   | some c =>
    rw [hb] at e'; cases e'
    obtain ⟨h1,h2⟩ := List.getElem?_eq_some_iff.mp hb
    rw [List.length_range] at h1
    rw [List.getElem_range] at h2
    subst h2
    refine wpAny_pyNext_range_item hit (by lia) fun h' h3 h4 => h _ h' _ h4 (.inr (.inr ⟨lo,n,rfl,by lia,?_⟩)) (.int _ _)
    have e1 : lo + (i : Int) + 1 = lo + ((i + 1 : Nat) : Int) := by lia
    have e2 : (n : Int) - i - 1 = (n : Int) - ((i + 1 : Nat) : Int) := by lia
    rw [e1,e2] at h3
    exact h3
theorem vd {it : Addr} {src : Src} {i : Nat} {Q : Option Value -> Shared -> Prop} (hh : A.handled = none) (hr : cu prog w s.heap ρ H) (hx : cM s.heap ρ it src i) (hi : it ∉ ρ) (e : nx src i H = some none)
  (h : ∀ h',Heap.ExtBut it s.heap h' -> Q none { s with heap := h' }) : wpAny (model prog w) A (pyNext (.ref it)) Q E s := by
 cases src with
 | lst l =>
  obtain ⟨a,ha,hit⟩ := hx
  refine pB (P := (· = some none)) e cN fun vs hl e => ?_
  obtain ⟨ws,hw,Ml⟩ := hr.lst hl ha
  refine wpAny_pyNext_list_end hh hit hw ?_ h
  rw [List.getElem?_toArray]
  exact List.getElem?_eq_none_iff.mpr (Nat.le_trans (Nat.le_of_eq Ml.length) (List.getElem?_eq_none_iff.mp (Option.some.inj e)))
 | vals vs =>
  have e' := List.getElem?_eq_none_iff.mp (Option.some.inj e)
  rcases hx with ⟨t,ws,ht,hit,htup,hv⟩ | ⟨b,t,hvs,hit⟩ | ⟨lo,n,hvs,hn,hit⟩
  ·have hlen := hv.length
   exact next_tuple_end hh hit htup (by simp [hlen]; exact e') h
  ·subst hvs
   rw [List.length_map] at e'
   exact KBw.next_end hh hit (by simp; exact e') h
  ·subst hvs
   rw [List.length_map,List.length_range] at e'
   exact wpAny_pyNext_range_end hh hit (by lia) h
theorem Nr {v : Val} {x : Value} {src : Src} {Q : Value -> Shared -> Prop} (hr : cu prog w s.heap ρ H) (hx : aC s.heap ρ v x) (e : srcOf v = some src)
  (hl : ∀ l,src = .lst l -> ∃ vs,H[l]? = some (.lst vs))
  (h : ∀ it h',s.heap.get? it = none -> (∀ b o,s.heap.get? b = some o -> h'.get? b = some o) -> cM h' ρ it src 0 -> Q (.ref it) { s with heap := h' }) : wpAny (model prog w) A (pyIter x) Q E s := by
 have kp : ∀ (o : Obj) b o',s.heap.get? b = some o' -> (s.heap.push o).get? b = some o' := fun o b o' e => Heap.get?_push_of_some _ e
 have hD : s.heap.get? s.heap.objs.size = none := Heap.get?_none_of_le (Nat.le_refl _)
 induction hx using aC.cs with
 | tup ha ht hv =>
  cases e
  refine iter_tuple ht (h _ _ hD (kp _) (.inl ⟨_,_,ha,⟨_,Heap.get?_push_size _ rfl,rfl,rfl⟩,?_,hv.all (kp _)⟩))
  obtain ⟨o,ho,r⟩ := ht
  exact ⟨o,kp _ _ _ ho,r⟩
 | bytes b t => cases e; exact KBw.pyIter_bytes (h _ _ hD (kp _) (.inr (.inl ⟨b,t,rfl,⟨_,Heap.get?_push_size _ rfl,rfl,rfl⟩⟩)))
 | lst ha =>
  cases e
  obtain ⟨vs,hvs⟩ := hl _ rfl
  obtain ⟨ws,hw,_⟩ := hr.lst hvs ha
  exact wpAny_pyIter_list hw (h _ _ hD (kp _) ⟨_,ha,⟨_,Heap.get?_push_size _ rfl,rfl,rfl⟩⟩)
 | _ => exact cN e
end
def Mf (cx : Cx) (h : Heap) (x : Value) : Prop := ∃ e a0,x = .ref e /\
 ((cx.base.StaysIn h /\ cx.base.get? e = none /\ h.FunFrames cx.base cx.frs /\ ∃ oe vs,h.get? e = some oe /\ oe.cls = .ref jq /\ oe.data = .fields vs /\ vs[1]? = some .none /\ vs[0]? = some a0) \/
 Heap.FlyingW cx.base cx.frs e (.ref jq) a0 h \/ ∃ L,cx.env.frame = some L /\ Heap.HeldW cx.base cx.frs e (.ref jq) a0 L h)
def Es (h : Heap) (ρ : List Addr) (f : Xy) (fl : Flow) : Prop := match f,fl with
 | .next,.next => True
 | .brk,.brk => True
 | .cont,.cont => True
 | .ret v,.ret u => aC h ρ v u
 | _,_ => False
def aA (prog : Program) (w : World) (cx : Cx) (ρ : List Addr) (s : Shared) (r : SR) (Q : Flow -> Shared -> Prop) (E : Value -> Shared -> Prop) : Prop := match r with
 | .ok f ls' H' => ∀ fl ρ' s',Ext [cx.env.locals] ρ s ρ' s' -> St prog w cx ρ' ls' H' s' -> Es s'.heap ρ' f fl -> Q fl s'
 | .exc ls' H' => ∀ x ρ' s',mO [cx.env.locals] ρ s ρ' s' -> cu prog w s'.heap ρ' (H'.map Cell.kill) -> rN cx s'.heap ρ' ls' -> Mf cx s'.heap x -> E x s'
 | .bad => False
structure LocOk (cx : Cx) : Prop where
 ab0 : cx.base.get? cx.env.locals = none
 inj : ∀ (x y : Nat) (n : PySem.Str),cx.nm[x]? = some (some n) -> cx.nm[y]? = some (some n) -> x = y
structure fM (cx : Cx) : Prop extends LocOk cx where
 frame : cx.env.frame = some cx.env.locals /\ ∃ rest,cx.frs = cx.env :: rest
section
variable {prog : Program} {w : World} {cx : Cx} {A : Around} {ρ ρ₁ : List Addr} {ls : Ls} {H : List Cell} {s s₁ : Shared} {E : Value -> Shared -> Prop} {Q : Flow -> Shared -> Prop}
theorem aA.shift {r : SR} (e : Ext [cx.env.locals] ρ s ρ₁ s₁) (x : aA prog w cx ρ s r Q E) : aA prog w cx ρ₁ s₁ r Q E := by
 cases r with
 | ok f ls' H' => exact fun fl ρ' s' e' st hf => x fl ρ' s' (e.trans e') st hf
 | exc ls' H' => exact fun u ρ' s' e' hr hl hf => x u ρ' s' (e.vP e') hr hl hf
 | bad => exact x
theorem aA.ok {f : Xy} {fl : Flow} {ls' : Ls} {H' : List Cell} {ρ' : List Addr} {s' : Shared} (x : aA prog w cx ρ s (.ok f ls' H') Q E) (e : Ext [cx.env.locals] ρ s ρ' s') (st : St prog w cx ρ' ls' H' s') (hf : Es s'.heap ρ' f fl) : Q fl s' := x fl ρ' s' e st hf
theorem aA.tupI {G : Prop} {v : Val} {f : List Val -> SR} (hP : aA prog w cx ρ s (match v with | .tup x => f x | _ => .bad) Q E) (k : ∀ x,v = .tup x -> aA prog w cx ρ s (f x) Q E -> G) : G := I8 (P := fun r => aA prog w cx ρ s r Q E) hP (fun h => h) k
theorem aA.Ow {G : Prop} {v : Val} {r : SR} (hP : aA prog w cx ρ s (match v with | .none => r | _ => .bad) Q E) (k : v = .none -> aA prog w cx ρ s r Q E -> G) : G := Di (P := fun r => aA prog w cx ρ s r Q E) hP (fun h => h) k
theorem aA.iiI {G : Prop} {u v : Val} {f : Int -> Int -> SR} (hP : aA prog w cx ρ s (match u,v with | .int i,.int j => f i j | _,_ => .bad) Q E) (k : ∀ i j,u = .int i -> v = .int j -> aA prog w cx ρ s (f i j) Q E -> G) : G := Zr (P := fun r => aA prog w cx ρ s r Q E) hP (fun h => h) k
theorem aA.Mr {G c : Prop} [Decidable c] {r : SR} (hP : aA prog w cx ρ s (if c then r else .bad) Q E) (k : c -> aA prog w cx ρ s r Q E -> G) : G := lN (P := fun r => aA prog w cx ρ s r Q E) hP (fun h => h) k
theorem rN.zR (hl : rN cx s.heap ρ ls) (e : mO [] ρ s ρ₁ s₁) (loc : cx.env.locals ∉ ρ) : rN cx s₁.heap ρ₁ ls := by
 obtain ⟨τ,rfl,f⟩ := e.pre
 obtain ⟨m,hn,hs⟩ := hl
 have hk : Keeps ρ s.heap s₁.heap := fun b o q im hb => e.keep b o q im.mq hb (fun m => nomatch m)
 refine ⟨m,?_,fun x v n h1 h2 => (hs x v n h1 h2).grow hk f fun b o u h3 h4 h5 _ => e.keep b o h3 (fun ws q => by rw [h4] at q; cases q) h5 (fun m => nomatch m)⟩
 obtain ⟨o,es,ep,ho,hd,r⟩ := hn
 obtain ⟨sl,hs'⟩ := e.keep _ o ho (fun ws q => by rw [hd] at q; cases q) loc (fun m => nomatch m)
 exact ⟨_,es,ep,hs',hd,r⟩
theorem Rj {h : Heap} {x : Value} (f : Fly cx h x) : Mf cx h x := by
 obtain ⟨e,a0,rfl,hf⟩ := f
 exact ⟨e,a0,rfl,.inr (.inl hf)⟩
theorem aA.ofR {α β : Type} {R : Rl α β} {r : Res α} {f : α -> Mine.H -> SR} {Q' : β -> Shared -> Prop} (st : St prog w cx ρ ls H s) (x : aA prog w cx ρ s (match r with | .ok v h => f v h | .exc h => .exc ls h | .bad => .bad) Q E)
  (k : ∀ v u h₁ ρ₁ s₁,Ext [] ρ s ρ₁ s₁ -> St prog w cx ρ₁ ls h₁ s₁ -> R s₁.heap ρ₁ v u -> aA prog w cx ρ₁ s₁ (f v h₁) Q E -> Q' u s₁) : Post prog w cx R ρ s r Q' E := by
 cases r with
 | ok v H' => exact fun u ρ' s' e hr hv => k v u H' ρ' s' e (st.step e hr) hv (aA.shift e.w x)
 | exc H' => exact fun u ρ' s' e hr hf => x u ρ' s' e.w hr (st.xU.zR e st.loc) (Rj hf)
 | bad => exact x
theorem aA.Io {r : Res Val} {f : Val -> Mine.H -> SR} {Q' : Value -> Shared -> Prop} (st : St prog w cx ρ ls H s) (x : aA prog w cx ρ s (SR.of ls r f) Q E)
  (k : ∀ v u h₁ ρ₁ s₁,Ext [] ρ s ρ₁ s₁ -> St prog w cx ρ₁ ls h₁ s₁ -> aC s₁.heap ρ₁ v u -> aA prog w cx ρ₁ s₁ (f v h₁) Q E -> Q' u s₁) : Post prog w cx RV ρ s r Q' E :=
 aA.ofR (R := RV) st (by cases r <;> exact x) k
theorem aA.ofT {r : Res Bool} {f : Bool -> Mine.H -> SR} {Q' : Bool -> Shared -> Prop} (st : St prog w cx ρ ls H s) (x : aA prog w cx ρ s (SR.ofT ls r f) Q E)
  (k : ∀ v u h₁ ρ₁ s₁,Ext [] ρ s ρ₁ s₁ -> St prog w cx ρ₁ ls h₁ s₁ -> v = u -> aA prog w cx ρ₁ s₁ (f v h₁) Q E -> Q' u s₁) : Post prog w cx RB ρ s r Q' E :=
 aA.ofR (R := RB) st (by cases r <;> exact x) k
theorem Es.cs {h : Heap} {ρ : List Addr} {P : ∀ f fl,Es h ρ f fl -> Prop} {f : Xy} {fl : Flow} (x : Es h ρ f fl) (n : P .next .next trivial) (b : P .brk .brk trivial) (c : P .cont .cont trivial) (r : ∀ v u (q : aC h ρ v u),P (.ret v) (.ret u) q) : P f fl x := by
 cases f <;> cases fl <;> first | exact x.elim | assumption | exact r _ _ x
theorem aA.then {r : SR} {f : Ls -> Mine.H -> SR} {Q' : Flow -> Shared -> Prop} (x : aA prog w cx ρ s (r.then f) Q E)
  (k : ∀ ls₁ h₁ ρ₁ s₁,Ext [cx.env.locals] ρ s ρ₁ s₁ -> St prog w cx ρ₁ ls₁ h₁ s₁ -> aA prog w cx ρ₁ s₁ (f ls₁ h₁) Q E -> Q' .next s₁) (k2 : ∀ fl s₁,fl ≠ .next -> Q fl s₁ -> Q' fl s₁) : aA prog w cx ρ s r Q' E := by
 cases r with
 | ok fo ls' H' =>
  intro fl ρ' s' e st hf
  induction hf using Es.cs with
  | n => exact k _ _ _ _ e st (aA.shift e x)
  | b => exact k2 _ _ (fun q => nomatch q) (x _ _ _ e st trivial)
  | c => exact k2 _ _ (fun q => nomatch q) (x _ _ _ e st trivial)
  | r v u hv => exact k2 _ _ (fun q => nomatch q) (x (.ret u) _ _ e st hv)
 | exc ls' H' => exact x
 | bad => exact x
theorem G6 {h h' base : Heap} {L0 : Addr} {o' : Obj} {es : Array DictEntry} {ep : Nat} {l : List Env} (hL : h'.get? L0 = some o') (hd : o'.data = .dict es ep) (k : ∀ b o,b ≠ L0 -> h.get? b = some o -> h'.get? b = some o) (hl : h.FunFrames base l) : h'.FunFrames base l := by
 induction l with
 | nil => trivial
 | cons a r ih =>
  obtain ⟨hk',⟨L,o,h1,h2,h3,h4⟩,hr⟩ := hl
  by_cases q : L = L0
  ·exact ⟨hk',⟨_,o',q ▸ h1,q ▸ h2,hL,fun vs e => by rw [hd] at e; cases e⟩,ih hr⟩
  ·exact ⟨hk',⟨L,o,h1,h2,k _ _ q h3,h4⟩,ih hr⟩
theorem St.store {x : Nat} {n : PySem.Str} {v : Val} {u : Value} {h' : Heap} {m : PySem.Str -> Option Value} {k : Nat} (st : St prog w cx ρ ls H s) (own : LocOk cx) (hx : x < ls.length) (hn : cx.nm[x]? = some (some n)) (hk : cx.env.kindOf n = some .local) (hv : aC s.heap ρ v u)
  (hm : s.heap.Ns cx.env.locals m) (hm' : h'.Ns cx.env.locals fun y => if y = n then some u else m y) (hsb : Heap.SameBut cx.env.locals s.heap h') :
  St prog w cx ρ (ls.set x (some v)) H { s with heap := h',toks := k } /\ Ext [cx.env.locals] ρ s ρ { s with heap := h',toks := k } := by
 obtain ⟨oL,esL,epL,hoL,hdL,_⟩ := id hm
 obtain ⟨oL',aiE,aiF,ac3,af9,_⟩ := id hm'
 have kp : ∀ b o,b ≠ cx.env.locals -> s.heap.get? b = some o -> h'.get? b = some o := fun b o q e => (hsb.2 b q).trans e
 have hke : Keeps ρ s.heap h' := fun b o e im hb => ⟨o.slots,kp b o (fun q => by subst q; rw [hoL] at e; cases e; exact im.noDict _ _ hdL) e⟩
 refine ⟨⟨fun b o e => kp b o (fun q => by rw [q,own.ab0] at e; exact cN e) (st.stay b o e),st.low,st.hr.keep hke fun a o ha e => kp a o (fun q => st.loc (q ▸ ha)) e,G6 ac3 af9 kp st.ff,st.Lb,st.loc,?_,by rw [List.length_set]; exact st.lens⟩,⟨rfl,⟨[],(List.append_nil _).symm,cC.nil⟩,fun b o e _ h2 => kp b o (fun q => h2 (List.mem_singleton.mpr q)) e,fun b e => ?_⟩⟩
 ·obtain ⟨m0,hm0,hs⟩ := st.xU
  obtain rfl := Ns.uniq hm0 hm
  refine ⟨_,hm',fun y v' n' h1 h2 => ?_⟩
  by_cases q : x = y
  ·subst q
   rw [List.getElem?_set_self hx] at h1
   cases h1
   rw [hn] at h2; cases h2
   exact .inl ⟨hk,u,if_pos rfl,hv.keep hke⟩
  ·rw [List.getElem?_set_ne q] at h1
   have hne : n' ≠ n := fun q' => q (own.inj _ _ _ (q' ▸ hn) h2)
   rcases hs y v' n' h1 h2 with ⟨a1,u',a2,a3⟩ | ⟨a1,ca,o,u',a2,a3,a3',a4,a5,a6⟩
   ·exact .inl ⟨a1,u',(if_neg hne).trans a2,a3.keep hke⟩
   ·exact .inr ⟨a1,ca,o,u',a2,a3,a3',kp ca o a3' a4,a5,a6.keep hke⟩
 ·by_cases q : b = cx.env.locals
  ·subst q; rw [show Shared.heap { s with heap := h',toks := k } = h' from rfl,ac3] at e; exact SX e
  ·exact (hsb.2 b q).symm.trans e
theorem fV {x : Nat} {n : PySem.Str} {v : Val} {u : Value} {Q : Unit -> Shared -> Prop} (hkd : cx.env.scope.kind = .function) (st : St prog w cx ρ ls H s) (own : LocOk cx) (hx : x < ls.length) (hn : cx.nm[x]? = some (some n)) (hk : cx.env.kindOf n = some .local) (hv : aC s.heap ρ v u)
  (h : ∀ s',Ext [cx.env.locals] ρ s ρ s' -> St prog w cx ρ (ls.set x (some v)) H s' -> Q () s') : wpAny (model prog w) A (storeName cx.env n u) Q E s := by
 obtain ⟨m,hm,_⟩ := st.xU
 refine wpAny_storeName_local hk hm (fun h' h1 h2 => ?_) (by rw [hkd]; rfl)
 obtain ⟨a,b⟩ := st.store (k := s.toks + 1) own hx hn hk hv hm h1 h2
 exact h _ b a
end
theorem yc : typeLookup (.type "bytes") (dunderI "add") = pure none := by rw [typeLookup_type,builtinLookup_eq_fast]; kernel_rfl
theorem Hw : ∀ k,k <= 8 -> ∀ j,j <= 8 -> eE k = eE j -> k = j := by
 intro k hk j hj
 have h : ∀ k : Fin 9,∀ j : Fin 9,eE k.1 = eE j.1 -> k.1 = j.1 := by decide +kernel
 exact h ⟨k,by lia⟩ ⟨j,by lia⟩
theorem LQ : ∀ k,k <= 8 -> eE k ∈ Et := by
 intro k hk
 have h : ∀ k : Fin 9,eE k.1 ∈ Et := by decide +kernel
 exact h ⟨k,by lia⟩
theorem Cm (as : List (Nat × Val)) (k j : Nat) (v : Val) : (kO as k v).lookup j = if j = k then some v else as.lookup j := by
 induction as with
 | nil =>
  show [(k,v)].lookup j = _
  by_cases h : j = k
  ·subst h; simp
  ·simp [h]
 | cons a as ih =>
  obtain ⟨i,w⟩ := a
  show (if i = k then (i,v) :: as else (i,w) :: kO as k v).lookup j = _
  by_cases hi : i = k
  ·subst hi
   rw [if_pos rfl]
   by_cases h : j = i
   ·subst h; simp
   ·rw [if_neg h,List.lookup_cons,List.lookup_cons,beq_eq_false_iff_ne.mpr h]
  ·rw [if_neg hi,List.lookup_cons,List.lookup_cons]
   by_cases h : j = i
   ·subst h; simp [hi]
   ·rw [beq_eq_false_iff_ne.mpr h]; exact ih
section
variable {prog : Program} {w : World} {A : Around} {E : Value -> Shared -> Prop} {s : Shared}
theorem GK {b c : Array UInt8} {t u : Tok} {Q : Value -> Shared -> Prop} (hsz : b.size + c.size <= 16777216) (h : ∀ t' k,Q (.bytes (b ++ c) t') { s with toks := k }) : wpAny (model prog w) A (inplaceOp .Add (.bytes b t) (.bytes c u)) Q E s := by
 refine inplaceOp_concat (typeIs_bytes s b t) (typeIs_bytes s c u) yc KBy.noFill_bytes_add KBy.seq_bytes_add (call_gives FB.slot_bytes_add (typeIs_bytes s b t) FB.entry_bytes_add (FB.args_bytes_add_2 _ _) (KBy.gives_bytes_add (KBy.tooLong_not hsz)) ?_)
 by_cases hb : b = #[]
 ·subst hb
  have := h u s.toks
  rw [Array.empty_append] at this
  exact this
 ·rw [if_neg (fun q => hb (Array.isEmpty_iff.mp q))]
  by_cases hc : c = #[]
  ·subst hc
   have := h t s.toks
   rw [Array.append_empty] at this
   exact this
  ·rw [if_neg (fun q => hc (Array.isEmpty_iff.mp q))]
   exact ⟨by rw [Array.size_append,sizeLine_eq]; exact hsz,h s.toks (s.toks + 1)⟩
theorem Zv {n : Nat} (h : 0 < n) : seqIndex? (-1) n = some (n - 1) := by
 obtain ⟨k,rfl⟩ := Nat.exists_eq_add_of_lt h
 rw [PySem.seqIndex_neg (by decide) (by omega)]
 congr 1
 omega
theorem Ue {l : Addr} {items : Array Value} {t : Tok} {v : Value} {Q : Unit -> Shared -> Prop} (hp : PlainL s.heap l items) (h0 : 0 < items.size)
  (hQ : ∀ h',PlainL h' l (items.setIfInBounds (items.size - 1) v) -> Heap.SameBut l s.heap h' -> Q () { s with heap := h' }) : wpAny (model prog w) A (setItem (.ref l) (.int (-1) t) v) Q E s := by
 obtain ⟨o,n,ho,hc,hn,hd⟩ := hp
 have hl : s.heap.IsList l items := ⟨o,ho,hc,n,hd⟩
 have hlt : items.size - 1 < items.size := Nat.sub_lt h0 Nat.one_pos
 have hx : items[items.size - 1]? = some items[items.size - 1] := Array.getElem?_eq_getElem hlt
 unfold setItem
 try with_reducible refine wpAny_holding ?_
 first | refine wpAny_bind (wpAny_pure ?_) | skip
 refine wpAny_bind (wpAny_sequenceKey hl.typeIs (by decide) ?_)
 refine wpAny_bind (wpAny_callSpecial?_slot (name := Str.ofString "__setitem__") hl.typeIs slot_list_setitem
  (wpAny_call_entry slot_list_setitem hl.typeIs entry_list_setitem ?_ (args_list_setitem _ _ _)))
 show wpAny _ _ (Builtin.List.listSubscript? (.int (-1) t) >>= _) _ _ s
 refine wpAny_bind (wpAny_listSubscript_int (fitsIndex_neg (by decide) (by decide)) ?_)
 have hidx := Zv h0
 show wpAny _ _ ((Builtin.List.listItems (.ref l) >>= fun xs => pure ((seqIndex? (-1) xs.size).bind fun i => xs[i]?.map (i,·))) >>= _) _ _ s
 refine wpAny_bind (wpAny_bind ?_)
 show wpAny _ _ (seqItems? (.ref l) >>= _) _ _ s
 refine wpAny_bind (wpAny_seqItems ho hd (wpAny_pure (wpAny_pure ?_)))
 rw [hidx]
 simp only [Option.bind_some,hx,Option.map_some]
 show wpAny _ _ (setSeqItemAt l (items.size - 1) v >>= _) _ _ s
 obtain ⟨n',hd'⟩ := Obj.data_mapSeq hd (·.setIfInBounds (items.size - 1) v)
 have fin : Q () { s with heap := s.heap.update l (Obj.mapSeq (·.setIfInBounds (items.size - 1) v)) } := by
  refine hQ _ ⟨_,n',Heap.get?_update_self _ ho (Obj.isFreed_of_seq hd'),(Obj.cls_mapSeq ..).trans hc,?_,hd'⟩ (Heap.SameBut.update ..)
  obtain ⟨_,_,_,_⟩ := o
  simp only at hd hn ⊢
  subst hd
  exact hn
 refine wpAny_bind (wpAny_setSeqItemAt ho hd ?_)
 first
  | exact wpAny_bind (wpAny_pure (wpAny_pure ⟨.none,rfl,wpAny_pure fin⟩))
  | exact wpAny_pure ⟨.none,rfl,wpAny_pure fin⟩
end
section
variable (prog : Program) (w : World) (C : bK) (d : Nat)
def Eo (cx : Cx) (tg : Tg) (e : PySem.Expr) : Prop := ∀ A ρ ls H s v u Q E,rU cx A d -> St prog w cx ρ ls H s -> aC s.heap ρ v u -> aA prog w cx ρ s (store C tg v ls H) (fun _ s' => Q () s') E -> wpAny (model prog w) A (assign e cx.env u) Q E s
def zL (cx : Cx) (tgs : List Tg) (es : List PySem.Expr) : Prop := ∀ A ρ ls H s vs us Q E,rU cx A d -> St prog w cx ρ ls H s -> aD s.heap ρ vs us -> aA prog w cx ρ s (fB C tgs vs ls H) (fun _ s' => Q () s') E -> wpAny (model prog w) A (assignInOrder ((assignEach es cx.env).map (·.2)) us) Q E s
def m5 (cx : Cx) (m : MS) (st : Stmt) : Prop := ∀ A ρ ls H s Q E,rU cx A d -> St prog w cx ρ ls H s -> aA prog w cx ρ s (exS C m ls H) Q E -> wpAny (model prog w) A (exec st cx.env) Q E s
def m6 (cx : Cx) (m : bG) (sts : List Stmt) : Prop := ∀ A ρ ls H s Q E,rU cx A d -> St prog w cx ρ ls H s -> aA prog w cx ρ s (dz C m ls H) Q E -> wpAny (model prog w) A (execs sts cx.env) Q E s
end
section
variable {prog : Program} {w : World} {C : bK} {d : Nat} {aQ : Nat -> Addr} {G : Addr} {TT : Heap -> Prop} {cx : Cx}
theorem Ext.val' {W : List Addr} {ρ ρ₁ : List Addr} {s s₁ : Shared} (x : Ext W ρ s ρ₁ s₁) (hk : Keeps ρ s.heap s₁.heap) {v : Val} {u : Value} (r : aC s.heap ρ v u) : aC s₁.heap ρ₁ v u := by
 obtain ⟨τ,rfl,f⟩ := x.pre
 exact r.grow hk f
theorem sU {ρ ρ₁ : List Addr} {ls : Ls} {H : List Cell} {s s₁ : Shared} (st : St prog w cx ρ ls H s) (x : Ext [cx.env.locals] ρ s ρ₁ s₁) : Keeps ρ s.heap s₁.heap := fun b o e im hb => ⟨o.slots,by
 obtain ⟨m,⟨oL,es,ep,hoL,hdL,_⟩,_⟩ := st.xU
 refine x.keep b o e hb fun m => ?_
 rw [List.mem_singleton.mp m,hoL] at e; cases e
 exact im.noDict _ _ hdL⟩
theorem Gm {x : Nat} {n : PySem.Str} {pos : Pos} (ok : bx prog w aQ G TT cx) (own : fM cx) (hn : cx.nm[x]? = some (some n)) (hk : cx.env.kindOf n = some .local) : Eo prog w C d cx (.var x) (.Name n pos) := fun A ρ ls H s v u Q E hA st hv hP => by
 rw [eO] at hP
 exact hP.Mr fun hx hP => wpAny_assign_Name (fV ok.kind st own.toLocOk hx hn hk hv fun s' e st' => hP.ok (fl := .next) e st' trivial)
theorem R0 {ρ : List Addr} {ls : Ls} {H : List Cell} {s : Shared} {l i k : Nat} {dx x : Addr} {ox : Obj} {v : Val} {u : Value} {as : List (Nat × Val)} {cl : Addr} (st : St prog w cx ρ ls H s) (hxn : x ∉ ρ) (hd : ρ[l]? = some dx) (hl : H[l]? = some (.ns i as)) (hk : k <= 8) (hv : aC s.heap ρ v u) (hox : s.heap.get? x = some ox) (Aj : ox.dict = some dx)
  {m : PySem.Str -> Option Value} (hw : Within m Et) (h2 : ∀ j v',j <= 8 -> as.lookup j = some v' -> ∃ u',m (eE j) = some u' /\ aC s.heap ρ v' u') {h' : Heap} {tk' : Nat} (I' : h'.Inst x cl (fun y => if y = eE k then some u else m y))
  (hk' : ∀ b o,b ≠ x -> (∀ o₀ dx,s.heap.get? x = some o₀ -> o₀.dict = some dx -> b ≠ dx) -> s.heap.get? b = some o -> h'.get? b = some o)
  (hx' : ∀ o₀,s.heap.get? x = some o₀ -> ∃ o₁,h'.get? x = some o₁ /\ o₁.cls = o₀.cls /\ o₁.data = o₀.data /\ o₁.slots = o₀.slots /\ ∀ dx,o₀.dict = some dx -> o₁.dict = some dx) :
  Ext [] ρ s ρ { s with heap := h',toks := tk' } /\ St prog w cx ρ ls (H.set l (.ns i (kO as k v))) { s with heap := h',toks := tk' } := by
 obtain ⟨o₁,e1',c1,d1,sl1,dd1⟩ := hx' _ hox
 have VB := dd1 _ Aj
 have heq : o₁ = ox := by
  obtain ⟨_,_,_,_⟩ := o₁; obtain ⟨_,_,_,_⟩ := ox
  simp only at c1 d1 sl1 VB Aj
  subst c1 d1 sl1; rw [VB,Aj]
 have kk : ∀ b o,b ≠ dx -> s.heap.get? b = some o -> h'.get? b = some o := fun b o hb e => by
  by_cases q : b = x
  ·subst q; rw [hox] at e; cases e; rw [e1',heq]
  ·refine hk' b o q (fun o₀ d' h3 h4 q' => hb ?_) e
   rw [hox] at h3; cases h3; rw [Aj] at h4; cases h4; exact q'
 have hm1 : h'.Ns1 dx (fun y => if y = eE k then some u else m y) := by
  obtain ⟨o2,e2,_,_,hdd⟩ := I'
  rw [e1'] at e2; cases e2
  rcases hdd with ⟨hn0,_⟩ | ⟨d',hd',_,hns'⟩
  ·rw [VB] at hn0; exact SX hn0
  ·rw [VB] at hd'; cases hd'; exact hns'
 have hthere : ∃ o,h'.get? dx = some o := by obtain ⟨o,_,_,e,_⟩ := hm1; exact ⟨o,e⟩
 have kp := Keeps.put hd kk
 have hext : Ext [] ρ s ρ { s with heap := h',toks := tk' } := Ext.put hd kk hthere
 refine ⟨hext,st.step hext (st.hr.put hd kk ⟨_,hm1,fun y hy => ?_,fun j v' hj hlook => ?_⟩ hthere fun q => nomatch q)⟩
 ·by_cases q : y = eE k
  ·subst q; exact LQ k hk
  ·exact hw y fun e => hy ((if_neg q).trans e)
 ·rw [Cm] at hlook
  by_cases q : j = k
  ·subst q
   rw [if_pos rfl] at hlook; cases hlook
   exact ⟨u,if_pos rfl,hv.keep kp⟩
  ·rw [if_neg q] at hlook
   obtain ⟨u',h3,h4⟩ := h2 j v' hj hlook
   exact ⟨u',(if_neg fun q' => q (Hw j hj k hk q')).trans h3,h4.keep kp⟩
theorem R2 {A : Around} {Q : Unit -> Shared -> Prop} {E : Value -> Shared -> Prop} {ρ : List Addr} {ls : Ls} {H : List Cell} {s : Shared} {c l i k : Nat} {dx x : Addr} {v : Val} {u : Value} {as : List (Nat × Val)} (ok : bx prog w aQ G TT cx) (hk : k <= 8) (st : St prog w cx ρ ls H s) (hxn : x ∉ ρ) (hd : ρ[l]? = some dx) (hs : Bm s.heap x (clsAt c) dx) (hl : H[l]? = some (.ns i as)) (hv : aC s.heap ρ v u)
  (hP : aA prog w cx ρ s (.ok .next ls (H.set l (.ns i (kO as k v)))) (fun _ s' => Q () s') E) : wpAny (model prog w) A (setAttr (.ref x) (eE k) u) Q E s := by
 obtain ⟨m,hm,hw,h2⟩ := st.hr.cell _ _ _ hl hd
 obtain ⟨ox,hox,ZC,Aj,Vz⟩ := hs
 obtain ⟨N,mN,X,hng,hnh,hsa,hna,_⟩ := (ok.cls c).ex
 refine Z5 (X.keeps st.stay) fun hC => ?_
 have hns := (X.keeps st.stay).ns
 have hxC : x ≠ clsAt c := fun q => by subst q; rw [hC] at hox; cases hox; cases Vz
 have hdx : dx ≠ x := fun q => hxn (q ▸ bZ hd)
 have hI : s.heap.Inst x (clsAt c) m := ⟨ox,hox,ZC,(fun c' e' => by rw [Vz] at e'; cases e'),.inr ⟨_,Aj,hdx,hm⟩⟩
 have fin := fun h' tk' I' hk' hx' => R0 (k := k) (cl := clsAt c) (h' := h') (tk' := tk') st hxn hd hl hk hv hox Aj hw h2 I' hk' hx'
 obtain ⟨hp',g,dr,t,os⟩ := s
 exact PySem.store_attr PySem.F.store_object hC hns hsa (hna k hk) (yM k hk) hxC hI (fun h' tk' I' hk' hx' => have r := fin h' tk' I' hk' hx'; hP.ok (fl := .next) r.1.w r.2 trivial) hw (by rw [sizeLine_eq]; decide)
theorem UL {a : ME} {k : Nat} {o : PySem.Expr} {pos : Pos} (ok : bx prog w aQ G TT cx) (hk : k <= 8) (h1 : ∀ ls,aY prog w C d cx ls a o) : Eo prog w C d cx (.attr a k) (.Attribute o (eE k) pos) := fun A ρ ls H s v u Q E hA st hv hP => by
 refine kas_attr (h1 _ _ _ _ _ _ _ hA st (aA.Io st hP fun uo x H1 ρ1 s1 e1 st1 r1 bQ => ?_))
 have hv1 := e1.val hv
 induction r1 using aC.cs with
 | @inst c l x dx hxn hd hs =>
  have bQ : aA prog w cx ρ1 s1 (match H1[l]? with | some (.ns c as) => .ok .next ls (H1.set l (.ns c (kO as k v))) | _ => .bad) (fun _ s' => Q () s') E := bQ
  cases hl : H1[l]? with
  | none => rw [hl] at bQ; exact bQ.elim
  | some cc =>
   rw [hl] at bQ
   cases cc with
   | ns i as => exact R2 ok hk st1 hxn hd hs hl hv1 bQ
   | _ => exact bQ.elim
 | _ => exact bQ.elim
theorem Qg {ws : List Value} {u : Value} (h0 : 0 < ws.length) : ws.toArray.setIfInBounds (ws.toArray.size - 1) u = (ws.dropLast ++ [u]).toArray := by
 apply Array.ext'
 rw [Array.toList_setIfInBounds,List.size_toArray]
 show ws.set (ws.length - 1) u = _
 rw [List.set_eq_take_append_cons_drop,if_pos (Nat.sub_lt h0 Nat.one_pos),List.dropLast_eq_take,List.drop_eq_nil_of_le (by omega)]
theorem Qe {ρ : List Addr} {ls : Ls} {H : List Cell} {s : Shared} {l : Nat} {a : Addr} {vs : List Val} {ws : List Value} {v : Val} {u : Value} {h' : Heap} {k : Nat} (st : St prog w cx ρ ls H s) (ha : ρ[l]? = some a) (rws : aD s.heap ρ vs ws) (h0 : 0 < ws.length) (hv : aC s.heap ρ v u)
  (hp' : PlainL h' a (ws.toArray.setIfInBounds (ws.toArray.size - 1) u)) (hsb : Heap.SameBut a s.heap h') : Ext [] ρ s ρ { s with heap := h',toks := k } /\ St prog w cx ρ ls (H.set l (.lst (vs.dropLast ++ [v]))) { s with heap := h',toks := k } := by
 have hk : ∀ b o,b ≠ a -> s.heap.get? b = some o -> h'.get? b = some o := fun b o q e => (hsb.2 b q).trans e
 have hthere : ∃ o,h'.get? a = some o := by obtain ⟨o,_,e,_⟩ := hp'; exact ⟨o,e⟩
 have hext : Ext [] ρ s ρ { s with heap := h',toks := k } := Ext.put ha hk hthere
 have kp := Keeps.put ha hk
 rw [Qg h0] at hp'
 have hd : aD s.heap ρ vs.dropLast ws.dropLast := by
  rw [List.dropLast_eq_take,List.dropLast_eq_take,rws.length]
  exact rws.take _
 exact ⟨hext,st.step hext (st.hr.put ha hk ⟨ws.dropLast ++ [u],hp',(hd.keep kp).append (aD.one (hv.keep kp))⟩ hthere fun q => nomatch q)⟩
theorem Qf {A : Around} {Q : Unit -> Shared -> Prop} {E : Value -> Shared -> Prop} {ρ : List Addr} {ls : Ls} {H : List Cell} {s : Shared} {l : Nat} {a : Addr} {v : Val} {u : Value} {t : Tok} (st : St prog w cx ρ ls H s) (ha : ρ[l]? = some a) (hv : aC s.heap ρ v u)
  (hP : aA prog w cx ρ s (match H[l]? with
   | some (.lst vs) => if vs.isEmpty then .bad else .ok .next ls (H.set l (.lst (vs.dropLast ++ [v])))
   | _ => .bad) (fun _ s' => Q () s') E) : wpAny (model prog w) A (setItem (.ref a) (.int (-1) t) u) Q E s := by
 cases hl : H[l]? with
 | none => rw [hl] at hP; exact hP.elim
 | some c =>
  rw [hl] at hP
  cases c with
  | lst vs =>
   cases vs with
   | nil => exact hP.elim
   | cons v1 vs =>
    obtain ⟨ws,hp,rws⟩ := st.hr.N6 hl ha
    have h0 : 0 < ws.length := by rw [rws.length]; exact Nat.succ_pos _
    refine Ue hp h0 fun h' hp' hsb => ?_
    obtain ⟨hext,st'⟩ := Qe (k := s.toks) st ha rws h0 hv hp' hsb
    exact aA.ok hP (fl := .next) hext.w st' trivial
  | _ => exact hP.elim
theorem UJ {a b : ME} {o i : PySem.Expr} {pos : Pos} (h1 : ∀ ls,aY prog w C d cx ls a o) (h2 : ∀ ls,aY prog w C d cx ls b i) : Eo prog w C d cx (.idx a b) (.Subscript o i pos) := fun A ρ ls H s v u Q E hA st hv hP => by
 refine kas_sub (h1 _ _ _ _ _ _ _ hA st (aA.Io st hP fun uo x H1 ρ1 s1 e1 st1 r1 bQ => h2 _ _ _ _ _ _ _ hA st1 (aA.Io st1 bQ fun ui y H2 ρ2 s2 e2 st2 r2 hP2 => ?_)))
 have r1' := e2.val r1
 have hv2 := e2.val (e1.val hv)
 induction r1' using aC.cs with
 | @lst l x ha =>
  induction r2 using aC.cs with
  | int i t =>
   cases i with
   | ofNat n => exact hP2.elim
   | negSucc n =>
    cases n with
    | zero => exact Qf st2 ha hv2 hP2
    | succ n => exact hP2.elim
  | _ => exact hP2.elim
 | _ => exact hP2.elim
def SR.N (r : SR) : Prop := ∀ g ls' H',r = .ok g ls' H' -> g = .next
theorem SR.N.bad : SR.bad.N := fun g ls' H' e => sbo e
theorem SR.N.ok {ls : Ls} {H : List Cell} : (SR.ok .next ls H).N := fun g ls' H' e => by cases e; rfl
theorem SR.N.of {r : Res Val} {f : Val -> Mine.H -> SR} {ls : Ls} (h : ∀ v h,(f v h).N) : (SR.of ls r f).N := by
 cases r with
 | ok v h' => exact h _ _
 | exc _ => exact fun g ls' H' e => seo e
 | bad => exact .bad
set_option tactic.hygienic true in
theorem gP (t : Tg) (v : Val) (ls : Ls) (H : List Cell) : (store C t v ls H).N := by
 cases t with
 | var x =>
  rw [eO]
  by_cases h : x < ls.length
  ·rw [if_pos h]; exact .ok
  ·rw [if_neg h]; exact .bad
 | attr a k =>
  refine SR.N.of fun u h => ?_
  cases u <;> first | exact .bad | skip
  rename_i c l
  show (match h[l]? with | some (.ns c as) => SR.ok .next ls (h.set l (.ns c (kO as k v))) | _ => .bad).N
  cases h[l]? with
  | none => exact .bad
  | some c => cases c <;> first | exact .bad | exact .ok
 | idx a b =>
  refine SR.N.of fun u h => SR.N.of fun i h => ?_
  cases u <;> first | exact .bad | skip
  cases i <;> first | exact .bad | skip
  rename_i l i
  cases i with
  | ofNat n => exact .bad
  | negSucc n =>
   cases n with
   | succ n => exact .bad
   | zero =>
    show (match h[l]? with | some (.lst vs) => if vs.isEmpty then SR.bad else .ok .next ls (h.set l (.lst (vs.dropLast ++ [v]))) | _ => .bad).N
    cases h[l]? with
    | none => exact .bad
    | some c =>
     cases c <;> first | exact .bad | skip
     rename_i vs
     cases vs <;> first | exact .bad | exact .ok
theorem aA.Jh {ρ : List Addr} {s : Shared} {E : Value -> Shared -> Prop} {Q : Flow -> Shared -> Prop} {r : SR} (hr : r.N) (x : aA prog w cx ρ s r Q E) : aA prog w cx ρ s r (fun _ s' => Q .next s') E := by
 cases r with
 | ok fo ls' H' =>
  obtain rfl := hr _ _ _ rfl
  exact fun fl ρ' s' e st hf => x.ok (fl := .next) e st trivial
 | exc ls' H' => exact x
 | bad => exact x
theorem SR.N.then {r : SR} {f : Ls -> Mine.H -> SR} (hr : r.N) (h : ∀ ls H,(f ls H).N) : (r.then f).N := by
 cases r with
 | ok g ls' H' => obtain rfl := hr _ _ _ rfl; exact h _ _
 | exc ls' H' => exact fun g ls' H' e => seo e
 | bad => exact .bad
theorem aA.abg {ρ : List Addr} {s : Shared} {E : Value -> Shared -> Prop} {Q : Flow -> Shared -> Prop} {Q' : Shared -> Prop} {r : SR} {f : Ls -> Mine.H -> SR} (hr : r.N) (x : aA prog w cx ρ s (r.then f) Q E)
  (k : ∀ ls₁ h₁ ρ₁ s₁,Ext [cx.env.locals] ρ s ρ₁ s₁ -> St prog w cx ρ₁ ls₁ h₁ s₁ -> aA prog w cx ρ₁ s₁ (f ls₁ h₁) Q E -> Q' s₁) : aA prog w cx ρ s r (fun _ s' => Q' s') E := by
 cases r with
 | ok fo ls' H' =>
  obtain rfl := hr _ _ _ rfl
  exact fun fl ρ' s' e st hf => k _ _ _ _ e st (aA.shift e x)
 | exc ls' H' => exact x
 | bad => exact x
theorem aA.abh {ρ : List Addr} {s : Shared} {E : Value -> Shared -> Prop} {Q Q' : Unit -> Shared -> Prop} {r : SR} {f : Ls -> Mine.H -> SR} (hr : r.N) (x : aA prog w cx ρ s (r.then f) (fun _ s' => Q () s') E)
  (k : ∀ ls₁ h₁ ρ₁ s₁,Ext [cx.env.locals] ρ s ρ₁ s₁ -> St prog w cx ρ₁ ls₁ h₁ s₁ -> aA prog w cx ρ₁ s₁ (f ls₁ h₁) (fun _ s' => Q () s') E -> Q' () s₁) : aA prog w cx ρ s r (fun _ s' => Q' () s') E := by
 cases r with
 | ok fo ls' H' =>
  obtain rfl := hr _ _ _ rfl
  exact fun fl ρ' s' e st hf => k _ _ _ _ e st (aA.shift e x)
 | exc ls' H' => exact x
 | bad => exact x
theorem fH {t : PySem.Expr} {ts : List PySem.Expr} {env : Env} (h : aP t = true) : assignEach (t :: ts) env = (false,assign t env) :: assignEach ts env := by cases t <;> first | rfl | cases h
theorem UG : zL prog w C d cx [] [] := fun A ρ ls H s vs us Q E hA st hv hP => by
 induction hv using aD.cs with
 | nil => exact assignInOrder_nil (hP.ok (fl := .next) Ext.refl st trivial)
 | cons _ _ => exact hP.elim
theorem Ox {t : Tg} {ts : List Tg} {e : PySem.Expr} {es : List PySem.Expr} (hu : aP e = true) (h1 : Eo prog w C d cx t e) (h2 : zL prog w C d cx ts es) : zL prog w C d cx (t :: ts) (e :: es) := fun A ρ ls H s vs us Q E hA st hv hP => by
 induction hv using aD.cs with
 | nil => exact hP.elim
 | cons hv hr =>
  rw [fH hu,List.map_cons]
  refine assignInOrder_cons (h1 _ _ _ _ _ _ _ _ _ hA st hv (aA.abh (Q' := fun _ s' => wpAny (model prog w) A (assignInOrder ((assignEach es cx.env).map (·.2)) _) Q E s') (gP _ _ _ _) hP fun ls1 h1 ρ1 s1 e1 st1 bQ => ?_))
  refine h2 _ _ _ _ _ _ _ _ _ hA st1 ?_ bQ
  have hk := sU st e1
  obtain ⟨τ,rfl,f⟩ := e1.pre
  exact hr.grow hk f
noncomputable def jT (e : PySem.Expr) : Bool := !(e.ctorIdx == 8 || e.ctorIdx == 9 || e.ctorIdx == 10)
theorem BP {e : PySem.Expr} {tg : Option PySem.Expr} {n : Nat} {env : Env} (h : jT e = true) : swapsWith e tg n env = pure false := by cases e <;> first | rfl | cases h
theorem jx {es : List PySem.Expr} {e : PySem.Expr} {n : Nat} {env : Env} (h : jT e = true) : swapsWithSole es e n env = pure false := by
 cases es with
 | nil => rfl
 | cons t r => cases r with
  | nil => exact BP h
  | cons _ _ => rfl
noncomputable def Ip (e : PySem.Expr) : Bool := !(e.ctorIdx == 24 || e.ctorIdx == 25)
theorem BW {t e : PySem.Expr} {env : Env} (h : Ip t = true) : swappedStores [t] e env = pure none := by
 cases t <;> first | rfl | cases h
theorem BR {t u : PySem.Expr} {ts : List PySem.Expr} {e : PySem.Expr} {env : Env} : swappedStores (t :: u :: ts) e env = pure none := by
 cases t <;> rfl
theorem xW {xs : List PySem.Expr} {k : Nat} {p : Pos} {e : PySem.Expr} {env : Env} (h : Ip e = true) : swappedStores [.Tuple xs k p] e env = pure none := by
 cases e <;> first | rfl | cases h
theorem lU {M : Model} {A : Around} {E : Value -> Shared -> Prop} {s : Shared} {Q : Unit -> Shared -> Prop} {v : Value} {t : Value -> Sem Unit} (h : wpAny M A (t v) Q E s) : wpAny M A (assignAll v [t]) Q E s := h
theorem Ky {tg : Tg} {m : ME} {t e : PySem.Expr} {pos : Pos} (hc : jT e = true) (hs : swappedStores [t] e cx.env = pure none) (hu : aP t = true) (h1 : ∀ ls,aY prog w C d cx ls m e) (h2 : Eo prog w C d cx tg t) : m5 prog w C d cx (.assign tg m) (.Assign [t] e pos) := fun A ρ ls H s Q E hA st hP => by
 refine wpAny_Assign_stores (h1 _ _ _ _ _ _ _ hA st (aA.Io st hP fun v u H1 ρ1 s1 e1 st1 r1 bQ => ?_)) (jx hc) hs
 rw [fH hu]
 exact lU (h2 _ _ _ _ _ _ _ (fun _ => Q .next) _ hA st1 r1 (aA.Jh (gP _ _ _ _) bQ))
theorem Gk {t1 t2 : Tg} {m : ME} {x1 x2 e : PySem.Expr} {pos : Pos} (hc : jT e = true) (hu1 : aP x1 = true) (hu2 : aP x2 = true) (h1 : ∀ ls,aY prog w C d cx ls m e) (h2 : Eo prog w C d cx t1 x1) (h3 : Eo prog w C d cx t2 x2) : m5 prog w C d cx (.assign2 t1 t2 m) (.Assign [x1,x2] e pos) := fun A ρ ls H s Q E hA st hP => by
 refine wpAny_Assign_stores (h1 _ _ _ _ _ _ _ hA st (aA.Io st hP fun v u H1 ρ1 s1 e1 st1 r1 bQ => ?_)) (jx hc) BR
 rw [fH hu1,fH hu2]
 show wpAny _ _ (do holding [u] (assign x1 cx.env u); assignAll u [assign x2 cx.env]) _ _ _
 refine wpAny_bind (wpAny_holding ?_)
 exact h2 _ _ _ _ _ _ _ (fun _ s2 => wpAny (model prog w) A (assignAll u [assign x2 cx.env]) (fun _ => Q .next) E s2) _ hA st1 r1 (aA.abg (Q' := fun s2 => wpAny (model prog w) A (assignAll u [assign x2 cx.env]) (fun _ => Q .next) E s2) (gP _ _ _ _) bQ fun ls2 H2 ρ2 s2 e2 st2 hP2 => lU (h3 _ _ _ _ _ _ _ (fun _ => Q .next) _ hA st2 (e2.val' (sU st1 e2) r1) (aA.Jh (gP _ _ _ _) hP2)))
theorem nZ (ts : List Tg) : ∀ (vs : List Val) (ls : Ls) (H : List Cell),(fB C ts vs ls H).N := by
 induction ts with
 | nil => intro vs ls H; cases vs <;> first | exact .bad | exact .ok
 | cons t ts ih =>
  intro vs ls H
  cases vs with
  | nil => exact .bad
  | cons v vs => exact SR.N.then (gP _ _ _ _) fun ls H => ih _ _ _
noncomputable def xG (es : List PySem.Expr) : Bool := es.all aP
theorem lR {env : Env} : ∀ {es : List PySem.Expr},xG es = true -> (assignEach es env).findIdx? (fun x => x.1) = none /\ (assignEach es env).length = es.length
 | [],_ => ⟨rfl,rfl⟩
 | e :: es,h => by
  have h' : aP e = true /\ xG es = true := by simpa [xG] using h
  obtain ⟨h1,h2⟩ := lR (env := env) h'.2
  rw [fH h'.1]
  exact ⟨by rw [List.findIdx?_cons]; simp [h1],by simp [h2]⟩
theorem Gj {ts : List Tg} {m : ME} {xs : List PySem.Expr} {e : PySem.Expr} {k : Nat} {tp pos : Pos} (hc : jT e = true) (hs : swappedStores [.Tuple xs k tp] e cx.env = pure none) (hu : xG xs = true) (hl : ts.length = xs.length) (h1 : ∀ ls,aY prog w C d cx ls m e) (h2 : zL prog w C d cx ts xs) : m5 prog w C d cx (.dD ts m) (.Assign [.Tuple xs k tp] e pos) := fun A ρ ls H s Q E hA st hP => by
 refine wpAny_Assign_stores (h1 _ _ _ _ _ _ _ hA st (aA.Io st hP fun v u H1 ρ1 s1 e1 st1 r1 bQ => ?_)) (jx hc) hs
 refine bQ.tupI fun vs e hQ => hQ.Mr fun hlen hQ => ?_
 subst e
 obtain ⟨ws,a,rfl,ha,ht,hv⟩ := r1.inv
 obtain ⟨f1,f2⟩ := lR (env := cx.env) hu
 refine lU (assign_Tuple_tuple (x1 := k) hA.handled ht (by rw [f2,List.size_toArray,hv.length,hlen,hl]) f1 fun h' hb => ?_)
 have hk2 : ∀ b o,s1.heap.get? b = some o -> h'.get? b = some o := fun b o e => hb b o (Nat.ne_of_lt (Heap.lt_size e)) e
 have e2 : Ext [] ρ1 s1 ρ1 { s1 with heap := h',toks := s1.toks } := Ext.all hk2
 exact h2 _ _ _ _ _ _ _ (fun _ => Q .next) _ hA (st1.step e2 (st1.hr.all hk2)) (e2.vals hv) (aA.Jh (nZ _ _ _ _) (hQ.shift e2.w))
theorem Yr {m : ME} {e : PySem.Expr} {pos : Pos} (h1 : ∀ ls,aY prog w C d cx ls m e) : m5 prog w C d cx (.ret m) (.Return (some e) pos) := fun A ρ ls H s Q E hA st hP => by
 exact wpAny_Return_some (h1 _ _ _ _ _ _ _ hA st (aA.Io st hP fun v u H1 ρ1 s1 e1 st1 r1 bQ => bQ.ok (fl := .ret u) Ext.refl st1 r1))
theorem Ys {pos : Pos} : m5 prog w C d cx .brk (.Break pos) := fun A ρ ls H s Q E hA st hP => by
 exact wpAny_Break (hP.ok (fl := .brk) Ext.refl st trivial)
theorem Uw {pos : Pos} : m5 prog w C d cx .cont (.Continue pos) := fun A ρ ls H s Q E hA st hP => by
 exact wpAny_Continue (hP.ok (fl := .cont) Ext.refl st trivial)
theorem abO {t : ME} {a b : bG} {e : PySem.Expr} {sa sb : List Stmt} {pos : Pos} (h1 : ∀ ls,jj prog w C d cx ls t e) (h2 : m6 prog w C d cx a sa) (h3 : m6 prog w C d cx b sb) : m5 prog w C d cx (.dw t a b) (.If e sa sb pos) := fun A ρ ls H s Q E hA st hP => by
 refine wpAny_If (h1 _ _ _ _ _ _ _ hA st (aA.ofT st hP fun v u H1 ρ1 s1 e1 st1 r1 bQ => ?_))
 subst r1
 split
 ·rename_i hc; rw [if_pos hc] at bQ; exact h2 _ _ _ _ _ _ _ hA st1 bQ
 ·rename_i hc; rw [if_neg hc] at bQ; exact h3 _ _ _ _ _ _ _ hA st1 bQ
theorem YL : m6 prog w C d cx .nil [] := fun A ρ ls H s Q E hA st hP => by
 exact wpAny_execs_nil (hP.ok (fl := .next) Ext.refl st trivial)
theorem Vb {m : MS} {ms : bG} {st : Stmt} {sts : List Stmt} (h1 : m5 prog w C d cx m st) (h2 : m6 prog w C d cx ms sts) : m6 prog w C d cx (.cons m ms) (st :: sts) := fun A ρ ls H s Q E hA stt hP => by
 refine wpAny_execs_cons (h1 _ _ _ _ _ _ _ hA stt (aA.then hP (fun ls1 H1 ρ1 s1 e1 st1 bQ => h2 _ _ _ _ _ _ _ hA st1 bQ) fun fl s1 hne hq => ?_))
 cases fl with
 | next => exact absurd rfl hne
 | _ => exact hq
theorem Wi {A : Around} {E : Value -> Shared -> Prop} {Q : Flow -> Shared -> Prop} {ρ : List Addr} {ls : Ls} {H : List Cell} {s : Shared} {x : Nat} {n : PySem.Str} {op : vI} {v0 v1 : Val} {u0 u1 : Value} (ok : bx prog w aQ G TT cx) (own : fM cx) (hn : cx.nm[x]? = some (some n)) (hk : cx.env.kindOf n = some .local) (hlt : x < ls.length) (st : St prog w cx ρ ls H s) (r0 : aC s.heap ρ v0 u0) (r1 : aC s.heap ρ v1 u1)
  (hP : aA prog w cx ρ s (Wj op v0 v1 x ls H) Q E) : wpAny (model prog w) A (inplaceOp (yH op) u0 u1) (fun r s₃ => wpAny (model prog w) A (storeName cx.env n r) (fun _ => Q .next) E s₃) E s := by
 cases op <;> first | exact hP.elim | skip
 induction r0 using aC.cs with
 | int i t =>
  induction r1 using aC.cs with
  | int j t' =>
   refine PyProof.Rows.iadd_int ?_
   have e2 : Ext [] ρ s ρ { s with toks := s.toks + 1 } := Ext.toks
   exact fV ok.kind (st.step e2 st.hr) own.toLocOk hlt hn hk (.int _ _) fun s' e st' => aA.ok hP (fl := .next) (e2.w.trans e) st' trivial
  | _ => exact hP.elim
 | bytes b t =>
  induction r1 using aC.cs with
  | bytes c t' =>
   by_cases hz : b.length + c.length <= bH
   ·refine GK hz fun t' k => ?_
    have e2 : Ext [] ρ s ρ { s with toks := k } := Ext.toks
    rw [List.append_toArray]
    have hP : aA prog w cx ρ s (if b.length + c.length <= bH then .ok .next (ls.set x (some (.bytes (b ++ c)))) H else .bad) Q E := hP
    rw [if_pos hz] at hP
    exact fV ok.kind (st.step e2 st.hr) own.toLocOk hlt hn hk (.bytes _ _) fun s' e st' => aA.ok hP (fl := .next) (e2.w.trans e) st' trivial
   ·have hP : aA prog w cx ρ s (if b.length + c.length <= bH then .ok .next (ls.set x (some (.bytes (b ++ c)))) H else .bad) Q E := hP
    rw [if_neg hz] at hP
    exact hP.elim
  | _ => exact hP.elim
 | _ => exact hP.elim
theorem Yt {x : Nat} {n : PySem.Str} {op : vI} {m : ME} {e : PySem.Expr} {np pos : Pos} (ok : bx prog w aQ G TT cx) (own : fM cx) (hn : cx.nm[x]? = some (some n)) (hk : cx.env.kindOf n = some .local) (h1 : ∀ ls,aY prog w C d cx ls m e) : m5 prog w C d cx (.aug x op m) (.AugAssign (.Name n np) (yH op) e pos) := fun A ρ ls H s Q E hA st hP => by
 have hP : aA prog w cx ρ s (match ls[x]? with
  | some (some u) => SR.of ls (aL C ls m H) fun v h => Wj op u v x ls h
  | _ => .bad) Q E := hP
 cases hx : ls[x]? with
 | none => rw [hx] at hP; exact hP.elim
 | some o =>
  rw [hx] at hP
  cases o with
  | none => exact hP.elim
  | some uo =>
   obtain ⟨mm,hm,hs⟩ := st.xU
   rcases hs x uo n hx hn with ⟨_,u0,hu0,hr0⟩ | ⟨hk2,_⟩
   ·exact wpAny_AugAssign_Name (wpAny_loadName_local ok.kind hk hm hu0 (h1 _ _ _ _ _ _ _ hA st (aA.Io st hP fun v u H1 ρ1 s1 e1 st1 r1 bQ => Wi ok own hn hk (List.getElem?_eq_some_iff.mp hx).1 st1 (e1.val hr0) r1 bQ)))
   ·rw [hk] at hk2; cases hk2
end
section
variable {M : Model} {A : Around} {E : Value -> Shared -> Prop} {s : Shared}
theorem Du {base : Heap} {l : List Env} {e L : Addr} {cls a0 : Value} {Q : Unit -> Shared -> Prop} (x : Heap.HeldW base l e cls a0 L s.heap)
  (hQ : ∀ h',Heap.HeldW base l e cls a0 L h' -> s.heap.UpToSlots h' -> Q () { s with heap := h' }) : wpAny M A (setFlight (.ref e) (some L)) Q E s := by
 obtain ⟨hkb,hen,hl,oe,vs,T,oT,ts,he,hcls,hd,h1,hnT,hTe,hT,hdT,h3⟩ := x
 have h3' : 3 < ts.size := (Array.getElem?_eq_some_iff.mp h3).1
 have apart : ∀ b,b ≠ T -> (s.heap.update T (Obj.mapFields (·.setIfInBounds 3 (rawInt L)))).get? b = s.heap.get? b := fun b hb => Heap.get?_update_other _ _ (Ne.symm hb)
 have abP : ∀ b o,s.heap.get? b = some o -> (∀ vs,o.data ≠ .fields vs) -> b ≠ T := fun b o hb hnf q => by
  subst q; rw [hT] at hb; cases hb; exact hnf _ hdT
 unfold setFlight
 refine wpAny_bind (wpAny_field he hd h1 ?_)
 rw [if_pos (by simp)]
 refine wpAny_setField hT hdT h3' (hQ _ ⟨fun b o hb => ?_,hen,hl.of_keeps fun b o hb hn => ⟨o,?_,rfl⟩,?_⟩ fun b o hb hn => ⟨o.slots,?_⟩)
 ·exact (apart b fun q => by rw [q,hnT] at hb; exact cN hb).trans (hkb b o hb)
 ·exact (apart b (abP b o hb hn)).trans hb
 ·exact ⟨oe,vs,T,_,_,(apart e (Ne.symm hTe)).trans he,hcls,hd,h1,hnT,hTe,Heap.get?_update_self _ hT (Obj.isFreed_of_fields (Obj.data_mapFields hdT _)),Obj.data_mapFields hdT _,by simp [h3']⟩
 ·exact (apart b (abP b o hb hn)).trans hb
end
section
variable {prog : Program} {w : World} {cx : Cx} {A : Around} {E : Value -> Shared -> Prop} {s : Shared}
theorem yN {x : Value} {Q : Unit -> Shared -> Prop} (hfr : A.frames = some cx.frs) (own : fM cx) (f : Mf cx s.heap x)
  (hQ : ∀ h' e a0,x = .ref e -> Heap.HeldW cx.base cx.frs e (.ref jq) a0 cx.env.locals h' -> s.heap.UpToSlots h' -> Q () { s with heap := h' }) : wpAny (model prog w) A (noteFrame x cx.env) Q E s := by
 obtain ⟨e,a0,rfl,f⟩ := f
 obtain ⟨hf,rest,GZ⟩ := own.frame
 rw [GZ] at hfr f
 rcases f with ⟨f1,f2,f3,oe,vs,he,hc,hd,h1,h0⟩ | f | ⟨L,hL,f⟩
 ·unfold noteFrame
  simp only [hf]
  refine wpAny_bind (wpAny_field he hd h1 ?_)
  rw [if_neg (by decide)]
  refine wpAny_entryW hfr f3 hf he f1 f2 hd (Array.getElem?_eq_some_iff.mp h1).1 h0 fun h' hN => ?_
  obtain ⟨n1,n2,n3,n4⟩ := hN
  rw [hc] at n3
  exact hQ h' e a0 rfl (by rw [GZ]; exact ⟨n1,f2,n2,n3⟩) n4
 ·exact wpAny_looks_onW hfr hf f fun h' hh hu => hQ h' e a0 rfl (by rw [GZ]; exact hh) hu
 ·rw [hf] at hL; cases hL
  exact wpAny_noteFrame_againW hf f.2.2.2 (hQ s.heap e a0 rfl (by rw [GZ]; exact f) (Heap.UpToSlots.refl _))
theorem yq {e : Addr} {a0 : Value} (own : fM cx) (f : Heap.HeldW cx.base cx.frs e (.ref jq) a0 cx.env.locals s.heap)
  (hQ : ∀ h',Heap.HeldW cx.base cx.frs e (.ref jq) a0 cx.env.locals h' -> s.heap.UpToSlots h' -> E (.ref e) { s with heap := h' }) : cameBackBy (model prog w) A cx.env E (.ref e) s := by
 obtain ⟨hf,rest,GZ⟩ := own.frame
 unfold cameBackBy
 have f' := f
 obtain ⟨_,_,_,oe,vs,T,oT,ts,he,hcls,hd,h1,_⟩ := f'
 refine wpAny_bind (wpAny_field he hd h1 ?_)
 rw [if_neg (by simp)]
 rw [hf]
 exact Du f hQ
theorem CQ {x : Value} {Q : Unit -> Shared -> Prop} {env : Env} {rest : List Env} (hfr : A.frames = some (cx.env :: rest)) (own : fM cx) (GZ : cx.frs = cx.env :: rest) (f : Mf cx s.heap x)
  (hQ : ∀ h' e a0,x = .ref e -> Heap.FlyingW cx.base rest e (.ref jq) a0 h' -> s.heap.UpToSlots h' -> Q () { s with heap := h' }) : wpAny (model prog w) A (leaving cx.env x) Q E s := by
 obtain ⟨e,a0,rfl,f⟩ := f
 obtain ⟨hf,_⟩ := own.frame
 rw [GZ] at f
 rcases f with ⟨f1,f2,f3,oe,vs,he,hc,hd,h1,h0⟩ | f | ⟨L,hL,f⟩
 ·refine wpAny_leaving_firstW hfr f3 hf he f1 f2 hd h1 h0 fun h' hL => ?_
  obtain ⟨k1,⟨_,_,k2⟩,k3,k4⟩ := hL
  rw [hc] at k3
  exact hQ h' e a0 rfl ⟨k1,f2,k2,k3⟩ k4
 ·exact wpAny_leaves_onW hfr hf f fun h' hh hu => hQ h' e a0 rfl hh hu
 ·rw [hf] at hL; cases hL
  unfold leaving
  refine wpAny_bind (wpAny_noteFrame_againW hf f.2.2.2 ?_)
  refine wpAny_landsW f fun h' hh hu => ?_
  obtain ⟨k1,k2,⟨_,_,k3⟩,k4⟩ := hh
  exact hQ h' e a0 rfl ⟨k1,k2,k3,k4⟩ hu
variable {ρ ρ₁ : List Addr} {ls : Ls} {H : List Cell} {s₁ : Shared} {Q : Flow -> Shared -> Prop}
theorem pF {W : List Addr} {h' : Heap} (e : mO W ρ s ρ₁ s₁) (hr : cu prog w s₁.heap ρ₁ (H.map Cell.kill)) (hl : rN cx s₁.heap ρ₁ ls) (u : s₁.heap.UpToSlots h') :
  mO W ρ s ρ₁ { s₁ with heap := h' } /\ cu prog w h' ρ₁ (H.map Cell.kill) /\ rN cx h' ρ₁ ls := by
 refine ⟨⟨dX e.rest rfl,e.pre,fun b o h1 h2 h3 h4 => ?_⟩,?_,?_⟩
 ·obtain ⟨sl,h5⟩ := e.keep b o h1 h2 h3 h4
  obtain ⟨sl2,h6⟩ := u b _ h5 h2
  exact ⟨sl2,h6⟩
 ·have := hr.kill (h' := h') u
  rwa [yh] at this
 ·obtain ⟨m,hn,hs⟩ := hl
  refine ⟨m,u.ns hn,fun x v n h1 h2 => ?_⟩
  have := (hs x v n h1 h2).grow (h' := h') (τ := []) (fun b o q im hb => u b o q im.mq) cC.nil fun b o u' h3 h4 h5 _ => u b o h3 (fun ws q => by rw [h4] at q; cases q)
  rwa [List.append_nil] at this
end
section
variable {prog : Program} {w : World} {C : bK} {d : Nat} {aQ : Nat -> Addr} {G : Addr} {TT : Heap -> Prop} {cx : Cx}
theorem Uv {m : ME} {e : PySem.Expr} {pos : Pos} (hc : jT e = true) (hi : interactive cx.env = false) (h1 : ∀ ls,aY prog w C d cx ls m e) : m5 prog w C d cx (.expr m) (.Expr e pos) := fun A ρ ls H s Q E hA st hP => by
 refine wpAny_Expr (h1 _ _ _ _ _ _ _ hA st (aA.Io st hP fun v u H1 ρ1 s1 e1 st1 r1 bQ => ?_)) hi (BP hc)
 refine bQ.Ow fun e bQ => ?_
 subst e
 obtain rfl : u = .none := r1.inv
 exact bQ.ok (fl := .next) Ext.refl st1 trivial
theorem wk {A : Around} {E : Value -> Shared -> Prop} {ρ ρ₁ : List Addr} {s s₁ : Shared} {ls : Ls} {H : List Cell} {x : Value} (hA : A.frames = some cx.frs) (own : fM cx)
  (hP : ∀ x ρ' s',mO [cx.env.locals] ρ s ρ' s' -> cu prog w s'.heap ρ' (H.map Cell.kill) -> rN cx s'.heap ρ' ls -> Mf cx s'.heap x -> E x s')
  (e : mO [cx.env.locals] ρ s ρ₁ s₁) (hr : cu prog w s₁.heap ρ₁ (H.map Cell.kill)) (hl : rN cx s₁.heap ρ₁ ls) (hf : Mf cx s₁.heap x) :
  notedBy (model prog w) A cx.env (cameBackBy (model prog w) A cx.env E) x s₁ := by
 unfold notedBy
 refine yN hA own hf fun h1 ex a0 hx hh hu => ?_
 subst hx
 obtain ⟨e1,hr1,hl1⟩ := pF e hr hl hu
 refine yq own hh fun h2 hh2 hu2 => ?_
 obtain ⟨e2,hr2,hl2⟩ := pF e1 hr1 hl1 hu2
 exact hP _ _ _ e2 hr2 hl2 ⟨ex,a0,rfl,.inr (.inr ⟨_,own.frame.1,hh2⟩)⟩
noncomputable def uh (prog : Program) (w : World) (A : Around) (cx : Cx) (E : Value -> Shared -> Prop) : Value -> Shared -> Prop := notedBy (model prog w) A cx.env (cameBackBy (model prog w) A cx.env E)
def M5 (J : Shared -> Prop) (Q : Flow -> Shared -> Prop) (f : Flow) (s : Shared) : Prop := match f with
 | .next | .cont => J s
 | .brk => Q .next s
 | .ret v => Q (.ret v) s
section
variable {A : Around} {E : Value -> Shared -> Prop} {Q : Flow -> Shared -> Prop} {ρ ρ₁ : List Addr} {s s₁ : Shared}
theorem aA.turn {J : Shared -> Prop} {r : SR} {k : Ls -> Mine.H -> SR} (own : fM cx) (hA : A.frames = some cx.frs) (e1 : Ext [cx.env.locals] ρ s ρ₁ s₁) (x : aA prog w cx ρ s (r.turn k) Q E)
  (hJ : ∀ ls' H' ρ' s',Ext [cx.env.locals] ρ₁ s₁ ρ' s' -> St prog w cx ρ' ls' H' s' -> aA prog w cx ρ s (k ls' H') Q E -> J s') : aA prog w cx ρ₁ s₁ r (M5 J Q) (uh prog w A cx E) := by
 cases r with
 | bad => exact x
 | exc ls' H' => exact fun y ρ' s' e hr hl hf => wk hA own x (e1.vP e) hr hl hf
 | ok f ls' H' =>
  intro fl ρ' s' e st hf
  induction hf using Es.cs with
  | n => exact hJ _ _ _ _ e st x
  | c => exact hJ _ _ _ _ e st x
  | b => exact x .next _ _ (e1.trans e) st trivial
  | r v u hv => exact x (.ret u) _ _ (e1.trans e) st hv
theorem aA.ae6 {ls : Ls} {H : List Cell} {r : Res Bool} {f : Bool -> Mine.H -> SR} {Q' : Bool -> Shared -> Prop} (own : fM cx) (hA : A.frames = some cx.frs) (e1 : Ext [cx.env.locals] ρ s ρ₁ s₁) (st : St prog w cx ρ₁ ls H s₁) (x : aA prog w cx ρ s (SR.ofT ls r f) Q E)
  (k : ∀ v h₁ ρ₂ s₂,Ext [] ρ₁ s₁ ρ₂ s₂ -> St prog w cx ρ₂ ls h₁ s₂ -> aA prog w cx ρ s (f v h₁) Q E -> Q' v s₂) : Post prog w cx RB ρ₁ s₁ r Q' (uh prog w A cx E) := by
 cases r with
 | ok v H' => exact fun u ρ' s' e hr (hv : v = u) => hv ▸ k v H' ρ' s' e (st.step e hr) x
 | exc H' => exact fun u ρ' s' e hr hf => wk hA own x (e1.vP e.w) hr (st.xU.zR e st.loc) (Rj hf)
 | bad => exact x
theorem aA.abj {r : SR} {f : Ls -> Mine.H -> SR} {Q' : Shared -> Prop} (own : fM cx) (hA : A.frames = some cx.frs) (e1 : Ext [cx.env.locals] ρ s ρ₁ s₁) (hr : ∀ g ls' H',r = .ok g ls' H' -> g = .next) (x : aA prog w cx ρ s (r.then f) Q E)
  (k : ∀ ls₁ h₁ ρ₂ s₂,Ext [cx.env.locals] ρ₁ s₁ ρ₂ s₂ -> St prog w cx ρ₂ ls₁ h₁ s₂ -> aA prog w cx ρ s (f ls₁ h₁) Q E -> Q' s₂) : aA prog w cx ρ₁ s₁ r (fun _ => Q') (uh prog w A cx E) := by
 cases r with
 | ok g ls' H' =>
  obtain rfl := hr _ _ _ rfl
  exact fun _ ρ' s' e st _ => k _ _ _ _ e st x
 | exc ls' H' => exact fun y ρ' s' e hr hl hf => wk hA own x (e1.vP e) hr hl hf
 | bad => exact x
end
section
variable (prog : Program) (w : World) (C : bK) (cx : Cx) (Q : Flow -> Shared -> Prop) (E : Value -> Shared -> Prop) (ρ : List Addr) (s : Shared) (b : bG)
inductive aap (t : ME) (n : Nat) (s₁ : Shared) : Prop
 | mk (ρ₁ : List Addr) (ls₁ : Ls) (H₁ : List Cell) (e : Ext [cx.env.locals] ρ s ρ₁ s₁) (st : St prog w cx ρ₁ ls₁ H₁ s₁) (hP : aA prog w cx ρ s (vM (fun ls h => jd C ls t h) (fun ls h => dz C b ls h) n ls₁ H₁) Q E)
inductive adP (src : Src) (put : Val -> Ls -> Mine.H -> SR) (it : Addr) (n : Nat) (s₁ : Shared) : Prop
 | mk (i : Nat) (ρ₁ : List Addr) (ls₁ : Ls) (H₁ : List Cell) (e : Ext [cx.env.locals] ρ s ρ₁ s₁) (st : St prog w cx ρ₁ ls₁ H₁ s₁) (hx : cM s₁.heap ρ₁ it src i) (hi : it ∉ ρ₁) (hP : aA prog w cx ρ s (forL src put (fun ls h => dz C b ls h) n i ls₁ H₁) Q E)
end
section
variable {A : Around} {E : Value -> Shared -> Prop} {Q : Flow -> Shared -> Prop} {ρ ρ₁ : List Addr} {s s₁ : Shared} {n : Nat} {t : ME} {b : bG} {e : PySem.Expr} {sb : List Stmt}
theorem whl_turn (own : fM cx) (hA : rU cx A d) (h1 : ∀ ls,jj prog w C d cx ls t e) (h2 : m6 prog w C d cx b sb) (hI : aap prog w C cx Q E ρ s b t n s₁) :
  wpAny (model prog w) A (isTrue e cx.env (eval e cx.env)) (fun v s₂ => if v then wpAny (model prog w) A (execs sb cx.env) (M5 (fun s₃ => ∃ m,m < n /\ aap prog w C cx Q E ρ s b t m s₃) Q) (uh prog w A cx E) s₂ else wpAny (model prog w) A (execs [] cx.env) Q (uh prog w A cx E) s₂) (uh prog w A cx E) s₁ := by
 obtain ⟨ρ₁,ls₁,H₁,e₁,st₁,hP⟩ := hI
 cases n with
 | zero => exact hP.elim
 | succ n =>
  refine h1 _ _ _ _ _ _ _ hA st₁ (aA.ae6 own hA.frames e₁ st₁ (f := fun v h => if v then (dz C b ls₁ h).turn fun ls h => vM (fun ls h => jd C ls t h) (fun ls h => dz C b ls h) n ls h else .ok .next ls₁ h) hP fun v H2 ρ2 s2 e2 st2 hP2 => ?_)
  cases v with
  | false => exact wpAny_execs_nil (hP2 .next _ _ (e₁.trans e2.w) st2 trivial)
  | true => exact h2 _ _ _ _ _ _ _ hA st2 (aA.turn own hA.frames (e₁.trans e2.w) hP2 fun ls' H' ρ' s' e' st' hP' => ⟨n,Nat.lt_succ_self n,ρ',ls',H',(e₁.trans e2.w).trans e',st',hP'⟩)
theorem Om {pos : Pos} (own : fM cx) (h1 : ∀ ls,jj prog w C d cx ls t e) (h2 : m6 prog w C d cx b sb) : m5 prog w C d cx (.whl t b) (.While e sb [] pos) := fun A ρ ls H s Q E hA st hP =>
 wpAny_While (codeAny_whileLoop (aap prog w C cx Q E ρ s b t) (fun n s₁ hI => whl_turn own hA h1 h2 hI) FUEL ⟨ρ,ls,H,Ext.refl,st,hP⟩)
end
theorem PL {A : Around} {E : Value -> Shared -> Prop} {s : Shared} {ρ : List Addr} {it : Addr} {src : Src} {i : Nat} {tg : PySem.Expr} {v : Value} {Q : Unit -> Shared -> Prop} (htg : (∃ n p,tg = .Name n p) \/ ∃ es k p,tg = .Tuple es k p) (hx : cM s.heap ρ it src i) (h : Q () s) : wpAny (model prog w) A (letOwnedTupleGo tg (.ref it) v) Q E s := by
 obtain ⟨n,p,rfl⟩ | ⟨es,k,p,rfl⟩ := htg
 ·exact wpAny_pure h
 have go : ∀ (o : Obj) (vs : Array Value) (T : String),s.heap.get? it = some o -> o.cls = .type T -> o.data = .fields vs -> (["enumerate","zip","dict_itemiterator","dict_reverseitemiterator","odict_iterator","itertools.zip_longest","itertools.pairwise"].contains T) = false -> wpAny (model prog w) A (letOwnedTupleGo (.Tuple es k p) (.ref it) v) Q E s := by
  intro o vs T ho hc hd hT
  cases v <;> first | exact wpAny_pure h | skip
  refine wpAny_bind (wpAny_load ho ?_)
  rw [hc,hd]
  dsimp only
  rw [hT]
  exact wpAny_pure h
 cases src with
 | lst l => obtain ⟨a,_,o,ho,hc,hd⟩ := hx; exact go o _ _ ho hc hd (by decide)
 | vals vs =>
  rcases hx with ⟨t,ws,_,⟨o,ho,hc,hd⟩,_⟩ | ⟨b,t,_,o,ho,hc,hd⟩ | ⟨lo,n,_,_,ho⟩
  ·exact go o _ _ ho hc hd (by decide)
  ·exact go o _ _ ho hc hd (by decide)
  ·exact go _ _ _ ho rfl rfl (by decide)
theorem gn {h : Heap} {ρ : List Addr} {H : List Cell} {a : Addr} (hr : cu prog w h ρ H) (e : h.get? a = none) : a ∉ ρ := fun m => by
 obtain ⟨o,ho⟩ := hr.old a m
 rw [e] at ho; exact cN ho
theorem St.turn {ρ : List Addr} {ls : Ls} {H : List Cell} {s : Shared} {it : Addr} {h' : Heap} {k : Nat} (st : St prog w cx ρ ls H s) (hi : it ∉ ρ) (hb : cx.base.get? it = none) (hl : it ≠ cx.env.locals) (hf : ∃ o,s.heap.get? it = some o /\ ∃ vs,o.data = .fields vs)
  (hk : ∀ b o,b ≠ it -> s.heap.get? b = some o -> h'.get? b = some o) : St prog w cx ρ ls H { s with heap := h',toks := k } /\ ∀ {v : Val} {u : Value},aC s.heap ρ v u -> aC h' ρ v u := by
 obtain ⟨oi,hoi,vsi,hdi⟩ := hf
 have hke : Keeps ρ s.heap h' := fun b o e im _ => ⟨o.slots,hk b o (fun q => by subst q; rw [hoi] at e; cases e; exact im.mq _ hdi) e⟩
 refine ⟨⟨fun b o e => hk b o (fun q => by subst q; rw [hb] at e; exact cN e) (st.stay b o e),st.low,st.hr.keep hke fun a o ha e => hk a o (fun q => hi (q ▸ ha)) e,st.ff.of_keeps fun b o e hn => ⟨o,hk b o (fun q => by subst q; rw [hoi] at e; cases e; exact hn _ hdi) e,rfl⟩,st.Lb,st.loc,?_,st.lens⟩,fun r => r.keep hke⟩
 obtain ⟨m,⟨o,es,ep,ho,r⟩,hs⟩ := st.xU
 refine ⟨m,⟨o,es,ep,hk _ o (Ne.symm hl) ho,r⟩,fun x v n h1 h2 => ?_⟩
 have := (hs x v n h1 h2).grow (h' := h') (τ := []) hke cC.nil fun b o u h3 h4 h5 _ => ⟨o.slots,hk b o (fun q => by subst q; rw [hoi] at h3; cases h3; rw [h4] at hdi; cases hdi) h3⟩
 rwa [List.append_nil] at this
theorem Ext.turn {ρ ρ₁ : List Addr} {W : List Addr} {s₀ s : Shared} {it : Addr} {h' : Heap} {k : Nat} (e : Ext W ρ s₀ ρ₁ s) (h0 : s₀.heap.get? it = none) (hk : ∀ b o,b ≠ it -> s.heap.get? b = some o -> h'.get? b = some o) : Ext W ρ s₀ ρ₁ { s with heap := h',toks := k } where
 rest := dX e.rest rfl
 pre := e.pre
 keep := fun b o q h1 h2 => hk b o (fun q' => by subst q'; rw [h0] at q; exact cN q) (e.keep b o q h1 h2)
 live := fun b q => by
  by_cases hb : b = it
  ·subst hb; exact h0
  ·refine e.live b ?_
   cases hs : s.heap.get? b with
   | none => rfl
   | some o => have := hk b o hb hs; rw [show Shared.heap { s with heap := h',toks := k } = h' from rfl,this] at q; exact SX q
structure Sx (prog : Program) (w : World) (cx : Cx) (d : Nat) (tg : PySem.Expr) (put : Val -> Ls -> Mine.H -> SR) : Prop where
 tk : (∃ n p,tg = .Name n p) \/ ∃ es k p,tg = .Tuple es k p
 go : ∀ A ρ ls H s v u Q E,rU cx A d -> St prog w cx ρ ls H s -> aC s.heap ρ v u -> aA prog w cx ρ s (put v ls H) (fun _ s' => Q () s') E -> wpAny (model prog w) A (assign tg cx.env u) Q E s
 pf : ∀ v ls H g ls' H',put v ls H = .ok g ls' H' -> g = .next
section
variable {A : Around} {E : Value -> Shared -> Prop} {Q : Flow -> Shared -> Prop} {ρ ρ₁ : List Addr} {s s₁ : Shared} {n i : Nat} {tg : PySem.Expr} {put : Val -> Ls -> Mine.H -> SR} {b : bG} {sb : List Stmt} {it : Addr} {src : Src}
theorem ZM (ok : Sx prog w cx d tg put) (own : fM cx) (hA : rU cx A d) (h2 : m6 prog w C d cx b sb) (hl : it ≠ cx.env.locals) {ls : Ls} {H : List Cell} {x : Val} {u : Value} (e1 : Ext [cx.env.locals] ρ s ρ₁ s₁) (st : St prog w cx ρ₁ ls H s₁) (hx : cM s₁.heap ρ₁ it src (i + 1)) (hi : it ∉ ρ₁) (hv : aC s₁.heap ρ₁ x u)
  (hP : aA prog w cx ρ s ((put x ls H).then fun ls h => (dz C b ls h).turn fun ls h => forL src put (fun ls h => dz C b ls h) n (i + 1) ls h) Q E) :
  wpAny (model prog w) A (assign tg cx.env u) (fun _ s₂ => wpAny (model prog w) A (execs sb cx.env) (M5 (fun s₃ => ∃ m,m < n + 1 /\ adP prog w C cx Q E ρ s b src put it m s₃) Q) (uh prog w A cx E) s₂) (uh prog w A cx E) s₁ := by
 refine ok.go _ _ _ _ _ _ _ _ _ hA st hv (aA.abj own hA.frames e1 (ok.pf _ _ _) hP fun ls2 H2 ρ2 s2 e2 st2 hP2 => ?_)
 refine h2 _ _ _ _ _ _ _ hA st2 (aA.turn own hA.frames (e1.trans e2) hP2 fun ls3 H3 ρ3 s3 e3 st3 uR => ?_)
 have e23 := e2.trans e3
 obtain ⟨o,ho,_⟩ := hx.there
 exact ⟨n,Nat.lt_succ_self n,i + 1,ρ3,ls3,H3,e1.trans e23,st3,cM.ext e23 (sU st e23) hi (fun m => hl (List.mem_singleton.mp m)) hx,fJ e23.pre ho hi,uR⟩
theorem Dr {ls : Ls} {H : List Cell} (ok : Sx prog w cx d tg put) (own : fM cx) (hA : rU cx A d) (h2 : m6 prog w C d cx b sb)
  (ac7 : s.heap.get? it = none) (ZF : it ≠ cx.env.locals) (hib : cx.base.get? it = none)
  (e0 : Ext [cx.env.locals] ρ s ρ s₁) (st : St prog w cx ρ ls H s₁) (hx : cM s₁.heap ρ it src 0) (hP : aA prog w cx ρ s (forL src put (fun ls h => dz C b ls h) FUEL 0 ls H) Q E) (hin : it ∉ ρ) :
  codeAny (model prog w) A (.forLoop tg (.ref it) sb [] cx.env) (fun r s' => match r with | .ok f => Q f s' | .error e => cameBackBy (model prog w) A cx.env E e s') s₁ := by
 refine codeAny_forLoop_any (adP prog w C cx Q E ρ s b src put it) ?_ FUEL ⟨0,ρ,ls,H,e0,st,hx,hin,hP⟩
 rintro n s₁ ⟨i,ρ₁,ls₁,H₁,e₁,st₁,hx₁,hin₁,hP₁⟩
 cases n with
 | zero => exact hP₁.elim
 | succ n =>
  have hP₁ : aA prog w cx ρ s (match nx src i H₁ with
   | none => .bad
   | some none => .ok .next ls₁ H₁
   | some (some x) => (put x ls₁ H₁).then fun ls h => (dz C b ls h).turn fun ls h => forL src put (fun ls h => dz C b ls h) n (i + 1) ls h) Q E := hP₁
  cases hn : nx src i H₁ with
  | none => rw [hn] at hP₁; exact hP₁.elim
  | some o =>
   rw [hn] at hP₁
   cases o with
   | none =>
    refine vd hA.handled st₁.hr hx₁ hin₁ hn fun h' hb => wpAny_execs_nil ?_
    exact aA.ok hP₁ (fl := .next) (e₁.turn ac7 (k := s₁.toks) hb) (st₁.turn (k := s₁.toks) hin₁ hib ZF hx₁.there (h' := h') hb).1 trivial
   | some x =>
    refine qT st₁.hr hx₁ hin₁ hn fun u h' k hsb hx' hu => ?_
    have hk : ∀ b o,b ≠ it -> s₁.heap.get? b = some o -> h'.get? b = some o := fun b o q e => (hsb.2 b q).trans e
    obtain ⟨st',vk⟩ := st₁.turn (k := k) hin₁ hib ZF hx₁.there (h' := h') hk
    exact PL ok.tk hx' (ZM ok own hA h2 ZF (e₁.turn ac7 (k := k) hk) st' hx' hin₁ (vk hu) hP₁)
end
noncomputable def jR (e : PySem.Expr) : Bool := !(e.ctorIdx == 7)
theorem jM {e : PySem.Expr} {env : Env} (h : jR e = true) : ∀ x,foldedSetIterable e env x = pure x := by
 intro x
 cases e <;> first | rfl | cases h
theorem cA {ρ : List Addr} {ls : Ls} {H : List Cell} {s : Shared} {it : Addr} (st : St prog w cx ρ ls H s) (h : s.heap.get? it = none) : it ≠ cx.env.locals /\ cx.base.get? it = none := by
 refine ⟨fun q => ?_,?_⟩
 ·obtain ⟨m,⟨o,es,ep,ho,_⟩,_⟩ := st.xU
  rw [<- q,h] at ho; exact cN ho
 ·cases hb : cx.base.get? it with
  | none => rfl
  | some o => have := st.stay _ _ hb; rw [h] at this; exact cN this
theorem dB {l i : Nat} {H : List Cell} (h : nx (.lst l) i H ≠ none) : ∃ vs,H[l]? = some (.lst vs) := by
 exact pB (P := (· ≠ none)) h (fun q => q rfl) fun vs hv _ => ⟨vs,hv⟩
theorem Oq {A : Around} {E : Value -> Shared -> Prop} {Q : Flow -> Shared -> Prop} {ρ : List Addr} {ls : Ls} {H : List Cell} {s : Shared} {tg e : PySem.Expr} {m : ME} {b : bG} {sb : List Stmt} {pos : Pos} {put : Val -> Ls -> Mine.H -> SR}
  (own : fM cx) (hA : rU cx A d) (hs : jR e = true) (h1 : ∀ ls,aY prog w C d cx ls m e) (h2 : m6 prog w C d cx b sb)
  (ok : Sx prog w cx d tg put) (st : St prog w cx ρ ls H s)
  (hP : aA prog w cx ρ s (SR.of ls (aL C ls m H) fun v h => match srcOf v with | some src => forL src put (fun ls h => dz C b ls h) FUEL 0 ls h | none => .bad) Q E) :
  wpAny (model prog w) A (exec (.For tg e sb [] pos) cx.env) Q E s := by
 refine wpAny_For (h1 _ _ _ _ _ _ _ hA st (aA.Io st hP fun v u H1 ρ1 s1 e1 st1 r1 bQ => ?_)) (jM hs)
 cases jf : srcOf v with
 | none => rw [jf] at bQ; exact bQ.elim
 | some src =>
  rw [jf] at bQ
  have Ra : ∀ l,src = .lst l -> ∃ vs,H1[l]? = some (.lst vs) := by
   rintro l rfl
   refine dB (i := 0) fun hq => ?_
   have : aA prog w cx ρ1 s1 (forL (.lst l) put (fun ls h => dz C b ls h) (99999 + 1) 0 ls H1) Q E := by rw [bL] at bQ; exact bQ
   rw [Ri hq] at this
   exact this
  refine Nr st1.hr r1 jf Ra fun it h' hnew hk hx => ?_
  obtain ⟨g1,g2⟩ := cA st1 hnew
  have e2 : Ext [] ρ1 s1 ρ1 { s1 with heap := h',toks := s1.toks } := Ext.all hk
  exact Dr ok own hA h2 hnew g1 g2 e2.w (st1.step e2 (st1.hr.all hk)) hx bQ (gn st1.hr hnew)
theorem Uu {x : Nat} {n : PySem.Str} {np pos : Pos} {m : ME} {e : PySem.Expr} {b : bG} {sb : List Stmt} (ok : bx prog w aQ G TT cx) (own : fM cx) (hn : cx.nm[x]? = some (some n)) (hk : cx.env.kindOf n = some .local) (hs : jR e = true) (h1 : ∀ ls,aY prog w C d cx ls m e) (h2 : m6 prog w C d cx b sb) :
  m5 prog w C d cx (.uT x m b) (.For (.Name n np) e sb [] pos) := fun A ρ ls H s Q E hA st hP => by
 exact Oq own hA hs h1 h2 ⟨.inl ⟨_,_,rfl⟩,fun A ρ ls H s v u Q E hA st hv hP => Gm ok own hn hk _ _ _ _ _ _ _ _ _ hA st hv hP,fun v ls H => gP _ _ _ _⟩ st hP
theorem Us {xs : List Nat} {es : List PySem.Expr} {k : Nat} {np pos : Pos} {m : ME} {e : PySem.Expr} {b : bG} {sb : List Stmt} (own : fM cx) (hu : xG es = true) (hlen : xs.length = es.length) (hg : zL prog w C d cx (xs.map Tg.var) es) (hs : jR e = true) (h1 : ∀ ls,aY prog w C d cx ls m e) (h2 : m6 prog w C d cx b sb) :
  m5 prog w C d cx (.sZ xs m b) (.For (.Tuple es k np) e sb [] pos) := fun A ρ ls H s Q E hA st hP => by
 refine Oq own hA hs h1 h2 ⟨.inr ⟨_,_,_,rfl⟩,fun A ρ ls H s v u Q E hA st hv hP => ?_,fun v ls H g ls' H' e => ?_⟩ st hP
 ·refine aA.tupI hP fun vs e hQ => hQ.Mr fun hl hQ => ?_
  subst e
  obtain ⟨ws,a,rfl,ha,ht,hvs⟩ := hv.inv
  obtain ⟨f1,f2⟩ := lR (env := cx.env) hu
  refine assign_Tuple_tuple hA.handled ht (by rw [f2,List.size_toArray,hvs.length,hl,hlen]) f1 fun h' hb => ?_
  have hk2 : ∀ b o,s.heap.get? b = some o -> h'.get? b = some o := fun b o e => hb b o (Nat.ne_of_lt (Heap.lt_size e)) e
  have e2 : Ext [] ρ s ρ { s with heap := h',toks := s.toks } := Ext.all hk2
  exact hg _ _ _ _ _ _ _ _ _ hA (st.step e2 (st.hr.all hk2)) (e2.vals hvs) (hQ.shift e2.w)
 ·refine I8 (P := (· = SR.ok g ls' H')) e sbo fun vs _ e => ?_
  refine lN (P := (· = SR.ok g ls' H')) e sbo fun _ e => ?_
  exact nZ _ _ _ _ _ _ _ e
end
section
variable {prog : Program} {w : World} {C : bK} {d : Nat} {aQ : Nat -> Addr} {G : Addr} {TT : Heap -> Prop} {cx : Cx}
theorem Ut {x : Nat} {n : PySem.Str} {np rp cp pos : Pos} {m1 m2 : ME} {e1 e2 : PySem.Expr} {b : bG} {sb : List Stmt} (ok : bx prog w aQ G TT cx) (own : fM cx) (hn : cx.nm[x]? = some (some n)) (hk : cx.env.kindOf n = some .local) (hr : cx.env.kindOf "range" = some .globalImplicit)
  (hu1 : aP e1 = true) (hu2 : aP e2 = true) (h1 : ∀ ls,aY prog w C d cx ls m1 e1) (h2 : ∀ ls,aY prog w C d cx ls m2 e2) (h3 : m6 prog w C d cx b sb) :
  m5 prog w C d cx (.Dq x m1 m2 b) (.For (.Name n np) (.Call (.Name "range" rp) [e1,e2] [] cp) sb [] pos) := fun A ρ ls H s Q E hA st hP => by
 obtain ⟨m,hm,_,_,_,_,_,_,hgr⟩ := ok.glob.gm
 obtain ⟨mb,hmb,_,hbr⟩ := ok.glob.bm
 have hu : aX [e1,e2] = true := by simp [aX,hu1,hu2]
 refine wpAny_For (Call_ (CN ok st (by decide +kernel) hr (v := .type "range") (fun m' hm' => by rw [Ns.uniq hm' hm]; exact hgr) (fun m' hm' => by rw [Ns.uniq hm' hmb]; exact hbr) (PySem.callWith_type (fD hu) (mK hu ?_)))) (jM rfl)
 refine args_cons (h1 _ _ _ _ _ _ _ hA st (aA.Io st hP fun v u H1 ρ1 s1 e1 st1 r1 bQ => ?_)) (dI hu1)
 refine args_cons (h2 _ _ _ _ _ _ _ hA st1 (aA.Io st1 bQ fun v2 u2 H2 ρ2 s2 e2 st2 r2 hP2 => ?_)) (dI hu2)
 refine args_nil ?_
 refine hP2.iiI fun i j q1 q2 hQ => hQ.Mr fun hb hQ => ?_
 ·subst q1 q2
  ·obtain ⟨t1,rfl⟩ := r1.inv
   obtain ⟨t2,rfl⟩ := r2.inv
   refine call_range_2 ?_
   have hk1 : ∀ b o,s2.heap.get? b = some o -> (s2.heap.push { cls := .type "range",data := .fields #[.int i t1,.int j t2,.int 1 s2.toks] }).get? b = some o := fun b o e => Heap.get?_push_of_some _ e
   have hk2 : ∀ b o,(s2.heap.push { cls := .type "range",data := .fields #[.int i t1,.int j t2,.int 1 s2.toks] }).get? b = some o -> ((s2.heap.push { cls := .type "range",data := .fields #[.int i t1,.int j t2,.int 1 s2.toks] }).push { cls := .type "range_iterator",data := .fields #[rawInt i,rawInt (Range.rangeSize i j 1),rawInt 1] }).get? b = some o := fun b o e => Heap.get?_push_of_some _ e
   refine wpAny_pyIter_range (Heap.get?_push_size _ rfl) (small_one (by lia) (by lia) (by lia) (by lia)) ?_
   have hkk : ∀ b o,s2.heap.get? b = some o -> _ := fun b o e => hk2 b o (hk1 b o e)
   have e3 : Ext [] ρ2 s2 ρ2 { s2 with heap := (s2.heap.push { cls := .type "range",data := .fields #[.int i t1,.int j t2,.int 1 s2.toks] }).push { cls := .type "range_iterator",data := .fields #[rawInt i,rawInt (Range.rangeSize i j 1),rawInt 1] },toks := s2.toks + 1 } := Ext.all hkk
   have hnew : s2.heap.get? (s2.heap.push { cls := .type "range",data := .fields #[.int i t1,.int j t2,.int 1 s2.toks] }).objs.size = none := Heap.get?_none_of_le (by rw [Heap.size_push]; exact Nat.le_succ _)
   obtain ⟨g1,g2⟩ := cA st2 hnew
   refine Dr ⟨.inl ⟨_,_,rfl⟩,fun A ρ ls H s v u Q E hA st hv hP => Gm ok own hn hk _ _ _ _ _ _ _ _ _ hA st hv hP,fun v ls H => gP _ _ _ _⟩ own hA h3 hnew g1 g2 e3.w (st2.step e3 (st2.hr.all hkk)) ?_ hQ (gn st2.hr hnew)
   refine .inr (.inr ⟨i,(j - i).toNat,rfl,Nat.zero_le _,?_⟩)
   have hsz : Range.rangeSize i j 1 = ((j - i).toNat : Int) := by
    unfold Range.rangeSize
    rw [if_pos (by decide)]
    split <;> lia
   rw [show (i + ((0 : Nat) : Int)) = i by lia,show (((j - i).toNat : Nat) : Int) - ((0 : Nat) : Int) = Range.rangeSize i j 1 by rw [hsz]; lia]
   exact Heap.get?_push_size _ rfl
inductive dN (cx : Cx) : List Nat -> List PySem.Str -> Prop
 | nil : dN cx [] []
 | cons {x : Nat} {n : PySem.Str} {xs : List Nat} {ns : List PySem.Str} (hn : cx.nm[x]? = some (some n)) (hk : cx.env.kindOf n = some .local) (h : dN cx xs ns) : dN cx (x :: xs) (n :: ns)
theorem dN.length {xs : List Nat} {ns : List PySem.Str} (h : dN cx xs ns) : ns.length = xs.length := by
 induction h with
 | nil => rfl
 | cons _ _ _ ih => simp [ih]
theorem dN.append {xs ys : List Nat} {ns ms : List PySem.Str} (h : dN cx xs ns) (h2 : dN cx ys ms) : dN cx (xs ++ ys) (ns ++ ms) := by
 induction h with
 | nil => exact h2
 | cons a b _ ih => exact .cons a b ih
theorem dN.reverse {xs : List Nat} {ns : List PySem.Str} (h : dN cx xs ns) : dN cx xs.reverse ns.reverse := by
 induction h with
 | nil => exact .nil
 | cons a b _ ih => rw [List.reverse_cons,List.reverse_cons]; exact ih.append (.cons a b .nil)
theorem Hv {A : Around} {E : Value -> Shared -> Prop} (ok : bx prog w aQ G TT cx) (own : fM cx) : ∀ {xs : List Nat} {ns : List PySem.Str} {ρ : List Addr} {ls : Ls} {H : List Cell} {s : Shared} {vs : List Val} {us : List Value} {Q : Unit -> Shared -> Prop},dN cx xs ns -> St prog w cx ρ ls H s -> aD s.heap ρ vs us ->
  aA prog w cx ρ s (fB C (xs.map Tg.var) vs ls H) (fun _ s' => Q () s') E -> wpAny (model prog w) A (assignInOrder (ns.map fun n => bindName cx.env n) us) Q E s := by
 intro xs
 induction xs with
 | nil =>
  intro ns ρ ls H s vs us Q hn st hv hP
  cases hn
  induction hv using aD.cs with
  | nil => exact assignInOrder_nil (hP.ok (fl := .next) Ext.refl st trivial)
  | cons _ _ => exact hP.elim
 | cons x xs ih =>
  intro ns ρ ls H s vs us Q hn st hv hP
  cases hn with
  | cons h1 h2 h3 =>
  induction hv using aD.cs with
  | nil => exact hP.elim
  | cons hv hr =>
   rw [List.map_cons]
   have hP' : aA prog w cx ρ s ((store C (.var x) _ ls H).then fun ls h => fB C (xs.map Tg.var) _ ls h) (fun _ s' => Q () s') E := hP
   rw [eO] at hP'
   split at hP'
   ·rename_i hx
    refine assignInOrder_cons (wpAny_bindName (fV ok.kind st own.toLocOk hx h1 h2 hv fun s' e st' => ?_))
    refine ih h3 st' (Q := Q) ?_ (aA.shift e hP')
    have hk := sU st e
    have := hr.grow hk cC.nil
    rwa [List.append_nil] at this
   ·exact hP'.elim
theorem aD.rev {h : Heap} {ρ : List Addr} {vs : List Val} {ws : List Value} (r : aD h ρ vs ws) : aD h ρ vs.reverse ws.reverse := by
 induction r using aD.ind with
 | nil => exact .nil
 | cons hv _ ih => rw [List.reverse_cons,List.reverse_cons]; exact ih.append (aD.one hv)
theorem Gi {xs : List Nat} {m : ME} {ts : List PySem.Expr} {ns : List PySem.Str} {e : PySem.Expr} {k : Nat} {tp pos : Pos} (ok : bx prog w aQ G TT cx) (own : fM cx) (hc : jT e = true) (hs : swappedStores [.Tuple ts k tp] e cx.env = pure (some ns)) (hn : dN cx xs ns) (h1 : ∀ ls,aY prog w C d cx ls m e) : m5 prog w C d cx (.lF xs m) (.Assign [.Tuple ts k tp] e pos) := fun A ρ ls H s Q E hA st hP => by
 refine Assign_Tuple_swapped (h1 _ _ _ _ _ _ _ hA st (aA.Io st hP fun v u H1 ρ1 s1 e1 st1 r1 bQ => ?_)) (jx hc) hs
 refine bQ.tupI fun vs q hQ => hQ.Mr fun hlen hQ => ?_
 subst q
 obtain ⟨ws,a,rfl,ha,ht,hv⟩ := r1.inv
 have hsz : ns.length = ws.toArray.size := by rw [List.size_toArray,hv.length,hlen,hn.length]
 rw [hsz]
 refine unpackItems_tuple hA.handled ht fun h' hb => ?_
 have hk2 : ∀ b o,s1.heap.get? b = some o -> h'.get? b = some o := fun b o e => hb b o (Nat.ne_of_lt (Heap.lt_size e)) e
 have e2 : Ext [] ρ1 s1 ρ1 { s1 with heap := h',toks := s1.toks } := Ext.all hk2
 exact Hv (C := C) (Q := fun _ => Q .next) ok own hn.reverse (st1.step e2 (st1.hr.all hk2)) (e2.vals hv).rev (aA.Jh (nZ _ _ _ _) (hQ.shift e2.w))
end
section
variable {prog : Program} {w : World} {C : bK} {d : Nat} {aQ : Nat -> Addr} {G : Addr} {TT : Heap -> Prop} {cx : Cx}
inductive oW (h : Heap) : Prop where
 | mk {nm q N bs bm bmB hdct sn sub ab col dd k0 k1 k2 k3 k5 B newId initId} {mN : PySem.Str -> Option Value} (f1 : ExcBaseFacts B newId initId bmB) (f2 : bm.contains (.type "BaseException") = true) (f3 : mN ("__init__" : PySem.Str) = none) (f4 : h.get? jq = some (excClassObj nm q jq N bs bm hdct sn sub ab col dd k0 k1 k2 k3 k5 newId)) (f5 : h.Ns N mN) (f6 : OwnTail h bmB bm) : oW h
theorem BL {h h' : Heap} {bmB tl : List Value} (k : h.StaysIn h') (x : OwnTail h bmB tl) : OwnTail h' bmB tl := by
 induction x with
 | base => exact .base
 | own a b c _ ih => exact .own (k _ _ a) (Ns.stay k b) c ih
theorem Oo {m : ME} {e : PySem.Expr} {np cp pos : Pos} (ok : bx prog w aQ G TT cx) (Ir : oW cx.base) (hk : cx.env.kindOf "MalformedPattern" = some .globalImplicit) (hu : aP e = true) (h1 : ∀ ls,aY prog w C d cx ls m e) :
  m5 prog w C d cx (.raise m) (.Raise (some (.Call (.Name "MalformedPattern" np) [e] [] cp)) none pos) := fun A ρ ls H s Q E hA st hP => by
 obtain @⟨nm,q,N,bs,bm,bmB,hdct,sn,sub,ab,col,dd,k0,k1,k2,k3,k5,B,newId,initId,mN,f1,f2,f3,f4,f5,f6⟩ := Ir
 obtain ⟨mg,hm,_,_,hg,_⟩ := ok.glob.gm
 have hu' : aX [e] = true := by simp [aX,hu]
 refine wpAny_Raise_call_subT (nm := nm) (q := q) (N := N) (bs := bs) (hdct := hdct) (sn := sn) (sub := sub) (ab := ab) (col := col) (dd := dd) (k0 := k0) (k1 := k1) (k2 := k2) (k3 := k3) (k5 := k5) f1 f2 hA.handled (fD hu') f3 (mC ok st (by decide +kernel) hk (v := .ref jq) (fun m' hm' => by rw [Ns.uniq hm' hm]; exact hg) ⟨rfl,mK hu' ?_⟩)
 refine args_cons (h1 _ _ _ _ _ _ _ hA st (aA.Io st hP fun v u H1 ρ1 s1 e1 st1 r1 bQ => ?_)) (dI hu)
 refine args_nil ⟨rfl,by rw [sizeLine_eq]; show 1 <= 16777216; decide,st1.stay _ _ f4,Ns.stay st1.stay f5,?_,fun h' ex hx => ?_⟩
 ·exact BL st1.stay f6
 ·obtain ⟨t,he,htn,ht⟩ := hx.there
  have hk' := hx.keeps
  have e2 : Ext [] ρ1 s1 ρ1 { s1 with heap := h',toks := s1.toks } := Ext.all hk'
  refine bQ _ ρ1 _ e2.w.toX ((st1.hr.all hk').kill (Heap.UpToSlots.refl _)) (st1.step e2 (st1.hr.all hk')).xU ⟨ex,.ref t,rfl,.inl ⟨fun b o q => hk' b o (st1.stay b o q),?_,st1.ff.of_keeps fun b o q _ => ⟨o,hk' b o q,rfl⟩,_,_,he,rfl,rfl,rfl,rfl⟩⟩
  cases hq : cx.base.get? ex with
  | none => rfl
  | some o => have := st1.stay _ _ hq; rw [hx.new] at this; exact cN this
theorem Gv {A : Around} {E : Value -> Shared -> Prop} {s : Shared} {Q : Value -> Shared -> Prop} (ok : bx prog w aQ G TT cx) (stay : cx.base.StaysIn s.heap) {n : PySem.Str} {v : Value} {pos : Pos} (hd : (n == ("__debug__" : PySem.Str)) = false) (hk : cx.env.kindOf n = some .globalImplicit) (hv : ∀ m,cx.base.Ns G m -> m n = some v) (h : Q v s) : wpAny (model prog w) A (eval (.Name n pos) cx.env) Q E s := by
 obtain ⟨m,hm,_⟩ := ok.glob.gm
 refine wpAny_Name (ks_loadName_global ok.kind hk (loadGlobal_global (mg := m) ?_ (hv m hm) h)) hd
 rw [ok.globals]; exact Ns.stay stay hm
def oV (prog : Program) (w : World) (cx : Cx) (s : Shared) (r : SR) (Q : Flow -> Shared -> Prop) : Prop := match r with
 | .ok f ls' H' => ∀ fl ρ' s',s' = { s with heap := s'.heap,toks := s'.toks } -> St prog w cx ρ' ls' H' s' -> Es s'.heap ρ' f fl -> Q fl s'
 | _ => False
theorem oV.s {s : Shared} {r : SR} {Q : Flow -> Shared -> Prop} {E : Value -> Shared -> Prop} {ρ : List Addr} (x : oV prog w cx s r Q) : aA prog w cx ρ s r Q E := by
 cases r with
 | ok f ls' H' => exact fun fl ρ' s' e st hf => x fl ρ' s' e.rest st hf
 | exc _ _ => exact x.elim
 | bad => exact x.elim
theorem oV.shift {s s₁ : Shared} {r : SR} {Q : Flow -> Shared -> Prop} (e : s₁ = { s with heap := s₁.heap,toks := s₁.toks }) (x : oV prog w cx s r Q) : oV prog w cx s₁ r Q := by
 cases r with
 | ok f ls' H' => exact fun fl ρ' s' e' st hf => x fl ρ' s' (dX e e') st hf
 | exc _ _ => exact x.elim
 | bad => exact x.elim
def En (prog : Program) (w : World) (C : bK) (d : Nat) (cx : Cx) (m : MS) (st : Stmt) : Prop := ∀ A ρ ls H s Q E,rU cx A d -> St prog w cx ρ ls H s -> oV prog w cx s (exS C m ls H) Q -> wpAny (model prog w) A (exec st cx.env) Q E s
def Ep (prog : Program) (w : World) (C : bK) (d : Nat) (cx : Cx) (m : bG) (sts : List Stmt) : Prop := ∀ A ρ ls H s Q E,rU cx A d -> St prog w cx ρ ls H s -> oV prog w cx s (dz C m ls H) Q -> wpAny (model prog w) A (execs sts cx.env) Q E s
theorem Yq {m : MS} {st : Stmt} (h : m5 prog w C d cx m st) : En prog w C d cx m st := fun A ρ ls H s Q E hA stt hP => h _ _ _ _ _ _ _ hA stt hP.s
theorem Va : Ep prog w C d cx .nil [] := fun A ρ ls H s Q E hA st hP => by
 exact wpAny_execs_nil (hP .next ρ s rfl st trivial)
theorem Pg {m : MS} {ms : bG} {st : Stmt} {sts : List Stmt} (h1 : En prog w C d cx m st) (h2 : Ep prog w C d cx ms sts) : Ep prog w C d cx (.cons m ms) (st :: sts) := fun A ρ ls H s Q E hA stt hP => by
 have hP : oV prog w cx s ((exS C m ls H).then fun ls h => dz C ms ls h) Q := hP
 refine wpAny_execs_cons (h1 _ _ _ _ _ _ _ hA stt ?_)
 cases hr : exS C m ls H with
 | ok f ls' H' =>
  rw [hr] at hP
  intro fl ρ' s' e st' hf
  cases f with
  | next =>
   cases fl <;> first | exact hf.elim | skip
   exact h2 _ _ _ _ _ _ _ hA st' (oV.shift e hP)
  | brk => cases fl <;> first | exact hf.elim | exact hP _ _ _ e st' hf
  | cont => cases fl <;> first | exact hf.elim | exact hP _ _ _ e st' hf
  | ret v => cases fl <;> first | exact hf.elim | exact hP _ _ _ e st' hf
 | exc _ _ => rw [hr] at hP; exact hP.elim
 | bad => rw [hr] at hP; exact hP.elim
theorem Ur {b : bG} {x : Nat} {n : PySem.Str} {sb : List Stmt} {hp np cp ap pos pos2 : Pos} {k : Nat} (ok : bx prog w aQ G TT cx) (own : fM cx) (Ir : oW cx.base) (hk : cx.env.kindOf "MalformedPattern" = some .globalImplicit) (hn : cx.nm[x]? = some (some n)) (hl : cx.env.kindOf n = some .local) (h2 : m6 prog w C d cx b sb) :
  En prog w C d cx (.Fe b x) (.Try sb [.ExceptHandler (some (.Name "MalformedPattern" hp)) none [.Assign [.Name n np] (.Constant .none k cp) ap] pos] [] [] pos2) := fun A ρ ls H s Q E hA st hP => by
 have hP : oV prog w cx s (match dz C b ls H with
  | .exc ls' h => if x < ls'.length /\ ls'.length = ls.length then .ok .next (ls'.set x (some .none)) (h.map Cell.kill) else .bad
  | r => r) Q := hP
 refine wpAny_Try_except (h2 _ _ _ _ _ _ _ hA st ?_)
 cases hb : dz C b ls H with
 | bad => rw [hb] at hP; exact hP.elim
 | ok f ls' H' =>
  rw [hb] at hP
  intro fl ρ' s' e st' hf
  have := hP fl ρ' s' e.rest st' hf
  cases fl with
  | next => exact wpAny_execs_nil this
  | _ => exact this
 | exc ls' H' =>
  rw [hb] at hP
  dsimp only at hP
  split at hP
  ·rename_i hx
   intro u ρ1 s1 e1 hr1 hl1 hf1
   refine yN hA.frames own hf1 fun h2 ex a0 hxe hh2 hu2 => ?_
   subst hxe
   obtain ⟨e2,hr2,hl2⟩ := pF e1 hr1 hl1 hu2
   refine wpAny_landsW hh2 fun h3 hf3 hu3 => ?_
   obtain ⟨e3,uQ,hl3⟩ := pF e2 hr2 hl2 hu3
   obtain @⟨nm,q,N,bs,bm,bmB,hdct,sn,sub,ab,col,dd,k0,k1,k2,k3,k5,B,newId,initId,mN,f1,f2,f3,f4,f5,f6⟩ := Ir
   obtain ⟨mg,hm,_,_,hg,_⟩ := ok.glob.gm
   obtain ⟨oe,hoe,hoc⟩ := hf3.there
   refine wpAny_handleBy_cons (codeAny_handlers_test (Gv ok hf3.1 (by decide +kernel) hk (v := .ref jq) (fun m' hm' => by rw [Ns.uniq hm' hm]; exact hg) ?_)) (by intro q; cases q)
   refine wpAny_excMatches_sub_self (hf3.1 _ _ f4) hoe hoc f2 ?_
   rw [if_pos rfl]
   obtain ⟨g1,g2,g3,g4⟩ := hf3
   refine codeAny_handlers_suite (wpAny_setFlight_noneW g1 g3 g4 fun h4 k1' k2' k3' k4' => ?_)
   have hu4 : Heap.UpToSlots h3 h4 := fun b o hb hn => ⟨o.slots,k4' b o hb hn⟩
   obtain ⟨e4,Xh,hl4⟩ := pF e3 uQ hl3 hu4
   have st4 : St prog w cx ρ1 ls' (H'.map Cell.kill) { s1 with heap := h4 } := by
    refine ⟨k1',Iu st.stay st.low e4.pre,Xh,k2',fun a ha L hL => ?_,?_,hl4,hx.2.trans st.lens⟩
    ·obtain ⟨o,ho⟩ : ∃ o,s.heap.get? L = some o := by
      obtain ⟨_,o,ho,_⟩ := st.ff.mem (List.mem_filterMap.mpr ⟨a,ha,hL⟩)
      exact ⟨o,ho⟩
     exact fJ e4.pre ho (st.Lb a ha L hL)
    ·obtain ⟨m,hnn,_⟩ := st.xU
     obtain ⟨o,ho,_⟩ := Ns.here hnn
     exact fJ e4.pre ho st.loc
   refine wpAny_execs_cons (wpAny_Assign_Name (Constant_none (fV ok.kind st4 own.toLocOk hx.1 hn hl .none fun s' e st' => wpAny_execs_nil ?_)))
   exact hP .next ρ1 s' (dX e4.rest e.rest) st' trivial
  ·exact hP.elim
end
noncomputable def NT : SR -> Res Val
 | .ok (.ret v) _ h => .ok v h
 | .ok .next _ h => .ok .none h
 | .ok _ _ _ => .bad
 | .exc _ h => .exc h
 | .bad => .bad
theorem zX {C : bK} {d : FD} {vs : List Val} {h : H} (hl : vs.length <= d.np /\ d.np <= vs.length + d.dflt.length) :
  cj C d vs h = NT (dz C d.body ((vs ++ d.dflt.drop (vs.length + d.dflt.length - d.np)).map some ++ List.replicate (d.ns - d.np) none) h) := by
 unfold cj
 rw [if_pos hl]
 cases dz C d.body ((vs ++ d.dflt.drop (vs.length + d.dflt.length - d.np)).map some ++ List.replicate (d.ns - d.np) none) h with
 | ok f _ _ => cases f <;> rfl
 | exc _ _ => rfl
 | bad => rfl
section
variable {prog : Program} {w : World} {C : bK} {d : Nat} {aQ : Nat -> Addr} {G : Addr} {TT : Heap -> Prop} {cx Bp : Cx}
theorem tQ.deep {A : Around} (h : tQ cx A (d + 1)) : A.depth < recursionLimit := Nat.lt_of_le_of_lt (by rw [Nat.add_assoc]; exact Nat.le_add_right _ _) h.depth
theorem tQ.body {A : Around} {env : Env} (h : tQ cx A (d + 1)) (hf : Bp.frs = env :: cx.frs) : rU Bp (A.deeper env) d where
 frames := by rw [Around.frames_deeper h.frames,hf]
 handled := h.handled
 depth := by
  have := h.depth
  show A.depth + 1 + 3 * d + 3 < _
  lia
theorem Ext.drop {W ρ ρ₁ : List Addr} {s s₁ s₂ : Shared} (e0 : Ext [] ρ s ρ s₁) (e1 : Ext W ρ s₁ ρ₁ s₂) (hW : ∀ a ∈ W,s.heap.get? a = none) : Ext [] ρ s ρ₁ s₂ where
 rest := dX e0.rest e1.rest
 pre := o7 e0.pre e1.pre e0.live
 keep := fun b o h1 h2 _ => e1.keep b o (e0.keep b o h1 h2 (fun m => nomatch m)) h2 fun m => by rw [hW b m] at h1; exact cN h1
 live := fun b h => e0.live b (e1.live b h)
theorem mO.drop {W ρ ρ₁ : List Addr} {s s₁ s₂ : Shared} (e0 : Ext [] ρ s ρ s₁) (e1 : mO W ρ s₁ ρ₁ s₂) (hW : ∀ a ∈ W,s.heap.get? a = none) : mO [] ρ s ρ₁ s₂ where
 rest := dX e0.rest e1.rest
 pre := o7 e0.pre e1.pre e0.live
 keep := fun b o h1 hn h2 _ => e1.keep b o (e0.keep b o h1 h2 (fun m => nomatch m)) hn h2 fun m => by rw [hW b m] at h1; exact cN h1
theorem Jf {A : Around} {E : Value -> Shared -> Prop} {Q : Value -> Shared -> Prop} {ρ : List Addr} {ls0 : Ls} {H : List Cell} {s se : Shared} {ms : bG} {body : List Stmt}
  (hb : Bp.base = cx.base) (hf : Bp.frs = Bp.env :: cx.frs) (own : fM Bp) (hA : tQ cx A (d + 1)) (e0 : Ext [] ρ s ρ se) (hL : s.heap.get? Bp.env.locals = none) (st : St prog w Bp ρ ls0 H se)
  (hB : m6 prog w C d Bp ms body) (hP : Post prog w cx RV ρ s (NT (dz C ms ls0 H)) Q E) :
  wpAny (model prog w) (A.deeper Bp.env) (execs body Bp.env) (fun f s' => HF Q E (.ok (.ret (match f with | .ret v => v | _ => .none))) s')
   (fun e s' => wpAny (model prog w) (A.deeper Bp.env) (leaving Bp.env e) (fun _ s'' => HF Q E (.error e) s'') (fun e' s'' => HF Q E (.error e') s'') s') se := by
 have hW : ∀ a ∈ [Bp.env.locals],s.heap.get? a = none := fun a m => by rw [List.mem_singleton.mp m]; exact hL
 refine hB _ _ _ _ _ _ _ (hA.body hf) st ?_
 cases hr : dz C ms ls0 H with
 | bad => rw [hr] at hP; exact hP.elim
 | exc ls' H' =>
  rw [hr] at hP
  intro x ρ' s' e hr' hl' hfl
  refine CQ (env := Bp.env) (A := A.deeper Bp.env) (rest := cx.frs) (Around.frames_deeper hA.frames) own hf hfl fun h' ex a0 hx hfw hu => ?_
  subst hx
  obtain ⟨e2,hr2,_⟩ := pF e hr' hl' hu
  refine hP _ ρ' _ (mO.drop e0 e2 hW) hr2 ⟨ex,a0,rfl,?_⟩
  rw [<- hb]; exact hfw
 | ok f ls' H' =>
  rw [hr] at hP
  intro fl ρ' s' e st' hfr
  have e2 := Ext.drop e0 e hW
  cases f with
  | next =>
   cases fl <;> first | exact hfr.elim | skip
   exact hP.ok e2 st'.hr .none
  | brk => exact hP.elim
  | cont => exact hP.elim
  | ret v =>
   cases fl <;> first | exact hfr.elim | skip
   exact hP.ok e2 st'.hr hfr
theorem Gs {α : Type} {p : PySem.Str} {l : List (PySem.Str × α)} (h : p ∉ l.map (·.1)) : l.lookup p = none := by
 induction l with
 | nil => rfl
 | cons x l ih =>
  rw [List.map_cons,List.mem_cons,not_or] at h
  rw [List.lookup_cons,beq_eq_false_iff_ne.mpr h.1]
  exact ih h.2
theorem wz {α : Type} {p : PySem.Str} {u : α} (xs : List (PySem.Str × α)) {ys : List (PySem.Str × α)} (h : xs.lookup p = some u \/ (xs.lookup p = none /\ ys.lookup p = some u)) : (xs ++ ys).lookup p = some u := by
 induction xs with
 | nil => exact h.elim cN And.right
 | cons x xs ih =>
  rw [List.cons_append,List.lookup_cons]
  rw [List.lookup_cons] at h
  by_cases hq : (p == x.1) = true
  ·rw [hq] at h ⊢; exact h.elim id fun h => SX h.1
  ·rw [Bool.not_eq_true] at hq; rw [hq] at h ⊢; exact ih h
theorem Gq {l : List (PySem.Str × Value)} (hn : (l.map (·.1)).Nodup) {p : PySem.Str} {u : Value} (h : (p,u) ∈ l) : l.reverse.lookup p = some u := by
 induction l with
 | nil => cases h
 | cons a l ih =>
  rw [List.map_cons,List.nodup_cons] at hn
  rw [List.reverse_cons]
  rcases List.mem_cons.mp h with e | h
  ·cases e
   refine wz _ (.inr ⟨Gs (by rw [List.map_reverse,List.mem_reverse]; exact hn.1),?_⟩)
   rw [List.lookup_cons,beq_self_eq_true]
  ·exact wz _ (.inl (ih hn.2 h))
theorem slot_of {zs : List Val} {k x : Nat} {v : Val} (h : (zs.map some ++ List.replicate k none)[x]? = some (some v)) : zs[x]? = some v := by
 by_cases hx : x < zs.length
 ·rw [List.getElem?_append_left (by rw [List.length_map]; exact hx),List.getElem?_map] at h
  cases hz : zs[x]? with
  | none => rw [hz] at h; exact cN h
  | some u => rw [hz] at h; exact Option.some.inj h
 ·rw [List.getElem?_append_right (by rw [List.length_map]; exact Nat.le_of_not_lt hx),List.getElem?_replicate] at h
  exact lN (P := (· = some (some v))) h cN fun _ h => cN (Option.some.inj h)
theorem Ab {names : List PySem.Str} {x : Nat} {n : PySem.Str} (h : (names.map some)[x]? = some (some n)) : names[x]? = some n := by
 rw [List.getElem?_map] at h
 cases hz : names[x]? with
 | none => rw [hz] at h; exact cN h
 | some u => rw [hz] at h; exact Option.some.inj h
theorem gV {names : List PySem.Str} (hn : names.Nodup) (x y : Nat) (n : PySem.Str) (h1 : (names.map some)[x]? = some (some n)) (h2 : (names.map some)[y]? = some (some n)) : x = y := by
 obtain ⟨i1,i2⟩ := List.getElem?_eq_some_iff.mp (Ab h1)
 obtain ⟨j1,j2⟩ := List.getElem?_eq_some_iff.mp (Ab h2)
 rcases Nat.lt_trichotomy x y with q | q | q
 ·exact absurd (i2.trans j2.symm) (List.pairwise_iff_getElem.mp hn x y i1 j1 q)
 ·exact q
 ·exact absurd (j2.trans i2.symm) (List.pairwise_iff_getElem.mp hn y x j1 i1 q)
theorem Rn {α : Type} {xs ys : List α} {n : Nat} (h : xs.length <= n /\ n <= xs.length + ys.length) : (xs ++ ys.drop (xs.length + ys.length - n)).length = n := by
 obtain ⟨k,rfl⟩ := Nat.exists_eq_add_of_le h.1
 rw [List.length_append,List.length_drop,Nat.add_sub_add_left,Nat.sub_sub_self (Nat.le_of_add_le_add_left h.2)]
theorem H9 {ρ : List Addr} {ls : Ls} {H : List Cell} {s : Shared} {env : Env} {names : List PySem.Str} {zs : List Val} {k tk : Nat} {h₀ : Heap} {L : Addr} {m : PySem.Str -> Option Value} (st : St prog w cx ρ ls H s) (hk : ∀ b o,s.heap.get? b = some o -> h₀.get? b = some o)
  (hL : s.heap.get? L = none) (g2 : cx.base.get? L = none) (hkd : env.scope.kind ≠ .module) (hlo : env.locals = L) (hfr : env.frame = some L) (hm : h₀.Ns L m) (hl : zs.length <= names.length) (hk2 : k = names.length - zs.length)
  (hs : ∀ (x : Nat) (v : Val) (n : PySem.Str),zs[x]? = some v -> names[x]? = some n -> xO ⟨cx.base,env,env :: cx.frs,names.map some⟩ h₀ ρ m n v) : St prog w ⟨cx.base,env,env :: cx.frs,names.map some⟩ ρ (zs.map some ++ List.replicate k none) H { s with heap := h₀,toks := tk } where
 stay := fun b o e => hk b o (st.stay b o e)
 low := st.low
 hr := st.hr.all hk
 ff := Heap.FunFrames.cons (L := L) hkd hfr hm g2 (st.ff.of_keeps fun b o e _ => ⟨o,hk b o e,rfl⟩)
 Lb := fun e he L' hL' => by
  rcases List.mem_cons.mp he with rfl | he
  ·rw [hfr] at hL'; cases hL'; exact gn st.hr hL
  ·exact st.Lb e he L' hL'
 loc := by
  show env.locals ∉ ρ
  rw [hlo]; exact gn st.hr hL
 xU := ⟨m,by show h₀.Ns env.locals m; rw [hlo]; exact hm,fun x v n h1 h2 => hs x v n (slot_of h1) (Ab h2)⟩
 lens := by
  rw [List.length_append,List.length_map,List.length_replicate,List.length_map,hk2]
  exact Nat.add_sub_cancel' hl
structure rO (h : Heap) (G : Addr) (a : Addr) (fd : FuncData) (body : List Stmt) (names : List PySem.Str) (np : Nat) (dv : List Value) : Prop where
 obj : ∃ o,h.get? a = some o /\ o.data = .func fd
 lim : h.NoLimit
 code : h.CodeRec fd.code fd.qualname
 body : fd.body = .stmts body
 kind : fd.scope.kind = .function
 co : fd.scope.isCoroutine = false
 gen : fd.scope.isGenerator = false
 globals : fd.globals = G
 builtins : fd.builtins = builtinsNs
 ou : ∀ x ∈ fd.scope.names,x.2 ≠ .cell
 params : ∀ n ∈ names.take np,fd.scope.names.lookup n = some .local
 nodup : names.Nodup
 len : np <= names.length
 binds : ∀ (s : Shared) (ws : List Value),h.StaysIn s.heap -> ws.length <= np -> np <= ws.length + dv.length -> BindsTo s fd ⟨ws,[]⟩ ((names.take np).zip (ws ++ dv.drop (ws.length + dv.length - np)))
theorem Ea {f : Nat} {gQ : FD} {fd : FuncData} {body : List Stmt} {names : List PySem.Str} {dv : List Value} {A : Around} {E : Value -> Shared -> Prop} {Q : Value -> Shared -> Prop} {ρ : List Addr} {ls : Ls} {H : List Cell} {s : Shared} {vs : List Val} {ws : List Value}
  (F : rO cx.base G (aQ f) fd body names gQ.np dv) (ok : bx prog w aQ G TT cx) (hns : gQ.ns = names.length) (hdv : ∀ h ρ,aD h ρ gQ.dflt dv) (hA : tQ cx A (d + 1)) (st : St prog w cx ρ ls H s) (hv : aD s.heap ρ vs ws)
  (hB : ∀ L,cx.base.get? L = none -> m6 prog w C d ⟨cx.base,callEnv fd L (aQ f),callEnv fd L (aQ f) :: cx.frs,names.map some⟩ gQ.body body)
  (hP : Post prog w cx RV ρ s (cj C gQ vs H) Q E) : codeAny (model prog w) A (.call (.ref (aQ f)) ⟨ws,[]⟩) (HF Q E) s := by
 obtain ⟨o,ho,hd⟩ := F.obj
 by_cases hl : vs.length <= gQ.np /\ gQ.np <= vs.length + gQ.dflt.length
 ·rw [zX hl] at hP
  have hwl := hv.length
  have hdl := (hdv s.heap ρ).length
  have hnew : s.heap.get? s.heap.objs.size = none := Heap.get?_none_of_le (Nat.le_refl _)
  have g2 := (cA st hnew).2
  have Jd := Rn hl
  refine codeAny_call_def (fd := fd) (body := body) hA.deep (st.stay _ _ ho) hd (let ⟨mc,a,b⟩ := F.lim; ⟨mc,Ns.stay st.stay a,b⟩) (let ⟨c,o,vs,t,e,g,r⟩ := F.code; ⟨c,o,vs,t,e,st.stay _ _ g,r⟩) F.body
   (F.binds s ws st.stay (by rw [hwl]; exact hl.1) (by rw [hwl,hdl]; exact hl.2)) F.ou (fun x hx => F.params x.1 (List.of_mem_zip hx).1) (fun h₀ hns₀ hk => ?_) F.co F.gen F.kind
  refine Jf (cx := cx) (Bp := ⟨cx.base,callEnv fd s.heap.objs.size (aQ f),callEnv fd s.heap.objs.size (aQ f) :: cx.frs,names.map some⟩) rfl rfl ⟨⟨g2,gV F.nodup⟩,rfl,_,rfl⟩ hA (Ext.all hk) hnew ?_ (hB _ g2) hP
  refine H9 st hk hnew g2 (by show fd.scope.kind ≠ .module; rw [F.kind]; intro q; cases q) rfl rfl hns₀ (by rw [Jd]; exact F.len) (by rw [Jd,hns]) fun x v n h1 h2 => .inl ?_
  obtain ⟨u,hu,ru⟩ := (hv.append ((hdv s.heap ρ).drop (vs.length + gQ.dflt.length - gQ.np))).get h1
  have Zw : x < gQ.np := Jd ▸ (List.getElem?_eq_some_iff.mp h1).1
  have hnt : (names.take gQ.np)[x]? = some n := by rw [List.getElem?_take_of_lt Zw]; exact h2
  refine ⟨F.params n (List.mem_of_getElem? hnt),u,Gq ?_ ?_,ru.all hk⟩
  ·rw [List.map_fst_zip]
   ·exact F.nodup.sublist (List.take_sublist _ _)
   ·rw [List.length_take,hwl,hdl,(hv.append ((hdv s.heap ρ).drop (vs.length + gQ.dflt.length - gQ.np))).length,Jd]
    exact Nat.min_le_left _ _
  ·rw [List.mem_iff_getElem?]
   refine ⟨x,?_⟩
   rw [List.getElem?_zip_eq_some]
   exact ⟨hnt,by rw [hwl,hdl]; exact hu⟩
 ·have : cj C gQ vs H = .bad := by unfold cj; rw [if_neg hl]
  rw [this] at hP; exact hP.elim
end
theorem uH {k : PySem.Str -> Option NameKind} {n : PySem.Str} : ∀ {l : List (PySem.Str × Value)} {m : PySem.Str -> Option Value},n ∉ l.map (·.1) -> bindL k l m n = m n
 | [],_,_ => rfl
 | (a,v) :: l,m,h => by
  rw [List.map_cons,List.mem_cons,not_or] at h
  unfold bindL
  rw [uH h.2]
  split
  ·show (if n = a then some v else m n) = m n; rw [if_neg h.1]
  ·rfl
theorem zG {k : PySem.Str -> Option NameKind} {n : PySem.Str} {u : Value} (hk : k n = some .local) : ∀ {l : List (PySem.Str × Value)} {m : PySem.Str -> Option Value},(l.map (·.1)).Nodup -> (n,u) ∈ l -> bindL k l m n = some u
 | (a,v) :: l,m,hn,h => by
  rw [List.map_cons,List.nodup_cons] at hn
  unfold bindL
  rcases List.mem_cons.mp h with e | h
  ·cases e
   rw [uH hn.1,if_pos hk,if_pos rfl]
  ·exact zG hk hn.2 h
theorem uI {k : PySem.Str -> Option NameKind} {n : PySem.Str} : ∀ {l : List (PySem.Str × Value)} {m : PySem.Str -> Option Value},n ∉ l.map (·.1) -> bindC k l m n = m n
 | [],_,_ => rfl
 | (a,v) :: l,m,h => by
  rw [List.map_cons,List.mem_cons,not_or] at h
  unfold bindC
  rw [uI h.2]
  split
  ·rfl
  ·show (if n = a then some v else m n) = m n; rw [if_neg h.1]
theorem zH {k : PySem.Str -> Option NameKind} {n : PySem.Str} {u : Value} (hk : k n ≠ some .local) : ∀ {l : List (PySem.Str × Value)} {m : PySem.Str -> Option Value},(l.map (·.1)).Nodup -> (n,u) ∈ l -> bindC k l m n = some u
 | (a,v) :: l,m,hn,h => by
  rw [List.map_cons,List.nodup_cons] at hn
  unfold bindC
  rcases List.mem_cons.mp h with e | h
  ·cases e
   rw [uI hn.1,if_neg hk,if_pos rfl]
  ·exact zH hk hn.2 h
structure qN (h : Heap) (G : Addr) (a : Addr) (fd : FuncData) (body : List Stmt) (names : List PySem.Str) (np : Nat) : Prop where
 obj : ∃ o,h.get? a = some o /\ o.data = .func fd
 lim : h.NoLimit
 code : h.CodeRec fd.code fd.qualname
 body : fd.body = .stmts body
 kind : fd.scope.kind = .function
 co : fd.scope.isCoroutine = false
 gen : fd.scope.isGenerator = false
 globals : fd.globals = G
 builtins : fd.builtins = builtinsNs
 clo : fd.closure = []
 params : ∀ n ∈ names.take np,fd.scope.names.lookup n = some .local \/ (fd.scope.names.lookup n = some .cell /\ ∀ L,((cellsFrom L fd.scope.names []).lookup n).isSome = true)
 nodup : names.Nodup
 len : np <= names.length
 binds : ∀ (ws : List Value),ws.length = np -> bindArgs fd ⟨ws,[]⟩ = pure ((names.take np).zip ws)
section
variable {prog : Program} {w : World} {C : bK} {d : Nat} {aQ : Nat -> Addr} {G : Addr} {TT : Heap -> Prop} {cx : Cx}
theorem KH {α : Type} {n : PySem.Str} {c : α} {l : List (PySem.Str × α)} (h : l.lookup n = some c) : (n,c) ∈ l := by
 induction l with
 | nil => exact cN h
 | cons a l ih =>
  obtain ⟨p,b⟩ := a
  rw [List.lookup_cons] at h
  by_cases hq : (n == p) = true
  ·rw [hq] at h; cases h; rw [eq_of_beq hq]; exact .head _
  ·rw [Bool.not_eq_true] at hq; rw [hq] at h; exact .tail _ (ih h)
theorem Eb {f : Nat} {gQ : FD} {fd : FuncData} {body : List Stmt} {names : List PySem.Str} {A : Around} {E : Value -> Shared -> Prop} {Q : Value -> Shared -> Prop} {ρ : List Addr} {ls : Ls} {H : List Cell} {s : Shared} {vs : List Val} {ws : List Value}
  (F : qN cx.base G (aQ f) fd body names gQ.np) (ok : bx prog w aQ G TT cx) (hns : gQ.ns = names.length) (hdv : gQ.dflt = []) (hA : tQ cx A (d + 1)) (st : St prog w cx ρ ls H s) (hv : aD s.heap ρ vs ws)
  (hB : ∀ L,cx.base.get? L = none -> m6 prog w C d ⟨cx.base,callEnvC fd L (aQ f),callEnvC fd L (aQ f) :: cx.frs,names.map some⟩ gQ.body body)
  (hP : Post prog w cx RV ρ s (cj C gQ vs H) Q E) : codeAny (model prog w) A (.call (.ref (aQ f)) ⟨ws,[]⟩) (HF Q E) s := by
 obtain ⟨o,ho,hd⟩ := F.obj
 by_cases hl : vs.length <= gQ.np /\ gQ.np <= vs.length + gQ.dflt.length
 ·rw [zX hl] at hP
  rw [hdv] at hl hP
  have hvl : vs.length = gQ.np := Nat.le_antisymm hl.1 hl.2
  rw [List.drop_nil,List.append_nil] at hP
  have hwl := hv.length
  have hnew : s.heap.get? s.heap.objs.size = none := Heap.get?_none_of_le (Nat.le_refl _)
  obtain ⟨g1,g2⟩ := cA st hnew
  have Q9 : (((names.take gQ.np).zip ws).map (·.1)).Nodup := by
   rw [List.map_fst_zip (by rw [List.length_take,hwl,hvl]; exact Nat.min_le_left _ _)]
   exact F.nodup.sublist (List.take_sublist _ _)
  refine codeAny_call_cells (fd := fd) (body := body) (binds := (names.take gQ.np).zip ws) hA.deep (st.stay _ _ ho) hd (let ⟨mc,a,b⟩ := F.lim; ⟨mc,Ns.stay st.stay a,b⟩) (let ⟨c,o,vs,t,e,g,r⟩ := F.code; ⟨c,o,vs,t,e,st.stay _ _ g,r⟩) F.body
   (F.binds ws (by rw [hwl,hvl])) F.clo (fun x hx => ?_) (fun s₁ hin => ?_) F.co F.gen F.kind
  ·rcases F.params x.1 (List.of_mem_zip hx).1 with h | ⟨h,h'⟩
   ·exact .inl h
   ·exact .inr ⟨h,h' _⟩
  obtain ⟨h₀,tk,rfl,hk⟩ := hin.done
  have hns₀ := hin.toInCall.ns
  refine Jf (cx := cx) (Bp := ⟨cx.base,callEnvC fd s.heap.objs.size (aQ f),callEnvC fd s.heap.objs.size (aQ f) :: cx.frs,names.map some⟩) rfl rfl ⟨⟨g2,gV F.nodup⟩,rfl,_,rfl⟩ hA (Ext.all hk) hnew ?_ (hB _ g2) hP
  refine H9 st hk hnew g2 (by show fd.scope.kind ≠ .module; rw [F.kind]; intro q; cases q) rfl rfl hns₀ (by rw [hvl]; exact F.len) (by rw [hvl,hns]) fun x v n hvx hx => ?_
  obtain ⟨u,hu,ru⟩ := hv.get hvx
  have Zw : x < gQ.np := hvl ▸ (List.getElem?_eq_some_iff.mp hvx).1
  have hnt : (names.take gQ.np)[x]? = some n := by rw [List.getElem?_take_of_lt Zw]; exact hx
  have hmem : (n,u) ∈ (names.take gQ.np).zip ws := by
   rw [List.mem_iff_getElem?]
   exact ⟨x,by rw [List.getElem?_zip_eq_some]; exact ⟨hnt,hu⟩⟩
  rcases F.params n (List.mem_of_getElem? hnt) with hkl | ⟨hkc,hkl⟩
  ·exact .inl ⟨hkl,u,zG (k := (callEnvC fd s.heap.objs.size (aQ f)).kindOf) hkl Q9 hmem,ru.all hk⟩
  ·obtain ⟨c,hc⟩ := Option.isSome_iff_exists.mp (hkl (s.heap.objs.size + 1))
   obtain ⟨oc,hoc,hdc⟩ := hin.cell n c hc
   have hmc : (n,c) ∈ (callEnvC fd s.heap.objs.size (aQ f)).cells := by
    exact KH hc
   have hlt := hin.above n c hmc
   have hcn : s.heap.get? c = none := Heap.get?_none_of_le (Nat.le_of_lt hlt)
   refine .inr ⟨hkc,c,oc,u,hc,gn st.hr hcn,Nat.ne_of_gt hlt,hoc,?_,ru.all hk⟩
   rw [hdc,zH (k := (callEnvC fd s.heap.objs.size (aQ f)).kindOf) (by show fd.scope.names.lookup n ≠ _; rw [hkc]; intro q; cases q) Q9 hmem]
 ·have : cj C gQ vs H = .bad := by unfold cj; rw [if_neg hl]
  rw [this] at hP; exact hP.elim
end
theorem lQ {env : Env} : ∀ (names : List (PySem.Str × NameKind)) (acc : List (PySem.Str × Addr)),(∀ y ∈ names,y.2 = .free -> ∃ a,env.cells.lookup y.1 = some a) ->
  ∃ cl,(forIn names acc fun (x : PySem.Str × NameKind) (cs : List (PySem.Str × Addr)) => (do
   if x.2 == .free then pure (ForInStep.yield ((x.1,<- cellOf env x.1) :: cs)) else pure (ForInStep.yield cs) : Sem _)) = pure cl /\
   ∀ n,cl.lookup n = (if (names.any fun y => y.1 == n && y.2 == .free) then env.cells.lookup n else acc.lookup n)
 | [],acc,_ => ⟨acc,by rw [List.forIn_nil],fun n => by simp⟩
 | (m,k) :: r,acc,h => by
  by_cases hk : (k == NameKind.free) = true
  ·obtain ⟨a,ha⟩ := h (m,k) (.head _) (eq_of_beq hk)
   obtain ⟨cl,h1,h2⟩ := lQ r ((m,a) :: acc) fun y hy => h y (.tail _ hy)
   refine ⟨cl,?_,fun n => ?_⟩
   ·rw [List.forIn_cons]
    dsimp only
    rw [if_pos hk]
    unfold cellOf
    rw [ha]
    exact h1
   ·rw [h2 n,List.any_cons]
    by_cases hr : (r.any fun y => y.1 == n && y.2 == .free) = true
    ·rw [if_pos hr,hr,Bool.or_true,if_pos rfl]
    ·rw [if_neg hr]
     rw [Bool.not_eq_true] at hr
     rw [hr,Bool.or_false,List.lookup_cons]
     by_cases hmn : m = n
     ·subst hmn
      simp [hk,ha]
     ·have : (m == n) = false := beq_eq_false_iff_ne.mpr hmn
      have h' : (n == m) = false := beq_eq_false_iff_ne.mpr (Ne.symm hmn)
      simp [this,h']
  ·obtain ⟨cl,h1,h2⟩ := lQ r acc fun y hy => h y (.tail _ hy)
   refine ⟨cl,?_,fun n => ?_⟩
   ·rw [List.forIn_cons]
    dsimp only
    rw [if_neg hk]
    exact h1
   ·rw [h2 n,List.any_cons]
    rw [Bool.not_eq_true] at hk
    simp [hk]
theorem qI {scope : Scope} {env : Env} (h : ∀ y ∈ scope.names,y.2 = .free -> ∃ a,env.cells.lookup y.1 = some a) :
  ∃ cl,closureFor scope env = pure cl /\ ∀ n,(n,NameKind.free) ∈ scope.names -> cl.lookup n = env.cells.lookup n := by
 obtain ⟨cl,h1,h2⟩ := lQ (env := env) scope.names [] h
 refine ⟨cl,?_,fun n hn => ?_⟩
 ·have e : closureFor scope env = (forIn scope.names [] fun (x : PySem.Str × NameKind) (cs : List (PySem.Str × Addr)) => (do
   if x.2 == .free then pure (ForInStep.yield ((x.1,<- cellOf env x.1) :: cs)) else pure (ForInStep.yield cs) : Sem _)) >>= pure := by
   unfold closureFor
   rfl
  rw [e,h1]
  rfl
 ·rw [h2 n,if_pos]
  rw [List.any_eq_true]
  exact ⟨_,hn,by simp⟩
noncomputable def eH (scope : Scope) (nm : List (Option PySem.Str)) (xs : List PySem.Str) : List (Option PySem.Str) :=
 (nm.map fun o => o.bind fun n => if scope.names.lookup n = some .free then some n else none) ++ xs.map some
noncomputable def kY (cx : Cx) (scope : Scope) (xs : List PySem.Str) (C : Addr) (cl : List (PySem.Str × Addr)) : Cx := ⟨cx.base,compEnvC scope cl C cx.env,cx.frs,eH scope cx.nm xs⟩
structure lV (cx : Cx) (scope : Scope) (xs : List PySem.Str) : Prop where
 kind : scope.kind = .function
 loc : ∀ x ∈ xs,scope.names.lookup x = some .local
 names : ∀ y ∈ scope.names,y.2 = .local -> scope.names.lookup y.1 = some .local
 ou : ∀ y ∈ scope.names,y.2 ≠ .cell
 free : ∀ y ∈ scope.names,y.2 = .free -> cx.env.kindOf y.1 = some .cell
 nodup : xs.Nodup
theorem jU {env : Env} : ∀ {names : List (PySem.Str × NameKind)} {x : PySem.Str} {k : NameKind},names.lookup x = some k ->
  (names.map fun (n,k) => if (k == NameKind.free && env.scope.kind == .function && env.kindOf n == some .cell) then (n,NameKind.cell) else (n,k)).lookup x = some (if (k == NameKind.free && env.scope.kind == .function && env.kindOf x == some .cell) then .cell else k)
 | [],_,_,h => by exact cN h
 | (n,j) :: r,x,k,h => by
  rw [List.map_cons]
  rw [List.lookup_cons] at h
  by_cases hx : (x == n) = true
  ·rw [hx] at h
   cases h
   obtain rfl := eq_of_beq hx
   dsimp only
   split
   ·rw [List.lookup_cons]; simp
   ·rw [List.lookup_cons]; simp
  ·rw [Bool.not_eq_true] at hx
   rw [hx] at h
   have ih := jU (env := env) h
   dsimp only
   split
   ·rw [List.lookup_cons,hx]; exact ih
   ·rw [List.lookup_cons,hx]; exact ih
section
variable {prog : Program} {w : World} {C : bK} {d : Nat} {aQ : Nat -> Addr} {G : Addr} {TT : Heap -> Prop} {cx : Cx} {scope : Scope} {xs : List PySem.Str} {ca : Addr} {cl : List (PySem.Str × Addr)}
theorem wj {l : List (PySem.Str × NameKind)} {n : PySem.Str} {k : NameKind} (h : l.lookup n = some k) : (n,k) ∈ l := by
 induction l with
 | nil => exact cN h
 | cons a l ih =>
  obtain ⟨p,b⟩ := a
  rw [List.lookup_cons] at h
  by_cases hq : (n == p) = true
  ·rw [hq] at h; cases h; rw [eq_of_beq hq]; exact .head _
  ·rw [Bool.not_eq_true] at hq; rw [hq] at h; exact .tail _ (ih h)
theorem kY.ok (ok : bx prog w aQ G TT cx) (hk : scope.kind = .function) : bx prog w aQ G TT (kY cx scope xs ca cl) := ⟨ok.top,hk,ok.globals,ok.builtins,ok.glob,ok.posix,ok.sm,ok.cls,ok.fn⟩
theorem kY.qw {x : PySem.Str} (h : scope.names.lookup x = some .local) : (kY cx scope xs ca cl).env.kindOf x = some .local := by
 have := jU (env := cx.env) h
 exact this
theorem kY.kind_free {x : PySem.Str} (ok : cx.env.scope.kind = .function) (h : scope.names.lookup x = some .free) (hc : cx.env.kindOf x = some .cell) : (kY cx scope xs ca cl).env.kindOf x = some .cell := by
 have := jU (env := cx.env) h
 rw [if_pos (by rw [ok,hc]; rfl)] at this
 exact this
theorem kY.loc (loc : LocOk cx) (jh : lV cx scope xs) (hn : cx.base.get? ca = none) : LocOk (kY cx scope xs ca cl) where
 ab0 := hn
 inj := fun x y n h1 h2 => by
  have split : ∀ z,(eH scope cx.nm xs)[z]? = some (some n) -> (cx.nm[z]? = some (some n) /\ scope.names.lookup n = some .free) \/ (cx.nm.length <= z /\ xs[z - cx.nm.length]? = some n) := by
   intro z hz
   unfold eH at hz
   by_cases hl : z < cx.nm.length
   ·rw [List.getElem?_append_left (by rw [List.length_map]; exact hl),List.getElem?_map] at hz
    cases ho : cx.nm[z]? with
    | none => rw [ho] at hz; exact cN hz
    | some o =>
     rw [ho] at hz
     cases o with
     | none => cases hz
     | some n' =>
      simp only [Option.map_some,Option.bind_some] at hz
      split at hz
      ·rename_i hf
       cases hz
       exact .inl ⟨rfl,hf⟩
      ·cases hz
   ·rw [List.getElem?_append_right (by rw [List.length_map]; omega),List.getElem?_map,List.length_map] at hz
    cases ho : xs[z - cx.nm.length]? with
    | none => rw [ho] at hz; exact cN hz
    | some n' => rw [ho] at hz; cases hz; exact .inr ⟨by omega,rfl⟩
  rcases split x h1 with ⟨a1,a2⟩ | ⟨a1,a2⟩ <;> rcases split y h2 with ⟨b1,b2⟩ | ⟨b1,b2⟩
  ·exact loc.inj x y n a1 b1
  ·rw [jh.loc n (List.mem_of_getElem? b2)] at a2; cases a2
  ·rw [jh.loc n (List.mem_of_getElem? a2)] at b2; cases b2
  ·obtain ⟨i1,i2⟩ := List.getElem?_eq_some_iff.mp a2
   obtain ⟨j1,j2⟩ := List.getElem?_eq_some_iff.mp b2
   rcases Nat.lt_trichotomy (x - cx.nm.length) (y - cx.nm.length) with q | q | q
   ·exact absurd (i2.trans j2.symm) (List.pairwise_iff_getElem.mp jh.nodup _ _ i1 j1 q)
   ·omega
   ·exact absurd (j2.trans i2.symm) (List.pairwise_iff_getElem.mp jh.nodup _ _ j1 i1 q)
theorem kY.st {ρ : List Addr} {ls : Ls} {H : List Cell} {s : Shared} (ok : bx prog w aQ G TT cx) (jh : lV cx scope xs) (hcl : ∀ n,(n,NameKind.free) ∈ scope.names -> cl.lookup n = cx.env.cells.lookup n)
  (st : St prog w cx ρ ls H s) (hca : ca ∉ ρ) (hns : s.heap.Ns ca fun _ => none) : St prog w (kY cx scope xs ca cl) ρ (ls ++ List.replicate xs.length none) H s where
 stay := st.stay
 low := st.low
 hr := st.hr
 ff := st.ff
 Lb := st.Lb
 loc := hca
 lens := by
  show (ls ++ List.replicate xs.length none).length = (eH scope cx.nm xs).length
  unfold eH
  rw [List.length_append,List.length_replicate,List.length_append,List.length_map,List.length_map,st.lens]
 xU := by
  refine ⟨_,hns,fun i v n h1 h2 => ?_⟩
  by_cases hi : i < ls.length
  ·rw [List.getElem?_append_left hi] at h1
   have h2' : (eH scope cx.nm xs)[i]? = some (some n) := h2
   unfold eH at h2'
   rw [List.getElem?_append_left (by rw [List.length_map,<- st.lens]; exact hi),List.getElem?_map] at h2'
   cases ho : cx.nm[i]? with
   | none => rw [ho] at h2'; exact cN h2'
   | some o =>
    rw [ho] at h2'
    cases o with
    | none => cases h2'
    | some n' =>
     simp only [Option.map_some,Option.bind_some] at h2'
     split at h2'
     ·rename_i hf
      cases h2'
      obtain ⟨m,hm,hs⟩ := st.xU
      have hmem := wj hf
      have hcell := jh.free _ hmem rfl
      rcases hs i v n h1 ho with ⟨a1,_⟩ | ⟨a1,c,o,u,a2,a3,a3',a4,a5,a6⟩
      ·rw [hcell] at a1; cases a1
      ·refine .inr ⟨kY.kind_free ok.kind hf hcell,c,o,u,?_,a3,fun q => ?_,a4,a5,a6⟩
       ·show cl.lookup n = some c
        rw [hcl n hmem]; exact a2
       ·obtain ⟨oc,es,ep,hoc,hdc,_⟩ := hns
        have q' : c = ca := q
        rw [<- q',a4] at hoc; cases hoc; rw [a5] at hdc; cases hdc
     ·cases h2'
  ·rw [List.getElem?_append_right (by omega),List.getElem?_replicate] at h1
   split at h1 <;> cases h1
def PF (X : Mine.H -> Prop) (r : Res Unit) : Prop := match r with | .ok _ h => X h | _ => False
theorem PF.bind {α : Type} {X : Mine.H -> Prop} {r : Res α} {g : α -> Mine.H -> Res Unit} (h : PF X (r.bind g)) : ∃ a h',r = .ok a h' /\ PF X (g a h') := by
 cases r with
 | ok a h' => exact ⟨a,h',rfl,h⟩
 | exc _ => exact h.elim
 | bad => exact h.elim
def jZ (h : Heap) (it : Addr) : Prop := (∃ l i,h.IsListIter it l i) \/ ∃ (b : Array UInt8) (t : Tok) (i : Nat),KBw.IsBytesIter h it b t i
theorem vW {A : Around} {E : Value -> Shared -> Prop} {s : Shared} {it : Addr} {Q : Value -> Shared -> Prop} (x : jZ s.heap it) (h : Q (.ref it) s) : wpAny (model prog w) A (pyIter (.ref it)) Q E s := by
 rcases x with ⟨l,i,x⟩ | ⟨b,t,i,x⟩
 ·exact wpAny_pyIter_listiter x h
 ·exact KBw.pyIter_self x h
theorem jZ.keeps {h h' : Heap} {it : Addr} (k : ∀ b o,h.get? b = some o -> h'.get? b = some o) (x : jZ h it) : jZ h' it := by
 rcases x with ⟨l,i,o,ho,r⟩ | ⟨b,t,i,o,ho,r⟩
 ·exact .inl ⟨l,i,o,k _ _ ho,r⟩
 ·exact .inr ⟨b,t,i,o,k _ _ ho,r⟩
theorem yF {A : Around} {E : Value -> Shared -> Prop} {ρ : List Addr} {H : List Cell} {s : Shared} {v : Val} {x : Value} {src : Src} {Q : Value -> Shared -> Prop} (hr : cu prog w s.heap ρ H) (hx : aC s.heap ρ v x) (e : lY v = some src)
  (hl : ∀ l,src = .lst l -> ∃ vs,H[l]? = some (.lst vs))
  (h : ∀ it h',s.heap.get? it = none -> (∀ b o,s.heap.get? b = some o -> h'.get? b = some o) -> cM h' ρ it src 0 -> jZ h' it -> Q (.ref it) { s with heap := h' }) : wpAny (model prog w) A (pyIter x) Q E s := by
 have kp : ∀ (o : Obj) b o',s.heap.get? b = some o' -> (s.heap.push o).get? b = some o' := fun o b o' e => Heap.get?_push_of_some _ e
 have hD : s.heap.get? s.heap.objs.size = none := Heap.get?_none_of_le (Nat.le_refl _)
 induction hx using aC.cs with
 | bytes b t => cases e; exact KBw.pyIter_bytes (h _ _ hD (kp _) (.inr (.inl ⟨b,t,rfl,⟨_,Heap.get?_push_size _ rfl,rfl,rfl⟩⟩)) (.inr ⟨_,t,0,⟨_,Heap.get?_push_size _ rfl,rfl,rfl⟩⟩))
 | lst ha =>
  cases e
  obtain ⟨vs,hvs⟩ := hl _ rfl
  obtain ⟨ws,hw,_⟩ := hr.lst hvs ha
  exact wpAny_pyIter_list hw (h _ _ hD (kp _) ⟨_,ha,⟨_,Heap.get?_push_size _ rfl,rfl,rfl⟩⟩ (.inl ⟨_,0,⟨_,Heap.get?_push_size _ rfl,rfl,rfl⟩⟩))
 | _ => exact cN e
end
section
variable {prog : Program} {w : World} {C : bK} {d : Nat} {aQ : Nat -> Addr} {G : Addr} {TT : Heap -> Prop} {cx : Cx} {scope : Scope}
noncomputable def w5 (C : bK) (ls : Ls) (mc cR : ME) (D : Nat) (x : Val) (h1 : Mine.H) : Res Unit := (jd C (ls ++ [some x]) mc h1).bind fun b h2 => if b then (aL C (ls ++ [some x]) cR h2).bind fun y h3 => nD D y h3 else .ok () h2
theorem lB {P : Prop} (h : ∀ G : Prop,(P -> G) -> G) : P := h P id
theorem wQ {X : Mine.H -> Prop} {src : Src} {step : Val -> Mine.H -> Res Unit} {H : List Cell} (hF : PF X (cH src step FUEL 0 H)) : ∀ l,src = .lst l -> ∃ vs,H[l]? = some (.lst vs) := by
 rintro l rfl
 refine dB (i := 0) fun hq => ?_
 have h2 : PF X (cH (.lst l) step (99999 + 1) 0 H) := by rw [bL] at hF; exact hF
 rw [zc hq] at h2
 exact h2
theorem T4 {h : Heap} {ρ : List Addr} {H : List Cell} {c : Cell} {v : Val} {u : Value} {src : Src} (hr : cu prog w h ρ H) (hv : aC h ρ v u) (jf : lY v = some src) (q : ∀ l,src = .lst l -> ∃ vs,(H ++ [c])[l]? = some (.lst vs)) : ∀ l,src = .lst l -> ∃ vs,H[l]? = some (.lst vs) := by
 intro l e
 obtain ⟨vs,hq⟩ := q l e
 subst e
 induction hv using aC.cs with
 | lst ha =>
  cases jf
  have hlt := (List.getElem?_eq_some_iff.mp ha).1
  rw [hr.len] at hlt
  rw [List.getElem?_append_left hlt] at hq
  exact ⟨vs,hq⟩
 | _ => cases jf
structure Bo (K : Cx) (s₁ : Shared) (it : Addr) : Prop where
 hit : s₁.heap.get? it = none
 gi : K.base.get? it = none
 il : it ≠ K.env.locals
 nC : s₁.heap.get? K.env.locals = none
 loc : LocOk K
 kind : K.env.scope.kind = .function
structure jH (prog : Program) (w : World) (K : Cx) (ρ₁ : List Addr) (s₁ : Shared) (it : Addr) (src : Src) (D : Addr) (d₁ i : Nat) (ρ : List Addr) (ls : Ls) (H : List Cell) (s : Shared) : Prop where
 ext : Ext [] ρ₁ s₁ ρ s
 st : St prog w K ρ ls H s
 iter : cM s.heap ρ it src i
 nin : it ∉ ρ
 acc : ρ[d₁]? = some D
section
variable {A : Around} {K : Cx} {ρ₁ : List Addr} {s₁ : Shared} {it D : Addr} {src : Src} {d₁ i : Nat} {ρ ρ' : List Addr} {ls : Ls} {H H' : List Cell} {s s' : Shared}
theorem jH.step (c : jH prog w K ρ₁ s₁ it src D d₁ i ρ ls H s) (e : Ext [] ρ s ρ' s') (hr : cu prog w s'.heap ρ' H') : jH prog w K ρ₁ s₁ it src D d₁ i ρ' ls H' s' where
 ext := c.ext.trans e
 st := c.st.step e hr
 iter := .ext e e.keeps c.nin (fun m => nomatch m) c.iter
 nin := by obtain ⟨o,ho,_⟩ := c.iter.there; exact fJ e.pre ho c.nin
 acc := by obtain ⟨τ,rfl,_⟩ := e.pre; exact q8 c.acc
theorem jH.turn {h' : Heap} {k : Nat} (c : jH prog w K ρ₁ s₁ it src D d₁ i ρ ls H s) (f : Bo K s₁ it) (hk : ∀ b o,b ≠ it -> s.heap.get? b = some o -> h'.get? b = some o) : Ext [] ρ₁ s₁ ρ { s with heap := h',toks := k } /\ St prog w K ρ ls H { s with heap := h',toks := k } /\ ∀ {v : Val} {u : Value},aC s.heap ρ v u -> aC h' ρ v u :=
 ⟨c.ext.turn f.hit hk,c.st.turn c.nin f.gi f.il c.iter.there hk⟩
theorem cM.turn {ρ : List Addr} {s : Shared} {it kI : Addr} {src : Src} {i : Nat} {h' : Heap} (x : cM s.heap ρ it src i) (hf : ∃ o,s.heap.get? kI = some o /\ ∃ vs,o.data = .fields vs) (hne : it ≠ kI) (hin : it ∉ ρ) (hk : ∀ b o,b ≠ kI -> s.heap.get? b = some o -> h'.get? b = some o) : cM h' ρ it src i := by
 obtain ⟨o2,ho2,vs,hd2⟩ := hf
 have hke : Keeps ρ s.heap h' := fun b o e im _ => ⟨o.slots,hk b o (fun q => by subst q; rw [ho2] at e; cases e; exact im.mq _ hd2) e⟩
 have := x.grow (τ := []) cC.nil hke fun o ho => hk it o hne ho
 rwa [List.append_nil] at this
def Moves (K : Cx) (it : Addr) (ρ : List Addr) (s s2 : Shared) : Prop := ∀ it' src' i',it' ≠ it -> it' ≠ K.env.locals -> it' ∉ ρ -> cM s.heap ρ it' src' i' -> cM s2.heap ρ it' src' i'
theorem jH.next {x : PySem.Str} {px : Pos} {z k : Nat} {v' : Val} {u' : Value} {h' : Heap} {E : Value -> Shared -> Prop} {Q : Unit -> Shared -> Prop} (c : jH prog w K ρ₁ s₁ it src D d₁ i ρ ls H s) (f : Bo K s₁ it) (hz : z < ls.length) (hn : K.nm[z]? = some (some x)) (hl : K.env.kindOf x = some .local)
  (hsb : Heap.SameBut it s.heap h') (hx' : cM h' ρ it src (i + 1)) (hu : aC s.heap ρ v' u') (q : ∀ s2,jH prog w K ρ₁ s₁ it src D d₁ (i + 1) ρ (ls.set z (some v')) H s2 -> Moves K it ρ s s2 -> Q () s2) : wpAny (model prog w) A (assign (.Name x px) K.env u') Q E { s with heap := h',toks := k } := by
 have hk : ∀ b o,b ≠ it -> s.heap.get? b = some o -> h'.get? b = some o := fun b o q e => by rw [hsb.2 b q]; exact e
 obtain ⟨e',st',vk⟩ := c.turn (k := k) f hk
 refine wpAny_assign_Name (fV f.kind st' f.loc hz hn hl (vk hu) fun s2 e2 st2 => q s2 ⟨⟨dX e'.rest e2.rest,e'.pre,fun b o h1 h2 h3 => ?_,fun b hb => e'.live b (e2.live b hb)⟩,st2,?_,c.nin,c.acc⟩ ?_)
 ·refine e2.keep b o (e'.keep b o h1 h2 h3) (fun m => fJ c.ext.pre h1 h2 m) fun m => ?_
  rw [List.mem_singleton.mp m,f.nC] at h1; exact cN h1
 ·exact cM.ext e2 (sU st' e2) c.nin (fun m => f.il (List.mem_singleton.mp m)) hx'
 ·exact fun it' src' i' n1 n2 n3 y => cM.ext e2 (sU st' e2) n3 (fun m => n2 (List.mem_singleton.mp m)) (y.turn c.iter.there n1 n3 hk)
end
theorem w6 {A : Around} {E : Value -> Shared -> Prop} {R : Value -> Addr -> Result -> Shared -> Prop} {ρ₁ : List Addr} {ls : Ls} {H₁ : List Cell} {s₁ : Shared} {xs : List PySem.Str} {cmp : PySem.Expr} {cl : List (PySem.Str × Addr)} {v : Val} {u : Value} {src : Src}
  (ok : bx prog w aQ G TT cx) (loc : LocOk cx) (jh : lV cx scope xs) (hcl : ∀ n,(n,NameKind.free) ∈ scope.names -> cl.lookup n = cx.env.cells.lookup n)
  (st : St prog w cx ρ₁ ls H₁ s₁) (hv : aC s₁.heap ρ₁ v u) (jf : lY v = some src) (Ra : ∀ l,src = .lst l -> ∃ vs,(H₁ ++ [.lst []])[l]? = some (.lst vs))
  (k : ∀ it Ca D s,Bo (kY cx scope xs Ca cl) s₁ it -> jZ s.heap it -> cx.base.get? Ca = none -> jH prog w (kY cx scope xs Ca cl) ρ₁ s₁ it src D H₁.length 0 (ρ₁ ++ [D]) (ls ++ List.replicate xs.length none) (H₁ ++ [.lst []]) s -> codeAny (model prog w) A (.compStart cmp 0 (.ref it) (.ref D) (kY cx scope xs Ca cl).env) (R (.ref D) Ca) s) :
  wpAny (model prog w) A (pyIter u) (fun it s₂ => wpAny (model prog w) A (newList []) (fun acc s₃ => wpAny (model prog w) A (newFunctionEnv scope cx.env.globals cl [] cx.env.qual none .none (some cx.env)) (fun cenv s₄ =>
   codeAny (model prog w) A (.compStart cmp 0 it acc { cenv with scope := relabel scope cx.env }) (R acc cenv.locals) s₄) E s₃) E s₂) E s₁ := by
 refine yF st.hr hv jf (T4 st.hr hv jf Ra) fun it h₂ hit hk₂ hx₂ hself => ?_
 refine wpAny_newList ?_ (by rw [sizeLine_eq]; decide)
 dsimp only
 refine wpAny_newFunctionEnv jh.ou (by intro y hy; cases hy) (fun h₄ hns₄ hsb₄ => ?_) jh.kind
 dsimp only at hns₄ hsb₄ ⊢
 generalize hD : h₂.objs.size = D
 generalize hh₃ : h₂.push { cls := .type "list",dict := none,data := .seq ([] : List Value).toArray } = h₃ at hns₄ hsb₄ ⊢
 generalize hC : h₃.objs.size = Ca at hns₄ hsb₄ ⊢
 refine k it Ca D _ ?_ ?_ ?_ ?_
 all_goals
  have hk₃ : ∀ b o,h₂.get? b = some o -> h₃.get? b = some o := fun b o e => by rw [<- hh₃]; exact Heap.get?_push_of_some _ e
  have Dm : h₃.get? Ca = none := by rw [<- hC]; exact Heap.get?_none_of_le (Nat.le_refl _)
  have hk₄ : ∀ b o,h₃.get? b = some o -> h₄.get? b = some o := fun b o e => by
   have hne : b ≠ Ca := fun q => by rw [q,Dm] at e; exact cN e
   rw [hsb₄.2 b hne]; exact Heap.get?_push_of_some _ e
  have Dm₁ : s₁.heap.get? Ca = none := by
   cases hq : s₁.heap.get? Ca with
   | none => rfl
   | some o => have := hk₃ _ _ (hk₂ _ _ hq); rw [Dm] at this; exact cN this
 ·obtain ⟨gi1,gi2⟩ := cA st hit
  obtain ⟨gC1,gC2⟩ := cA st Dm₁
  refine ⟨hit,gi2,fun q => ?_,Dm₁,kY.loc loc jh gC2,jh.kind⟩
  obtain ⟨o,ho,_⟩ := hx₂.there
  have := hk₃ _ _ ho
  rw [show it = Ca from q,Dm] at this; exact cN this
 ·exact hself.keeps fun b o e => hk₄ b o (hk₃ b o e)
 ·exact (cA st Dm₁).2
 ·have hk₁₄ : ∀ b o,s₁.heap.get? b = some o -> h₄.get? b = some o := fun b o e => hk₄ b o (hk₃ b o (hk₂ b o e))
  have S7₂ : h₂.get? D = none := by rw [<- hD]; exact Heap.get?_none_of_le (Nat.le_refl _)
  have S7 : s₁.heap.get? D = none := by
   cases hq : s₁.heap.get? D with
   | none => rfl
   | some o => have := hk₂ _ _ hq; rw [S7₂] at this; exact cN this
  have hD3 : h₃.get? D = some ⟨.type "list",none,.seq ([] : List Value).toArray 0,#[]⟩ := by rw [<- hh₃,<- hD]; exact Heap.get?_push_size _ rfl
  have hDl := hk₄ _ _ hD3
  have eD : Ext [] ρ₁ s₁ (ρ₁ ++ [D]) { s₁ with heap := h₄,toks := s₁.toks } := Ext.one hk₁₄ S7
  have hCρ : Ca ∉ ρ₁ ++ [D] := fun m => by
   rcases List.mem_append.mp m with m | m
   ·exact gn st.hr Dm₁ m
   ·rw [<- List.mem_singleton.mp m,Dm] at hD3; exact cN hD3
  have hx₄ : cM h₄ (ρ₁ ++ [D]) it src 0 :=
   cM.ext (Ext.one (s := { s₁ with heap := h₂ }) (k := s₁.toks) (fun b o e => hk₄ b o (hk₃ b o e)) S7₂) (Keeps.qp fun b o e => hk₄ b o (hk₃ b o e)) (gn st.hr hit) (fun m => nomatch m) hx₂
  refine ⟨eD,kY.st ok jh hcl (st.step eD (st.hr.push hk₁₄ S7 hDl .nil)) hCρ hns₄,hx₄,fun m => ?_,q7 st.hr.len⟩
  rcases List.mem_append.mp m with m | m
  ·exact gn st.hr hit m
  ·obtain ⟨o,ho,vs,hd⟩ := hx₄.there
   rw [List.mem_singleton.mp m,hDl] at ho; cases ho; cases hd
def HN (prog : Program) (w : World) (ρ₁ : List Addr) (s₁ : Shared) (d₁ : Nat) (X : Mine.H -> Prop) (R : Value -> Addr -> Result -> Shared -> Prop) : Prop := ∀ D Ca ρ' s' H' m,X H' -> Ext [] ρ₁ s₁ ρ' s' -> cu prog w s'.heap ρ' H' -> ρ'[d₁]? = some D -> s'.heap.Ns Ca m -> Ca ∉ ρ' -> s₁.heap.get? Ca = none -> R (.ref D) Ca (.ok .next) s'
theorem jH.done {A : Around} {K : Cx} {ρ₁ : List Addr} {s₁ : Shared} {it D : Addr} {src : Src} {d₁ i : Nat} {ρ : List Addr} {ls : Ls} {H : List Cell} {s : Shared} {X : Mine.H -> Prop} {R : Value -> Addr -> Result -> Shared -> Prop} {h' : Heap} (c : jH prog w K ρ₁ s₁ it src D d₁ i ρ ls H s) (f : Bo K s₁ it) (hX : HN prog w ρ₁ s₁ d₁ X R) (hf : X H) (hb : Heap.ExtBut it s.heap h') : R (.ref D) K.env.locals (.ok .next) { s with heap := h' } := by
 obtain ⟨e',st',_⟩ := c.turn (k := s.toks) f hb
 obtain ⟨m,hm,_⟩ := st'.xU
 exact hX D _ ρ _ H m hf e' st'.hr c.acc hm st'.loc f.nC
theorem tu {X : Mine.H -> Prop} {src : Src} {step : Val -> Mine.H -> Res Unit} {n i : Nat} {H : List Cell} (h : PF X (cH src step (n + 1) i H)) : (nx src i H = some none /\ X H) \/ ∃ v H',nx src i H = some (some v) /\ step v H = .ok () H' /\ PF X (cH src step n (i + 1) H') := by
 cases hn : nx src i H with
 | none => rw [zc hn] at h; exact h.elim
 | some o =>
  cases o with
  | none => rw [pC hn] at h; exact .inl ⟨rfl,h⟩
  | some v =>
   rw [mH hn] at h
   obtain ⟨a,H',h1,h2⟩ := PF.bind h
   exact .inr ⟨v,H',rfl,h1,h2⟩
theorem Res.rG {α β : Type} {r : Res α} {g : α -> Mine.H -> Res β} {b : β} {h : Mine.H} (e : r.bind g = .ok b h) : ∃ a h',r = .ok a h' /\ g a h' = .ok b h := by
 cases r with
 | ok a h' => exact ⟨a,h',rfl,e⟩
 | exc _ => exact reo e
 | bad => exact rbo e
theorem lZ {D : Nat} {y : Val} {h h' : Mine.H} (e : nD D y h = .ok () h') : ∃ r,gW .aO (.lst D) [y] h = .ok r h' := by
 obtain ⟨r,h1,e1,e2⟩ := Res.rG e
 cases e2
 exact ⟨r,e1⟩
theorem jH.push {A : Around} {K : Cx} {ρ₁ : List Addr} {s₁ : Shared} {it D : Addr} {src : Src} {d₁ i : Nat} {ρ : List Addr} {ls : Ls} {H H' : List Cell} {s : Shared} {y : Val} {uy : Value} {E : Value -> Shared -> Prop} {Q : Value -> Shared -> Prop} (c : jH prog w K ρ₁ s₁ it src D d₁ i ρ ls H s) (okK : bx prog w aQ G TT K) (hA : rU K A d) (hy : aC s.heap ρ y uy) (e : nD d₁ y H = .ok () H')
  (q : ∀ ur ρ' s',Ext [] ρ s ρ' s' -> cu prog w s'.heap ρ' H' -> Q ur s') : wpAny (model prog w) A (call (.builtin "list.append") [.ref D,uy]) Q E s := by
 obtain ⟨r,hm⟩ := lZ e
 refine Ia (cx := K) (m := .aO) (v := .lst d₁) (vs := [y]) hA.handled c.st.hr (c.st.sm okK) (.lst c.acc) (aD.one hy) ?_
 rw [hm]
 exact fun ur ρ' s' e hr _ => q ur ρ' s' e hr
def SJ (prog : Program) (w : World) (C : bK) (mc cR : ME) (K : Cx) (ρ₁ : List Addr) (s₁ : Shared) (ls : Ls) (it : Addr) (src : Src) (D : Addr) (d₁ : Nat) (X : Mine.H -> Prop) (n : Nat) (s : Shared) : Prop := ∃ i ρ o H,jH prog w K ρ₁ s₁ it src D d₁ i ρ (ls ++ [o]) H s /\ PF X (cH src (w5 C ls mc cR d₁) n i H)
theorem SJ.zero {mc cR : ME} {K : Cx} {ρ₁ : List Addr} {s₁ : Shared} {ls : Ls} {it : Addr} {src : Src} {D : Addr} {d₁ : Nat} {X : Mine.H -> Prop} {s : Shared} : ¬ SJ prog w C mc cR K ρ₁ s₁ ls it src D d₁ X 0 s := by
 rintro ⟨_,_,_,_,_,h⟩; exact h
theorem Ny {α : Type} (ls : List α) (o v : α) : (ls ++ [o]).set ls.length v = ls ++ [v] := by simp
theorem qy {xs : List PySem.Str} {x : PySem.Str} {j : Nat} {ca : Addr} {cl : List (PySem.Str × Addr)} {n : Nat} (hl : n = cx.nm.length) (hx : xs[j]? = some x) : (kY cx scope xs ca cl).nm[n + j]? = some (some x) := by
 show (eH scope cx.nm xs)[n + j]? = _
 unfold eH
 rw [List.getElem?_append_right (by rw [List.length_map,hl]; exact Nat.le_add_right _ _),List.length_map,hl,Nat.add_sub_cancel_left,List.getElem?_map,hx]; rfl
theorem Lp {A : Around} {N : Value -> Shared -> Prop} {J P0 : Shared -> Prop} {K : Cx} {ρ₁ : List Addr} {ls : Ls} {s₁ : Shared} {mc cR : ME} {x : PySem.Str} {px : Pos} {lC jg : PySem.Expr} {it D : Addr} {src : Src} {d₁ n : Nat} {X : Mine.H -> Prop} {s : Shared}
  (okK : bx prog w aQ G TT K) (f : Bo K s₁ it) (hA : rU K A d) (hT : ∀ v,jj prog w C d K (ls ++ [some v]) mc lC) (hE : ∀ v,aY prog w C d K (ls ++ [some v]) cR jg) (hz : K.nm[ls.length]? = some (some x)) (hl : K.env.kindOf x = some .local)
  (hP : ∀ {i ρ ls H s h'},jH prog w K ρ₁ s₁ it src D d₁ i ρ ls H s -> X H -> Heap.ExtBut it s.heap h' -> P0 { s with heap := h' }) (hJ : ∀ {i ρ o H s},jH prog w K ρ₁ s₁ it src D d₁ i ρ (ls ++ [o]) H s -> PF X (cH src (w5 C ls mc cR d₁) n i H) -> J s)
  (h : SJ prog w C mc cR K ρ₁ s₁ ls it src D d₁ X (n + 1) s) : wpAny (model prog w) A (pyNext (.ref it)) (fun r s₁ => match r with
   | none => P0 s₁
   | some v => wpAny (model prog w) A (assign (.Name x px) K.env v) (fun _ s₂ =>
     wpAny (model prog w) A (forIn [lC] true fun c r => if r = true then do let ok <- isTrue c K.env (eval c K.env); pure (ForInStep.yield ok) else pure (ForInStep.yield r)) (fun ok s₃ =>
      if ok = true then wpAny (model prog w) A (eval jg K.env) (fun x s₄ => wpAny (model prog w) A (call (.builtin "list.append") [.ref D,x]) (fun _ s₅ => J s₅) N s₄) N s₃ else J s₃) N s₂) N s₁) N s := by
 obtain ⟨i,ρ,o,H,c,hf⟩ := h
 rcases tu hf with ⟨hn,hf⟩ | ⟨v',H',hn,hstep,hf'⟩
 ·exact vd hA.handled c.st.hr c.iter c.nin hn fun h' hb => hP c hf hb
 ·obtain ⟨b,H2,hb,hstep⟩ := Res.rG hstep
  refine qT c.st.hr c.iter c.nin hn fun u' h' k hsb hx' hu => ?_
  refine c.next f (z := ls.length) (by rw [List.length_append]; exact Nat.lt_succ_self _) hz hl hsb hx' hu fun s2 c2 _ => ?_
  rw [Ny] at c2
  show wpAny (model prog w) A (_ >>= fun _ => _) _ _ _
  refine wpAny_bind (wpAny_bind (hT v' _ _ _ _ _ _ hA c2.st ?_))
  rw [hb]
  intro b' ρ3 s3 e3 uQ hb'
  cases (show b = b' from hb')
  refine wpAny_pure (wpAny_pure ?_)
  have c3 := c2.step e3 uQ
  cases b with
  | false => cases hstep; exact hJ c3 hf'
  | true =>
   obtain ⟨y,H3,hy,hp⟩ := Res.rG hstep
   refine hE v' _ _ _ _ _ _ hA c3.st ?_
   rw [hy]
   exact fun uy ρ4 s4 e4 Xh hvy => (c3.step e4 Xh).push okK hA hvy hp fun ur ρ5 s5 e5 hr5 => hJ ((c3.step e4 Xh).step e5 hr5) hf'
theorem zy {A : Around} {E : Value -> Shared -> Prop} {use : Option (Value -> Sem Unit)} {Q : Value -> Shared -> Prop} {ρ₁ : List Addr} {ls : Ls} {H₁ : List Cell} {s₁ : Shared} {mc cR : ME} {x : PySem.Str} {px pos : Pos} {ei lC jg : PySem.Expr} {cl : List (PySem.Str × Addr)} {v : Val} {u : Value} {src : Src} {X : Mine.H -> Prop}
  (ok : bx prog w aQ G TT cx) (loc : LocOk cx) (jh : lV cx scope [x]) (hcl : ∀ n,(n,NameKind.free) ∈ scope.names -> cl.lookup n = cx.env.cells.lookup n) (hA : rU cx A d)
  (hT : ∀ Ca v,cx.base.get? Ca = none -> jj prog w C d (kY cx scope [x] Ca cl) (ls ++ [some v]) mc lC) (hE : ∀ Ca v,cx.base.get? Ca = none -> aY prog w C d (kY cx scope [x] Ca cl) (ls ++ [some v]) cR jg)
  (st : St prog w cx ρ₁ ls H₁ s₁) (hv : aC s₁.heap ρ₁ v u) (jf : lY v = some src) (hF : PF X (cH src (w5 C ls mc cR H₁.length) FUEL 0 (H₁ ++ [.lst []])))
  (hX : HN prog w ρ₁ s₁ H₁.length X (compPost (model prog w) A E use Q)) :
  wpAny (model prog w) A (pyIter u) (fun it s₂ => wpAny (model prog w) A (newList []) (fun acc s₃ => wpAny (model prog w) A (newFunctionEnv scope cx.env.globals cl [] cx.env.qual none .none (some cx.env)) (fun cenv s₄ =>
   codeAny (model prog w) A (.compStart (.ListComp jg [⟨.Name x px,ei,[lC],0⟩] scope pos) 0 it acc { cenv with scope := relabel scope cx.env }) (compPost (model prog w) A E use Q acc cenv.locals) s₄) E s₃) E s₂) E s₁ := by
 refine w6 (R := compPost (model prog w) A E use Q) ok loc jh hcl st hv jf (wQ hF) fun it Ca D s₄ f hself gC c₀ => ?_
 have hAC : rU (kY cx scope [x] Ca cl) A d := ⟨hA.frames,hA.handled,hA.depth⟩
 have okC : bx prog w aQ G TT (kY cx scope [x] Ca cl) := kY.ok ok jh.kind
 have loop : codeAny (model prog w) A (.compLoop (.ListComp jg [⟨.Name x px,ei,[lC],0⟩] scope pos) 0 (.ref it) (.ref D) (kY cx scope [x] Ca cl).env) (compPost (model prog w) A E use Q (.ref D) Ca) s₄ := by
  refine codeAny_compLoop_tests (SJ prog w C mc cR (kY cx scope [x] Ca cl) ρ₁ s₁ ls it src D H₁.length X) (fun n s hI => ?_) FUEL ⟨0,_,none,_,c₀,hF⟩
  cases n with
  | zero => exact absurd hI SJ.zero
  | succ n => exact Lp okC f hAC (fun v => hT Ca v gC) (fun v => hE Ca v gC) (qy (j := 0) st.lens rfl) (kY.qw (jh.loc x (.head _))) (fun c hf hb => c.done (A := A) f hX hf hb) (fun c hf => ⟨n,Nat.lt_succ_self n,_,_,_,_,c,hf⟩) hI
 exact codeAny_compStart_list loop (vW hself loop)
end
section
variable {prog : Program} {w : World} {C : bK} {d : Nat} {aQ : Nat -> Addr} {G : Addr} {TT : Heap -> Prop} {cx : Cx} {scope : Scope}
theorem St.WR {ρ : List Addr} {ls : Ls} {H : List Cell} {s : Shared} {a : Addr} {h' : Heap} {k : Nat} (st : St prog w cx ρ ls H s) (hi : a ∉ ρ) (hb : cx.base.get? a = none) (hl : a ≠ cx.env.locals)
  (hni : ∀ o,s.heap.get? a = some o -> ¬ S9 o /\ ∀ u,o.data ≠ .cell u) (hfr : ∀ e ∈ cx.frs,e.frame ≠ some a)
  (hk : ∀ b o,b ≠ a -> s.heap.get? b = some o -> h'.get? b = some o) : St prog w cx ρ ls H { s with heap := h',toks := k } /\ ∀ {v : Val} {u : Value},aC s.heap ρ v u -> aC h' ρ v u := by
 have hke : Keeps ρ s.heap h' := fun b o e im _ => ⟨o.slots,hk b o (fun q => by subst q; exact (hni o e).1 im) e⟩
 have vk : ∀ {v : Val} {u : Value},aC s.heap ρ v u -> aC h' ρ v u := fun r => by
  have := r.grow (h' := h') (τ := []) hke cC.nil
  rwa [List.append_nil] at this
 refine ⟨⟨fun b o e => hk b o (fun q => by subst q; rw [hb] at e; exact cN e) (st.stay b o e),st.low,?_,?_,st.Lb,st.loc,?_,st.lens⟩,vk⟩
 ·constructor
  ·exact st.hr.len
  ·exact st.hr.nodup
  ·intro i c b hc ha
   obtain ⟨o,ho⟩ := st.hr.old b (bZ ha)
   have := (st.hr.cell i c b hc ha).grow (h' := h') (τ := []) hke cC.nil ho (hk b o (fun q => hi (q ▸ bZ ha)) ho)
   rwa [List.append_nil] at this
  ·intro b ha
   obtain ⟨o,ho,hn⟩ := st.hr.sI b ha
   exact ⟨o,hk b o (fun q => hi (q ▸ ha)) ho,hn⟩
 ·have main : ∀ l : List Env,(∀ e ∈ l,e.frame ≠ some a) -> s.heap.FunFrames cx.base l -> h'.FunFrames cx.base l := by
   intro l
   induction l with
   | nil => intro _ _; trivial
   | cons e r ih =>
    intro hl hf
    obtain ⟨hk',⟨L,o,h1,h2,h3,h4⟩,hr⟩ := hf
    exact ⟨hk',⟨L,o,h1,h2,hk L o (fun q => hl e (.head _) (q ▸ h1)) h3,h4⟩,ih (fun e' he => hl e' (.tail _ he)) hr⟩
  exact main _ hfr st.ff
 ·obtain ⟨m,hn,hs⟩ := st.xU
  refine ⟨m,?_,fun x v n h1 h2 => ?_⟩
  ·obtain ⟨o,es,ep,ho,r⟩ := hn
   exact ⟨o,es,ep,hk _ o (Ne.symm hl) ho,r⟩
  ·have := (hs x v n h1 h2).grow (h' := h') (τ := []) hke cC.nil fun b o u h3 h4 h5 _ => ⟨o.slots,hk b o (fun q => by subst q; exact (hni o h3).2 _ h4) h3⟩
   rwa [List.append_nil] at this
theorem Jg {ρ : List Addr} {ls : Ls} {H : List Cell} {s : Shared} {a : Addr} (st : St prog w cx ρ ls H s) (h : s.heap.get? a = none) : ∀ e ∈ cx.frs,e.frame ≠ some a := fun e he q => by
 obtain ⟨_,o,ho,_⟩ := st.ff.mem (List.mem_filterMap.mpr ⟨e,he,q⟩)
 rw [h] at ho; exact cN ho
theorem DR {ρ ρ' : List Addr} {ls : Ls} {H H' : List Cell} {s₁ s' : Shared} {Ca : Addr} {m : PySem.Str -> Option Value} {h' : Heap} (st : St prog w cx ρ ls H s₁) (e : Ext [] ρ s₁ ρ' s') (hr : cu prog w s'.heap ρ' H') (hm : s'.heap.Ns Ca m) (hCρ : Ca ∉ ρ') (hC : s₁.heap.get? Ca = none) (hsb : Heap.SameBut Ca s'.heap h') :
  Ext [] ρ s₁ ρ' { s' with heap := h' } /\ St prog w cx ρ' ls H' { s' with heap := h' } /\ ∀ {v : Val} {u : Value},aC s'.heap ρ' v u -> aC h' ρ' v u := by
 obtain ⟨g1,g2⟩ := cA st hC
 have hk : ∀ b o,b ≠ Ca -> s'.heap.get? b = some o -> h'.get? b = some o := fun b o q e => by rw [hsb.2 b q]; exact e
 obtain ⟨oC,es,ep,hoC,hdC,_⟩ := hm
 obtain ⟨a1,a2⟩ := (st.step e hr).WR (k := s'.toks) hCρ g2 g1 (fun o q => by rw [hoC] at q; cases q; exact ⟨fun im => im.noDict _ _ hdC,fun u q => by rw [hdC] at q; cases q⟩) (Jg st hC) hk
 exact ⟨e.turn hC (k := s'.toks) hk,a1,a2⟩
theorem U5 {ls : Ls} {mi mc cR : ME} {x : PySem.Str} {px pos : Pos} {ei lC jg : PySem.Expr} (ok : bx prog w aQ G TT cx) (loc : LocOk cx) (jh : lV cx scope [x]) (hcells : ∀ n,cx.env.kindOf n = some .cell -> ∃ a,cx.env.cells.lookup n = some a) (Q7 : jR ei = true) (h1 : aY prog w C d cx ls mi ei)
  (hT : ∀ Ca cl v,cx.base.get? Ca = none -> jj prog w C d (kY cx scope [x] Ca cl) (ls ++ [some v]) mc lC) (hE : ∀ Ca cl v,cx.base.get? Ca = none -> aY prog w C d (kY cx scope [x] Ca cl) (ls ++ [some v]) cR jg) :
  aY prog w C d cx ls (.comp mi true mc cR) (.ListComp jg [⟨.Name x px,ei,[lC],0⟩] scope pos) := fun A ρ H s Q E hA st hP => by
 rw [rC] at hP
 obtain ⟨cl,hclos,hcl⟩ := qI (scope := scope) (env := cx.env) fun y hy hf => hcells _ (jh.free y hy hf)
 rw [eval_ListComp]
 refine wpAny_comprehension_free (use := none) rfl (jM Q7) hclos jh.kind jh.names (h1 _ _ _ _ _ _ hA st ?_)
 cases hv : aL C ls mi H with
 | bad => rw [hv] at hP; exact hP.elim
 | exc H' => rw [hv] at hP; exact hP
 | ok v H1 =>
  rw [hv] at hP
  intro u ρ1 s1 e1 hr1 r1
  have st1 := st.step e1 hr1
  have bQ := Post.shift e1 hP
  dsimp only [Res.bind] at bQ
  cases jf : lY v with
  | none => rw [jf] at bQ; exact bQ.elim
  | some src =>
   rw [jf] at bQ
   have hP2 : Post prog w cx RV ρ1 s1 ((cH src (w5 C ls mc cR H1.length) FUEL 0 (H1 ++ [.lst []])).ug.bind fun _ h' => .ok (.lst H1.length) h') Q E := bQ
   cases hf : cH src (w5 C ls mc cR H1.length) FUEL 0 (H1 ++ [.lst []]) with
   | bad => rw [hf] at hP2; exact hP2.elim
   | exc _ => rw [hf] at hP2; exact hP2.elim
   | ok _ H' =>
    rw [hf] at hP2
    refine zy (X := fun h => h = H') ok loc jh hcl hA (fun Ca v hb => hT Ca cl v hb) (fun Ca v hb => hE Ca cl v hb) st1 r1 jf (by rw [hf]; rfl) fun D Ca ρ' s' H'' m hX e hr hD hm hCρ Dm => ?_
    subst hX
    refine ⟨m,hm,fun h' hsb => ?_⟩
    obtain ⟨g1,g2,g3⟩ := DR st1 e hr hm hCρ Dm hsb
    exact hP2.ok g1 g2.hr (.lst hD)
theorem Ot {y : Nat} {n : PySem.Str} {np : Pos} {mi mc cR : ME} {x : PySem.Str} {px pos spos : Pos} {ei lC jg : PySem.Expr} (ok : bx prog w aQ G TT cx) (own : fM cx) (jh : lV cx scope [x]) (hcells : ∀ n,cx.env.kindOf n = some .cell -> ∃ a,cx.env.cells.lookup n = some a) (Q7 : jR ei = true)
  (hsw : swapsWith (.ListComp jg [⟨.Name x px,ei,[lC],0⟩] scope pos) (some (.Name n np)) spos.line cx.env = pure true) (hn : cx.nm[y]? = some (some n)) (hk : cx.env.kindOf n = some .local) (h1 : ∀ ls,aY prog w C d cx ls mi ei)
  (hT : ∀ ls Ca cl v,cx.base.get? Ca = none -> jj prog w C d (kY cx scope [x] Ca cl) (ls ++ [some v]) mc lC) (hE : ∀ ls Ca cl v,cx.base.get? Ca = none -> aY prog w C d (kY cx scope [x] Ca cl) (ls ++ [some v]) cR jg) :
  m5 prog w C d cx (.assign (.var y) (.comp mi true mc cR)) (.Assign [.Name n np] (.ListComp jg [⟨.Name x px,ei,[lC],0⟩] scope pos) spos) := fun A ρ ls H s Q E hA st hP => by
 have hP : aA prog w cx ρ s (SR.of ls (aL C ls (.comp mi true mc cR) H) fun v h => store C (.var y) v ls h) Q E := hP
 rw [rC] at hP
 obtain ⟨cl,hclos,hcl⟩ := qI (scope := scope) (env := cx.env) fun y hy hf => hcells _ (jh.free y hy hf)
 rw [exec_Assign_Name_used _ _ _ _ hsw]
 refine wpAny_bind (wpAny_standAt (wpAny_bind ?_))
 show wpAny _ A (do let _ <- comprehension (.ListComp jg [⟨.Name x px,ei,[lC],0⟩] scope pos) scope cx.env _ (newList []) false (eval ei cx.env) (some (assign (.Name n np) cx.env))) _ _ s
 refine wpAny_bind (wpAny_mono (Q := fun _ s' => Q .next s') ?_ (fun _ s' hq => wpAny_pure (wpAny_pure hq)) fun _ _ e => e)
 refine wpAny_comprehension_free (use := some (assign (.Name n np) cx.env)) (Q := fun _ s' => Q .next s') rfl (jM Q7) hclos jh.kind jh.names (h1 ls _ _ _ _ _ _ hA st ?_)
 cases hv : aL C ls mi H with
 | bad => rw [hv] at hP; exact hP.elim
 | exc H' =>
  rw [hv] at hP
  exact fun u ρ' s' e hr hf => hP u ρ' s' e.w hr (st.xU.zR e st.loc) (Rj hf)
 | ok v H1 =>
  rw [hv] at hP
  intro u ρ1 s1 e1 hr1 r1
  have st1 := st.step e1 hr1
  have bQ := aA.shift e1.w hP
  dsimp only [Res.bind] at bQ
  cases jf : lY v with
  | none => rw [jf] at bQ; exact bQ.elim
  | some src =>
   rw [jf] at bQ
   have hP2 : aA prog w cx ρ1 s1 (SR.of ls ((cH src (w5 C ls mc cR H1.length) FUEL 0 (H1 ++ [.lst []])).ug.bind fun _ h' => .ok (.lst H1.length) h') fun v h => store C (.var y) v ls h) Q E := bQ
   cases hf : cH src (w5 C ls mc cR H1.length) FUEL 0 (H1 ++ [.lst []]) with
   | bad => rw [hf] at hP2; exact hP2.elim
   | exc _ => rw [hf] at hP2; exact hP2.elim
   | ok _ H' =>
    rw [hf] at hP2
    have uR : aA prog w cx ρ1 s1 (store C (.var y) (.lst H1.length) ls H') Q E := hP2
    rw [eO] at uR
    refine uR.Mr fun hy uR => ?_
    ·refine zy (X := fun h => h = H') ok own.toLocOk jh hcl hA (fun Ca v hb => hT ls Ca cl v hb) (fun Ca v hb => hE ls Ca cl v hb) st1 r1 jf (by rw [hf]; rfl) fun D Ca ρ' s' H'' m hX e hr hD hm hCρ Dm => ?_
     subst hX
     have st' := st1.step e hr
     show wpAny _ A (assign (.Name n np) cx.env (.ref D)) _ _ s'
     refine wpAny_assign_Name (fV ok.kind st' own.toLocOk hy hn hk (.lst hD) fun s2 e2 st2 => ?_)
     obtain ⟨g1,g2⟩ := cA st1 Dm
     obtain ⟨oC,es,ep,hoC,r⟩ := hm
     have hm2 : s2.heap.Ns Ca m := ⟨oC,es,ep,e2.keep _ _ hoC hCρ (fun q => g1 (List.mem_singleton.mp q)),r⟩
     refine ⟨m,hm2,fun h' hsb => ?_⟩
     have hk' : ∀ b o,b ≠ Ca -> s2.heap.get? b = some o -> h'.get? b = some o := fun b o q e => by rw [hsb.2 b q]; exact e
     obtain ⟨oC',es',ep',afY,ac8,_⟩ := id hm2
     have hρ : ∃ τ,ρ' = ρ1 ++ τ /\ cC s1.heap τ := e.pre
     obtain ⟨a1,a2⟩ := st2.WR (k := s2.toks) hCρ g2 g1 (fun o q => by rw [afY] at q; cases q; exact ⟨fun im => im.noDict _ _ ac8,fun u q => by rw [ac8] at q; cases q⟩) (Jg st1 Dm) hk'
     exact uR.ok (fl := .next) ((e.w.trans e2).turn Dm (k := s2.toks) hk') a1 trivial
end
section
variable {prog : Program} {w : World} {A : Around} {E : Value -> Shared -> Prop} {R : Result -> Shared -> Prop} {s : Shared}
noncomputable abbrev two (elt t0 i0 t1 i1 : PySem.Expr) (scope : Scope) (pos : Pos) : PySem.Expr := .ListComp elt [⟨t0,i0,[],0⟩,⟨t1,i1,[],0⟩] scope pos
theorem M7 (elt t0 i0 t1 i1 : PySem.Expr) (scope : Scope) (pos : Pos) (it acc : Value) (env : Env) :
  compTurn (two elt t0 i0 t1 i1 scope pos) 0 it acc env = (standAt i0.pos >>= fun _ => pyNext it >>= fun r => match r with
   | none => pure (.done .next)
   | some v => letOwnedTupleGo t0 it v >>= fun _ => assign t0 env v >>= fun _ =>
    eval i1 env >>= fun x => standAt i1.pos >>= fun _ => foldedSetIterable i1 env x >>= fun x => holding [x] (pyIter x) >>= fun GF => runOwn (.compStart (two elt t0 i0 t1 i1 scope pos) 1 GF acc env) env >>= fun _ =>
     again (.compLoop (two elt t0 i0 t1 i1 scope pos) 0 it acc env)) := by rfl
theorem M6 (elt t0 i0 t1 i1 : PySem.Expr) (scope : Scope) (pos : Pos) (it acc : Value) (env : Env) :
  compTurn (two elt t0 i0 t1 i1 scope pos) 1 it acc env = (standAt i1.pos >>= fun _ => pyNext it >>= fun r => match r with
   | none => pure (.done .next)
   | some v => letOwnedTupleGo t1 it v >>= fun _ => assign t1 env v >>= fun _ =>
    (eval elt env >>= fun x => call (.builtin "list.append") [acc,x] >>= fun _ => pure ()) >>= fun _ =>
     again (.compLoop (two elt t0 i0 t1 i1 scope pos) 1 it acc env)) := by rfl
theorem Ce {elt t0 i0 t1 i1 : PySem.Expr} {scope : Scope} {pos : Pos} {it acc : Value} {env : Env} {k : Nat} (hk : k < 2)
  (h0 : codeAny (model prog w) A (.compLoop (two elt t0 i0 t1 i1 scope pos) k it acc env) R s)
  (h : wpAny (model prog w) A (pyIter it) (fun it' s' => codeAny (model prog w) A (.compLoop (two elt t0 i0 t1 i1 scope pos) k it' acc env) R s') (notedBy (model prog w) A env fun x s' => R (.error x) s') s) :
  codeAny (model prog w) A (.compStart (two elt t0 i0 t1 i1 scope pos) k it acc env) R s := by
 refine codeAny_of_tree ?_
 show wpAny _ _ ((compStart (two elt t0 i0 t1 i1 scope pos) k it acc env).onRaise (fun x => do noteFrame x env; standAt theWindowsPlace)) _ _ s
 refine wpAny_notedAt ?_
 unfold compStart
 have hk' : k = 0 \/ k = 1 := by lia
 rcases hk' with rfl | rfl
 all_goals
  show wpAny _ _ (ask >>= _) _ _ s
  refine wpAny_bind (wpAny_askSetting (wpAny_ite ?_))
  split
  ·first
    | exact wpAny_bind (wpAny_pure (wpAny_pure (And.intro rfl h0)))
    | exact wpAny_pure (And.intro rfl h0)
  ·first
    | exact wpAny_bind (wpAny_rule (wpAny_bind (wpAny_standAt (wpAny_bind (wpAny_mono h (fun it' s' h' => wpAny_pure (And.intro rfl h')) fun _ _ x => x)))))
    | exact wpAny_rule (wpAny_bind (wpAny_standAt (wpAny_bind (wpAny_mono h (fun it' s' h' => wpAny_pure (And.intro rfl h')) fun _ _ x => x))))
    | exact wpAny_bind (wpAny_rule (wpAny_standAt (wpAny_bind (wpAny_mono h (fun it' s' h' => wpAny_pure (And.intro rfl h')) fun _ _ x => x))))
theorem abY {elt t0 i0 i1 : PySem.Expr} {x : PySem.Str} {px : Pos} {scope : Scope} {pos : Pos} {it acc : Value} {env : Env} (I : Nat -> Shared -> Prop)
  (turn : ∀ n s,I n s -> wpAny (model prog w) A (pyNext it) (fun r s₁ => match r with
   | none => R (.ok .next) s₁
   | some v => wpAny (model prog w) A (assign (.Name x px) env v) (fun _ s₂ => wpAny (model prog w) A (eval elt env) (fun y s₃ =>
     wpAny (model prog w) A (call (.builtin "list.append") [acc,y]) (fun _ s₄ => ∃ m,m < n /\ I m s₄) (fun _ _ => False) s₃) (fun _ _ => False) s₂) (fun _ _ => False) s₁) (fun _ _ => False) s)
  (n : Nat) (h : I n s) : codeAny (model prog w) A (.compLoop (two elt t0 i0 (.Name x px) i1 scope pos) 1 it acc env) R s := by
 refine codeAny_loop rfl I (fun n s hI => ?_) n h
 show wpAny _ A ((compTurn (two elt t0 i0 (.Name x px) i1 scope pos) 1 it acc env).onRaise (fun x => do noteFrame x env; theTreesLotGoes x)) _ _ s
 refine wpAny_noted ?_
 rw [M6]
 refine wpAny_bind (wpAny_standAt (wpAny_bind (wpAny_mono (turn n s hI) (fun r s₁ h₁ => ?_) fun _ _ h' => h'.elim)))
 cases r with
 | none => exact wpAny_pure h₁
 | some v =>
  refine wpAny_bind (wpAny_of_eq (a := ()) rfl ?_)
  refine wpAny_bind (wpAny_mono h₁ (fun _ s₂ h₂ => ?_) fun _ _ h' => h'.elim)
  exact wpAny_bind (wpAny_bind (wpAny_mono h₂ (fun x s₄ h₄ => wpAny_bind (wpAny_mono h₄ (fun _ s₅ h₅ => wpAny_pure (wpAny_pure ⟨rfl,h₅⟩)) fun _ _ h' => h'.elim)) fun _ _ h' => h'.elim))
theorem abZ {elt i0 t1 i1 : PySem.Expr} {x : PySem.Str} {px : Pos} {scope : Scope} {pos : Pos} {it acc : Value} {env : Env} (I : Nat -> Shared -> Prop) (hs : ∀ x,foldedSetIterable i1 env x = pure x)
  (turn : ∀ n s,I n s -> wpAny (model prog w) A (pyNext it) (fun r s₁ => match r with
   | none => R (.ok .next) s₁
   | some v => wpAny (model prog w) A (assign (.Name x px) env v) (fun _ s₂ => wpAny (model prog w) A (eval i1 env) (fun y s₃ =>
     wpAny (model prog w) A (pyIter y) (fun GF s₄ => codeAny (model prog w) A (.compStart (two elt (.Name x px) i0 t1 i1 scope pos) 1 GF acc env) (fun r s₅ => match r with | .ok _ => ∃ m,m < n /\ I m s₅ | .error _ => False) s₄) (fun _ _ => False) s₃) (fun _ _ => False) s₂) (fun _ _ => False) s₁) (fun _ _ => False) s)
  (n : Nat) (h : I n s) : codeAny (model prog w) A (.compLoop (two elt (.Name x px) i0 t1 i1 scope pos) 0 it acc env) R s := by
 refine codeAny_loop rfl I (fun n s hI => ?_) n h
 show wpAny _ A ((compTurn (two elt (.Name x px) i0 t1 i1 scope pos) 0 it acc env).onRaise (fun x => do noteFrame x env; theTreesLotGoes x)) _ _ s
 refine wpAny_noted ?_
 rw [M7]
 refine wpAny_bind (wpAny_standAt (wpAny_bind (wpAny_mono (turn n s hI) (fun r s₁ h₁ => ?_) fun _ _ h' => h'.elim)))
 cases r with
 | none => exact wpAny_pure h₁
 | some v =>
  refine wpAny_bind (wpAny_of_eq (a := ()) rfl ?_)
  refine wpAny_bind (wpAny_mono h₁ (fun _ s₂ h₂ => ?_) fun _ _ h' => h'.elim)
  refine wpAny_bind (wpAny_mono h₂ (fun y s₃ h₃ => wpAny_bind (wpAny_standAt (wpAny_bind (wpAny_of_eq (hs y) (wpAny_bind (wpAny_holding (wpAny_mono h₃ (fun GF s₄ h₄ => wpAny_bind ?_) fun _ _ h' => h'.elim))))))) fun _ _ h' => h'.elim)
  refine wpAny_runOwn (codeAny_mono h₄ fun r s₅ h₅ => ?_)
  cases r with
  | ok f => exact wpAny_pure ⟨rfl,h₅⟩
  | error e => exact h₅.elim
end
section
variable {prog : Program} {w : World} {C : bK} {d : Nat} {aQ : Nat -> Addr} {G : Addr} {TT : Heap -> Prop} {cx : Cx} {scope : Scope}
noncomputable def V8 (C : bK) (ls : Ls) (cR : ME) (D : Nat) (x y : Val) (h3 : Mine.H) : Res Unit := (aL C (ls ++ [some x,some y]) cR h3).bind fun z h4 => nD D z h4
noncomputable def wZ (C : bK) (ls : Ls) (m2 cR : ME) (D : Nat) (x : Val) (h1 : Mine.H) : Res Unit := (aL C (ls ++ [some x,none]) m2 h1).bind fun w h2 => match lY w with
 | some kJ => cH kJ (V8 C ls cR D x) FUEL 0 h2
 | none => .bad
theorem St.forget {ρ : List Addr} {ls : Ls} {o o2 : Option Val} {H : List Cell} {s : Shared} (st : St prog w cx ρ (ls ++ [o,o2]) H s) : St prog w cx ρ (ls ++ [o,none]) H s where
 stay := st.stay
 low := st.low
 hr := st.hr
 ff := st.ff
 Lb := st.Lb
 loc := st.loc
 lens := by have := st.lens; simp at this ⊢; exact this
 xU := by
  obtain ⟨m,hm,hs⟩ := st.xU
  refine ⟨m,hm,fun x v n h1 h2 => hs x v n ?_ h2⟩
  by_cases hx : x < ls.length + 1
  ·have e1 : (ls ++ [o,none])[x]? = (ls ++ [o])[x]? := by
    rw [show ls ++ [o,none] = (ls ++ [o]) ++ [none] by simp,List.getElem?_append_left (by simp; omega)]
   have e2 : (ls ++ [o,o2])[x]? = (ls ++ [o])[x]? := by
    rw [show ls ++ [o,o2] = (ls ++ [o]) ++ [o2] by simp,List.getElem?_append_left (by simp; omega)]
   rw [e2,<- e1]; exact h1
  ·rw [show ls ++ [o,none] = (ls ++ [o]) ++ [none] by simp,List.getElem?_append_right (by simp; omega)] at h1
   cases hq : (x - (ls ++ [o]).length) with
   | zero => rw [hq] at h1; cases h1
   | succ _ => rw [hq] at h1; exact cN h1
theorem jH.forget {K : Cx} {ρ₁ : List Addr} {s₁ : Shared} {it D : Addr} {src : Src} {d₁ i : Nat} {ρ : List Addr} {ls : Ls} {o o2 : Option Val} {H : List Cell} {s : Shared} (c : jH prog w K ρ₁ s₁ it src D d₁ i ρ (ls ++ [o,o2]) H s) : jH prog w K ρ₁ s₁ it src D d₁ i ρ (ls ++ [o,none]) H s := ⟨c.ext,c.st.forget,c.iter,c.nin,c.acc⟩
def CI0 (prog : Program) (w : World) (C : bK) (m2 cR : ME) (K : Cx) (ρ₁ : List Addr) (s₁ : Shared) (ls : Ls) (it : Addr) (src : Src) (D : Addr) (d₁ : Nat) (X : Mine.H -> Prop) (n : Nat) (s : Shared) : Prop := ∃ i ρ o o2 H,jH prog w K ρ₁ s₁ it src D d₁ i ρ (ls ++ [o,o2]) H s /\ PF X (cH src (wZ C ls m2 cR d₁) n i H)
def CI1 (prog : Program) (w : World) (C : bK) (cR : ME) (K : Cx) (ρ₁ : List Addr) (s₁ : Shared) (ls : Ls) (v : Val) (it : Addr) (src : Src) (i : Nat) (kI : Addr) (kJ : Src) (D : Addr) (d₁ : Nat) (X : Mine.H -> Prop) (n : Nat) (s : Shared) : Prop := ∃ j ρ o2 H,jH prog w K ρ₁ s₁ kI kJ D d₁ j ρ (ls ++ [some v,o2]) H s /\ cM s.heap ρ it src i /\ it ∉ ρ /\ PF X (cH kJ (V8 C ls cR d₁ v) n j H)
theorem CI0.zero {m2 cR : ME} {K : Cx} {ρ₁ : List Addr} {s₁ : Shared} {ls : Ls} {it : Addr} {src : Src} {D : Addr} {d₁ : Nat} {X : Mine.H -> Prop} {s : Shared} : ¬ CI0 prog w C m2 cR K ρ₁ s₁ ls it src D d₁ X 0 s := by
 rintro ⟨_,_,_,_,_,_,h⟩; exact h
theorem CI1.zero {cR : ME} {K : Cx} {ρ₁ : List Addr} {s₁ : Shared} {ls : Ls} {v : Val} {it kI : Addr} {src kJ : Src} {i : Nat} {D : Addr} {d₁ : Nat} {X : Mine.H -> Prop} {s : Shared} : ¬ CI1 prog w C cR K ρ₁ s₁ ls v it src i kI kJ D d₁ X 0 s := by
 rintro ⟨_,_,_,_,_,_,_,h⟩; exact h
theorem Yg {α : Type} (ls : List α) (o p v : α) : (ls ++ [o,p]).set ls.length v = ls ++ [v,p] := by simp
theorem Ye {α : Type} (ls : List α) (o p v : α) : (ls ++ [o,p]).set (ls.length + 1) v = ls ++ [o,v] := by simp
theorem Rw {A : Around} {J P0 : Shared -> Prop} {N : Value -> Shared -> Prop} {K : Cx} {ρ₁ : List Addr} {ls : Ls} {s₁ : Shared} {cR : ME} {y : PySem.Str} {py : Pos} {jg : PySem.Expr} {it kI D : Addr} {src kJ : Src} {d₁ n i : Nat} {v : Val} {X : Mine.H -> Prop} {s : Shared}
  (okK : bx prog w aQ G TT K) (f : Bo K s₁ it) (f2 : Bo K s₁ kI) (hne : it ≠ kI) (hA : rU K A d) (hE : ∀ v v2,aY prog w C d K (ls ++ [some v,some v2]) cR jg) (hz : K.nm[ls.length + 1]? = some (some y)) (hl : K.env.kindOf y = some .local)
  (hP : ∀ {ρ o2 H s},jH prog w K ρ₁ s₁ it src D d₁ i ρ (ls ++ [some v,o2]) H s -> X H -> P0 s) (hJ : ∀ {s},CI1 prog w C cR K ρ₁ s₁ ls v it src i kI kJ D d₁ X n s -> J s)
  (h : CI1 prog w C cR K ρ₁ s₁ ls v it src i kI kJ D d₁ X (n + 1) s) : wpAny (model prog w) A (pyNext (.ref kI)) (fun r s₁ => match r with
   | none => P0 s₁
   | some v => wpAny (model prog w) A (assign (.Name y py) K.env v) (fun _ s₂ => wpAny (model prog w) A (eval jg K.env) (fun y s₃ =>
     wpAny (model prog w) A (call (.builtin "list.append") [.ref D,y]) (fun _ s₄ => J s₄) N s₃) N s₂) N s₁) N s := by
 obtain ⟨j,ρ,o2,H,c,hy,hi,hf⟩ := h
 rcases tu hf with ⟨hn,hf⟩ | ⟨v2,H',hn,hstep,hf'⟩
 ·refine vd hA.handled c.st.hr c.iter c.nin hn fun h' hb => ?_
  obtain ⟨e',st',_⟩ := c.turn (k := s.toks) f2 hb
  exact hP ⟨e',st',hy.turn c.iter.there hne hi hb,hi,c.acc⟩ hf
 ·refine qT c.st.hr c.iter c.nin hn fun u' h' k hsb hx' hu => c.next f2 (z := ls.length + 1) (by rw [List.length_append]; exact Nat.lt_succ_self _) hz hl hsb hx' hu fun s2 c2 mv => ?_
  rw [Ye] at c2
  obtain ⟨z,H2,hz,hp⟩ := Res.rG hstep
  refine hE v v2 _ _ _ _ _ _ hA c2.st ?_
  rw [hz]
  intro uz ρ3 s3 e3 uQ hvz
  have c3 := c2.step e3 uQ
  have c1 : jH prog w K ρ₁ s₁ it src D d₁ i ρ _ H s2 := ⟨c2.ext,c2.st,mv it src i hne f.il hi hy,hi,c2.acc⟩
  have c1 := c1.step e3 uQ
  exact c3.push okK hA hvz hp fun ur ρ4 s4 e4 Xh => hJ ⟨j + 1,ρ4,some v2,H',c3.step e4 Xh,(c1.step e4 Xh).iter,(c1.step e4 Xh).nin,hf'⟩
theorem Lq {A : Around} {P0 : Shared -> Prop} {N : Value -> Shared -> Prop} {L : Value -> Shared -> Prop} {K : Cx} {ρ₁ : List Addr} {ls : Ls} {s₁ : Shared} {m2 cR : ME} {x : PySem.Str} {px : Pos} {e2 : PySem.Expr} {it D : Addr} {src : Src} {d₁ n : Nat} {X : Mine.H -> Prop} {s : Shared}
  (f : Bo K s₁ it) (hA : rU K A d) (hT : ∀ v,aY prog w C d K (ls ++ [some v,none]) m2 e2) (hz : K.nm[ls.length]? = some (some x)) (hl : K.env.kindOf x = some .local)
  (hP : ∀ {i ρ ls H s h'},jH prog w K ρ₁ s₁ it src D d₁ i ρ ls H s -> X H -> Heap.ExtBut it s.heap h' -> P0 { s with heap := h' })
  (hL : ∀ {v i kI kJ H' s},Bo K s₁ kI -> it ≠ kI -> jZ s.heap kI -> CI1 prog w C cR K ρ₁ s₁ ls v it src i kI kJ D d₁ (fun h => h = H') FUEL s -> PF X (cH src (wZ C ls m2 cR d₁) n i H') -> L (.ref kI) s)
  (h : CI0 prog w C m2 cR K ρ₁ s₁ ls it src D d₁ X (n + 1) s) : wpAny (model prog w) A (pyNext (.ref it)) (fun r s₁ => match r with
   | none => P0 s₁
   | some v => wpAny (model prog w) A (assign (.Name x px) K.env v) (fun _ s₂ => wpAny (model prog w) A (eval e2 K.env) (fun y s₃ => wpAny (model prog w) A (pyIter y) L N s₃) N s₂) N s₁) N s := by
 obtain ⟨i,ρ,o,o2,H,c,hf⟩ := h
 rcases tu hf with ⟨hn,hf⟩ | ⟨v',H',hn,hstep,hf'⟩
 ·exact vd hA.handled c.st.hr c.iter c.nin hn fun h' hb => hP c hf hb
 ·refine qT c.st.hr c.iter c.nin hn fun u' h' k hsb hx' hu => c.next f (z := ls.length) (by rw [List.length_append]; exact Nat.lt_add_of_pos_right (Nat.zero_lt_succ _)) hz hl hsb hx' hu fun s2 c2 _ => ?_
  rw [Yg] at c2
  have c2 := c2.forget
  obtain ⟨wv,H2,hb,hstep⟩ := Res.rG hstep
  refine hT v' _ _ _ _ _ _ hA c2.st ?_
  rw [hb]
  intro wu ρ3 s3 e3 uQ hwu
  have c3 := c2.step e3 uQ
  cases Q6 : lY wv with
  | none => rw [Q6] at hstep; exact rbo hstep
  | some kJ =>
   rw [Q6] at hstep
   have hs : PF (fun h => h = H') (cH kJ (V8 C ls cR d₁ v') FUEL 0 H2) := by rw [show cH kJ (V8 C ls cR d₁ v') FUEL 0 H2 = .ok () H' from hstep]; rfl
   refine yF uQ hwu Q6 (wQ hs) fun kI h5 hit2 hk5 hx5 Zx => ?_
   obtain ⟨q1,q2⟩ := cA c3.st hit2
   have c5 := c3.step (Ext.all (k := s3.toks) hk5) (uQ.all hk5)
   refine hL ⟨c3.ext.live _ hit2,q2,q1,f.nC,f.loc,f.kind⟩ (fun q => ?_) Zx ⟨0,ρ3,none,H2,⟨c5.ext,c5.st,hx5,gn uQ hit2,c5.acc⟩,c5.iter,c5.nin,hs⟩ hf'
   obtain ⟨o,ho,_⟩ := c3.iter.there
   rw [q,hit2] at ho; exact cN ho
theorem Hh {A : Around} {E : Value -> Shared -> Prop} {use : Option (Value -> Sem Unit)} {Q : Value -> Shared -> Prop} {ρ₁ : List Addr} {ls : Ls} {H₁ : List Cell} {s₁ : Shared} {m2 cR : ME} {x y : PySem.Str} {px py pos : Pos} {ei e2 jg : PySem.Expr} {cl : List (PySem.Str × Addr)} {v : Val} {u : Value} {src : Src} {X : Mine.H -> Prop}
  (ok : bx prog w aQ G TT cx) (loc : LocOk cx) (jh : lV cx scope [x,y]) (hcl : ∀ n,(n,NameKind.free) ∈ scope.names -> cl.lookup n = cx.env.cells.lookup n) (hA : rU cx A d)
  (hs2 : jR e2 = true) (hT : ∀ Ca v,cx.base.get? Ca = none -> aY prog w C d (kY cx scope [x,y] Ca cl) (ls ++ [some v,none]) m2 e2) (hE : ∀ Ca v v2,cx.base.get? Ca = none -> aY prog w C d (kY cx scope [x,y] Ca cl) (ls ++ [some v,some v2]) cR jg)
  (st : St prog w cx ρ₁ ls H₁ s₁) (hv : aC s₁.heap ρ₁ v u) (jf : lY v = some src) (hF : PF X (cH src (wZ C ls m2 cR H₁.length) FUEL 0 (H₁ ++ [.lst []])))
  (hX : HN prog w ρ₁ s₁ H₁.length X (compPost (model prog w) A E use Q)) :
  wpAny (model prog w) A (pyIter u) (fun it s₂ => wpAny (model prog w) A (newList []) (fun acc s₃ => wpAny (model prog w) A (newFunctionEnv scope cx.env.globals cl [] cx.env.qual none .none (some cx.env)) (fun cenv s₄ =>
   codeAny (model prog w) A (.compStart (two jg (.Name x px) ei (.Name y py) e2 scope pos) 0 it acc { cenv with scope := relabel scope cx.env }) (compPost (model prog w) A E use Q acc cenv.locals) s₄) E s₃) E s₂) E s₁ := by
 refine w6 (R := compPost (model prog w) A E use Q) ok loc jh hcl st hv jf (wQ hF) fun it Ca D s₄ f hself gC c₀ => ?_
 have hAC : rU (kY cx scope [x,y] Ca cl) A d := ⟨hA.frames,hA.handled,hA.depth⟩
 have loop : codeAny (model prog w) A (.compLoop (two jg (.Name x px) ei (.Name y py) e2 scope pos) 0 (.ref it) (.ref D) (kY cx scope [x,y] Ca cl).env) (compPost (model prog w) A E use Q (.ref D) Ca) s₄ := by
  refine abZ (CI0 prog w C m2 cR (kY cx scope [x,y] Ca cl) ρ₁ s₁ ls it src D H₁.length X) (jM hs2) (fun n s hI => ?_) FUEL ⟨0,_,none,none,_,c₀,hF⟩
  cases n with
  | zero => exact absurd hI CI0.zero
  | succ n =>
   refine Lq f hAC (fun v => hT Ca v gC) (qy (j := 0) st.lens rfl) (kY.qw (jh.loc x (.head _))) (fun c hf hb => c.done (A := A) f hX hf hb) (fun {v i kI kJ H' s} f2 hne Zy hI2 hf => ?_) hI
   have inner : codeAny (model prog w) A (.compLoop (two jg (.Name x px) ei (.Name y py) e2 scope pos) 1 (.ref kI) (.ref D) (kY cx scope [x,y] Ca cl).env) (fun r s₅ => match r with | .ok _ => ∃ m,m < n + 1 /\ CI0 prog w C m2 cR (kY cx scope [x,y] Ca cl) ρ₁ s₁ ls it src D H₁.length X m s₅ | .error _ => False) s := by
    refine abY (CI1 prog w C cR (kY cx scope [x,y] Ca cl) ρ₁ s₁ ls v it src i kI kJ D H₁.length (fun h => h = H')) (fun m s hI => ?_) FUEL hI2
    cases m with
    | zero => exact absurd hI CI1.zero
    | succ m => exact Rw (X := fun h => h = H') (kY.ok ok jh.kind) f f2 hne hAC (fun v v2 => hE Ca v v2 gC) (qy (j := 1) st.lens rfl) (kY.qw (jh.loc y (.tail _ (.head _)))) (fun c e => ⟨n,Nat.lt_succ_self n,i,_,_,_,_,c,(show _ = H' from e) ▸ hf⟩) (fun h => ⟨m,Nat.lt_succ_self m,h⟩) hI
   exact Ce (by decide) inner (vW Zy inner)
 exact Ce (by decide) loop (vW hself loop)
end
section
variable {prog : Program} {w : World} {C : bK} {d : Nat} {aQ : Nat -> Addr} {G : Addr} {TT : Heap -> Prop} {cx : Cx} {scope : Scope}
theorem O6 {ls : Ls} {mi m2 cR : ME} {x y : PySem.Str} {px py pos : Pos} {ei e2 jg : PySem.Expr} (ok : bx prog w aQ G TT cx) (loc : LocOk cx) (jh : lV cx scope [x,y]) (hcells : ∀ n,cx.env.kindOf n = some .cell -> ∃ a,cx.env.cells.lookup n = some a) (Q7 : jR ei = true) (hs2 : jR e2 = true) (h1 : aY prog w C d cx ls mi ei)
  (hT : ∀ Ca cl v,cx.base.get? Ca = none -> aY prog w C d (kY cx scope [x,y] Ca cl) (ls ++ [some v,none]) m2 e2) (hE : ∀ Ca cl v v2,cx.base.get? Ca = none -> aY prog w C d (kY cx scope [x,y] Ca cl) (ls ++ [some v,some v2]) cR jg) :
  aY prog w C d cx ls (.uE mi m2 cR) (two jg (.Name x px) ei (.Name y py) e2 scope pos) := fun A ρ H s Q E hA st hP => by
 rw [tB] at hP
 obtain ⟨cl,hclos,hcl⟩ := qI (scope := scope) (env := cx.env) fun y hy hf => hcells _ (jh.free y hy hf)
 rw [eval_ListComp]
 refine wpAny_comprehension_free (use := none) rfl (jM Q7) hclos jh.kind jh.names (h1 _ _ _ _ _ _ hA st ?_)
 cases hv : aL C ls mi H with
 | bad => rw [hv] at hP; exact hP.elim
 | exc H' => rw [hv] at hP; exact hP
 | ok v H1 =>
  rw [hv] at hP
  intro u ρ1 s1 e1 hr1 r1
  have st1 := st.step e1 hr1
  have bQ := Post.shift e1 hP
  dsimp only [Res.bind] at bQ
  cases jf : lY v with
  | none => rw [jf] at bQ; exact bQ.elim
  | some src =>
   rw [jf] at bQ
   have hP2 : Post prog w cx RV ρ1 s1 ((cH src (wZ C ls m2 cR H1.length) FUEL 0 (H1 ++ [.lst []])).ug.bind fun _ h' => .ok (.lst H1.length) h') Q E := bQ
   cases hf : cH src (wZ C ls m2 cR H1.length) FUEL 0 (H1 ++ [.lst []]) with
   | bad => rw [hf] at hP2; exact hP2.elim
   | exc _ => rw [hf] at hP2; exact hP2.elim
   | ok _ H' =>
    rw [hf] at hP2
    refine Hh (X := fun h => h = H') ok loc jh hcl hA hs2 (fun Ca v hb => hT Ca cl v hb) (fun Ca v v2 hb => hE Ca cl v v2 hb) st1 r1 jf (by rw [hf]; rfl) fun D Ca ρ' s' H'' m hX e hr hD hm hCρ Dm => ?_
    subst hX
    refine ⟨m,hm,fun h' hsb => ?_⟩
    obtain ⟨g1,g2,g3⟩ := DR st1 e hr hm hCρ Dm hsb
    exact hP2.ok g1 g2.hr (.lst hD)
end
noncomputable def wI (sc : Scope) (n : PySem.Str) : Bool := decide (sc.names.lookup n = some .globalImplicit) && !(n == ("__debug__" : PySem.Str))
noncomputable def mj (e : PySem.Expr) : Bool := !(e.ctorIdx == 5)
noncomputable def jO (scope sc : Scope) : Scope := { scope with names := scope.names.map fun (n,k) => if (k == .free && sc.kind == .function && sc.names.lookup n == some .cell) then (n,.cell) else (n,k) }
noncomputable def rF (sc scope : Scope) (xs : List PySem.Str) : Bool :=
 decide (scope.kind = .function) && xs.all (fun x => decide (scope.names.lookup x = some .local)) && scope.names.all (fun y => decide (y.2 = .local -> scope.names.lookup y.1 = some .local)) && scope.names.all (fun y => decide (y.2 ≠ .cell)) && scope.names.all (fun y => decide (y.2 = .free -> sc.names.lookup y.1 = some .cell)) && decide xs.Nodup
structure Ctx (prog : Program) (w : World) (aQ : Nat -> Addr) (G : Addr) (TT : Heap -> Prop) (t : Bool) (nm : List (Option PySem.Str)) (sc : Scope) (cx : Cx) : Prop where
 ok : bx prog w aQ G TT cx
 loc : LocOk cx
 nm : cx.nm = nm
 sc : cx.env.scope = sc
 cells : t = true -> ∀ n,cx.env.kindOf n = some .cell -> ∃ a,cx.env.cells.lookup n = some a
section
variable {prog : Program} {w : World} {C : bK} {d : Nat} {aQ : Nat -> Addr} {G : Addr} {TT : Heap -> Prop}
theorem iy {sc : Scope} {n : PySem.Str} {cx : Cx} (h : wI sc n = true) (hs : cx.env.scope = sc) : (n == ("__debug__" : PySem.Str)) = false /\ cx.env.kindOf n = some .globalImplicit := by
 unfold wI at h
 simp only [Bool.and_eq_true,decide_eq_true_eq,Bool.not_eq_true'] at h
 exact ⟨h.2,by unfold Env.kindOf; rw [hs]; exact h.1⟩
theorem qH {sc scope : Scope} {xs : List PySem.Str} {cx : Cx} (h : rF sc scope xs = true) (hs : cx.env.scope = sc) : lV cx scope xs := by
 unfold rF at h
 simp only [Bool.and_eq_true,List.all_eq_true,decide_eq_true_eq] at h
 obtain ⟨⟨⟨⟨⟨h1,h2⟩,h3⟩,h4⟩,h5⟩,h6⟩ := h
 exact ⟨h1,h2,h3,h4,fun y hy hf => by unfold Env.kindOf; rw [hs]; exact h5 y hy hf,h6⟩
theorem Ctx.inner {t : Bool} {nm : List (Option PySem.Str)} {sc scope : Scope} {xs : List PySem.Str} {cx : Cx} {ca : Addr} {cl : List (PySem.Str × Addr)} (x : Ctx prog w aQ G TT t nm sc cx) (jh : lV cx scope xs) (hn : cx.base.get? ca = none) : Ctx prog w aQ G TT false (eH scope nm xs) (jO scope sc) (kY cx scope xs ca cl) where
 ok := kY.ok x.ok jh.kind
 loc := kY.loc x.loc jh hn
 nm := by rw [<- x.nm]; rfl
 sc := by rw [<- x.sc]; rfl
 cells := fun h => nomatch h
def Both (prog : Program) (w : World) (C : bK) (d : Nat) (cx : Cx) (ls : Ls) (m : ME) (e : PySem.Expr) : Prop := aY prog w C d cx ls m e /\ (mj e = true -> jj prog w C d cx ls m e)
theorem bf {cx : Cx} {ls : Ls} {m : ME} {e : PySem.Expr} (hm : FZ m = true) (he : N7 e = true) (h : aY prog w C d cx ls m e) : Both prog w C d cx ls m e := ⟨h,fun _ => Oi hm he h⟩
end
set_option genCtorIdx false in
inductive Ck (p : Prop) : Type where
 | yes (h : p)
 | no
noncomputable def Ck.ctorIdx {p : Prop} (x : Ck p) : Nat := x.casesOn (fun _ => 0) 1
noncomputable def Ck.ok {p : Prop} : Ck p -> Bool
 | .yes _ => true
 | .no => false
theorem Ck.get {p : Prop} : ∀ (c : Ck p),c.ok = true -> p
 | .yes h,_ => h
noncomputable def bw {p q : Prop} (c : Ck p) (k : p -> Ck q) : Ck q := match c with
 | .yes h => k h
 | .no => .no
noncomputable def dK (p : Prop) {q : Prop} [Decidable p] (k : p -> Ck q) : Ck q := if h : p then k h else .no
noncomputable def fQ (b : Bool) {q : Prop} (k : b = true -> Ck q) : Ck q := dK (b = true) k
theorem nb {b : Bool} (h : (!b) = true) : b = false := by cases b <;> first | rfl | cases h
noncomputable abbrev Bq := List (Option PySem.Str)
abbrev GE (t : Bool) (nm : Bq) (sc : Scope) (m : ME) (e : PySem.Expr) : Prop := ∀ {prog : Program} {w : World} {C : bK} {d : Nat} {aQ : Nat -> Addr} {G : Addr} {TT : Heap -> Prop} {cx : Cx} {ls : Ls},oR prog w C d aQ G TT -> Ctx prog w aQ G TT t nm sc cx -> Both prog w C d cx ls m e
abbrev GP (t : Bool) (nm : Bq) (sc : Scope) (m : ME) (e : Option PySem.Expr) : Prop := ∀ {prog : Program} {w : World} {C : bK} {d : Nat} {aQ : Nat -> Addr} {G : Addr} {TT : Heap -> Prop} {cx : Cx} {ls : Ls},oR prog w C d aQ G TT -> Ctx prog w aQ G TT t nm sc cx -> Sg prog w C d cx ls m e
abbrev GL (t : Bool) (nm : Bq) (sc : Scope) (m : gw) (e : List PySem.Expr) : Prop := ∀ {prog : Program} {w : World} {C : bK} {d : Nat} {aQ : Nat -> Addr} {G : Addr} {TT : Heap -> Prop} {cx : Cx} {ls : Ls},oR prog w C d aQ G TT -> Ctx prog w aQ G TT t nm sc cx -> yt prog w C d cx ls m e
abbrev GD (t : Bool) (nm : Bq) (sc : Scope) (m : gw) (ks : List (Option PySem.Expr)) (vs : List PySem.Expr) : Prop := ∀ {prog : Program} {w : World} {C : bK} {d : Nat} {aQ : Nat -> Addr} {G : Addr} {TT : Heap -> Prop} {cx : Cx} {ls : Ls},oR prog w C d aQ G TT -> Ctx prog w aQ G TT t nm sc cx -> Sq prog w C d cx ls m ks vs
theorem abQ {prog : Program} {w : World} {C : bK} {d : Nat} {cx : Cx} {ls : Ls} {i : Int} {e : PySem.Expr} : jj prog w C d cx ls (.neg i) e := fun A ρ H s Q E hA st hP => by
 rw [pG rfl,vB] at hP
 exact hP.elim
section
variable {P : PySem.Expr -> Type}
@[elab_as_elim] noncomputable def xName (no : ∀ e,P e) (yes : ∀ n p,P (.Name n p)) (e : PySem.Expr) : P e := by
 induction e using PySem.Expr.casesOn with
 | Name n p => exact yes n p
 | _ => exact no _
@[elab_as_elim] noncomputable def Mu (no : ∀ e,P e) (yes : ∀ l k p,P (.Tuple l k p)) (e : PySem.Expr) : P e := by
 induction e using PySem.Expr.casesOn with
 | Tuple l k p => exact yes l k p
 | _ => exact no _
@[elab_as_elim] noncomputable def Wt (no : ∀ e,P e) (yes : ∀ f l m p,P (.Call f l m p)) (e : PySem.Expr) : P e := by
 induction e using PySem.Expr.casesOn with
 | Call f l m p => exact yes f l m p
 | _ => exact no _
@[elab_as_elim] noncomputable def Wu (no : ∀ e,P e) (yes : ∀ a n p,P (.Attribute a n p)) (e : PySem.Expr) : P e := by
 induction e using PySem.Expr.casesOn with
 | Attribute a n p => exact yes a n p
 | _ => exact no _
@[elab_as_elim] noncomputable def aeF (no : ∀ e,P e) (yes : ∀ a b p,P (.Subscript a b p)) (e : PySem.Expr) : P e := by
 induction e using PySem.Expr.casesOn with
 | Subscript a b p => exact yes a b p
 | _ => exact no _
@[elab_as_elim] noncomputable def aeG (no : ∀ e,P e) (yes : ∀ a b c p,P (.Slice a b c p)) (e : PySem.Expr) : P e := by
 induction e using PySem.Expr.casesOn with
 | Slice a b c p => exact yes a b c p
 | _ => exact no _
@[elab_as_elim] noncomputable def aaZ (no : ∀ e,P e) (yes : ∀ a l s p,P (.ListComp a l s p)) (e : PySem.Expr) : P e := by
 induction e using PySem.Expr.casesOn with
 | ListComp a l s p => exact yes a l s p
 | _ => exact no _
@[elab_as_elim] noncomputable def aaY (no : ∀ e,P e) (yes : ∀ c k p,P (.Constant c k p)) (e : PySem.Expr) : P e := by
 induction e using PySem.Expr.casesOn with
 | Constant c k p => exact yes c k p
 | _ => exact no _
end
section
variable {P : ME -> Type}
@[elab_as_elim] noncomputable def W3 (no : ∀ e,P e) (yes : P .bY) (e : ME) : P e := by
 induction e using ME.casesOn with
 | bY => exact yes
 | _ => exact no _
@[elab_as_elim] noncomputable def abW (no : ∀ e,P e) (yes : ∀ b,P (.eZ b)) (e : ME) : P e := by
 induction e using ME.casesOn with
 | eZ b => exact yes b
 | _ => exact no _
@[elab_as_elim] noncomputable def afl (no : ∀ e,P e) (yes : ∀ i,P (.aq i)) (e : ME) : P e := by
 induction e using ME.casesOn with
 | aq i => exact yes i
 | _ => exact no _
@[elab_as_elim] noncomputable def mStr (no : ∀ e,P e) (yes : ∀ s,P (.tE s)) (e : ME) : P e := by
 induction e using ME.casesOn with
 | tE s => exact yes s
 | _ => exact no _
@[elab_as_elim] noncomputable def afn (no : ∀ e,P e) (yes : ∀ b,P (.aj b)) (e : ME) : P e := by
 induction e using ME.casesOn with
 | aj b => exact yes b
 | _ => exact no _
@[elab_as_elim] noncomputable def afb (no : ∀ e,P e) (yes : ∀ x,P (.var x)) (e : ME) : P e := by
 induction e using ME.casesOn with
 | var x => exact yes x
 | _ => exact no _
@[elab_as_elim] noncomputable def afe (no : ∀ e,P e) (yes : P .slash) (e : ME) : P e := by
 induction e using ME.casesOn with
 | slash => exact yes
 | _ => exact no _
@[elab_as_elim] noncomputable def afg (no : ∀ e,P e) (yes : P .posix) (e : ME) : P e := by
 induction e using ME.casesOn with
 | posix => exact yes
 | _ => exact no _
@[elab_as_elim] noncomputable def afo (no : ∀ e,P e) (yes : ∀ o a b,P (.bin o a b)) (e : ME) : P e := by
 induction e using ME.casesOn with
 | bin o a b => exact yes o a b
 | _ => exact no _
@[elab_as_elim] noncomputable def afm (no : ∀ e,P e) (yes : ∀ o a b,P (.cmp o a b)) (e : ME) : P e := by
 induction e using ME.casesOn with
 | cmp o a b => exact yes o a b
 | _ => exact no _
@[elab_as_elim] noncomputable def abV (no : ∀ e,P e) (yes : ∀ o q a b c,P (.ji o q a b c)) (e : ME) : P e := by
 induction e using ME.casesOn with
 | ji o q a b c => exact yes o q a b c
 | _ => exact no _
@[elab_as_elim] noncomputable def afp (no : ∀ e,P e) (yes : ∀ a b,P (.and a b)) (e : ME) : P e := by
 induction e using ME.casesOn with
 | and a b => exact yes a b
 | _ => exact no _
@[elab_as_elim] noncomputable def mOr (no : ∀ e,P e) (yes : ∀ a b,P (.or a b)) (e : ME) : P e := by
 induction e using ME.casesOn with
 | or a b => exact yes a b
 | _ => exact no _
@[elab_as_elim] noncomputable def afh (no : ∀ e,P e) (yes : ∀ a,P (.not a)) (e : ME) : P e := by
 induction e using ME.casesOn with
 | not a => exact yes a
 | _ => exact no _
@[elab_as_elim] noncomputable def afi (no : ∀ e,P e) (yes : ∀ i,P (.neg i)) (e : ME) : P e := by
 induction e using ME.casesOn with
 | neg i => exact yes i
 | _ => exact no _
@[elab_as_elim] noncomputable def afk (no : ∀ e,P e) (yes : ∀ t a b,P (.ite t a b)) (e : ME) : P e := by
 induction e using ME.casesOn with
 | ite t a b => exact yes t a b
 | _ => exact no _
@[elab_as_elim] noncomputable def mIdx (no : ∀ e,P e) (yes : ∀ a b,P (.idx a b)) (e : ME) : P e := by
 induction e using ME.casesOn with
 | idx a b => exact yes a b
 | _ => exact no _
@[elab_as_elim] noncomputable def afd (no : ∀ e,P e) (yes : ∀ a b c,P (.slc a b c)) (e : ME) : P e := by
 induction e using ME.casesOn with
 | slc a b c => exact yes a b c
 | _ => exact no _
@[elab_as_elim] noncomputable def abX (no : ∀ e,P e) (yes : ∀ a k,P (.attr a k)) (e : ME) : P e := by
 induction e using ME.casesOn with
 | attr a k => exact yes a k
 | _ => exact no _
@[elab_as_elim] noncomputable def afc (no : ∀ e,P e) (yes : ∀ l,P (.tup l)) (e : ME) : P e := by
 induction e using ME.casesOn with
 | tup l => exact yes l
 | _ => exact no _
@[elab_as_elim] noncomputable def afj (no : ∀ e,P e) (yes : ∀ l,P (.lst l)) (e : ME) : P e := by
 induction e using ME.casesOn with
 | lst l => exact yes l
 | _ => exact no _
@[elab_as_elim] noncomputable def abU (no : ∀ e,P e) (yes : ∀ l,P (.dict l)) (e : ME) : P e := by
 induction e using ME.casesOn with
 | dict l => exact yes l
 | _ => exact no _
@[elab_as_elim] noncomputable def mCf (no : ∀ e,P e) (yes : ∀ f l,P (.cI f l)) (e : ME) : P e := by
 induction e using ME.casesOn with
 | cI f l => exact yes f l
 | _ => exact no _
@[elab_as_elim] noncomputable def mCc (no : ∀ e,P e) (yes : ∀ c l,P (.oM c l)) (e : ME) : P e := by
 induction e using ME.casesOn with
 | oM c l => exact yes c l
 | _ => exact no _
@[elab_as_elim] noncomputable def mCb (no : ∀ e,P e) (yes : ∀ b l,P (.cg b l)) (e : ME) : P e := by
 induction e using ME.casesOn with
 | cg b l => exact yes b l
 | _ => exact no _
@[elab_as_elim] noncomputable def abT (no : ∀ e,P e) (yes : ∀ a m l,P (.meth a m l)) (e : ME) : P e := by
 induction e using ME.casesOn with
 | meth a m l => exact yes a m l
 | _ => exact no _
@[elab_as_elim] noncomputable def W4 (no : ∀ e,P e) (yes : ∀ a t b c,P (.comp a t b c)) (e : ME) : P e := by
 induction e using ME.casesOn with
 | comp a t b c => exact yes a t b c
 | _ => exact no _
@[elab_as_elim] noncomputable def YS (no : ∀ e,P e) (yes : ∀ a b c,P (.uE a b c)) (e : ME) : P e := by
 induction e using ME.casesOn with
 | uE a b c => exact yes a b c
 | _ => exact no _
end
section
variable {α : Type} {P : List α -> Type}
@[elab_as_elim] noncomputable def l0 (no : ∀ l,P l) (yes : P []) (l : List α) : P l := by
 induction l using List.casesOn with
 | nil => exact yes
 | _ => exact no _
@[elab_as_elim] noncomputable def lc (no : P []) (yes : ∀ a l,P (a :: l)) (l : List α) : P l := by
 induction l using List.casesOn with
 | nil => exact no
 | cons a l => exact yes a l
@[elab_as_elim] noncomputable def l1 (no : ∀ l,P l) (yes : ∀ a,P [a]) (l : List α) : P l := lc (no _) (fun a l => l0 (P := fun l => P (a :: l)) (fun _ => no _) (yes a) l) l
@[elab_as_elim] noncomputable def l2 (no : ∀ l,P l) (yes : ∀ a b,P [a,b]) (l : List α) : P l := lc (no _) (fun a l => l1 (P := fun l => P (a :: l)) (fun _ => no _) (fun b => yes a b) l) l
end
@[elab_as_elim] noncomputable def gMk {P : Comprehension -> Type} (yes : ∀ a b c d,P ⟨a,b,c,d⟩) (g : Comprehension) : P g := g.casesOn yes
@[elab_as_elim] noncomputable def oNo {α : Type} {P : Option α -> Type} (no : ∀ o,P o) (yes : P none) (o : Option α) : P o := by
 induction o using Option.casesOn with
 | none => exact yes
 | _ => exact no _
@[elab_as_elim] noncomputable def oSo {α : Type} {P : Option α -> Type} (no : ∀ o,P o) (yes : ∀ a,P (some a)) (o : Option α) : P o := by
 induction o using Option.casesOn with
 | some a => exact yes a
 | _ => exact no _
section
variable (self : (m : ME) -> (t : Bool) -> (nm : Bq) -> (sc : Scope) -> (e : PySem.Expr) -> Ck (GE t nm sc m e)) (t : Bool) (nm : Bq) (sc : Scope)
noncomputable def cP (m : ME) (e : Option PySem.Expr) : Ck (GP t nm sc m e) := by
 induction e using Option.casesOn with
 | none => exact W3 (fun _ => .no) (.yes fun _ _ => Uy) m
 | some e => exact bw (self m t nm sc e) fun h => .yes fun hC x => Ux (h hC x).1
noncomputable def cL (es : List PySem.Expr) : (ms : gw) -> Ck (GL t nm sc ms es) := by
 induction es with
 | nil =>
  intro ms
  induction ms using gw.casesOn with
  | nil => exact .yes fun _ _ => Yv
  | cons _ _ => exact .no
 | cons e es ih =>
  intro ms
  induction ms using gw.casesOn with
  | nil => exact .no
  | cons m ms => exact fQ (aP e) fun h1 => bw (self m t nm sc e) fun h2 => bw (ih ms) fun h3 => .yes fun hC x => Uz h1 (h2 hC x).1 (h3 hC x)
noncomputable def cD (ks : List (Option PySem.Expr)) : (vs : List PySem.Expr) -> (ms : gw) -> Ck (GD t nm sc ms ks vs) := by
 induction ks with
 | nil =>
  intro vs ms
  refine l0 (fun _ => .no) ?_ vs
  induction ms using gw.casesOn with
  | nil => exact .yes fun _ _ => UW
  | cons _ _ => exact .no
 | cons k ks ih =>
  intro vs ms
  refine oSo (fun _ => .no) (fun k => lc .no (fun v vs => ?_) vs) k
  induction ms using gw.casesOn with
  | nil => exact .no
  | cons mk ms => induction ms using gw.casesOn with
   | nil => exact .no
   | cons mv ms => exact bw (self mk t nm sc k) fun h1 => bw (self mv t nm sc v) fun h2 => bw (ih vs ms) fun h3 => .yes fun hC x => OD (h1 hC x).1 (h2 hC x).1 (h3 hC x)
noncomputable def adI (m : ME) (n : PySem.Str) (np : Pos) (as : List PySem.Expr) (p : Pos) : Ck (GE t nm sc m (.Call (.Name n np) as [] p)) :=
 mCf (fun m => mCc (fun m => mCb (fun _ => .no) (fun b es => dK (n = uG b) fun q => fQ (wI sc n) fun h2 => fQ (aX as) fun h3 => bw (cL self t nm sc as es) fun h4 => .yes fun hC x => by
    subst q; exact bf rfl rfl (O9 x.ok (iy h2 x.sc).1 (iy h2 x.sc).2 h3 (h4 hC x))) m)
  (fun c es => lc .no (fun a as => dK (n = DW c) fun q => fQ (wI sc n) fun h2 => fQ (aX (a :: as)) fun h3 => bw (cL self t nm sc (a :: as) es) fun h4 => .yes fun hC x => by
    subst q; exact bf rfl rfl (O8 x.ok hC (iy h2 x.sc).1 (iy h2 x.sc).2 h3 (h4 hC x))) as) m)
  (fun f es => dK (n = fNm f) fun q => fQ (Dz f) fun h1 => fQ (wI sc n) fun h2 => fQ (aX as) fun h3 => bw (cL self t nm sc as es) fun h4 => .yes fun hC x => by
    subst q; exact bf rfl rfl (O7 x.ok hC h1 (iy h2 x.sc).1 (iy h2 x.sc).2 h3 (h4 hC x))) m
noncomputable def adA (m : ME) (o : PySem.Expr) (n : PySem.Str) (ap : Pos) (as : List PySem.Expr) (p : Pos) : Ck (GE t nm sc m (.Call (.Attribute o n ap) as [] p)) :=
 abT (fun _ => .no) (fun a m es => dK (n = qY m) fun q => fQ (tH o) fun h1 => dK (as.length < 30) fun h2 => fQ (aX as) fun h3 => fQ (ap.endLine == p.line) fun h4 => bw (self a t nm sc o) fun h5 => bw (cL self t nm sc as es) fun h6 => .yes fun hC x => by
    subst q; exact bf rfl rfl (U3 x.ok hC h1 h2 h3 h4 (h5 hC x).1 (h6 hC x))) m
noncomputable def adH (m : ME) (ee : PySem.Expr) (gs : List Comprehension) (scope : Scope) (p : Pos) : Ck (GE t nm sc m (.ListComp ee gs scope p)) :=
 W4 (fun m => YS (fun _ => .no) (fun GF kI elt => l2 (fun _ => .no) (fun g g' => gMk (fun a ei c d => xName (fun _ => .no) (fun z _ => l0 (fun _ => .no) (gMk (fun a' e2 c' d' => xName (fun _ => .no) (fun y _ => l0 (fun _ => .no) (
    dK (d = 0) fun q1 => dK (d' = 0) fun q2 => dK (t = true) fun ht => fQ (rF sc scope [z,y]) fun h1 => fQ (jR ei) fun h2 => fQ (jR e2) fun h2' => bw (self GF t nm sc ei) fun h3 =>
    bw (self kI false (eH scope nm [z,y]) (jO scope sc) e2) fun h4 => bw (self elt false (eH scope nm [z,y]) (jO scope sc) ee) fun h5 => .yes fun hC x => by
    subst q1 q2
    have jh := qH h1 x.sc
    exact bf rfl rfl (O6 x.ok x.loc jh (x.cells ht) h2 h2' (h3 hC x).1 (fun Ca cl v hb => (h4 hC (x.inner jh hb)).1) fun Ca cl v v2 hb => (h5 hC (x.inner jh hb)).1)) c') a') g') c) a) g) gs) m)
  (fun it HX c elt => l1 (fun _ => .no) (fun g => gMk (fun a ei cs d => xName (fun _ => .no) (fun z _ => l1 (fun _ => .no) (fun ec => dK (d = 0) fun q => dK (t = true) fun ht => dK (HX = true) fun hs => fQ (rF sc scope [z]) fun h1 => fQ (jR ei) fun h2 => fQ (mj ec) fun n1 => bw (self it t nm sc ei) fun h3 =>
    bw (self c false (eH scope nm [z]) (jO scope sc) ec) fun h4 => bw (self elt false (eH scope nm [z]) (jO scope sc) ee) fun h5 => .yes fun hC x => by
    subst q hs
    have jh := qH h1 x.sc
    exact bf rfl rfl (U5 x.ok x.loc jh (x.cells ht) h2 (h3 hC x).1 (fun Ca cl v hb => (h4 hC (x.inner jh hb)).2 n1) fun Ca cl v hb => (h5 hC (x.inner jh hb)).1)) cs) a) g) gs) m
noncomputable def agy (m : ME) (c : Const) (k : Nat) (p : Pos) : Ck (GE t nm sc m (.Constant c k p)) := by
 induction c using Const.casesOn with
 | none => exact W3 (fun _ => .no) (.yes fun _ _ => bf rfl rfl U0) m
 | bool c => exact abW (fun _ => .no) (fun b => dK (c = b) fun q => .yes fun _ _ => by subst q; exact bf rfl rfl U8) m
 | int j => exact afl (fun _ => .no) (fun i => dK (j = i) fun q => .yes fun _ _ => by subst q; exact bf rfl rfl YG) m
 | str x => exact mStr (fun _ => .no) (fun s => dK (x = PySem.Str.ofString s) fun q => .yes fun _ _ => by subst q; exact bf rfl rfl Yy) m
 | bytes x => exact afn (fun _ => .no) (fun b => dK (x = b) fun q => .yes fun _ _ => by subst q; exact bf rfl rfl Pa) m
 | _ => exact .no
noncomputable def agx (m : ME) (n : PySem.Str) (p : Pos) : Ck (GE t nm sc m (.Name n p)) :=
 afb (fun m => afe (fun m => afg (fun _ => .no) (dK (n = "_POSIX_CLASSES") fun q => fQ (wI sc n) fun g => .yes fun _ x => by subst q; exact bf rfl rfl (O4 x.ok (iy g x.sc).2)) m)
   (dK (n = "_SLASH") fun q => fQ (wI sc n) fun g => .yes fun _ x => by subst q; exact bf rfl rfl (OJ x.ok (iy g x.sc).2)) m)
  (fun y => dK (nm[y]? = some (some n)) fun q => fQ (!(n == ("__debug__" : PySem.Str))) fun g => .yes fun _ x => bf rfl rfl (Yw x.ok (nb g) (by rw [x.nm]; exact q))) m
noncomputable def agB (m : ME) (o : BoolOp) (es : List PySem.Expr) (p : Pos) : Ck (GE t nm sc m (.BoolOp o es p)) := by
 induction o using BoolOp.casesOn with
 | And => exact afp (fun _ => .no) (fun a b => lc .no (fun e1 l => lc .no (fun e2 l => lc
   (fQ (mj e1) fun n1 => fQ (mj e2) fun n2 => bw (self a t nm sc e1) fun h1 => bw (self b t nm sc e2) fun h2 => .yes fun hC x => ⟨Pb (h1 hC x).1 (O5 (h2 hC x).1),fun _ => Ol ((h1 hC x).2 n1) (Gh ((h2 hC x).2 n2))⟩)
   (fun e3 r => fQ (mj e1) fun n1 => bw (self a t nm sc e1) fun h1 => bw (self b t nm sc (.BoolOp .And (e2 :: e3 :: r) p)) fun h2 => .yes fun hC x => ⟨Pb (h1 hC x).1 (h2 hC x).1,fun _ => Ol ((h1 hC x).2 n1) ((h2 hC x).2 rfl)⟩) l) l) es) m
 | Or => exact mOr (fun _ => .no) (fun a b => lc .no (fun e1 l => lc .no (fun e2 l => lc
   (fQ (mj e1) fun n1 => fQ (mj e2) fun n2 => bw (self a t nm sc e1) fun h1 => bw (self b t nm sc e2) fun h2 => .yes fun hC x => ⟨W0 (h1 hC x).1 (O5 (h2 hC x).1),fun _ => WX ((h1 hC x).2 n1) (Kw ((h2 hC x).2 n2))⟩)
   (fun e3 r => fQ (mj e1) fun n1 => bw (self a t nm sc e1) fun h1 => bw (self b t nm sc (.BoolOp .Or (e2 :: e3 :: r) p)) fun h2 => .yes fun hC x => ⟨W0 (h1 hC x).1 (h2 hC x).1,fun _ => WX ((h1 hC x).2 n1) ((h2 hC x).2 rfl)⟩) l) l) es) m
noncomputable def agz (m : ME) (l : PySem.Expr) (os : List CmpOp) (rs : List PySem.Expr) (p : Pos) : Ck (GE t nm sc m (.Compare l os rs p)) :=
 afm (fun m => abV (fun _ => .no) (fun o1 o2 a b c => l2 (fun _ => .no) (fun p1 p2 => l2 (fun _ => .no) (fun r1 r2 => dK (p1 = jo o1) fun q1 => dK (p2 = jo o2) fun q2 => fQ (!lastMarks [p1,p2] [r1,r2]) fun h0 => bw (self a t nm sc l) fun h1 => bw (self b t nm sc r1) fun h2 => bw (self c t nm sc r2) fun h3 => .yes fun hC x => by
    subst q1 q2; exact ⟨U7 x.ok (nb h0) (h1 hC x).1 (h2 hC x).1 (h3 hC x).1,fun _ => Oj x.ok (nb h0) (h1 hC x).1 (h2 hC x).1 (h3 hC x).1⟩) rs) os) m)
  (fun op a b => l1 (fun _ => .no) (fun o => l1 (fun _ => .no) (fun r => dK (o = jo op) fun q => fQ (!behindInMarks o r) fun h0 => bw (self a t nm sc l) fun h1 => bw (self b t nm sc r) fun h2 => .yes fun hC x => by subst q; exact ⟨YJ x.ok (nb h0) (h1 hC x).1 (h2 hC x).1,fun _ => U6 x.ok (nb h0) (h1 hC x).1 (h2 hC x).1⟩) rs) os) m
noncomputable def agt (m : ME) (l r : PySem.Expr) (p : Pos) : Ck (GE t nm sc m (.Subscript l r p)) :=
 mIdx (fun m => afd (fun _ => .no) (fun a lo hi => aeG (fun _ => .no) (fun el eh st _ => oNo (fun _ => .no) (fQ (isNm l) fun n1 => bw (self a t nm sc l) fun h1 => bw (cP self t nm sc lo el) fun h2 => bw (cP self t nm sc hi eh) fun h3 => .yes fun hC x => bf rfl rfl (Yz n1 (h1 hC x).1 (h2 hC x) (h3 hC x))) st) r) m)
  (fun a b => fQ (Aa r) fun n1 => bw (self a t nm sc l) fun h1 => bw (self b t nm sc r) fun h2 => .yes fun hC x => bf rfl rfl (YH x.ok n1 (h1 hC x).1 (h2 hC x).1)) m
noncomputable def ags (m : ME) (o : UnaryOp) (y : PySem.Expr) (p : Pos) : Ck (GE t nm sc m (.UnaryOp o y p)) := by
 induction o using UnaryOp.casesOn with
 | Not => exact afh (fun _ => .no) (fun a => fQ (mj y) fun n1 => bw (self a t nm sc y) fun h1 => .yes fun hC x => ⟨YB (h1 hC x).1,fun _ => Yp ((h1 hC x).2 n1)⟩) m
 | USub =>
  refine afi (fun _ => .no) (fun i => aaY (fun _ => .no) (fun c k p => ?_) y) m
  induction c using Const.casesOn with
  | int j => exact dK (j = i) fun q => .yes fun _ _ => by subst q; exact ⟨YC,fun _ => abQ⟩
  | _ => exact .no
 | _ => exact .no
noncomputable def cEs (m : ME) (e : PySem.Expr) : Ck (GE t nm sc m e) := by
 induction e using PySem.Expr.casesOn with
 | Constant c k p => exact agy t nm sc m c k p
 | Name n p => exact agx t nm sc m n p
 | BinOp l o r p => exact afo (fun _ => .no) (fun op a b => dK (o = yH op) fun q => bw (self a t nm sc l) fun h1 => bw (self b t nm sc r) fun h2 => .yes fun hC x => by subst q; exact bf rfl rfl (YK (h1 hC x).1 (h2 hC x).1)) m
 | Compare l os rs p => exact agz self t nm sc m l os rs p
 | BoolOp o es p => exact agB self t nm sc m o es p
 | UnaryOp o y p => exact ags self t nm sc m o y p
 | IfExp ec ea eb p => exact afk (fun _ => .no) (fun c a b => fQ (mj ec) fun n1 => bw (self c t nm sc ec) fun h1 => bw (self a t nm sc ea) fun h2 => bw (self b t nm sc eb) fun h3 => .yes fun hC x => ⟨YF ((h1 hC x).2 n1) (h2 hC x).1 (h3 hC x).1,fun q => nomatch q⟩) m
 | Subscript l r p => exact agt self t nm sc m l r p
 | Attribute l n p => exact abX (fun _ => .no) (fun a k => fQ (isNm l) fun n1 => dK (k <= 8) fun n2 => dK (n = eE k) fun q => bw (self a t nm sc l) fun h1 => .yes fun hC x => by subst q; exact bf rfl rfl (U9 x.ok n1 n2 (h1 hC x).1)) m
 | Tuple xs k p => exact afc (fun _ => .no) (fun es => bw (cL self t nm sc xs es) fun h => .yes fun hC x => bf rfl rfl (Yx (h hC x))) m
 | List xs p => exact afj (fun _ => .no) (fun es => bw (cL self t nm sc xs es) fun h => .yes fun hC x => bf rfl rfl (YD (h hC x))) m
 | Dict ks vs p => exact abU (fun _ => .no) (fun es => fQ (ks.all (·.isSome)) fun h1 => dK (ks.length = vs.length) fun h2 => fQ (!ks.isEmpty) fun h3 => dK (ks.length <= 15) fun h4 => bw (cD self t nm sc ks vs es) fun h5 => .yes fun hC x => bf rfl rfl (U4 h1 h2 (fun q => by rw [q] at h3; exact qD h3) h4 (h5 hC x))) m
 | Call f as kw p => exact l0 (fun _ => .no) (xName (fun f => Wu (fun _ => .no) (fun o n ap => adA self t nm sc m o n ap as p) f) (fun n np => adI self t nm sc m n np as p) f) kw
 | ListComp ee gs scope p => exact adH self t nm sc m ee gs scope p
 | _ => exact .no
end
noncomputable def cEn (n : Nat) : (m : ME) -> (t : Bool) -> (nm : Bq) -> (sc : Scope) -> (e : PySem.Expr) -> Ck (GE t nm sc m e) := Nat.rec (fun _ _ _ _ _ => .no) (fun _ self m t nm sc e => cEs self t nm sc m e) n
noncomputable def cE (m : ME) (t : Bool) (nm : Bq) (sc : Scope) (e : PySem.Expr) : Ck (GE t nm sc m e) := cEn 60 m t nm sc e
noncomputable def nH (sc : Scope) (n : PySem.Str) : Bool := decide (sc.names.lookup n = some .local)
noncomputable def H8 (sc scope : Scope) (n : PySem.Str) (l l2 : Nat) : Bool := nH sc n && (l == l2) && !(scope.names.any fun (m,k) => m == n && (k == .local || k == .cell))
section
variable {prog : Program} {w : World} {C : bK} {d : Nat} {aQ : Nat -> Addr} {G : Addr} {TT : Heap -> Prop} {nm : List (Option PySem.Str)} {sc : Scope} {cx : Cx}
structure Own (prog : Program) (w : World) (aQ : Nat -> Addr) (G : Addr) (TT : Heap -> Prop) (nm : List (Option PySem.Str)) (sc : Scope) (cx : Cx) : Prop where
 ctx : Ctx prog w aQ G TT true nm sc cx
 own : fM cx
 Ir : oW cx.base
theorem iY {n : PySem.Str} (h : nH sc n = true) (hs : cx.env.scope = sc) : cx.env.kindOf n = some .local := by
 unfold nH at h; rw [decide_eq_true_eq] at h; unfold Env.kindOf; rw [hs]; exact h
theorem xX {xs vs : List PySem.Expr} {k k2 : Nat} {p p2 : Pos} {env : Env} (h : vs.all (foldedForSure 8) = true) : swappedStores [.Tuple xs k p] (.Tuple vs k2 p2) env = pure none := by
 unfold swappedStores
 dsimp only
 (repeat' split) <;> first | rfl | (rename_i q; exact absurd h q) | skip
theorem fm2 {g : PySem.Expr -> Option PySem.Str} {x y : PySem.Expr} {a b : PySem.Str} (h1 : g x = some a) (h2 : g y = some b) : [x,y].filterMap g = [a,b] := by
 rw [List.filterMap_cons_some h1,List.filterMap_cons_some h2,List.filterMap_nil]
theorem dup2 {a b : PySem.Str} (h : a ≠ b) : ([a,b].length != 2 || [a,b].eraseDups.length != [a,b].length) = false := by
 have : (b == a) = false := beq_eq_false_iff_ne.mpr (Ne.symm h)
 simp [List.eraseDups_cons,this]
theorem zV {a b : PySem.Str} {pa pb p p2 : Pos} {k k2 : Nat} {v1 v2 : PySem.Expr} {env : Env} (h0 : env.scope.kind = .function) (h1 : env.kindOf a = some .local) (h2 : env.kindOf b = some .local) (h3 : (pa.line == pb.line) = true) (h4 : a ≠ b) (h5 : aP v1 = true) (h6 : aP v2 = true) (h7 : ([v1,v2].all (foldedForSure 8)) = false) (h8 : ([v1,v2].all (constantsAlone 8)) = false) :
  swappedStores [.Tuple [.Name a pa,.Name b pb] k p] (.Tuple [v1,v2] k2 p2) env = pure (some [a,b]) := by
 have hb : (env.blockKind != .function) = false := by unfold Env.blockKind; rw [h0]; rfl
 have hst : ∀ f : PySem.Expr -> Bool,(∀ v,aP v = true -> f v = false) -> ¬ ([v1,v2].any f = true) := fun f hf => by rw [List.any_cons,List.any_cons,List.any_nil,hf v1 h5,hf v2 h6]; exact Bool.false_ne_true
 unfold swappedStores
 dsimp only
 rw [if_neg (by rw [hb]; exact Bool.false_ne_true),if_neg (hst _ ?h),fm2 (a := a) (b := b) ?h1 ?h2,if_neg (show ¬ ([a,b].length != [Expr.Name a pa,Expr.Name b pb].length || [a,b].eraseDups.length != [a,b].length) = true from ne_true_of_eq_false (dup2 h4)),if_neg (ne_true_of_eq_false h7),if_neg (ne_true_of_eq_false h8)]
 case h => intro v hv; cases v <;> first | rfl | exact qD hv
 case h1 => exact (if_pos (by rw [h1]; exact beq_self_eq_true _)).trans rfl
 case h2 => exact (if_pos (by rw [h2]; exact beq_iff_eq.mpr (beq_iff_eq.mp h3).symm)).trans rfl
theorem J2 {ee ei ec : PySem.Expr} {z n : PySem.Str} {pz np p : Pos} {scope : Scope} {env : Env} {l : Nat} (h0 : env.scope.kind = .function) (h1 : H8 env.scope scope n np.line p.line = true) :
  swapsWith (.ListComp ee [⟨.Name z pz,ei,[ec],0⟩] scope p) (some (.Name n np)) l env = pure true := by
 unfold H8 nH at h1
 simp only [Bool.and_eq_true,decide_eq_true_eq] at h1
 obtain ⟨⟨h2,h3⟩,h4⟩ := h1
 have hb : (env.blockKind == .function) = true := by unfold Env.blockKind; rw [h0]; rfl
 have hk : (env.kindOf n == some NameKind.local) = true := by unfold Env.kindOf; rw [h2]; rfl
 show (pure (env.blockKind == .function && env.kindOf n == some .local && np.line == p.line && !(scope.names.any fun (m,k) => m == n && (k == .local || k == .cell))) : Sem Bool) = pure true
 rw [hb,hk,h3,h4]
 rfl
theorem Cw : ∀ {ys : List Nat} {ns : List PySem.Str},ys.map (cx.nm[·]?) = ns.map (fun n => some (some n)) -> (∀ n ∈ ns,cx.env.kindOf n = some .local) -> dN cx ys ns
 | [],[],_,_ => .nil
 | [],_ :: _,h,_ => nomatch h
 | _ :: _,[],h,_ => nomatch h
 | y :: ys,n :: ns,h,hk => by
  rw [List.map_cons,List.map_cons,List.cons.injEq] at h
  exact .cons h.1 (hk n (.head _)) (Cw h.2 fun m hm => hk m (.tail _ hm))
end
abbrev GG (nm : Bq) (sc : Scope) (tg : Tg) (e : PySem.Expr) : Prop := ∀ {prog : Program} {w : World} {C : bK} {d : Nat} {aQ : Nat -> Addr} {G : Addr} {TT : Heap -> Prop} {cx : Cx},oR prog w C d aQ G TT -> Own prog w aQ G TT nm sc cx -> Eo prog w C d cx tg e
abbrev GGs (nm : Bq) (sc : Scope) (ts : List Tg) (es : List PySem.Expr) : Prop := ∀ {prog : Program} {w : World} {C : bK} {d : Nat} {aQ : Nat -> Addr} {G : Addr} {TT : Heap -> Prop} {cx : Cx},oR prog w C d aQ G TT -> Own prog w aQ G TT nm sc cx -> zL prog w C d cx ts es
abbrev GS (nm : Bq) (sc : Scope) (m : MS) (st : Stmt) : Prop := ∀ {prog : Program} {w : World} {C : bK} {d : Nat} {aQ : Nat -> Addr} {G : Addr} {TT : Heap -> Prop} {cx : Cx},oR prog w C d aQ G TT -> Own prog w aQ G TT nm sc cx -> m5 prog w C d cx m st
abbrev GB (nm : Bq) (sc : Scope) (m : bG) (st : List Stmt) : Prop := ∀ {prog : Program} {w : World} {C : bK} {d : Nat} {aQ : Nat -> Addr} {G : Addr} {TT : Heap -> Prop} {cx : Cx},oR prog w C d aQ G TT -> Own prog w aQ G TT nm sc cx -> m6 prog w C d cx m st
section
variable {P : MS -> Type}
@[elab_as_elim] noncomputable def sAs (no : ∀ e,P e) (yes : ∀ t e,P (.assign t e)) (e : MS) : P e := by
 induction e using MS.casesOn with
 | assign t e => exact yes t e
 | _ => exact no _
@[elab_as_elim] noncomputable def ae2 (no : ∀ e,P e) (yes : ∀ t u e,P (.assign2 t u e)) (e : MS) : P e := by
 induction e using MS.casesOn with
 | assign2 t u e => exact yes t u e
 | _ => exact no _
@[elab_as_elim] noncomputable def ae1 (no : ∀ e,P e) (yes : ∀ l e,P (.dD l e)) (e : MS) : P e := by
 induction e using MS.casesOn with
 | dD l e => exact yes l e
 | _ => exact no _
@[elab_as_elim] noncomputable def ae0 (no : ∀ e,P e) (yes : ∀ l e,P (.lF l e)) (e : MS) : P e := by
 induction e using MS.casesOn with
 | lF l e => exact yes l e
 | _ => exact no _
@[elab_as_elim] noncomputable def aeZ (no : ∀ e,P e) (yes : ∀ x o e,P (.aug x o e)) (e : MS) : P e := by
 induction e using MS.casesOn with
 | aug x o e => exact yes x o e
 | _ => exact no _
@[elab_as_elim] noncomputable def aeW (no : ∀ e,P e) (yes : ∀ t a b,P (.dw t a b)) (e : MS) : P e := by
 induction e using MS.casesOn with
 | dw t a b => exact yes t a b
 | _ => exact no _
@[elab_as_elim] noncomputable def aeS (no : ∀ e,P e) (yes : ∀ t b,P (.whl t b)) (e : MS) : P e := by
 induction e using MS.casesOn with
 | whl t b => exact yes t b
 | _ => exact no _
@[elab_as_elim] noncomputable def abB (no : ∀ e,P e) (yes : ∀ x e b,P (.uT x e b)) (e : MS) : P e := by
 induction e using MS.casesOn with
 | uT x e b => exact yes x e b
 | _ => exact no _
@[elab_as_elim] noncomputable def abz (no : ∀ e,P e) (yes : ∀ l e b,P (.sZ l e b)) (e : MS) : P e := by
 induction e using MS.casesOn with
 | sZ l e b => exact yes l e b
 | _ => exact no _
@[elab_as_elim] noncomputable def abA (no : ∀ e,P e) (yes : ∀ x e f b,P (.Dq x e f b)) (e : MS) : P e := by
 induction e using MS.casesOn with
 | Dq x e f b => exact yes x e f b
 | _ => exact no _
@[elab_as_elim] noncomputable def aeU (no : ∀ e,P e) (yes : ∀ e,P (.ret e)) (e : MS) : P e := by
 induction e using MS.casesOn with
 | ret e => exact yes e
 | _ => exact no _
@[elab_as_elim] noncomputable def aeV (no : ∀ e,P e) (yes : ∀ e,P (.raise e)) (e : MS) : P e := by
 induction e using MS.casesOn with
 | raise e => exact yes e
 | _ => exact no _
@[elab_as_elim] noncomputable def aby (no : ∀ e,P e) (yes : ∀ b x,P (.Fe b x)) (e : MS) : P e := by
 induction e using MS.casesOn with
 | Fe b x => exact yes b x
 | _ => exact no _
@[elab_as_elim] noncomputable def aeX (no : ∀ e,P e) (yes : ∀ e,P (.expr e)) (e : MS) : P e := by
 induction e using MS.casesOn with
 | expr e => exact yes e
 | _ => exact no _
@[elab_as_elim] noncomputable def aeY (no : ∀ e,P e) (yes : P .brk) (e : MS) : P e := by
 induction e using MS.casesOn with
 | brk => exact yes
 | _ => exact no _
@[elab_as_elim] noncomputable def abC (no : ∀ e,P e) (yes : P .cont) (e : MS) : P e := by
 induction e using MS.casesOn with
 | cont => exact yes
 | _ => exact no _
end
section
variable (nm : Bq) (sc : Scope)
noncomputable def cG (tg : Tg) (e : PySem.Expr) : Ck (GG nm sc tg e) := by
 induction tg using Tg.casesOn with
 | var x => exact xName (fun _ => .no) (fun n _ => dK (nm[x]? = some (some n)) fun q => fQ (nH sc n) fun g => .yes fun _ o => Gm o.ctx.ok o.own (by rw [o.ctx.nm]; exact q) (iY g o.ctx.sc)) e
 | attr a k => exact Wu (fun _ => .no) (fun y n _ => dK (k <= 8) fun h1 => dK (n = eE k) fun q => bw (cE a true nm sc y) fun h2 => .yes fun hC o => by subst q; exact UL o.ctx.ok h1 fun ls => (h2 hC o.ctx).1) e
 | idx a b => exact aeF (fun _ => .no) (fun y i _ => bw (cE a true nm sc y) fun h1 => bw (cE b true nm sc i) fun h2 => .yes fun hC o => UJ (fun ls => (h1 hC o.ctx).1) fun ls => (h2 hC o.ctx).1) e
noncomputable def cGs (ts : List Tg) : (es : List PySem.Expr) -> Ck (GGs nm sc ts es) := by
 induction ts with
 | nil => exact fun es => l0 (fun _ => .no) (.yes fun _ _ => UG) es
 | cons t ts ih => exact fun es => lc .no (fun e es => fQ (aP e) fun h1 => bw (cG nm sc t e) fun h2 => bw (ih es) fun h3 => .yes fun hC o => Ox h1 (h2 hC o) (h3 hC o)) es
noncomputable def RN (y : Nat) (m : ME) (x e : PySem.Expr) (pos : Pos) : Ck (GS nm sc (.assign (.var y) m) (.Assign [x] e pos)) :=
 W4 (fun _ => .no) (fun it HX c elt => xName (fun _ => .no) (fun n np => aaZ (fun _ => .no) (fun ee gs scope p => l1 (fun _ => .no) (fun g => gMk (fun a ei cs d => xName (fun _ => .no) (fun z _ => l1 (fun _ => .no) (fun ec => dK (d = 0) fun q => dK (nm[y]? = some (some n)) fun h1 => fQ (H8 sc scope n np.line p.line) fun h2 => dK (HX = true) fun h3 => fQ (rF sc scope [z]) fun h4 => fQ (jR ei) fun h5 => fQ (mj ec) fun n1 =>
    bw (cE it true nm sc ei) fun h6 => bw (cE c false (eH scope nm [z]) (jO scope sc) ec) fun h7 => bw (cE elt false (eH scope nm [z]) (jO scope sc) ee) fun h8 => .yes fun hC o => by
    subst q h3
    have jh := qH h4 o.ctx.sc
    have h2' := h2
    unfold H8 at h2'
    simp only [Bool.and_eq_true] at h2'
    exact Ot o.ctx.ok o.own jh (o.ctx.cells rfl) h5 (J2 o.ctx.ok.kind (by rw [o.ctx.sc]; exact h2)) (by rw [o.ctx.nm]; exact h1) (iY h2'.1.1 o.ctx.sc) (fun ls => (h6 hC o.ctx).1)
     (fun ls Ca cl v hb => (h7 hC (o.ctx.inner jh hb)).2 n1) fun ls Ca cl v hb => (h8 hC (o.ctx.inner jh hb)).1) cs) a) g) gs) e) x) m
noncomputable def Wc (tg : Tg) (m : ME) (x e : PySem.Expr) (pos : Pos) : Ck (GS nm sc (.assign tg m) (.Assign [x] e pos)) :=
 if h1 : jT e = true then fQ (Ip x) fun h2 => fQ (aP x) fun h3 => bw (cG nm sc tg x) fun h4 => bw (cE m true nm sc e) fun h5 => .yes fun hC o => Ky h1 (BW h2) h3 (fun ls => (h5 hC o.ctx).1) (h4 hC o)
 else by
  induction tg using Tg.casesOn with
  | var y => exact RN nm sc y m x e pos
  | _ => exact .no
noncomputable def adx (e : PySem.Expr) : Ck (∀ (xs : List PySem.Expr) (k : Nat) (p : Pos) (env : Env),swappedStores [.Tuple xs k p] e env = pure none) :=
 if h : Ip e = true then .yes fun _ _ _ _ => xW h
 else Mu (fun _ => .no) (fun vs _ _ => fQ (vs.all (foldedForSure 8)) fun q => .yes fun _ _ _ _ => xX q) e
noncomputable def ady (ys : List Nat) (m : ME) (xs : List PySem.Expr) (k : Nat) (tp : Pos) (e : PySem.Expr) (p0 : Pos) : Ck (GS nm sc (.lF ys m) (.Assign [.Tuple xs k tp] e p0)) :=
 l2 (fun _ => .no) (fun x1 x2 => xName (fun _ => .no) (fun a pa => xName (fun _ => .no) (fun b pb => Mu (fun _ => .no) (fun vs k p => l2 (fun _ => .no) (fun v1 v2 => fQ (nH sc a) fun h1 => fQ (nH sc b) fun h2 => fQ (pa.line == pb.line) fun h3 => dK (a ≠ b) fun h4 => fQ (aP v1) fun h5 => fQ (aP v2) fun h6 =>
      fQ (!([v1,v2].all (foldedForSure 8))) fun h7 => fQ (!([v1,v2].all (constantsAlone 8))) fun h8 => dK (ys.map (nm[·]?) = [some (some a),some (some b)]) fun h9 => bw (cE m true nm sc (.Tuple [v1,v2] k p)) fun h10 => .yes fun hC o => by
      have k1 := iY h1 o.ctx.sc
      have k2 := iY h2 o.ctx.sc
      refine Gi o.ctx.ok o.own rfl (zV o.ctx.ok.kind k1 k2 h3 h4 h5 h6 (nb h7) (nb h8)) (Cw (by rw [o.ctx.nm]; exact h9) fun n hn => ?_) fun ls => (h10 hC o.ctx).1
      rcases List.mem_cons.mp hn with rfl | hn
      ·exact k1
      ·rw [List.mem_singleton.mp hn]; exact k2) vs) e) x2) x1) xs
noncomputable def agC (m : MS) (ts : List PySem.Expr) (e : PySem.Expr) (p : Pos) : Ck (GS nm sc m (.Assign ts e p)) :=
 lc .no (fun x ts => lc
  (sAs (fun m => ae1 (fun m => ae0 (fun _ => .no) (fun ys m => Mu (fun _ => .no) (fun xs k tp => ady nm sc ys m xs k tp e p) x) m)
    (fun ts m => Mu (fun _ => .no) (fun xs _ _ => fQ (jT e) fun h1 => fQ (xG xs) fun h2 => dK (ts.length = xs.length) fun h3 => bw (cGs nm sc ts xs) fun h4 => bw (cE m true nm sc e) fun h5 => bw (adx e) fun h6 => .yes fun hC o => Gj h1 (h6 _ _ _ _) h2 h3 (fun ls => (h5 hC o.ctx).1) (h4 hC o)) x) m)
   (fun tg m => Wc nm sc tg m x e p) m)
  (fun x2 ts => l0 (fun _ => .no) (ae2 (fun _ => .no) (fun t u m => fQ (jT e) fun h1 => fQ (aP x) fun h2 => fQ (aP x2) fun h3 => bw (cG nm sc t x) fun h4 => bw (cG nm sc u x2) fun h5 => bw (cE m true nm sc e) fun h6 => .yes fun hC o => Gk h1 h2 h3 (fun ls => (h6 hC o.ctx).1) (h4 hC o) (h5 hC o)) m) ts) ts) ts
section
variable (self : (ms : bG) -> (sts : List Stmt) -> Ck (GB nm sc ms sts))
noncomputable def adD (x : Nat) (m1 m2 : ME) (b : bG) (n : PySem.Str) (np : Pos) (e : PySem.Expr) (sb : List Stmt) (p : Pos) : Ck (GS nm sc (.Dq x m1 m2 b) (.For (.Name n np) e sb [] p)) :=
 Wt (fun _ => .no) (fun f as kw _ => l0 (fun _ => .no) (xName (fun _ => .no) (fun r _ => l2 (fun _ => .no) (fun e1 e2 => dK (nm[x]? = some (some n)) fun h1 => fQ (nH sc n) fun h2 => dK (r = "range") fun q => fQ (wI sc r) fun h4 => fQ (aP e1) fun h5 => fQ (aP e2) fun h6 =>
    bw (cE m1 true nm sc e1) fun h7 => bw (cE m2 true nm sc e2) fun h8 => bw (self b sb) fun h9 => .yes fun hC o => by
    subst q; exact Ut o.ctx.ok o.own (by rw [o.ctx.nm]; exact h1) (iY h2 o.ctx.sc) (iy h4 o.ctx.sc).2 h5 h6 (fun ls => (h7 hC o.ctx).1) (fun ls => (h8 hC o.ctx).1) (h9 hC o)) as) f) kw) e
noncomputable def adE (m : MS) (tg e : PySem.Expr) (sb : List Stmt) (p : Pos) : Ck (GS nm sc m (.For tg e sb [] p)) :=
 xName (fun tg => Mu (fun _ => .no) (fun es _ _ => abz (fun _ => .no) (fun xs m b => fQ (xG es) fun h1 => dK (xs.length = es.length) fun h2 => bw (cGs nm sc (xs.map Tg.var) es) fun h3 => fQ (jR e) fun h4 => bw (cE m true nm sc e) fun h5 => bw (self b sb) fun h6 => .yes fun hC o => Us o.own h1 h2 (h3 hC o) h4 (fun ls => (h5 hC o.ctx).1) (h6 hC o)) m) tg)
  (fun n np => abB (fun m => abA (fun _ => .no) (fun x m1 m2 b => adD nm sc self x m1 m2 b n np e sb p) m)
   (fun x m b => dK (nm[x]? = some (some n)) fun h1 => fQ (nH sc n) fun h2 => fQ (jR e) fun h3 => bw (cE m true nm sc e) fun h4 => bw (self b sb) fun h5 => .yes fun hC o => Uu o.ctx.ok o.own (by rw [o.ctx.nm]; exact h1) (iY h2 o.ctx.sc) h3 (fun ls => (h4 hC o.ctx).1) (h5 hC o)) m) tg
noncomputable def agv (m : ME) (x : PySem.Expr) (p : Pos) : Ck (GS nm sc (.raise m) (.Raise (some x) none p)) :=
 Wt (fun _ => .no) (fun f as kw _ => l0 (fun _ => .no) (xName (fun _ => .no) (fun n _ => l1 (fun _ => .no) (fun e => dK (n = "MalformedPattern") fun q => fQ (wI sc n) fun h2 => fQ (aP e) fun h3 => bw (cE m true nm sc e) fun h4 => .yes fun hC o => by
    subst q; exact Oo o.ctx.ok o.Ir (iy h2 o.ctx.sc).2 h3 fun ls => (h4 hC o.ctx).1) as) f) kw) x
noncomputable def cS (m : MS) (st : Stmt) : Ck (GS nm sc m st) := by
 induction st using Stmt.casesOn with
 | Assign ts e p => exact agC nm sc m ts e p
 | AugAssign t o e p => exact aeZ (fun _ => .no) (fun x op m => xName (fun _ => .no) (fun n _ => dK (nm[x]? = some (some n)) fun h1 => fQ (nH sc n) fun h2 => dK (o = yH op) fun q => bw (cE m true nm sc e) fun h4 => .yes fun hC o => by subst q; exact Yt o.ctx.ok o.own (by rw [o.ctx.nm]; exact h1) (iY h2 o.ctx.sc) fun ls => (h4 hC o.ctx).1) t) m
 | If e sa sb p => exact aeW (fun _ => .no) (fun t a b => fQ (mj e) fun h1 => bw (cE t true nm sc e) fun h2 => bw (self a sa) fun h3 => bw (self b sb) fun h4 => .yes fun hC o => abO (fun ls => (h2 hC o.ctx).2 h1) (h3 hC o) (h4 hC o)) m
 | While e sb l p => exact l0 (fun _ => .no) (aeS (fun _ => .no) (fun t b => fQ (mj e) fun h1 => bw (cE t true nm sc e) fun h2 => bw (self b sb) fun h3 => .yes fun hC o => Om o.own (fun ls => (h2 hC o.ctx).2 h1) (h3 hC o)) m) l
 | For tg e sb l p => exact l0 (fun _ => .no) (adE nm sc self m tg e sb p) l
 | Return e p => exact oSo (fun _ => .no) (fun e => aeU (fun _ => .no) (fun m => bw (cE m true nm sc e) fun h => .yes fun hC o => Yr fun ls => (h hC o.ctx).1) m) e
 | Raise x c p => exact oSo (fun _ => .no) (fun x => oNo (fun _ => .no) (aeV (fun _ => .no) (fun m => agv nm sc m x p) m) c) x
 | Expr e p => exact aeX (fun _ => .no) (fun m => fQ (jT e) fun h1 => bw (cE m true nm sc e) fun h2 => .yes fun hC o => Uv h1 (by unfold interactive; rw [o.ctx.ok.kind]; rfl) fun ls => (h2 hC o.ctx).1) m
 | Break p => exact aeY (fun _ => .no) (.yes fun _ _ => Ys) m
 | Continue p => exact abC (fun _ => .no) (.yes fun _ _ => Uw) m
 | _ => exact .no
noncomputable def cBs (sts : List Stmt) : (ms : bG) -> Ck (GB nm sc ms sts) := by
 induction sts with
 | nil =>
  intro ms
  induction ms using bG.casesOn with
  | nil => exact .yes fun _ _ => YL
  | cons _ _ => exact .no
 | cons st sts ih =>
  intro ms
  induction ms using bG.casesOn with
  | nil => exact .no
  | cons m ms => exact bw (cS nm sc self m st) fun h1 => bw (ih ms) fun h2 => .yes fun hC o => Vb (h1 hC o) (h2 hC o)
end
noncomputable def cBn (n : Nat) : (ms : bG) -> (sts : List Stmt) -> Ck (GB nm sc ms sts) := Nat.rec (fun _ _ => .no) (fun _ self ms sts => cBs nm sc self sts ms) n
noncomputable def cB (ms : bG) (sts : List Stmt) : Ck (GB nm sc ms sts) := cBn nm sc 20 ms sts
noncomputable def Yl (ms : bG) (sts : List Stmt) : Bool := (cB nm sc ms sts).ok
end
theorem sB {prog : Program} {w : World} {C : bK} {d : Nat} {aQ : Nat -> Addr} {G : Addr} {TT : Heap -> Prop} {nm : Bq} {sc : Scope} {cx : Cx} (hC : oR prog w C d aQ G TT) (o : Own prog w aQ G TT nm sc cx) (ms : bG) {sts : List Stmt} (h : Yl nm sc ms sts = true) : m6 prog w C d cx ms sts :=
 Ck.get (cB nm sc ms sts) h hC o
section
variable {prog : Program} {w : World} {C : bK} {d : Nat} {aQ : Nat -> Addr} {G : Addr} {TT : Heap -> Prop} {nm : List (Option PySem.Str)} {sc : Scope} {cx : Cx}
theorem aeT (hC : oR prog w C d aQ G TT) (o : Own prog w aQ G TT nm sc cx) {b : bG} {x : Nat} {sb : List Stmt} {h n : PySem.Str} {hp np cp ap p1 p2 : Pos} {k : Nat} (hh : h = "MalformedPattern") (h1 : wI sc h = true) (h2 : nm[x]? = some (some n)) (h3 : nH sc n = true) (h4 : Yl nm sc b sb = true) :
  En prog w C d cx (.Fe b x) (.Try sb [.ExceptHandler (some (.Name h hp)) none [.Assign [.Name n np] (.Constant .none k cp) ap] p1] [] [] p2) := by
 subst hh
 exact Ur o.ctx.ok o.own o.Ir (iy h1 o.ctx.sc).2 (by rw [o.ctx.nm]; exact h2) (iY h3 o.ctx.sc) (sB hC o _ h4)
end
abbrev GSL (nm : Bq) (sc : Scope) (m : MS) (st : Stmt) : Prop := ∀ {prog : Program} {w : World} {C : bK} {d : Nat} {aQ : Nat -> Addr} {G : Addr} {TT : Heap -> Prop} {cx : Cx},oR prog w C d aQ G TT -> Own prog w aQ G TT nm sc cx -> En prog w C d cx m st
abbrev GBL (nm : Bq) (sc : Scope) (m : bG) (st : List Stmt) : Prop := ∀ {prog : Program} {w : World} {C : bK} {d : Nat} {aQ : Nat -> Addr} {G : Addr} {TT : Heap -> Prop} {cx : Cx},oR prog w C d aQ G TT -> Own prog w aQ G TT nm sc cx -> Ep prog w C d cx m st
section
variable (nm : Bq) (sc : Scope)
noncomputable def cSL (m : MS) (st : Stmt) : Ck (GSL nm sc m st) := aby (fun m => bw (cS nm sc (cB nm sc) m st) fun h => .yes fun hC o => Yq (h hC o)) (fun b x => by
  induction st using Stmt.casesOn with
  | Try sb hs l1' l2' p2 =>
   refine l1 (fun _ => .no) (fun h => ?_) hs
   induction h using ExceptHandler.casesOn with
   | ExceptHandler ty hn bd p1 =>
    refine oSo (fun _ => .no) (fun e => xName (fun _ => .no) (fun h hp => oNo (fun _ => .no) (l1 (fun _ => .no) (fun a => ?_) bd) hn) e) ty
    induction a using Stmt.casesOn with
    | Assign ts e ap =>
     refine l1 (fun _ => .no) (fun t => xName (fun _ => .no) (fun n np => aaY (fun _ => .no) (fun c k cp => ?_) e) t) ts
     exact l0 (fun _ => .no) (l0 (fun _ => .no) (dK (c = .none) fun q => dK (h = "MalformedPattern") fun h0 => fQ (wI sc h) fun h1 => dK (nm[x]? = some (some n)) fun h2 => fQ (nH sc n) fun h3 => fQ (Yl nm sc b sb) fun h4 => .yes fun hC o => by subst q; exact aeT hC o h0 h1 h2 h3 h4) l2') l1'
    | _ => exact .no
  | _ => exact .no) m
noncomputable def cBL (ms : bG) : (sts : List Stmt) -> Ck (GBL nm sc ms sts) := bG.rec (motive_1 := fun _ => Unit) (motive_2 := fun ms => (sts : List Stmt) -> Ck (GBL nm sc ms sts)) (fun _ _ => ()) (fun _ _ _ => ()) (fun _ _ => ()) (fun _ _ => ()) (fun _ _ _ => ()) (fun _ _ _ _ _ => ()) (fun _ _ _ => ()) (fun _ _ _ _ => ()) (fun _ _ _ _ => ()) (fun _ _ _ _ _ => ()) (fun _ => ()) (fun _ => ()) (fun _ _ _ => ()) (fun _ => ()) () ()
 (fun sts => l0 (fun _ => .no) (.yes fun _ _ => Va) sts) (fun m ms _ ih sts => lc .no (fun st sts => bw (cSL nm sc m st) fun h1 => bw (ih sts) fun h2 => .yes fun hC o => Pg (h1 hC o) (h2 hC o)) sts) ms
noncomputable def Um (ms : bG) (sts : List Stmt) : Bool := (cBL nm sc ms sts).ok
end
theorem sBL {prog : Program} {w : World} {C : bK} {d : Nat} {aQ : Nat -> Addr} {G : Addr} {TT : Heap -> Prop} {nm : Bq} {sc : Scope} {cx : Cx} (hC : oR prog w C d aQ G TT) (o : Own prog w aQ G TT nm sc cx) (ms : bG) {sts : List Stmt} (h : Um nm sc ms sts = true) : Ep prog w C d cx ms sts :=
 Ck.get (cBL nm sc ms sts) h hC o
structure R4 (aQ : Nat -> Addr) (G : Addr) (base : Heap) : Prop where
 Ir : oW base
 adb : ∀ f gQ,FT f = some gQ -> ∃ fd body names,(gQ.ns = names.length) /\
  ((∃ dv,rO base G (aQ f) fd body names gQ.np dv /\ (∀ h ρ,aD h ρ gQ.dflt dv) /\ Yl (names.map some) fd.scope gQ.body body = true) \/
  (qN base G (aQ f) fd body names gQ.np /\ gQ.dflt = [] /\ Yl (names.map some) fd.scope gQ.body body = true))
theorem dZ : ∀ (names : List (PySem.Str × NameKind)) (L : Nat) (acc : List (PySem.Str × Addr)) (n : PySem.Str),(names.lookup n = some .cell \/ (acc.lookup n).isSome = true) -> ((cellsFrom L names acc).lookup n).isSome = true
 | [],L,acc,n,h => by
  rcases h with h | h
  ·exact cN h
  ·exact h
 | (m,k) :: r,L,acc,n,h => by
  have cons : ∀ (acc : List (PySem.Str × Addr)),(acc.lookup n).isSome = true -> (((m,L) :: acc).lookup n).isSome = true := fun acc h => by
   rw [List.lookup_cons]
   split
   ·rfl
   ·exact h
  unfold cellsFrom
  rcases h with h | h
  ·rw [List.lookup_cons] at h
   by_cases hq : (n == m) = true
   ·rw [hq] at h
    cases h
    rw [if_pos (by rfl)]
    exact dZ r _ _ n (.inr (by rw [List.lookup_cons,hq]; rfl))
   ·rw [Bool.not_eq_true] at hq
    rw [hq] at h
    split
    ·exact dZ r _ _ n (.inl h)
    ·exact dZ r _ _ n (.inl h)
  ·split
   ·exact dZ r _ _ n (.inr (cons acc h))
   ·exact dZ r _ _ n (.inr h)
section
variable {prog : Program} {w : World} {aQ : Nat -> Addr} {G : Addr} {base : Heap} {TT : Heap -> Prop} {cx : Cx}
theorem bx.to (ok : bx prog w aQ G TT cx) {env : Env} {frs : List Env} {nm : List (Option PySem.Str)} (hk : env.scope.kind = .function) (hg : env.globals = G) (hb : env.builtins = builtinsNs) : bx prog w aQ G TT ⟨cx.base,env,frs,nm⟩ :=
 ⟨ok.top,hk,hg,hb,ok.glob,ok.posix,ok.sm,ok.cls,ok.fn⟩
theorem Ko {f : Nat} {fd : FuncData} {body : List Stmt} {names : List PySem.Str} {np : Nat} {dv : List Value} (ok : bx prog w aQ G TT cx) (hm : oW cx.base) (F : rO cx.base G (aQ f) fd body names np dv) (L : Addr) (hL : cx.base.get? L = none) :
  Own prog w aQ G TT (names.map some) fd.scope ⟨cx.base,callEnv fd L (aQ f),callEnv fd L (aQ f) :: cx.frs,names.map some⟩ where
 ctx := ⟨ok.to F.kind F.globals F.builtins,⟨hL,gV F.nodup⟩,rfl,rfl,fun _ n hn => by
  have hn' : fd.scope.names.lookup n = some .cell := hn
  have : ∀ (l : List (PySem.Str × NameKind)),(∀ x ∈ l,x.2 ≠ .cell) -> l.lookup n ≠ some .cell := by
   intro l hl q
   induction l with
   | nil => exact cN q
   | cons a l ih =>
    obtain ⟨m,k⟩ := a
    rw [List.lookup_cons] at q
    by_cases hq : (n == m) = true
    ·rw [hq] at q; cases q; exact hl _ (.head _) rfl
    ·rw [Bool.not_eq_true] at hq; rw [hq] at q; exact ih (fun x hx => hl x (.tail _ hx)) q
  exact absurd hn' (this _ F.ou)⟩
 own := ⟨⟨hL,gV F.nodup⟩,rfl,_,rfl⟩
 Ir := hm
theorem Kp {f : Nat} {fd : FuncData} {body : List Stmt} {names : List PySem.Str} {np : Nat} (ok : bx prog w aQ G TT cx) (hm : oW cx.base) (F : qN cx.base G (aQ f) fd body names np) (L : Addr) (hL : cx.base.get? L = none) :
  Own prog w aQ G TT (names.map some) fd.scope ⟨cx.base,callEnvC fd L (aQ f),callEnvC fd L (aQ f) :: cx.frs,names.map some⟩ where
 ctx := ⟨ok.to F.kind F.globals F.builtins,⟨hL,gV F.nodup⟩,rfl,rfl,fun _ n hn => Option.isSome_iff_exists.mp (dZ fd.scope.names (L + 1) [] n (.inl hn))⟩
 own := ⟨⟨hL,gV F.nodup⟩,rfl,_,rfl⟩
 Ir := hm
theorem tQ.low {A : Around} {n : Nat} (h : tQ cx A (n + 1)) : tQ cx A n := ⟨h.frames,h.handled,by have := h.depth; lia⟩
theorem J6 (n : Nat) : oR prog w (aG n) n aQ G (R4 aQ G) := by
 induction n with
 | zero => exact fun cx ls f vs ws A ρ H s Q E ok hA st hv hP => (hP.no rfl).elim
 | succ n ih =>
  intro cx ls f vs ws A ρ H s Q E ok hA st hv hP
  cases hf : FT f with
  | none => exact (hP.no (Hr hf)).elim
  | some gQ =>
   rw [Hq hf] at hP
   obtain ⟨fd,body,names,hns,⟨dv,F,hdv,hb⟩ | ⟨F,hdv,hb⟩⟩ := ok.top.adb f gQ hf
   ·exact Ea F ok hns hdv hA st hv (fun L hL => sB ih (Ko ok ok.top.Ir F L hL) _ hb) hP
   ·exact Eb F ok hns hdv hA st hv (fun L hL => sB ih (Kp ok ok.top.Ir F L hL) _ hb) hP
end
structure TopAll (prog : Program) (w : World) (aQ : Nat -> Addr) (G : Addr) (h : Heap) : Prop where
 top : R4 aQ G h
 glob : tL aQ h G
 posix : cY prog w h
 sm : ∃ o,h.get? sysModules = some o
 cls : ∀ c,vH aQ h c
 fn : ∀ f,∃ o fd,h.get? (aQ f) = some o /\ o.cls = .type "function" /\ o.data = .func fd
section
variable {prog : Program} {w : World} {aQ : Nat -> Addr} {G : Addr}
theorem TopAll.env {cx : Cx} (T : TopAll prog w aQ G cx.base) (hk : cx.env.scope.kind = .function) (hg : cx.env.globals = G) (hb : cx.env.builtins = builtinsNs) : bx prog w aQ G (R4 aQ G) cx :=
 ⟨T.top,hk,hg,hb,T.glob,T.posix,T.sm,T.cls,T.fn⟩
theorem RK {a : Addr} {fd : FuncData} {body : List Stmt} {A : Around} {E : Value -> Shared -> Prop} {Q : Value -> Shared -> Prop} {s : Shared} {v : Val} {u : Value} {n : Nat} {h' : H}
  (T : TopAll prog w aQ G s.heap) (F : rO s.heap G a fd body nP 1 []) (hok : Um (nP.map some) fd.scope dg body = true)
  (hf : A.frames = some []) (hh : A.handled = none) (ais : A.depth + 3 * (n + 1) + 1 < recursionLimit)
  (hv : aC s.heap [] v u) (hr0 : cu prog w s.heap [] [])
  (hrun : cj (aG n) lu [v] [] = .ok (.bool true) h')
  (hQ : ∀ b s',s' = { s with heap := s'.heap,toks := s'.toks } -> s.heap.StaysIn s'.heap -> b = .bool true -> Q b s') : codeAny (model prog w) A (.call (.ref a) ⟨[u],[]⟩) (HF Q E) s := by
 obtain ⟨o,ho,hd⟩ := F.obj
 rw [zX (vs := [v]) (d := lu) ⟨Nat.le_refl 1,Nat.le_refl 1⟩] at hrun
 have hnew : s.heap.get? s.heap.objs.size = none := Heap.get?_none_of_le (Nat.le_refl _)
 refine codeAny_call_def (fd := fd) (body := body) (by lia) ho hd F.lim F.code F.body
  (F.binds s [u] (fun _ _ e => e) (Nat.le_refl 1) (Nat.le_refl 1)) F.ou (fun x hx => F.params x.1 (List.of_mem_zip hx).1) (fun h₀ hns₀ hk => ?_) F.co F.gen F.kind
 have hN : nP.Nodup := F.nodup
 let cx : Cx := ⟨s.heap,callEnv fd s.heap.objs.size a,[callEnv fd s.heap.objs.size a],nP.map some⟩
 have ok : bx prog w aQ G (R4 aQ G) cx := TopAll.env (cx := cx) T F.kind F.globals F.builtins
 have noc : ∀ (l : List (PySem.Str × NameKind)),(∀ x ∈ l,x.2 ≠ .cell) -> ∀ n,l.lookup n ≠ some .cell := by
  intro l hl n q
  induction l with
  | nil => exact cN q
  | cons a l ih =>
   obtain ⟨m,k⟩ := a
   rw [List.lookup_cons] at q
   by_cases hq : (n == m) = true
   ·rw [hq] at q; cases q; exact hl _ (.head _) rfl
   ·rw [Bool.not_eq_true] at hq; rw [hq] at q; exact ih (fun x hx => hl x (.tail _ hx)) q
 have own : Own prog w aQ G (R4 aQ G) (nP.map some) fd.scope cx := ⟨⟨ok,⟨hnew,gV hN⟩,rfl,rfl,fun _ n hn => absurd hn (noc _ F.ou n)⟩,⟨⟨hnew,gV hN⟩,rfl,_,rfl⟩,T.top.Ir⟩
 refine sBL (J6 n) own dg hok _ [] ([some v] ++ List.replicate (lu.ns - lu.np) none) [] _ _ _ ⟨?_,hh,?_⟩ ?_ ?_
 ·exact Around.frames_deeper hf
 ·show A.depth + 1 + 3 * n + 3 < _
  lia
 ·refine ⟨hk,fun a ha => (nomatch ha),hr0.all hk,?_,fun _ _ _ _ q => (nomatch q),fun q => (nomatch q),?_,rfl⟩
  ·exact Heap.FunFrames.cons (L := s.heap.objs.size) (by show fd.scope.kind ≠ .module; rw [F.kind]; intro q; cases q) rfl hns₀ hnew trivial
  ·refine ⟨_,hns₀,fun x v' n' h1 h2 => .inl ?_⟩
   cases x with
   | zero =>
    cases h1; cases h2
    exact ⟨F.params _ (by decide),u,by rfl,hv.all hk⟩
   | succ x =>
    exfalso
    rw [List.getElem?_append_right (by show 1 <= x + 1; lia),List.getElem?_replicate] at h1
    split at h1 <;> cases h1
 ·have q9 : NT (dz (aG n) dg ([some v] ++ List.replicate (lu.ns - lu.np) none) []) = .ok (.bool true) h' := hrun
  show oV prog w cx _ (dz (aG n) dg ([some v] ++ List.replicate (lu.ns - lu.np) none) []) _
  cases hx : dz (aG n) dg ([some v] ++ List.replicate (lu.ns - lu.np) none) [] with
  | bad => rw [hx] at q9; exact rbo q9
  | exc _ _ => rw [hx] at q9; exact reo q9
  | ok f ls' H' =>
   rw [hx] at q9
   intro fl ρ' s' e st' hfr
   cases f with
   | next => cases q9
   | brk => exact rbo q9
   | cont => exact rbo q9
   | ret r =>
    cases fl <;> first | exact hfr.elim | skip
    injection q9 with h1 h2
    subst h1
    have hfr' : aC s'.heap ρ' (.bool true) _ := hfr
    cases hfr'
    exact hQ _ _ e st'.stay rfl
end
structure rJ (fd : FuncData) (ns : List PySem.Str) : Prop where
 po : fd.params.posonlyargs = []
 va : fd.params.vararg = none
 ko : fd.params.kwonlyargs = []
 kw : fd.params.kwarg = none
 ns : fd.params.args.map (·.arg) = ns
theorem vJ {ns : List PySem.Str} {ws : List Value} (hn : ns.Nodup) (hl : ws.length = ns.length) : ns.filterMap (fun n => ((ns.zip ws).lookup n).map (n,·)) = ns.zip ws := by
 have key : ∀ (ns : List PySem.Str) (ws : List Value),ns.Nodup -> ws.length = ns.length -> ∀ n ∈ ns,∃ v,(ns.zip ws).lookup n = some v := by
  intro ns
  induction ns with
  | nil => intro ws _ _ n hn; cases hn
  | cons a ns ih =>
   intro ws hn hl n hm
   cases ws with
   | nil => cases hl
   | cons v ws =>
    rw [List.zip_cons_cons,List.lookup_cons]
    by_cases hq : (n == a) = true
    ·rw [hq]; exact ⟨v,rfl⟩
    ·rw [Bool.not_eq_true] at hq
     rw [hq]
     rcases List.mem_cons.mp hm with e | hm
     ·rw [e] at hq; simp at hq
     ·exact ih ws (List.nodup_cons.mp hn).2 (by simpa using hl) n hm
 induction ns generalizing ws with
 | nil => rfl
 | cons a ns ih =>
  cases ws with
  | nil => cases hl
  | cons v ws =>
   rw [List.nodup_cons] at hn
   have hl' : ws.length = ns.length := by simpa using hl
   rw [List.zip_cons_cons,List.filterMap_cons]
   rw [List.lookup_cons,beq_self_eq_true]
   simp only [Option.map_some]
   congr 1
   conv => rhs; rw [<- ih hn.2 hl']
   have : ∀ (l : List PySem.Str),(∀ n ∈ l,n ∈ ns) -> l.filterMap (fun n => (((a,v) :: ns.zip ws).lookup n).map (n,·)) = l.filterMap (fun n => ((ns.zip ws).lookup n).map (n,·)) := by
    intro l hl
    induction l with
    | nil => rfl
    | cons n l ih2 =>
     have hna : (n == a) = false := beq_eq_false_iff_ne.mpr fun e => hn.1 (e ▸ hl n (.head _))
     rw [List.filterMap_cons,List.filterMap_cons,List.lookup_cons,hna,ih2 fun n h => hl n (.tail _ h)]
   exact this ns fun _ h => h
theorem Br {ns : List PySem.Str} {ws : List Value} (hn : ns.Nodup) (hl : ws.length = ns.length) : ns.filter (fun n => ((ns.zip ws).lookup n).isNone) = [] := by
 rw [List.filter_eq_nil_iff]
 intro n hm
 have h := vJ hn hl
 cases hx : (ns.zip ws).lookup n with
 | some v => simp
 | none =>
  exfalso
  have hlen := congrArg List.length h
  have : (ns.filterMap (fun n => ((ns.zip ws).lookup n).map (n,·))).length < ns.length := by
   clear h hlen
   have : ∀ l : List PySem.Str,n ∈ l -> (l.filterMap (fun n => ((ns.zip ws).lookup n).map (n,·))).length < l.length := by
    intro l hm
    induction l with
    | nil => cases hm
    | cons b l ih =>
     rw [List.filterMap_cons]
     by_cases hb : b = n
     ·subst hb
      rw [hx]
      have := List.length_filterMap_le (fun n => ((ns.zip ws).lookup n).map (n,·)) l
      exact Nat.lt_succ_of_le this
     ·have := ih (by rcases List.mem_cons.mp hm with e | h; exact absurd e.symm hb; exact h)
      split
      ·exact Nat.lt_succ_of_lt this
      ·exact Nat.succ_lt_succ this
   exact this ns hm
  rw [hlen,List.length_zip,hl,Nat.min_self] at this
  omega
noncomputable def Bg (x : PySem.Str × Value) (st : List (PySem.Str × Value)) : Sem (ForInStep (List (PySem.Str × Value))) := if (st.lookup x.1).isNone = true then pure (.yield (st ++ [(x.1,x.2)])) else pure (.yield st)
noncomputable def jX (L : List PySem.Str) (ws D : List Value) (b1 b2 : Sem (List (PySem.Str × Value))) : Sem (List (PySem.Str × Value)) :=
 if (decide (ws.length > L.length) && true) = true then b1 else
 if (!((L.take (L.length - (D.drop (D.length - L.length)).length)).filter (fun n => ((L.zip ws).lookup n).isNone)).isEmpty) = true then b2 else
 forIn ((L.drop (L.length - (D.drop (D.length - L.length)).length)).zip (D.drop (D.length - L.length))) (L.zip ws) Bg >>= fun st => pure ((L ++ []).filterMap fun n => (st.lookup n).map (n,·))
theorem xq {fd : FuncData} {ns : List PySem.Str} {ws : List Value} (P : rJ fd ns) : ∃ b1 b2 : Option (Array Value) -> Sem (List (PySem.Str × Value)),bindArgs fd ⟨ws,[]⟩ = (seqItems? fd.defaults >>= fun r => jX ns ws (r.getD #[]).toList (b1 r) (b2 r)) := by
 obtain ⟨nm,qn,⟨po,as,va,ko,kds,kw,ds⟩,body,scope,gl,clo,df,kwd⟩ := fd
 obtain ⟨p1,p2,p3,p4,p5⟩ := P
 dsimp only at p1 p2 p3 p4 p5
 subst p1 p2 p3 p4 p5
 exact ⟨_,_,rfl⟩
theorem xr {fd : FuncData} {ns : List PySem.Str} {ws : List Value} (P : rJ fd ns) (hd : fd.defaults = .none) (hn : ns.Nodup) (hl : ws.length = ns.length) : bindArgs fd ⟨ws,[]⟩ = pure (ns.zip ws) := by
 obtain ⟨b1,b2,e⟩ := xq (ws := ws) P
 rw [e,hd]
 show jX ns ws [] (b1 .none) (b2 .none) = _
 unfold jX
 rw [if_neg (by simp [hl])]
 simp only [List.drop_nil,List.length_nil,Nat.sub_zero,List.take_length,List.zip_nil_right,List.forIn_nil,pure_bind,List.append_nil]
 rw [Br hn hl,vJ hn hl]
 exact if_neg Bool.false_ne_true
theorem ab2 {α : Type} {ws : List α} (h1 : ws.length <= 3) (h2 : 3 <= ws.length + 1) : (∃ x y,ws = [x,y]) \/ ∃ x y z,ws = [x,y,z] := by
 rcases ws with _ | ⟨x,_ | ⟨y,_ | ⟨z,_ | ⟨_,r⟩⟩⟩⟩
 ·exact absurd h2 (show ¬ 3 <= 1 by decide)
 ·exact absurd h2 (Nat.lt_irrefl 2)
 ·exact .inl ⟨x,y,rfl⟩
 ·exact .inr ⟨x,y,z,rfl⟩
 ·exact absurd h1 (Nat.not_le.mpr (Nat.le_add_left 4 r.length))
theorem afr {α : Type} {l : List α} (h : l.length = 3) : ∃ x y z,l = [x,y,z] := by
 rcases l with _ | ⟨x,_ | ⟨y,_ | ⟨z,_ | ⟨_,r⟩⟩⟩⟩
 ·exact absurd h (Nat.ne_of_lt (by decide : 0 < 3))
 ·exact absurd h (Nat.ne_of_lt (by decide : 1 < 3))
 ·exact absurd h (Nat.ne_of_lt (by decide : 2 < 3))
 ·exact ⟨x,y,z,rfl⟩
 ·exact absurd h (Nat.ne_of_gt (Nat.le_add_left 4 r.length))
theorem Kf {a b c : PySem.Str} {ws : List Value} {d : Value} {b1 b2 : Sem (List (PySem.Str × Value))} (hab : (b == a) = false) (hac : (c == a) = false) (hbc : (c == b) = false) (h1 : ws.length <= 3) (h2 : 3 <= ws.length + 1) : jX [a,b,c] ws [d] b1 b2 = pure ([a,b,c].zip (ws ++ [d].drop (ws.length + 1 - 3))) := by
 rcases ab2 h1 h2 with ⟨x,y,rfl⟩ | ⟨x,y,z,rfl⟩
 ·simp [jX,Bg,List.lookup,hab,hac,hbc]
 ·simp [jX,Bg,List.lookup,hab,hac,hbc]
theorem LK {s : Shared} {fd : FuncData} {a b c : PySem.Str} {ws : List Value} {T : Addr} {o : Obj} {d : Value} {n : Nat} (P : rJ fd [a,b,c]) (hab : (b == a) = false) (hac : (c == a) = false) (hbc : (c == b) = false)
  (hd : fd.defaults = .ref T) (ho : s.heap.get? T = some o) (hs : o.data = .seq #[d] n) (h1 : ws.length <= 3) (h2 : 3 <= ws.length + 1) : BindsTo s fd ⟨ws,[]⟩ ([a,b,c].zip (ws ++ [d].drop (ws.length + 1 - 3))) := by
 intro M A E Q hq
 obtain ⟨b1,b2,e⟩ := xq (ws := ws) P
 rw [e,hd]
 refine wpAny_bind (wpAny_seqItems ho hs ?_)
 show wpAny M A (jX [a,b,c] ws [d] _ _) Q E s
 rw [Kf hab hac hbc h1 h2]
 exact wpAny_pure hq
noncomputable def fdOf (h : Heap) (a : Addr) : Option FuncData := match h.get? a with
 | some o => match o.data with
  | .func fd => if o.cls == .type "function" then some fd else none
  | _ => none
 | none => none
theorem pD {h : Heap} {a : Addr} {fd : FuncData} (e : fdOf h a = some fd) : ∃ o,h.get? a = some o /\ o.cls = .type "function" /\ o.data = .func fd := by
 unfold fdOf at e
 cases ho : h.get? a with
 | none => rw [ho] at e; exact cN e
 | some o =>
  rw [ho] at e
  obtain ⟨cls,dict,data,slots⟩ := o
  cases data with
  | func fd' => exact lN (P := (· = some fd)) e cN fun hc e => ⟨_,rfl,eq_of_beq hc,congrArg Data.func (Option.some.inj e)⟩
  | _ => exact cN e
theorem aR {a b : Bool} (h : (a && b) = true) : a = true := (Bool.and_eq_true_iff.mp h).1
theorem gH {a b : Bool} (h : (a && b) = true) : b = true := (Bool.and_eq_true_iff.mp h).2
noncomputable def z7 (fd : FuncData) (ns : List PySem.Str) : Bool := fd.params.posonlyargs.isEmpty && fd.params.vararg.isNone && fd.params.kwonlyargs.isEmpty && fd.params.kwarg.isNone && decide (fd.params.args.map (·.arg) = ns)
theorem FW {fd : FuncData} {ns : List PySem.Str} (h : z7 fd ns = true) : rJ fd ns := by
 simp only [z7,Bool.and_eq_true,List.isEmpty_iff,Option.isNone_iff_eq_none,decide_eq_true_eq] at h
 obtain ⟨⟨⟨⟨h1,h2⟩,h3⟩,h4⟩,h5⟩ := h
 exact ⟨h1,h2,h3,h4,h5⟩
noncomputable def vq : Value -> Bool
 | .none => true
 | _ => false
theorem wH {v : Value} (h : vq v = true) : v = .none := by cases v <;> first | rfl | cases h
noncomputable def dfltOk (h : Heap) (v : Value) : Bool := match v with
 | .ref T => match h.get? T with
  | some o => match o.data with
   | .seq xs _ => xs.toList == [Value.bool false]
   | _ => false
  | none => false
 | _ => false
theorem Lk {h : Heap} {v : Value} (e : dfltOk h v = true) : ∃ T o n,v = .ref T /\ h.get? T = some o /\ o.data = .seq #[Value.bool false] n := by
 unfold dfltOk at e
 cases v with
 | ref T =>
  dsimp only at e
  cases ho : h.get? T with
  | none => rw [ho] at e; exact qD e
  | some o =>
   rw [ho] at e
   obtain ⟨cls,dict,data,slots⟩ := o
   cases data with
   | seq xs n => exact ⟨T,_,n,rfl,ho,congrArg (Data.seq · n) (Array.ext' (eq_of_beq e))⟩
   | _ => exact qD e
 | _ => exact qD e
noncomputable def Ao (h : Heap) (fd : FuncData) (names : List PySem.Str) (np : Nat) : Bool :=
 h.codeRecOk fd.code fd.qualname && decide (fd.scope.kind = .function) && !fd.scope.isCoroutine && !fd.scope.isGenerator && fd.globals == mainNs && fd.builtins == builtinsNs && z7 fd (names.take np) && decide (np <= names.length) && decide names.Nodup
noncomputable def okT (names : List PySem.Str) (ms : bG) (bl : Bool) (sc : Scope) (body : List Stmt) : Bool := if bl then Um (names.map some) sc ms body else Yl (names.map some) sc ms body
noncomputable def Yk (fd : FuncData) (names : List PySem.Str) (ms : bG) (bl : Bool) : Bool := match fd.body with
 | .stmts body => okT names ms bl fd.scope body
 | _ => false
noncomputable def Ku (h : Heap) (a : Addr) (names : List PySem.Str) (ms : bG) (bl : Bool) : Bool := match fdOf h a with
 | some fd => Yk fd names ms bl
 | none => false
noncomputable def rz (h : Heap) (a : Addr) (names : List PySem.Str) (np : Nat) (df : Bool) : Bool := match fdOf h a with
 | some fd => Ao h fd names np && fd.scope.names.all (fun x => x.2 != .cell) && (names.take np).all (fun n => decide (fd.scope.names.lookup n = some .local)) && (if df then dfltOk h fd.defaults && decide (np = 3) else vq fd.defaults)
 | none => false
noncomputable def wN (h : Heap) (a : Addr) (names : List PySem.Str) (np : Nat) : Bool := match fdOf h a with
 | some fd => Ao h fd names np && fd.closure.isEmpty && (names.take np).all (fun n => decide (fd.scope.names.lookup n = some .local) || decide (fd.scope.names.lookup n = some .cell)) && vq fd.defaults
 | none => false
theorem Yu {a b c : PySem.Str} (h : [a,b,c].Nodup) : (b == a) = false /\ (c == a) = false /\ (c == b) = false := by
 simp only [List.nodup_cons,List.mem_cons,List.not_mem_nil,or_false,not_or] at h
 obtain ⟨⟨h1,h2⟩,h3,_⟩ := h
 exact ⟨beq_eq_false_iff_ne.mpr fun e => h1 e.symm,beq_eq_false_iff_ne.mpr fun e => h2 e.symm,beq_eq_false_iff_ne.mpr fun e => h3 e.symm⟩
structure Sw (h : Heap) (fd : FuncData) (names : List PySem.Str) (np : Nat) (body : List Stmt) : Prop where
 code : h.CodeRec fd.code fd.qualname
 body : fd.body = .stmts body
 kind : fd.scope.kind = .function
 co : fd.scope.isCoroutine = false
 gen : fd.scope.isGenerator = false
 globals : fd.globals = mainNs
 builtins : fd.builtins = builtinsNs
 ps : rJ fd (names.take np)
 nodup : names.Nodup
 len : np <= names.length
theorem not_of {b : Bool} (h : (!b) = true) : b = false := by cases b with | false => rfl | true => exact qD h
theorem wO {h : Heap} {fd : FuncData} {names : List PySem.Str} {np : Nat} {ms : bG} {bl : Bool} (e : Ao h fd names np = true) (eo : Yk fd names ms bl = true) : ∃ body,Sw h fd names np body /\ okT names ms bl fd.scope body = true := by
 unfold Yk at eo
 cases hb : fd.body with
 | stmts body =>
  rw [hb] at eo
  exact ⟨body,⟨.of_ok (aR (aR (aR (aR (aR (aR (aR (aR e)))))))),hb,of_decide_eq_true (gH (aR (aR (aR (aR (aR (aR (aR e)))))))),not_of (gH (aR (aR (aR (aR (aR (aR e))))))),not_of (gH (aR (aR (aR (aR (aR e)))))),eq_of_beq (gH (aR (aR (aR (aR e))))),eq_of_beq (gH (aR (aR (aR e)))),FW (gH (aR (aR e))),of_decide_eq_true (gH e),of_decide_eq_true (gH (aR e))⟩,eo⟩
 | _ => rw [hb] at eo; exact qD eo
theorem Sw.take {h : Heap} {fd : FuncData} {names : List PySem.Str} {np : Nat} {body : List Stmt} (B : Sw h fd names np body) : (names.take np).Nodup /\ (names.take np).length = np := ⟨B.nodup.sublist (List.take_sublist _ _),by rw [List.length_take,Nat.min_eq_left B.len]⟩
theorem Sw.dflt {h : Heap} {fd : FuncData} {names : List PySem.Str} {np : Nat} {body : List Stmt} {df : Bool} (B : Sw h fd names np body) (e : (if df then dfltOk h fd.defaults && decide (np = 3) else vq fd.defaults) = true) (s : Shared) (ws : List Value) (hk : h.StaysIn s.heap) (h1 : ws.length <= np) (h2 : np <= ws.length + (if df then [Value.bool false] else []).length) :
  BindsTo s fd ⟨ws,[]⟩ ((names.take np).zip (ws ++ (if df then [Value.bool false] else []).drop (ws.length + (if df then [Value.bool false] else []).length - np))) := by
 obtain ⟨hns,hlen⟩ := B.take
 have P := B.ps
 cases df with
 | false =>
  rw [if_neg Bool.false_ne_true,List.drop_nil,List.append_nil]
  exact BindsTo.of_eq (xr P (wH e) hns (by rw [hlen]; exact Nat.le_antisymm h1 h2))
 | true =>
  obtain ⟨T,oT,n,q1,q2,q3⟩ := Lk (aR e)
  have h3 : np = 3 := of_decide_eq_true (gH e)
  subst h3
  obtain ⟨na,nb,nc,hn3⟩ := afr hlen
  rw [hn3] at P hns ⊢
  obtain ⟨d1,d2,d3⟩ := Yu hns
  exact LK P d1 d2 d3 q1 (hk _ _ q2) q3 h1 h2
theorem uw {h : Heap} {a : Addr} {names : List PySem.Str} {np : Nat} {ms : bG} {bl df : Bool} (hl : h.NoLimit) (e : rz h a names np df = true) (eo : Ku h a names ms bl = true) :
  ∃ fd body,rO h mainNs a fd body names np (if df then [.bool false] else []) /\ okT names ms bl fd.scope body = true := by
 unfold rz at e
 unfold Ku at eo
 cases hfd : fdOf h a with
 | none => rw [hfd] at e; exact qD e
 | some fd =>
  rw [hfd] at e eo
  obtain ⟨o,ho,hc,hd⟩ := pD hfd
  obtain ⟨body,B,hb⟩ := wO (aR (aR (aR e))) eo
  refine ⟨fd,body,⟨⟨o,ho,hd⟩,hl,B.code,B.body,B.kind,B.co,B.gen,B.globals,B.builtins,fun x hx => ?_,fun n hn => of_decide_eq_true (List.all_eq_true.mp (gH (aR e)) n hn),B.nodup,B.len,B.dflt (gH e)⟩,hb⟩
  have := List.all_eq_true.mp (gH (aR (aR e))) x hx
  simpa using this
theorem Dp {h : Heap} {a : Addr} {names : List PySem.Str} {np : Nat} {ms : bG} (hl : h.NoLimit) (e : wN h a names np = true) (eo : Ku h a names ms false = true) :
  ∃ fd body,qN h mainNs a fd body names np /\ Yl (names.map some) fd.scope ms body = true := by
 unfold wN at e
 unfold Ku at eo
 cases hfd : fdOf h a with
 | none => rw [hfd] at e; exact qD e
 | some fd =>
  rw [hfd] at e eo
  obtain ⟨o,ho,hc,hd⟩ := pD hfd
  obtain ⟨body,B,hb⟩ := wO (aR (aR (aR e))) eo
  refine ⟨fd,body,⟨⟨o,ho,hd⟩,hl,B.code,B.body,B.kind,B.co,B.gen,B.globals,B.builtins,List.isEmpty_iff.mp (gH (aR (aR e))),fun n hn => ?_,B.nodup,B.len,fun ws hw => xr B.ps (wH (gH e)) B.take.1 (hw.trans B.take.2.symm)⟩,hb⟩
  rcases Bool.or_eq_true_iff.mp (List.all_eq_true.mp (gH (aR e)) n hn) with q | q
  ·exact .inl (of_decide_eq_true q)
  ·exact .inr ⟨of_decide_eq_true q,fun L => dZ fd.scope.names L [] n (.inl (of_decide_eq_true q))⟩
noncomputable def aQ : Nat -> Addr
 | 0 => 28 | 1 => 35 | 2 => 42 | 3 => 49 | 4 => 63 | 5 => 70 | 6 => 75 | 7 => 82 | 8 => 89 | 9 => 117 | 10 => 124 | 11 => 131 | 12 => 138 | 13 => 145 | 14 => 159 | 15 => 166 | 16 => 173 | 17 => 180 | 18 => 187 | 19 => 195
 | 20 => 210 | 21 => 238 | 22 => 252 | 23 => 259 | 24 => 266 | 25 => 273 | 26 => 278 | _ => 152
noncomputable def Cu : Nat -> List PySem.Str
 | 0 => Sv | 1 => Bj | 2 => rM | 3 => rK | 4 => lH | 5 => j7 | 6 => lG | 7 => lJ | 8 => j6 | 9 => Er
 | 10 => qd | 11 => eV | 12 => ju | 13 => mL | 14 => fO | 15 => uL | 16 => iG | 17 => gB
 | 18 => j4 | 19 => nO | 20 => j5 | 21 => nQ | 22 => Bk | 23 => uM | 24 => qe | 25 => xQ | _ => []
noncomputable def V0 (f : Nat) : Bool := f == 19 || f == 20
noncomputable def ZK (h : Heap) : Bool := (List.range 26).all fun f => match FT f with
 | some gQ => if f == 6 then wN h (aQ f) (Cu f) gQ.np else rz h (aQ f) (Cu f) gQ.np (V0 f)
 | none => false
noncomputable def Ym (h : Heap) (f : Nat) : Bool := match FT f with
 | some gQ => Ku h (aQ f) (Cu f) gQ.body false
 | none => false
noncomputable def S5 (h : Heap) : List Bool := Ku h 278 nP dg true :: (List.range 26).map (Ym h)
theorem adR {f : Nat} {gQ : FD} (h : FT f = some gQ) : f < 26 := by
 rcases Nat.lt_or_ge f 26 with q | q
 ·exact q
 ·exfalso
  obtain ⟨k,rfl⟩ := Nat.exists_eq_add_of_le' q
  exact cN h
noncomputable def isF : Val -> Bool
 | .bool b => !b
 | _ => false
noncomputable def acV (vs : List Val) (b : Bool) : Bool := if b then vs.all isF && vs.length == 1 else vs.isEmpty
set_option tactic.hygienic true in
theorem I7 {vs : List Val} {b : Bool} (e : acV vs b = true) : vs = if b then [.bool false] else [] := by
 cases b with
 | false => cases vs <;> first | rfl | exact qD e
 | true =>
  cases vs with
  | nil => exact qD e
  | cons v vs =>
   have h2 := eq_of_beq (gH e)
   have h1 := aR (aR e)
   cases vs with
   | cons _ _ => cases h2
   | nil =>
    cases v <;> first | exact qD h1 | skip
    rename_i b
    cases b <;> first | rfl | exact qD h1
noncomputable def ade (f : Nat) : Bool := match FT f with
 | some gQ => gQ.ns == (Cu f).length && acV gQ.dflt (V0 f)
 | none => true
theorem Sy (f : Nat) (hf : f < 26) (gQ : FD) (h : FT f = some gQ) : gQ.ns = (Cu f).length /\ (gQ.dflt = if V0 f then [.bool false] else []) /\ (f = 6 -> gQ.dflt = []) := by
 have all : (List.range 26).all ade = true := by decide +kernel
 have e := List.all_eq_true.mp all f (List.mem_range.mpr hf)
 unfold ade at e
 rw [h] at e
 exact ⟨eq_of_beq (aR e),I7 (gH e),fun q => by subst q; exact I7 (gH e)⟩
noncomputable def noLimitOk (h : Heap) : Bool := h.isNs cStatics && (h.nsMap cStatics "sys.recursionlimit").isNone
theorem Gl {h : Heap} (e : noLimitOk h = true) : h.NoLimit := by
 simp only [noLimitOk,Bool.and_eq_true,Option.isNone_iff_eq_none] at e
 exact ⟨_,.of_isNs e.1,e.2⟩
noncomputable def Ib (sl : List (Option Value)) (newId : String) : Bool := sl[4]? == some (some (.builtin newId)) && sl.length == 6
theorem Fv {sl : List (Option Value)} {newId : String} (e : Ib sl newId = true) : ∃ k0 k1 k2 k3 k5,sl = [k0,k1,k2,k3,some (.builtin newId),k5] := by
 have h4 := eq_of_beq (aR e)
 have h6 := eq_of_beq (gH e)
 rcases sl with _ | ⟨a,_ | ⟨b,_ | ⟨c,_ | ⟨d,_ | ⟨f,_ | ⟨g,_ | ⟨_,r⟩⟩⟩⟩⟩⟩⟩
 ·exact absurd h6 (by decide)
 ·exact absurd h6 (Nat.ne_of_lt (by decide : 1 < 6))
 ·exact absurd h6 (Nat.ne_of_lt (by decide : 2 < 6))
 ·exact absurd h6 (Nat.ne_of_lt (by decide : 3 < 6))
 ·exact absurd h6 (Nat.ne_of_lt (by decide : 4 < 6))
 ·exact absurd h6 (Nat.ne_of_lt (by decide : 5 < 6))
 ·exact ⟨a,b,c,d,g,by rw [show f = some (.builtin newId) from Option.some.inj h4]⟩
 ·exact absurd h6 (Nat.ne_of_gt (Nat.le_add_left 7 r.length))
noncomputable def tG (h : Heap) (C : Addr) (bm : List Value) (newId : String) : Option ClassData := match h.get? C with
 | some o => match o.data with
  | .cls cd => if o.cls == .type "type" && cd.mro == .ref C :: bm && !cd.hasDel && Ib o.slots.toList newId then some cd else none
  | _ => none
 | none => none
theorem V4 {o : Obj} {cd : ClassData} {C : Addr} {bm : List Value} {newId : String} {k0 k1 k2 k3 k5 : Option Value} (h1 : o.cls = .type "type") (h2 : cd.mro = .ref C :: bm) (h3 : cd.hasDel = false) (hd : o.data = .cls cd) (hs : o.slots = #[k0,k1,k2,k3,some (.builtin newId),k5]) :
  o = excClassObj cd.name cd.qualname C cd.ns cd.bases bm cd.hasDict cd.slotNames cd.subclasses cd.abstract cd.collection o.dict k0 k1 k2 k3 k5 newId := by
 obtain ⟨cls,dict,data,slots⟩ := o
 obtain ⟨nm,bs,mro,ns,q,hdict,sn,sub,ab,col,del⟩ := cd
 dsimp only at h1 h2 h3 hd hs
 subst h1 h2 h3 hd hs
 rfl
theorem zA {h : Heap} {C : Addr} {bm : List Value} {newId : String} {cd : ClassData} (e : tG h C bm newId = some cd) :
  ∃ dd k0 k1 k2 k3 k5,h.get? C = some (excClassObj cd.name cd.qualname C cd.ns cd.bases bm cd.hasDict cd.slotNames cd.subclasses cd.abstract cd.collection dd k0 k1 k2 k3 k5 newId) := by
 unfold tG at e
 cases ho : h.get? C with
 | none => rw [ho] at e; exact cN e
 | some o =>
  rw [ho] at e
  obtain ⟨cls,dict,data,slots⟩ := o
  cases data with
  | cls cd' =>
   refine lN (P := (· = some cd)) e cN fun hc e => ?_
   cases (Option.some.inj e)
   obtain ⟨k0,k1,k2,k3,k5,hsl⟩ := Fv (gH hc)
   exact ⟨dict,k0,k1,k2,k3,k5,congrArg some (V4 (eq_of_beq (aR (aR (aR hc)))) (eq_of_beq (gH (aR (aR hc)))) (by have := gH (aR hc); simpa using this) rfl (Array.ext' hsl))⟩
  | _ => exact cN e
noncomputable def fragOf (h : Heap) (as : List Addr) : Frag := as.filterMap fun a => (h.get? a).map fun o => (a,o)
theorem sY (h : Heap) : ∀ as : List Addr,(fragOf h as).In h
 | [],a,o,e => by exact cN e
 | b :: as,a,o,e => by
  unfold fragOf at e
  rw [List.filterMap_cons] at e
  cases hb : h.get? b with
  | none => rw [hb] at e; exact sY h as a o e
  | some ob =>
   rw [hb] at e
   simp only [Option.map_some] at e
   rw [List.lookup_cons] at e
   by_cases q : (a == b) = true
   ·rw [q] at e; cases e; rw [eq_of_beq q]; exact hb
   ·rw [Bool.not_eq_true] at q; rw [q] at e; exact sY h as a o e
noncomputable def abR : List zM := [.aO,.aZ,.bk,.cT,.mJ,.iW,.gq,.get_,.match_,.wX,.yL,.sX,.Fq,.zY]
theorem Ph (m : zM) : m ∈ abR := by cases m <;> (repeat first | exact .head _ | apply List.Mem.tail)
noncomputable def classOk (h : Heap) (c : Nat) : Bool := match tG h (clsAt c) [.type "object"] "object.__new__" with
 | some cd => cd.hasDict && !cd.abstract && h.isNs cd.ns && (h.nsMap cd.ns "__getattribute__").isNone && (h.nsMap cd.ns "__getattr__").isNone && (h.nsMap cd.ns "__setattr__").isNone && (List.range 9).all (fun k => (h.nsMap cd.ns (eE k)).isNone) &&
   h.nsMap cd.ns "__init__" == some (.ref (aQ (initOf c))) && abR.all (fun m => match je c m with | some f => h.nsMap cd.ns (qY m) == some (.ref (aQ f)) | none => true) &&
   (let K := fragOf h [clsAt c,cd.ns,aQ (initOf c)]
   makesIn K (clsAt c) && findIn K (.ref (clsAt c)) "__init__" == some (some (.ref (aQ (initOf c)))) && typeIn K (.ref (aQ (initOf c))) == some (.type "function"))
 | none => false
theorem qJ {h : Heap} {c : Nat} (e : classOk h c = true) : vH aQ h c := by
 unfold classOk at e
 cases hcd : tG h (clsAt c) [.type "object"] "object.__new__" with
 | none => rw [hcd] at e; exact qD e
 | some cd =>
  rw [hcd] at e
  obtain ⟨dd,k0,k1,k2,k3,k5,hg⟩ := zA hcd
  simp only [Bool.and_eq_true,Option.isNone_iff_eq_none] at e
  obtain ⟨⟨⟨⟨⟨⟨⟨⟨⟨e1,e2⟩,e3⟩,e4⟩,e5⟩,e6⟩,e7⟩,e8⟩,e9⟩,e10⟩ := e
  obtain ⟨⟨e10,e11⟩,e12⟩ := e10
  have hab : cd.abstract = false := by simpa using e2
  rw [e1,hab] at hg
  refine ⟨⟨cd.ns,h.nsMap cd.ns,⟨⟨_,_,_,_,_,_,_,_,_,_,_,_,hg⟩,.of_isNs e3⟩,e4,e5,e6,fun k hk => ?_,eq_of_beq e8,fun m f hm => ?_⟩,⟨_,sY h _,e10,eq_of_beq e11,eq_of_beq e12⟩⟩
  ·have := List.all_eq_true.mp e7 k (List.mem_range.mpr (by omega))
   simpa using this
  ·have := List.all_eq_true.mp e9 m (Ph m)
   rw [hm] at this
   exact eq_of_beq this
theorem DX {h : Heap} (e0 : classOk h 0 = true) (e1 : classOk h 1 = true) : ∀ c,vH aQ h c
 | 0 => qJ e0
 | 1 => qJ e1
 | c + 2 => by
  obtain ⟨⟨N,mN,a1,a2,a3,a4,a5,a6,_⟩,b⟩ := qJ e1
  exact ⟨⟨N,mN,a1,a2,a3,a4,a5,a6,fun m f hm => by cases m <;> cases hm⟩,b⟩
noncomputable def Pr (h : Heap) : Bool := match tG h jq [.type "Exception",.type "BaseException",.type "object"] "Exception.__new__" with
 | some cd => h.isNs cd.ns && (h.nsMap cd.ns "__init__").isNone
 | none => false
theorem Pq {h : Heap} (e : Pr h = true) : oW h := by
 unfold Pr at e
 cases hcd : tG h jq [.type "Exception",.type "BaseException",.type "object"] "Exception.__new__" with
 | none => rw [hcd] at e; exact qD e
 | some cd =>
  rw [hcd] at e
  obtain ⟨dd,k0,k1,k2,k3,k5,hg⟩ := zA hcd
  simp only [Bool.and_eq_true,Option.isNone_iff_eq_none] at e
  exact ⟨PySem.F.excBase_Exception,by decide +kernel,e.2,hg,.of_isNs e.1,.base⟩
noncomputable def aaj : List Mi := [.eX,.bytes_,.pX,.int_,.bool_,.Gp,.Cz]
theorem Ei (b : Mi) : b ∈ aaj := by cases b <;> (repeat first | exact .head _ | apply List.Mem.tail)
noncomputable def acW : Option Value -> Bool
 | some (.int i _) => i == 47
 | _ => false
theorem Vu {o : Option Value} (e : acW o = true) : ∃ t,o = some (.int 47 t) := by
 cases o with
 | none => exact qD e
 | some v => cases v with
  | int i t => exact ⟨t,congrArg (fun i => some (Value.int i t)) (eq_of_beq e)⟩
  | _ => exact qD e
noncomputable def Ak (h : Heap) : Bool := h.isNs mainNs && (List.range 28).all (fun f => !Dz f || h.nsMap mainNs (fNm f) == some (.ref (aQ f))) && h.nsMap mainNs "Expression" == some (.ref 92) && h.nsMap mainNs "Pattern" == some (.ref 241) &&
 h.nsMap mainNs "MalformedPattern" == some (.ref jq) && acW (h.nsMap mainNs "_SLASH") && h.nsMap mainNs "_POSIX_CLASSES" == some (.ref o8) && aaj.all (fun b => (h.nsMap mainNs (uG b)).isNone) && (h.nsMap mainNs "range").isNone &&
 h.isNs builtinsNs && aaj.all (fun b => h.nsMap builtinsNs (uG b) == some (Ek b)) && h.nsMap builtinsNs "range" == some (.type "range")
theorem K9 {h : Heap} (e : Ak h = true) : tL aQ h mainNs := by
 simp only [Ak,Bool.and_eq_true,Option.isNone_iff_eq_none] at e
 obtain ⟨⟨⟨⟨⟨⟨⟨⟨⟨⟨⟨e1,e2⟩,e3⟩,e4⟩,e5⟩,e6⟩,e7⟩,e8⟩,e9⟩,e10⟩,e11⟩,e12⟩ := e
 refine ⟨⟨h.nsMap mainNs,.of_isNs e1,fun f hf => ?_,fun c => ?_,eq_of_beq e5,Vu e6,eq_of_beq e7,fun b => ?_,e9⟩,⟨h.nsMap builtinsNs,.of_isNs e10,fun b => ?_,eq_of_beq e12⟩⟩
 ·have hlt : f < 28 := by
   unfold Dz at hf
   simp only [Bool.or_eq_true,Bool.and_eq_true,decide_eq_true_eq] at hf
   omega
  have := List.all_eq_true.mp e2 f (List.mem_range.mpr hlt)
  rw [hf] at this
  exact eq_of_beq (by simpa using this)
 ·cases c with
  | zero => exact eq_of_beq e3
  | succ c => exact eq_of_beq e4
 ·have := List.all_eq_true.mp e8 b (Ei b)
  simpa using this
 ·exact eq_of_beq (List.all_eq_true.mp e11 b (Ei b))
noncomputable def M8 (h : Heap) : Bool := noLimitOk h && ZK h && Pr h && Ak h && (h.get? sysModules).isSome && classOk h 0 && classOk h 1 && (List.range 28).all (fun f => (fdOf h (aQ f)).isSome) && rz h 278 nP 1 false
noncomputable def rZ (h : Heap) : Bool := M8 h && (S5 h).all id
theorem JW {w : World} {prog : Program} {h : Heap} (e : rZ h = true) (hp : cY prog w h) : TopAll prog w aQ mainNs h /\ ∃ fd body,rO h mainNs 278 fd body nP 1 [] /\ Um (nP.map some) fd.scope dg body = true := by
 have eo := gH e
 have e := aR e
 have e9 := gH e
 have e8 := gH (aR e)
 have e2 := gH (aR (aR (aR (aR (aR (aR (aR e)))))))
 have hl := Gl (aR (aR (aR (aR (aR (aR (aR (aR e))))))))
 refine ⟨⟨⟨Pq (gH (aR (aR (aR (aR (aR (aR e))))))),fun f gQ hf => ?_⟩,K9 (gH (aR (aR (aR (aR (aR e)))))),hp,Option.isSome_iff_exists.mp (gH (aR (aR (aR (aR e))))),DX (gH (aR (aR (aR e)))) (gH (aR (aR e))),fun f => ?_⟩,?_⟩
 ·have hlt := adR hf
  have hc := List.all_eq_true.mp e2 f (List.mem_range.mpr hlt)
  rw [hf] at hc
  dsimp only at hc
  have ho : Ym h f = true := List.all_eq_true.mp (gH eo) _ (List.mem_map.mpr ⟨f,List.mem_range.mpr hlt,rfl⟩)
  unfold Ym at ho
  rw [hf] at ho
  obtain ⟨f1,f2,f3⟩ := Sy f hlt gQ hf
  by_cases h6 : f = 6
  ·subst h6
   obtain ⟨fd,body,F,hb⟩ := Dp hl hc ho
   exact ⟨fd,body,Cu 6,f1,.inr ⟨F,f3 rfl,hb⟩⟩
  ·have h6' : (f == 6) = false := by simpa using h6
   rw [h6'] at hc
   simp only [Bool.false_eq_true,if_false] at hc
   obtain ⟨fd,body,F,hb⟩ := uw hl hc ho
   refine ⟨fd,body,Cu f,f1,.inl ⟨_,F,fun h ρ => ?_,hb⟩⟩
   rw [f2]
   cases V0 f
   ·exact .nil
   ·exact .cons (.bool false) .nil
 ·have key : ∀ g,g < 28 -> ∃ o fd,h.get? (aQ g) = some o /\ o.cls = .type "function" /\ o.data = .func fd := fun g hg => by
   have := List.all_eq_true.mp e8 g (List.mem_range.mpr hg)
   obtain ⟨fd,hfd⟩ := Option.isSome_iff_exists.mp this
   obtain ⟨o,q1,q2,q3⟩ := pD hfd
   exact ⟨o,fd,q1,q2,q3⟩
  rcases Nat.lt_or_ge f 28 with q | q
  ·exact key f q
  ·have : aQ f = aQ 27 := by
    obtain ⟨k,rfl⟩ : ∃ k,f = k + 28 := ⟨f - 28,by omega⟩
    rfl
   rw [this]; exact key 27 (by omega)
 ·obtain ⟨fd,body,F,hb⟩ := uw hl e9 (aR eo)
  exact ⟨fd,body,by simpa using F,hb⟩
end Mine
end
section
open PySem PySem.W PyProof.Rows
namespace Mine
noncomputable def Aft {α : Type} (Q : α -> Pos -> Shared -> Prop) (E : Value -> Pos -> Shared -> Prop) : Except Value α -> Pos -> Shared -> Prop
 | .ok a => Q a
 | .error e => E e
set_option genCtorIdx false in
inductive Tr where
 | tip
 | leaf (o : Obj)
 | bin (l r : Tr)
noncomputable def Tr.l (t : Tr) : Tr := t.casesOn .tip (fun _ => .tip) fun l _ => l
noncomputable def Tr.r (t : Tr) : Tr := t.casesOn .tip (fun _ => .tip) fun _ r => r
noncomputable def Tr.v (t : Tr) : Option Obj := t.casesOn none (fun o => some o) fun _ _ => none
noncomputable def Tr.get (d : Nat) : Tr -> Nat -> Option Obj := Nat.rec (motive := fun _ => Tr -> Nat -> Option Obj) (fun t _ => t.v) (fun _ ih t a => cond (Nat.beq (Nat.mod a 2) 0) (ih t.l (Nat.div a 2)) (ih t.r (Nat.div a 2))) d
noncomputable def Tr.set (o : Obj) (d : Nat) : Tr -> Nat -> Tr := Nat.rec (motive := fun _ => Tr -> Nat -> Tr) (fun _ _ => .leaf o) (fun _ ih t a => cond (Nat.beq (Nat.mod a 2) 0) (.bin (ih t.l (Nat.div a 2)) t.r) (.bin t.l (ih t.r (Nat.div a 2)))) d
theorem Rh {d : Nat} {t : Tr} {a : Nat} : Tr.get (d + 1) t a = cond (Nat.beq (Nat.mod a 2) 0) (Tr.get d t.l (Nat.div a 2)) (Tr.get d t.r (Nat.div a 2)) := rfl
theorem WT {o : Obj} {d : Nat} {t : Tr} {a : Nat} : Tr.set o (d + 1) t a = cond (Nat.beq (Nat.mod a 2) 0) (.bin (Tr.set o d t.l (Nat.div a 2)) t.r) (.bin t.l (Tr.set o d t.r (Nat.div a 2))) := rfl
theorem rm {o : Obj} (d : Nat) : ∀ t a,Tr.get d (Tr.set o d t a) a = some o := by
 induction d with
 | zero => exact fun _ _ => rfl
 | succ d ih =>
  intro t a
  rw [Rh,WT]
  cases Nat.beq (Nat.mod a 2) 0
  ·exact ih _ _
  ·exact ih _ _
theorem half_lt {a d : Nat} (h : a < 2 ^ (d + 1)) : Nat.div a 2 < 2 ^ d := Nat.div_lt_of_lt_mul (by rw [Nat.mul_comm]; exact h)
theorem Je {a b c : Nat} (ha : a % 2 = c) (hb : b % 2 = c) (h : a ≠ b) : Nat.div a 2 ≠ Nat.div b 2 := fun e => h (by
 rw [<- Nat.div_add_mod a 2,<- Nat.div_add_mod b 2,ha,hb]
 exact congrArg (2 * · + c) e)
theorem Og {a : Nat} (h : Nat.beq (Nat.mod a 2) 0 = false) : a % 2 = 1 := (Nat.mod_two_eq_zero_or_one a).resolve_left fun e => by
 have : Nat.beq (a % 2) 0 = false := h
 rw [e] at this; cases this
theorem Al {o : Obj} (d : Nat) : ∀ t a b,a < 2 ^ d -> b < 2 ^ d -> a ≠ b -> Tr.get d (Tr.set o d t a) b = Tr.get d t b := by
 induction d with
 | zero => exact fun _ a b h1 h2 h3 => absurd ((Nat.lt_one_iff.mp h1).trans (Nat.lt_one_iff.mp h2).symm) h3
 | succ d ih =>
  intro t a b h1 h2 h3
  rw [Rh,Rh,WT]
  cases ha : Nat.beq (Nat.mod a 2) 0 <;> cases hb : Nat.beq (Nat.mod b 2) 0
  ·exact ih _ _ _ (half_lt h1) (half_lt h2) (Je (Og ha) (Og hb) h3)
  ·rfl
  ·rfl
  ·exact ih _ _ _ (half_lt h1) (half_lt h2) (Je (Nat.eq_of_beq_eq_true ha) (Nat.eq_of_beq_eq_true hb) h3)
structure FS where
 tr : Tr
 n : Nat
 toks : Nat
noncomputable def FS.raw (x : FS) (a : Nat) : Option Obj := cond (Nat.blt a x.n) (Tr.get 9 x.tr a) none
noncomputable def alv (o : Option Obj) : Option Obj := match o with
 | some ⟨_,_,.freed,_⟩ => none
 | o => o
noncomputable def FS.get? (x : FS) (a : Nat) : Option Obj := alv (x.raw a)
noncomputable def FS.push (x : FS) (o : Obj) : FS := ⟨Tr.set o 9 x.tr x.n,x.n + 1,x.toks⟩
noncomputable def FS.upd (x : FS) (a : Nat) (f : Obj -> Obj) : FS := match x.raw a with
 | some o => ⟨Tr.set (f o) 9 x.tr a,x.n,x.toks⟩
 | none => x
noncomputable def FS.arr (x : FS) : Array Obj := ((List.range x.n).map fun a => (Tr.get 9 x.tr a).getD default).toArray
noncomputable def sh (b : Shared) (x : FS) : Shared := { b with heap := ⟨x.arr,b.heap.life⟩,toks := x.toks }
structure WF (x : FS) : Prop where
 le : x.n <= 2 ^ 9
 all : ∀ a,a < x.n -> ∃ o,Tr.get 9 x.tr a = some o
theorem VH {h : Heap} {a : Nat} : h.get? a = alv h.objs[a]? := by
 unfold Heap.get?
 cases h.objs[a]? with
 | none => rfl
 | some o =>
  obtain ⟨c,d,q,s⟩ := o
  cases q <;> rfl
theorem lK {x : FS} {a : Nat} (h : a < x.n) : x.raw a = Tr.get 9 x.tr a := by
 unfold FS.raw
 rw [show Nat.blt a x.n = true from Nat.ble_eq_true_of_le h]; rfl
theorem ql {x : FS} {a : Nat} (h : ¬ a < x.n) : x.raw a = none := by
 unfold FS.raw
 cases e : Nat.blt a x.n
 ·rfl
 ·exact absurd (Nat.le_of_ble_eq_true e) h
theorem pL {x : FS} (w : WF x) {a : Nat} : x.arr[a]? = x.raw a := by
 unfold FS.arr
 rw [List.getElem?_toArray,List.getElem?_map]
 by_cases h : a < x.n
 ·obtain ⟨o,e⟩ := w.all a h
  rw [List.getElem?_range h,lK h,e]
  show some ((Tr.get 9 x.tr a).getD default) = _
  rw [e]; rfl
 ·rw [ql h,List.getElem?_eq_none (by rw [List.length_range]; exact Nat.le_of_not_lt h)]; rfl
theorem xu {x : FS} : x.arr.size = x.n := by
 unfold FS.arr
 rw [List.size_toArray,List.length_map,List.length_range]
theorem Fw {b : Shared} {x : FS} (w : WF x) {a : Nat} : (sh b x).heap.get? a = x.get? a := VH.trans (congrArg alv (pL w))
theorem Ci {x : FS} {o : Obj} (h : x.n < 2 ^ 9) {a : Nat} : (x.push o).raw a = if a = x.n then some o else x.raw a := by
 by_cases e : a = x.n
 ·subst e
  rw [if_pos rfl]
  exact (lK (x := x.push o) (Nat.lt_succ_self _)).trans (rm _ _ _)
 ·rw [if_neg e]
  by_cases q : a < x.n
  ·exact (lK (x := x.push o) (Nat.lt_succ_of_lt q)).trans ((Al _ _ _ _ h (Nat.lt_trans q h) (Ne.symm e)).trans (lK q).symm)
  ·exact (ql (x := x.push o) fun k => e (Nat.le_antisymm (Nat.le_of_lt_succ k) (Nat.le_of_not_lt q))).trans (ql q).symm
theorem Ii {x : FS} {o : Obj} (w : WF x) (h : x.n < 2 ^ 9) : WF (x.push o) /\ (x.push o).arr = x.arr.push o := by
 have w' : WF (x.push o) := ⟨h,fun a ha => by
  have e := Ci (o := o) h (a := a)
  rw [lK ha] at e
  by_cases q : a = x.n
  ·exact ⟨o,e.trans (if_pos q)⟩
  ·have q' : a < x.n := Nat.lt_of_le_of_ne (Nat.le_of_lt_succ ha) q
   obtain ⟨o',e'⟩ := w.all a q'
   exact ⟨o',e.trans ((if_neg q).trans ((lK q').trans e'))⟩⟩
 refine ⟨w',Array.ext_getElem? fun a => ?_⟩
 rw [pL w',Ci h,Array.getElem?_push,xu,pL w]
theorem XJ {x : FS} {a : Nat} {f : Obj -> Obj} (w : WF x) (h : (x.get? a).isSome = true) : WF (x.upd a f) /\ (x.upd a f).arr = x.arr.modify a f := by
 unfold FS.upd
 cases e : x.raw a with
 | none =>
  unfold FS.get? at h
  rw [e] at h; cases h
 | some o =>
  have ha : a < x.n := Decidable.byContradiction fun k => by rw [ql k] at e; cases e
  have hb := Nat.lt_of_lt_of_le ha w.le
  have w' : WF ⟨Tr.set (f o) 9 x.tr a,x.n,x.toks⟩ := ⟨w.le,fun c hc => by
   by_cases q : a = c
   ·subst q; exact ⟨_,rm _ _ _⟩
   ·obtain ⟨o',e'⟩ := w.all c hc
    exact ⟨o',(Al _ _ _ _ hb (Nat.lt_of_lt_of_le hc w.le) q).trans e'⟩⟩
  refine ⟨w',Array.ext_getElem? fun c => ?_⟩
  show (FS.mk (Tr.set (f o) 9 x.tr a) x.n x.toks).arr[c]? = _
  rw [pL w',Array.getElem?_modify,pL w]
  by_cases q : a = c
  ·subst q
   rw [if_pos rfl,e]
   exact (lK (x := ⟨Tr.set (f o) 9 x.tr a,x.n,x.toks⟩) ha).trans (rm _ _ _)
  ·rw [if_neg q]
   by_cases k : c < x.n
   ·exact (lK (x := ⟨Tr.set (f o) 9 x.tr a,x.n,x.toks⟩) k).trans ((Al _ _ _ _ hb (Nat.lt_of_lt_of_le k w.le) q).trans (lK k).symm)
   ·exact (ql (x := ⟨Tr.set (f o) 9 x.tr a,x.n,x.toks⟩) k).trans (ql k).symm
noncomputable def bld : List Obj -> Nat -> Tr -> Tr
 | [],_,t => t
 | o :: l,i,t => bld l (i + 1) (Tr.set o 9 t i)
theorem VG {l : List Obj} : ∀ {i : Nat} {t : Tr} {a : Nat},i + l.length <= 2 ^ 9 -> a < i + l.length -> Tr.get 9 (bld l i t) a = if a < i then Tr.get 9 t a else l[a - i]? := by
 induction l with
 | nil => exact fun _ h => (if_pos h).symm
 | cons o l ih =>
  intro i t a h1 h2
  have h3 : i + 1 + l.length = i + (o :: l).length := by rw [List.length_cons,Nat.add_assoc,Nat.add_comm 1]
  refine (ih (t := Tr.set o 9 t i) (h3 ▸ h1) (h3 ▸ h2)).trans ?_
  have hi : i < 2 ^ 9 := Nat.lt_of_lt_of_le (Nat.lt_add_of_pos_right (Nat.succ_pos _)) h1
  rcases Nat.lt_trichotomy a i with q | q | q
  ·rw [if_pos (Nat.lt_succ_of_lt q),if_pos q]; exact Al _ _ _ _ hi (Nat.lt_trans q hi) (Nat.ne_of_gt q)
  ·subst q; rw [if_pos (Nat.lt_succ_self _),if_neg (Nat.lt_irrefl _),Nat.sub_self]; exact rm _ _ _
  ·rw [if_neg (Nat.not_lt_of_le q),if_neg (Nat.not_lt_of_lt q)]
   obtain ⟨k,rfl⟩ := Nat.exists_eq_add_of_lt q
   rw [Nat.add_assoc,Nat.add_sub_cancel_left,Nat.add_comm k,<- Nat.add_assoc,Nat.add_sub_cancel_left,Nat.add_comm 1 k]; rfl
noncomputable def FS.of (s : Shared) : FS := ⟨bld s.heap.objs.toList 0 .tip,s.heap.objs.size,s.toks⟩
theorem of_ok {s : Shared} (h : s.heap.objs.size <= 2 ^ 9) : WF (FS.of s) /\ sh s (FS.of s) = s := by
 have g : ∀ a,a < s.heap.objs.size -> Tr.get 9 (FS.of s).tr a = s.heap.objs[a]? := fun a ha => by
  refine (VG (l := s.heap.objs.toList) (i := 0) (by rw [Nat.zero_add]; exact h) (by rw [Nat.zero_add]; exact ha)).trans ?_
  rw [if_neg (Nat.not_lt_zero _),Nat.sub_zero,Array.getElem?_toList]
 have w : WF (FS.of s) := ⟨h,fun a ha => ⟨_,(g a ha).trans (Array.getElem?_eq_getElem ha)⟩⟩
 refine ⟨w,?_⟩
 have e : (FS.of s).arr = s.heap.objs := Array.ext_getElem? fun a => by
  rw [pL w]
  by_cases q : a < s.heap.objs.size
  ·exact (lK (x := FS.of s) q).trans (g a q)
  ·rw [Array.getElem?_eq_none (Nat.le_of_not_lt q)]; exact ql (x := FS.of s) q
 unfold sh
 rw [e]; rfl
noncomputable def goOn (ev : PySem.Ctx -> Sem Fin -> Pos -> FS -> Option (Except Value Fin × Pos × FS)) (M : Model) : Nat -> PySem.Ctx -> Pos -> FS -> Option (Result × FS)
 | 0,_,_,_ => none
 | m + 1,Γ,p,s => match ev Γ (M.den Γ.code) p s with
  | some (.ok (.done f),_,s') => some (.ok f,s')
  | some (.ok (.again c),p',s') => match c.quiet with
   | true => goOn ev M m (Γ.goto c) p' s'
   | false => none
  | some (.error e,_,s') => some (.error e,s')
  | none => none
noncomputable def uU (M : Model) (n₀ : Nat) : Nat -> (α : Type) -> PySem.Ctx -> Sem α -> Pos -> FS -> Option (Except Value α × Pos × FS)
 | 0,_,_,_,_,_ => none
 | n + 1,α,Γ,t,p,s => match t with
  | .pure a => some (.ok a,p,s)
  | .raise e => some (.error e,p,s)
  | .rule _ k => uU M n₀ n α Γ (k ()) p s
  | .at p' k => uU M n₀ n α Γ (k ()) p' s
  | .load a _ k => match s.get? a with
   | some o => uU M n₀ n α Γ (k o) p s
   | none => none
  | .update a _ f k => match (s.get? a).isSome && (Nat.ble n₀ a || a == mainNs || a == cStatics) with
   | true => uU M n₀ n α Γ (k ()) p (s.upd a f)
   | false => none
  | .loadIfAlive a k => uU M n₀ n α Γ (k (s.get? a)) p s
  | .point _ k => uU M n₀ n α Γ (k ()) p s
  | .alloc o k => match Nat.blt s.n (2 ^ 9) with
   | true => uU M n₀ n α Γ (k s.n) p (s.push o)
   | false => none
  | .fresh k => uU M n₀ n α Γ (k s.toks) p { s with toks := s.toks + 1 }
  | .ask k => uU M n₀ n α Γ (k ⟨M.prog,M.w.params⟩) p s
  | .handled own k => uU M n₀ n α Γ (k (if own then Γ.own else Γ.handled)) p s
  | .stack k => uU M n₀ n α Γ (k ((Γ.code,p) :: Γ.below)) p s
  | .thread k => uU M n₀ n α Γ (k 0) p s
  | .call c h _ _ k => match goOn (fun Γ t p s => uU M n₀ n Fin Γ t p s) M n (Γ.enter c h p) p s with
   | some (r,s') => uU M n₀ n α Γ (k r) p s'
   | none => none
  | _ => none
structure Tc (n₀ : Nat) (s s' : Shared) : Prop where
 eq : s' = { s with heap := s'.heap,toks := s'.toks }
 life : s'.heap.life = s.heap.life
 old : ∀ b o,b < n₀ -> b ≠ mainNs -> b ≠ cStatics -> s.heap.get? b = some o -> s'.heap.get? b = some o
theorem Tc.refl {n₀ : Nat} {s : Shared} : Tc n₀ s s := ⟨rfl,rfl,fun _ _ _ _ _ h => h⟩
theorem Tc.trans {n₀ : Nat} {s s₁ s₂ : Shared} (a : Tc n₀ s s₁) (b : Tc n₀ s₁ s₂) : Tc n₀ s s₂ :=
 ⟨by rw [b.eq,a.eq],b.life.trans a.life,fun c o h1 h2 h3 h4 => b.old c o h1 h2 h3 (a.old c o h1 h2 h3 h4)⟩
def qK {α : Type} (M : Model) (n₀ : Nat) (Γ : PySem.Ctx) (t : Sem α) (p : Pos) (s : Shared) (r : Except Value α) (p' : Pos) (s' : Shared) : Prop := Tc n₀ s s' /\ ∀ (Q : α -> Pos -> Shared -> Prop) (E : Value -> Pos -> Shared -> Prop),Aft Q E r p' s' -> Sem.wp M Γ t Q E p s
def Sh (M : Model) (n₀ : Nat) (Γ : PySem.Ctx) (p : Pos) (s : Shared) (r : Result) (s' : Shared) : Prop := Tc n₀ s s' /\ ∀ R : Result -> Shared -> Prop,R r s' -> wpCode M Γ R p s
theorem Sh.of {M : Model} {n₀ : Nat} {Γ : PySem.Ctx} {p p' : Pos} {s s' : Shared} {x : Except Value Fin} {r : Result} {s'' : Shared} (a : qK M n₀ Γ (M.den Γ.code) p s x p' s') (f : Tc n₀ s' s'') (k : ∀ R : Result -> Shared -> Prop,R r s'' -> Aft (Sem.finPost M Γ R) (fun e _ s' => R (.error e) s') x p' s') : Sh M n₀ Γ p s r s'' := ⟨a.1.trans f,fun R hR => (wpCode_iff_wp M Γ R p s).mpr (a.2 _ _ (k R hR))⟩
theorem G4 {M : Model} {n₀ : Nat} {b : Shared} {ev : PySem.Ctx -> Sem Fin -> Pos -> FS -> Option (Except Value Fin × Pos × FS)}
  (hev : ∀ Γ t p s r p' s',WF s -> ev Γ t p s = some (r,p',s') -> WF s' /\ qK M n₀ Γ t p (sh b s) r p' (sh b s')) (m : Nat) : ∀ Γ p s r s',WF s -> goOn ev M m Γ p s = some (r,s') -> WF s' /\ Sh M n₀ Γ p (sh b s) r (sh b s') := by
 induction m with
 | zero => exact fun _ _ _ _ _ _ h => nomatch h
 | succ m ih =>
  intro Γ p s r s' wf h
  have h : (match ev Γ (M.den Γ.code) p s with
   | some (.ok (.done f),_,s') => some (Except.ok f,s')
   | some (.ok (.again c),p',s') => match c.quiet with
    | true => goOn ev M m (Γ.goto c) p' s'
    | false => none
   | some (.error e,_,s') => some (.error e,s')
   | none => none) = some (r,s') := h
  cases he : ev Γ (M.den Γ.code) p s with
  | none => rw [he] at h; cases h
  | some x =>
   obtain ⟨x,p1,s1⟩ := x
   rw [he] at h
   obtain ⟨w1,a⟩ := hev _ _ _ _ _ _ _ wf he
   cases x with
   | error e => cases h; exact ⟨w1,.of a .refl fun R hR => hR⟩
   | ok x => cases x with
    | done f => cases h; exact ⟨w1,.of a .refl fun R hR => hR⟩
    | again c =>
     cases hq : c.quiet with
     | true =>
      have h : (match c.quiet with | true => goOn ev M m (Γ.goto c) p1 s1 | false => none) = some (r,s') := h
      rw [hq] at h
      obtain ⟨w2,a'⟩ := ih _ _ _ _ _ w1 h
      exact ⟨w2,.of a a'.1 fun R hR => ⟨hq,a'.2 R hR⟩⟩
     | false =>
      have h : (match c.quiet with | true => goOn ev M m (Γ.goto c) p1 s1 | false => none) = some (r,s') := h
      rw [hq] at h; cases h
theorem qK.up {α : Type} {M : Model} {n₀ : Nat} {Γ : PySem.Ctx} {t t' : Sem α} {p p1 p' : Pos} {s s1 s' : Shared} {r : Except Value α} (a : qK M n₀ Γ t p1 s1 r p' s') (f : Tc n₀ s s1) (k : ∀ Q E,Sem.wp M Γ t Q E p1 s1 -> Sem.wp M Γ t' Q E p s) : qK M n₀ Γ t' p s r p' s' := ⟨f.trans a.1,fun Q E x => k Q E (a.2 Q E x)⟩
theorem pK {M : Model} {n₀ : Nat} {b : Shared} (n : Nat) : ∀ α Γ (t : Sem α) p s r p' s',WF s -> uU M n₀ n α Γ t p s = some (r,p',s') -> WF s' /\ qK M n₀ Γ t p (sh b s) r p' (sh b s') := by
 induction n with
 | zero => exact fun _ _ _ _ _ _ _ _ _ h => nomatch h
 | succ n ih =>
  intro α Γ t p s r p' s' wf h
  cases t with
  | pure a => cases h; exact ⟨wf,.refl,fun Q E x => x⟩
  | raise e => cases h; exact ⟨wf,.refl,fun Q E x => x⟩
  | rule _ k => exact (fun a => ⟨a.1,a.2.up .refl fun _ _ x => x⟩) (ih _ _ _ _ _ _ _ _ wf h)
  | «at» p' k => exact (fun a => ⟨a.1,a.2.up .refl fun _ _ x => x⟩) (ih _ _ _ _ _ _ _ _ wf h)
  | load a q k =>
   have h : (match s.get? a with | some o => uU M n₀ n α Γ (k o) p s | none => none) = some (r,p',s') := h
   cases ho : s.get? a with
   | none => rw [ho] at h; cases h
   | some o =>
    rw [ho] at h
    obtain ⟨w1,a1⟩ := ih _ _ _ _ _ _ _ _ wf h
    exact ⟨w1,a1.up .refl fun _ _ x => ⟨o,(Fw wf).trans ho,x⟩⟩
  | update a q f k =>
   have h : (match (s.get? a).isSome && (Nat.ble n₀ a || a == mainNs || a == cStatics) with
    | true => uU M n₀ n α Γ (k ()) p (s.upd a f) | false => none) = some (r,p',s') := h
   cases hc : (s.get? a).isSome && (Nat.ble n₀ a || a == mainNs || a == cStatics) with
   | false => rw [hc] at h; cases h
   | true =>
    rw [hc] at h
    obtain ⟨hs,hc⟩ := Bool.and_eq_true_iff.mp hc
    obtain ⟨w1,e1⟩ := XJ (f := f) wf hs
    obtain ⟨w2,a2⟩ := ih _ _ _ _ _ _ _ _ w1 h
    have e2 : sh b (s.upd a f) = { sh b s with heap := (sh b s).heap.update a f } := by
     have : (s.upd a f).toks = s.toks := by unfold FS.upd; cases s.raw a <;> rfl
     unfold sh
     rw [e1,this]; rfl
    rw [e2] at a2
    refine ⟨w2,a2.up ⟨rfl,rfl,fun b o h1 h2 h3 h4 => (Heap.get?_update_ne _ _ _ _ fun q => ?_).trans h4⟩ fun _ _ x => ⟨by rw [Fw wf]; exact hs,x⟩⟩
    subst q
    rcases Bool.or_eq_true_iff.mp hc with q | q
    ·rcases Bool.or_eq_true_iff.mp q with q | q
     ·exact absurd h1 (Nat.not_lt.mpr (Nat.le_of_ble_eq_true q))
     ·exact h2 (eq_of_beq q)
    ·exact h3 (eq_of_beq q)
  | loadIfAlive a k =>
   obtain ⟨w1,a1⟩ := ih _ _ _ _ _ _ _ _ wf h
   exact ⟨w1,a1.up .refl fun Q E x => by
    show Sem.wp M Γ (k ((sh b s).heap.get? a)) Q E p (sh b s)
    rw [Fw wf]; exact x⟩
  | point q k => exact (fun a => ⟨a.1,a.2.up .refl fun _ _ x => x⟩) (ih _ _ _ _ _ _ _ _ wf h)
  | alloc o k =>
   have h : (match Nat.blt s.n (2 ^ 9) with | true => uU M n₀ n α Γ (k s.n) p (s.push o) | false => none) = some (r,p',s') := h
   cases hc : Nat.blt s.n (2 ^ 9) with
   | false => rw [hc] at h; cases h
   | true =>
    rw [hc] at h
    obtain ⟨w1,e1⟩ := Ii (o := o) wf (Nat.le_of_ble_eq_true hc)
    obtain ⟨w2,a2⟩ := ih _ _ _ _ _ _ _ _ w1 h
    have e2 : sh b (s.push o) = { sh b s with heap := (sh b s).heap.push o } := by
     unfold sh
     rw [e1]; rfl
    rw [e2] at a2
    exact ⟨w2,a2.up ⟨rfl,Heap.life_push _ _,fun c o' _ _ _ h4 => Heap.get?_push_of_some _ h4⟩ fun Q E x => by
     show Sem.wp M Γ (k (sh b s).heap.objs.size) Q E p { sh b s with heap := (sh b s).heap.push o }
     rw [show (sh b s).heap.objs.size = s.n from xu]; exact x⟩
  | fresh k =>
   obtain ⟨w1,a1⟩ := ih _ _ _ _ { s with toks := s.toks + 1 } _ _ _ ⟨wf.le,wf.all⟩ h
   exact ⟨w1,a1.up ⟨rfl,rfl,fun _ _ _ _ _ h4 => h4⟩ fun _ _ x => x⟩
  | ask k => exact (fun a => ⟨a.1,a.2.up .refl fun _ _ x => x⟩) (ih _ _ _ _ _ _ _ _ wf h)
  | handled own k => exact (fun a => ⟨a.1,a.2.up .refl fun _ _ x => x⟩) (ih _ _ _ _ _ _ _ _ wf h)
  | stack k => exact (fun a => ⟨a.1,a.2.up .refl fun _ _ x => x⟩) (ih _ _ _ _ _ _ _ _ wf h)
  | thread k => exact (fun a => ⟨a.1,a.2.up .refl fun _ _ x => x⟩) (ih _ _ _ _ _ _ _ _ wf h)
  | call c hd q1 q2 k =>
   have h : (match goOn (fun Γ t p s => uU M n₀ n Fin Γ t p s) M n (Γ.enter c hd p) p s with
    | some (r1,s1) => uU M n₀ n α Γ (k r1) p s1 | none => none) = some (r,p',s') := h
   cases hg : goOn (fun Γ t p s => uU M n₀ n Fin Γ t p s) M n (Γ.enter c hd p) p s with
   | none => rw [hg] at h; cases h
   | some x =>
    obtain ⟨r1,s1⟩ := x
    rw [hg] at h
    obtain ⟨w1,a⟩ := G4 (ih Fin) _ _ _ _ _ _ wf hg
    obtain ⟨w2,a2⟩ := ih _ _ _ _ _ _ _ _ w1 h
    exact ⟨w2,a2.up a.1 fun _ _ x => a.2 _ x⟩
  | _ => cases h
noncomputable abbrev PW : Program := PySem.Challenge.pw_iy0009_01
noncomputable def MT (w : World) : Model := ⟨denote treeTable,PW,w⟩
noncomputable def c0 : Code := .builtin "claim.caller" {}
noncomputable def Γ0 : PySem.Ctx := ⟨c0,none,none,[],none⟩
noncomputable def BJ : Sem (Value × Addr) := do
 let code <- moduleCode PW.main
 let frame <- newBodyFrame code mainNs mainNs
 pure (code,frame)
noncomputable def env0 (code : Value) (frame : Addr) : Env := { scope := PW.main.scope,locals := mainNs,globals := mainNs,cells := [],code,frame := some frame }
@[irreducible] noncomputable def stA : List Stmt := PW.main.body.take 8
noncomputable def Γ1 (p : Pos) (code : Value) (frame : Addr) : PySem.Ctx := Γ0.enter (.body (behindTheImports PW) (env0 code frame)) none p
noncomputable def HY (code : Value) (frame : Addr) : Sem Flow := do
 blockStart (behindTheImports PW) (env0 code frame)
 execs stA (env0 code frame)
@[irreducible] noncomputable def nU : Stmt := PW.main.body.getD 8 (.Pass default)
@[irreducible] noncomputable def stC : List Stmt := PW.main.body.drop 9
@[irreducible] noncomputable def eF : Stmt -> List PySem.Expr × PySem.Expr × Pos
 | .Assign ts v pos => (ts,v,pos)
 | _ => ([],.Constant .none 0 default,default)
noncomputable def Bx (env : Env) : Sem Bool := do
 standAt (eF nU).2.2
 swapsWithSole (eF nU).1 (eF nU).2.1 (eF nU).2.2.line env
noncomputable def Bw (v : Value) (env : Env) : Sem Flow := do
 match <- assignStores env v (<- swappedStores (eF nU).1 (eF nU).2.1 env) ((assignEach (eF nU).1 env).map (·.2)) with
  | .next => execs stC env
  | f => pure f
theorem wM {den : Code -> Sem Fin} {prog : Program} {w : World} {o : Outcome} {s'' : Shared} : ∀ n s t,PySem.runN den prog w n s t = .halted o s'' -> ∃ m s1 t1,PySem.runN den prog w m s t = .running s1 t1 /\ step den prog w s1 t1 = .halt o s''
 | 0,s,t,h => by cases h
 | n + 1,s,t,h => by
  unfold PySem.runN at h
  cases hs : step den prog w s t with
  | go s2 t2 =>
   rw [hs] at h
   obtain ⟨m,s1,t1,h1,h2⟩ := wM n s2 t2 h
   exact ⟨m + 1,s1,t1,by unfold PySem.runN; rw [hs]; exact h1,h2⟩
  | halt o2 s2 =>
   rw [hs] at h
   injection h with h1 h2
   subst h1 h2
   exact ⟨0,s,t,rfl,hs⟩
theorem xV {M : Model} {t : Sem Fin} {c : Code} {p : Pos} {s : Shared} {R : Result -> Shared -> Prop} (hreg : s.asleep)
  (h : Sem.wp M ⟨c,none,none,[],none⟩ t (Sem.finPost M ⟨c,none,none,[],none⟩ fun r s' => R r s' /\ s'.gens = #[]) (fun e _ s' => R (.error e) s' /\ s'.gens = #[]) p s) :
  ∃ n r s' t',schedN M.den M.prog M.w n (.single s ⟨t,c,p,[]⟩) = .running (.single s' t') /\ t'.cur = leafOf r /\ t'.stack = [] /\ R r s' /\ s'.gens = #[] /\ s'.heap.life = s.heap.life := by
 have hl0 : leftWithCleanup (#[] : Array GenState) = false := by decide +kernel
 obtain ⟨n,r,s',hn,hR,hg⟩ := (wp_iff_halts t (fun r s' => R r s' /\ s'.gens = #[]) p s).mp (by
  refine Sem.wp_mono M _ t ?_ ?_ p s h
  ·intro fin p' s1 hf
   cases fin with
   | done f => exact ⟨hf,by rw [hf.2]; exact hl0⟩
   | again c' =>
    obtain ⟨hq,hw⟩ := hf
    exact ⟨hq,wpCode_mono (fun r s2 hr => ⟨hr,by rw [hr.2]; exact hl0⟩) hw⟩
  ·intro v p' s1 hf
   exact ⟨hf,by rw [hf.2]; exact hl0⟩)
 obtain ⟨s'',hr,hf,hc⟩ := runNI_real M.den M.prog M.w hn (outcomeOf_ends r)
 have hne : ∀ k s₂,PySem.runN M.den M.prog M.w k s ⟨t,c,p,[]⟩ ≠ .halted (.unsupported "lifetime:generator-with-cleanup-left-suspended") s₂ := by
  intro k s₂ hk
  have a := PySem.runN_mono M.den M.prog M.w n k s _ _ s'' hr
  have b := PySem.runN_mono M.den M.prog M.w k n s _ _ s₂ hk
  rw [Nat.add_comm,b] at a
  injection a with a1 _
  cases r <;> cases a1
 obtain ⟨m,s1,t1,h1,h2⟩ := wM n s _ hr
 have hs : s'' = s1 := step_halt_same _ _ _ _ _ _ _ h2
 subst hs
 have ac1 := schedN_eq_runN M.den M.prog M.w s ⟨t,c,p,[]⟩ hreg ⟨hc,hne⟩ m
 rw [h1] at ac1
 have hgens : s''.gens = #[] := by
  have e : s''.forget.gens = s'.forget.gens := by rw [hf]
  have e2 : s''.gens.map GenState.forget = s'.gens.map GenState.forget := e
  rw [hg] at e2
  simpa using e2
 have heq : s'' = s' := by
  have e : ∀ x : Shared,x.gens = #[] -> x.forget = x := fun x hx => by
   show { x with gens := x.gens.map GenState.forget } = x
   rw [hx,Array.map_empty]; cases x; cases hx; rfl
  rw [<- e s'' hgens,<- e s' hg,hf]
 have hcalm : t1.calm = true := hc m s'' t1 h1
 have ac5 : t1.loud = false := by
  rw [Thread.calm_eq] at hcalm
  cases hh : t1.loud <;> simp_all
 have hk := stepK_forget M.den M.prog M.w s'' t1
 rw [h2] at hk
 have hM : ∃ s2,M.step s'' t1 = .halt (outcomeOf r) s2 := by
  rw [Model.step_quiet M ac5]
  cases hq : stepK M.den M.prog M.w s'' t1 with
  | go a b => rw [hq] at hk; cases hk
  | halt o2 s2 =>
   rw [hq] at hk
   injection hk with hk1 hk2
   subst hk1
   exact ⟨s2,rfl⟩
 obtain ⟨s2,hM⟩ := hM
 obtain ⟨cur,code,pos,stack⟩ := t1
 obtain ⟨a1,a2,_,_⟩ := step_halt_result hM
 refine ⟨m,r,s'',_,ac1,a1,a2,by rw [heq]; exact hR,hgens,?_⟩
 exact runN_life _ _ _ hr
end Mine
end
section
open PySem PySem.W PyProof.Rows PySem.Spec PySem.Calls PySem.Builtin
namespace Mine
noncomputable def aak (e : PySem.Expr) : Option Bs := match e with
 | .Constant c _ _ => match c with
  | .bytes a => some a
  | _ => none
 | _ => none
set_option tactic.hygienic true in
theorem Jz {e : PySem.Expr} {a : Bs} (h : aak e = some a) : ∃ k p,e = .Constant (.bytes a) k p := by
 cases e <;> first | exact cN h | skip
 rename_i c k p
 cases c <;> first | exact cN h | skip
 cases h
 exact ⟨_,_,rfl⟩
noncomputable def Xu (k : Option PySem.Expr) (v : PySem.Expr) : Option (Bs × Val) := k.bind fun k => (aak k).bind fun a => (aak v).map fun b => (a,.bytes b)
noncomputable def Hu (ks : List (Option PySem.Expr)) : List PySem.Expr -> Option (List (Bs × Val)) := ks.rec (fun vs => if vs.isEmpty then some [] else none) fun k _ ih vs => vs.head?.bind fun v => (Xu k v).bind fun x => (ih vs.tail).map (x :: ·)
theorem Gb {w : World} {A : Around} {env : Env} {pos : Pos} {E : Value -> Shared -> Prop} {h : Heap} : ∀ (ks : List (Option PySem.Expr)) (vs : List PySem.Expr) (kvs : List (Bs × Val)),Hu ks vs = some kvs -> ∀ (s : Shared) (Q : List (Value × Value) -> Shared -> Prop),(∀ r t,nM h [] kvs r -> Q r { s with toks := t }) ->
  wpAny (model PW w) A (evalPairs (pairTrees ks vs env pos)) Q E s := by
 intro ks
 induction ks with
 | nil =>
  intro vs kvs e s Q hQ
  cases vs with
  | nil => cases e; exact pairTrees_nil_walk (hQ _ s.toks .nil)
  | cons _ _ => exact cN e
 | cons k ks ih =>
  intro vs kvs e s Q hQ
  cases vs with
  | nil => exact cN e
  | cons v vs =>
   have e : ((Xu k v).bind fun x => (Hu ks vs).map (x :: ·)) = some kvs := e
   obtain ⟨x,e1,e⟩ := Option.bind_eq_some_iff.mp e
   obtain ⟨l,hb,rfl⟩ := Option.map_eq_some_iff.mp e
   obtain ⟨k',rfl,e2⟩ := Option.bind_eq_some_iff.mp e1
   obtain ⟨a,ha,e3⟩ := Option.bind_eq_some_iff.mp e2
   obtain ⟨b,hv,rfl⟩ := Option.map_eq_some_iff.mp e3
   obtain ⟨k1,p1,rfl⟩ := Jz ha
   obtain ⟨k2,p2,rfl⟩ := Jz hv
   exact pairTrees_cons_walk (Constant_bytes (Constant_bytes (ih vs l hb _ _ fun r t hr => hQ _ t (.cons (.bytes _ _) hr))))
@[irreducible] noncomputable def Jx : List (Option PySem.Expr) := match (eF nU).2.1 with | .Dict ks _ _ => ks | _ => []
@[irreducible] noncomputable def dvals : List PySem.Expr := match (eF nU).2.1 with | .Dict _ vs _ => vs | _ => []
@[irreducible] noncomputable def dpos : Pos := match (eF nU).2.1 with | .Dict _ _ p => p | _ => default
theorem VR : (eF nU).2.1 = .Dict Jx dvals dpos := by kernel_rfl
@[irreducible] noncomputable def Ba : List (Bs × Val) := (cW.zip gk).map fun x => (x.1,.bytes x.2)
theorem ZV : Jx.length = 12 := by kernel_rfl
theorem aeH : dvals.length = 12 := by kernel_rfl
theorem agn : Jx.all (·.isSome) = true := by kernel_rfl
theorem Hg : Hu Jx dvals = some Ba := by kernel_rfl
theorem VP : (Ba.map (·.1)).Nodup := by decide +kernel
theorem Jw : Ba = (cW.zip gk).map fun x => (x.1,.bytes x.2) := by unfold Ba; rfl
theorem Ju {k v : Bs} : ∀ {l : List (Bs × Bs)},l.lookup k = some v -> (l.map fun x => (x.1,Val.bytes x.2)).lookup k = some (.bytes v)
 | (a,b) :: l,e => by
  rw [List.map_cons,List.lookup_cons]
  rw [List.lookup_cons] at e
  by_cases hq : (k == a) = true
  ·rw [hq] at e; cases e; rw [hq]
  ·rw [Bool.not_eq_true] at hq; rw [hq] at e; rw [hq]; exact Ju e
theorem Jv {k : Bs} : ∀ {l : List (Bs × Bs)},l.lookup k = none -> (l.map fun x => (x.1,Val.bytes x.2)).lookup k = none
 | [],e => rfl
 | (a,b) :: l,e => by
  rw [List.map_cons,List.lookup_cons]
  rw [List.lookup_cons] at e
  by_cases hq : (k == a) = true
  ·rw [hq] at e; exact SX e
  ·rw [Bool.not_eq_true] at hq; rw [hq] at e; rw [hq]; exact Jv e
theorem Lj {w : World} {A : Around} {env : Env} {s : Shared} {Q : Value -> Shared -> Prop} {E : Value -> Shared -> Prop} (hs : s.heap.objs.size = 97)
  (h : ∀ h' t,Heap.SameBut 97 (s.heap.push { cls := .type "dict",data := .dict #[] }) h' -> cY PW w h' -> Q (.ref 97) { s with heap := h',toks := t }) :
  wpAny (model PW w) A (eval (eF nU).2.1 env) Q E s := by
 rw [VR]
 refine wpAny_Dict_walk (knd := oN PW w) agn (ZV.trans aeH.symm) (fun e => by have := ZV; rw [e] at this; cases this) (by rw [ZV]; decide) (Gb (h := s.heap) _ _ _ Hg _ _ fun r t hr => ?_)
 obtain ⟨kws,c1,c2,c3,c4,c5⟩ := nM.keys (prog := PW) (w := w) hr
 have hD : (s.heap.push { cls := .type "dict",data := .dict #[] }).get? s.heap.objs.size = some { cls := .type "dict",data := .dict #[] } := Heap.get?_push_size _ rfl
 refine ⟨kws,c1,⟨_,#[],0,hD,⟨rfl,rfl,rfl⟩,rfl,(fun e he => by simp at he),.nil,List.nodup_nil⟩,fun h' hdo hsb => ?_⟩
 rw [merged_nil_of_nodup _ (by rw [c2]; exact VP)] at hdo
 have hm := hdo.mapOf
 rw [hs] at hm hsb ⊢
 refine h h' _ hsb ⟨_,hm,fun k v e => ?_,fun k e => c5 k (by rw [Jw]; exact Jv e)⟩
 obtain ⟨u,hu,ru⟩ := c4 k (.bytes v) (by rw [Jw]; exact Ju e)
 cases ru
 exact ⟨_,hu⟩
theorem Pj (w : World) : model PW w = MT w := by unfold model MT; rw [table_eq_tree]
theorem Aq (a b : List Stmt) (env : Env) : execs (a ++ b) env = (do match <- execs a env with | .next => execs b env | f => pure f) := by
 induction a with
 | nil => rfl
 | cons s a ih =>
  rw [List.cons_append,execs_cons,execs_cons,ih]
  rw [bind_assoc]
  congr 1
  funext x
  cases x <;> rfl
theorem uf {h : Heap} {a : Addr} {o : Obj} (e : h.get? a = some o) : h.objs[a]? = some o := ((Heap.get?_eq_some h a o).mp e).1
theorem NK {h h' : Heap} {o : Obj} (hl : ∀ b,b < h.objs.size -> ∃ o,h.get? b = some o) (x : Heap.SameBut h.objs.size (h.push o) h') : ∃ o' l,h' = ⟨h.objs.push o',l⟩ := by
 obtain ⟨x1,x2⟩ := x
 have hsz : h'.objs.size = h.objs.size + 1 := by rw [x1]; exact Array.size_push ..
 have hlt : h.objs.size < h'.objs.size := by rw [hsz]; exact Nat.lt_succ_self _
 obtain ⟨o',ho'⟩ : ∃ o',o' = h'.objs[h.objs.size] := ⟨_,rfl⟩
 have : h'.objs = h.objs.push o' := by
  apply Array.ext
  ·exact hsz.trans (Array.size_push ..).symm
  ·intro i h1 h2
   have h1' := h1
   rw [hsz] at h1'
   rcases Nat.lt_succ_iff_lt_or_eq.mp h1' with q | rfl
   ·obtain ⟨o1,ho1⟩ := hl i q
    have e1 : h'.get? i = some o1 := by rw [x2 i (Nat.ne_of_lt q)]; exact Heap.get?_push_of_some _ ho1
    have e2 := uf e1
    have e3 := uf ho1
    rw [Array.getElem_push_lt q]
    rw [Array.getElem?_eq_getElem h1] at e2
    rw [Array.getElem?_eq_getElem q] at e3
    exact (Option.some.inj e2).trans (Option.some.inj e3).symm
   ·rw [Array.getElem_push_eq]; exact ho'.symm
 refine ⟨o',h'.life,?_⟩
 obtain ⟨objs,life⟩ := h'
 exact congrArg (Heap.mk · life) this
theorem X5 : nU = .Assign (eF nU).1 (eF nU).2.1 (eF nU).2.2 := by kernel_rfl
theorem Wh : behindTheImports PW = stA ++ nU :: stC := by kernel_rfl
theorem Z2 : (topStub PW).cur = (BJ >>= fun x => run (.body (behindTheImports PW) (env0 x.1 x.2)) >>= fun _ => ret .none) := by
 unfold topStub BJ env0
 simp only [bind_assoc,pure_bind]
theorem Yh {M : Model} {Γ : PySem.Ctx} {c : Code} {Q : Flow -> Pos -> Shared -> Prop} {E : Value -> Pos -> Shared -> Prop} {p : Pos} {s : Shared}
  (h : wpCode M (Γ.enter c none p) (fun r s' => match r with | .ok f => Q f p s' | .error e => E e p s') p s) : Sem.wp M Γ (run c) Q E p s := by
 unfold run
 rw [Sem.wp]
 refine wpCode_mono (fun r s' hr => ?_) h
 cases r with
 | ok f => rw [Sem.wp]; exact hr
 | error e => rw [Sem.wp]; exact hr
theorem XR {w : World} {s₀ s1 s2 s3 : Shared} {c : Addr} {f : Addr} {n₀ : Nat} {p1 p2 p3 : Pos} {R : Shared -> Prop}
  (h0 : qK (MT w) n₀ Γ0 BJ default s₀ (.ok (.ref c,f)) p1 s1)
  (hA : qK (MT w) n₀ (Γ1 p1 (.ref c) f) (HY (.ref c) f) p1 s1 (.ok .next) p2 s2)
  (hB : qK (MT w) n₀ (Γ1 p1 (.ref c) f) (Bx (env0 (.ref c) f)) p2 s2 (.ok false) p3 s3)
  (hsz : s3.heap.objs.size = 97) (hall : ∀ b,b < 97 -> ∃ o,s3.heap.get? b = some o)
  (hC : ∀ o l t p,cY PW w ⟨s3.heap.objs.push o,l⟩ -> ∃ p5 s5,qK (MT w) n₀ (Γ1 p1 (.ref c) f) (Bw (.ref 97) (env0 (.ref c) f)) p { s3 with heap := ⟨s3.heap.objs.push o,l⟩,toks := t } (.ok .next) p5 s5 /\ R s5) :
  Sem.wp (MT w) Γ0 (topStub PW).cur (Sem.finPost (MT w) Γ0 fun r s' => r = .ok (.ret .none) /\ R s') (fun e _ s' => False) default s₀ := by
 rw [Z2,Sem.wp_bind']
 refine h0.2 _ _ ?_
 show Sem.wp (MT w) Γ0 (run _ >>= fun _ => ret .none) _ _ p1 s1
 rw [Sem.wp_bind']
 refine Yh ?_
 rw [wpCode_iff_wp]
 show Sem.wp (MT w) (Γ1 p1 (.ref c) f) ((MT w).den (.body (behindTheImports PW) (env0 (.ref c) f))) _ _ p1 s1
 have hden : (MT w).den (.body (behindTheImports PW) (env0 (.ref c) f)) = (do blockStart (behindTheImports PW) (env0 (.ref c) f); return .done (<- (execs (behindTheImports PW) (env0 (.ref c) f)).onRaise (leaving (env0 (.ref c) f)))) := rfl
 have ac4 : Sem.wp (MT w) (Γ1 p1 (.ref c) f) (blockStart (behindTheImports PW) (env0 (.ref c) f)) (fun _ p s => Sem.wp (MT w) (Γ1 p1 (.ref c) f) (execs (behindTheImports PW) (env0 (.ref c) f)) (fun fl _ s => fl = .next /\ R s) (fun _ _ _ => False) p s) (fun _ _ _ => False) p1 s1 := by
  have hA' := hA.2 (fun fl p s => Sem.wp (MT w) (Γ1 p1 (.ref c) f) (match fl with | .next => execs (nU :: stC) (env0 (.ref c) f) | x => pure x) (fun fl _ s => fl = .next /\ R s) (fun _ _ _ => False) p s) (fun _ _ _ => False) ?_
  ·unfold HY at hA'
   rw [Sem.wp_bind'] at hA'
   refine Sem.wp_mono _ _ _ (fun _ p s hh => ?_) (fun _ _ _ x => x) _ _ hA'
   have hex : execs (behindTheImports PW) (env0 (.ref c) f) = (do match <- execs stA (env0 (.ref c) f) with | .next => execs (nU :: stC) (env0 (.ref c) f) | x => pure x) := by
    rw [Wh,Aq]
    try congr 1
   rw [hex,Sem.wp_bind']
   exact hh
  ·show Sem.wp (MT w) (Γ1 p1 (.ref c) f) (execs (nU :: stC) (env0 (.ref c) f)) _ _ p2 s2
   have hexec : exec nU (env0 (.ref c) f) = (Bx (env0 (.ref c) f) >>= fun b => if b then (do
      evalThenUse (eF nU).2.1 (env0 (.ref c) f) fun v => assignAll v ((assignEach (eF nU).1 (env0 (.ref c) f)).map (·.2))
      pure .next) else (eval (eF nU).2.1 (env0 (.ref c) f) >>= fun v => swappedStores (eF nU).1 (eF nU).2.1 (env0 (.ref c) f) >>= fun sw => assignStores (env0 (.ref c) f) v sw ((assignEach (eF nU).1 (env0 (.ref c) f)).map (·.2)))) := by
    unfold Bx
    rw [bind_assoc]
    conv => lhs; rw [X5]
    exact exec_Assign _ _ _
   have ac9 : execs (nU :: stC) (env0 (.ref c) f) = (exec nU (env0 (.ref c) f) >>= fun fl => match fl with | .next => execs stC (env0 (.ref c) f) | x => pure x) := rfl
   rw [ac9,hexec,bind_assoc,Sem.wp_bind']
   refine hB.2 _ _ ?_
   show Sem.wp (MT w) (Γ1 p1 (.ref c) f) ((eval (eF nU).2.1 (env0 (.ref c) f) >>= fun v => swappedStores (eF nU).1 (eF nU).2.1 (env0 (.ref c) f) >>= fun sw => assignStores (env0 (.ref c) f) v sw ((assignEach (eF nU).1 (env0 (.ref c) f)).map (·.2))) >>= fun fl => match fl with | .next => execs stC (env0 (.ref c) f) | x => pure x) _ _ p3 s3
   rw [bind_assoc,Sem.wp_bind']
   have hde := Lj (w := w) (A := { handled := (Γ1 p1 (.ref c) f).handled,depth := frameCount (Γ1 p1 (.ref c) f).below + (Γ1 p1 (.ref c) f).code.weight,units := (Γ1 p1 (.ref c) f).units }) (env := env0 (.ref c) f) (s := s3)
    (Q := fun v s => ∀ p,Sem.wp (MT w) (Γ1 p1 (.ref c) f) ((swappedStores (eF nU).1 (eF nU).2.1 (env0 (.ref c) f) >>= fun sw => assignStores (env0 (.ref c) f) v sw ((assignEach (eF nU).1 (env0 (.ref c) f)).map (·.2))) >>= fun fl => match fl with | .next => execs stC (env0 (.ref c) f) | x => pure x) (fun fl _ s => fl = .next /\ R s) (fun _ _ _ => False) p s)
    (E := fun _ _ => False) hsz (fun h' t hsame hpx p => ?_)
   ·rw [Pj] at hde
    refine Sem.wp_mono _ _ _ (fun v p s hq => hq p) (fun _ _ _ x => x) _ _ (hde (Γ1 p1 (.ref c) f) p3 ⟨rfl,Nat.le_refl _,(fun l e => by exact cN e),(fun g e => by exact cN e),Nat.le_refl _⟩)
   ·rw [<- hsz] at hsame
    obtain ⟨o',l,rfl⟩ := NK (fun b hb => hall b (by rw [<- hsz]; exact hb)) hsame
    obtain ⟨p5,s5,he,hR⟩ := hC o' l t p hpx
    have := he.2 (fun fl _ s => fl = .next /\ R s) (fun _ _ _ => False) ⟨rfl,hR⟩
    unfold Bw at this
    rw [bind_assoc]
    exact this
 rw [hden,Sem.wp_bind']
 refine Sem.wp_mono _ _ _ (fun _ p s hh => ?_) (fun _ _ _ x => x.elim) _ _ ac4
 rw [Sem.wp_bind',Sem.wp_onRaise]
 refine Sem.wp_mono _ _ _ (fun fl p s hh => ?_) (fun _ _ _ x => x.elim) _ _ hh
 obtain ⟨rfl,hR⟩ := hh
 exact ⟨rfl,hR⟩
structure qL where
 s0 : Shared
 c : Addr
 f : Addr
 p1 : Pos
 x1 : FS
 p2 : Pos
 x2 : FS
 p3 : Pos
 x3 : FS
noncomputable def qL.s3 (x : qL) : Shared := sh x.s0 x.x3
noncomputable def Gg {S : Type} : Except Value Flow × Pos × S -> Option (Pos × S)
 | (.ok .next,p,s) => some (p,s)
 | _ => none
noncomputable def Im {S : Type} : Except Value Bool × Pos × S -> Option (Pos × S)
 | (.ok false,p,s) => some (p,s)
 | _ => none
noncomputable def WW {S : Type} : Except Value (Value × Addr) × Pos × S -> Option (Addr × Addr × Pos × S)
 | (.ok (.ref c,f),p,s) => some (c,f,p,s)
 | _ => none
noncomputable def Nz (w : World) : Option qL :=
 (fencedOpening treeTable PW w 4000).bind fun s0 =>
 ((uU (MT w) s0.heap.objs.size 4000 _ Γ0 BJ default (FS.of s0)).bind WW).bind fun x =>
 ((uU (MT w) s0.heap.objs.size 4000 _ (Γ1 x.2.2.1 (.ref x.1) x.2.1) (HY (.ref x.1) x.2.1) x.2.2.1 x.2.2.2).bind Gg).bind fun y =>
 ((uU (MT w) s0.heap.objs.size 4000 _ (Γ1 x.2.2.1 (.ref x.1) x.2.1) (Bx (env0 (.ref x.1) x.2.1)) y.1 y.2).bind Im).bind fun z =>
 some ⟨s0,x.1,x.2.1,x.2.2.1,x.2.2.2,y.1,y.2,z.1,z.2⟩
noncomputable def Ui (w : World) (o : Obj) (l : Life) (t : Nat) (p : Pos) (x : qL) : Option Shared :=
 ((uU (MT w) x.s0.heap.objs.size 4000 _ (Γ1 x.p1 (.ref x.c) x.f) (Bw (.ref 97) (env0 (.ref x.c) x.f)) p ({ x.x3 with toks := t }.push o)).bind Gg).map fun y => sh { x.s0 with heap := ⟨#[],l⟩ } y.2
noncomputable def mods : List PySem.Str := importedModules PW.main.body
noncomputable def sS (h : Heap) : Option (PySem.Str × PySem.Str × Arguments × FuncBody × Scope × Addr × List (PySem.Str × Addr) × Addr × Value × Value) :=
 (fdOf h 278).map fun fd => (fd.name,fd.qualname,fd.params,fd.body,fd.scope,fd.globals,fd.closure,fd.builtins,fd.defaults,fd.kwdefaults)
noncomputable def o9 : Option (PySem.Str × PySem.Str × Arguments × FuncBody × Scope × Addr × List (PySem.Str × Addr) × Addr × Value × Value) :=
 (PW.theDef "law").map fun d => ("law","law",d.1,.stmts d.2.1,d.2.2,mainNs,[],builtinsNs,.none,.none)
noncomputable def Lw (x : qL) : Bool := x.s0.heap.isNs mainGlobals && x.s0.gens.size == 0 && x.s3.heap.objs.size == 97 && (List.range 97).all fun b => (x.s3.heap.get? b).isSome
noncomputable def RJ (x : qL) (s5 : Shared) : Bool := staticsOk mods x.s0.heap s5.heap && namesBound PW s5.heap && laidKept x.s0.heap s5.heap && s5.heap.accountedOkI mods && s5.heap.isNs mainGlobals && s5.heap.isNs builtinsNs && s5.heap.bmainOk && M8 s5.heap &&
 x.s0.heap.objs.size == 11
noncomputable def defsIn (l : List Stmt) : List (Scope × List Stmt) := l.flatMap fun st => match st with
 | .FunctionDef _ _ body _ _ _ sc _ _ _ => [(sc,body)]
 | _ => []
noncomputable def V1 (l : List Stmt) : List (Scope × List Stmt) := l.flatMap fun st => match st with
 | .ClassDef _ _ _ body _ _ _ _ _ _ _ => defsIn body
 | st => defsIn [st]
noncomputable def adu (f : Nat) : Nat := if f <= 13 then f + 1 else if f <= 20 then f + 2 else f + 5
noncomputable def V2 (f : Nat) : Scope × List Stmt := ((V1 (behindTheImports PW))[adu f]?).getD default
noncomputable def okE (f : Nat) : Bool := match FT f with
 | some gQ => okT (Cu f) gQ.body false (V2 f).1 (V2 f).2
 | none => false
noncomputable def Oe : List Bool := okT nP dg true (V2 26).1 (V2 26).2 :: (List.range 26).map okE
theorem Ul : Oe.all id = true := by decide +kernel
theorem Uh (w : World) (o : Obj) (l : Life) (t : Nat) (p : Pos) :
  ((Nz w).bind fun x => (Ui w o l t p x).map fun s5 => (Lw x && RJ x s5,s5.heap.bltView,sS s5.heap,s5.heap.objs[97]?,S5 s5.heap)) = some (true,bltViewBooted,o9,some o,Oe) := by kernel_rfl
structure HD (w : World) (x : qL) (o : Obj) (l : Life) (t : Nat) (p : Pos) (s5 : Shared) : Prop where
 ran : Ui w o l t p x = some s5
 Xp : RJ x s5 = true
 blt : s5.heap.bltView = bltViewBooted
 law : sS s5.heap = o9
 obj : s5.heap.objs[97]? = some o
 S5 : S5 s5.heap = Oe
theorem abx (w : World) : ∃ x,Nz w = some x /\ Lw x = true /\ ∀ o l t p,∃ s5,HD w x o l t p s5 := by
 have key : ∀ o l t p,∃ x s5,Nz w = some x /\ Lw x = true /\ HD w x o l t p s5 := fun o l t p => by
  obtain ⟨x,h1,h2⟩ := Option.bind_eq_some_iff.mp (Uh w o l t p)
  obtain ⟨s5,h3,h4⟩ := Option.map_eq_some_iff.mp h2
  simp only [Prod.mk.injEq,Bool.and_eq_true] at h4
  obtain ⟨⟨a,b⟩,c,d,e,f⟩ := h4
  exact ⟨x,s5,h1,a,⟨h3,b,c,d,e,f⟩⟩
 obtain ⟨x,_,h1,h2,_⟩ := key default default 0 default
 refine ⟨x,h1,h2,fun o l t p => ?_⟩
 obtain ⟨x',s5,h1',_,h3⟩ := key o l t p
 rw [h1] at h1'
 cases h1'
 exact ⟨s5,h3⟩
theorem Gf {S : Type} {r : Except Value (Value × Addr) × Pos × S} {c f : Addr} {p : Pos} {s : S} (h : WW r = some (c,f,p,s)) : r = (.ok (.ref c,f),p,s) := by
 obtain ⟨r,p',s'⟩ := r
 cases r with
 | error _ => exact cN h
 | ok x =>
  obtain ⟨v,f'⟩ := x
  cases v with
  | ref c' => cases (Option.some.inj h); rfl
  | _ => exact cN h
theorem ud {S : Type} {r : Except Value Flow × Pos × S} {p : Pos} {s : S} (h : Gg r = some (p,s)) : r = (.ok .next,p,s) := by
 obtain ⟨r,p',s'⟩ := r
 cases r with
 | error _ => exact cN h
 | ok x => cases x with
  | next => cases (Option.some.inj h); rfl
  | _ => exact cN h
theorem z8 {S : Type} {r : Except Value Bool × Pos × S} {p : Pos} {s : S} (h : Im r = some (p,s)) : r = (.ok false,p,s) := by
 obtain ⟨r,p',s'⟩ := r
 cases r with
 | error _ => exact cN h
 | ok x => cases x with
  | false => cases (Option.some.inj h); rfl
  | true => exact cN h
structure JK (w : World) (x : qL) : Prop where
 h : fencedOpening treeTable PW w 4000 = some x.s0
 wf : WF x.x3
 h0 : qK (MT w) x.s0.heap.objs.size Γ0 BJ default x.s0 (.ok (.ref x.c,x.f)) x.p1 (sh x.s0 x.x1)
 hA : qK (MT w) x.s0.heap.objs.size (Γ1 x.p1 (.ref x.c) x.f) (HY (.ref x.c) x.f) x.p1 (sh x.s0 x.x1) (.ok .next) x.p2 (sh x.s0 x.x2)
 hB : qK (MT w) x.s0.heap.objs.size (Γ1 x.p1 (.ref x.c) x.f) (Bx (env0 (.ref x.c) x.f)) x.p2 (sh x.s0 x.x2) (.ok false) x.p3 x.s3
theorem J9 {w : World} {x : qL} (hn : x.s0.heap.objs.size = 11) (e : Nz w = some x) : JK w x := by
 unfold Nz at e
 obtain ⟨s0,e0,e⟩ := Option.bind_eq_some_iff.mp e
 obtain ⟨⟨c,f,p1,s1⟩,e1,e⟩ := Option.bind_eq_some_iff.mp e
 obtain ⟨⟨p2,s2⟩,e2,e⟩ := Option.bind_eq_some_iff.mp e
 obtain ⟨⟨p3,s3⟩,e3,e⟩ := Option.bind_eq_some_iff.mp e
 cases e
 obtain ⟨r1,a1,b1⟩ := Option.bind_eq_some_iff.mp e1
 obtain ⟨r2,a2,b2⟩ := Option.bind_eq_some_iff.mp e2
 obtain ⟨r3,a3,b3⟩ := Option.bind_eq_some_iff.mp e3
 have q1 := Gf b1
 have q2 := ud b2
 have q3 := z8 b3
 subst q1 q2 q3
 obtain ⟨w0,i0⟩ := of_ok (s := s0) (by show s0.heap.objs.size <= _; rw [show s0.heap.objs.size = 11 from hn]; decide)
 obtain ⟨w1,z1⟩ := pK (b := s0) _ _ _ _ _ _ _ _ _ w0 a1
 rw [i0] at z1
 obtain ⟨w2,z2⟩ := pK (b := s0) _ _ _ _ _ _ _ _ _ w1 a2
 obtain ⟨w3,z3⟩ := pK (b := s0) _ _ _ _ _ _ _ _ _ w2 a3
 exact ⟨e0,w3,z1,z2,z3⟩
theorem J8 {w : World} {o : Obj} {l : Life} {t : Nat} {p : Pos} {x : qL} {s5 : Shared} (i : JK w x) (hsz : x.s3.heap.objs.size = 97) (e : Ui w o l t p x = some s5) :
  ∃ p5,qK (MT w) x.s0.heap.objs.size (Γ1 x.p1 (.ref x.c) x.f) (Bw (.ref 97) (env0 (.ref x.c) x.f)) p { x.s3 with heap := ⟨x.s3.heap.objs.push o,l⟩,toks := t } (.ok .next) p5 s5 := by
 unfold Ui at e
 obtain ⟨⟨p5,s5'⟩,e1,e2⟩ := Option.map_eq_some_iff.mp e
 dsimp only at e2
 subst e2
 obtain ⟨r,a,b⟩ := Option.bind_eq_some_iff.mp e1
 have q := ud b
 subst q
 have hn : x.x3.n = 97 := xu.symm.trans hsz
 obtain ⟨w1,z1⟩ := Ii (x := { x.x3 with toks := t }) (o := o) ⟨i.wf.le,i.wf.all⟩ (by show x.x3.n < _; rw [hn]; decide)
 obtain ⟨w2,z2⟩ := pK (b := { x.s0 with heap := ⟨#[],l⟩ }) _ _ _ _ _ _ _ _ _ w1 a
 have e3 : sh { x.s0 with heap := ⟨#[],l⟩ } ({ x.x3 with toks := t }.push o) = { x.s3 with heap := ⟨x.s3.heap.objs.push o,l⟩,toks := t } := by
  unfold sh
  rw [z1]; rfl
 rw [e3] at z2
 exact ⟨p5,z2⟩
structure Left (w : World) (x : qL) (s5 : Shared) : Prop where
 Xp : RJ x s5 = true
 S5 : S5 s5.heap = Oe
 blt : s5.heap.bltView = bltViewBooted
 law : sS s5.heap = o9
 px : cY PW w s5.heap
 gens : s5.gens = x.s0.gens
 os : s5.os = x.s0.os
 old : ∀ b o,b < x.s0.heap.objs.size -> b ≠ mainNs -> b ≠ cStatics -> x.s0.heap.get? b = some o -> s5.heap.get? b = some o
theorem cY.Yn {w : World} {h h' : Heap} (x : cY PW w h) (e : h'.objs[(97 : Nat)]? = h.objs[(97 : Nat)]?) : cY PW w h' := by
 obtain ⟨m,⟨o,es,ep,ho,r⟩,h1⟩ := x
 refine ⟨m,⟨o,es,ep,?_,r⟩,h1⟩
 have ho' : h.get? (97 : Nat) = some o := ho
 show h'.get? (97 : Nat) = some o
 unfold Heap.get? at ho' ⊢
 rw [e]; exact ho'
theorem Vf {w : World} {x : qL} (i : JK w x) {o : Obj} {l : Life} {t : Nat} {p p5 : Pos} {s5 : Shared} (hsz : x.s3.heap.objs.size = 97) (hn : x.s0.heap.objs.size = 11) (c : HD w x o l t p s5)
  (he : qK (MT w) x.s0.heap.objs.size (Γ1 x.p1 (.ref x.c) x.f) (Bw (.ref 97) (env0 (.ref x.c) x.f)) p { x.s3 with heap := ⟨x.s3.heap.objs.push o,l⟩,toks := t } (.ok .next) p5 s5)
  (hp : cY PW w ⟨x.s3.heap.objs.push o,l⟩) : Left w x s5 := by
 have F := (i.h0.1.trans i.hA.1).trans i.hB.1
 have F5 := he.1
 have hobj : (x.s3.heap.objs.push o)[(97 : Nat)]? = some o := by rw [<- hsz]; simp
 refine ⟨c.Xp,c.S5,c.blt,c.law,cY.Yn hp (by rw [c.obj]; exact hobj.symm),?_,?_,?_⟩
 ·rw [F5.eq,F.eq]
 ·rw [F5.eq,F.eq]
 ·intro b ob h1 h2 h3 h4
  refine F5.old b ob h1 h2 h3 ?_
  have h5 := F.old b ob h1 h2 h3 h4
  show Heap.get? ⟨x.s3.heap.objs.push o,l⟩ b = some ob
  unfold Heap.get? at h5 ⊢
  have hb : b < x.s3.heap.objs.size := by rw [hsz]; rw [hn] at h1; omega
  have : (x.s3.heap.objs.push o)[b]? = x.s3.heap.objs[b]? := by rw [Array.getElem?_push_lt hb,Array.getElem?_eq_getElem hb]
  show (match (x.s3.heap.objs.push o)[b]? with | some ⟨_,_,.freed,_⟩ => none | o => o) = some ob
  rw [this]
  exact h5
theorem xg {x : qL} (h : Lw x = true) : x.s0.heap.isNs mainGlobals = true /\ x.s0.gens = #[] /\ x.s3.heap.objs.size = 97 /\ ∀ b,b < 97 -> ∃ o,x.s3.heap.get? b = some o := by
 simp only [Lw,Bool.and_eq_true] at h
 obtain ⟨⟨⟨h1,h2⟩,h3⟩,h4⟩ := h
 refine ⟨h1,Array.eq_empty_of_size_eq_zero (beq_iff_eq.mp h2),beq_iff_eq.mp h3,fun b hb => ?_⟩
 exact Option.isSome_iff_exists.mp (List.all_eq_true.mp h4 b (List.mem_range.mpr hb))
structure agK (x : qL) (s5 : Shared) : Prop where
 st : staticsOk mods x.s0.heap s5.heap = true
 nb : namesBound PW s5.heap = true
 lk : laidKept x.s0.heap s5.heap = true
 ac : s5.heap.accountedOkI mods = true
 mg : s5.heap.isNs mainGlobals = true
 bn : s5.heap.isNs builtinsNs = true
 bm : s5.heap.bmainOk = true
 tc : rZ s5.heap = true
 sz : x.s0.heap.objs.size = 11
theorem w7 {x : qL} {s5 : Shared} (h : RJ x s5 = true) (ho : S5 s5.heap = Oe) : agK x s5 := by
 simp only [RJ,Bool.and_eq_true] at h
 obtain ⟨⟨⟨⟨⟨⟨⟨⟨h1,h2⟩,h3⟩,h4⟩,h5⟩,h6⟩,h7⟩,h8⟩,h9⟩ := h
 exact ⟨h1,h2,h3,h4,h5,h6,h7,Bool.and_eq_true_iff.mpr ⟨h8,by rw [ho]; exact Ul⟩,beq_iff_eq.mp h9⟩
theorem ran (w : World) : ∃ x,JK w x /\ Lw x = true /\ ∀ z : x.s0.asleep,∃ n s5 t',schedN (denote table) PW w n (.single x.s0 (topStub PW)) = .running (.single s5 t') /\ through t' = true /\ Left w x s5 /\ s5.heap.life = x.s0.heap.life := by
 obtain ⟨x,h1,h2,h3⟩ := abx w
 have hn : x.s0.heap.objs.size = 11 := by
  obtain ⟨s5,c⟩ := h3 default default 0 default
  exact (w7 c.Xp c.S5).sz
 have i := J9 hn h1
 obtain ⟨a1,a2,a3,a4⟩ := xg h2
 refine ⟨x,i,h2,fun z => ?_⟩
 have hwp := XR (R := Left w x) i.h0 i.hA i.hB a3 a4 (fun o l t p hp => by
  obtain ⟨s5,c⟩ := h3 o l t p
  obtain ⟨p5,he⟩ := J8 i a3 c.ran
  exact ⟨p5,s5,he,Vf i a3 hn c he hp⟩)
 obtain ⟨n,r,s',t',e1,e2,e3,⟨e4,e5⟩,e6,e7⟩ := xV (M := MT w) (c := c0) (R := fun r s' => r = .ok (.ret .none) /\ Left w x s') z (by
  refine Sem.wp_mono _ _ _ (fun fin p s hf => ?_) (fun _ _ _ f => f.elim) _ _ hwp
  cases fin with
  | done f => exact ⟨hf,by rw [hf.2.gens,a2]⟩
  | again c' =>
   obtain ⟨hq,hw⟩ := hf
   exact ⟨hq,wpCode_mono (fun r s2 hr => ⟨hr,by rw [hr.2.gens,a2]⟩) hw⟩)
 refine ⟨n,s',t',?_,?_,e5,e7⟩
 ·rw [table_eq_tree]
  exact e1
 ·subst e4
  unfold through
  rw [e2,e3]
  rfl
structure Behind (w : World) (s₀ s₁ : Shared) : Prop where
 top : TopRan PW w s₀ s₁
 asleep : s₁.asleep
 gens : s₁.gens = #[]
 mg : s₁.heap.isNs mainGlobals = true
 Xp : rZ s₁.heap = true
 law : sS s₁.heap = o9
 px : cY PW w s₁.heap
theorem behind (w : World) : (∃ s,AfterRun (opening PW) w s) /\ ∀ s,AfterRun (opening PW) w s -> ∃ s₀,fenceModules? PW s = some s₀ /\ s₀.gens = #[] /\ ∃ s₁,Behind w s₀ s₁ := by
 obtain ⟨x,i,h2,go⟩ := ran w
 obtain ⟨a1,a2,a3,a4⟩ := xg h2
 have hf := i.h
 rw [<- table_eq_tree] at hf
 obtain ⟨s,h4,h5⟩ := Option.bind_eq_some_iff.mp hf
 have A := AfterImport.of_importEnds h4
 refine ⟨⟨s,A⟩,fun s' hs' => ?_⟩
 obtain rfl : s' = s := AfterImport.unique hs' A
 have z : x.s0.asleep := Shared.asleep_of_life (fence_lifeW h5) A.life
 obtain ⟨n,s5,t',e1,e2,L,e3⟩ := go z
 have K := w7 L.Xp L.S5
 obtain ⟨bm,ob,q1,q2,q3,q4,q5,_⟩ := Heap.bmainOk_spec K.bm
 refine ⟨x.s0,h5,a2,s5,⟨⟨n,t',e1,e2⟩,e3,Shared.rest_eq L.os,fun b o hb hn => ?_,Heap.accountedI_of_ok K.ac,statics_of_ok K.st,Pin.keysAreStrs_of K.mg,fun y hy => (Pin.builtinOf_eq K.bn y).trans (Heap.of_bltView K.bn L.blt y hy),⟨bm,ob,(Pin.globalOf_eq K.mg _).trans q1,q3,q4,q5⟩,?_,names_of_bound K.nb,laid_of_kept K.lk⟩,Shared.asleep_of_life e3 z,by rw [L.gens,a2],K.mg,K.tc,L.law,L.px⟩
 ·exact L.old b o (Heap.lt_size hb) (fun q => hn (.inl q)) (fun q => hn (.inr (.inl q))) hb
 ·intro g hg
  rw [L.gens,a2] at hg
  simp at hg
end Mine
end
section
open PySem PySem.W
namespace Mine.P
section
variable (C : bK) (ls : Ls)
noncomputable def CW (o : Option (Option Val)) (h : H) : Res Val := match o with
 | some (some v) => .ok v h
 | _ => .bad
@[simp] theorem iH (v : Val) (h : H) : CW (some (some v)) h = .ok v h := rfl
@[simp] theorem jE (x : Nat) (h : H) : aL C ls (.var x) h = CW ls[x]? h := rfl
@[simp] theorem adq (h : H) : aL C ls .bY h = .ok .none h := rfl
@[simp] theorem adt (b : Bool) (h : H) : aL C ls (.eZ b) h = .ok (.bool b) h := rfl
@[simp] theorem mY (i : Int) (h : H) : aL C ls (.aq i) h = .ok (.int i) h := rfl
@[simp] theorem aey (s : String) (h : H) : aL C ls (.tE s) h = .ok (.str s) h := rfl
@[simp] theorem Lg (b : Bs) (h : H) : aL C ls (.aj b) h = .ok (.bytes b) h := rfl
@[simp] theorem zf (h : H) : aL C ls .slash h = .ok (.int 47) h := rfl
@[simp] theorem zj (h : H) : aL C ls .posix h = .ok .posix h := rfl
@[simp] theorem vB (i : Int) (h : H) : aL C ls (.neg i) h = .ok (.int (-i)) h := rfl
noncomputable def I4 (op : vI) (u : Val) (r : Res Val) : Res Val := r.bind fun v h => gY op u v h
noncomputable def Xf (op : vI) (b : ME) (r : Res Val) : Res Val := r.bind fun u h => I4 op u (aL C ls b h)
@[simp] theorem wD (op : vI) (u v : Val) (h : H) : I4 op u (.ok v h) = gY op u v h := rfl
@[simp] theorem wF (op : vI) (b : ME) (u : Val) (h : H) : Xf C ls op b (.ok u h) = I4 op u (aL C ls b h) := rfl
@[simp] theorem vC (op : vI) (a b : ME) (h : H) : aL C ls (.bin op a b) h = Xf C ls op b (aL C ls a h) := rfl
noncomputable def QF (op : qO) (u : Val) (r : Res Val) : Res Val := r.bind fun v h => lM (dR h op u v) h
noncomputable def I3 (op : qO) (b : ME) (r : Res Val) : Res Val := r.bind fun u h => QF op u (aL C ls b h)
@[simp] theorem wB (op : qO) (u v : Val) (h : H) : QF op u (.ok v h) = lM (dR h op u v) h := rfl
@[simp] theorem wC (op : qO) (b : ME) (u : Val) (h : H) : I3 C ls op b (.ok u h) = QF op u (aL C ls b h) := rfl
@[simp] theorem pJ (op : qO) (a b : ME) (h : H) : aL C ls (.cmp op a b) h = I3 C ls op b (aL C ls a h) := rfl
@[simp] theorem sH (b : Bool) (h : H) : lM (some b) h = .ok (.bool b) h := rfl
noncomputable def Vp (o2 : qO) (v : Val) (r : Res Val) : Res Val := r.bind fun w h => lM (dR h o2 v w) h
noncomputable def K5 (o2 : qO) (c : ME) (v : Val) (o : Option Bool) (h : H) : Res Val := match o with
 | some true => Vp o2 v (aL C ls c h)
 | some false => .ok (.bool false) h
 | none => .bad
noncomputable def Vq (o1 o2 : qO) (c : ME) (u : Val) (r : Res Val) : Res Val := r.bind fun v h => K5 C ls o2 c v (dR h o1 u v) h
noncomputable def acQ (o1 o2 : qO) (b c : ME) (r : Res Val) : Res Val := r.bind fun u h => Vq C ls o1 o2 c u (aL C ls b h)
@[simp] theorem aef (o2 : qO) (v w : Val) (h : H) : Vp o2 v (.ok w h) = lM (dR h o2 v w) h := rfl
@[simp] theorem afL (o2 : qO) (c : ME) (v : Val) (h : H) : K5 C ls o2 c v (some true) h = Vp o2 v (aL C ls c h) := rfl
@[simp] theorem afM (o2 : qO) (c : ME) (v : Val) (h : H) : K5 C ls o2 c v (some false) h = .ok (.bool false) h := rfl
@[simp] theorem aeg (o1 o2 : qO) (c : ME) (u v : Val) (h : H) : Vq C ls o1 o2 c u (.ok v h) = K5 C ls o2 c v (dR h o1 u v) h := rfl
@[simp] theorem aeh (o1 o2 : qO) (b c : ME) (u : Val) (h : H) : acQ C ls o1 o2 b c (.ok u h) = Vq C ls o1 o2 c u (aL C ls b h) := rfl
@[simp] theorem wV (o1 o2 : qO) (a b c : ME) (h : H) : aL C ls (.ji o1 o2 a b c) h = acQ C ls o1 o2 b c (aL C ls a h) := rfl
noncomputable def KY (r : Res Val) : Res Bool := r.bind fun u h => match truth h u with
 | some b => .ok b h
 | none => .bad
@[simp] theorem CZ (b : Bool) (h : H) : KY (.ok (.bool b) h) = .ok b h := rfl
@[simp] theorem aci (h : H) : KY (.ok .none h) = .ok false h := rfl
theorem yQ (b : Bs) (h : H) (e : b.length <= bH) : KY (.ok (.bytes b) h) = .ok (!b.isEmpty) h := by
 show (match truth h (.bytes b) with | some b => Res.ok b h | none => .bad) = _
 unfold truth; dsimp only; rw [if_pos e]
theorem Iv (l : Nat) (vs : List Val) (h : H) (e1 : h[l]? = some (.lst vs)) (e : vs.length <= bH) : KY (.ok (.lst l) h) = .ok (!vs.isEmpty) h := by
 show (match truth h (.lst l) with | some b => Res.ok b h | none => .bad) = _
 unfold truth; dsimp only; rw [e1]; dsimp only; rw [if_pos e]
theorem Vm (b : List Int) (h : H) (e : b.length <= bH) : KY (.ok (.lB b) h) = .ok (!b.isEmpty) h := by
 show (match truth h (.lB b) with | some b => Res.ok b h | none => .bad) = _
 unfold truth; dsimp only; rw [if_pos e]
noncomputable def acT (b : ME) (u : Val) (o : Option Bool) (h : H) : Res Val := match o with
 | some true => aL C ls b h
 | some false => .ok u h
 | none => .bad
noncomputable def QL (b : ME) (r : Res Val) : Res Val := r.bind fun u h => acT C ls b u (truth h u) h
@[simp] theorem afO (b : ME) (h : H) : QL C ls b (.ok (.bool true) h) = aL C ls b h := rfl
@[simp] theorem afP (b : ME) (h : H) : QL C ls b (.ok (.bool false) h) = .ok (.bool false) h := rfl
@[simp] theorem Jr (a b : ME) (h : H) : aL C ls (.and a b) h = QL C ls b (aL C ls a h) := rfl
noncomputable def afz (b : ME) (u : Val) (o : Option Bool) (h : H) : Res Val := match o with
 | some true => .ok u h
 | some false => aL C ls b h
 | none => .bad
noncomputable def kOr (b : ME) (r : Res Val) : Res Val := r.bind fun u h => afz C ls b u (truth h u) h
@[simp] theorem agV (b : ME) (h : H) : kOr C ls b (.ok (.bool true) h) = .ok (.bool true) h := rfl
@[simp] theorem agW (b : ME) (h : H) : kOr C ls b (.ok (.bool false) h) = aL C ls b h := rfl
@[simp] theorem Rp (a b : ME) (h : H) : aL C ls (.or a b) h = kOr C ls b (aL C ls a h) := rfl
noncomputable def Qu (r : Res Val) : Res Val := r.bind fun u h => lM ((truth h u).map fun b => !b) h
@[simp] theorem aaJ (b : Bool) (h : H) : Qu (.ok (.bool b) h) = .ok (.bool !b) h := rfl
theorem Gw (b : Bs) (h : H) (e : b.length <= bH) : Qu (.ok (.bytes b) h) = .ok (.bool b.isEmpty) h := by
 show lM ((truth h (.bytes b)).map fun b => !b) h = _
 unfold truth; dsimp only; rw [if_pos e]; simp
@[simp] theorem Jo (a : ME) (h : H) : aL C ls (.not a) h = Qu (aL C ls a h) := rfl
noncomputable def Xc (r : Res Bool) : Res Bool := r.bind fun b h => .ok (!b) h
noncomputable def QK (b : ME) (r : Res Bool) : Res Bool := r.bind fun u h => if u then jd C ls b h else .ok false h
noncomputable def Zb (b : ME) (r : Res Bool) : Res Bool := r.bind fun u h => if u then .ok true h else jd C ls b h
@[simp] theorem acw (b : Bool) (h : H) : Xc (.ok b h) = .ok (!b) h := rfl
@[simp] theorem Vr (b : ME) (h : H) : QK C ls b (.ok true h) = jd C ls b h := rfl
@[simp] theorem I5 (b : ME) (h : H) : QK C ls b (.ok false h) = .ok false h := rfl
@[simp] theorem afA (b : ME) (h : H) : Zb C ls b (.ok true h) = .ok true h := rfl
@[simp] theorem afB (b : ME) (h : H) : Zb C ls b (.ok false h) = jd C ls b h := rfl
@[simp] theorem Jl (a : ME) (h : H) : jd C ls (.not a) h = Xc (jd C ls a h) := rfl
@[simp] theorem pH (a b : ME) (h : H) : jd C ls (.and a b) h = QK C ls b (jd C ls a h) := rfl
@[simp] theorem Ro (a b : ME) (h : H) : jd C ls (.or a b) h = Zb C ls b (jd C ls a h) := rfl
@[simp] theorem aex (x : Nat) (h : H) : jd C ls (.var x) h = KY (aL C ls (.var x) h) := rfl
@[simp] theorem Le (b : Bool) (h : H) : jd C ls (.eZ b) h = .ok b h := rfl
@[simp] theorem Ar (o : qO) (a b : ME) (h : H) : jd C ls (.cmp o a b) h = KY (aL C ls (.cmp o a b) h) := rfl
@[simp] theorem ado (o p : qO) (a b c : ME) (h : H) : jd C ls (.ji o p a b c) h = KY (aL C ls (.ji o p a b c) h) := rfl
@[simp] theorem adn (a : ME) (m : zM) (es : gw) (h : H) : jd C ls (.meth a m es) h = KY (aL C ls (.meth a m es) h) := rfl
@[simp] theorem adp (a : ME) (k : Nat) (h : H) : jd C ls (.attr a k) h = KY (aL C ls (.attr a k) h) := rfl
noncomputable def Zf (a b : ME) (r : Res Bool) : Res Val := r.bind fun c h => if c then aL C ls a h else aL C ls b h
@[simp] theorem afF (a b : ME) (h : H) : Zf C ls a b (.ok true h) = aL C ls a h := rfl
@[simp] theorem afG (a b : ME) (h : H) : Zf C ls a b (.ok false h) = aL C ls b h := rfl
@[simp] theorem Jp (t a b : ME) (h : H) : aL C ls (.ite t a b) h = Zf C ls a b (jd C ls t h) := rfl
noncomputable def Qw (u : Val) (r : Res Val) : Res Val := r.bind fun v h => bW u v h
noncomputable def Xd (b : ME) (r : Res Val) : Res Val := r.bind fun u h => Qw u (aL C ls b h)
@[simp] theorem acI (u v : Val) (h : H) : Qw u (.ok v h) = bW u v h := rfl
@[simp] theorem acJ (b : ME) (u : Val) (h : H) : Xd C ls b (.ok u h) = Qw u (aL C ls b h) := rfl
@[simp] theorem Jq (a b : ME) (h : H) : aL C ls (.idx a b) h = Xd C ls b (aL C ls a h) := rfl
noncomputable def Qn (u v : Val) (r : Res Val) : Res Val := r.bind fun w h => gO u v w h
noncomputable def Qp (c : ME) (u : Val) (r : Res Val) : Res Val := r.bind fun v h => Qn u v (aL C ls c h)
noncomputable def Xb (b c : ME) (r : Res Val) : Res Val := r.bind fun u h => Qp C ls c u (aL C ls b h)
@[simp] theorem Qm (u v w : Val) (h : H) : Qn u v (.ok w h) = gO u v w h := rfl
@[simp] theorem Qo (c : ME) (u v : Val) (h : H) : Qp C ls c u (.ok v h) = Qn u v (aL C ls c h) := rfl
@[simp] theorem Qq (b c : ME) (u : Val) (h : H) : Xb C ls b c (.ok u h) = Qp C ls c u (aL C ls b h) := rfl
@[simp] theorem Aw (a b c : ME) (h : H) : aL C ls (.slc a b c) h = Xb C ls b c (aL C ls a h) := rfl
noncomputable def oG (k : Nat) (r : Res Val) : Res Val := r.bind fun u h => match u with
  | .inst _ l => match h[l]? with
   | some (.ns _ as) => match as.lookup k with
    | some v => .ok v h
    | none => .bad
   | _ => .bad
  | _ => .bad
theorem iw {k c c' l : Nat} {as : List (Nat × Val)} {v : Val} {h : H} (e1 : h[l]? = some (.ns c' as)) (e2 : as.lookup k = some v) : oG k (.ok (.inst c l) h) = .ok v h := by
 show (match h[l]? with | some (.ns _ as) => (match as.lookup k with | some v => Res.ok v h | none => .bad) | _ => .bad) = _
 rw [e1]; dsimp only; rw [e2]
@[simp] theorem DP (a : ME) (k : Nat) (h : H) : aL C ls (.attr a k) h = oG k (aL C ls a h) := rfl
noncomputable def kL2 (v : Val) (r : Res (List Val)) : Res (List Val) := r.bind fun vs h => .ok (v :: vs) h
noncomputable def Vn (es : gw) (r : Res Val) : Res (List Val) := r.bind fun v h => kL2 v (pI C ls es h)
@[simp] theorem Gy (v : Val) (vs : List Val) (h : H) : kL2 v (.ok vs h) = .ok (v :: vs) h := rfl
@[simp] theorem Gz (es : gw) (v : Val) (h : H) : Vn C ls es (.ok v h) = kL2 v (pI C ls es h) := rfl
@[simp] theorem rA (h : H) : pI C ls .nil h = .ok [] h := rfl
@[simp] theorem oJ (e : ME) (es : gw) (h : H) : pI C ls (.cons e es) h = Vn C ls es (aL C ls e h) := rfl
noncomputable def Vk (r : Res (List Val)) : Res Val := r.bind fun vs h => if vs.length <= bH then .ok (.tup vs) h else .bad
noncomputable def Gx (r : Res (List Val)) : Res Val := r.bind fun vs h => if vs.length <= bH then .ok (.lst h.length) (h ++ [.lst vs]) else .bad
noncomputable def Ai (f : Nat) (r : Res (List Val)) : Res Val := r.bind fun vs h => C f vs h
noncomputable def QG (b : Mi) (r : Res (List Val)) : Res Val := r.bind fun vs h => iU b vs h
@[simp] theorem afv (h : H) : Vk (.ok [] h) = .ok (.tup []) h := rfl
@[simp] theorem afu (a b : Val) (h : H) : Vk (.ok [a,b] h) = .ok (.tup [a,b]) h := rfl
@[simp] theorem aft (a b c d : Val) (h : H) : Vk (.ok [a,b,c,d] h) = .ok (.tup [a,b,c,d]) h := rfl
@[simp] theorem afE (h : H) : Gx (.ok [] h) = .ok (.lst h.length) (h ++ [.lst []]) := rfl
@[simp] theorem afD (a : Val) (h : H) : Gx (.ok [a] h) = .ok (.lst h.length) (h ++ [.lst [a]]) := rfl
theorem IW {vs : List Val} {h : H} (e : vs.length <= bH) : Gx (.ok vs h) = .ok (.lst h.length) (h ++ [.lst vs]) := by
 show (if vs.length <= bH then Res.ok (Val.lst h.length) (h ++ [.lst vs]) else .bad) = _
 rw [if_pos e]
@[simp] theorem aaL (f : Nat) (vs : List Val) (h : H) : Ai C f (.ok vs h) = C f vs h := rfl
@[simp] theorem aaM (b : Mi) (vs : List Val) (h : H) : QG b (.ok vs h) = iU b vs h := rfl
@[simp] theorem Jm (es : gw) (h : H) : aL C ls (.tup es) h = Vk (pI C ls es h) := rfl
@[simp] theorem rB (es : gw) (h : H) : aL C ls (.lst es) h = Gx (pI C ls es h) := rfl
@[simp] theorem zp (f : Nat) (es : gw) (h : H) : aL C ls (.cI f es) h = Ai C f (pI C ls es h) := rfl
@[simp] theorem zu (b : Mi) (es : gw) (h : H) : aL C ls (.cg b es) h = QG b (pI C ls es h) := rfl
noncomputable def IK (c l : Nat) (r : Res Val) : Res Val := r.bind fun r h' => match r with
   | .none => .ok (.inst c l) h'
   | _ => .bad
noncomputable def wA (c : Nat) (r : Res (List Val)) : Res Val := r.bind fun vs h => IK c h.length (C (initOf c) (.inst c h.length :: vs) (h ++ [.ns c []]))
@[simp] theorem Qv (c l : Nat) (h : H) : IK c l (.ok .none h) = .ok (.inst c l) h := rfl
@[simp] theorem aaK (c l : Nat) (h : H) : IK c l (.exc h) = .exc h := rfl
@[simp] theorem acy (c : Nat) (vs : List Val) (h : H) : wA C c (.ok vs h) = IK c h.length (C (initOf c) (.inst c h.length :: vs) (h ++ [.ns c []])) := rfl
@[simp] theorem zq (c : Nat) (es : gw) (h : H) : aL C ls (.oM c es) h = wA C c (pI C ls es h) := rfl
noncomputable def nF (m : zM) (u : Val) (r : Res (List Val)) : Res Val := r.bind fun vs h => gW m u vs h
noncomputable def IV (f : Nat) (u : Val) (r : Res (List Val)) : Res Val := r.bind fun vs h => C f (u :: vs) h
noncomputable def jr (m : zM) (es : gw) (r : Res Val) : Res Val := r.bind fun u h => match u with
  | .inst c l => match je c m,h[l]? with
   | some f,some (.ns _ _) => IV C f u (pI C ls es h)
   | _,_ => .bad
  | _ => if Pu m u h then nF m u (pI C ls es h) else .bad
@[simp] theorem acz (m : zM) (u : Val) (vs : List Val) (h : H) : nF m u (.ok vs h) = gW m u vs h := rfl
@[simp] theorem acA (f : Nat) (u : Val) (vs : List Val) (h : H) : IV C f u (.ok vs h) = C f (u :: vs) h := rfl
@[simp] theorem DK (a : ME) (m : zM) (es : gw) (h : H) : aL C ls (.meth a m es) h = jr C ls m es (aL C ls a h) := rfl
theorem fW {m : zM} {es : gw} {c c' l f : Nat} {as : List (Nat × Val)} {h : H} (e1 : je c m = some f) (e2 : h[l]? = some (.ns c' as)) : jr C ls m es (.ok (.inst c l) h) = IV C f (.inst c l) (pI C ls es h) := by
 show (match je c m,h[l]? with | some f,some (.ns _ _) => IV C f (.inst c l) (pI C ls es h) | _,_ => .bad) = _
 rw [e1,e2]
theorem yR {es : gw} {l : Nat} {vs : List Val} {h : H} (e : h[l]? = some (.lst vs)) : jr C ls .aO es (.ok (.lst l) h) = nF .aO (.lst l) (pI C ls es h) := by
 have hm : Pu .aO (.lst l) h = true := by unfold Pu; dsimp only; rw [e]
 show (if Pu .aO (.lst l) h then _ else _) = _
 rw [if_pos hm]
theorem K1 {es : gw} {l : Nat} {vs : List (Bs × Val)} {h : H} (e : h[l]? = some (.dct vs)) : jr C ls .get_ es (.ok (.dct l) h) = nF .get_ (.dct l) (pI C ls es h) := by
 have hm : Pu .get_ (.dct l) h = true := by unfold Pu; dsimp only; rw [e]
 show (if Pu .get_ (.dct l) h then _ else _) = _
 rw [if_pos hm]
@[simp] theorem acB (es : gw) (b : Bs) (h : H) : jr C ls .aZ es (.ok (.bytes b) h) = nF .aZ (.bytes b) (pI C ls es h) := rfl
@[simp] theorem acF (es : gw) (b : Bs) (h : H) : jr C ls .bk es (.ok (.bytes b) h) = nF .bk (.bytes b) (pI C ls es h) := rfl
@[simp] theorem acC (es : gw) (b : Bs) (h : H) : jr C ls .cT es (.ok (.bytes b) h) = nF .cT (.bytes b) (pI C ls es h) := rfl
@[simp] theorem acE (es : gw) (b : Bs) (h : H) : jr C ls .mJ es (.ok (.bytes b) h) = nF .mJ (.bytes b) (pI C ls es h) := rfl
@[simp] theorem acD (es : gw) (b : Bs) (h : H) : jr C ls .iW es (.ok (.bytes b) h) = nF .iW (.bytes b) (pI C ls es h) := rfl
@[simp] theorem acG (es : gw) (b : Bs) (h : H) : jr C ls .gq es (.ok (.bytes b) h) = nF .gq (.bytes b) (pI C ls es h) := rfl
noncomputable def qx (x : Nat) (v : Val) (h : H) : SR := match putAt ls x v with
 | some ls' => .ok .next ls' h
 | none => .bad
theorem Cj : ∀ (ls : Ls) (x : Nat) (v : Val),x < ls.length -> putAt ls x v = some (ls.set x (some v))
 | [],_,_,h => by cases h
 | _ :: r,0,v,_ => rfl
 | a :: r,n + 1,v,h => by
  show (putAt r n v).map (a :: ·) = _
  rw [Cj r n v (by simpa using h)]; rfl
@[simp] theorem eO (x : Nat) (v : Val) (h : H) : store C (.var x) v ls h = qx ls x v h := rfl
@[simp] theorem abI (k : Nat) (v : Val) : kO [] k v = [(k,v)] := rfl
@[simp] theorem aaC (j k : Nat) (v w : Val) (r : List (Nat × Val)) : kO ((j,w) :: r) k v = if j = k then (j,v) :: r else (j,w) :: kO r k v := rfl
@[simp] theorem afy (o v : Option Val) (u : Val) (r : Ls) (h : H) : qx (o :: r) 0 u h = .ok .next (some u :: r) h := rfl
@[simp] theorem qZ {x : Nat} (v : Val) (h : H) (e : x < ls.length) : qx ls x v h = .ok .next (ls.set x (some v)) h := by unfold qx; rw [Cj _ _ _ e]
noncomputable def Qk (k : Nat) (v : Val) (r : Res Val) : SR := SR.of ls r fun u h => match u with
  | .inst _ l => match h[l]? with
   | some (.ns c as) => .ok .next ls (h.set l (.ns c (kO as k v)))
   | _ => .bad
  | _ => .bad
theorem Iz {k c c' l : Nat} {v : Val} {as : List (Nat × Val)} {h : H} (e : h[l]? = some (.ns c' as)) : Qk ls k v (.ok (.inst c l) h) = .ok .next ls (h.set l (.ns c' (kO as k v))) := by
 show (match h[l]? with | some (.ns c as) => SR.ok .next ls (h.set l (.ns c (kO as k v))) | _ => .bad) = _
 rw [e]
@[simp] theorem store_attr (a : ME) (k : Nat) (v : Val) (h : H) : store C (.attr a k) v ls h = Qk ls k v (aL C ls a h) := rfl
noncomputable def Iw (v u : Val) (r : Res Val) : SR := SR.of ls r fun i h => match u,i with
  | .lst l,.int (-1) => match h[l]? with
   | some (.lst vs) => if vs.isEmpty then .bad else .ok .next ls (h.set l (.lst (vs.dropLast ++ [v])))
   | _ => .bad
  | _,_ => .bad
noncomputable def Xa (b : ME) (v : Val) (r : Res Val) : SR := SR.of ls r fun u h => Iw ls v u (aL C ls b h)
@[simp] theorem acp (b : ME) (v u : Val) (h : H) : Xa C ls b v (.ok u h) = Iw ls v u (aL C ls b h) := rfl
theorem Qj {l : Nat} {v : Val} {vs : List Val} {h : H} (e : h[l]? = some (.lst vs)) (e2 : vs.isEmpty = false) : Iw ls v (.lst l) (.ok (.int (-1)) h) = .ok .next ls (h.set l (.lst (vs.dropLast ++ [v]))) := by
 show (match h[l]? with | some (.lst vs) => (if vs.isEmpty then SR.bad else .ok .next ls (h.set l (.lst (vs.dropLast ++ [v])))) | _ => .bad) = _
 rw [e]; dsimp only; rw [e2]; rfl
@[simp] theorem aay (a b : ME) (v : Val) (h : H) : store C (.idx a b) v ls h = Xa C ls b v (aL C ls a h) := rfl
end
section
variable (C : bK)
noncomputable def agU (f : Ls -> H -> SR) (r : SR) : SR := r.then f
noncomputable def aco (ts : List Tg) (vs : List Val) (r : SR) : SR := r.then fun ls h => fB C ts vs ls h
@[simp] theorem vo (ts : List Tg) (vs : List Val) (ls : Ls) (h : H) : aco C ts vs (.ok .next ls h) = fB C ts vs ls h := rfl
@[simp] theorem mR (ls : Ls) (h : H) : fB C [] [] ls h = .ok .next ls h := rfl
@[simp] theorem kZ (t : Tg) (ts : List Tg) (v : Val) (vs : List Val) (ls : Ls) (h : H) : fB C (t :: ts) (v :: vs) ls h = aco C ts vs (store C t v ls h) := rfl
noncomputable def kSt (t : Tg) (ls : Ls) (r : Res Val) : SR := SR.of ls r fun v h => store C t v ls h
@[simp] theorem Qi (t : Tg) (ls : Ls) (v : Val) (h : H) : kSt C t ls (.ok v h) = store C t v ls h := rfl
@[simp] theorem ad5 (t : Tg) (ls : Ls) (h : H) : kSt C t ls (.exc h) = .exc ls h := rfl
@[simp] theorem wU (t : Tg) (e : ME) (ls : Ls) (h : H) : exS C (.assign t e) ls h = kSt C t ls (aL C ls e h) := rfl
noncomputable def Ql (u : Tg) (v : Val) (r : SR) : SR := r.then fun ls h => store C u v ls h
noncomputable def acr (t u : Tg) (ls : Ls) (r : Res Val) : SR := SR.of ls r fun v h => Ql C u v (store C t v ls h)
@[simp] theorem acq (u : Tg) (v : Val) (ls : Ls) (h : H) : Ql C u v (.ok .next ls h) = store C u v ls h := rfl
@[simp] theorem ad6 (t u : Tg) (ls : Ls) (v : Val) (h : H) : acr C t u ls (.ok v h) = Ql C u v (store C t v ls h) := rfl
@[simp] theorem Xl (t u : Tg) (e : ME) (ls : Ls) (h : H) : exS C (.assign2 t u e) ls h = acr C t u ls (aL C ls e h) := rfl
noncomputable def Za (ts : List Tg) (ls : Ls) (r : Res Val) : SR := SR.of ls r fun v h => match v with
  | .tup vs => if vs.length = ts.length then fB C ts vs ls h else .bad
  | _ => .bad
@[simp] theorem afx (t u : Tg) (ls : Ls) (a b : Val) (h : H) : Za C [t,u] ls (.ok (.tup [a,b]) h) = fB C [t,u] [a,b] ls h := rfl
@[simp] theorem acn (ts : List Tg) (ls : Ls) (h : H) : Za C ts ls (.exc h) = .exc ls h := rfl
@[simp] theorem Xk (ts : List Tg) (e : ME) (ls : Ls) (h : H) : exS C (.dD ts e) ls h = Za C ts ls (aL C ls e h) := rfl
noncomputable def acj (xs : List Nat) (ls : Ls) (r : Res Val) : SR := SR.of ls r fun v h => match v with
  | .tup vs => if vs.length = xs.length then fB C (xs.reverse.map Tg.var) vs.reverse ls h else .bad
  | _ => .bad
@[simp] theorem afw (x y : Nat) (ls : Ls) (a b : Val) (h : H) : acj C [x,y] ls (.ok (.tup [a,b]) h) = fB C [.var y,.var x] [b,a] ls h := rfl
@[simp] theorem Xj (xs : List Nat) (e : ME) (ls : Ls) (h : H) : exS C (.lF xs e) ls h = acj C xs ls (aL C ls e h) := rfl
noncomputable def nG (x : Nat) (op : vI) (u v : Val) (ls : Ls) (h : H) : SR := Wj op u v x ls h
noncomputable def mD (x : Nat) (op : vI) (u : Val) (ls : Ls) (r : Res Val) : SR := SR.of ls r fun v h => nG x op u v ls h
noncomputable def acS (x : Nat) (op : vI) (e : ME) (ls : Ls) (o : Option (Option Val)) (h : H) : SR := match o with
 | some (some u) => mD x op u ls (aL C ls e h)
 | _ => .bad
@[simp] theorem aaN (x : Nat) (i j : Int) (ls : Ls) (h : H) : nG x .add (.int i) (.int j) ls h = .ok .next (ls.set x (some (.int (i + j)))) h := rfl
theorem dG {x : Nat} {a b : Bs} {ls : Ls} {h : H} (e : a.length + b.length <= bH) : nG x .add (.bytes a) (.bytes b) ls h = .ok .next (ls.set x (some (.bytes (a ++ b)))) h := by
 show (if a.length + b.length <= bH then _ else _) = _
 rw [if_pos e]
@[simp] theorem acR (x : Nat) (op : vI) (u v : Val) (ls : Ls) (h : H) : mD x op u ls (.ok v h) = nG x op u v ls h := rfl
@[simp] theorem aaO (x : Nat) (op : vI) (u : Val) (ls : Ls) (h : H) : mD x op u ls (.exc h) = .exc ls h := rfl
@[simp] theorem aej (x : Nat) (op : vI) (e : ME) (ls : Ls) (u : Val) (h : H) : acS C x op e ls (some (some u)) h = mD x op u ls (aL C ls e h) := rfl
@[simp] theorem aew (x : Nat) (op : vI) (e : ME) (ls : Ls) (h : H) : exS C (.aug x op e) ls h = acS C x op e ls ls[x]? h := rfl
noncomputable def kIf (a b : bG) (ls : Ls) (r : Res Bool) : SR := SR.ofT ls r fun c h => if c then dz C a ls h else dz C b ls h
@[simp] theorem agX (a b : bG) (ls : Ls) (h : H) : kIf C a b ls (.ok true h) = dz C a ls h := rfl
@[simp] theorem Dd (a b : bG) (ls : Ls) (h : H) : kIf C a b ls (.ok false h) = dz C b ls h := rfl
@[simp] theorem vA (t : ME) (a b : bG) (ls : Ls) (h : H) : exS C (.dw t a b) ls h = kIf C a b ls (jd C ls t h) := rfl
noncomputable def KZ (ls : Ls) (r : Res Val) : SR := SR.of ls r fun v h => .ok (.ret v) ls h
@[simp] theorem ad7 (ls : Ls) (v : Val) (h : H) : KZ ls (.ok v h) = .ok (.ret v) ls h := rfl
@[simp] theorem acs (ls : Ls) (h : H) : KZ ls (.exc h) = .exc ls h := rfl
@[simp] theorem VK (e : ME) (ls : Ls) (h : H) : exS C (.ret e) ls h = KZ ls (aL C ls e h) := rfl
noncomputable def Qt (ls : Ls) (r : Res Val) : SR := SR.of ls r fun _ h => .exc ls h
@[simp] theorem aaI (ls : Ls) (v : Val) (h : H) : Qt ls (.ok v h) = .exc ls h := rfl
@[simp] theorem aaU (e : ME) (ls : Ls) (h : H) : exS C (.raise e) ls h = Qt ls (aL C ls e h) := rfl
noncomputable def kExpr (ls : Ls) (r : Res Val) : SR := SR.of ls r fun v h => match v with
  | .none => .ok .next ls h
  | _ => .bad
@[simp] theorem acP (ls : Ls) (h : H) : kExpr ls (.ok .none h) = .ok .next ls h := rfl
@[simp] theorem adk (e : ME) (ls : Ls) (h : H) : exS C (.expr e) ls h = kExpr ls (aL C ls e h) := rfl
@[simp] theorem aev (ls : Ls) (h : H) : exS C .brk ls h = .ok .brk ls h := rfl
@[simp] theorem adl (ls : Ls) (h : H) : exS C .cont ls h = .ok .cont ls h := rfl
noncomputable def kB (b : bG) (r : SR) : SR := r.then fun ls h => dz C b ls h
@[simp] theorem iQ (b : bG) (ls : Ls) (h : H) : kB C b (.ok .next ls h) = dz C b ls h := rfl
@[simp] theorem Zi (b : bG) (v : Val) (ls : Ls) (h : H) : kB C b (.ok (.ret v) ls h) = .ok (.ret v) ls h := rfl
@[simp] theorem afN (b : bG) (ls : Ls) (h : H) : kB C b (.ok .brk ls h) = .ok .brk ls h := rfl
@[simp] theorem aei (b : bG) (ls : Ls) (h : H) : kB C b (.ok .cont ls h) = .ok .cont ls h := rfl
@[simp] theorem QJ (b : bG) (ls : Ls) (h : H) : kB C b (.exc ls h) = .exc ls h := rfl
@[simp] theorem Jk (ls : Ls) (h : H) : dz C .nil ls h = .ok .next ls h := rfl
@[simp] theorem fZ (s : MS) (b : bG) (ls : Ls) (h : H) : dz C (.cons s b) ls h = kB C b (exS C s ls h) := rfl
theorem vD {C : bK} {x : Nat} {e : ME} {b : bG} {ls : Ls} {v : Val} {h h' : H} (hv : aL C ls e h = .ok v h') (hx : x < ls.length) : dz C (.cons (.assign (.var x) e) b) ls h = dz C b (ls.set x (some v)) h' := by
 show kB C b (kSt C (.var x) ls (aL C ls e h)) = _
 rw [hv]
 show kB C b (qx ls x v h') = _
 rw [qZ ls v h' hx,iQ]
theorem pW {a n : Nat} (h : a < n) : ∃ m,n = m + 1 := by
 cases n with
 | zero => exact absurd h (Nat.not_lt_zero _)
 | succ m => exact ⟨m,rfl⟩
noncomputable def wh (t : ME) (b : bG) (n : Nat) (ls : Ls) (h : H) : SR := vM (fun ls h => jd C ls t h) (fun ls h => dz C b ls h) n ls h
noncomputable def W9 (t : ME) (b : bG) (n : Nat) (r : SR) : SR := r.turn fun ls h => wh C t b n ls h
noncomputable def kW1 (t : ME) (b : bG) (n : Nat) (ls : Ls) (r : Res Bool) : SR := SR.ofT ls r fun c h => if c then W9 C t b n (dz C b ls h) else .ok .next ls h
@[simp] theorem aes (t : ME) (b : bG) (ls : Ls) (h : H) : exS C (.whl t b) ls h = wh C t b FUEL ls h := rfl
theorem aH (t : ME) (b : bG) (n : Nat) (ls : Ls) (h : H) : wh C t b (n + 1) ls h = kW1 C t b n ls (jd C ls t h) := rfl
@[simp] theorem CV (t : ME) (b : bG) (n : Nat) (ls : Ls) (h : H) : kW1 C t b n ls (.ok true h) = W9 C t b n (dz C b ls h) := rfl
@[simp] theorem Qh (t : ME) (b : bG) (n : Nat) (ls : Ls) (h : H) : kW1 C t b n ls (.ok false h) = .ok .next ls h := rfl
@[simp] theorem oF (t : ME) (b : bG) (n : Nat) (ls : Ls) (h : H) : W9 C t b n (.ok .next ls h) = wh C t b n ls h := rfl
@[simp] theorem acg (t : ME) (b : bG) (n : Nat) (ls : Ls) (h : H) : W9 C t b n (.ok .cont ls h) = wh C t b n ls h := rfl
@[simp] theorem ad3 (t : ME) (b : bG) (n : Nat) (ls : Ls) (h : H) : W9 C t b n (.ok .brk ls h) = .ok .next ls h := rfl
@[simp] theorem Vi (t : ME) (b : bG) (n : Nat) (v : Val) (ls : Ls) (h : H) : W9 C t b n (.ok (.ret v) ls h) = .ok (.ret v) ls h := rfl
@[simp] theorem Vj (t : ME) (b : bG) (n : Nat) (ls : Ls) (h : H) : W9 C t b n (.exc ls h) = .exc ls h := rfl
noncomputable def putN (x : Nat) (v : Val) (ls : Ls) (h : H) : SR := store C (.var x) v ls h
noncomputable def qW (xs : List Nat) (v : Val) (ls : Ls) (h : H) : SR := match v with
    | .tup vs => if vs.length = xs.length then fB C (xs.map Tg.var) vs ls h else .bad
    | _ => .bad
noncomputable def fr (put : Val -> Ls -> H -> SR) (b : bG) (src : Src) (n i : Nat) (ls : Ls) (h : H) : SR := forL src put (fun ls h => dz C b ls h) n i ls h
noncomputable def S6 (put : Val -> Ls -> H -> SR) (b : bG) (src : Src) (n i : Nat) (r : SR) : SR := r.turn fun ls h => fr C put b src n i ls h
noncomputable def kF2 (put : Val -> Ls -> H -> SR) (b : bG) (src : Src) (n i : Nat) (r : SR) : SR := r.then fun ls h => S6 C put b src n i (dz C b ls h)
noncomputable def kF1 (put : Val -> Ls -> H -> SR) (b : bG) (src : Src) (n i : Nat) (ls : Ls) (o : Option (Option Val)) (h : H) : SR := match o with
 | none => .bad
 | some none => .ok .next ls h
 | some (some x) => kF2 C put b src n (i + 1) (put x ls h)
theorem cJ (put : Val -> Ls -> H -> SR) (b : bG) (src : Src) (n i : Nat) (ls : Ls) (h : H) : fr C put b src (n + 1) i ls h = kF1 C put b src n i ls (nx src i h) h := rfl
@[simp] theorem Ah (put : Val -> Ls -> H -> SR) (b : bG) (src : Src) (n i : Nat) (ls : Ls) (h : H) : kF1 C put b src n i ls (some none) h = .ok .next ls h := rfl
@[simp] theorem QB (put : Val -> Ls -> H -> SR) (b : bG) (src : Src) (n i : Nat) (ls : Ls) (x : Val) (h : H) : kF1 C put b src n i ls (some (some x)) h = kF2 C put b src n (i + 1) (put x ls h) := rfl
@[simp] theorem Qz (put : Val -> Ls -> H -> SR) (b : bG) (src : Src) (n i : Nat) (ls : Ls) (h : H) : kF2 C put b src n i (.ok .next ls h) = S6 C put b src n i (dz C b ls h) := rfl
@[simp] theorem Qy (put : Val -> Ls -> H -> SR) (b : bG) (src : Src) (n i : Nat) (ls : Ls) (h : H) : S6 C put b src n i (.ok .next ls h) = fr C put b src n i ls h := rfl
@[simp] theorem acN (put : Val -> Ls -> H -> SR) (b : bG) (src : Src) (n i : Nat) (ls : Ls) (h : H) : S6 C put b src n i (.ok .cont ls h) = fr C put b src n i ls h := rfl
@[simp] theorem aed (put : Val -> Ls -> H -> SR) (b : bG) (src : Src) (n i : Nat) (ls : Ls) (h : H) : S6 C put b src n i (.ok .brk ls h) = .ok .next ls h := rfl
@[simp] theorem aeb (put : Val -> Ls -> H -> SR) (b : bG) (src : Src) (n i : Nat) (v : Val) (ls : Ls) (h : H) : S6 C put b src n i (.ok (.ret v) ls h) = .ok (.ret v) ls h := rfl
@[simp] theorem aec (put : Val -> Ls -> H -> SR) (b : bG) (src : Src) (n i : Nat) (ls : Ls) (h : H) : S6 C put b src n i (.exc ls h) = .exc ls h := rfl
@[simp] theorem ad1 (x : Nat) (v : Val) (ls : Ls) (h : H) : putN C x v ls h = qx ls x v h := rfl
@[simp] theorem N5 (x y : Nat) (a b : Val) (ls : Ls) (h : H) : qW C [x,y] (.tup [a,b]) ls h = fB C [.var x,.var y] [a,b] ls h := rfl
@[simp] theorem ae4 (x y z u : Nat) (a b c d : Val) (ls : Ls) (h : H) : qW C [x,y,z,u] (.tup [a,b,c,d]) ls h = fB C [.var x,.var y,.var z,.var u] [a,b,c,d] ls h := rfl
noncomputable def kFor (put : Val -> Ls -> H -> SR) (b : bG) (ls : Ls) (r : Res Val) : SR := SR.of ls r fun v h => match srcOf v with
  | some src => fr C put b src FUEL 0 ls h
  | none => .bad
@[simp] theorem acL (put : Val -> Ls -> H -> SR) (b : bG) (ls : Ls) (vs : List Val) (h : H) : kFor C put b ls (.ok (.tup vs) h) = fr C put b (.vals vs) FUEL 0 ls h := rfl
@[simp] theorem Zh (put : Val -> Ls -> H -> SR) (b : bG) (ls : Ls) (x : Bs) (h : H) : kFor C put b ls (.ok (.bytes x) h) = fr C put b (.vals (x.map fun c => .int c.toNat)) FUEL 0 ls h := rfl
@[simp] theorem acM (put : Val -> Ls -> H -> SR) (b : bG) (ls : Ls) (l : Nat) (h : H) : kFor C put b ls (.ok (.lst l) h) = fr C put b (.lst l) FUEL 0 ls h := rfl
@[simp] theorem adi (x : Nat) (e : ME) (b : bG) (ls : Ls) (h : H) : exS C (.uT x e b) ls h = kFor C (putN C x) b ls (aL C ls e h) := rfl
@[simp] theorem adg (xs : List Nat) (e : ME) (b : bG) (ls : Ls) (h : H) : exS C (.sZ xs e b) ls h = kFor C (qW C xs) b ls (aL C ls e h) := rfl
noncomputable def iI (r : SR) : Res Val := match r with
  | .ok (.ret v) _ h => .ok v h
  | .ok .next _ h => .ok .none h
  | .ok _ _ _ => .bad
  | .exc _ h => .exc h
  | .bad => .bad
@[simp] theorem Qs (v : Val) (ls : Ls) (h : H) : iI (.ok (.ret v) ls h) = .ok v h := rfl
@[simp] theorem aaH (ls : Ls) (h : H) : iI (.ok .next ls h) = .ok .none h := rfl
@[simp] theorem Dc (ls : Ls) (h : H) : iI (.exc ls h) = .exc h := rfl
theorem vg {d : FD} {vs : List Val} {h : H} (e : vs.length <= d.np /\ d.np <= vs.length + d.dflt.length) : cj C d vs h = iI (dz C d.body ((vs ++ d.dflt.drop (vs.length + d.dflt.length - d.np)).map some ++ List.replicate (d.ns - d.np) none) h) := by
 unfold cj iI; rw [if_pos e]; try rfl
end
@[simp] theorem bC (h : H) (c : Cell) (t : H) : (h ++ c :: t)[h.length]? = some c := by simp
theorem lim {n : Nat} (h : n <= 100000) : n <= bH := Nat.le_trans h (by decide)
theorem fuel2 : FUEL = (FUEL - 2) + 2 := (Nat.sub_add_cancel (by rw [bL]; decide)).symm
theorem fuel1 : FUEL = (FUEL - 1) + 1 := (Nat.sub_add_cancel (by rw [bL]; decide)).symm
section
variable {α : Type} {C : bK} {l : Ls} {u v : Val} {h : H} {op : vI} {e : ME} {s0 s1 s2 s3 s4 s5 s6 s7 s8 s9 s10 s11 s12 : Option Val} {a0 a1 a2 a3 a4 a5 a6 a7 a8 a9 a10 a11 a12 v' : α} {r : List α}
@[simp high] theorem ev0 : aL C (some v :: l) (.var 0) h = .ok v h := rfl
@[simp high] theorem st0 : store C (.var 0) v (s0 :: l) h = .ok .next (some v :: l) h := rfl
@[simp high] theorem pu0 : qx (s0 :: l) 0 v h = .ok .next (some v :: l) h := rfl
@[simp high] theorem ag0 : exS C (.aug 0 op e) (some u :: l) h = mD 0 op u (some u :: l) (aL C (some u :: l) e h) := rfl
@[simp high] theorem se0 (v : α) : (a0 :: r).set 0 v = v :: r := rfl
@[simp high] theorem ge0 : (a0 :: r)[0]? = some a0 := rfl
@[simp high] theorem ev1 : aL C (s0 :: some v :: l) (.var 1) h = .ok v h := rfl
@[simp high] theorem st1 : store C (.var 1) v (s0 :: s1 :: l) h = .ok .next (s0 :: some v :: l) h := rfl
@[simp high] theorem pu1 : qx (s0 :: s1 :: l) 1 v h = .ok .next (s0 :: some v :: l) h := rfl
@[simp high] theorem ag1 : exS C (.aug 1 op e) (s0 :: some u :: l) h = mD 1 op u (s0 :: some u :: l) (aL C (s0 :: some u :: l) e h) := rfl
@[simp high] theorem se1 (v : α) : (a0 :: a1 :: r).set 1 v = a0 :: v :: r := rfl
@[simp high] theorem ge1 : (a0 :: a1 :: r)[1]? = some a1 := rfl
@[simp high] theorem ev2 : aL C (s0 :: s1 :: some v :: l) (.var 2) h = .ok v h := rfl
@[simp high] theorem st2 : store C (.var 2) v (s0 :: s1 :: s2 :: l) h = .ok .next (s0 :: s1 :: some v :: l) h := rfl
@[simp high] theorem pu2 : qx (s0 :: s1 :: s2 :: l) 2 v h = .ok .next (s0 :: s1 :: some v :: l) h := rfl
@[simp high] theorem ag2 : exS C (.aug 2 op e) (s0 :: s1 :: some u :: l) h = mD 2 op u (s0 :: s1 :: some u :: l) (aL C (s0 :: s1 :: some u :: l) e h) := rfl
@[simp high] theorem se2 (v : α) : (a0 :: a1 :: a2 :: r).set 2 v = a0 :: a1 :: v :: r := rfl
@[simp high] theorem ge2 : (a0 :: a1 :: a2 :: r)[2]? = some a2 := rfl
@[simp high] theorem ev3 : aL C (s0 :: s1 :: s2 :: some v :: l) (.var 3) h = .ok v h := rfl
@[simp high] theorem st3 : store C (.var 3) v (s0 :: s1 :: s2 :: s3 :: l) h = .ok .next (s0 :: s1 :: s2 :: some v :: l) h := rfl
@[simp high] theorem pu3 : qx (s0 :: s1 :: s2 :: s3 :: l) 3 v h = .ok .next (s0 :: s1 :: s2 :: some v :: l) h := rfl
@[simp high] theorem ag3 : exS C (.aug 3 op e) (s0 :: s1 :: s2 :: some u :: l) h = mD 3 op u (s0 :: s1 :: s2 :: some u :: l) (aL C (s0 :: s1 :: s2 :: some u :: l) e h) := rfl
@[simp high] theorem se3 (v : α) : (a0 :: a1 :: a2 :: a3 :: r).set 3 v = a0 :: a1 :: a2 :: v :: r := rfl
@[simp high] theorem ge3 : (a0 :: a1 :: a2 :: a3 :: r)[3]? = some a3 := rfl
@[simp high] theorem ev4 : aL C (s0 :: s1 :: s2 :: s3 :: some v :: l) (.var 4) h = .ok v h := rfl
@[simp high] theorem st4 : store C (.var 4) v (s0 :: s1 :: s2 :: s3 :: s4 :: l) h = .ok .next (s0 :: s1 :: s2 :: s3 :: some v :: l) h := rfl
@[simp high] theorem pu4 : qx (s0 :: s1 :: s2 :: s3 :: s4 :: l) 4 v h = .ok .next (s0 :: s1 :: s2 :: s3 :: some v :: l) h := rfl
@[simp high] theorem ag4 : exS C (.aug 4 op e) (s0 :: s1 :: s2 :: s3 :: some u :: l) h = mD 4 op u (s0 :: s1 :: s2 :: s3 :: some u :: l) (aL C (s0 :: s1 :: s2 :: s3 :: some u :: l) e h) := rfl
@[simp high] theorem se4 (v : α) : (a0 :: a1 :: a2 :: a3 :: a4 :: r).set 4 v = a0 :: a1 :: a2 :: a3 :: v :: r := rfl
@[simp high] theorem ge4 : (a0 :: a1 :: a2 :: a3 :: a4 :: r)[4]? = some a4 := rfl
@[simp high] theorem ev5 : aL C (s0 :: s1 :: s2 :: s3 :: s4 :: some v :: l) (.var 5) h = .ok v h := rfl
@[simp high] theorem st5 : store C (.var 5) v (s0 :: s1 :: s2 :: s3 :: s4 :: s5 :: l) h = .ok .next (s0 :: s1 :: s2 :: s3 :: s4 :: some v :: l) h := rfl
@[simp high] theorem pu5 : qx (s0 :: s1 :: s2 :: s3 :: s4 :: s5 :: l) 5 v h = .ok .next (s0 :: s1 :: s2 :: s3 :: s4 :: some v :: l) h := rfl
@[simp high] theorem ag5 : exS C (.aug 5 op e) (s0 :: s1 :: s2 :: s3 :: s4 :: some u :: l) h = mD 5 op u (s0 :: s1 :: s2 :: s3 :: s4 :: some u :: l) (aL C (s0 :: s1 :: s2 :: s3 :: s4 :: some u :: l) e h) := rfl
@[simp high] theorem se5 (v : α) : (a0 :: a1 :: a2 :: a3 :: a4 :: a5 :: r).set 5 v = a0 :: a1 :: a2 :: a3 :: a4 :: v :: r := rfl
@[simp high] theorem ge5 : (a0 :: a1 :: a2 :: a3 :: a4 :: a5 :: r)[5]? = some a5 := rfl
@[simp high] theorem ev6 : aL C (s0 :: s1 :: s2 :: s3 :: s4 :: s5 :: some v :: l) (.var 6) h = .ok v h := rfl
@[simp high] theorem st6 : store C (.var 6) v (s0 :: s1 :: s2 :: s3 :: s4 :: s5 :: s6 :: l) h = .ok .next (s0 :: s1 :: s2 :: s3 :: s4 :: s5 :: some v :: l) h := rfl
@[simp high] theorem pu6 : qx (s0 :: s1 :: s2 :: s3 :: s4 :: s5 :: s6 :: l) 6 v h = .ok .next (s0 :: s1 :: s2 :: s3 :: s4 :: s5 :: some v :: l) h := rfl
@[simp high] theorem ag6 : exS C (.aug 6 op e) (s0 :: s1 :: s2 :: s3 :: s4 :: s5 :: some u :: l) h = mD 6 op u (s0 :: s1 :: s2 :: s3 :: s4 :: s5 :: some u :: l) (aL C (s0 :: s1 :: s2 :: s3 :: s4 :: s5 :: some u :: l) e h) := rfl
@[simp high] theorem se6 (v : α) : (a0 :: a1 :: a2 :: a3 :: a4 :: a5 :: a6 :: r).set 6 v = a0 :: a1 :: a2 :: a3 :: a4 :: a5 :: v :: r := rfl
@[simp high] theorem ge6 : (a0 :: a1 :: a2 :: a3 :: a4 :: a5 :: a6 :: r)[6]? = some a6 := rfl
@[simp high] theorem ev7 : aL C (s0 :: s1 :: s2 :: s3 :: s4 :: s5 :: s6 :: some v :: l) (.var 7) h = .ok v h := rfl
@[simp high] theorem st7 : store C (.var 7) v (s0 :: s1 :: s2 :: s3 :: s4 :: s5 :: s6 :: s7 :: l) h = .ok .next (s0 :: s1 :: s2 :: s3 :: s4 :: s5 :: s6 :: some v :: l) h := rfl
@[simp high] theorem pu7 : qx (s0 :: s1 :: s2 :: s3 :: s4 :: s5 :: s6 :: s7 :: l) 7 v h = .ok .next (s0 :: s1 :: s2 :: s3 :: s4 :: s5 :: s6 :: some v :: l) h := rfl
@[simp high] theorem ag7 : exS C (.aug 7 op e) (s0 :: s1 :: s2 :: s3 :: s4 :: s5 :: s6 :: some u :: l) h = mD 7 op u (s0 :: s1 :: s2 :: s3 :: s4 :: s5 :: s6 :: some u :: l) (aL C (s0 :: s1 :: s2 :: s3 :: s4 :: s5 :: s6 :: some u :: l) e h) := rfl
@[simp high] theorem se7 (v : α) : (a0 :: a1 :: a2 :: a3 :: a4 :: a5 :: a6 :: a7 :: r).set 7 v = a0 :: a1 :: a2 :: a3 :: a4 :: a5 :: a6 :: v :: r := rfl
@[simp high] theorem ge7 : (a0 :: a1 :: a2 :: a3 :: a4 :: a5 :: a6 :: a7 :: r)[7]? = some a7 := rfl
@[simp high] theorem ev8 : aL C (s0 :: s1 :: s2 :: s3 :: s4 :: s5 :: s6 :: s7 :: some v :: l) (.var 8) h = .ok v h := rfl
@[simp high] theorem st8 : store C (.var 8) v (s0 :: s1 :: s2 :: s3 :: s4 :: s5 :: s6 :: s7 :: s8 :: l) h = .ok .next (s0 :: s1 :: s2 :: s3 :: s4 :: s5 :: s6 :: s7 :: some v :: l) h := rfl
@[simp high] theorem pu8 : qx (s0 :: s1 :: s2 :: s3 :: s4 :: s5 :: s6 :: s7 :: s8 :: l) 8 v h = .ok .next (s0 :: s1 :: s2 :: s3 :: s4 :: s5 :: s6 :: s7 :: some v :: l) h := rfl
@[simp high] theorem ag8 : exS C (.aug 8 op e) (s0 :: s1 :: s2 :: s3 :: s4 :: s5 :: s6 :: s7 :: some u :: l) h = mD 8 op u (s0 :: s1 :: s2 :: s3 :: s4 :: s5 :: s6 :: s7 :: some u :: l) (aL C (s0 :: s1 :: s2 :: s3 :: s4 :: s5 :: s6 :: s7 :: some u :: l) e h) := rfl
@[simp high] theorem se8 (v : α) : (a0 :: a1 :: a2 :: a3 :: a4 :: a5 :: a6 :: a7 :: a8 :: r).set 8 v = a0 :: a1 :: a2 :: a3 :: a4 :: a5 :: a6 :: a7 :: v :: r := rfl
@[simp high] theorem ge8 : (a0 :: a1 :: a2 :: a3 :: a4 :: a5 :: a6 :: a7 :: a8 :: r)[8]? = some a8 := rfl
end
theorem aN {C : bK} {np ns : Nat} {body : bG} {vs : List Val} {h : H} (e : vs.length = np) : cj C ⟨np,[],ns,body⟩ vs h = iI (dz C body (vs.map some ++ List.replicate (ns - np) none) h) := by
 subst e
 rw [vg _ ⟨Nat.le_refl _,Nat.le_refl _⟩]
 simp
theorem ieq (c : UInt8) (n : Nat) (hn : n < 256) : ((c.toNat : Int) = (n : Int)) = (c = UInt8.ofNat n) := by
 apply propext
 constructor
 ·intro h
  have h2 : c.toNat = n := by lia
  rw [<- h2]; simp
 ·intro h
  subst h
  simp [Nat.mod_eq_of_lt hn]
@[simp] theorem aha (c : UInt8) : ((c.toNat : Int) = 92) = (c = 92) := ieq c 92 (by decide)
@[simp] theorem afR (c : UInt8) : ((c.toNat : Int) = 120) = (c = 120) := ieq c 120 (by decide)
@[simp] theorem afS (c : UInt8) : ((c.toNat : Int) = 116) = (c = 116) := ieq c 116 (by decide)
@[simp] theorem afU (c : UInt8) : ((c.toNat : Int) = 110) = (c = 110) := ieq c 110 (by decide)
@[simp] theorem afT (c : UInt8) : ((c.toNat : Int) = 114) = (c = 114) := ieq c 114 (by decide)
@[simp] theorem agZ (c : UInt8) : ((c.toNat : Int) = 94) = (c = 94) := ieq c 94 (by decide)
@[simp] theorem ag9 (c : UInt8) : ((c.toNat : Int) = 93) = (c = 93) := ieq c 93 (by decide)
@[simp] theorem ahf (c : UInt8) : ((c.toNat : Int) = 45) = (c = 45) := ieq c 45 (by decide)
@[simp] theorem ahg (c : UInt8) : ((c.toNat : Int) = 41) = (c = 41) := ieq c 41 (by decide)
@[simp] theorem ahh (c : UInt8) : ((c.toNat : Int) = 40) = (c = 40) := ieq c 40 (by decide)
@[simp] theorem ahb (c : UInt8) : ((c.toNat : Int) = 91) = (c = 91) := ieq c 91 (by decide)
@[simp] theorem ahe (c : UInt8) : ((c.toNat : Int) = 46) = (c = 46) := ieq c 46 (by decide)
@[simp] theorem ahc (c : UInt8) : ((c.toNat : Int) = 63) = (c = 63) := ieq c 63 (by decide)
@[simp] theorem ahd (c : UInt8) : ((c.toNat : Int) = 58) = (c = 58) := ieq c 58 (by decide)
section
variable (h : H)
@[simp] theorem JR (i j : Int) : dR h .eq (.int i) (.int j) = some (decide (i = j)) := rfl
@[simp] theorem rY (i j : Int) : dR h .ne (.int i) (.int j) = some (!decide (i = j)) := rfl
@[simp] theorem WL (i j : Bs) : dR h .eq (.bytes i) (.bytes j) = some (decide (i = j)) := rfl
@[simp] theorem Ww (i j : Bs) : dR h .ne (.bytes i) (.bytes j) = some (!decide (i = j)) := rfl
@[simp] theorem aaw (i j : String) : dR h .eq (.str i) (.str j) = some (decide (i = j)) := rfl
@[simp] theorem XF (i j : Bool) : dR h .ne (.bool i) (.bool j) = some (!(i == j)) := rfl
@[simp] theorem aa2 (i j : Int) : dR h .lt (.int i) (.int j) = some (decide (i < j)) := rfl
@[simp] theorem aa3 (i j : Int) : dR h .le (.int i) (.int j) = some (decide (i <= j)) := rfl
@[simp] theorem agL (i j : Int) : dR h .gt (.int i) (.int j) = some (decide (j < i)) := rfl
@[simp] theorem agM (i j : Int) : dR h .ge (.int i) (.int j) = some (decide (j <= i)) := rfl
@[simp] theorem aa5 : dR h .is_ .none .none = some true := rfl
@[simp] theorem aa6 (i : Int) : dR h .is_ (.int i) .none = some false := rfl
@[simp] theorem aa4 (vs : List Val) : dR h .is_ (.tup vs) .none = some false := rfl
@[simp] theorem aa7 (b : Bool) : dR h .is_ (.bool b) .none = some false := rfl
@[simp] theorem Wx : dR h .jV .none .none = some false := rfl
@[simp] theorem Wz (i : Int) : dR h .jV (.int i) .none = some true := rfl
@[simp] theorem WD (b : Bool) : dR h .jV (.bool b) .none = some true := rfl
@[simp] theorem Wy (b : Bool) : dR h .jV .none (.bool b) = some true := rfl
@[simp] theorem WK (a b : Bool) : dR h .jV (.bool a) (.bool b) = some (!(a == b)) := rfl
@[simp] theorem aa8 (a b : Val) : dR h .Ja a b = tR h a b := rfl
@[simp] theorem aa1 (a b : Val) : dR h .pQ a b = (tR h a b).map not := rfl
@[simp] theorem adY (c : UInt8) (b : Bs) : tR h (.int c.toNat) (.bytes b) = some (b.contains c) := by
 have h1 := c.toNat_lt
 show (if (0 : Int) <= c.toNat /\ (c.toNat : Int) < 256 then some (b.contains (c.toNat : Int).toNat.toUInt8) else none) = _
 rw [if_pos (by omega)]
 simp
theorem Fb {c : UInt8} {b : Bs} (e : b.length <= bH) : tR h (.bytes [c]) (.bytes b) = some (b.contains c) := by
 show (if b.length <= bH then some (b.contains c) else none) = _
 rw [if_pos e]
@[simp] theorem adX (b : Bs) (vs : List Val) : tR h (.bytes b) (.tup vs) = dM (.bytes b) vs := by
 match b with
 | [] => rfl
 | [_] => rfl
 | _ :: _ :: _ => rfl
theorem HW {b : Bs} {l : Nat} {vs : List Val} (e : h[l]? = some (.lst vs)) : tR h (.bytes b) (.lst l) = dM (.bytes b) vs := by
 have : tR h (.bytes b) (.lst l) = (match h[l]? with | some (.lst vs) => dM (.bytes b) vs | _ => none) := by
  match b with
  | [] => rfl
  | [_] => rfl
  | _ :: _ :: _ => rfl
 rw [this,e]
theorem Bu {i : Int} {l : Nat} {vs : List Val} (e : h[l]? = some (.lst vs)) : tR h (.int i) (.lst l) = dM (.int i) vs := by
 show (match h[l]? with | some (.lst vs) => dM (.int i) vs | _ => none) = _
 rw [e]
@[simp] theorem aax (b : Bs) : tR h (.bytes b) .posix = some (bI b).isSome := by
 match b with
 | [] => rfl
 | [_] => rfl
 | _ :: _ :: _ => rfl
@[simp] theorem LR (v : Val) : dM v [] = some false := rfl
@[simp] theorem Xw (v x : Bs) (r : List Val) : dM (.bytes v) (.bytes x :: r) = (dM (.bytes v) r).map fun b => decide (x = v) || b := by
 show (match GJ (.bytes x) (.bytes v),dM (.bytes v) r with | some a,some b => some (a || b) | _,_ => none) = _
 cases dM (.bytes v) r <;> rfl
@[simp] theorem pN (v x : Int) (r : List Val) : dM (.int v) (.int x :: r) = (dM (.int v) r).map fun b => decide (x = v) || b := by
 show (match GJ (.int x) (.int v),dM (.int v) r with | some a,some b => some (a || b) | _,_ => none) = _
 cases dM (.int v) r <;> rfl
@[simp] theorem XH (i j : Int) : gY .add (.int i) (.int j) h = .ok (.int (i + j)) h := rfl
@[simp] theorem aeI (i j : Int) : gY .sub (.int i) (.int j) h = .ok (.int (i - j)) h := rfl
theorem u6 {x y : Bs} (e : x.length + y.length <= bH) : gY .add (.bytes x) (.bytes y) h = .ok (.bytes (x ++ y)) h := by
 show (if x.length + y.length <= bH then _ else _) = _
 rw [if_pos e]
theorem zQ {l m : Nat} {vs ws : List Val} (e1 : h[l]? = some (.lst vs)) (e2 : h[m]? = some (.lst ws)) (e : vs.length + ws.length <= bH) : gY .add (.lst l) (.lst m) h = .ok (.lst h.length) (h ++ [.lst (vs ++ ws)]) := by
 dsimp only [gY]
 rw [e1,e2]; dsimp only; rw [if_pos e]
theorem zP {i j : Int} (e : 0 < j) : gY .mod (.int i) (.int j) h = .ok (.int (i % j)) h := by
 show (if 0 < j then _ else _) = _
 rw [if_pos e]
theorem Te {i j : Int} (e : 0 < j /\ j < 1073741824) : gY .fdiv (.int i) (.int j) h = .ok (.int (i / j)) h := by
 show (if 0 < j /\ j < 1073741824 then _ else _) = _
 rw [if_pos e]
theorem bB {x : Bs} {k : Nat} {c : UInt8} {i : Int} (hi : i = k) (e : x[k]? = some c) (hl : x.length <= bH) : bW (.bytes x) (.int i) h = .ok (.int c.toNat) h := by
 subst hi
 dsimp only [bW,jQ]
 rw [if_pos ⟨Int.natCast_nonneg k,hl⟩,Int.toNat_natCast,e]; rfl
theorem XD {x : List Val} {k : Nat} {c : Val} {i : Int} (hi : i = k) (e : x[k]? = some c) (hl : x.length <= bH) : bW (.tup x) (.int i) h = .ok c h := by
 subst hi
 dsimp only [bW,jQ]
 rw [if_pos ⟨Int.natCast_nonneg k,hl⟩,Int.toNat_natCast,e]; rfl
theorem Mz {x : List Int} {k : Nat} {c : Int} {i : Int} (hi : i = k) (e : x[k]? = some c) (hl : x.length <= bH) : bW (.lB x) (.int i) h = .ok (.int c) h := by
 subst hi
 dsimp only [bW,jQ]
 rw [if_pos ⟨Int.natCast_nonneg k,hl⟩,Int.toNat_natCast,e]; rfl
theorem rW {l : Nat} {vs : List Val} {k : Nat} {c : Val} {i : Int} (hi : i = k) (e1 : h[l]? = some (.lst vs)) (e : vs[k]? = some c) (hl : vs.length <= bH) : bW (.lst l) (.int i) h = .ok c h := by
 subst hi
 dsimp only [bW,jQ]
 rw [e1]; dsimp only
 unfold Yo
 rw [if_pos hl,if_pos (Int.natCast_nonneg k),Int.toNat_natCast,e]; rfl
theorem Mx {w v : Bs} (e : bI w = some v) : bW .posix (.bytes w) h = .ok (.bytes v) h := by
 dsimp only [bW]
 rw [e]; rfl
theorem fU {x : Bs} {i j : Int} (e : x.length <= bH) : gO (.bytes x) (.int i) (.int j) h = .ok (.bytes (Bd x (some i) (some j))) h := by
 show (if x.length <= bH then _ else _) = _
 rw [if_pos e]
theorem aa0 {x : Bs} {i : Int} (e : x.length <= bH) : gO (.bytes x) (.int i) .none h = .ok (.bytes (Bd x (some i) none)) h := by
 show (if x.length <= bH then _ else _) = _
 rw [if_pos e]
theorem Wv {x : Bs} {j : Int} (e : x.length <= bH) : gO (.bytes x) .none (.int j) h = .ok (.bytes (Bd x none (some j))) h := by
 show (if x.length <= bH then _ else _) = _
 rw [if_pos e]
theorem bA {x : Bs} (e : x.length <= bH) : iU .eX [.bytes x] h = .ok (.int x.length) h := by
 show (if x.length <= bH then _ else _) = _
 rw [if_pos e]
theorem zO {l : Nat} {vs : List Val} (e1 : h[l]? = some (.lst vs)) (e : vs.length <= bH) : iU .eX [.lst l] h = .ok (.int vs.length) h := by
 show (match h[l]? with | some (.lst vs) => (if vs.length <= bH then Res.ok (Val.int vs.length) h else .bad) | _ => .bad) = _
 rw [e1]; dsimp only; rw [if_pos e]
theorem XC {x : List Int} (e : x.length <= bH) : iU .eX [.lB x] h = .ok (.int x.length) h := by
 show (if x.length <= bH then _ else _) = _
 rw [if_pos e]
theorem HS {l : Nat} {vs : List Val} (e1 : h[l]? = some (.lst vs)) (e : vs.length <= bH) : iU .pX [.lst l] h = .ok (.lst h.length) (h ++ [.lst vs]) := by
 show (match h[l]? with | some (.lst vs) => (if vs.length <= bH then Res.ok (Val.lst h.length) (h ++ [Cell.lst vs]) else .bad) | _ => .bad) = _
 rw [e1]; dsimp only; rw [if_pos e]
theorem Tf {l : Nat} {i : Int} {c : UInt8} (hi : i = c.toNat) (e1 : h[l]? = some (.lst [.int i])) : iU .bytes_ [.lst l] h = .ok (.bytes [c]) h := by
 subst hi
 have h1 := c.toNat_lt
 have hb : bytesOf [.int c.toNat] = some [c] := by
  show (if (0 : Int) <= c.toNat /\ (c.toNat : Int) < 256 then (bytesOf []).map ((c.toNat : Int).toNat.toUInt8 :: ·) else none) = _
  rw [if_pos (by omega)]
  show some [(c.toNat : Int).toNat.toUInt8] = _
  simp
 show (match h[l]? with | some (.lst vs) => (match bytesOf vs with | some x => (if x.length <= bH then Res.ok (Val.bytes x) h else .bad) | none => .bad) | _ => .bad) = _
 rw [e1]; dsimp only; rw [hb]; dsimp only; rw [if_pos (lim (by simp))]
@[simp] theorem nW (c : UInt8) : iU .bytes_ [.lst h.length] (h ++ [.lst [.int c.toNat]]) = .ok (.bytes [c]) (h ++ [.lst [.int c.toNat]]) := Tf _ rfl (by simp)
@[simp] theorem aeK (i j : Int) : iU .Gp [.int i,.int j] h = .ok (.int (if i < j then j else i)) h := rfl
@[simp] theorem aeJ (i j : Int) : iU .Cz [.int i,.int j] h = .ok (.int (if j < i then j else i)) h := rfl
@[simp] theorem adW (b : Bool) : iU .bool_ [.bool b] h = .ok (.bool b) h := rfl
theorem Mv {l : Nat} {ws : List Val} {v : Val} (e1 : h[l]? = some (.lst ws)) (e : ws.length < bH) : gW .aO (.lst l) [v] h = .ok .none (h.set l (.lst (ws ++ [v]))) := by
 show (match h[l]? with | some (.lst ws) => (if ws.length < bH then Res.ok Val.none (h.set l (.lst (ws ++ [v]))) else .bad) | _ => .bad) = _
 rw [e1]; dsimp only; rw [if_pos e]
end
theorem Jy (x : Bs) (k m : Nat) : Bd x (some (k : Int)) (some (m : Int)) = (x.drop k).take (m - k) := by
 unfold Bd clip
 simp only [show ¬ ((k : Int) < 0) by omega,show ¬ ((m : Int) < 0) by omega,if_false,Int.toNat_natCast]
 by_cases hk : k <= x.length
 ·rw [Nat.min_eq_left hk]
  by_cases hm : m <= x.length
  ·rw [Nat.min_eq_left hm]
  ·rw [Nat.min_eq_right (by lia),List.take_of_length_le (by simp),List.take_of_length_le (by simp; omega)]
 ·rw [List.drop_of_length_le (show x.length <= k by lia),List.drop_of_length_le (by omega)]
  simp
theorem RQ (x : Bs) (k : Nat) : Bd x (some (k : Int)) none = x.drop k := by
 unfold Bd clip
 simp only [show ¬ ((k : Int) < 0) by omega,if_false,Int.toNat_natCast]
 by_cases hk : k <= x.length
 ·rw [Nat.min_eq_left hk,List.take_of_length_le (by simp)]
 ·rw [Nat.min_eq_right (by omega)]
  simp [List.drop_of_length_le (show x.length <= k by omega)]
theorem RP (x : Bs) (m : Nat) : Bd x none (some (m : Int)) = x.take m := by
 unfold Bd clip
 simp only [show ¬ ((m : Int) < 0) by omega,if_false,Int.toNat_natCast]
 by_cases hm : m <= x.length
 ·rw [Nat.min_eq_left hm]; simp
 ·rw [Nat.min_eq_right (by omega)]
  simp; rw [List.take_of_length_le (by omega)]
theorem bR {x s : Bs} {k : Nat} (e : x.drop k = s) (j : Nat) : x[k + j]? = s[j]? := by
 rw [<- e,List.getElem?_drop]
theorem jW {x s : Bs} {k : Nat} (e : x.drop k = s) : s.length = x.length - k := by
 rw [<- e,List.length_drop]
theorem aB {x s : Bs} {k : Nat} (e : x.drop k = s) (j : Nat) : x.drop (k + j) = s.drop j := by
 rw [<- e,List.drop_drop]
theorem gA {x s : Bs} {k : Nat} (e : x.drop k = s) (a b : Nat) {i j : Int} (hi : i = (k + a : Nat)) (hj : j = (k + b : Nat)) : Bd x (some i) (some j) = (s.drop a).take (b - a) := by
 rw [hi,hj,Jy,<- e,List.drop_drop]
 congr 1
 lia
noncomputable def special : Bs := [40,41,91,93,123,125,63,42,43,45,124,94,36,92,46,38,126,35,32,9,10,13,11,12]
noncomputable def fC (a : UInt8) : Bs := if special.contains a then [92,a] else [a]
def uK (C : bK) : Prop := ∀ a h,∃ t,C gj [.bytes [a]] h = .ok (.bytes (fC a)) (h ++ t)
theorem VL (C : bK) (a : UInt8) (h : H) : ∃ t,cj C ⟨1,[],3,rT⟩ [.bytes [a]] h = .ok (.bytes (fC a)) (h ++ t) := by
 refine ⟨[.lst [.int a.toNat]],?_⟩
 rw [aN (by rfl)]
 by_cases hs : special.contains a = true
 ·have hs' := hs
  simp only [special] at hs'
  unfold fC
  rw [if_pos hs]
  simp [rT,-List.contains_eq_mem,-List.contains_cons]
  rw [fuel2]
  simp [cJ,nx,hs',-List.contains_eq_mem,-List.contains_cons,dG,lim]
 ·have hs' := hs
  simp only [special,Bool.not_eq_true] at hs'
  unfold fC
  rw [if_neg hs]
  simp [rT,-List.contains_eq_mem,-List.contains_cons]
  rw [fuel2]
  simp [cJ,nx,hs',-List.contains_eq_mem,-List.contains_cons,dG,lim]
inductive Oct : Bs -> UInt8 -> Prop
 | plain {v : UInt8} (h : v ≠ 92) : Oct [v] v
 | quoted {v : UInt8} (h1 : v ≠ 120) (h2 : v ≠ 116) (h3 : v ≠ 110) (h4 : v ≠ 114) : Oct [92,v] v
 | tab : Oct [92,116] 9
 | nl : Oct [92,110] 10
 | cr : Oct [92,114] 13
 | x00 : Oct [92,120,48,48] 0
 | x1f : Oct [92,120,49,102] 31
 | x7f : Oct [92,120,55,102] 127
def R7 (C : bK) : Prop := ∀ x k q v r h (i : Int),i = (k : Nat) -> Oct q v -> x.drop k = q ++ r -> x.length <= 50000 -> C m9 [.bytes x,.int i] h = .ok (.tup [.int v.toNat,.int ((k + q.length : Nat) : Int)]) h
theorem Uq (C : bK) {x : Bs} {k : Nat} {q : Bs} {v : UInt8} {r : Bs} {h : H} {i : Int} (hi : i = (k : Nat)) (ho : Oct q v) (hx : x.drop k = q ++ r) (hl : x.length <= 50000) :
  cj C ⟨2,[],2,cZ⟩ [.bytes x,.int i] h = .ok (.tup [.int v.toNat,.int ((k + q.length : Nat) : Int)]) h := by
 subst hi
 have hL : x.length <= bH := lim (by lia)
 have h0 : x[k]? = (q ++ r)[0]? := bR hx 0
 have h1 : x[k+1]? = (q ++ r)[1]? := bR hx 1
 have i0 : ∀ c,x[k]? = some c -> bW (.bytes x) (.int (k : Int)) h = .ok (.int c.toNat) h := fun c e => bB _ rfl e hL
 have i1 : ∀ c,x[k+1]? = some c -> bW (.bytes x) (.int ((k : Int) + 1)) h = .ok (.int c.toNat) h := fun c e => bB _ (k := k + 1) (by simp) e hL
 have hs : gO (.bytes x) (.int ((k : Int) + 2)) (.int ((k : Int) + 4)) h = .ok (.bytes (((q ++ r).drop 2).take 2)) h := by
  rw [fU _ hL,gA hx 2 4 (by simp) (by simp)]
 rw [aN (by rfl)]
 cases ho with
 | plain hv =>
  have j0 := i0 v h0
  simp [cZ,j0,hv]
 | quoted v1 v2 v3 v4 =>
  have j0 := i0 92 h0
  have j1 := i1 v h1
  simp [cZ,j0,j1,v1,v2,v3,v4]
 | tab =>
  have j0 := i0 92 h0
  have j1 := i1 116 h1
  simp [cZ,j0,j1]
 | nl =>
  have j0 := i0 92 h0
  have j1 := i1 110 h1
  simp [cZ,j0,j1]
 | cr =>
  have j0 := i0 92 h0
  have j1 := i1 114 h1
  simp [cZ,j0,j1]
 | x00 =>
  have j0 := i0 92 h0
  have j1 := i1 120 h1
  have d1 : gW .gq (.bytes [48,48]) [] h = .ok (.str "00") h := rfl
  have d2 : iU .int_ [.str "00",.int 16] h = .ok (.int 0) h := rfl
  simp [cZ,j0,j1,hs,d1,d2]
 | x1f =>
  have j0 := i0 92 h0
  have j1 := i1 120 h1
  have d1 : gW .gq (.bytes [49,102]) [] h = .ok (.str "1f") h := rfl
  have d2 : iU .int_ [.str "1f",.int 16] h = .ok (.int 31) h := rfl
  simp [cZ,j0,j1,hs,d1,d2]
 | x7f =>
  have j0 := i0 92 h0
  have j1 := i1 120 h1
  have d1 : gW .gq (.bytes [55,102]) [] h = .ok (.str "7f") h := rfl
  have d2 : iU .int_ [.str "7f",.int 16] h = .ok (.int 127) h := rfl
  simp [cZ,j0,j1,hs,d1,d2]
@[simp] theorem qC (h : H) (a b : Cell) (t : H) : (h ++ a :: b :: t)[h.length + 1]? = some b := by simp
@[simp] theorem Zd (C : bK) (ls : Ls) (es : gw) (h t : H) (vs : List Val) : jr C ls .aO es (.ok (.lst h.length) (h ++ .lst vs :: t)) = nF .aO (.lst h.length) (pI C ls es (h ++ .lst vs :: t)) := yR _ _ (bC _ _ _)
@[simp] theorem Zc (C : bK) (ls : Ls) (es : gw) (h t : H) (a : Cell) (vs : List Val) : jr C ls .aO es (.ok (.lst (h.length + 1)) (h ++ a :: .lst vs :: t)) = nF .aO (.lst (h.length + 1)) (pI C ls es (h ++ a :: .lst vs :: t)) := yR _ _ (qC _ _ _ _)
theorem eG {h t : H} {vs : List Val} {v : Val} (e : vs.length < bH) : gW .aO (.lst h.length) [v] (h ++ .lst vs :: t) = .ok .none (h ++ .lst (vs ++ [v]) :: t) := by
 rw [Mv _ (by simp) e]; simp
theorem Td {h t : H} {a : Cell} {vs : List Val} {v : Val} (e : vs.length < bH) : gW .aO (.lst (h.length + 1)) [v] (h ++ a :: .lst vs :: t) = .ok .none (h ++ a :: .lst (vs ++ [v]) :: t) := by
 rw [Mv _ (by simp) e]; simp
theorem iV {n : Nat} (h : n <= 100000) : n < bH := Nat.lt_of_le_of_lt h (by decide)
noncomputable def bV : bG -> ME × bG
 | .cons (.whl t b) _ => (t,b)
 | .cons _ r => bV r
 | .nil => (.bY,.nil)
section
variable {t e : ME} {b c r : bG} {g : Tg} {i n : Nat} {o : vI} {s : MS}
@[simp] theorem jA : bV (.cons (.whl t b) r) = (t,b) := rfl
@[simp] theorem jD : bV (.cons (.assign g e) r) = bV r := rfl
@[simp] theorem jB : bV (.cons (.dw e b c) r) = bV r := rfl
@[simp] theorem aiA {g' : Tg} : bV (.cons (.assign2 g g' e) r) = bV r := rfl
@[simp] theorem aiz {l : List Tg} : bV (.cons (.dD l e) r) = bV r := rfl
@[simp] theorem agj {l : List Nat} : bV (.cons (.lF l e) r) = bV r := rfl
@[simp] theorem jC : bV (.cons (.aug i o e) r) = bV r := rfl
end
structure Chunk where
 q1 : Bs
 v1 : UInt8
 q2 : Option (Bs × UInt8)
noncomputable def Chunk.text (c : Chunk) : Bs := match c.q2 with
 | none => c.q1
 | some (q,_) => c.q1 ++ 45 :: q
noncomputable def Chunk.hi (c : Chunk) : UInt8 := match c.q2 with
 | none => c.v1
 | some (_,v) => v
noncomputable def Chunk.val (c : Chunk) : Val := .tup [.int c.v1.toNat,.int c.hi.toNat]
section
variable {c : Chunk} {p : Bs × UInt8} {a : Bs} {b v : UInt8} {q : Bs}
@[simp] theorem agr : Chunk.text ⟨a,b,none⟩ = a := rfl
@[simp] theorem agq : Chunk.text ⟨a,b,some (q,v)⟩ = a ++ 45 :: q := rfl
theorem zU (h : c.q2 = none) : c.text = c.q1 := by obtain ⟨a,b,d⟩ := c; cases h; rfl
theorem zT (h : c.q2 = some p) : c.text = c.q1 ++ 45 :: p.1 := by obtain ⟨a,b,d⟩ := c; cases h; rfl
theorem abb (h : c.q2 = none) : c.val = .tup [.int c.v1.toNat,.int c.v1.toNat] := by obtain ⟨a,b,d⟩ := c; cases h; rfl
theorem aa9 (h : c.q2 = some p) : c.val = .tup [.int c.v1.toNat,.int p.2.toNat] := by obtain ⟨a,b,d⟩ := c; cases h; rfl
end
def ahq (a : UInt8) : Prop := a = 93 \/ a = 45 \/ a = 94
structure Chunk.ok (c : Chunk) : Prop where
 one : Oct c.q1 c.v1
 hd : ∀ a t,c.q1 = a :: t -> a ≠ 93 /\ a ≠ 45 /\ a ≠ 94
 two : ∀ q v,c.q2 = some (q,v) -> Oct q v
theorem Oct.cons {q : Bs} {v : UInt8} (h : Oct q v) : ∃ a t,q = a :: t := by
 cases h <;> exact ⟨_,_,rfl⟩
theorem Chunk.ok.cons {c : Chunk} (h : c.ok) : ∃ a t,c.q1 = a :: t /\ a ≠ 93 /\ a ≠ 45 /\ a ≠ 94 := by
 obtain ⟨a,t,e⟩ := h.one.cons
 exact ⟨a,t,e,h.hd a t e⟩
noncomputable def bJ (cs : List Chunk) : Bs := cs.flatMap Chunk.text
@[simp] theorem Z4 : bJ [] = [] := rfl
@[simp] theorem uD (c : Chunk) (cs : List Chunk) : bJ (c :: cs) = c.text ++ bJ cs := by simp [bJ]
theorem zB {cs : List Chunk} {r : Bs} (h : ∀ c ∈ cs,c.ok) : ∃ a t,bJ cs ++ 93 :: r = a :: t /\ a ≠ 45 /\ a ≠ 94 := by
 cases cs with
 | nil => exact ⟨93,r,rfl,by decide,by decide⟩
 | cons c cs =>
  obtain ⟨a,t,e,h1,h2,h3⟩ := (h c (.head _)).cons
  cases hq : c.q2 with
  | none => exact ⟨a,t ++ (bJ cs ++ 93 :: r),by simp [zU hq,e],h2,h3⟩
  | some p => exact ⟨a,t ++ (45 :: p.1 ++ (bJ cs ++ 93 :: r)),by simp [zT hq,e],h2,h3⟩
noncomputable abbrev rcT := (bV dF).1
noncomputable abbrev rcB := (bV dF).2
theorem Ih (C : bK) (hC : R7 C) {x : Bs} (hl : x.length <= 50000) {neg : Bool} {h : H} {r : Bs} : ∀ (cs : List Chunk) (k n : Nat) (acc : List Val) (lo hi : Option Val) (i : Int),i = (k : Nat) -> (∀ c ∈ cs,c.ok) -> x.drop k = bJ cs ++ 93 :: r -> cs.length < n -> acc.length + cs.length <= 50000 ->
  ∃ lo' hi',wh C rcT rcB n [some (.bytes x),some (.int i),some (.bool neg),some (.lst h.length),lo,hi] (h ++ [.lst acc]) = .ok .next [some (.bytes x),some (.int ((k + (bJ cs).length : Nat) : Int)),some (.bool neg),some (.lst h.length),lo',hi'] (h ++ [.lst (acc ++ cs.map Chunk.val)]) := by
 intro cs
 induction cs with
 | nil =>
  intro k n acc lo hi i hi' hok hx hn ha
  obtain ⟨n,rfl⟩ := pW hn
  subst hi'
  have h0 : x[k]? = some 93 := bR hx 0
  have i0 : ∀ h : H,bW (.bytes x) (.int (k : Int)) h = .ok (.int 93) h := fun h => bB _ rfl h0 (lim (by lia))
  refine ⟨lo,hi,?_⟩
  rw [aH]
  simp [rcT,rcB,dF,i0]
 | cons c cs Xg =>
  intro k n acc lo hi i hi' hok hx hn ha
  obtain ⟨n,rfl⟩ := pW hn
  subst hi'
  have ok := hok c (.head _)
  have hL : x.length <= bH := lim (by lia)
  obtain ⟨a,t,ea,n1,n2,n3⟩ := ok.cons
  have hx1 : x.drop k = c.q1 ++ ((match c.q2 with | none => [] | some (q,_) => 45 :: q) ++ (bJ cs ++ 93 :: r)) := by
   rw [hx,uD]
   cases hq : c.q2 with
   | none => rw [zU hq,List.append_assoc]; rfl
   | some p => rw [zT hq]; simp
  have h0 : x[k]? = some a := (bR hx1 0).trans (by rw [ea]; rfl)
  have i0 : ∀ h : H,bW (.bytes x) (.int (k : Int)) h = .ok (.int a.toNat) h := fun h => bB _ rfl h0 hL
  have o1 := fun h => hC x k c.q1 c.v1 _ h k rfl ok.one hx1 hl
  have hx2 := aB hx1 c.q1.length
  rw [List.drop_left] at hx2
  rw [aH]
  cases hq : c.q2 with
  | none =>
   rw [hq] at hx2
   simp only [List.nil_append] at hx2
   obtain ⟨b,u,eb,m1,m2⟩ := zB (r := r) (fun c hc => hok c (.tail _ hc))
   have h1 : x[k + c.q1.length]? = some b := (bR hx2 0).trans (by rw [eb]; rfl)
   have i1 : ∀ h : H,bW (.bytes x) (.int ((k : Int) + c.q1.length)) h = .ok (.int b.toNat) h := fun h => bB _ (by simp) h1 hL
   obtain ⟨lo',hi',e⟩ := Xg (k + c.q1.length) n (acc ++ [c.val]) (some (.int c.v1.toNat)) (some (.int c.v1.toNat)) ((k : Int) + c.q1.length) (by simp) (fun c hc => hok c (.tail _ hc)) hx2 (by simpa using hn) (by simp at ha ⊢; lia)
   refine ⟨lo',hi',?_⟩
   have hv : c.val = .tup [.int c.v1.toNat,.int c.v1.toNat] := abb hq
   have ht : c.text = c.q1 := zU hq
   simp only [rcT,rcB,jA,jD,jB,jC,dF] at e ⊢
   simp [i0,n1,o1,i1,m1,eG (iV (show acc.length <= 100000 by simp at ha; lia))]
   rw [hv] at e
   rw [e]
   simp [hv,ht,Nat.add_assoc,Int.add_assoc]
  | some p =>
   obtain ⟨q,v⟩ := p
   rw [hq] at hx2
   simp only at hx2
   have h1 : x[k + c.q1.length]? = some 45 := (bR hx2 0).trans (by simp)
   have i1 : ∀ h : H,bW (.bytes x) (.int ((k : Int) + c.q1.length)) h = .ok (.int 45) h := fun h => bB _ (by simp) h1 hL
   have hx3 := aB hx2 1
   simp only [List.cons_append,List.drop_succ_cons,List.drop_zero] at hx3
   have o2 := fun h => hC x (k + c.q1.length + 1) q v _ h ((k : Int) + c.q1.length + 1) (by simp) (ok.two q v hq) hx3 hl
   have hx4 := aB hx3 q.length
   rw [List.drop_left] at hx4
   obtain ⟨lo',hi',e⟩ := Xg (k + c.q1.length + 1 + q.length) n (acc ++ [c.val]) (some (.int c.v1.toNat)) (some (.int v.toNat)) ((k : Int) + c.q1.length + 1 + q.length) (by simp) (fun c hc => hok c (.tail _ hc)) hx4 (by simpa using hn) (by simp at ha ⊢; lia)
   refine ⟨lo',hi',?_⟩
   have hv : c.val = .tup [.int c.v1.toNat,.int v.toNat] := aa9 hq
   have ht : c.text = c.q1 ++ 45 :: q := zT hq
   simp only [rcT,rcB,jA,jD,jB,jC,dF] at e ⊢
   simp [i0,n1,o1,i1,o2,eG (iV (show acc.length <= 100000 by simp at ha; lia))]
   rw [hv] at e
   rw [e]
   simp [hv,ht,Nat.add_assoc,Int.add_assoc,Nat.add_comm 1,Int.add_comm 1]
def Em (C : bK) : Prop := ∀ x k neg (cs : List Chunk) r h (i : Int),i = (k : Nat) -> (∀ c ∈ cs,Chunk.ok c) -> x.drop k = (if neg then [94] else []) ++ (bJ cs ++ 93 :: r) -> x.length <= 50000 -> cs.length <= 50000 ->
 C rQ [.bytes x,.int i] h = .ok (.tup [.tup [.bool neg,.lst h.length],.int ((k + (if neg then 1 else 0) + (bJ cs).length + 1 : Nat) : Int)]) (h ++ [.lst (cs.map Chunk.val)])
theorem V3 (C : bK) (hC : R7 C) {x : Bs} {k : Nat} {neg : Bool} {cs : List Chunk} {r : Bs} {h : H} {i : Int} (hi : i = (k : Nat)) (hok : ∀ c ∈ cs,Chunk.ok c) (hx : x.drop k = (if neg then [94] else []) ++ (bJ cs ++ 93 :: r)) (hl : x.length <= 50000) (hc : cs.length <= 50000) :
  cj C ⟨2,[],6,dF⟩ [.bytes x,.int i] h = .ok (.tup [.tup [.bool neg,.lst h.length],.int ((k + (if neg then 1 else 0) + (bJ cs).length + 1 : Nat) : Int)]) (h ++ [.lst (cs.map Chunk.val)]) := by
 subst hi
 have hL : x.length <= bH := lim (by lia)
 rw [aN (by rfl)]
 cases neg with
 | true =>
  simp only [if_true] at hx
  have h0 : x[k]? = some 94 := bR hx 0
  have i0 : ∀ h : H,bW (.bytes x) (.int (k : Int)) h = .ok (.int 94) h := fun h => bB _ rfl h0 hL
  obtain ⟨lo',hi',e⟩ := Ih C hC hl (neg := true) (h := h) cs (k + 1) FUEL [] none none ((k : Int) + 1) (by simp) hok (aB hx 1) (Nat.lt_of_le_of_lt hc (by first | decide | (rw [bL]; decide))) (by simpa using hc)
  simp only [rcT,rcB,jA,jD,jB,jC,dF] at e ⊢
  simp [i0,e]
 | false =>
  simp only [Bool.false_eq_true,if_false,List.nil_append] at hx
  obtain ⟨b,u,eb,m1,m2⟩ := zB (r := r) hok
  have h0 : x[k]? = some b := (bR hx 0).trans (by rw [eb]; rfl)
  have i0 : ∀ h : H,bW (.bytes x) (.int (k : Int)) h = .ok (.int b.toNat) h := fun h => bB _ rfl h0 hL
  obtain ⟨lo',hi',e⟩ := Ih C hC hl (neg := false) (h := h) cs k FUEL [] none none k rfl hok hx (Nat.lt_of_le_of_lt hc (by first | decide | (rw [bL]; decide))) (by simpa using hc)
  simp only [rcT,rcB,jA,jD,jB,jC,dF] at e ⊢
  simp [i0,m2,e]
noncomputable abbrev Mem := UInt8 × UInt8
noncomputable def dh (m : Mem) : Val := .tup [.int m.1.toNat,.int m.2.toNat]
set_option genCtorIdx false in
inductive Item where
 | cls (neg : Bool) (cs : List Chunk)
 | never
 | chr (c : UInt8)
noncomputable def Item.ctorIdx (x : Item) : Nat := x.casesOn (fun _ _ => 0) 1 fun _ => 2
noncomputable def Item.text : Item -> Bs
 | .cls neg cs => 91 :: ((if neg then [94] else []) ++ (bJ cs ++ [93]))
 | .never => [40,63,33,41]
 | .chr c => fC c
noncomputable def Item.ok : Item -> Prop
 | .cls _ cs => (∀ c ∈ cs,Chunk.ok c) /\ cs.length <= 50000
 | _ => True
set_option genCtorIdx false in
inductive Part where
 | oct (neg : Bool) (rs : List Mem)
 | opt (neg : Bool) (rs : List Mem)
 | never
 | stop
 | grp
noncomputable def Part.ctorIdx (x : Part) : Nat := x.casesOn (fun _ _ => 0) (fun _ _ => 1) 2 3 4
noncomputable def Item.part : Item -> Part
 | .cls neg cs => .oct neg (cs.map fun c => (c.v1,c.hi))
 | .never => .never
 | .chr c => .oct false [(c,c)]
noncomputable def tl (b : Nat) (t : H) (r : Nat) : Option Cell := if b <= r then t[r - b]? else none
noncomputable def PV (g : Nat -> Option Cell) : Part -> Val -> Prop
 | .oct neg rs,v => ∃ r,v = .tup [.str "octet",.tup [.bool neg,.lst r],.int 1,.int 1] /\ g r = some (.lst (rs.map dh))
 | .opt neg rs,v => ∃ r,v = .tup [.str "octet",.tup [.bool neg,.lst r],.int 0,.int 1] /\ g r = some (.lst (rs.map dh))
 | .never,v => ∃ u,v = .tup [.str "never",u,.int 1,.int 1]
 | .stop,v => ∃ u,v = .tup [.str "end",u,.int 1,.int 1]
 | .grp,v => ∃ r r1 r2,v = .tup [.str "group",.lst r,.int 0,.int 1] /\ g r = some (.lst [.tup [.str "octet",.tup [.bool true,.lst r1],.int 0,.none],.tup [.str "octet",.tup [.bool false,.lst r2],.int 1,.int 1]]) /\ g r1 = some (.lst []) /\ g r2 = some (.lst [dh (47,47)])
theorem PV.mono {g g' : Nat -> Option Cell} (hg : ∀ r c,g r = some c -> g' r = some c) {p : Part} {v : Val} (h : PV g p v) : PV g' p v := by
 cases p with
 | oct neg rs => obtain ⟨r,e1,e2⟩ := h; exact ⟨r,e1,hg _ _ e2⟩
 | opt neg rs => obtain ⟨r,e1,e2⟩ := h; exact ⟨r,e1,hg _ _ e2⟩
 | never => exact h
 | stop => exact h
 | grp => obtain ⟨r,r1,r2,e1,e2,e3,e4⟩ := h; exact ⟨r,r1,r2,e1,hg _ _ e2,hg _ _ e3,hg _ _ e4⟩
theorem Tt {b : Nat} {t u : H} {r : Nat} {c : Cell} (h : tl b t r = some c) : tl b (t ++ u) r = some c := by
 unfold tl at h ⊢
 split at h
 ·rename_i hb
  rw [if_pos hb,List.getElem?_append_left (List.getElem?_eq_some_iff.mp h).1]
  exact h
 ·exact cN h
theorem H6 {b : Nat} {t u : H} {r : Nat} {c : Cell} (e : r = b + t.length) : tl b (t ++ c :: u) r = some c := by
 subst e
 unfold tl
 rw [if_pos (by lia)]
 simp
theorem Tv {h t : H} {a : Cell} {r : Nat} {c : Cell} (e : tl (h.length + 1) t r = some c) : (h ++ a :: t)[r]? = some c := by
 unfold tl at e
 split at e
 ·rename_i hb
  rw [List.getElem?_append_right (by lia),show r - h.length = (r - (h.length + 1)) + 1 by lia]
  exact e
 ·exact cN e
noncomputable def dJ : Nat -> bG -> bG
 | 0,b => b
 | n + 1,.cons _ r => dJ n r
 | _,.nil => .nil
@[simp] theorem f9 {b : bG} : dJ 0 b = b := rfl
@[simp] theorem gb {n : Nat} {s : MS} {r : bG} : dJ (n + 1) (.cons s r) = dJ n r := rfl
noncomputable abbrev Kd := (bV aF).1
noncomputable abbrev xT := (bV aF).2
def oh (o : Option UInt8) : Prop := ∀ c,o = some c -> c ≠ 42 /\ c ≠ 43 /\ c ≠ 63
section
variable {C : bK} {x : Bs} {h t : H} {acc : List Val} {k : Nat} {i : Int} {l0 m0 : Option Val} {kind what : Val}
theorem qU (hl : x.length <= 50000) (ha : acc.length <= 50000) (hi : i = (k : Nat)) (hq : oh x[k]?) :
  dz C (dJ 3 xT) [some (.bytes x),some (.int i),some (.lst h.length),some kind,some what,l0,m0] (h ++ .lst acc :: t) =
   .ok .next [some (.bytes x),some (.int i),some (.lst h.length),some kind,some what,some (.int 1),some (.int 1)] (h ++ .lst (acc ++ [.tup [kind,what,.int 1,.int 1]]) :: t) := by
 subst hi
 have hL : x.length <= bH := lim (by lia)
 cases hk : x[k]? with
 | none =>
  have hk' : x.length <= k := by simpa using hk
  simp [xT,aF,bA _ hL,show ¬ k < x.length by lia,eG (iV (show acc.length <= 100000 by lia))]
 | some c =>
  obtain ⟨n1,n2,n3⟩ := hq c hk
  have hk' : k < x.length := by
   rcases Nat.lt_or_ge k x.length with h | h
   ·exact h
   ·rw [List.getElem?_eq_none h] at hk; exact cN hk
  have i0 : ∀ h : H,bW (.bytes x) (.int (k : Int)) h = .ok (.int c.toNat) h := fun h => bB _ rfl hk hL
  simp [xT,aF,bA _ hL,hk',i0,n1,n2,n3,eG (iV (show acc.length <= 100000 by lia))]
theorem NP (hl : x.length <= 50000) (ha : acc.length <= 50000) (hi : i = (k : Nat)) (h0 : x[k]? = some 63) (hq : oh x[k + 1]?) :
  dz C (dJ 3 xT) [some (.bytes x),some (.int i),some (.lst h.length),some kind,some what,l0,m0] (h ++ .lst acc :: t) =
   .ok .next [some (.bytes x),some (.int (i + 1)),some (.lst h.length),some kind,some what,some (.int 0),some (.int 1)] (h ++ .lst (acc ++ [.tup [kind,what,.int 0,.int 1]]) :: t) := by
 subst hi
 have hL : x.length <= bH := lim (by lia)
 have hk : k < x.length := (List.getElem?_eq_some_iff.mp h0).1
 have i0 : ∀ h : H,bW (.bytes x) (.int (k : Int)) h = .ok (.int 63) h := fun h => bB _ rfl h0 hL
 have i63 : ∀ h : H,tR h (.int 63) (.bytes [42,43,63]) = some true := fun h => rfl
 cases hk1 : x[k + 1]? with
 | none =>
  have hk' : x.length <= k + 1 := by simpa using hk1
  simp [xT,aF,bA _ hL,hk,i0,i63,show ¬ ((k : Int) + 1 < x.length) by lia,eG (iV (show acc.length <= 100000 by lia))]
 | some c =>
  obtain ⟨n1,n2,n3⟩ := hq c hk1
  have hk' : k + 1 < x.length := (List.getElem?_eq_some_iff.mp hk1).1
  have i1 : ∀ h : H,bW (.bytes x) (.int ((k : Int) + 1)) h = .ok (.int c.toNat) h := fun h => bB _ (by simp) hk1 hL
  simp [xT,aF,bA _ hL,hk,i0,i1,i63,n3,show ((k : Int) + 1 < x.length) by lia,eG (iV (show acc.length <= 100000 by lia))]
theorem Uj (hl : x.length <= 50000) (ha : acc.length <= 50000) (hi : i = (k : Nat)) (h0 : x[k]? = some 42) (hq : oh x[k + 1]?) :
  dz C (dJ 3 xT) [some (.bytes x),some (.int i),some (.lst h.length),some kind,some what,l0,m0] (h ++ .lst acc :: t) =
   .ok .next [some (.bytes x),some (.int (i + 1)),some (.lst h.length),some kind,some what,some (.int 0),some .none] (h ++ .lst (acc ++ [.tup [kind,what,.int 0,.none]]) :: t) := by
 subst hi
 have hL : x.length <= bH := lim (by lia)
 have hk : k < x.length := (List.getElem?_eq_some_iff.mp h0).1
 have i0 : ∀ h : H,bW (.bytes x) (.int (k : Int)) h = .ok (.int 42) h := fun h => bB _ rfl h0 hL
 have i63 : ∀ h : H,tR h (.int 42) (.bytes [42,43,63]) = some true := fun h => rfl
 cases hk1 : x[k + 1]? with
 | none =>
  have hk' : x.length <= k + 1 := by simpa using hk1
  simp [xT,aF,bA _ hL,hk,i0,i63,show ¬ ((k : Int) + 1 < x.length) by lia,eG (iV (show acc.length <= 100000 by lia))]
 | some c =>
  obtain ⟨n1,n2,n3⟩ := hq c hk1
  have hk' : k + 1 < x.length := (List.getElem?_eq_some_iff.mp hk1).1
  have i1 : ∀ h : H,bW (.bytes x) (.int ((k : Int) + 1)) h = .ok (.int c.toNat) h := fun h => bB _ (by simp) hk1 hL
  simp [xT,aF,bA _ hL,hk,i0,i1,i63,n3,show ((k : Int) + 1 < x.length) by lia,eG (iV (show acc.length <= 100000 by lia))]
end
theorem vV {c : UInt8} (h : special.contains c = false) : c ≠ 40 /\ c ≠ 41 /\ c ≠ 91 /\ c ≠ 92 /\ c ≠ 46 /\ c ≠ 42 /\ c ≠ 43 /\ c ≠ 63 := by
 refine ⟨?_,?_,?_,?_,?_,?_,?_,?_⟩ <;> (rintro rfl; revert h; decide)
theorem Ft {c : UInt8} (h : special.contains c = true) : c ≠ 90 := by
 rintro rfl; revert h; decide
structure St where
 i : Int
 acc : List Val
 t : H
 a : Option Val
 b : Option Val
 c : Option Val
 d : Option Val
noncomputable def yG (C : bK) (x : Bs) (h : H) (n : Nat) (s : St) : SR := wh C Kd xT n [some (.bytes x),some (.int s.i),some (.lst h.length),s.a,s.b,s.c,s.d] (h ++ .lst s.acc :: s.t)
structure Turn (C : bK) (x : Bs) (h : H) (n : Nat) (s : St) (j : Int) (p : Part) (s' : St) : Prop where
 go : yG C x h (n + 1) s = yG C x h n s'
 i : s'.i = j
 acc : ∃ v,s'.acc = s.acc ++ [v] /\ PV (tl (h.length + 1) s'.t) p v
 t : ∃ u,s'.t = s.t ++ u
section
variable {C : bK} {x : Bs} {h : H} {s : St} {k n : Nat} {r : Bs}
theorem M4 (hC : Em C) {neg : Bool} {cs : List Chunk} (ok : Item.ok (.cls neg cs)) (hl : x.length <= 50000) (ha : s.acc.length <= 50000) (hi : s.i = (k : Nat)) (hx : x.drop k = (Item.cls neg cs).text ++ r) (hq : oh r[0]?) :
  ∃ s',Turn C x h n s ((k + (Item.cls neg cs).text.length : Nat) : Int) (Item.cls neg cs).part s' := by
 obtain ⟨i,acc,t,a,b,c,d⟩ := s
 simp only at hi ha
 subst hi
 have hL : x.length <= bH := lim (by lia)
 have hk0 : x[k]? = some 91 := bR hx 0
 have hk : k < x.length := (List.getElem?_eq_some_iff.mp hk0).1
 have i0 : ∀ h : H,bW (.bytes x) (.int (k : Int)) h = .ok (.int 91) h := fun h => bB _ rfl hk0 hL
 have s4 : ∀ h : H,gO (.bytes x) (.int (k : Int)) (.int ((k : Int) + 4)) h = .ok (.bytes (91 :: ((x.drop k).drop 1).take 3)) h := fun h => by
  rw [fU _ hL,gA hx 0 4 (by simp) (by simp),hx]; simp [Item.text]
 have hx1 : x.drop (k + 1) = (if neg then [94] else []) ++ (bJ cs ++ 93 :: r) := by
  rw [aB hx 1]; simp [Item.text]
 have rc := fun h => hC x (k + 1) neg cs r h ((k : Int) + 1) (by simp) ok.1 hx1 hl ok.2
 have hlen : k + (Item.cls neg cs).text.length = k + 1 + (if neg then 1 else 0) + (bJ cs).length + 1 := by
  simp [Item.text]; split <;> simp <;> lia
 have hx2 : x[k + (Item.cls neg cs).text.length]? = r[0]? := by
  have := bR hx ((Item.cls neg cs).text.length + 0)
  rw [Nat.add_zero] at this
  rw [this,List.getElem?_append_right (Nat.le_refl _),Nat.sub_self]
 rw [hlen] at hx2
 have tail := qU (C := C) (x := x) (h := h) (t := t ++ [.lst [],.lst (cs.map Chunk.val)]) (acc := acc) (l0 := c) (m0 := d) (kind := .str "octet") (what := .tup [.bool neg,.lst (h.length + (t.length + 1 + 1))]) hl ha (i := ((k + 1 + (if neg then 1 else 0) + (bJ cs).length + 1 : Nat) : Int)) rfl (by rw [hx2]; exact hq)
 refine ⟨⟨((k + (Item.cls neg cs).text.length : Nat) : Int),acc ++ [.tup [.str "octet",.tup [.bool neg,.lst (h.length + (t.length + 1 + 1))],.int 1,.int 1]],t ++ [.lst [],.lst (cs.map Chunk.val)],some (.str "octet"),some (.tup [.bool neg,.lst (h.length + (t.length + 1 + 1))]),some (.int 1),some (.int 1)⟩,?_,rfl,⟨_,rfl,?_⟩,_,rfl⟩
 ·unfold yG
  rw [aH,hlen]
  simp only [Kd,xT,jA,jD,jB,jC,aF,f9,gb] at tail ⊢
  simp [bA _ hL,hk,i0,s4,rc] at tail ⊢
  rw [tail]
  simp
 ·refine ⟨_,rfl,?_⟩
  have := H6 (b := h.length + 1) (t := t ++ [.lst []]) (u := []) (c := .lst (cs.map Chunk.val)) (r := h.length + (t.length + 1 + 1)) (by simp; lia)
  simp only [List.append_assoc,List.singleton_append] at this
  rw [this]
  simp [Chunk.val,dh,Function.comp_def]
theorem Fd (hl : x.length <= 50000) (ha : s.acc.length <= 50000) (hi : s.i = (k : Nat)) (hx : x.drop k = Item.never.text ++ r) (hq : oh r[0]?) :
  ∃ s',Turn C x h n s ((k + 4 : Nat) : Int) .never s' := by
 obtain ⟨i,acc,t,a,b,c,d⟩ := s
 simp only at hi ha
 subst hi
 have hL : x.length <= bH := lim (by lia)
 have hk0 : x[k]? = some 40 := bR hx 0
 have hk : k < x.length := (List.getElem?_eq_some_iff.mp hk0).1
 have i0 : ∀ h : H,bW (.bytes x) (.int (k : Int)) h = .ok (.int 40) h := fun h => bB _ rfl hk0 hL
 have s4 : ∀ h : H,gO (.bytes x) (.int (k : Int)) (.int ((k : Int) + 4)) h = .ok (.bytes [40,63,33,41]) h := fun h => by
  rw [fU _ hL,gA hx 0 4 (by simp) (by simp)]; simp [Item.text]
 have hx2 : x[k + 4]? = r[0]? := bR hx 4
 have tail := qU (C := C) (x := x) (h := h) (t := t ++ [.lst []]) (acc := acc) (l0 := c) (m0 := d) (kind := .str "never") (what := .tup [.bool true,.lst (h.length + (t.length + 1))]) hl ha (i := (k : Int) + 4) (k := k + 4) (by simp) (by rw [hx2]; exact hq)
 refine ⟨⟨((k + 4 : Nat) : Int),acc ++ [.tup [.str "never",.tup [.bool true,.lst (h.length + (t.length + 1))],.int 1,.int 1]],t ++ [.lst []],some (.str "never"),some (.tup [.bool true,.lst (h.length + (t.length + 1))]),some (.int 1),some (.int 1)⟩,?_,rfl,⟨_,rfl,_,rfl⟩,_,rfl⟩
 unfold yG
 rw [aH]
 simp only [Kd,xT,jA,jD,jB,jC,aF,f9,gb] at tail ⊢
 simp [bA _ hL,hk,i0,s4] at tail ⊢
 rw [tail]
 simp
theorem JT (hl : x.length <= 50000) (ha : s.acc.length <= 50000) (hi : s.i = (k : Nat)) (hx : x.drop k = [92,90]) :
  ∃ s',Turn C x h n s ((k + 2 : Nat) : Int) .stop s' := by
 obtain ⟨i,acc,t,a,b,c,d⟩ := s
 simp only at hi ha
 subst hi
 have hL : x.length <= bH := lim (by lia)
 have hk0 : x[k]? = some 92 := bR hx 0
 have hk : k < x.length := (List.getElem?_eq_some_iff.mp hk0).1
 have i0 : ∀ h : H,bW (.bytes x) (.int (k : Int)) h = .ok (.int 92) h := fun h => bB _ rfl hk0 hL
 have s4 : ∀ h : H,gO (.bytes x) (.int (k : Int)) (.int ((k : Int) + 4)) h = .ok (.bytes [92,90]) h := fun h => by
  rw [fU _ hL,gA hx 0 4 (by simp) (by simp)]; simp
 have s2 : ∀ h : H,gO (.bytes x) (.int (k : Int)) (.int ((k : Int) + 2)) h = .ok (.bytes [92,90]) h := fun h => by
  rw [fU _ hL,gA hx 0 2 (by simp) (by simp)]; simp
 have hx2 : x[k + 2]? = none := bR hx 2
 have tail := qU (C := C) (x := x) (h := h) (t := t ++ [.lst []]) (acc := acc) (l0 := c) (m0 := d) (kind := .str "end") (what := .tup [.bool true,.lst (h.length + (t.length + 1))]) hl ha (i := (k : Int) + 2) (k := k + 2) (by simp) (by rw [hx2]; exact fun c e => by exact cN e)
 refine ⟨⟨((k + 2 : Nat) : Int),acc ++ [.tup [.str "end",.tup [.bool true,.lst (h.length + (t.length + 1))],.int 1,.int 1]],t ++ [.lst []],some (.str "end"),some (.tup [.bool true,.lst (h.length + (t.length + 1))]),some (.int 1),some (.int 1)⟩,?_,rfl,⟨_,rfl,_,rfl⟩,_,rfl⟩
 unfold yG
 rw [aH]
 simp only [Kd,xT,jA,jD,jB,jC,aF,f9,gb] at tail ⊢
 simp [bA _ hL,hk,i0,s4,s2] at tail ⊢
 rw [tail]
 simp
theorem Fg {h t u : H} {c : UInt8} : tl (h.length + 1) (t ++ .lst [] :: .lst [dh (c,c)] :: u) (h.length + (t.length + 1 + 1)) = some (.lst [dh (c,c)]) := by
 have := H6 (b := h.length + 1) (t := t ++ [.lst []]) (u := u) (c := .lst [dh (c,c)]) (r := h.length + (t.length + 1 + 1)) (by simp; lia)
 simpa using this
theorem vO {c₀ : UInt8} (hs : special.contains c₀ = false) (hl : x.length <= 50000) (ha : s.acc.length <= 50000) (hi : s.i = (k : Nat)) (hx : x.drop k = c₀ :: r) (hq : oh r[0]?) :
  ∃ s',Turn C x h n s ((k + 1 : Nat) : Int) (.oct false [(c₀,c₀)]) s' := by
 obtain ⟨i,acc,t,a,b,c,d⟩ := s
 simp only at hi ha
 subst hi
 have hL : x.length <= bH := lim (by lia)
 obtain ⟨n1,n2,n3,n4,n5,_⟩ := vV hs
 have hk0 : x[k]? = some c₀ := bR hx 0
 have hk : k < x.length := (List.getElem?_eq_some_iff.mp hk0).1
 have i0 : ∀ h : H,bW (.bytes x) (.int (k : Int)) h = .ok (.int c₀.toNat) h := fun h => bB _ rfl hk0 hL
 have s4 : ∀ h : H,gO (.bytes x) (.int (k : Int)) (.int ((k : Int) + 4)) h = .ok (.bytes (c₀ :: r.take 3)) h := fun h => by
  rw [fU _ hL,gA hx 0 4 (by simp) (by simp)]; simp
 have s2 : ∀ h : H,gO (.bytes x) (.int (k : Int)) (.int ((k : Int) + 2)) h = .ok (.bytes (c₀ :: r.take 1)) h := fun h => by
  rw [fU _ hL,gA hx 0 2 (by simp) (by simp)]; simp
 have hx2 : x[k + 1]? = r[0]? := bR hx 1
 have tail := qU (C := C) (x := x) (h := h) (t := t ++ [.lst [],.lst [dh (c₀,c₀)]]) (acc := acc) (l0 := c) (m0 := d) (kind := .str "octet") (what := .tup [.bool false,.lst (h.length + (t.length + 1 + 1))]) hl ha (i := (k : Int) + 1) (k := k + 1) (by simp) (by rw [hx2]; exact hq)
 refine ⟨⟨((k + 1 : Nat) : Int),acc ++ [.tup [.str "octet",.tup [.bool false,.lst (h.length + (t.length + 1 + 1))],.int 1,.int 1]],t ++ [.lst [],.lst [dh (c₀,c₀)]],some (.str "octet"),some (.tup [.bool false,.lst (h.length + (t.length + 1 + 1))]),some (.int 1),some (.int 1)⟩,?_,rfl,⟨_,rfl,_,rfl,Fg⟩,_,rfl⟩
 unfold yG
 rw [aH]
 simp only [Kd,xT,jA,jD,jB,jC,aF,f9,gb,dh] at tail ⊢
 simp [bA _ hL,hk,i0,s4,s2,n1,n2,n3,n4,n5] at tail ⊢
 rw [tail]
 simp
theorem Bv {c₀ : UInt8} (hs : special.contains c₀ = true) (hl : x.length <= 50000) (ha : s.acc.length <= 50000) (hi : s.i = (k : Nat)) (hx : x.drop k = 92 :: c₀ :: r) (hq : oh r[0]?) :
  ∃ s',Turn C x h n s ((k + 2 : Nat) : Int) (.oct false [(c₀,c₀)]) s' := by
 obtain ⟨i,acc,t,a,b,c,d⟩ := s
 simp only at hi ha
 subst hi
 have hL : x.length <= bH := lim (by lia)
 have n1 := Ft hs
 have hk0 : x[k]? = some 92 := bR hx 0
 have hk1 : x[k + 1]? = some c₀ := bR hx 1
 have hk : k < x.length := (List.getElem?_eq_some_iff.mp hk0).1
 have i0 : ∀ h : H,bW (.bytes x) (.int (k : Int)) h = .ok (.int 92) h := fun h => bB _ rfl hk0 hL
 have i1 : ∀ h : H,bW (.bytes x) (.int ((k : Int) + 1)) h = .ok (.int c₀.toNat) h := fun h => bB _ (by simp) hk1 hL
 have s4 : ∀ h : H,gO (.bytes x) (.int (k : Int)) (.int ((k : Int) + 4)) h = .ok (.bytes (92 :: c₀ :: r.take 2)) h := fun h => by
  rw [fU _ hL,gA hx 0 4 (by simp) (by simp)]; simp
 have s2 : ∀ h : H,gO (.bytes x) (.int (k : Int)) (.int ((k : Int) + 2)) h = .ok (.bytes [92,c₀]) h := fun h => by
  rw [fU _ hL,gA hx 0 2 (by simp) (by simp)]; simp
 have hx2 : x[k + 2]? = r[0]? := bR hx 2
 have tail := qU (C := C) (x := x) (h := h) (t := t ++ [.lst [],.lst [dh (c₀,c₀)]]) (acc := acc) (l0 := c) (m0 := d) (kind := .str "octet") (what := .tup [.bool false,.lst (h.length + (t.length + 1 + 1))]) hl ha (i := (k : Int) + 1 + 1) (k := k + 2) (by simp; lia) (by rw [hx2]; exact hq)
 refine ⟨⟨((k : Int) + 1 + 1),acc ++ [.tup [.str "octet",.tup [.bool false,.lst (h.length + (t.length + 1 + 1))],.int 1,.int 1]],t ++ [.lst [],.lst [dh (c₀,c₀)]],some (.str "octet"),some (.tup [.bool false,.lst (h.length + (t.length + 1 + 1))]),some (.int 1),some (.int 1)⟩,?_,by simp; lia,⟨_,rfl,_,rfl,Fg⟩,_,rfl⟩
 unfold yG
 rw [aH]
 simp only [Kd,xT,jA,jD,jB,jC,aF,f9,gb,dh] at tail ⊢
 simp [bA _ hL,hk,i0,i1,s4,s2,n1] at tail ⊢
 rw [tail]
 simp
theorem MK (hl : x.length <= 50000) (ha : s.acc.length <= 50000) (hi : s.i = (k : Nat)) (hx : x.drop k = 47 :: 63 :: r) (hq : oh r[0]?) :
  ∃ s',Turn C x h n s ((k + 2 : Nat) : Int) (.opt false [(47,47)]) s' := by
 obtain ⟨i,acc,t,a,b,c,d⟩ := s
 simp only at hi ha
 subst hi
 have hL : x.length <= bH := lim (by lia)
 have hk0 : x[k]? = some 47 := bR hx 0
 have hk1 : x[k + 1]? = some 63 := bR hx 1
 have hk : k < x.length := (List.getElem?_eq_some_iff.mp hk0).1
 have i0 : ∀ h : H,bW (.bytes x) (.int (k : Int)) h = .ok (.int 47) h := fun h => bB _ rfl hk0 hL
 have s4 : ∀ h : H,gO (.bytes x) (.int (k : Int)) (.int ((k : Int) + 4)) h = .ok (.bytes (47 :: 63 :: r.take 2)) h := fun h => by
  rw [fU _ hL,gA hx 0 4 (by simp) (by simp)]; simp
 have s2 : ∀ h : H,gO (.bytes x) (.int (k : Int)) (.int ((k : Int) + 2)) h = .ok (.bytes [47,63]) h := fun h => by
  rw [fU _ hL,gA hx 0 2 (by simp) (by simp)]; simp
 have hx2 : x[k + 2]? = r[0]? := bR hx 2
 have tail := NP (C := C) (x := x) (h := h) (t := t ++ [.lst [],.lst [dh (47,47)]]) (acc := acc) (l0 := c) (m0 := d) (kind := .str "octet") (what := .tup [.bool false,.lst (h.length + (t.length + 1 + 1))]) hl ha (i := (k : Int) + 1) (k := k + 1) (by simp) hk1 (by rw [hx2]; exact hq)
 refine ⟨⟨((k : Int) + 1 + 1),acc ++ [.tup [.str "octet",.tup [.bool false,.lst (h.length + (t.length + 1 + 1))],.int 0,.int 1]],t ++ [.lst [],.lst [dh (47,47)]],some (.str "octet"),some (.tup [.bool false,.lst (h.length + (t.length + 1 + 1))]),some (.int 0),some (.int 1)⟩,?_,by simp; lia,⟨_,rfl,_,rfl,Fg⟩,_,rfl⟩
 unfold yG
 rw [aH]
 simp only [Kd,xT,jA,jD,jB,jC,aF,f9,gb,dh] at tail ⊢
 simp [bA _ hL,hk,i0,s4,s2] at tail ⊢
 rw [tail]
 simp
end
noncomputable def uZ (g : Nat -> Option Cell) : List Part -> List Val -> Prop
 | [],[] => True
 | p :: ps,v :: vs => PV g p v /\ uZ g ps vs
 | _,_ => False
theorem uZ.mono {g g' : Nat -> Option Cell} (hg : ∀ r c,g r = some c -> g' r = some c) : ∀ {ps : List Part} {vs : List Val},uZ g ps vs -> uZ g' ps vs
 | [],[],_ => trivial
 | _ :: _,_ :: _,⟨a,b⟩ => ⟨a.mono hg,uZ.mono hg b⟩
 | [],_ :: _,h => h.elim
 | _ :: _,[],h => h.elim
theorem uZ.append {g : Nat -> Option Cell} : ∀ {ps qs : List Part} {vs us : List Val},uZ g ps vs -> uZ g qs us -> uZ g (ps ++ qs) (vs ++ us)
 | [],qs,[],us,_,h => h
 | _ :: _,qs,_ :: _,us,⟨a,b⟩,h => ⟨a,b.append h⟩
 | [],_,_ :: _,_,h,_ => h.elim
 | _ :: _,_,[],_,h,_ => h.elim
theorem uZ.length {g : Nat -> Option Cell} : ∀ {ps : List Part} {vs : List Val},uZ g ps vs -> vs.length = ps.length
 | [],[],_ => rfl
 | _ :: _,_ :: _,⟨_,b⟩ => congrArg (· + 1) b.length
 | [],_ :: _,h => h.elim
 | _ :: _,[],h => h.elim
theorem BK {b : Nat} {t pre : H} {r : Nat} {c : Cell} (h : tl (b + pre.length) t r = some c) : tl b (pre ++ t) r = some c := by
 unfold tl at h ⊢
 split at h
 ·rw [if_pos (by lia),List.getElem?_append_right (by lia),show r - b - pre.length = r - (b + pre.length) by lia]
  exact h
 ·exact cN h
structure Turns (C : bK) (x : Bs) (h : H) (n m : Nat) (s : St) (j : Int) (ps : List Part) (s' : St) : Prop where
 go : yG C x h (n + m) s = yG C x h n s'
 i : s'.i = j
 acc : ∃ vs,s'.acc = s.acc ++ vs /\ uZ (tl (h.length + 1) s'.t) ps vs
 t : ∃ u,s'.t = s.t ++ u
theorem Turns.nil {C : bK} {x : Bs} {h : H} {n : Nat} {s : St} : Turns C x h n 0 s s.i [] s := ⟨rfl,rfl,⟨[],by simp,trivial⟩,⟨[],by simp⟩⟩
theorem Turn.one {C : bK} {x : Bs} {h : H} {n : Nat} {s s' : St} {j : Int} {p : Part} (a : Turn C x h n s j p s') : Turns C x h n 1 s j [p] s' := by
 obtain ⟨v,e,hv⟩ := a.acc
 exact ⟨a.go,a.i,⟨[v],e,hv,trivial⟩,a.t⟩
theorem Turns.trans {C : bK} {x : Bs} {h : H} {n m m' : Nat} {s s' s'' : St} {j j' : Int} {ps qs : List Part} (a : Turns C x h (n + m') m s j ps s') (b : Turns C x h n m' s' j' qs s'') : Turns C x h n (m' + m) s j' (ps ++ qs) s'' := by
 obtain ⟨vs,e1,h1⟩ := a.acc
 obtain ⟨us,e2,h2⟩ := b.acc
 obtain ⟨u,e3⟩ := a.t
 obtain ⟨u',e4⟩ := b.t
 refine ⟨?_,b.i,⟨vs ++ us,by rw [e2,e1,List.append_assoc],uZ.append (h1.mono fun r c hc => ?_) h2⟩,⟨u ++ u',by rw [e4,e3,List.append_assoc]⟩⟩
 ·rw [<- Nat.add_assoc,a.go,b.go]
 ·rw [e4]; exact Tt hc
section
variable {C : bK} {x : Bs} {h : H} {s : St} {k n : Nat} {r : Bs}
theorem MP (hl : x.length <= 50000) (ha : s.acc.length <= 50000) (hi : s.i = (k : Nat)) (hx : x.drop k = 46 :: 42 :: 47 :: r) :
  yG C x h (n + 1) s = yG C x h n ⟨(k : Int) + 1 + 1,s.acc ++ [.tup [.str "octet",.tup [.bool true,.lst (h.length + (s.t.length + 1))],.int 0,.none]],s.t ++ [.lst []],some (.str "octet"),some (.tup [.bool true,.lst (h.length + (s.t.length + 1))]),some (.int 0),some .none⟩ := by
 obtain ⟨i,acc,t,a,b,c,d⟩ := s
 simp only at hi ha
 subst hi
 have hL : x.length <= bH := lim (by lia)
 have hk0 : x[k]? = some 46 := bR hx 0
 have hk1 : x[k + 1]? = some 42 := bR hx 1
 have hk : k < x.length := (List.getElem?_eq_some_iff.mp hk0).1
 have i0 : ∀ h : H,bW (.bytes x) (.int (k : Int)) h = .ok (.int 46) h := fun h => bB _ rfl hk0 hL
 have s4 : ∀ h : H,gO (.bytes x) (.int (k : Int)) (.int ((k : Int) + 4)) h = .ok (.bytes (46 :: 42 :: 47 :: r.take 1)) h := fun h => by
  rw [fU _ hL,gA hx 0 4 (by simp) (by simp)]; simp
 have s2 : ∀ h : H,gO (.bytes x) (.int (k : Int)) (.int ((k : Int) + 2)) h = .ok (.bytes [46,42]) h := fun h => by
  rw [fU _ hL,gA hx 0 2 (by simp) (by simp)]; simp
 have hx2 : x[k + 2]? = some 47 := bR hx 2
 have tail := Uj (C := C) (x := x) (h := h) (t := t ++ [.lst []]) (acc := acc) (l0 := c) (m0 := d) (kind := .str "octet") (what := .tup [.bool true,.lst (h.length + (t.length + 1))]) hl ha (i := (k : Int) + 1) (k := k + 1) (by simp) hk1 (by rw [hx2]; intro c e; cases e; decide)
 unfold yG
 rw [aH]
 simp only [Kd,xT,jA,jD,jB,jC,aF,f9,gb,dh] at tail ⊢
 simp [bA _ hL,hk,i0,s4,s2] at tail ⊢
 rw [tail]
 simp
def vG (C : bK) : Prop := ∀ (x : Bs) (k : Nat) (r : Bs) (h : H) (i : Int),i = (k : Nat) -> x.drop k = 46 :: 42 :: 47 :: 41 :: r -> x.length <= 50000 -> ∃ t r1 r2,
 C jG [.bytes x,.int i] h = .ok (.tup [.lst h.length,.int ((k + 3 : Nat) : Int)]) (h ++ .lst [.tup [.str "octet",.tup [.bool true,.lst r1],.int 0,.none],.tup [.str "octet",.tup [.bool false,.lst r2],.int 1,.int 1]] :: t) /\
 tl (h.length + 1) t r1 = some (.lst []) /\ tl (h.length + 1) t r2 = some (.lst [dh (47,47)])
theorem K6 {i : Int} (hi : i = (k : Nat)) (hx : x.drop k = 46 :: 42 :: 47 :: 41 :: r) (hl : x.length <= 50000) : ∃ t r1 r2,
 cj C ⟨2,[],7,aF⟩ [.bytes x,.int i] h = .ok (.tup [.lst h.length,.int ((k + 3 : Nat) : Int)]) (h ++ .lst [.tup [.str "octet",.tup [.bool true,.lst r1],.int 0,.none],.tup [.str "octet",.tup [.bool false,.lst r2],.int 1,.int 1]] :: t) /\
 tl (h.length + 1) t r1 = some (.lst []) /\ tl (h.length + 1) t r2 = some (.lst [dh (47,47)]) := by
 subst hi
 have hL : x.length <= bH := lim (by lia)
 have a := MP (C := C) (h := h) (n := FUEL - 1) (s := ⟨k,[],[],none,none,none,none⟩) hl (by simp) rfl hx
 obtain ⟨s',b⟩ := vO (C := C) (h := h) (n := FUEL - 2) (s := ⟨(k : Int) + 1 + 1,[.tup [.str "octet",.tup [.bool true,.lst (h.length + 1)],.int 0,.none]],[.lst []],some (.str "octet"),some (.tup [.bool true,.lst (h.length + 1)]),some (.int 0),some .none⟩) (k := k + 2) (c₀ := 47) (r := 41 :: r) (by first | decide | (rw [bL]; decide)) hl (by simp) (by simp; lia) (aB hx 2) (by intro c e; cases e; decide)
 obtain ⟨v,e1,r2,rfl,hr2⟩ := b.acc
 obtain ⟨u,e2⟩ := b.t
 have hi := b.i
 have go := b.go
 obtain ⟨i',acc',t',a1,a2,a3,a4⟩ := s'
 simp only at e1 e2 hi hr2
 subst e1 e2 hi
 refine ⟨_,h.length + 1,r2,?_,?_,hr2⟩
 rotate_left
 ·have := H6 (b := h.length + 1) (t := []) (u := u) (c := .lst []) (r := h.length + 1) (by simp)
  simpa using this
 have hk3 : x[k + 3]? = some 41 := bR hx 3
 have hk : k + 3 < x.length := (List.getElem?_eq_some_iff.mp hk3).1
 have i3 : ∀ h : H,bW (.bytes x) (.int ((k : Int) + 2 + 1)) h = .ok (.int 41) h := fun h => bB _ (by simp; lia) hk3 hL
 have fin : yG C x h (FUEL - 2) ⟨((k + 2 + 1 : Nat) : Int),[.tup [.str "octet",.tup [.bool true,.lst (h.length + 1)],.int 0,.none]] ++ [.tup [.str "octet",.tup [.bool false,.lst r2],.int 1,.int 1]],[.lst []] ++ u,a1,a2,a3,a4⟩ = .ok .next [some (.bytes x),some (.int ((k + 2 + 1 : Nat) : Int)),some (.lst h.length),a1,a2,a3,a4] (h ++ .lst ([.tup [.str "octet",.tup [.bool true,.lst (h.length + 1)],.int 0,.none]] ++ [.tup [.str "octet",.tup [.bool false,.lst r2],.int 1,.int 1]]) :: ([.lst []] ++ u)) := by
  unfold yG
  rw [show FUEL - 2 = FUEL - 3 + 1 by have := bL; lia,aH]
  simp [Kd,xT,aF,bA _ hL,i3,show (k : Int) + 2 + 1 < x.length by lia]
 rw [show FUEL - 1 + 1 = FUEL by have := bL; lia] at a
 rw [show FUEL - 2 + 1 = FUEL - 1 by have := bL; lia] at go
 simp only [List.length_nil,Nat.zero_add,List.nil_append] at a
 rw [go,fin] at a
 rw [aN (by rfl)]
 unfold yG at a
 simp only [Kd,xT,jA,jD,jB,jC,aF] at a ⊢
 simp at a ⊢
 rw [a]
 simp; lia
theorem MN (hC : vG C) (hl : x.length <= 50000) (ha : s.acc.length <= 50000) (hi : s.i = (k : Nat)) (hx : x.drop k = 40 :: 46 :: 42 :: 47 :: 41 :: 63 :: r) (hq : oh r[0]?) :
  ∃ s',Turn C x h n s ((k + 6 : Nat) : Int) .grp s' := by
 obtain ⟨i,acc,t,a,b,c,d⟩ := s
 simp only at hi ha
 subst hi
 have hL : x.length <= bH := lim (by lia)
 have hk0 : x[k]? = some 40 := bR hx 0
 have hk1 : x[k + 1]? = some 46 := bR hx 1
 have hk5 : x[k + 5]? = some 63 := bR hx 5
 have hk : k < x.length := (List.getElem?_eq_some_iff.mp hk0).1
 have i0 : ∀ h : H,bW (.bytes x) (.int (k : Int)) h = .ok (.int 40) h := fun h => bB _ rfl hk0 hL
 have i1 : ∀ h : H,bW (.bytes x) (.int ((k : Int) + 1)) h = .ok (.int 46) h := fun h => bB _ (by simp) hk1 hL
 have s4 : ∀ h : H,gO (.bytes x) (.int (k : Int)) (.int ((k : Int) + 4)) h = .ok (.bytes (40 :: 46 :: 42 :: [47])) h := fun h => by
  rw [fU _ hL,gA hx 0 4 (by simp) (by simp)]; simp
 have hx6 : x[k + 6]? = r[0]? := bR hx 6
 obtain ⟨t',r1,r2,e,f1,f2⟩ := hC x (k + 1) (63 :: r) (h ++ .lst acc :: (t ++ [.lst []])) ((k : Int) + 1) (by simp) (aB hx 1) hl
 have tail := NP (C := C) (x := x) (h := h) (t := t ++ .lst [] :: .lst [.tup [.str "octet",.tup [.bool true,.lst r1],.int 0,.none],.tup [.str "octet",.tup [.bool false,.lst r2],.int 1,.int 1]] :: t') (acc := acc) (l0 := c) (m0 := d) (kind := .str "group") (what := .lst (h.length + (t.length + 1 + 1))) hl ha (i := (k : Int) + 1 + 3 + 1) (k := k + 5) (by simp; lia) hk5 (by rw [hx6]; exact hq)
 refine ⟨⟨(k : Int) + 1 + 3 + 1 + 1,acc ++ [.tup [.str "group",.lst (h.length + (t.length + 1 + 1)),.int 0,.int 1]],t ++ .lst [] :: .lst [.tup [.str "octet",.tup [.bool true,.lst r1],.int 0,.none],.tup [.str "octet",.tup [.bool false,.lst r2],.int 1,.int 1]] :: t',some (.str "group"),some (.lst (h.length + (t.length + 1 + 1))),some (.int 0),some (.int 1)⟩,?_,by simp; lia,⟨_,rfl,_,r1,r2,rfl,?_,?_,?_⟩,_,rfl⟩
 ·unfold yG
  rw [aH]
  simp only [Kd,xT,jA,jD,jB,jC,aF,f9,gb,dh] at tail ⊢
  simp [bA _ hL,hk,i0,i1,s4] at tail e ⊢
  simp [e,bA _ hL]
  rw [tail]
  simp
 ·have := H6 (b := h.length + 1) (t := t ++ [.lst []]) (u := t') (c := .lst [.tup [.str "octet",.tup [.bool true,.lst r1],.int 0,.none],.tup [.str "octet",.tup [.bool false,.lst r2],.int 1,.int 1]]) (r := h.length + (t.length + 1 + 1)) (by simp; lia)
  simpa using this
 ·have := BK (b := h.length + 1) (pre := t ++ [.lst [],.lst [.tup [.str "octet",.tup [.bool true,.lst r1],.int 0,.none],.tup [.str "octet",.tup [.bool false,.lst r2],.int 1,.int 1]]]) (t := t') (r := r1) (c := .lst []) (by rw [<- f1]; congr 1; simp; lia)
  simpa using this
 ·have := BK (b := h.length + 1) (pre := t ++ [.lst [],.lst [.tup [.str "octet",.tup [.bool true,.lst r1],.int 0,.none],.tup [.str "octet",.tup [.bool false,.lst r2],.int 1,.int 1]]]) (t := t') (r := r2) (c := .lst [dh (47,47)]) (by rw [<- f2]; congr 1; simp; lia)
  simpa using this
end
noncomputable def bD (is : List Item) : Bs := is.flatMap Item.text
@[simp] theorem Zn : bD [] = [] := rfl
@[simp] theorem uq (c : Item) (cs : List Item) : bD (c :: cs) = c.text ++ bD cs := by simp [bD]
theorem yj (a b : List Item) : bD (a ++ b) = bD a ++ bD b := by simp [bD]
theorem Item.hd (it : Item) : ∃ a t,it.text = a :: t /\ a ≠ 42 /\ a ≠ 43 /\ a ≠ 63 := by
 cases it with
 | cls neg cs => exact ⟨91,_,rfl,by decide,by decide,by decide⟩
 | never => exact ⟨40,_,rfl,by decide,by decide,by decide⟩
 | chr c =>
  by_cases hs : special.contains c = true
  ·exact ⟨92,[c],by simp only [Item.text,fC,hs,if_true],by decide,by decide,by decide⟩
  ·rw [Bool.not_eq_true] at hs
   obtain ⟨_,_,_,_,_,h1,h2,h3⟩ := vV hs
   exact ⟨c,[],by simp only [Item.text,fC,hs,Bool.false_eq_true,if_false],h1,h2,h3⟩
theorem wG (is : List Item) : is.length <= (bD is).length := by
 induction is with
 | nil => simp
 | cons it is ih =>
  obtain ⟨a,t,e,_⟩ := it.hd
  simp [e]; lia
theorem yX {is : List Item} {r : Bs} (h : oh r[0]?) : oh (bD is ++ r)[0]? := by
 cases is with
 | nil => exact h
 | cons it is =>
  obtain ⟨a,t,e,h1⟩ := it.hd
  intro c hc
  simp [e] at hc
  subst hc; exact h1
section
variable {C : bK} {x : Bs} {h : H}
theorem JV (hC : Em C) {s : St} {k n : Nat} {r : Bs} {it : Item} (ok : it.ok) (hl : x.length <= 50000) (ha : s.acc.length <= 50000) (hi : s.i = (k : Nat)) (hx : x.drop k = it.text ++ r) (hq : oh r[0]?) :
  ∃ s',Turn C x h n s ((k + it.text.length : Nat) : Int) it.part s' := by
 cases it with
 | cls neg cs => exact M4 hC ok hl ha hi hx hq
 | never => exact Fd hl ha hi hx hq
 | chr c =>
  by_cases hs : special.contains c = true
  ·have e : (Item.chr c).text = [92,c] := by simp only [Item.text,fC,hs,if_true]
   rw [e] at hx ⊢
   exact Bv hs hl ha hi hx hq
  ·rw [Bool.not_eq_true] at hs
   have e : (Item.chr c).text = [c] := by simp only [Item.text,fC,hs,Bool.false_eq_true,if_false]
   rw [e] at hx ⊢
   exact vO hs hl ha hi hx hq
theorem tU (hC : Em C) (hl : x.length <= 50000) {r : Bs} (hq : oh r[0]?) : ∀ (is : List Item) (s : St) (k n : Nat),(∀ it ∈ is,it.ok) -> s.acc.length + is.length <= 50000 -> s.i = (k : Nat) -> x.drop k = bD is ++ r ->
  ∃ s',Turns C x h n is.length s ((k + (bD is).length : Nat) : Int) (is.map Item.part) s' /\ s'.acc.length = s.acc.length + is.length
 | [],s,k,n,hok,ha,hi,hx => ⟨s,by have := Turns.nil (C := C) (x := x) (h := h) (n := n) (s := s); rw [hi] at this; simpa using this,by simp⟩
 | it :: is,s,k,n,hok,ha,hi,hx => by
  simp only [uq,List.append_assoc] at hx
  obtain ⟨s1,a⟩ := JV (h := h) (n := n + is.length) hC (hok it (.head _)) hl (by simp at ha; lia) hi hx (yX hq)
  have hx2 := aB hx it.text.length
  rw [List.drop_left] at hx2
  have ha1 : s1.acc.length = s.acc.length + 1 := by
   obtain ⟨v,e,_⟩ := a.acc
   rw [e]; simp
  obtain ⟨s2,b,hb⟩ := tU hC hl hq is s1 (k + it.text.length) n (fun it h => hok it (.tail _ h)) (by simp at ha; lia) a.i hx2
  refine ⟨s2,?_,by rw [hb,ha1]; simp; lia⟩
  have := (a.one).trans b
  simpa [Nat.add_assoc] using this
noncomputable def partsOf (g o : Bool) (is : List Item) : List Part := (if g then [.grp] else []) ++ (is.map Item.part ++ ((if o then [.opt false [(47,47)]] else []) ++ [.stop]))
noncomputable def textOf (g o : Bool) (is : List Item) : Bs := [40,63,109,115,41] ++ ((if g then [40,46,42,47,41,63] else []) ++ (bD is ++ ((if o then [47,63] else []) ++ [92,90])))
def JC (C : bK) : Prop := ∀ (g o : Bool) (is : List Item) (h : H),(∀ it ∈ is,it.ok) -> (textOf g o is).length <= 40000 ->
 ∃ vs t j,C jG [.bytes (textOf g o is),.int 5] h = .ok (.tup [.lst h.length,.int j]) (h ++ .lst vs :: t) /\ uZ (tl (h.length + 1) t) (partsOf g o is) vs
theorem Yi {s : St} {n : Nat} (hl : x.length <= 50000) (hi : s.i = (x.length : Nat)) :
  yG C x h (n + 1) s = .ok .next [some (.bytes x),some (.int s.i),some (.lst h.length),s.a,s.b,s.c,s.d] (h ++ .lst s.acc :: s.t) := by
 obtain ⟨i,acc,t,a,b,c,d⟩ := s
 simp only at hi
 subst hi
 unfold yG
 rw [aH]
 simp [Kd,xT,aF,bA _ (lim (show x.length <= 100000 by lia))]
theorem Turns.len {n m : Nat} {s s' : St} {j : Int} {ps : List Part} (a : Turns C x h n m s j ps s') : s'.acc.length = s.acc.length + ps.length := by
 obtain ⟨vs,e,hv⟩ := a.acc
 rw [e,List.length_append,hv.length]
theorem Az {k : Nat} {a b : Bs} (hx : x.drop k = a ++ b) : x.drop (k + a.length) = b := by
 rw [aB hx a.length,List.drop_left]
noncomputable def VD (g : Bool) : Bs := if g then [40,46,42,47,41,63] else []
noncomputable def Oa (o : Bool) : Bs := if o then [47,63] else []
noncomputable def b1 (g : Bool) : Nat := if g then 1 else 0
theorem abK (hI : vG C) (hl : x.length <= 50000) {g : Bool} {s : St} {k : Nat} {r : Bs} (ha : s.acc.length <= 50000) (hi : s.i = (k : Nat)) (hx : x.drop k = VD g ++ r) (hq : oh r[0]?) (n : Nat) : ∃ s',Turns C x h n (b1 g) s ((k + (VD g).length : Nat) : Int) (if g then [.grp] else []) s' := by
 cases g with
 | false => exact ⟨s,by have := Turns.nil (C := C) (x := x) (h := h) (n := n) (s := s); rw [hi] at this; exact this⟩
 | true => obtain ⟨s',a⟩ := MN (C := C) (h := h) (n := n) hI hl ha hi hx hq; exact ⟨s',a.one⟩
theorem abJ (hl : x.length <= 50000) {o : Bool} {s : St} {k : Nat} {r : Bs} (ha : s.acc.length <= 50000) (hi : s.i = (k : Nat)) (hx : x.drop k = Oa o ++ r) (hq : oh r[0]?) (n : Nat) : ∃ s',Turns C x h n (b1 o) s ((k + (Oa o).length : Nat) : Int) (if o then [.opt false [(47,47)]] else []) s' := by
 cases o with
 | false => exact ⟨s,by have := Turns.nil (C := C) (x := x) (h := h) (n := n) (s := s); rw [hi] at this; exact this⟩
 | true => obtain ⟨s',a⟩ := MK (C := C) (h := h) (n := n) hl ha hi hx hq; exact ⟨s',a.one⟩
theorem Y0 {k : Nat} {c : UInt8} {r : Bs} (hx : x.drop k = c :: r) : x.length = k + (c :: r).length := by
 have h1 := jW hx
 have h2 : k < x.length := (List.getElem?_eq_some_iff.mp (bR hx 0)).1
 rw [h1,Nat.add_sub_cancel' (Nat.le_of_lt h2)]
theorem YQ {a b c n : Nat} (h : n = 5 + a + b + c + 2) (hl : n <= 40000) : b <= 40000 := by lia
theorem Y4 {a b c : Nat} (h : a = b) (hb : b <= 1) (hc : c <= 40000) : a + c <= 40001 := by lia
theorem G5 {a b c : Nat} (ha : a <= 1) (hb : b <= 40000) (hc : c <= 1) : ∃ n,FUEL = n + 1 + (1 + (a + (b + c))) := ⟨FUEL - 1 - (1 + (a + (b + c))),by have := bL; lia⟩
theorem Xv (b : Bool) : b1 b <= 1 := by cases b <;> decide
theorem Ov (o : Bool) : oh (Oa o ++ [92,90])[0]? := by cases o <;> (intro c e; cases e; decide)
theorem abL {n m : Nat} {s' : St} {j : Int} {ps : List Part} (hl : x.length <= 50000) (hF : FUEL = n + 1 + m) (a : Turns C x h (n + 1) m ⟨5,[],[],none,none,none,none⟩ j ps s') (hj : j = (x.length : Nat)) : ∃ vs t j,cj C ⟨2,[],7,aF⟩ [.bytes x,.int 5] h = .ok (.tup [.lst h.length,.int j]) (h ++ .lst vs :: t) /\ uZ (tl (h.length + 1) t) ps vs := by
 have go := a.go
 rw [<- hF,Yi hl (a.i.trans hj)] at go
 obtain ⟨vs,e1,hv⟩ := a.acc
 obtain ⟨u,e2⟩ := a.t
 refine ⟨vs,u,s'.i,?_,by rw [e2] at hv; exact hv⟩
 rw [aN (by rfl)]
 rw [e1,e2] at go
 unfold yG at go
 simp only [Kd,xT,jA,jD,jB,jC,aF] at go ⊢
 simp at go ⊢
 rw [go]
 simp
theorem Kl (hC : Em C) (hI : vG C) {g o : Bool} {is : List Item} (hok : ∀ it ∈ is,it.ok) (hl : (textOf g o is).length <= 40000) :
  ∃ vs t j,cj C ⟨2,[],7,aF⟩ [.bytes (textOf g o is),.int 5] h = .ok (.tup [.lst h.length,.int j]) (h ++ .lst vs :: t) /\ uZ (tl (h.length + 1) t) (partsOf g o is) vs := by
 have hx : (textOf g o is).drop 5 = VD g ++ (bD is ++ (Oa o ++ [92,90])) := rfl
 generalize textOf g o is = x at hl hx ⊢
 have hn := wG is
 have hx1 := Az hx
 have hx2 := Az hx1
 have hx3 := Az hx2
 have hlen : x.length = 5 + (VD g).length + (bD is).length + (Oa o).length + 2 := Y0 hx3
 have his := Nat.le_trans hn (YQ hlen hl)
 have hl5 : x.length <= 50000 := Nat.le_trans hl (by decide)
 clear hl
 have q3 := Ov o
 have all : ∀ n,∃ s4,Turns C x h n (1 + (b1 o + (is.length + b1 g))) ⟨5,[],[],none,none,none,none⟩ ((x.length : Nat) : Int) (partsOf g o is) s4 := fun n => by
  obtain ⟨s1,a1⟩ := abK (C := C) (h := h) hI hl5 (s := ⟨5,[],[],none,none,none,none⟩) (Nat.zero_le _) rfl hx (yX q3) (n + 1 + b1 o + is.length)
  have l1 := Y4 (a1.len.trans (Nat.zero_add _)) (show (if g then [Part.grp] else []).length <= 1 by cases g <;> decide) his
  obtain ⟨s2,a2,l2⟩ := tU (C := C) (h := h) hC hl5 q3 is s1 _ (n + 1 + b1 o) hok (Nat.le_trans l1 (by decide)) a1.i hx1
  obtain ⟨s3,a3⟩ := abJ (C := C) (h := h) hl5 (s := s2) (l2 ▸ Nat.le_trans l1 (by decide)) a2.i hx2 (show oh ([92,90] : Bs)[0]? from fun c e => by cases e; decide) (n + 1)
  obtain ⟨s4,a4⟩ := JT (C := C) (h := h) (n := n) (s := s3) hl5 (by rw [a3.len,l2]; exact Nat.le_trans (Nat.add_le_add l1 (show (if o then [Part.opt false [(47,47)]] else []).length <= 1 by cases o <;> decide)) (by decide)) a3.i hx3
  have e := ((a1.trans a2).trans a3).trans a4.one
  rw [<- hlen,List.append_assoc,List.append_assoc] at e
  exact ⟨s4,e⟩
 have b2 := Xv g
 have b3 := Xv o
 obtain ⟨n,hF⟩ := G5 b3 his b2
 obtain ⟨s4,a⟩ := all (n + 1)
 exact abL hl5 hF a rfl
end
theorem hup {h t : H} {r : Nat} {c : Cell} (e : h[r]? = some c) : (h ++ t)[r]? = some c := by
 rw [List.getElem?_append_left (List.getElem?_eq_some_iff.mp e).1]; exact e
theorem dB {h : H} {r i : Nat} {vs : List Val} (e : h[r]? = some (.lst vs)) : nx (.lst r) i h = some vs[i]? := by
 show (match h[r]? with | some (.lst vs) => some vs[i]? | _ => none) = _
 rw [e]
@[simp] theorem vh {h : H} {i : Nat} {vs : List Val} : nx (.vals vs) i h = some vs[i]? := rfl
noncomputable def inR (c : UInt8) (m : Mem) : Bool := decide (m.1.toNat <= c.toNat) && decide (c.toNat <= m.2.toNat)
noncomputable def hold (neg : Bool) (rs : List Mem) (c : UInt8) : Bool := if rs.any (inR c) then !neg else neg
structure qM (h : H) (l : Nat) : Prop where
 ex : ∃ as,h[l]? = some (.ns 0 as) /\ as.lookup 0 = some (.bool false)
theorem qM.up {h t : H} {l : Nat} (a : qM h l) : qM (h ++ t) l := by
 obtain ⟨as,e1,e2⟩ := a
 exact ⟨as,hup e1,e2⟩
noncomputable def fY (b : bG) : bG := match b with
 | .cons _ (.cons _ (.cons _ (.cons _ (.cons (.sZ _ _ b) _)))) => b
 | _ => .nil
def JF (C : bK) : Prop := ∀ (h : H) (l r : Nat) (neg : Bool) (rs : List Mem) (c : UInt8),qM h l -> h[r]? = some (.lst (rs.map dh)) -> rs.length <= 50000 ->
 C kh [.inst 0 l,.tup [.bool neg,.lst r],.int c.toNat] h = .ok (.bool (hold neg rs c)) (h ++ [.lst [.int c.toNat]])
theorem GQ {C : bK} {h : H} {a0 a1 : Option Val} {r ol : Nat} {neg : Bool} {rs : List Mem} {c : UInt8} (e : h[r]? = some (.lst (rs.map dh))) (eo : h[ol]? = some (.lst [.int c.toNat])) : ∀ (rest pre : List Mem) (n : Nat) (lo hi one : Option Val),rs = pre ++ rest -> rest.length < n ->
  (rest.any (inR c) = true -> ∃ ls',fr C (qW C [6,7]) (fY aK) (.lst r) n pre.length [a0,a1,some (.int c.toNat),some (.bool neg),some (.lst r),some (.lst ol),lo,hi,one] h = .ok (.ret (.bool !neg)) ls' h) /\
  (rest.any (inR c) = false -> ∃ lo' hi' one',fr C (qW C [6,7]) (fY aK) (.lst r) n pre.length [a0,a1,some (.int c.toNat),some (.bool neg),some (.lst r),some (.lst ol),lo,hi,one] h = .ok .next [a0,a1,some (.int c.toNat),some (.bool neg),some (.lst r),some (.lst ol),lo',hi',one'] h) := by
 intro rest
 induction rest with
 | nil =>
  intro pre n lo hi one hr hn
  obtain ⟨n,rfl⟩ := pW hn
  refine ⟨fun q => by simp at q,fun _ => ⟨lo,hi,one,?_⟩⟩
  rw [cJ,dB e,hr]
  simp
 | cons m rest Xg =>
  intro pre n lo hi one hr hn
  obtain ⟨n,rfl⟩ := pW hn
  have ih := Xg (pre ++ [m]) n (some (.int m.1.toNat)) (some (.int m.2.toNat)) (some (.int c.toNat)) (by simp [hr]) (by simpa using hn)
  have hnx : nx (.lst r) pre.length h = some (some (dh m)) := by rw [dB e,hr]; simp
  have hno : ∀ j,nx (.lst ol) j h = some ([Val.int c.toNat][j]?) := fun j => dB eo
  rw [cJ,hnx]
  simp only [List.any_cons]
  by_cases h1 : m.1.toNat <= c.toNat
  ·by_cases h2 : c.toNat <= m.2.toNat
   ·have hin : inR c m = true := by simp [inR,h1,h2]
    refine ⟨fun _ => ⟨[a0,a1,some (.int c.toNat),some (.bool neg),some (.lst r),some (.lst ol),some (.int m.1.toNat),some (.int m.2.toNat),some (.int c.toNat)],?_⟩,fun q => by simp [hin] at q⟩
    simp [dh,fY,aK]
    rw [fuel2]
    simp [cJ,hno,h1,h2]
   ·have hin : inR c m = false := by simp [inR,h2]
    rw [hin,Bool.false_or]
    have key : kF1 C (qW C [6,7]) (fY aK) (.lst r) n pre.length [a0,a1,some (.int c.toNat),some (.bool neg),some (.lst r),some (.lst ol),lo,hi,one] (some (some (dh m))) h = fr C (qW C [6,7]) (fY aK) (.lst r) n (pre ++ [m]).length [a0,a1,some (.int c.toNat),some (.bool neg),some (.lst r),some (.lst ol),some (.int m.1.toNat),some (.int m.2.toNat),some (.int c.toNat)] h := by
     simp [dh,fY,aK]
     rw [fuel2]
     simp [cJ,hno,h1,h2]
    rw [key]; exact ih
  ·have hin : inR c m = false := by simp [inR,h1]
   rw [hin,Bool.false_or]
   have key : kF1 C (qW C [6,7]) (fY aK) (.lst r) n pre.length [a0,a1,some (.int c.toNat),some (.bool neg),some (.lst r),some (.lst ol),lo,hi,one] (some (some (dh m))) h = fr C (qW C [6,7]) (fY aK) (.lst r) n (pre ++ [m]).length [a0,a1,some (.int c.toNat),some (.bool neg),some (.lst r),some (.lst ol),some (.int m.1.toNat),some (.int m.2.toNat),some (.int c.toNat)] h := by
    simp [dh,fY,aK]
    rw [fuel2]
    simp [cJ,hno,h1]
   rw [key]; exact ih
theorem K8 {C : bK} {h : H} {l r : Nat} {neg : Bool} {rs : List Mem} {c : UInt8} (ho : qM h l) (e : h[r]? = some (.lst (rs.map dh))) (hl : rs.length <= 50000) :
  cj C ⟨3,[],9,aK⟩ [.inst 0 l,.tup [.bool neg,.lst r],.int c.toNat] h = .ok (.bool (hold neg rs c)) (h ++ [.lst [.int c.toNat]]) := by
 obtain ⟨as,e1,e2⟩ := ho.up (t := [.lst [.int c.toNat]])
 have hat : ∀ c',oG 0 (.ok (.inst c' l) (h ++ [.lst [.int c.toNat]])) = .ok (.bool false) (h ++ [.lst [.int c.toNat]]) := fun c' => iw e1 e2
 obtain ⟨A,B⟩ := GQ (C := C) (a0 := some (.inst 0 l)) (a1 := some (.tup [.bool neg,.lst r])) (ol := h.length) (neg := neg) (c := c) (hup (t := [.lst [.int c.toNat]]) e) (by simp) rs [] FUEL none none none rfl (Nat.lt_of_le_of_lt hl (by first | decide | (rw [bL]; decide)))
 rw [aN (by rfl)]
 cases ha : rs.any (inR c) with
 | true =>
  obtain ⟨ls',go⟩ := A ha
  simp only [fY,aK,List.length_nil] at go ⊢
  simp [hat] at go ⊢
  rw [go]
  simp [hold,ha]
 | false =>
  obtain ⟨lo,hi,one,go⟩ := B ha
  simp only [fY,aK,List.length_nil] at go ⊢
  simp [hat] at go ⊢
  rw [go]
  simp [hold,ha]
@[simp] theorem vY {α β : Type} (a : α) (h : H) (f : α -> H -> Res β) : (Res.ok a h).bind f = f a h := rfl
section
variable (C : bK)
noncomputable def Rv (ls : Ls) (c elt : ME) (l : Nat) (x : Val) (h : H) : Res Unit := (jd C (ls ++ [some x]) c h).bind fun b h2 => if b then (aL C (ls ++ [some x]) elt h2).bind fun y h3 => nD l y h3 else .ok () h2
noncomputable def sV (l : Nat) (r : Res Unit) : Res Val := r.ug.bind fun _ h' => .ok (.lst l) h'
noncomputable def Xe (ls : Ls) (c elt : ME) (r : Res Val) : Res Val := r.bind fun v h => match lY v with
  | some src => sV h.length (cH src (Rv C ls c elt h.length) FUEL 0 (h ++ [.lst []]))
  | none => .bad
@[simp] theorem yS (l : Nat) (h : H) : sV l (.ok () h) = .ok (.lst l) h := rfl
@[simp] theorem K4 (ls : Ls) (c elt : ME) (p : Nat) (h : H) : Xe C ls c elt (.ok (.lst p) h) = sV h.length (cH (.lst p) (Rv C ls c elt h.length) FUEL 0 (h ++ [.lst []])) := rfl
@[simp] theorem rC (ls : Ls) (it c elt : ME) (h : H) : aL C ls (.comp it true c elt) h = Xe C ls c elt (aL C ls it h) := rfl
end
noncomputable def nv (n : Nat) : Val := .int (n : Int)
theorem Dt {f : Val -> H -> Res Unit} {g : Nat -> List Val} {h0 : H} {p : Nat} {ps : List Nat} (e : h0[p]? = some (.lst (ps.map nv))) (hg : ∀ q,(g q).length <= 1) (hf : ∀ q acc t,acc.length <= 60000 -> ∃ u,f (nv q) (h0 ++ .lst acc :: t) = .ok () (h0 ++ .lst (acc ++ g q) :: (t ++ u))) :
  ∀ (rest pre : List Nat) (n : Nat) (acc : List Val) (t : H),ps = pre ++ rest -> rest.length < n -> acc.length + rest.length <= 60000 ->
   ∃ u,cH (.lst p) f n pre.length (h0 ++ .lst acc :: t) = .ok () (h0 ++ .lst (acc ++ rest.flatMap g) :: (t ++ u)) := by
 intro rest
 induction rest with
 | nil =>
  intro pre n acc t hr hn ha
  obtain ⟨n,rfl⟩ := pW hn
  refine ⟨[],?_⟩
  rw [pC (by rw [dB (hup e),hr]; simp)]
  simp
 | cons q rest Xg =>
  intro pre n acc t hr hn ha
  obtain ⟨n,rfl⟩ := pW hn
  obtain ⟨u,hu⟩ := hf q acc t (by lia)
  have hgq := hg q
  obtain ⟨u',hu'⟩ := Xg (pre ++ [q]) n (acc ++ g q) (t ++ u) (by simp [hr]) (by simpa using hn) (by simp at ha ⊢; lia)
  refine ⟨u ++ u',?_⟩
  have hnx : nx (.lst p) pre.length (h0 ++ .lst acc :: t) = some (some (nv q)) := by rw [dB (hup e),hr]; simp
  rw [mH hnx,hu]
  simp at hu' ⊢
  exact hu'
theorem lZ {h t : H} {acc : List Val} {y : Val} (e : acc.length <= 60000) : nD h.length y (h ++ .lst acc :: t) = .ok () (h ++ .lst (acc ++ [y]) :: t) := by
 unfold nD
 rw [eG (iV (by lia))]
 rfl
noncomputable def Am (b : Bool) (q : Nat) : List Val := if q = 0 /\ b = true then [nv 1] else []
noncomputable def La (q : Nat) : List Val := if q = 1 then [nv 1] else []
def pO (C : bK) : Prop := ∀ (h : H) (l r p : Nat) (neg : Bool) (rs : List Mem) (c : UInt8) (ps : List Nat),qM h l -> h[r]? = some (.lst (rs.map dh)) -> rs.length <= 50000 -> h[p]? = some (.lst (ps.map nv)) -> ps.length <= 50000 ->
 ∃ t,C bM [.inst 0 l,.str "octet",.tup [.bool neg,.lst r],.bytes [c],.lst p] h = .ok (.lst h.length) (h ++ .lst (ps.flatMap (Am (hold neg rs c))) :: t)
theorem Oc {C : bK} (hC : JF C) {h : H} {l r p : Nat} {neg : Bool} {rs : List Mem} {c : UInt8} {ps : List Nat} (ho : qM h l) (e : h[r]? = some (.lst (rs.map dh))) (hl : rs.length <= 50000) (ep : h[p]? = some (.lst (ps.map nv))) (hp : ps.length <= 50000) :
  ∃ t,cj C ⟨5,[],5,bO⟩ [.inst 0 l,.str "octet",.tup [.bool neg,.lst r],.bytes [c],.lst p] h = .ok (.lst h.length) (h ++ .lst (ps.flatMap (Am (hold neg rs c))) :: t) := by
 have hb : (([c] : Bs).length) <= bH := lim (by simp)
 obtain ⟨u,hu⟩ := Dt (f := Rv C [some (.inst 0 l),some (.str "octet"),some (.tup [.bool neg,.lst r]),some (.bytes [c]),some (.lst p)] (.and (.cmp .lt (.var 5) (.cg .eX (.cons (.var 3) .nil))) (.meth (.var 0) .sX (.cons (.var 2) (.cons (.idx (.var 3) (.var 5)) .nil)))) (.bin .add (.var 5) (.aq 1)) h.length) (g := Am (hold neg rs c)) ep
  (fun q => by unfold Am; split <;> simp) (fun q acc t ha => by
   obtain ⟨as,e1,e2⟩ := ho.up (t := .lst acc :: t)
   have hm := fun es ls => fW C ls (m := .sX) (es := es) (c := 0) (f := kh) rfl e1
   have hh := hC (h ++ .lst acc :: t) l r neg rs c ho.up (hup e) hl
   have hi : ∀ h : H,bW (.bytes [c]) (.int 0) h = .ok (.int c.toNat) h := fun h => bB _ (k := 0) rfl rfl hb
   have hlen : ∀ h : H,iU .eX [.bytes [c]] h = .ok (.int 1) h := fun h => bA _ hb
   by_cases hq : q = 0
   ·subst hq
    cases hh' : hold neg rs c with
    | true =>
     rw [hh'] at hh
     refine ⟨[.lst [.int c.toNat]],?_⟩
     simp [Rv,nv,hlen,hm,hi,hh,Am,lZ ha]
    | false =>
     rw [hh'] at hh
     refine ⟨[.lst [.int c.toNat]],?_⟩
     simp [Rv,nv,hlen,hm,hi,hh,Am]
   ·refine ⟨[],?_⟩
    simp [Rv,nv,hlen,Am,hq,show ¬ ((q : Int) < 1) by lia]) ps [] FUEL [] [] rfl (Nat.lt_of_le_of_lt hp (by first | decide | (rw [bL]; decide))) (by simp; lia)
 refine ⟨u,?_⟩
 rw [aN (by rfl)]
 simp [bO] at hu ⊢
 rw [hu]
 simp
def zK (C : bK) : Prop := ∀ (h : H) (l p : Nat) (wh : Val) (c : UInt8) (ps : List Nat),h[p]? = some (.lst (ps.map nv)) -> ps.length <= 50000 ->
 ∃ t,C bM [.inst 0 l,.str "end",wh,.bytes [c],.lst p] h = .ok (.lst h.length) (h ++ .lst (ps.flatMap La) :: t)
theorem Od {C : bK} {h : H} {l p : Nat} {wh : Val} {c : UInt8} {ps : List Nat} (ep : h[p]? = some (.lst (ps.map nv))) (hp : ps.length <= 50000) :
  ∃ t,cj C ⟨5,[],5,bO⟩ [.inst 0 l,.str "end",wh,.bytes [c],.lst p] h = .ok (.lst h.length) (h ++ .lst (ps.flatMap La) :: t) := by
 have hb : (([c] : Bs).length) <= bH := lim (by simp)
 obtain ⟨u,hu⟩ := Dt (f := Rv C [some (.inst 0 l),some (.str "end"),some wh,some (.bytes [c]),some (.lst p)] (.cmp .eq (.var 5) (.cg .eX (.cons (.var 3) .nil))) (.var 5) h.length) (g := La) ep
  (fun q => by unfold La; split <;> simp) (fun q acc t ha => by
   have hlen : ∀ h : H,iU .eX [.bytes [c]] h = .ok (.int 1) h := fun h => bA _ hb
   refine ⟨[],?_⟩
   by_cases hq : q = 1
   ·subst hq
    simp [Rv,nv,hlen,La,lZ ha]
   ·simp [Rv,nv,hlen,La,hq,show ¬ ((q : Int) = 1) by lia]) ps [] FUEL [] [] rfl (Nat.lt_of_le_of_lt hp (by first | decide | (rw [bL]; decide))) (by simp; lia)
 refine ⟨u,?_⟩
 rw [aN (by rfl)]
 simp [bO] at hu ⊢
 rw [hu]
 simp
theorem Gd {C : bK} {h : H} {l p : Nat} {wh : Val} {c : UInt8} :
  cj C ⟨5,[],5,bO⟩ [.inst 0 l,.str "never",wh,.bytes [c],.lst p] h = .ok (.lst h.length) (h ++ [.lst []]) := by
 rw [aN (by rfl)]
 simp [bO]
theorem Ge {C : bK} {h h' : H} {l p g : Nat} {c : UInt8} {v : Val} (e : ∃ as,h[l]? = some (.ns 0 as)) (hc : C dW [.inst 0 l,.lst g,.bytes [c],.lst p] h = .ok v h') :
  cj C ⟨5,[],5,bO⟩ [.inst 0 l,.str "group",.lst g,.bytes [c],.lst p] h = .ok v h' := by
 obtain ⟨as,e1⟩ := e
 have hm := fun es ls => fW C ls (m := .wX) (es := es) (c := 0) (f := dW) rfl e1
 rw [aN (by rfl)]
 simp [bO,hm,hc]
noncomputable def fG : bG := match aV with
 | .cons (.sZ _ _ b) _ => b
 | _ => .nil
noncomputable abbrev Xm := (bV fG).1
noncomputable abbrev VN := (bV fG).2
structure EnA where
 l : Nat
 pa : Val
 na : Val
 kind : Val
 what : Val
 least : Val
 most : Val
noncomputable def uV (A : EnA) (pl : Val) (a b c d e : Option Val) : Ls := [some (.inst 0 A.l),some A.pa,some A.na,some pl,some A.kind,some A.what,some A.least,some A.most,a,b,c,d,e]
inductive Rnd (A : EnA) (h : H) (pl : Val) (m : Int) (w : SR) (D qs : List Nat) : Prop where
 | mk (t' : H) (d' : Nat) (y' : Option Val) (g : w = .ok .next (uV A pl (some (.lst d')) (some (.lst h.length)) (some (.int (m + 1))) (some (.lst h.length)) y') (h ++ t')) (e : (h ++ t')[d']? = some (.lst ((D ++ qs).map nv))) (k : (h ++ t')[h.length]? = some (.lst (qs.map nv))) : Rnd A h pl m w D qs
section
variable {C : bK} {h : H} {A : EnA} {pl : Val}
theorem round0 {d w f : Nat} {D : List Nat} {m : Int} {x y : Option Val} {t : H} (ho : ∃ as,h[A.l]? = some (.ns 0 as)) (hd : h[d]? = some (.lst (D.map nv))) (hD : D.length <= 100)
  (hO : C bM [.inst 0 A.l,A.kind,A.what,A.na,.lst w] (h ++ [.lst []]) = .ok (.lst f) (h ++ .lst [] :: t)) (hf : (h ++ .lst [] :: t)[f]? = some (.lst [])) : Rnd A h pl m (dz C VN (uV A pl (some (.lst d)) (some (.lst w)) (some (.int m)) x y) h) D [] := by
 obtain ⟨as,e1⟩ := ho
 have hm := fun es ls t => fW C ls (m := .yL) (es := es) (c := 0) (f := bM) (h := h ++ t) rfl (hup e1)
 have hadd : gY .add (.lst d) (.lst h.length) (h ++ .lst [] :: t) = .ok (.lst (h ++ .lst [] :: t).length) (h ++ .lst [] :: t ++ [.lst (D.map nv ++ [])]) := zQ _ (hup hd) (by simp) (lim (by simp; lia))
 have hnx : nx (.lst f) 0 (h ++ .lst [] :: t) = some none := by rw [dB hf]; rfl
 refine ⟨.lst [] :: (t ++ [.lst (D.map nv)]),h.length + (t.length + 1),y,?_,by simp,by simp⟩
 simp only [VN,fG,jA,jD,jB,jC,aV]
 simp [uV,hm,hO]
 rw [fuel1]
 simp [cJ,hnx,hadd]
theorem Ou {d : Nat} {D : List Nat} {h : H} (hd : h[d]? = some (.lst (D.map nv))) (h1 : 1 ∉ D) : tR h (nv 1) (.lst d) = some false := by
 show tR _ (.int 1) _ = _
 rw [Bu _ hd]
 clear hd
 induction D with
 | nil => rfl
 | cons a D ih =>
  simp at h1
  have : ¬ (a : Int) = 1 := by lia
  have hr := ih h1.2
  simp [nv,this] at hr ⊢
  rw [hr]
theorem Yj {d w f : Nat} {D : List Nat} {m : Int} {x y : Option Val} {t : H} (ho : ∃ as,h[A.l]? = some (.ns 0 as)) (hd : h[d]? = some (.lst (D.map nv))) (hD : D.length <= 100) (hne : h.length < f) (h1 : 1 ∉ D)
  (hO : C bM [.inst 0 A.l,A.kind,A.what,A.na,.lst w] (h ++ [.lst []]) = .ok (.lst f) (h ++ .lst [] :: t)) (hf : (h ++ .lst [] :: t)[f]? = some (.lst [nv 1])) : Rnd A h pl m (dz C VN (uV A pl (some (.lst d)) (some (.lst w)) (some (.int m)) x y) h) D [1] := by
 obtain ⟨as,e1⟩ := ho
 have hm := fun es ls t => fW C ls (m := .yL) (es := es) (c := 0) (f := bM) (h := h ++ t) rfl (hup e1)
 have af6 : tR (h ++ .lst [] :: t) (nv 1) (.lst d) = some false := Ou (hup hd) h1
 have af5 : tR (h ++ .lst [] :: t) (nv 1) (.lst h.length) = some false := Ou (D := []) (bC _ _ _) nofun
 have hf2 : (h ++ .lst [nv 1] :: t)[f]? = some (.lst [nv 1]) := by
  rw [<- hf,List.getElem?_append_right (by lia),List.getElem?_append_right (by lia)]
  rw [show f - h.length = (f - h.length - 1) + 1 by lia]; rfl
 have hadd : gY .add (.lst d) (.lst h.length) (h ++ .lst [nv 1] :: t) = .ok (.lst (h ++ .lst [nv 1] :: t).length) (h ++ .lst [nv 1] :: t ++ [.lst (D.map nv ++ [nv 1])]) := zQ _ (hup hd) (by simp) (lim (by simp; lia))
 have af0 : nx (.lst f) 0 (h ++ .lst [] :: t) = some (some (nv 1)) := by rw [dB hf]; rfl
 have afZ : nx (.lst f) 1 (h ++ .lst [nv 1] :: t) = some none := by rw [dB hf2]; rfl
 refine ⟨.lst [nv 1] :: (t ++ [.lst (D.map nv ++ [nv 1])]),h.length + (t.length + 1),some (nv 1),?_,by simp,by simp⟩
 simp only [VN,fG,jA,jD,jB,jC,aV]
 simp [uV,hm,hO]
 rw [fuel2]
 simp [cJ,af0,afZ,af6,af5,hadd,eG (iV (show ([] : List Val).length <= 100000 by simp))]
def m7 (C : bK) (h : H) (A : EnA) (P qs : List Nat) : Prop := ∀ (t0 : H) (w : Nat),(h ++ t0)[w]? = some (.lst (P.map nv)) -> ∃ f t,C bM [.inst 0 A.l,A.kind,A.what,A.na,.lst w] (h ++ t0) = .ok (.lst f) (h ++ t0 ++ t) /\ (h ++ t0 ++ t)[f]? = some (.lst (qs.map nv)) /\ (qs = [] \/ (h ++ t0).length <= f)
theorem m7.up {P qs : List Nat} (a : m7 C h A P qs) (t : H) : m7 C (h ++ t) A P qs := by
 intro t0 w hw
 have := a (t ++ t0) w (by rw [<- List.append_assoc]; exact hw)
 simpa only [List.append_assoc] using this
theorem Fz {d w : Nat} {D P qs : List Nat} {m : Int} {x y : Option Val} (ho : ∃ as,h[A.l]? = some (.ns 0 as)) (hd : h[d]? = some (.lst (D.map nv))) (hD : D.length <= 100) (hw : h[w]? = some (.lst (P.map nv))) (hO : m7 C h A P qs) (hqs : qs = [] \/ (qs = [1] /\ 1 ∉ D)) :
  Rnd A h pl m (dz C VN (uV A pl (some (.lst d)) (some (.lst w)) (some (.int m)) x y) h) D qs := by
 obtain ⟨f,t,a,b,c⟩ := hO [.lst []] w (hup hw)
 rw [List.append_assoc,List.singleton_append] at a b
 rcases hqs with rfl | ⟨rfl,q⟩
 ·exact round0 ho hd hD a b
 ·rcases c with c | c
  ·cases c
  ·exact Yj ho hd hD (by simp at c; lia) q a b
inductive Mid (A : EnA) (h : H) (w : SR) (Q : List Nat) : Prop where
 | mk (t : H) (p' : Nat) (a b c d e : Option Val) (g : w = .ok .next (uV A (.lst p') a b c d e) (h ++ t)) (hp : (h ++ t)[p']? = some (.lst (Q.map nv))) : Mid A h w Q
theorem Mid.fin {h t : H} {p' : Nat} {pl : Val} {b c d e : Option Val} {Q : List Nat} (hp : (h ++ t)[p']? = some (.lst (Q.map nv))) : Mid A h (kB C (.cons (.assign (.var 3) (.var 8)) .nil) (.ok .next (uV A pl (some (.lst p')) b c d e) (h ++ t))) Q := ⟨t,p',some (.lst p'),b,c,d,e,by simp [uV],hp⟩
theorem G9 {a : Option Val} {f : Nat} {D : List Nat} {m : Int} {x y : Option Val} {h : H} {b : Bool} (e : h[f]? = some (.lst (D.map nv))) (hl : D.length <= 100) (hm : A.most = .int 1) (hb : (b = true) = (D ≠ [] /\ m < 1)) : jd C (uV A pl a (some (.lst f)) (some (.int m)) x y) Xm h = .ok b h := by
 have k := Iv f (D.map nv) h e (lim (by rw [List.length_map]; lia))
 simp only [Xm,fG,jA,jD,jB,jC,aV]
 cases D with
 | nil =>
  have : b = false := by cases b with | false => rfl | true => exact absurd rfl (hb.mp rfl).1
  subst this
  rw [show (([] : List Nat).map nv).isEmpty = true from rfl] at k
  simp [uV,k]
 | cons q D =>
  rw [show ((q :: D).map nv).isEmpty = false from rfl] at k
  have hb : b = decide (m < 1) := by
   cases b with
   | true => exact (decide_eq_true (hb.mp rfl).2).symm
   | false => exact (decide_eq_false fun h => Bool.false_ne_true (hb.mpr ⟨by simp,h⟩)).symm
  simp [uV,k,hm,hb]
theorem part1 {p : Nat} {P qs : List Nat} {lz : Bool} {a b c d e : Option Val} (hlz : A.least = .int (if lz then 0 else 1)) (hmo : A.most = .int 1) (ho : ∃ as,h[A.l]? = some (.ns 0 as)) (hp : h[p]? = some (.lst (P.map nv))) (hP : P.length <= 100) (hO : m7 C h A P qs) (hqs : qs = [] \/ (qs = [1] /\ (lz = true -> 1 ∉ P))) :
  Mid A h (dz C fG (uV A (.lst p) a b c d e) h) ((if lz then P else []) ++ (if P = [] then [] else qs)) := by
 have hls : ∀ t : H,iU .pX [.lst p] (h ++ t) = .ok (.lst (h ++ t).length) (h ++ t ++ [.lst (P.map nv)]) := fun t => HS _ (hup hp) (lim (by simp; lia))
 have GX := hls []
 rw [List.append_nil] at GX
 obtain ⟨D0,hD0⟩ : ∃ D0 : List Nat,D0 = if lz then P else [] := ⟨_,rfl⟩
 have start : dz C fG (uV A (.lst p) a b c d e) h = kB C (.cons (.assign (.var 3) (.var 8)) .nil) (wh C Xm VN FUEL (uV A (.lst p) (some (.lst h.length)) (some (.lst (h.length + 1))) (some (.int 0)) d e) (h ++ [.lst (D0.map nv),.lst (P.map nv)])) := by
  simp only [Xm,VN,fG,jA,jD,jB,jC,aV,hD0]
  cases lz <;> simp [uV,hlz,hls,GX]
 rw [start,<- hD0]
 clear start hls GX hlz
 have hDl : D0.length <= 100 := by rw [hD0]; split <;> simp [hP]
 have hq : qs = [] \/ (qs = [1] /\ 1 ∉ D0) := hqs.imp_right fun ⟨q,r⟩ => ⟨q,by
  rw [hD0]; split
  ·exact r (by assumption)
  ·exact nofun⟩
 clear hD0 hqs hp
 have hw2 : (h ++ [.lst (D0.map nv),.lst (P.map nv)])[h.length + 1]? = some (.lst (P.map nv)) := qC _ _ _ _
 have hd2 : (h ++ [.lst (D0.map nv),.lst (P.map nv)])[h.length]? = some (.lst (D0.map nv)) := bC _ _ _
 have hO := hO.up [.lst (D0.map nv),.lst (P.map nv)]
 have ho2 : ∃ as,(h ++ [.lst (D0.map nv),.lst (P.map nv)])[A.l]? = some (.ns 0 as) := let ⟨as,x⟩ := ho; ⟨as,hup x⟩
 rw [fuel2,aH]
 by_cases hP0 : P = []
 ·rw [G9 hw2 hP hmo (b := false) (by simp [hP0]),Qh]
  exact .fin (by rw [if_pos hP0,List.append_nil]; exact hd2)
 ·rw [G9 hw2 hP hmo (b := true) (by simp [hP0]),CV]
  obtain ⟨t,d',y',e1,e2,e3⟩ := Fz (C := C) (A := A) (pl := .lst p) (m := 0) (x := d) (y := e) ho2 hd2 hDl hw2 hO hq
  rw [e1,oF,aH,G9 e3 (by rcases hq with q | ⟨q,_⟩ <;> simp [q]) hmo (b := false) (by simp),Qh]
  rw [List.append_assoc] at e2 ⊢
  rw [if_neg hP0]
  exact .fin e2
end
section
variable {C : bK} {h : H} {A : EnA}
theorem Ax {pl : Val} {a : Option Val} {f : Nat} {D : List Nat} {m : Int} {x y : Option Val} {h : H} (e : h[f]? = some (.lst (D.map nv))) (hl : D.length <= 100) (hm : A.most = .none) : jd C (uV A pl a (some (.lst f)) (some (.int m)) x y) Xm h = .ok (!D.isEmpty) h := by
 have k := Iv f (D.map nv) h e (lim (by rw [List.length_map]; lia))
 simp only [Xm,fG,jA,jD,jB,jC,aV]
 cases D with
 | nil =>
  rw [show (([] : List Nat).map nv).isEmpty = true from rfl] at k
  simp [uV,k]
 | cons q D =>
  rw [show ((q :: D).map nv).isEmpty = false from rfl] at k
  simp [uV,k,hm]
theorem star {p : Nat} {a b c d e : Option Val} (hle : A.least = .int 0) (hmo : A.most = .none) (ho : ∃ as,h[A.l]? = some (.ns 0 as)) (hp : h[p]? = some (.lst ([0].map nv))) (hO : m7 C h A [0] [1]) (hO1 : m7 C h A [1] []) : Mid A h (dz C fG (uV A (.lst p) a b c d e) h) [0,1] := by
 have hls : ∀ t : H,iU .pX [.lst p] (h ++ t) = .ok (.lst (h ++ t).length) (h ++ t ++ [.lst [nv 0]]) := fun t => HS _ (hup hp) (lim (by simp))
 have GX := hls []
 rw [List.append_nil] at GX
 have start : dz C fG (uV A (.lst p) a b c d e) h = kB C (.cons (.assign (.var 3) (.var 8)) .nil) (wh C Xm VN FUEL (uV A (.lst p) (some (.lst h.length)) (some (.lst (h.length + 1))) (some (.int 0)) d e) (h ++ [.lst ([0].map nv),.lst ([0].map nv)])) := by
  simp only [Xm,VN,fG,jA,jD,jB,jC,aV]
  simp [uV,hle,hls,GX]
 rw [start]
 have hw2 : (h ++ [.lst ([0].map nv),.lst ([0].map nv)])[h.length + 1]? = some (.lst ([0].map nv)) := qC _ _ _ _
 have hd2 : (h ++ [.lst ([0].map nv),.lst ([0].map nv)])[h.length]? = some (.lst ([0].map nv)) := bC _ _ _
 have hO := hO.up [.lst ([0].map nv),.lst ([0].map nv)]
 have hO1 := hO1.up [.lst ([0].map nv),.lst ([0].map nv)]
 have up : ∀ {h t : H},(∃ as,h[A.l]? = some (.ns 0 as)) -> ∃ as,(h ++ t)[A.l]? = some (.ns 0 as) := fun ⟨as,x⟩ => ⟨as,hup x⟩
 clear start hls GX hp
 rw [show FUEL = FUEL - 3 + 1 + 1 + 1 by have := bL; lia,aH,Ax hw2 (by decide) hmo,show (!([0] : List Nat).isEmpty) = true from rfl,CV]
 obtain ⟨t,d',y',e1,e2,e3⟩ := Fz (C := C) (A := A) (pl := .lst p) (m := 0) (x := d) (y := e) (up ho) hd2 (by decide) hw2 hO (.inr ⟨rfl,by decide⟩)
 rw [e1,oF,aH,Ax e3 (by decide) hmo,show (!([1] : List Nat).isEmpty) = true from rfl,CV]
 obtain ⟨t2,d2,y2,f1,f2,f3⟩ := Fz (C := C) (A := A) (pl := .lst p) (D := [0,1]) (m := 0 + 1) (x := some (.lst (h ++ [Cell.lst ([0].map nv),Cell.lst ([0].map nv)]).length)) (y := y') (up (up ho)) e2 (by decide) e3 (hO1.up _) (.inl rfl)
 rw [f1,oF,aH,Ax f3 (by decide) hmo,show (!([] : List Nat).isEmpty) = false from rfl,Qh]
 rw [List.append_assoc,List.append_assoc] at f2 ⊢
 exact .fin f2
noncomputable def slash : List Mem := [(47,47)]
theorem qz {c : UInt8} (h : c ≠ 47) : hold false [(47,47)] c = false := by
 have : ¬ (47 <= c.toNat /\ c.toNat <= 47) := by
  rintro ⟨h1,h2⟩
  exact h (UInt8.toNat_inj.mp (show c.toNat = (47 : UInt8).toNat by have : (47 : UInt8).toNat = 47 := rfl; lia))
 have h3 : inR c (47,47) = false := by
  cases hh : inR c (47,47) with
  | false => rfl
  | true =>
   exfalso
   apply this
   unfold inR at hh
   simp only [Bool.and_eq_true,decide_eq_true_eq] at hh
   exact hh
 simp [hold,h3]
theorem Q8 (c : UInt8) : hold true [] c = true := rfl
theorem jP (hC : pO C) {l r : Nat} {neg : Bool} {rs : List Mem} {c : UInt8} {P : List Nat} {pa le mo : Val} (ho : qM h l) (e : h[r]? = some (.lst (rs.map dh))) (hl : rs.length <= 50000) (hP : P.length <= 100) :
  m7 C h ⟨l,pa,.bytes [c],.str "octet",.tup [.bool neg,.lst r],le,mo⟩ P (P.map (fun q => if q = 0 /\ hold neg rs c = true then [1] else [])).flatten := by
 intro t0 w hw
 obtain ⟨t,ht⟩ := hC (h ++ t0) l r w neg rs c P ho.up (hup e) hl hw (by lia)
 have hm : P.flatMap (Am (hold neg rs c)) = (P.map (fun q => if q = 0 /\ hold neg rs c = true then [1] else [])).flatten.map nv := by
  clear hw hP ht
  induction P with
  | nil => rfl
  | cons q P ih =>
   simp only [List.flatMap_cons,List.map_cons,List.flatten_cons,List.map_append,ih]
   congr 1
   unfold Am
   split <;> rfl
 refine ⟨_,_,ht,?_,.inr (Nat.le_refl _)⟩
 rw [bC,hm]
end
section
variable {C : bK} {h : H} {l g : Nat} {c : UInt8}
noncomputable abbrev pt (C : bK) := qW C [4,5,6,7]
theorem Lh {n i : Nat} {s0 s1 s2 s3 k0 w0 l0 m0 a b d e f : Option Val} {kind what least most : Val} (hnx : nx (.lst g) i h = some (some (.tup [kind,what,least,most]))) :
  fr C (pt C) fG (.lst g) (n + 1) i [s0,s1,s2,s3,k0,w0,l0,m0,a,b,d,e,f] h = S6 C (pt C) fG (.lst g) n (i + 1) (dz C fG [s0,s1,s2,s3,some kind,some what,some least,some most,a,b,d,e,f] h) := by
 rw [cJ,hnx]
 simp [pt]
def pP (h : H) (w : Res Val) (Q : List Nat) : Prop := ∃ p' t,w = .ok (.lst p') (h ++ t) /\ (h ++ t)[p']? = some (.lst (Q.map nv))
noncomputable def ZQ (l p : Nat) (pa na : Val) (k0 w0 l0 m0 a b d e f : Option Val) : Ls := [some (.inst 0 l),some pa,some na,some (.lst p),k0,w0,l0,m0,a,b,d,e,f]
inductive Mg (l : Nat) (pa na : Val) (h : H) (w : SR) (Q : List Nat) : Prop where
 | mk (t : H) (p' : Nat) (k0 w0 l0 m0 a b d e f : Option Val) (g : w = .ok .next (ZQ l p' pa na k0 w0 l0 m0 a b d e f) (h ++ t)) (hp : (h ++ t)[p']? = some (.lst (Q.map nv))) : Mg l pa na h w Q
theorem Mg.end_ {l p : Nat} {Q : List Nat} (m : Mg l (.lst g) (.bytes [c]) h (fr C (pt C) fG (.lst g) FUEL 0 (ZQ l p (.lst g) (.bytes [c]) none none none none none none none none none) h) Q) : pP h (cj C ⟨4,[],13,aV⟩ [.inst 0 l,.lst g,.bytes [c],.lst p] h) Q := by
 obtain ⟨t,p',k0,w0,l0,m0,a,b,d,e,f,go,hp⟩ := m
 refine ⟨p',t,?_,hp⟩
 rw [aN (by rfl)]
 simp only [pt,fG,aV,ZQ] at go ⊢
 simp at go ⊢
 rw [go]
 simp
theorem Mg.step {l n i p : Nat} {pa na v kind what least most : Val} {k0 w0 l0 m0 a b d e f : Option Val} {P Q : List Nat} (hv : v = .tup [kind,what,least,most]) (hnx : nx (.lst g) i h = some (some v)) (m : Mid ⟨l,pa,na,kind,what,least,most⟩ h (dz C fG (uV ⟨l,pa,na,kind,what,least,most⟩ (.lst p) a b d e f) h) P)
  (k : ∀ t p' k0 w0 l0 m0 a b d e f,(h ++ t)[p']? = some (.lst (P.map nv)) -> Mg l pa na (h ++ t) (fr C (pt C) fG (.lst g) n (i + 1) (ZQ l p' pa na k0 w0 l0 m0 a b d e f) (h ++ t)) Q) : Mg l pa na h (fr C (pt C) fG (.lst g) (n + 1) i (ZQ l p pa na k0 w0 l0 m0 a b d e f) h) Q := by
 obtain ⟨t,p',a',b',c',d',e',go,hp⟩ := m
 obtain ⟨t2,p2,x1,x2,x3,x4,y1,y2,y3,y4,y5,go2,hp2⟩ := k t p' (some kind) (some what) (some least) (some most) a' b' c' d' e' hp
 subst hv
 rw [List.append_assoc] at go2 hp2
 refine ⟨t ++ t2,p2,x1,x2,x3,x4,y1,y2,y3,y4,y5,?_,hp2⟩
 show fr C (pt C) fG (.lst g) (n + 1) i [some (.inst 0 l),some pa,some na,some (.lst p),k0,w0,l0,m0,a,b,d,e,f] h = _
 rw [Lh hnx]
 refine (congrArg (S6 C (pt C) fG (.lst g) n (i + 1)) go).trans ?_
 rw [Qy]
 exact go2
theorem Mg.nil {l n i p : Nat} {pa na : Val} {k0 w0 l0 m0 a b d e f : Option Val} {P : List Nat} (hnx : nx (.lst g) i h = some none) (hp : h[p]? = some (.lst (P.map nv))) : Mg l pa na h (fr C (pt C) fG (.lst g) (n + 1) i (ZQ l p pa na k0 w0 l0 m0 a b d e f) h) P := by
 refine ⟨[],p,k0,w0,l0,m0,a,b,d,e,f,?_,by rw [List.append_nil]; exact hp⟩
 rw [cJ,hnx,Ah,List.append_nil]
noncomputable def Zt (r1 r2 : Nat) : List Val := [.tup [.str "octet",.tup [.bool true,.lst r1],.int 0,.none],.tup [.str "octet",.tup [.bool false,.lst r2],.int 1,.int 1]]
structure Inn (h : H) (l g p r1 r2 : Nat) (c : UInt8) : Prop where
 ho : qM h l
 hc : c ≠ 47
 hg : h[g]? = some (.lst (Zt r1 r2))
 h1 : h[r1]? = some (.lst [])
 h2 : h[r2]? = some (.lst [dh (47,47)])
 hp : h[p]? = some (.lst ([0].map nv))
def El (C : bK) : Prop := ∀ (h : H) (l g p r1 r2 : Nat) (c : UInt8),Inn h l g p r1 r2 c -> pP h (C dW [.inst 0 l,.lst g,.bytes [c],.lst p] h) []
theorem G8 (hC : pO C) {p r1 r2 : Nat} (a : Inn h l g p r1 r2 c) : pP h (cj C ⟨4,[],13,aV⟩ [.inst 0 l,.lst g,.bytes [c],.lst p] h) [] := by
 obtain ⟨ho,hc,hg,h1,h2,hp⟩ := a
 have ex : ∀ t : H,∃ as,(h ++ t)[l]? = some (.ns 0 as) := fun t => by obtain ⟨as,a,_⟩ := ho.up (t := t); exact ⟨as,a⟩
 have ex0 : ∃ as,h[l]? = some (.ns 0 as) := by obtain ⟨as,a,_⟩ := ho; exact ⟨as,a⟩
 have O1 := jP hC (h := h) (l := l) (r := r1) (neg := true) (rs := []) (c := c) (P := [0]) (pa := .lst g) (le := .int 0) (mo := .none) ho h1 (by simp) (by simp)
 have O2 := jP hC (h := h) (l := l) (r := r1) (neg := true) (rs := []) (c := c) (P := [1]) (pa := .lst g) (le := .int 0) (mo := .none) ho h1 (by simp) (by simp)
 have O3 := jP hC (h := h) (l := l) (r := r2) (neg := false) (rs := [(47,47)]) (c := c) (P := [0,1]) (pa := .lst g) (le := .int 1) (mo := .int 1) ho h2 (by simp) (by simp)
 rw [show (([0] : List Nat).map (fun q => if q = 0 /\ hold true [] c = true then [1] else [])).flatten = [1] by simp [Q8]] at O1
 rw [show (([1] : List Nat).map (fun q => if q = 0 /\ hold true [] c = true then [1] else [])).flatten = [] by simp] at O2
 rw [show (([0,1] : List Nat).map (fun q => if q = 0 /\ hold false [(47,47)] c = true then [1] else [])).flatten = [] by simp [qz hc]] at O3
 refine Mg.end_ ?_
 rw [show FUEL = FUEL - 3 + 1 + 1 + 1 by have := bL; lia]
 refine Mg.step (i := 0) (P := [0,1]) rfl (by rw [dB hg]; rfl) (star rfl rfl ex0 hp O1 O2) fun t p1 k0 w0 l0 m0 a b d e f q1 => ?_
 refine Mg.step (i := 1) (P := []) rfl (by rw [dB (hup hg)]; rfl) (part1 (lz := false) (qs := []) rfl rfl (ex t) q1 (by simp) (O3.up t) (.inl rfl)) fun t2 p2 k0 w0 l0 m0 a b d e f q2 => ?_
 exact Mg.nil (by rw [dB (hup (hup hg))]; rfl) q2
noncomputable def gZ (c : UInt8) : Part -> List Nat -> List Nat
 | .oct neg rs,P => if P = [0] /\ hold neg rs c = true then [1] else []
 | .opt _ _,P => P
 | .never,_ => []
 | .stop,P => if P = [1] then [1] else []
 | .grp,P => P
noncomputable def okP (c : UInt8) : Part -> List Nat -> Prop
 | .oct _ rs,_ => rs.length <= 50000
 | .opt neg rs,_ => rs.length <= 50000 /\ hold neg rs c = false
 | .grp,P => P = [0] /\ c ≠ 47
 | _,_ => True
noncomputable def n8 (c : UInt8) : List Part -> List Nat -> Prop
 | [],_ => True
 | p :: ps,P => okP c p P /\ n8 c ps (gZ c p P)
noncomputable def jy (c : UInt8) : List Part -> List Nat -> List Nat
 | [],P => P
 | p :: ps,P => jy c ps (gZ c p P)
def wR (P : List Nat) : Prop := P = [] \/ P = [0] \/ P = [1]
theorem Dy {p : Part} {P : List Nat} (h : wR P) : wR (gZ c p P) := by
 cases p with
 | oct neg rs =>
  show wR (if P = [0] /\ hold neg rs c = true then [1] else [])
  split
  ·exact .inr (.inr rfl)
  ·exact .inl rfl
 | opt neg rs => exact h
 | never => exact .inl rfl
 | stop =>
  show wR (if P = [1] then [1] else [])
  split
  ·exact .inr (.inr rfl)
  ·exact .inl rfl
 | grp => exact h
def uJ (C : bK) : Prop := ∀ (h : H) (l p : Nat) (wh : Val) (c : UInt8),C bM [.inst 0 l,.str "never",wh,.bytes [c],.lst p] h = .ok (.lst h.length) (h ++ [.lst []])
def zJ (C : bK) : Prop := ∀ (h : H) (l g p r1 r2 : Nat) (c : UInt8),Inn h l g p r1 r2 c -> pP h (C bM [.inst 0 l,.str "group",.lst g,.bytes [c],.lst p] h) []
structure Hx (C : bK) : Prop where
 oct : pO C
 stop : zK C
 never : uJ C
 grp : zJ C
def xP (C : bK) (h : H) (l : Nat) (pa na : Val) (p : Nat) (a b d e f : Option Val) (v : Val) (Q : List Nat) : Prop := ∃ kind what least most,v = .tup [kind,what,least,most] /\ Mid ⟨l,pa,na,kind,what,least,most⟩ h (dz C fG (uV ⟨l,pa,na,kind,what,least,most⟩ (.lst p) a b d e f) h) Q
theorem xP.mk {l p : Nat} {pa na : Val} {a b d e f : Option Val} {kind what : Val} {P qs Q : List Nat} (lz : Bool) (ho : qM h l) (hp : h[p]? = some (.lst (P.map nv))) (hP : wR P) (hO : m7 C h ⟨l,pa,na,kind,what,.int (if lz then 0 else 1),.int 1⟩ P qs) (hqs : qs = [] \/ (qs = [1] /\ (lz = true -> 1 ∉ P))) (hQ : ((if lz then P else []) ++ (if P = [] then [] else qs)) = Q) : xP C h l pa na p a b d e f (.tup [kind,what,.int (if lz then 0 else 1),.int 1]) Q := by
 subst hQ
 obtain ⟨as,x,_⟩ := ho
 exact ⟨_,_,_,_,rfl,part1 rfl rfl ⟨as,x⟩ hp (by rcases hP with rfl | rfl | rfl <;> simp) hO hqs⟩
theorem Km (hO : Hx C) {pa : Val} {p : Nat} {P : List Nat} {q : Part} {v : Val} {a b d e f : Option Val} (ho : qM h l) (hp : h[p]? = some (.lst (P.map nv))) (hP : wR P) (hq : okP c q P) (hv : PV (fun r => h[r]?) q v) : xP C h l pa (.bytes [c]) p a b d e f v (gZ c q P) := by
 have hPl : P.length <= 100 := by rcases hP with rfl | rfl | rfl <;> simp
 cases q with
 | oct neg rs =>
  obtain ⟨r,rfl,hr⟩ := hv
  refine .mk false ho hp hP (jP hO.oct ho hr hq hPl) ?_ ?_
  ·rcases hP with rfl | rfl | rfl
   ·exact .inl rfl
   ·cases hold neg rs c <;> simp
   ·exact .inl (by simp)
  ·rcases hP with rfl | rfl | rfl
   ·rfl
   ·cases hh : hold neg rs c <;> simp [gZ,hh]
   ·simp [gZ]
 | opt neg rs =>
  obtain ⟨r,rfl,hr⟩ := hv
  have O := jP hO.oct (c := c) (neg := neg) (pa := pa) (le := .int 0) (mo := .int 1) ho hr hq.1 hPl
  rw [show (P.map (fun q => if q = 0 /\ hold neg rs c = true then [1] else [])).flatten = [] by simp [hq.2]] at O
  exact .mk true ho hp hP O (.inl rfl) (by simp [gZ])
 | never =>
  obtain ⟨u,rfl⟩ := hv
  exact .mk (qs := []) false ho hp hP (fun t0 w hw => ⟨_,_,hO.never (h ++ t0) l w u c,by simp,.inl rfl⟩) (.inl rfl) (by simp [gZ])
 | stop =>
  obtain ⟨u,rfl⟩ := hv
  refine .mk (qs := if P = [1] then [1] else []) false ho hp hP (fun t0 w hw => ?_) (by rcases hP with rfl | rfl | rfl <;> simp) (by rcases hP with rfl | rfl | rfl <;> rfl)
  obtain ⟨t,ht⟩ := hO.stop (h ++ t0) l w u c P hw (by lia)
  refine ⟨_,_,ht,?_,.inr (Nat.le_refl _)⟩
  rw [bC]
  rcases hP with rfl | rfl | rfl <;> rfl
 | grp =>
  obtain ⟨r,r1,r2,rfl,x1,x2,x3⟩ := hv
  obtain ⟨rfl,hc⟩ := hq
  refine .mk (qs := []) true ho hp hP (fun t0 w hw => ?_) (.inl rfl) rfl
  obtain ⟨p',t,y1,y2⟩ := hO.grp (h ++ t0) l r w r1 r2 c ⟨ho.up,hc,hup x1,hup x2,hup x3,hw⟩
  exact ⟨p',t,y1,y2,.inl rfl⟩
theorem Li (hO : Hx C) {pa : Val} {vs : List Val} (ps : List Part) : ∀ (rest pre : List Val) (h : H) (n p : Nat) (P : List Nat) (k0 w0 l0 m0 a b d e f : Option Val),vs = pre ++ rest -> h[g]? = some (.lst vs) -> qM h l -> uZ (fun r => h[r]?) ps rest -> h[p]? = some (.lst (P.map nv)) -> wR P -> n8 c ps P -> rest.length < n ->
  Mg l pa (.bytes [c]) h (fr C (pt C) fG (.lst g) n pre.length (ZQ l p pa (.bytes [c]) k0 w0 l0 m0 a b d e f) h) (jy c ps P) := by
 induction ps with
 | nil =>
  intro rest pre h n p P k0 w0 l0 m0 a b d e f hr hg ho hv hp hP hok hn
  cases rest with
  | cons _ _ => exact hv.elim
  | nil =>
   cases n with
   | zero => exact absurd hn (Nat.not_lt_zero _)
   | succ n => exact .nil (by rw [dB hg,hr]; simp) hp
 | cons q ps ih =>
  intro rest pre h n p P k0 w0 l0 m0 a b d e f hr hg ho hv hp hP hok hn
  cases rest with
  | nil => exact hv.elim
  | cons v rest =>
   cases n with
   | zero => exact absurd hn (Nat.not_lt_zero _)
   | succ n =>
    obtain ⟨kind,what,least,most,e1,m⟩ := Km hO (pa := pa) (a := a) (b := b) (d := d) (e := e) (f := f) ho hp hP hok.1 hv.1
    refine .step e1 (by rw [dB hg,hr]; simp) m fun t p' k0 w0 l0 m0 a b d e f z => ?_
    have := ih rest (pre ++ [v]) (h ++ t) n p' (gZ c q P) k0 w0 l0 m0 a b d e f (by rw [hr]; simp) (hup hg) ho.up (hv.2.mono fun r c hc => hup hc) z (Dy hP) hok.2 (Nat.lt_of_succ_lt_succ hn)
    rwa [List.length_append] at this
def R9 (C : bK) : Prop := ∀ (h : H) (l g p : Nat) (c : UInt8) (ps : List Part) (vs : List Val) (P : List Nat),qM h l -> h[g]? = some (.lst vs) -> uZ (fun r => h[r]?) ps vs -> h[p]? = some (.lst (P.map nv)) -> wR P -> n8 c ps P -> vs.length <= 50000 -> pP h (C dW [.inst 0 l,.lst g,.bytes [c],.lst p] h) (jy c ps P)
theorem Ru (hO : Hx C) {p : Nat} {ps : List Part} {vs : List Val} {P : List Nat} (ho : qM h l) (hg : h[g]? = some (.lst vs)) (hv : uZ (fun r => h[r]?) ps vs) (hp : h[p]? = some (.lst (P.map nv))) (hP : wR P) (hok : n8 c ps P) (hl : vs.length <= 50000) : pP h (cj C ⟨4,[],13,aV⟩ [.inst 0 l,.lst g,.bytes [c],.lst p] h) (jy c ps P) :=
 (Li hO (pa := .lst g) (vs := vs) ps vs [] h FUEL p P none none none none none none none none none rfl hg ho hv hp hP hok (Nat.lt_of_le_of_lt hl (by first | decide | (rw [bL]; decide)))).end_
def Bh (C : bK) : Prop := ∀ (h : H) (l g : Nat) (as : List (Nat × Val)) (c : UInt8) (ps : List Part) (vs : List Val),h[l]? = some (.ns 0 as) -> as.lookup 0 = some (.bool false) -> as.lookup 1 = some (.lst g) -> h[g]? = some (.lst vs) -> uZ (fun r => h[r]?) ps vs -> n8 c ps [0] -> vs.length <= 50000 ->
 ∃ t,C j9 [.inst 0 l,.bytes [c]] h = .ok (.bool (!(jy c ps [0]).isEmpty)) (h ++ t)
theorem Jj {ps : List Part} : ∀ {P : List Nat},wR P -> wR (jy c ps P) := by
 induction ps with
 | nil => exact id
 | cons p ps ih => exact fun h => ih (Dy h)
theorem Kz (hC : R9 C) {as : List (Nat × Val)} {ps : List Part} {vs : List Val} (e : h[l]? = some (.ns 0 as)) (e0 : as.lookup 0 = some (.bool false)) (e1 : as.lookup 1 = some (.lst g)) (hg : h[g]? = some (.lst vs)) (hv : uZ (fun r => h[r]?) ps vs) (hok : n8 c ps [0]) (hl : vs.length <= 50000) :
  ∃ t,cj C ⟨2,[],2,gU⟩ [.inst 0 l,.bytes [c]] h = .ok (.bool (!(jy c ps [0]).isEmpty)) (h ++ t) := by
 have hx : qM (h ++ [.lst [nv 0]]) l := ⟨as,hup e,e0⟩
 obtain ⟨p',t,x1,x2⟩ := hC (h ++ [.lst [nv 0]]) l g h.length c ps vs [0] hx (hup hg) (hv.mono fun r c hc => hup hc) (by simp) (.inr (.inl rfl)) hok hl
 have hm := fun es ls => fW C ls (m := .wX) (es := es) (c := 0) (f := dW) (h := h) rfl e
 have ha := iw (c := 0) e e1
 have hlen : ((jy c ps [0]).map nv).length <= bH := lim (by
  rcases Jj (c := c) (ps := ps) (P := [0]) (.inr (.inl rfl)) with q | q | q <;> simp [q])
 have hle := zO _ x2 hlen
 refine ⟨.lst [nv 0] :: t,?_⟩
 rw [aN (by rfl)]
 simp [nv] at x1
 simp [nv] at hle
 simp [gU,hm,ha,nv,x1,hle]
 rcases Jj (c := c) (ps := ps) (P := [0]) (.inr (.inl rfl)) with q | q | q <;> simp [q]
end
@[simp] theorem aaF (ls : Ls) (k c c' : Nat) (v : Val) (as : List (Nat × Val)) (h t : H) : Qk ls k v (.ok (.inst c h.length) (h ++ .ns c' as :: t)) = .ok .next ls (h ++ .ns c' (kO as k v) :: t) := by
 rw [Iz ls (bC _ _ _)]; simp
def Hy (C : bK) : Prop := ∀ (g o : Bool) (is : List Item) (h : H),(∀ it ∈ is,it.ok) -> (textOf g o is).length <= 40000 ->
 ∃ vs t,C rR [.inst 0 h.length,.bytes (textOf g o is),.bool false] (h ++ [.ns 0 []]) = .ok .none (h ++ .ns 0 [(0,.bool false),(1,.lst (h.length + 1))] :: .lst vs :: t) /\ uZ (tl (h.length + 2) t) (partsOf g o is) vs
theorem Oz {C : bK} (hC : JC C) {g o : Bool} {is : List Item} {h : H} (hok : ∀ it ∈ is,it.ok) (hl : (textOf g o is).length <= 40000) :
  ∃ vs t,cj C ⟨3,[],4,iD⟩ [.inst 0 h.length,.bytes (textOf g o is),.bool false] (h ++ [.ns 0 []]) = .ok .none (h ++ .ns 0 [(0,.bool false),(1,.lst (h.length + 1))] :: .lst vs :: t) /\ uZ (tl (h.length + 2) t) (partsOf g o is) vs := by
 obtain ⟨vs,t,j,e1,e2⟩ := hC g o is (h ++ [.ns 0 [(0,.bool false)]]) hok hl
 refine ⟨vs,t,?_,by simpa using e2⟩
 have hs : ∀ h : H,gO (.bytes (textOf g o is)) .none (.int 5) h = .ok (.bytes [40,63,109,115,41]) h := fun h => by
  rw [Wv _ (lim (by lia)),show (5 : Int) = ((5 : Nat) : Int) from rfl,RP]
  simp [textOf]
 rw [aN (by rfl)]
 simp at e1
 simp [iD,hs,e1]
noncomputable def iT (a b : UInt8) : Chunk := if a = b then ⟨fC a,a,none⟩ else ⟨fC a,a,some (fC b,b)⟩
noncomputable def v7 (a b : UInt8) : List Chunk := if a.toNat <= b.toNat then [iT a b] else []
noncomputable def nT (b : UInt8) : UInt8 := if 46 < b.toNat then 46 else b
noncomputable def mG (a : UInt8) : UInt8 := if a.toNat < 48 then 48 else a
noncomputable def cF (m : Mem) : List Chunk := v7 m.1 (nT m.2) ++ v7 (mG m.1) m.2
theorem gG (a : UInt8) : (fC a).length <= 2 := by unfold fC; split <;> simp
theorem DY (a b : UInt8) : (iT a b).text.length <= 5 := by
 have h1 := gG a
 have h2 := gG b
 unfold iT
 split
 ·rw [agr]; lia
 ·rw [agq,List.length_append,List.length_cons]; lia
theorem Ij (a b : UInt8) : (bJ (v7 a b)).length <= 5 := by
 have := DY a b
 unfold v7
 split <;> simp [this]
theorem iR (a b : List Chunk) : bJ (a ++ b) = bJ a ++ bJ b := by simp [bJ]
theorem CG (m : Mem) : (bJ (cF m)).length <= 10 := by
 have h1 := Ij m.1 (nT m.2)
 have h2 := Ij (mG m.1) m.2
 unfold cF
 rw [iR,List.length_append]
 lia
theorem qj (ms : List Mem) : (bJ (ms.flatMap cF)).length <= 10 * ms.length := by
 induction ms with
 | nil => simp
 | cons m ms ih =>
  have := CG m
  simp only [List.flatMap_cons,iR,List.length_append,List.length_cons]
  lia
noncomputable def tY : bG := match jc with
 | .cons _ (.cons (.sZ _ _ b) _) => b
 | _ => .nil
noncomputable def tZ : bG := match tY with
 | .cons (.sZ _ _ b) _ => b
 | _ => .nil
noncomputable def cval (c : Chunk) : Val := .bytes c.text
section
variable {C : bK} {h t : H}
theorem Ig (hC : uK C) {src : Src} {n i : Nat} {s0 s2 s3 s6 : Option Val} {a b : UInt8} {acc : List Val} (ha : acc.length <= 50000) :
  ∃ p u,S6 C (qW C [4,5]) tZ src n i (dz C tZ [s0,some (.lst h.length),s2,s3,some (.int a.toNat),some (.int b.toNat),s6] (h ++ .lst acc :: t)) = fr C (qW C [4,5]) tZ src n i [s0,some (.lst h.length),s2,s3,some (.int a.toNat),some (.int b.toNat),p] (h ++ .lst (acc ++ (v7 a b).map cval) :: (t ++ u)) := by
 have hb : ∀ (c : UInt8) (h : H),iU .bytes_ [.lst h.length] (h ++ [.lst [.int c.toNat]]) = .ok (.bytes [c]) (h ++ [.lst [.int c.toNat]]) := fun c h => nW h c
 have happ : ∀ (v : Val) (t : H),gW .aO (.lst h.length) [v] (h ++ .lst acc :: t) = .ok .none (h ++ .lst (acc ++ [v]) :: t) := fun v t => eG (iV (by lia))
 by_cases h1 : a.toNat <= b.toNat
 ·obtain ⟨u1,e1⟩ := hC a (h ++ .lst acc :: (t ++ [.lst [.int a.toNat]]))
  have hb1 := hb a (h ++ .lst acc :: t)
  simp at hb1 e1
  by_cases h2 : a = b
  ·subst h2
   refine ⟨some (.bytes (fC a)),.lst [.int a.toNat] :: u1,?_⟩
   simp [tZ,tY,jc,hb1,e1,happ,v7,iT,cval]
  ·have h3 : ¬ ((a.toNat : Int) = b.toNat) := fun q => h2 (UInt8.toNat_inj.mp (by lia))
   have h4 : ¬ (a.toNat = b.toNat) := fun q => h2 (UInt8.toNat_inj.mp q)
   obtain ⟨u2,e2⟩ := hC b (h ++ .lst acc :: (t ++ .lst [.int a.toNat] :: (u1 ++ [.lst [.int b.toNat]])))
   have hb2 := hb b (h ++ .lst acc :: (t ++ .lst [.int a.toNat] :: u1))
   simp at hb2 e2
   have hl1 := gG a
   have hl2 := gG b
   have hadd : ∀ h : H,gY .add (.bytes [45]) (.bytes (fC b)) h = .ok (.bytes (45 :: fC b)) h := fun h => u6 _ (lim (by simp; lia))
   have ZG : ∀ ls h,nG 6 .add (.bytes (fC a)) (.bytes (45 :: fC b)) ls h = .ok .next (ls.set 6 (some (.bytes (fC a ++ 45 :: fC b)))) h := fun ls h => dG (lim (by simp; lia))
   refine ⟨some (.bytes (fC a ++ 45 :: fC b)),.lst [.int a.toNat] :: (u1 ++ .lst [.int b.toNat] :: u2),?_⟩
   simp [tZ,tY,jc,hb1,e1,hb2,e2,h3,h4,hadd,ZG,happ,v7,iT,cval,h1,h2,show ¬ (b.toNat < a.toNat) by lia]
 ·refine ⟨s6,[],?_⟩
  simp [tZ,tY,jc,v7,h1,show (b.toNat < a.toNat) by lia]
theorem Px (b : UInt8) : (if (46 : Int) < b.toNat then (46 : Int) else b.toNat) = ((nT b).toNat : Int) := by
 unfold nT
 by_cases h : 46 < b.toNat
 ·rw [if_pos h,if_pos (by lia)]; rfl
 ·rw [if_neg h,if_neg (by lia)]
theorem Rd (a : UInt8) : (if (a.toNat : Int) < 48 then (48 : Int) else a.toNat) = ((mG a).toNat : Int) := by
 unfold mG
 by_cases h : a.toNat < 48
 ·rw [if_pos h,if_pos (by lia)]; rfl
 ·rw [if_neg h,if_neg (by lia)]
theorem NZ (hC : uK C) {m : Nat} {ms : List Mem} (e : h[m]? = some (.lst (ms.map dh))) : ∀ (rest pre : List Mem) (n : Nat) (acc : List Chunk) (t : H) (s2 s3 s4 s5 s6 : Option Val),ms = pre ++ rest -> rest.length < n -> acc.length + 2 * rest.length <= 40000 ->
  ∃ u s2' s3' s4' s5' s6',fr C (qW C [2,3]) tY (.lst m) n pre.length [some (.lst m),some (.lst h.length),s2,s3,s4,s5,s6] (h ++ .lst (acc.map cval) :: t) = .ok .next [some (.lst m),some (.lst h.length),s2',s3',s4',s5',s6'] (h ++ .lst ((acc ++ rest.flatMap cF).map cval) :: (t ++ u)) := by
 intro rest
 induction rest with
 | nil =>
  intro pre n acc t s2 s3 s4 s5 s6 hr hn ha
  obtain ⟨n,rfl⟩ : ∃ k,n = k + 1 := ⟨n - 1,by simp at hn; lia⟩
  refine ⟨[],s2,s3,s4,s5,s6,?_⟩
  rw [cJ,dB (hup e),hr]
  simp
 | cons q rest ih =>
  intro pre n acc t s2 s3 s4 s5 s6 hr hn ha
  obtain ⟨n,rfl⟩ : ∃ k,n = k + 1 := ⟨n - 1,by simp at hn; lia⟩
  obtain ⟨a,b⟩ := q
  obtain ⟨p1,u1,f1⟩ := Ig (C := C) (h := h) (t := t) (src := .vals [.tup [.int a.toNat,.int (nT b).toNat],.tup [.int (mG a).toNat,.int b.toNat]]) (n := FUEL - 1) (i := 1) (s0 := some (.lst m)) (s2 := some (.int a.toNat)) (s3 := some (.int b.toNat)) (s6 := s6) (a := a) (b := nT b) (acc := acc.map cval) hC (by simp at ha ⊢; lia)
  have hl1 : (v7 a (nT b)).length <= 1 := by unfold v7; split <;> simp
  have hl2 : (v7 (mG a) b).length <= 1 := by unfold v7; split <;> simp
  obtain ⟨p2,u2,f2⟩ := Ig (C := C) (h := h) (t := t ++ u1) (src := .vals [.tup [.int a.toNat,.int (nT b).toNat],.tup [.int (mG a).toNat,.int b.toNat]]) (n := FUEL - 2) (i := 2) (s0 := some (.lst m)) (s2 := some (.int a.toNat)) (s3 := some (.int b.toNat)) (s6 := p1) (a := mG a) (b := b) (acc := acc.map cval ++ (v7 a (nT b)).map cval) hC (by simp at ha ⊢; lia)
  obtain ⟨u3,z2,z3,z4,z5,z6,f3⟩ := ih (pre ++ [(a,b)]) n (acc ++ cF (a,b)) (t ++ u1 ++ u2) (some (.int a.toNat)) (some (.int b.toNat)) (some (.int (mG a).toNat)) (some (.int b.toNat)) p2 (by simp [hr]) (by simpa using hn) (by simp [cF] at ha ⊢; lia)
  refine ⟨u1 ++ (u2 ++ u3),z2,z3,z4,z5,z6,?_⟩
  have hnx : nx (.lst m) pre.length (h ++ .lst (acc.map cval) :: t) = some (some (dh (a,b))) := by rw [dB (hup e),hr]; simp
  rw [cJ,hnx]
  have hbody : dz C tY [some (.lst m),some (.lst h.length),some (.int a.toNat),some (.int b.toNat),s4,s5,s6] (h ++ .lst (acc.map cval) :: t) = .ok .next [some (.lst m),some (.lst h.length),some (.int a.toNat),some (.int b.toNat),some (.int (mG a).toNat),some (.int b.toNat),p2] (h ++ .lst (acc.map cval ++ (v7 a (nT b)).map cval ++ (v7 (mG a) b).map cval) :: (t ++ u1 ++ u2)) := by
   have hfr : fr C (qW C [4,5]) tZ (.vals [.tup [.int a.toNat,.int (nT b).toNat],.tup [.int (mG a).toNat,.int b.toNat]]) FUEL 0 [some (.lst m),some (.lst h.length),some (.int a.toNat),some (.int b.toNat),s4,s5,s6] (h ++ .lst (acc.map cval) :: t) = .ok .next [some (.lst m),some (.lst h.length),some (.int a.toNat),some (.int b.toNat),some (.int (mG a).toNat),some (.int b.toNat),p2] (h ++ .lst (acc.map cval ++ (v7 a (nT b)).map cval ++ (v7 (mG a) b).map cval) :: (t ++ u1 ++ u2)) := by
    rw [show FUEL = FUEL - 1 + 1 by have := bL; lia,cJ]
    simp only [vh,List.getElem?_cons_zero,QB,N5,kZ,mR,eO,vo]
    simp only [qZ,List.length_cons,List.length_nil,Nat.reduceAdd,Nat.reduceLT,List.set_cons_succ,List.set_cons_zero,vo,mR,eO,kZ,Qz,f1]
    rw [show FUEL - 1 = FUEL - 2 + 1 by have := bL; lia,cJ]
    simp only [vh,List.getElem?_cons_succ,List.getElem?_cons_zero,QB,N5,kZ,mR,eO,vo]
    simp only [qZ,List.length_cons,List.length_nil,Nat.reduceAdd,Nat.reduceLT,List.set_cons_succ,List.set_cons_zero,vo,mR,eO,kZ,Qz,f2]
    rw [show FUEL - 2 = FUEL - 3 + 1 by have := bL; lia,cJ]
    simp
   have h1 := Px b
   have h2 := Rd a
   simp only [tY,jc,tZ] at hfr ⊢
   simp [h1,h2]
   simp at hfr
   rw [hfr]
   simp
  simp [dh,hbody]
  simp [cF] at f3
  rw [f3]
  simp [cF]
theorem QM (cs : List Chunk) : pZ (cs.map cval) = some (bJ cs) := by
 induction cs with
 | nil => rfl
 | cons c cs ih =>
  show (pZ (cs.map cval)).map (c.text ++ ·) = _
  rw [ih]; simp
def xK (C : bK) : Prop := ∀ (h : H) (m : Nat) (ms : List Mem),h[m]? = some (.lst (ms.map dh)) -> ms.length <= 1000 -> ∃ t,C rP [.lst m] h = .ok (.bytes (bJ (ms.flatMap cF))) (h ++ t)
theorem yJ (a b : UInt8) : (v7 a b).length <= 1 := by unfold v7; split <;> simp
theorem pU (ms : List Mem) : (ms.flatMap cF).length <= 2 * ms.length := by
 induction ms with
 | nil => simp
 | cons m ms ih =>
  have h1 := yJ m.1 (nT m.2)
  have h2 := yJ (mG m.1) m.2
  simp only [List.flatMap_cons,List.length_append,List.length_cons,cF] at ih ⊢
  lia
theorem FJ (hC : uK C) {m : Nat} {ms : List Mem} (e : h[m]? = some (.lst (ms.map dh))) (hl : ms.length <= 1000) : ∃ t,cj C ⟨1,[],7,jc⟩ [.lst m] h = .ok (.bytes (bJ (ms.flatMap cF))) (h ++ t) := by
 obtain ⟨u,z2,z3,z4,z5,z6,f⟩ := NZ (C := C) (h := h) hC e ms [] FUEL [] [] none none none none none rfl (Nat.lt_of_le_of_lt hl (by first | decide | (rw [bL]; decide))) (by simp; lia)
 refine ⟨.lst ((ms.flatMap cF).map cval) :: u,?_⟩
 have hj : gW .iW (.bytes []) [.lst h.length] (h ++ .lst ((ms.flatMap cF).map cval) :: u) = .ok (.bytes (bJ (ms.flatMap cF))) (h ++ .lst ((ms.flatMap cF).map cval) :: u) := by
  show (match (h ++ .lst ((ms.flatMap cF).map cval) :: u)[h.length]? with | some (.lst ws) => (match pZ ws with | some x => (if x.length <= bH /\ ws.length <= bH then Res.ok (Val.bytes x) (h ++ Cell.lst ((ms.flatMap cF).map cval) :: u) else .bad) | none => .bad) | _ => .bad) = _
  rw [bC]; dsimp only; rw [QM]; dsimp only
  have h1 := qj ms
  have h2 := pU ms
  rw [if_pos ⟨lim (by lia),lim (by rw [List.length_map]; lia)⟩]
 rw [aN (by rfl)]
 simp only [tY,jc,List.length_nil,List.map_nil,List.nil_append] at f ⊢
 simp
 rw [f]
 simp [hj]
end
noncomputable def rng (c : UInt8) (prev : Option UInt8) (s1 : Bs) : Option (UInt8 × Option (UInt8 × Bs)) := match prev,s1 with
 | some p,d :: s2 => if c = 45 /\ d ≠ 93 then some (p,if d = 92 then (match s2 with
  | [] => none
  | e :: s3 => some (e,s3)) else some (d,s2)) else none
 | _,_ => none
set_option genCtorIdx false in
inductive Wd where
 | no
 | bad
 | lit
 | cls (v : Bs) (rest : Bs)
noncomputable def Wd.ctorIdx (x : Wd) : Nat := x.casesOn 0 1 2 fun _ _ => 3
noncomputable def fu (t : Bs) : Wd := match t.findIdx? (· == 93) with
 | none => .bad
 | some k => if k = 0 \/ t[k - 1]? ≠ some 58 then .lit else match bI (t.take (k - 1)) with
  | none => .bad
  | some v => .cls v (t.drop (k + 1))
noncomputable def word (c : UInt8) (s1 : Bs) : Wd := match s1 with
 | d :: t => if c = 91 /\ d = 58 then fu t else .no
 | [] => .no
noncomputable abbrev yu := Option (Option UInt8 × List Mem × List Bs × Bs)
noncomputable def vK (c : UInt8) (ms : List Mem) (cs : List Bs) (s1 : Bs) : Wd -> yu
 | .no => some (some c,ms ++ [(c,c)],cs,s1)
 | .bad => none
 | .lit => some (some 91,ms ++ [(91,91)],cs,s1)
 | .cls v rest => some (none,ms,cs ++ [v],rest)
noncomputable def abD (c : UInt8) (ms : List Mem) (cs : List Bs) (s1 : Bs) : Option (UInt8 × Option (UInt8 × Bs)) -> yu
 | some (p,some (d,s2)) => some (none,if p.toNat <= d.toNat then ms.dropLast ++ [(p,d)] else ms,cs,s2)
 | some (_,none) => none
 | none => vK c ms cs s1 (word c s1)
noncomputable def g8 (prev : Option UInt8) (ms : List Mem) (cs : List Bs) (c : UInt8) (s1 : Bs) : yu :=
 if c = 92 then match s1 with
  | [] => none
  | d :: s2 => some (some d,ms ++ [(d,d)],cs,s2)
 else abD c ms cs s1 (rng c prev s1)
theorem jN {P : Bs -> Wd -> Prop} (a : ∀ t,t.findIdx? (· == 93) = none -> P t .bad) (b : ∀ t,t.findIdx? (· == 93) = some 0 -> P t .lit) (c : ∀ t j,t.findIdx? (· == 93) = some (j + 1) -> t[j]? ≠ some 58 -> P t .lit) (d : ∀ t j,t.findIdx? (· == 93) = some (j + 1) -> t[j]? = some 58 -> bI (t.take j) = none -> P t .bad) (e : ∀ t j v,t.findIdx? (· == 93) = some (j + 1) -> t[j]? = some 58 -> bI (t.take j) = some v -> P t (.cls v (t.drop (j + 2)))) (t : Bs) : P t (fu t) := by
 unfold fu
 cases h : t.findIdx? (· == 93) with
 | none => exact a t h
 | some k => cases k with
  | zero => dsimp only; rw [if_pos (Or.inl rfl)]; exact b t h
  | succ j =>
   show P t (if j + 1 = 0 \/ t[j]? ≠ some 58 then _ else match bI (t.take j) with | none => _ | some v => _)
   by_cases q : t[j]? = some 58
   ·rw [if_neg (by simp [q])]
    cases g : bI (t.take j) with
    | none => exact d t j h q g
    | some v => exact e t j v h q g
   ·rw [if_pos (.inr q)]; exact c t j h q
theorem qR {prev : Option UInt8} {ms : List Mem} {cs : List Bs} {c : UInt8} {s : Bs} {q : Option (UInt8 × Option (UInt8 × Bs))} (Dn : c ≠ 92) (hq : rng c prev s = q) : g8 prev ms cs c s = abD c ms cs s q := (if_neg Dn).trans (congrArg _ hq)
theorem BX {p : UInt8} {ms : List Mem} {cs : List Bs} {d : UInt8} {s : Bs} (h1 : d ≠ 92) (h2 : d ≠ 93) : g8 (some p) ms cs 45 (d :: s) = some (none,if p.toNat <= d.toNat then ms.dropLast ++ [(p,d)] else ms,cs,s) :=
 qR (by decide) (q := some (p,some (d,s))) ((if_pos ⟨rfl,h2⟩).trans (by rw [if_neg h1]))
theorem BZ {prev : Option UInt8} {ms : List Mem} {cs : List Bs} {s : Bs} (h : prev = none \/ s = [] \/ ∃ t,s = 93 :: t) : g8 prev ms cs 45 s = some (some 45,ms ++ [(45,45)],cs,s) := by
 have w0 : word 45 s = .no := by cases s <;> rfl
 refine (qR (q := none) (by decide) ?_).trans (congrArg (vK 45 ms cs s) w0)
 rcases h with rfl | rfl | ⟨t,rfl⟩
 ·rfl
 ·cases prev <;> rfl
 ·cases prev <;> rfl
theorem NQ {c : UInt8} {prev : Option UInt8} {s : Bs} (ZJ : c ≠ 45) : rng c prev s = none := by
 cases prev <;> cases s
 all_goals first | rfl | exact if_neg fun q => ZJ q.1
theorem u9 {prev : Option UInt8} {ms : List Mem} {cs : List Bs} {t : Bs} : g8 prev ms cs 91 (58 :: t) = vK 91 ms cs (58 :: t) (fu t) := qR (q := none) (by decide) (NQ (by decide))
theorem Cd {prev : Option UInt8} {ms : List Mem} {cs : List Bs} {c : UInt8} {s : Bs} (Dn : c ≠ 92) (ZJ : c ≠ 45) (hw : c ≠ 91 \/ s.take 1 ≠ [58]) : g8 prev ms cs c s = some (some c,ms ++ [(c,c)],cs,s) := by
 refine (qR (q := none) Dn (NQ ZJ)).trans (congrArg (vK c ms cs s) (?_ : word c s = .no))
 cases s with
 | nil => rfl
 | cons d t => exact if_neg fun q => hw.elim (fun h => h q.1) fun h => h (by rw [q.2]; rfl)
theorem jJ {P : Option UInt8 -> List Mem -> List Bs -> UInt8 -> Bs -> yu -> Prop}
  (e0 : ∀ prev ms cs,P prev ms cs 92 [] none) (e1 : ∀ prev ms cs d s,P prev ms cs 92 (d :: s) (some (some d,ms ++ [(d,d)],cs,s)))
  (r0 : ∀ p ms cs,P (some p) ms cs 45 [92] none) (r1 : ∀ p ms cs d s,P (some p) ms cs 45 (92 :: d :: s) (some (none,if p.toNat <= d.toNat then ms.dropLast ++ [(p,d)] else ms,cs,s)))
  (r2 : ∀ p ms cs d s,d ≠ 92 -> d ≠ 93 -> P (some p) ms cs 45 (d :: s) (some (none,if p.toNat <= d.toNat then ms.dropLast ++ [(p,d)] else ms,cs,s)))
  (d0 : ∀ prev ms cs s,prev = none \/ s = [] \/ (∃ t,s = 93 :: t) -> P prev ms cs 45 s (some (some 45,ms ++ [(45,45)],cs,s)))
  (w : ∀ prev ms cs t,P prev ms cs 91 (58 :: t) (vK 91 ms cs (58 :: t) (fu t)))
  (ch : ∀ prev ms cs c s,c ≠ 92 -> c ≠ 45 -> c ≠ 91 \/ s.take 1 ≠ [58] -> P prev ms cs c s (some (some c,ms ++ [(c,c)],cs,s)))
  (prev : Option UInt8) (ms : List Mem) (cs : List Bs) (c : UInt8) (s : Bs) : P prev ms cs c s (g8 prev ms cs c s) := by
 by_cases Dn : c = 92
 ·subst Dn
  cases s with
  | nil => exact e0 prev ms cs
  | cons d s => exact e1 prev ms cs d s
 by_cases ZJ : c = 45
 ·subst ZJ
  have go := fun h => (BZ h).symm ▸ d0 prev ms cs s h
  cases prev with
  | none => exact go (.inl rfl)
  | some p => cases s with
   | nil => exact go (.inr (.inl rfl))
   | cons d s =>
    by_cases h93 : d = 93
    ·exact go (.inr (.inr ⟨s,by rw [h93]⟩))
    by_cases hd : d = 92
    ·subst hd
     cases s with
     | nil => exact r0 p ms cs
     | cons e s => exact r1 p ms cs e s
    ·exact (BX hd h93).symm ▸ r2 p ms cs d s hd h93
 by_cases hw : c = 91 /\ s.take 1 = [58]
 ·obtain ⟨rfl,q⟩ := hw
  cases s with
  | nil => cases q
  | cons d t =>
   cases q
   exact u9.symm ▸ w prev ms cs t
 ·have hw := Decidable.not_and_iff_not_or_not.mp hw
  exact (Cd Dn ZJ hw).symm ▸ ch prev ms cs c s Dn ZJ hw
noncomputable def brk : Nat -> Bool -> Option UInt8 -> List Mem -> List Bs -> Bs -> Option (List Mem × List Bs × Bs)
 | 0,_,_,_,_,_ => none
 | _ + 1,_,_,_,_,[] => none
 | n + 1,first,prev,ms,cs,c :: s1 => if c = 93 /\ first = false then some (ms,cs,s1)
   else match g8 prev ms cs c s1 with
    | none => none
    | some (eY,iM,cs',s') => brk n false eY iM cs' s'
theorem Ef {n : Nat} {first : Bool} {prev : Option UInt8} {ms : List Mem} {cs : List Bs} {c : UInt8} {s : Bs} : brk (n + 1) first prev ms cs (c :: s) = if c = 93 /\ first = false then some (ms,cs,s)
   else match g8 prev ms cs c s with
    | none => none
    | some (eY,iM,cs',s') => brk n false eY iM cs' s' := rfl
theorem Bf {P : Bool -> Option UInt8 -> List Mem -> List Bs -> Bs -> List Mem -> List Bs -> Bs -> Prop} (stop : ∀ prev ms cs s,P false prev ms cs (93 :: s) ms cs s)
  (step : ∀ first prev ms cs c s p1 m1 c1 s1 iM cs' rest,¬ (c = 93 /\ first = false) -> g8 prev ms cs c s = some (p1,m1,c1,s1) -> P false p1 m1 c1 s1 iM cs' rest -> P first prev ms cs (c :: s) iM cs' rest) (n : Nat) :
  ∀ first prev ms cs s iM cs' rest,brk n first prev ms cs s = some (iM,cs',rest) -> P first prev ms cs s iM cs' rest := by
 induction n with
 | zero => exact fun _ _ _ _ _ _ _ _ h => cN h
 | succ n ih =>
  intro first prev ms cs s iM cs' rest h
  cases s with
  | nil => exact cN h
  | cons c s =>
   rw [Ef] at h
   by_cases hc : c = 93 /\ first = false
   ·rw [if_pos hc] at h
    obtain ⟨rfl,rfl⟩ := hc
    cases h
    exact stop _ _ _ _
   ·rw [if_neg hc] at h
    cases hs : g8 prev ms cs c s with
    | none => rw [hs] at h; exact cN h
    | some q =>
     obtain ⟨p1,m1,c1,s1⟩ := q
     rw [hs] at h
     exact step _ _ _ _ _ _ _ _ _ _ _ _ _ hc hs (ih _ _ _ _ _ _ _ _ h)
theorem Ez {t v rest : Bs} (h : fu t = .cls v rest) : rest.length < t.length := by
 refine jN (P := fun t w => w = .cls v rest -> rest.length < t.length) ?_ ?_ ?_ ?_ ?_ t h
 ·exact fun _ _ h => nomatch h
 ·exact fun _ _ h => nomatch h
 ·exact fun _ _ _ _ h => nomatch h
 ·exact fun _ _ _ _ _ h => nomatch h
 ·intro t j v hf _ _ e
  have := (List.findIdx?_eq_some_iff_findIdx_eq.mp hf).1
  cases e
  rw [List.length_drop]; omega
section
variable {C : bK} {x : Bs}
noncomputable abbrev pxT := (bV cO).1
noncomputable abbrev pxB := (bV cO).2
theorem sl1 {h : H} {s : Bs} {k : Nat} (hl : x.length <= 50000) (hx : x.drop k = s) : gO (.bytes x) (.int (k : Int)) (.int ((k : Int) + 1)) h = .ok (.bytes (s.take 1)) h := by
 rw [fU _ (lim (by omega)),gA hx 0 1 (by simp) (by simp)]; simp
theorem Uk (hl : x.length <= 50000) {h : H} {s1 s2 s3 s4 : Option Val} : ∀ (t : Bs) (j n : Nat),x.drop j = t -> j <= x.length -> t.length < n ->
  wh C pxT pxB n [some (.bytes x),s1,s2,s3,s4,some (.int (j : Int))] h = .ok .next [some (.bytes x),s1,s2,s3,s4,some (.int ((match t.findIdx? (· == 93) with | some k => ((j + k : Nat) : Int) | none => (x.length : Int)) : Int))] h := by
 have hL : x.length <= bH := lim (by omega)
 intro t
 induction t with
 | nil =>
  intro j n hx hj0 hn
  obtain ⟨n,rfl⟩ : ∃ k,n = k + 1 := ⟨n - 1,by simp at hn; omega⟩
  have hj : j = x.length := Nat.le_antisymm hj0 (by simpa using hx)
  subst hj
  rw [aH]
  simp [pxT,pxB,cO,bA _ hL]
 | cons c t ih =>
  intro j n hx hj0 hn
  obtain ⟨n,rfl⟩ : ∃ k,n = k + 1 := ⟨n - 1,by simp at hn; omega⟩
  have hlt : j < x.length := (List.getElem?_eq_some_iff.mp (show x[j]? = some c from bR hx 0)).1
  have hs : ∀ h : H,gO (.bytes x) (.int (j : Int)) (.int ((j : Int) + 1)) h = .ok (.bytes [c]) h := fun h => by rw [sl1 hl hx]; rfl
  rw [aH]
  by_cases hc : c = 93
  ·subst hc
   simp [pxT,pxB,cO,bA _ hL,hlt,hs,List.findIdx?_cons]
  ·have := ih (j + 1) n (aB hx 1) hlt (by simpa using hn)
   have he : (c == 93) = false := by simpa using hc
   simp only [pxT,pxB,jA,jD,jB,jC,cO] at this ⊢
   simp [bA _ hL,hlt,hs,hc,List.findIdx?_cons,he] at this ⊢
   rw [this]
   cases t.findIdx? (· == 93) with
   | none => rfl
   | some k => simp; omega
def rI (C : bK) : Prop := ∀ (x : Bs) (k : Nat) (t : Bs) (h : H) (yg csv : List Val),x.drop k = 91 :: 58 :: t -> x.length <= 50000 -> yg.length <= 50000 -> csv.length <= 50000 ->
 match fu t with
 | .no => True
 | .bad => ∃ h',C gJ [.bytes x,.int (k : Int),.lst h.length,.lst (h.length + 1)] (h ++ [.lst yg,.lst csv]) = .exc h'
 | .lit => C gJ [.bytes x,.int (k : Int),.lst h.length,.lst (h.length + 1)] (h ++ [.lst yg,.lst csv]) = .ok (.tup [.int (k : Int),.int 91]) (h ++ [.lst (yg ++ [dh (91,91)]),.lst csv])
 | .cls v rest => ∃ j : Nat,j + 1 <= x.length /\ x.drop (j + 1) = rest /\ C gJ [.bytes x,.int (k : Int),.lst h.length,.lst (h.length + 1)] (h ++ [.lst yg,.lst csv]) = .ok (.tup [.int (j : Int),.none]) (h ++ [.lst yg,.lst (csv ++ [.bytes v])])
theorem Kg {k : Nat} {t : Bs} {h : H} {yg csv : List Val} (hx : x.drop k = 91 :: 58 :: t) (hl : x.length <= 50000) (hm : yg.length <= 50000) (hc : csv.length <= 50000) :
  match fu t with
  | .no => True
  | .bad => ∃ h',cj C ⟨4,[],6,cO⟩ [.bytes x,.int (k : Int),.lst h.length,.lst (h.length + 1)] (h ++ [.lst yg,.lst csv]) = .exc h'
  | .lit => cj C ⟨4,[],6,cO⟩ [.bytes x,.int (k : Int),.lst h.length,.lst (h.length + 1)] (h ++ [.lst yg,.lst csv]) = .ok (.tup [.int (k : Int),.int 91]) (h ++ [.lst (yg ++ [dh (91,91)]),.lst csv])
  | .cls v rest => ∃ j : Nat,j + 1 <= x.length /\ x.drop (j + 1) = rest /\ cj C ⟨4,[],6,cO⟩ [.bytes x,.int (k : Int),.lst h.length,.lst (h.length + 1)] (h ++ [.lst yg,.lst csv]) = .ok (.tup [.int (j : Int),.none]) (h ++ [.lst yg,.lst (csv ++ [.bytes v])]) := by
 have hL : x.length <= bH := lim (by omega)
 have hx2 : x.drop (k + 2) = t := aB hx 2
 have hk2 : k + 2 <= x.length := (List.getElem?_eq_some_iff.mp (show x[k + 1]? = some 58 from bR hx 1)).1
 have ht : t.length = x.length - (k + 2) := jW hx2
 have loop := Uk (C := C) hl (h := h ++ [.lst yg,.lst csv]) (s1 := some (.int (k : Int))) (s2 := some (.lst h.length)) (s3 := some (.lst (h.length + 1))) (s4 := some (.int ((k : Int) + 2))) t (k + 2) FUEL hx2 hk2 (by have : FUEL = 100000 := bL; omega)
 have hlen : ∀ h : H,iU .eX [.bytes x] h = .ok (.int x.length) h := fun h => bA _ hL
 have a0 : ∀ v,gW .aO (.lst h.length) [v] (h ++ [.lst yg,.lst csv]) = .ok .none (h ++ [.lst (yg ++ [v]),.lst csv]) := fun v => eG (iV (by omega))
 have a1 : ∀ v,gW .aO (.lst (h.length + 1)) [v] (h ++ [.lst yg,.lst csv]) = .ok .none (h ++ [.lst yg,.lst (csv ++ [v])]) := fun v => Td (iV (by omega))
 rw [aN (by rfl)]
 simp only [pxT,pxB,jA,jD,jB,jC,cO] at loop ⊢
 unfold fu
 cases hf : t.findIdx? (· == 93) with
 | none =>
  rw [hf] at loop
  dsimp only
  simp at loop
  refine ⟨h ++ [.lst yg,.lst csv],?_⟩
  simp [loop,hlen]
 | some j =>
  have hj : j < t.length := (List.findIdx?_eq_some_iff_findIdx_eq.mp hf).1
  rw [hf] at loop
  simp at loop
  dsimp only
  have hlt : ¬ ((x.length : Int) <= (k : Int) + 2 + j) := by omega
  by_cases hj0 : j = 0
  ·subst hj0
   rw [if_pos (.inl rfl)]
   simp at loop
   simp [loop,hlen,show ¬ ((x.length : Int) <= (k : Int) + 2) by omega,a0,dh]
  ·have hsl : ∀ h : H,gO (.bytes x) (.int ((k : Int) + 2 + j - 1)) (.int ((k : Int) + 2 + j)) h = .ok (.bytes ((t.drop (j - 1)).take 1)) h := fun h => by
    rw [fU _ hL,gA hx2 (j - 1) j (by omega) (by omega),show j - (j - 1) = 1 by lia]
   have hsw : ∀ h : H,gO (.bytes x) (.int ((k : Int) + 2)) (.int ((k : Int) + 2 + j - 1)) h = .ok (.bytes (t.take (j - 1))) h := fun h => by
    rw [fU _ hL,gA hx2 0 (j - 1) (by simp) (by omega)]; simp
   have Jc : (t.drop (j - 1)).take 1 = [t[j - 1]] := by
    rw [List.drop_eq_getElem_cons (by omega)]; rfl
   have hne : ¬ ((k : Int) + 2 + j = (k : Int) + 2) := by lia
   have hget : t[j - 1]? = some t[j - 1] := List.getElem?_eq_getElem (by omega)
   by_cases Ms : t[j - 1] = 58
   ·rw [if_neg (by simp [hj0,hget,Ms])]
    rw [Ms] at Jc
    cases hp : bI (t.take (j - 1)) with
    | none =>
     refine ⟨h ++ [.lst yg,.lst csv],?_⟩
     simp [loop,hlen,hlt,hne,hj0,hsl,Jc,hsw,hp]
    | some v =>
     have hpx := fun h => Mx h hp
     refine ⟨k + 2 + j,by omega,by rw [Nat.add_assoc (k + 2) j 1,aB hx2 (j + 1)],?_⟩
     simp [loop,hlen,hlt,hne,hj0,hsl,Jc,hsw,hp,hpx,a1]
   ·rw [if_pos (.inr (by simp [hget,Ms]))]
    simp [loop,hlen,hlt,hne,hj0,hsl,Jc,Ms,a0,dh]
end
noncomputable def pv : Option UInt8 -> Val
 | none => .none
 | some p => .int p.toNat
structure tK (prev : Option UInt8) (ms : List Mem) (cs : List Bs) (s1 : Bs) (eY : Option UInt8) (iM : List Mem) (cs' : List Bs) (s' : Bs) : Prop where
 len : s'.length <= s1.length
 ne : eY.isSome = true -> iM ≠ []
 lm : iM.length <= ms.length + 1
 lc : cs'.length <= cs.length + 1
noncomputable def nR (P : Option UInt8 -> List Mem -> List Bs -> Bs -> Prop) : yu -> Prop
 | none => True
 | some (prev,ms,cs,s) => P prev ms cs s
theorem nR.of {P : Option UInt8 -> List Mem -> List Bs -> Bs -> Prop} {r : yu} {prev : Option UInt8} {ms : List Mem} {cs : List Bs} {s : Bs} (h : nR P r) (e : r = some (prev,ms,cs,s)) : P prev ms cs s := by subst e; exact h
theorem T7 {α : Type} (l : List α) (a : α) : l ++ [a] ≠ [] := by simp
theorem Cg {α : Type} (l : List α) (a : α) : (l ++ [a]).length <= l.length + 1 := by simp
theorem tK.snoc {prev : Option UInt8} {ms : List Mem} {cs : List Bs} {s1 : Bs} {o : Option UInt8} {m : Mem} {s : Bs} (h : s.length <= s1.length) : tK prev ms cs s1 o (ms ++ [m]) cs s := ⟨h,fun _ => T7 _ _,Cg _ _,Nat.le_succ _⟩
theorem tK.rng {prev : Option UInt8} {ms : List Mem} {cs : List Bs} {s1 : Bs} {p d : UInt8} {s : Bs} (h : s.length <= s1.length) : tK prev ms cs s1 none (if p.toNat <= d.toNat then ms.dropLast ++ [(p,d)] else ms) cs s := ⟨h,fun h => (nomatch h),by split <;> simp,Nat.le_succ _⟩
theorem vU {prev : Option UInt8} {ms : List Mem} {cs : List Bs} {c : UInt8} {s1 : Bs} {eY : Option UInt8} {iM : List Mem} {cs' : List Bs} {s' : Bs} (h : g8 prev ms cs c s1 = some (eY,iM,cs',s')) : tK prev ms cs s1 eY iM cs' s' := by
 refine nR.of (jJ (P := fun prev ms cs c s1 => nR (tK prev ms cs s1)) ?_ ?_ ?_ ?_ ?_ ?_ ?_ ?_ prev ms cs c s1) h
 ·exact fun _ _ _ => trivial
 ·exact fun _ _ _ d s => .snoc (Nat.le_succ _)
 ·exact fun _ _ _ => trivial
 ·exact fun _ _ _ d s => .rng (Nat.le_add_right _ 2)
 ·exact fun _ _ _ d s _ _ => .rng (Nat.le_succ _)
 ·exact fun _ _ _ s _ => .snoc (Nat.le_refl _)
 ·intro prev ms cs t
  cases h : fu t with
  | no => exact .snoc (Nat.le_refl _)
  | bad => trivial
  | lit => exact .snoc (Nat.le_refl _)
  | cls v rest => exact ⟨by have := Ez h; simp; lia,fun h => (nomatch h),Nat.le_succ _,Cg _ _⟩
 ·exact fun _ _ _ c s _ _ _ => .snoc (Nat.le_refl _)
noncomputable abbrev X3 := (bV ak).1
noncomputable abbrev Fo := (bV ak).2
noncomputable abbrev yC := dJ 4 Fo
noncomputable def qG : bG -> bG
 | .cons (.dw _ _ e) _ => e
 | _ => .nil
noncomputable def Nb : bG -> bG
 | .cons (.dw _ e _) _ => e
 | _ => .nil
noncomputable abbrev TQ : ME := .and (.cmp .eq (.var 8) (.aj [45])) (.and (.cmp .jV (.var 6) .bY) (.and (.cmp .lt (.bin .add (.var 1) (.aq 1)) (.var 2)) (.cmp .ne (.slc (.var 0) (.bin .add (.var 1) (.aq 1)) (.bin .add (.var 1) (.aq 2))) (.aj [93]))))
theorem J1 : yC = .cons (.dw (.cmp .eq (.var 8) (.aj [92])) (Nb yC) (.cons (.dw TQ (Nb (qG yC)) (qG (qG yC))) .nil)) (.cons (.aug 1 .add (.aq 1)) .nil) := rfl
section
variable {C : bK} {x : Bs}
noncomputable def nY (x : Bs) (i : Int) (neg : Bool) (h : H) (prev : Option UInt8) (c : UInt8) : Ls := [some (.bytes x),some (.int i),some (.int (x.length : Int)),some (.bool neg),some (.lst h.length),some (.lst (h.length + 1)),some (pv prev),some (.bool false),some (.bytes [c]),none]
noncomputable def kj (h : H) (ms : List Mem) (cs : List Bs) : H := h ++ [.lst (ms.map dh),.lst (cs.map .bytes)]
noncomputable def TbG (C : bK) (x : Bs) (neg : Bool) (h : H) (c : UInt8) (ls : Ls) (hh : H) : yu -> Prop
 | none => ∃ ls' h',dz C yC ls hh = .exc ls' h'
 | some (prev,ms,cs,s) => ∃ j : Nat,j <= x.length /\ x.drop j = s /\ dz C yC ls hh = .ok .next (nY x j neg h prev c) (kj h ms cs)
theorem TbG.no {neg : Bool} {h hh h' : H} {c : UInt8} {ls ls' : Ls} (e : dz C yC ls hh = .exc ls' h') : TbG C x neg h c ls hh none := ⟨ls',h',e⟩
theorem TbG.go {neg : Bool} {h hh : H} {c : UInt8} {ls : Ls} {prev : Option UInt8} {ms : List Mem} {cs : List Bs} {s : Bs} {j : Nat} (i : Int) (hd : x.drop j = s) (hi : i = j) (hj : j <= x.length) (e : dz C yC ls hh = .ok .next (nY x i neg h prev c) (kj h ms cs)) : TbG C x neg h c ls hh (some (prev,ms,cs,s)) := ⟨j,hj,hd,hi ▸ e⟩
def Wn (C : bK) (x : Bs) (neg : Bool) (h : H) (k : Nat) (prev : Option UInt8) (ms : List Mem) (cs : List Bs) (c : UInt8) (s1 : Bs) (r : yu) : Prop := x.length <= bH -> x.drop k = c :: s1 -> (prev.isSome = true -> ms ≠ []) -> ms.length <= 50000 -> cs.length <= 50000 -> TbG C x neg h c (nY x k neg h prev c) (kj h ms cs) r
abbrev u5 (x : Bs) (i : Int) (d : UInt8) : Prop := ∀ h : H,bW (.bytes x) (.int i) h = .ok (.int d.toNat) h
abbrev gR (x : Bs) (i i' : Int) (b : Bs) : Prop := ∀ h : H,gO (.bytes x) (.int i) (.int i') h = .ok (.bytes b) h
theorem at_ {s : Bs} {d : UInt8} {k : Nat} (j : Nat) {i : Int} (hL : x.length <= bH) (hx : x.drop k = s) (hd : s[j]? = some d) (hi : i = (k : Int) + j) : u5 x i d := fun _ => bB _ (by lia) ((bR hx j).trans hd) hL
theorem vf {s : Bs} {k : Nat} {i i' : Int} (hL : x.length <= bH) (hx : x.drop k = s) (hi : i = k) (hi' : i' = (k : Int) + 1) : gR x i i' (s.take 1) := fun h => by
 subst hi hi'
 rw [fU _ hL,gA hx 0 1 (by simp) (by simp)]; simp
theorem lbl (hL : x.length <= bH) (h : H) : iU .eX [.bytes x] h = .ok (.int x.length) h := bA _ hL
theorem mW {n : Nat} (h : n <= 50000) : n < FUEL := by have : FUEL = 100000 := bL; lia
theorem Fj {h : H} {ms : List Mem} {cs : List Bs} (hm : ms.length <= 50000) (a b : UInt8) : gW .aO (.lst h.length) [.tup [.int a.toNat,.int b.toNat]] (h ++ [.lst (ms.map dh),.lst (cs.map .bytes)]) = .ok .none (kj h (ms ++ [(a,b)]) cs) := by
 unfold kj
 rw [eG (iV (by simp; lia)),List.map_append]; rfl
theorem za {k : Nat} {s : Bs} (j : Nat) (hx : x.drop k = s) (h : s.length = j) (hk : k <= x.length) : (x.length : Int) <= (k : Int) + j := by
 have := jW hx; lia
theorem mz {k : Nat} {s : Bs} (j : Nat) (hx : x.drop k = s) (h : j < s.length) : (k : Int) + j < x.length := by
 have := jW hx; lia
theorem kle {k : Nat} {c : UInt8} {s : Bs} (hx : x.drop k = c :: s) : k < x.length := (List.getElem?_eq_some_iff.mp (bR hx 0)).1
theorem abp {neg : Bool} {h : H} {k : Nat} (prev : Option UInt8) (ms : List Mem) (cs : List Bs) : Wn C x neg h k prev ms cs 92 [] none := fun hL hx hp hm hc => by
 have : (x.length : Int) <= (k : Int) + 1 := za 1 hx rfl (Nat.le_of_lt (kle hx))
 refine .no (ls' := nY x ((k : Int) + 1) neg h prev 92) (h' := kj h ms cs) ?_
 simp [nY,kj,yC,Fo,ak,this]
theorem abo {neg : Bool} {h : H} {k : Nat} (prev : Option UInt8) (ms : List Mem) (cs : List Bs) (d : UInt8) (s : Bs) : Wn C x neg h k prev ms cs 92 (d :: s) (some (some d,ms ++ [(d,d)],cs,s)) := fun hL hx hp hm hc => by
 have h1 : (k : Int) + 1 < x.length := mz 1 hx (by simp)
 have h2 := Int.not_le.mpr h1
 have i1 : u5 x ((k : Int) + 1) d := at_ 1 hL hx rfl rfl
 refine .go ((k : Int) + 1 + 1) (aB hx 2) (by simp; lia) (by lia) ?_
 simp [nY,kj,yC,Fo,ak,pv,h2,i1,Fj hm]
theorem Nf {h : H} {ms : List Mem} {cs : List Bs} (hne : ms ≠ []) (ls : Ls) (a b : UInt8) : Iw ls (.tup [.int a.toNat,.int b.toNat]) (.lst h.length) (.ok (.int (-1)) (h ++ [.lst (ms.map dh),.lst (cs.map .bytes)])) = .ok .next ls (kj h (ms.dropLast ++ [(a,b)]) cs) := by
 rw [Qj ls (bC _ _ _) (by simpa using hne)]; simp [kj,dh,List.map_dropLast]
theorem abm {neg : Bool} {h : H} {k : Nat} (p : UInt8) (ms : List Mem) (cs : List Bs) : Wn C x neg h k (some p) ms cs 45 [92] none := fun hL hx hp hm hc => by
 have h1 : (k : Int) + 1 < x.length := mz 1 hx (by simp)
 have h2 : (x.length : Int) <= (k : Int) + 1 + 1 := za 2 hx rfl (Nat.le_of_lt (kle hx))
 have s1 : gR x ((k : Int) + 1) ((k : Int) + 2) [92] := vf hL (aB hx 1) rfl rfl
 have s2 : gR x ((k : Int) + 1) ((k : Int) + 1 + 1) [92] := vf hL (aB hx 1) rfl rfl
 refine .no (ls' := nY x ((k : Int) + 1 + 1) neg h (some p) 45) (h' := kj h ms cs) ?_
 simp [nY,kj,yC,Fo,ak,pv,h1,h2,s1,s2]
theorem abl {neg : Bool} {h : H} {k : Nat} (p : UInt8) (ms : List Mem) (cs : List Bs) (d : UInt8) (s : Bs) : Wn C x neg h k (some p) ms cs 45 (92 :: d :: s) (some (none,if p.toNat <= d.toNat then ms.dropLast ++ [(p,d)] else ms,cs,s)) := fun hL hx hp hm hc => by
 have h1 : (k : Int) + 1 < x.length := mz 1 hx (by simp)
 have h2 : ¬ (x.length : Int) <= (k : Int) + 1 + 1 := Int.not_le.mpr (mz 2 hx (by simp))
 have s1 : gR x ((k : Int) + 1) ((k : Int) + 2) [92] := vf hL (aB hx 1) rfl rfl
 have s2 : gR x ((k : Int) + 1) ((k : Int) + 1 + 1) [92] := vf hL (aB hx 1) rfl rfl
 have i2 : u5 x ((k : Int) + 1 + 1) d := at_ 2 hL hx rfl (by lia)
 refine .go ((k : Int) + 1 + 1 + 1) (aB hx 3) (by lia) (by lia) ?_
 by_cases q : p.toNat <= d.toNat
 ·simp [nY,kj,yC,Fo,ak,pv,h1,h2,s1,s2,i2,q,Nf (hp rfl)]
 ·simp [nY,kj,yC,Fo,ak,pv,h1,h2,s1,s2,i2,q]
theorem abk {neg : Bool} {h : H} {k : Nat} (p : UInt8) (ms : List Mem) (cs : List Bs) (d : UInt8) (s : Bs) (n1 : d ≠ 92) (n2 : d ≠ 93) : Wn C x neg h k (some p) ms cs 45 (d :: s) (some (none,if p.toNat <= d.toNat then ms.dropLast ++ [(p,d)] else ms,cs,s)) := fun hL hx hp hm hc => by
 have h1 : (k : Int) + 1 < x.length := mz 1 hx (by simp)
 have s1 : gR x ((k : Int) + 1) ((k : Int) + 2) [d] := vf hL (aB hx 1) rfl rfl
 have s2 : gR x ((k : Int) + 1) ((k : Int) + 1 + 1) [d] := vf hL (aB hx 1) rfl rfl
 have i2 : u5 x ((k : Int) + 1) d := at_ 1 hL hx rfl rfl
 refine .go ((k : Int) + 1 + 1) (aB hx 2) (by lia) (by lia) ?_
 by_cases q : p.toNat <= d.toNat
 ·simp [nY,kj,yC,Fo,ak,pv,h1,s1,s2,i2,q,n1,n2,Nf (hp rfl)]
 ·simp [nY,kj,yC,Fo,ak,pv,h1,s1,s2,i2,q,n1,n2]
theorem vR : qG (qG yC) = .cons (.dw (.and (.cmp .eq (.var 8) (.aj [91])) (.cmp .eq (.slc (.var 0) (.bin .add (.var 1) (.aq 1)) (.bin .add (.var 1) (.aq 2))) (.aj [58]))) (.cons (.dD [(.var 1),(.var 6)] (.cI gJ (.cons (.var 0) (.cons (.var 1) (.cons (.var 4) (.cons (.var 5) .nil)))))) .nil) (.cons (.assign (.var 6) (.idx (.var 0) (.var 1))) (.cons (.expr (.meth (.var 4) .aO (.cons (.tup (.cons (.var 6) (.cons (.var 6) .nil))) .nil))) .nil))) .nil := rfl
theorem H7 {neg : Bool} {h hh : H} {k : Nat} {prev : Option UInt8} {c : UInt8} (Dn : c ≠ 92) (T3 : jd C (nY x k neg h prev c) TQ hh = .ok false hh) : dz C yC (nY x k neg h prev c) hh = kB C (.cons (.aug 1 .add (.aq 1)) .nil) (kB C .nil (dz C (qG (qG yC)) (nY x k neg h prev c) hh)) := by
 have t92 : jd C (nY x k neg h prev c) (.cmp .eq (.var 8) (.aj [92])) hh = .ok false hh := by simp [nY,Dn]
 conv => lhs; rw [J1]
 rw [fZ,vA,t92,Dd,fZ,vA,T3,Dd]
theorem Ng {neg : Bool} {h : H} {k : Nat} {prev : Option UInt8} {ms : List Mem} {cs : List Bs} {c : UInt8} {s : Bs} (Dn : c ≠ 92) (T3 : jd C (nY x k neg h prev c) TQ (kj h ms cs) = .ok false (kj h ms cs)) (ht : c ≠ 91 \/ s.take 1 ≠ [58]) (hL : x.length <= bH) (hx : x.drop k = c :: s) (hm : ms.length <= 50000) : TbG C x neg h c (nY x k neg h prev c) (kj h ms cs) (some (some c,ms ++ [(c,c)],cs,s)) := by
 refine .go ((k : Int) + 1) (aB hx 1) rfl (kle hx) ?_
 rw [H7 Dn T3]
 by_cases q : c = 91
 ·subst q
  have s1 : gR x ((k : Int) + 1) ((k : Int) + 2) (s.take 1) := vf hL (aB hx 1) rfl rfl
  have i0 : ∀ h : H,bW (.bytes x) (.int k) h = .ok (.int 91) h := at_ 0 hL hx rfl rfl
  have ap : gW .aO (.lst h.length) [.tup [.int 91,.int 91]] (h ++ [.lst (ms.map dh),.lst (cs.map .bytes)]) = .ok .none (kj h (ms ++ [(91,91)]) cs) := Fj hm 91 91
  simp [nY,kj,vR,s1,ht.resolve_left (fun n => n rfl),i0,ap,pv]
 ·have i0 : u5 x k c := at_ 0 hL hx rfl rfl
  simp [nY,kj,vR,q,i0,Fj hm,pv]
theorem abq {neg : Bool} {h : H} {k : Nat} (prev : Option UInt8) (ms : List Mem) (cs : List Bs) (s : Bs) (hs : prev = none \/ s = [] \/ ∃ t,s = 93 :: t) : Wn C x neg h k prev ms cs 45 s (some (some 45,ms ++ [(45,45)],cs,s)) := fun hL hx hp hm hc => by
 refine Ng (by decide) ?_ (.inl (by decide)) hL hx hm
 rcases hs with rfl | rfl | ⟨t,rfl⟩
 ·simp [nY,pv]
 ·have : ¬ (k : Int) + 1 < x.length := Int.not_lt.mpr (za 1 hx rfl (Nat.le_of_lt (kle hx)))
  cases prev <;> simp [nY,pv,this]
 ·have h1 : (k : Int) + 1 < x.length := mz 1 hx (by simp)
  have s1 : gR x ((k : Int) + 1) ((k : Int) + 2) [93] := vf hL (aB hx 1) rfl rfl
  cases prev <;> simp [nY,pv,h1,s1]
theorem abr {neg : Bool} {h : H} {k : Nat} (prev : Option UInt8) (ms : List Mem) (cs : List Bs) (c : UInt8) (s : Bs) (n1 : c ≠ 92) (n2 : c ≠ 45) (n3 : c ≠ 91 \/ s.take 1 ≠ [58]) : Wn C x neg h k prev ms cs c s (some (some c,ms ++ [(c,c)],cs,s)) := fun hL hx hp hm hc =>
 Ng n1 (by simp [nY,n2]) n3 hL hx hm
theorem aeO (hP : rI C) (hl : x.length <= 50000) {neg : Bool} {h : H} {k : Nat} (prev : Option UInt8) (ms : List Mem) (cs : List Bs) (t : Bs) : Wn C x neg h k prev ms cs 91 (58 :: t) (vK 91 ms cs (58 :: t) (fu t)) := fun hL hx hp hm hc => by
 have T3 : jd C (nY x k neg h prev 91) TQ (kj h ms cs) = .ok false (kj h ms cs) := by simp [nY]
 have s1 : gR x ((k : Int) + 1) ((k : Int) + 2) [58] := vf hL (aB hx 1) rfl rfl
 have e := H7 (C := C) (by decide) T3
 have q := hP x k t h (ms.map dh) (cs.map .bytes) hx hl (by simpa using hm) (by simpa using hc)
 cases hw : fu t with
 | no => exact absurd hw (jN (P := fun _ w => w ≠ .no) (fun _ _ => nofun) (fun _ _ => nofun) (fun _ _ _ _ => nofun) (fun _ _ _ _ _ => nofun) (fun _ _ _ _ _ _ => nofun) t)
 | bad =>
  rw [hw] at q
  obtain ⟨h',q⟩ := q
  refine .no (ls' := nY x k neg h prev 91) (h' := h') (e.trans ?_)
  simp [nY,kj,vR,s1,q]
 | lit =>
  rw [hw] at q
  refine .go ((k : Int) + 1) (aB hx 1) rfl (kle hx) (e.trans ?_)
  simp only at q
  simp [nY,kj,vR,s1,q,pv]
 | cls v rest =>
  rw [hw] at q
  obtain ⟨j,hjl,hj,q⟩ := q
  refine .go ((j : Int) + 1) hj rfl hjl (e.trans ?_)
  simp [nY,kj,vR,s1,q,pv]
theorem XS (hP : rI C) (hl : x.length <= 50000) {h : H} {neg : Bool} {prev : Option UInt8} {ms : List Mem} {cs : List Bs} {c : UInt8} {s1 : Bs} {k : Nat} (hx : x.drop k = c :: s1) (hp : prev.isSome = true -> ms ≠ []) (hm : ms.length <= 50000) (hc : cs.length <= 50000) : TbG C x neg h c (nY x k neg h prev c) (kj h ms cs) (g8 prev ms cs c s1) :=
 jJ (P := Wn C x neg h k) abp abo abm abl abk abq (aeO hP hl) abr prev ms cs c s1 (lim (by lia)) hx hp hm hc
end
noncomputable def zE (a b : UInt8) : Chunk := ⟨[a],a,some ([b],b)⟩
noncomputable def zN : List (Bs × List Chunk) := [
 ([48,45,57,65,45,90,97,45,122],[zE 48 57,zE 65 90,zE 97 122]),
 ([65,45,90,97,45,122],[zE 65 90,zE 97 122]),
 ([92,116,32],[⟨[92,116],9,none⟩,⟨[32],32,none⟩]),
 ([92,120,48,48,45,92,120,49,102,92,120,55,102],[⟨[92,120,48,48],0,some ([92,120,49,102],31)⟩,⟨[92,120,55,102],127,none⟩]),
 ([48,45,57],[zE 48 57]),
 ([33,45,46,48,45,126],[zE 33 46,zE 48 126]),
 ([97,45,122],[zE 97 122]),
 ([32,45,46,48,45,126],[zE 32 46,zE 48 126]),
 ([33,45,46,58,45,64,92,91,45,96,123,45,126],[zE 33 46,zE 58 64,⟨[92,91],91,some ([96],96)⟩,zE 123 126]),
 ([92,116,92,110,92,114,32],[⟨[92,116],9,none⟩,⟨[92,110],10,none⟩,⟨[92,114],13,none⟩,⟨[32],32,none⟩]),
 ([65,45,90],[zE 65 90]),
 ([48,45,57,65,45,70,97,45,102],[zE 48 57,zE 65 70,zE 97 102])]
noncomputable def jw (v : Bs) : List Chunk := (zN.lookup v).getD []
theorem lookup_mem {α β : Type} [BEq α] [LawfulBEq α] {k : α} {v : β} : ∀ {l : List (α × β)},l.lookup k = some v -> (k,v) ∈ l
 | (a,b) :: l,e => by
  rw [List.lookup_cons] at e
  by_cases hq : (k == a) = true
  ·rw [hq] at e; cases e; rw [eq_of_beq hq]; exact .head _
  ·rw [Bool.not_eq_true] at hq; rw [hq] at e; exact .tail _ (lookup_mem e)
theorem sG {w v : Bs} (h : bI w = some v) : (w,v) ∈ cW.zip gk := lookup_mem h
theorem FN {w v : Bs} (h : bI w = some v) : bJ (jw v) = v := by
 have : ∀ p ∈ cW.zip gk,bJ (jw p.2) = p.2 := by decide +kernel
 exact this _ (sG h)
theorem yI {w v : Bs} (h : bI w = some v) : v.length <= 19 /\ (jw v).length <= 4 := by
 have : ∀ p ∈ cW.zip gk,p.2.length <= 19 /\ (jw p.2).length <= 4 := by decide +kernel
 exact this _ (sG h)
theorem Z6 {a b : UInt8} (h : a ≠ 92 /\ a ≠ 93 /\ a ≠ 45 /\ a ≠ 94 /\ b ≠ 92) : (zE a b).ok :=
 ⟨.plain h.1,fun x t e => by cases e; exact ⟨h.2.1,h.2.2.1,h.2.2.2.1⟩,fun q v e => by cases e; exact .plain h.2.2.2.2⟩
theorem JQ : ∀ p ∈ zN,∀ c ∈ p.2,Chunk.ok c := by
 intro p hp c hc
 have q : ∀ {a b : UInt8},decide (a ≠ 92 /\ a ≠ 93 /\ a ≠ 45 /\ a ≠ 94 /\ b ≠ 92) = true -> (zE a b).ok := fun h => Z6 (of_decide_eq_true h)
 have one : ∀ {q : Bs} {v : UInt8},Oct q v -> (∀ a t,q = a :: t -> a ≠ 93 /\ a ≠ 45 /\ a ≠ 94) -> Chunk.ok ⟨q,v,none⟩ := fun o h => ⟨o,h,fun _ _ e => by exact cN e⟩
 have hd : ∀ {a : UInt8} {t : Bs},decide (a ≠ 93 /\ a ≠ 45 /\ a ≠ 94) = true -> ∀ b u,a :: t = b :: u -> b ≠ 93 /\ b ≠ 45 /\ b ≠ 94 := fun h b u e => by cases e; exact of_decide_eq_true h
 simp only [zN,List.mem_cons,List.not_mem_nil,or_false] at hp
 rcases hp with rfl | rfl | rfl | rfl | rfl | rfl | rfl | rfl | rfl | rfl | rfl | rfl <;> simp only [List.mem_cons,List.not_mem_nil,or_false] at hc
 ·rcases hc with rfl | rfl | rfl <;> exact q (by decide)
 ·rcases hc with rfl | rfl <;> exact q (by decide)
 ·rcases hc with rfl | rfl
  ·exact one .tab (hd (by decide))
  ·exact one (.plain (by decide)) (hd (by decide))
 ·rcases hc with rfl | rfl
  ·exact ⟨.x00,hd (by decide),fun _ _ e => by cases e; exact .x1f⟩
  ·exact one .x7f (hd (by decide))
 ·subst hc; exact q (by decide)
 ·rcases hc with rfl | rfl <;> exact q (by decide)
 ·subst hc; exact q (by decide)
 ·rcases hc with rfl | rfl <;> exact q (by decide)
 ·rcases hc with rfl | rfl | rfl | rfl
  ·exact q (by decide)
  ·exact q (by decide)
  ·exact ⟨.quoted (by decide) (by decide) (by decide) (by decide),hd (by decide),fun _ _ e => by cases e; exact .plain (by decide)⟩
  ·exact q (by decide)
 ·rcases hc with rfl | rfl | rfl | rfl
  ·exact one .tab (hd (by decide))
  ·exact one .nl (hd (by decide))
  ·exact one .cr (hd (by decide))
  ·exact one (.plain (by decide)) (hd (by decide))
 ·subst hc; exact q (by decide)
 ·rcases hc with rfl | rfl | rfl <;> exact q (by decide)
theorem EY (v : Bs) : ∀ c ∈ jw v,Chunk.ok c := by
 unfold jw
 cases hl : zN.lookup v with
 | none => intro c hc; cases hc
 | some l => exact JQ _ (lookup_mem hl)
theorem J5 {a : UInt8} (h : special.contains a = true) : a ≠ 120 /\ a ≠ 116 /\ a ≠ 110 /\ a ≠ 114 := by
 refine ⟨?_,?_,?_,?_⟩ <;> (rintro rfl; revert h; decide)
theorem yE {a : UInt8} (h : special.contains a = false) : a ≠ 92 /\ a ≠ 93 /\ a ≠ 45 /\ a ≠ 94 := by
 refine ⟨?_,?_,?_,?_⟩ <;> (rintro rfl; revert h; decide)
theorem wW (a : UInt8) : Oct (fC a) a := by
 unfold fC
 cases h : special.contains a with
 | true => obtain ⟨h1,h2,h3,h4⟩ := J5 h; exact .quoted h1 h2 h3 h4
 | false => exact .plain (yE h).1
theorem Jt (a b : UInt8) (t : Bs) (e : fC a = b :: t) : b ≠ 93 /\ b ≠ 45 /\ b ≠ 94 := by
 unfold fC at e
 cases h : special.contains a with
 | true => rw [h] at e; cases e; decide
 | false => rw [h] at e; cases e; exact (yE h).2
theorem Ho (a b : UInt8) : (iT a b).ok := by
 unfold iT
 split
 ·exact ⟨wW a,Jt a,fun _ _ e => by exact cN e⟩
 ·exact ⟨wW a,Jt a,fun _ _ e => by cases e; exact wW b⟩
theorem Gn (m : Mem) : ∀ c ∈ cF m,Chunk.ok c := by
 intro c hc
 have : ∀ a b,c ∈ v7 a b -> c.ok := fun a b h => by
  unfold v7 at h
  split at h
  ·rw [List.mem_singleton] at h; subst h; exact Ho a b
  ·cases h
 rcases List.mem_append.mp hc with h | h
 ·exact this _ _ h
 ·exact this _ _ h
noncomputable def eU (ms : List Mem) (cs : List Bs) : List Chunk := ms.flatMap cF ++ cs.flatMap jw
noncomputable def n6 : Chunk := ⟨[47],47,none⟩
noncomputable def itemOf (neg : Bool) (ms : List Mem) (cs : List Bs) : Item := if neg then .cls true (n6 :: eU ms cs) else if eU ms cs = [] then .never else .cls false (eU ms cs)
def tM (cs : List Bs) : Prop := ∀ v ∈ cs,∃ w,bI w = some v
theorem oK (ms : List Mem) (cs : List Bs) : ∀ c ∈ eU ms cs,Chunk.ok c := by
 intro c hc
 rcases List.mem_append.mp hc with h | h
 ·obtain ⟨m,_,h⟩ := List.mem_flatMap.mp h; exact Gn m c h
 ·obtain ⟨v,_,h⟩ := List.mem_flatMap.mp h; exact EY v c h
theorem J7 : n6.ok := ⟨.plain (by decide),fun a t e => by cases e; decide,fun _ _ e => by cases e⟩
theorem uF {ms : List Mem} {cs : List Bs} (h : tM cs) : bJ (eU ms cs) = bJ (ms.flatMap cF) ++ cs.flatten := by
 unfold eU
 rw [iR]
 congr 1
 induction cs with
 | nil => rfl
 | cons v cs ih =>
  obtain ⟨w,hw⟩ := h v (.head _)
  rw [List.flatMap_cons,iR,FN hw,ih fun v h' => h v (.tail _ h')]
  rfl
theorem Hj {ms : List Mem} {cs : List Bs} (h : tM cs) : (eU ms cs).length <= 2 * ms.length + 4 * cs.length := by
 have h1 := pU ms
 have h2 : (cs.flatMap jw).length <= 4 * cs.length := by
  induction cs with
  | nil => simp
  | cons v cs ih =>
   obtain ⟨w,hw⟩ := h v (.head _)
   have := (yI hw).2
   have := ih fun v h' => h v (.tail _ h')
   simp only [List.flatMap_cons,List.length_append,List.length_cons]
   lia
 unfold eU
 rw [List.length_append]
 lia
theorem Dv {cs : List Bs} (h : tM cs) : cs.flatten.length <= 19 * cs.length := by
 induction cs with
 | nil => simp
 | cons v cs ih =>
  obtain ⟨w,hw⟩ := h v (.head _)
  have := (yI hw).1
  have := ih fun v h' => h v (.tail _ h')
  simp only [List.flatten_cons,List.length_append,List.length_cons]
  lia
theorem RG (c : Chunk) (h : c.ok) : c.text ≠ [] := by
 obtain ⟨a,t,e,_⟩ := h.cons
 cases hq : c.q2 with
 | none => rw [zU hq,e]; exact List.cons_ne_nil _ _
 | some p => rw [zT hq,e]; exact List.cons_ne_nil _ _
theorem Ln {l : List Chunk} (h : ∀ c ∈ l,Chunk.ok c) : bJ l = [] ↔ l = [] := by
 cases l with
 | nil => simp
 | cons c l => simp [RG c (h c (.head _))]
theorem Nj {prev : Option UInt8} {ms : List Mem} {cs : List Bs} {c : UInt8} {s1 : Bs} {eY : Option UInt8} {iM : List Mem} {cs' : List Bs} {s' : Bs} (h : g8 prev ms cs c s1 = some (eY,iM,cs',s')) (hc : tM cs) : tM cs' := by
 refine nR.of (jJ (P := fun _ _ cs _ _ => nR fun _ _ cs' _ => tM cs -> tM cs') ?_ ?_ ?_ ?_ ?_ ?_ ?_ ?_ prev ms cs c s1) h hc
 ·exact fun _ _ _ => trivial
 ·exact fun _ _ _ _ _ h => h
 ·exact fun _ _ _ => trivial
 ·exact fun _ _ _ _ _ h => h
 ·exact fun _ _ _ _ _ _ _ h => h
 ·exact fun _ _ _ _ _ h => h
 ·refine fun _ ms cs t => jN (P := fun t w => nR (fun _ _ cs' _ => tM cs -> tM cs') (vK 91 ms cs (58 :: t) w)) ?_ ?_ ?_ ?_ ?_ t
  ·exact fun _ _ => trivial
  ·exact fun _ _ h => h
  ·exact fun _ _ _ _ h => h
  ·exact fun _ _ _ _ _ => trivial
  ·intro t j v _ _ g h u hu
   rcases List.mem_append.mp hu with q | q
   ·exact h u q
   ·exact ⟨_,List.mem_singleton.mp q ▸ g⟩
 ·exact fun _ _ _ _ _ _ _ _ h => h
structure Xz (ms : List Mem) (cs : List Bs) (s rest : Bs) (iM : List Mem) (cs' : List Bs) : Prop where
 len : rest.length < s.length
 lm : iM.length <= ms.length + s.length
 lc : cs'.length <= cs.length + s.length
 cs : tM cs -> tM cs'
theorem RT (n : Nat) (first : Bool) (prev : Option UInt8) (ms : List Mem) (cs : List Bs) (s : Bs) {iM : List Mem} {cs' : List Bs} {rest : Bs} (h : brk n first prev ms cs s = some (iM,cs',rest)) : Xz ms cs s rest iM cs' := by
 refine Bf (P := fun _ _ ms cs s iM cs' rest => Xz ms cs s rest iM cs') (fun prev ms cs s => ?_) (fun first prev ms cs c s p1 m1 c1 s1 iM cs' rest _ hs b => ?_) n _ _ _ _ _ _ _ _ h
 ·exact ⟨Nat.lt_succ_self _,Nat.le_add_right _ _,Nat.le_add_right _ _,id⟩
 ·have a := vU hs
  have := a.len; have := a.lm; have := a.lc; have := b.len; have := b.lm; have := b.lc
  exact ⟨by simp only [List.length_cons]; lia,by simp only [List.length_cons]; lia,by simp only [List.length_cons]; lia,fun q => b.cs (Nj hs q)⟩
section
variable {C : bK} {x : Bs}
theorem Fl : X3 = .eZ true := rfl
theorem sy : Fo = .cons (.dw (.cmp .ge (.var 1) (.var 2)) (.cons (.raise (.var 0)) .nil) .nil) (.cons (.assign (.var 8) (.slc (.var 0) (.var 1) (.bin .add (.var 1) (.aq 1)))) (.cons (.dw (.and (.cmp .eq (.var 8) (.aj [93])) (.not (.var 7))) (.cons .brk .nil) .nil) (.cons (.assign (.var 7) (.eZ false)) yC))) := rfl
noncomputable def vQ (x : Bs) (i : Int) (neg : Bool) (h : H) (p f c : Option Val) : Ls := [some (.bytes x),some (.int i),some (.int (x.length : Int)),some (.bool neg),some (.lst h.length),some (.lst (h.length + 1)),p,f,c,none]
noncomputable def TbL (x : Bs) (neg : Bool) (h : H) (w : SR) : Option (List Mem × List Bs × Bs) -> Prop
 | none => ∃ ls' h',w = .exc ls' h'
 | some (ms,cs,rest) => ∃ (j : Nat) (p f c : Option Val),x.drop j = 93 :: rest /\ w = .ok .next (vQ x j neg h p f c) (kj h ms cs)
theorem abn {h hh : H} {neg first : Bool} {prev : Option UInt8} {c : UInt8} {s1 : Bs} {k N : Nat} {c8 : Option Val} (hl : x.length <= 200) (hx : x.drop k = c :: s1) (hend : ¬ (c = 93 /\ first = false)) : wh C X3 Fo (N + 1) (vQ x k neg h (some (pv prev)) (some (.bool first)) c8) hh = W9 C X3 Fo N (dz C yC (nY x k neg h prev c) hh) := by
 have hs : gR x k ((k : Int) + 1) [c] := vf (lim (by lia)) hx rfl rfl
 have HX : jd C (vQ x k neg h (some (pv prev)) (some (.bool first)) (some (.bytes [c]))) (.and (.cmp .eq (.var 8) (.aj [93])) (.not (.var 7))) hh = .ok false hh := by
  by_cases q : c = 93
  ·cases first with
   | false => exact absurd ⟨q,rfl⟩ hend
   | true => simp [vQ,q]
  ·simp [vQ,q]
 have e1 : exS C (.dw (.cmp .ge (.var 1) (.var 2)) (.cons (.raise (.var 0)) .nil) .nil) (vQ x k neg h (some (pv prev)) (some (.bool first)) c8) hh = .ok .next (vQ x k neg h (some (pv prev)) (some (.bool first)) c8) hh := by simp [vQ,Nat.not_le.mpr (kle hx)]
 have e2 : exS C (.assign (.var 8) (.slc (.var 0) (.var 1) (.bin .add (.var 1) (.aq 1)))) (vQ x k neg h (some (pv prev)) (some (.bool first)) c8) hh = .ok .next (vQ x k neg h (some (pv prev)) (some (.bool first)) (some (.bytes [c]))) hh := by simp [vQ,hs]
 have e3 : exS C (.assign (.var 7) (.eZ false)) (vQ x k neg h (some (pv prev)) (some (.bool first)) (some (.bytes [c]))) hh = .ok .next (nY x k neg h prev c) hh := by simp [vQ,nY]
 rw [aH,Fl,Le,CV]
 conv => lhs; rw [sy]
 rw [fZ,e1,iQ,fZ,e2,iQ,fZ,vA,HX,Dd,Jk,iQ,fZ,e3,iQ]
 rfl
theorem TP (hP : rI C) (hl : x.length <= 200) {h : H} {neg : Bool} (n : Nat) : ∀ (s : Bs) (k : Nat) (first : Bool) (prev : Option UInt8) (ms : List Mem) (cs : List Bs) (N : Nat) (c8 : Option Val),x.drop k = s -> k <= x.length -> s.length < n -> s.length < N -> (prev.isSome = true -> ms ≠ []) -> ms.length + s.length <= 1000 -> cs.length + s.length <= 1000 ->
  TbL x neg h (wh C X3 Fo N (vQ x k neg h (some (pv prev)) (some (.bool first)) c8) (kj h ms cs)) (brk n first prev ms cs s) := by
 induction n with
 | zero => exact fun s k first prev ms cs N c8 hx hk hn => absurd hn (Nat.not_lt_zero _)
 | succ n ih =>
  intro s k first prev ms cs N c8 hx hk hn hN hp hm hc
  cases N with
  | zero => exact absurd hN (Nat.not_lt_zero _)
  | succ N =>
  cases s with
  | nil =>
   have hj : x.length <= k := by simpa using hx
   refine ⟨vQ x k neg h (some (pv prev)) (some (.bool first)) c8,kj h ms cs,?_⟩
   rw [aH,Fl,sy]
   simp [vQ,hj]
  | cons c s1 =>
   have hn := Nat.lt_of_succ_lt_succ hn
   have hN := Nat.lt_of_succ_lt_succ hN
   have hkl := kle hx
   by_cases hend : c = 93 /\ first = false
   ·rw [show brk (n + 1) first prev ms cs (c :: s1) = some (ms,cs,s1) from if_pos hend]
    obtain ⟨rfl,rfl⟩ := hend
    have hs : gR x k ((k : Int) + 1) [93] := vf (lim (by lia)) hx rfl rfl
    refine ⟨k,some (pv prev),some (.bool false),some (.bytes [93]),hx,?_⟩
    rw [aH,Fl,sy]
    simp [vQ,Nat.not_le.mpr hkl,hs]
   ·rw [abn hl hx hend,show brk (n + 1) first prev ms cs (c :: s1) = _ from if_neg hend]
    have mid := XS (C := C) hP (by lia) (h := h) (neg := neg) (cs := cs) hx hp (by lia) (by lia)
    cases hs : g8 prev ms cs c s1 with
    | none =>
     rw [hs] at mid
     obtain ⟨ls',h',e⟩ := mid
     exact ⟨ls',h',by rw [e,Vj]⟩
    | some r =>
     obtain ⟨eY,iM,cs',s'⟩ := r
     rw [hs] at mid
     obtain ⟨j,hj,hxj,e⟩ := mid
     have ok := vU hs
     have h1 := ok.len
     simp only [List.length_cons] at hm hc
     rw [e,oF]
     exact ih s' j false eY iM cs' N (some (.bytes [c])) hxj hj (by lia) (by lia) ok.ne (by have := ok.lm; lia) (by have := ok.lc; lia)
noncomputable def kW (s : Bs) : Bool := match s with
 | [] => false
 | c :: _ => c == 33 || c == 94
noncomputable def bracket (s : Bs) : Option (Bool × List Mem × List Bs × Bs) := match brk ((if kW s then s.drop 1 else s).length + 1) true none [] [] (if kW s then s.drop 1 else s) with
 | none => none
 | some (ms,cs,rest) => some (kW s,ms,cs,rest)
noncomputable def adL (x : Bs) (h : H) (w : Res Val) : Option (Bool × List Mem × List Bs × Bs) -> Prop
 | none => ∃ h',w = .exc h'
 | some (neg,ms,cs,rest) => ∃ (j : Nat) (i' : Int) (t : H),i' = (j : Nat) /\ x.drop j = rest /\ j <= x.length /\ w = .ok (.tup [.int i',.bytes (itemOf neg ms cs).text]) (h ++ t)
def xH (C : bK) : Prop := ∀ (x : Bs) (k : Nat) (i : Int) (s : Bs) (h : H),i = (k : Nat) -> x.drop k = s -> k <= x.length -> x.length <= 200 -> adL x h (C aU [.bytes x,.int i] h) (bracket s)
theorem oH (cs : List Bs) : pZ (cs.map .bytes) = some cs.flatten := by
 induction cs with
 | nil => rfl
 | cons c cs ih =>
  show (pZ (cs.map .bytes)).map (c ++ ·) = _
  rw [ih]; rfl
theorem zF {s : Bs} (hb : kW s = true) {k : Nat} (hx : x.drop k = s) : k + 1 <= x.length /\ x.drop (k + 1) = s.drop 1 := by
 cases s with
 | nil => exact qD hb
 | cons c s => exact ⟨kle hx,aB hx 1⟩
theorem J0 {k : Nat} {s : Bs} {h : H} (hx : x.drop k = s) (hk : k <= x.length) (hL : x.length <= bH) : ∃ k1 : Nat,k1 <= x.length /\ x.drop k1 = (if kW s then s.drop 1 else s) /\
  cj C ⟨2,[],10,ak⟩ [.bytes x,.int (k : Int)] h = iI (kB C (dJ 8 ak) (wh C X3 Fo FUEL (vQ x k1 (kW s) h (some (pv none)) (some (.bool true)) none) (kj h [] []))) := by
 have hlen : ∀ h : H,iU .eX [.bytes x] h = .ok (.int x.length) h := fun h => bA _ hL
 have hsl : gR x k ((k : Int) + 1) (s.take 1) := vf hL hx rfl rfl
 cases hb : kW s with
 | false =>
  refine ⟨k,hk,hx,?_⟩
  rw [aN (by rfl)]
  have : tR h (.bytes (s.take 1)) (.tup [.bytes [33],.bytes [94]]) = some false := by
   cases s with
   | nil => rfl
   | cons c s =>
    have q := Bool.or_eq_false_iff.mp hb
    simp [Ne.symm (beq_eq_false_iff_ne.mp q.1),Ne.symm (beq_eq_false_iff_ne.mp q.2)]
  simp [X3,Fo,ak,hlen,hsl,this,pv,vQ,kj]
 | true =>
  obtain ⟨h1,h2⟩ := zF hb hx
  refine ⟨k + 1,h1,h2,?_⟩
  rw [aN (by rfl)]
  have : tR h (.bytes (s.take 1)) (.tup [.bytes [33],.bytes [94]]) = some true := by
   cases s with
   | nil => exact qD hb
   | cons c s =>
    rcases Bool.or_eq_true_iff.mp hb with q | q
    ·rw [eq_of_beq q]; rfl
    ·rw [eq_of_beq q]; rfl
  simp [X3,Fo,ak,hlen,hsl,this,pv,vQ,kj]
theorem item_text {neg : Bool} {ms : List Mem} {cs : List Bs} {B : Bs} (hb : bJ (eU ms cs) = B) : (itemOf neg ms cs).text = if neg then [91,94,47] ++ B ++ [93] else if B = [] then [40,63,33,41] else [91] ++ B ++ [93] := by
 unfold itemOf
 cases neg with
 | true => simp [Item.text,n6,hb]
 | false =>
  have := Ln (oK ms cs)
  rw [hb] at this
  by_cases q : eU ms cs = []
  ·simp only [Bool.false_eq_true,if_false,q,if_true,this.mpr q]; rfl
  ·have q' : ¬ B = [] := fun r => q (this.mp r)
   simp only [Bool.false_eq_true,if_false,q,q']
   simp [Item.text,hb]
theorem TJ (hR : xK C) {ms : List Mem} {cs : List Bs} {neg : Bool} {h : H} {j : Nat} {p f c : Option Val} (hm : ms.length <= 200) (hc : cs.length <= 200) (hcs : tM cs) : ∃ t,
  iI (kB C (dJ 8 ak) (.ok .next (vQ x j neg h p f c) (kj h ms cs))) = .ok (.tup [.int ((j : Int) + 1),.bytes (itemOf neg ms cs).text]) (h ++ t) := by
 obtain ⟨t,ht⟩ := hR (kj h ms cs) h.length ms (bC _ _ _) (by lia)
 have hrl := qj ms
 have hfl := Dv hcs
 have Rb : gW .iW (.bytes []) [.lst (h.length + 1)] (kj h ms cs ++ t) = .ok (.bytes cs.flatten) (kj h ms cs ++ t) := by
  show (match (kj h ms cs ++ t)[h.length + 1]? with | some (.lst ws) => (match pZ ws with | some x => (if x.length <= bH /\ ws.length <= bH then Res.ok (Val.bytes x) (kj h ms cs ++ t) else .bad) | none => .bad) | _ => .bad) = _
  rw [show (kj h ms cs ++ t)[h.length + 1]? = some (.lst (cs.map .bytes)) by unfold kj; simp]
  dsimp only; rw [oH]; dsimp only
  rw [if_pos ⟨lim (by lia),lim (by rw [List.length_map]; lia)⟩]
 rw [item_text (uF hcs)]
 have hbl : (bJ (ms.flatMap cF)).length + cs.flatten.length <= 10000 := by lia
 generalize bJ (ms.flatMap cF) = R at ht hbl
 generalize cs.flatten = F at Rb hbl
 refine ⟨.lst (ms.map dh) :: .lst (cs.map .bytes) :: t,?_⟩
 have hh : h ++ .lst (ms.map dh) :: .lst (cs.map .bytes) :: t = kj h ms cs ++ t := by simp [kj]
 rw [hh]
 have hadd : ∀ h : H,gY .add (.bytes R) (.bytes F) h = .ok (.bytes (R ++ F)) h := fun h => u6 _ (lim (by lia))
 have hBl : (R ++ F).length <= 10000 := by rw [List.length_append]; exact hbl
 generalize R ++ F = B at hadd hBl
 have ha : ∀ {a b : Bs},a.length + b.length <= 100000 -> ∀ h : H,gY .add (.bytes a) (.bytes b) h = .ok (.bytes (a ++ b)) h := fun e h => u6 _ (lim e)
 have hf : (dJ 8 ak) = .cons (.assign (.var 9) (.bin .add (.cI rP (.cons (.var 4) .nil)) (.meth (.aj []) .iW (.cons (.var 5) .nil)))) (dJ 9 ak) := rfl
 have e1 : exS C (.assign (.var 9) (.bin .add (.cI rP (.cons (.var 4) .nil)) (.meth (.aj []) .iW (.cons (.var 5) .nil)))) (vQ x j neg h p f c) (kj h ms cs) = .ok .next [some (.bytes x),some (.int j),some (.int (x.length : Int)),some (.bool neg),some (.lst h.length),some (.lst (h.length + 1)),p,f,c,some (.bytes B)] (kj h ms cs ++ t) := by
  simp [vQ,ht,Rb,hadd]
 rw [hf,iQ,fZ,e1,iQ]
 clear e1 hf Rb ht hadd
 cases neg with
 | true =>
  have h2 := ha (a := [91,94,47] ++ B) (b := [93]) (by simp; lia)
  simp at h2
  simp [ak,ha (a := [91,94,47]) (b := B) (by simp; lia),h2]
 | false =>
  have hn : ∀ h : H,KY (.ok (.bytes B) h) = .ok (!B.isEmpty) h := fun h => yQ _ h (lim (by lia))
  cases B with
  | nil => simp [ak,hn]
  | cons b B =>
   have h2 := ha (a := [91] ++ b :: B) (b := [93]) (by simp at hBl ⊢; lia)
   simp at h2
   simp [ak,hn,ha (a := [91]) (b := b :: B) (by simp at hBl ⊢; lia),h2]
theorem TG (hP : rI C) (hR : xK C) {k : Nat} {i : Int} {s : Bs} {h : H} (hi : i = (k : Nat)) (hx : x.drop k = s) (hk : k <= x.length) (hl : x.length <= 200) : adL x h (cj C ⟨2,[],10,ak⟩ [.bytes x,.int i] h) (bracket s) := by
 subst hi
 have hsn : s.length = x.length - k := jW hx
 obtain ⟨k1,hk1,hx1,start⟩ := J0 (C := C) (h := h) hx hk (lim (by lia))
 rw [start]
 unfold bracket
 clear start
 have Zz : (if kW s then s.drop 1 else s).length <= 200 := by
  split
  ·rw [List.length_drop]; lia
  ·lia
 generalize (if kW s then s.drop 1 else s) = s' at hx1 Zz
 have loop := TP (C := C) hP hl (h := h) (neg := kW s) (s'.length + 1) s' k1 true none [] [] FUEL none hx1 hk1 (Nat.lt_succ_self _) (by have : FUEL = 100000 := bL; lia) nofun (by simp; lia) (by simp; lia)
 cases hb : brk (s'.length + 1) true none [] [] s' with
 | none =>
  rw [hb] at loop
  obtain ⟨ls',h',e⟩ := loop
  exact ⟨h',by rw [e,QJ,Dc]⟩
 | some r =>
  obtain ⟨ms,cs,rest⟩ := r
  rw [hb] at loop
  obtain ⟨j,p',f',c',hj,e⟩ := loop
  have ok := RT _ _ _ _ _ _ hb
  have hlm := ok.lm
  have hlc := ok.lc
  simp only [List.length_nil,Nat.zero_add] at hlm hlc
  obtain ⟨t,ht⟩ := TJ (C := C) (x := x) hR (neg := kW s) (h := h) (j := j) (p := p') (f := f') (c := c') (show ms.length <= 200 by lia) (show cs.length <= 200 by lia) (ok.cs (fun v hv => by cases hv))
  exact ⟨j + 1,(j : Int) + 1,t,rfl,aB hj 1,kle hj,by rw [e]; exact ht⟩
end
theorem iZ {t u : Bs} {k : Nat} (h : t.findIdx? (· == 93) = some k) : (t ++ u).findIdx? (· == 93) = some k := by
 rw [List.findIdx?_append,h]; rfl
theorem ux {t : Bs} (h : (93 : UInt8) ∈ t) : ∃ k,t.findIdx? (· == 93) = some k := by
 cases hf : t.findIdx? (· == 93) with
 | some k => exact ⟨k,rfl⟩
 | none =>
  exfalso
  rw [List.findIdx?_eq_none_iff] at hf
  have := hf 93 h
  simp at this
def HJ (prev : Option UInt8) (ms : List Mem) (cs : List Bs) (c : UInt8) (s1 : Bs) (eY : Option UInt8) (iM : List Mem) (cs' : List Bs) (s' : Bs) : Prop :=
 ∃ b,s1 = b ++ s' /\ ∀ (a rest r : Bs),s' = a ++ rest -> 93 ∈ a -> g8 prev ms cs c (b ++ (a ++ r)) = some (eY,iM,cs',a ++ r)
theorem Ld {t : Bs} {k : Nat} (hk : t.findIdx? (· == 93) = some k) (u : Bs) : (t.take (k + 1) ++ u).findIdx? (· == 93) = some k := by
 apply iZ
 obtain ⟨h1,h2,h3⟩ := List.findIdx?_eq_some_iff_getElem.mp hk
 refine List.findIdx?_eq_some_iff_getElem.mpr ⟨by rw [List.length_take]; lia,by rw [List.getElem_take]; exact h2,fun j hj => ?_⟩
 rw [List.getElem_take]; exact h3 j hj
theorem Bt {t v : Bs} {j : Nat} (h1 : t.findIdx? (· == 93) = some (j + 1)) (h2 : t[j]? = some 58) (h3 : bI (t.take j) = some v) : fu t = .cls v (t.drop (j + 2)) := by
 unfold fu
 rw [h1]
 show (if j + 1 = 0 \/ t[j]? ≠ some 58 then _ else match bI (t.take j) with | none => _ | some v => _) = _
 rw [if_neg (by simp [h2]),h3]
theorem vL {t : Bs} {k : Nat} (h1 : t.findIdx? (· == 93) = some k) (h2 : k = 0 \/ t[k - 1]? ≠ some 58) : fu t = .lit := by
 unfold fu
 rw [h1]
 exact if_pos h2
theorem yD {prev : Option UInt8} {ms : List Mem} {cs : List Bs} {c : UInt8} {s1 : Bs} {eY : Option UInt8} {iM : List Mem} {cs' : List Bs} {s' : Bs} (h : g8 prev ms cs c s1 = some (eY,iM,cs',s')) : HJ prev ms cs c s1 eY iM cs' s' := by
 refine nR.of (jJ (P := fun prev ms cs c s1 => nR (HJ prev ms cs c s1)) ?_ ?_ ?_ ?_ ?_ ?_ ?_ ?_ prev ms cs c s1) h
 ·exact fun _ _ _ => trivial
 ·exact fun _ _ _ d s => ⟨[d],rfl,fun _ _ _ _ _ => rfl⟩
 ·exact fun _ _ _ => trivial
 ·exact fun _ _ _ d s => ⟨[92,d],rfl,fun _ _ _ _ _ => rfl⟩
 ·exact fun _ _ _ d s h1 h2 => ⟨[d],rfl,fun _ _ _ _ _ => BX h1 h2⟩
 ·refine fun prev ms cs s hs => ⟨[],rfl,fun a rest r e ha => BZ ?_⟩
  cases a with
  | nil => cases ha
  | cons d a => exact hs.imp_right fun q => .inr (by
    rcases q with q | ⟨t,q⟩
    ·rw [q] at e; cases e
    ·rw [q] at e; cases e; exact ⟨_,rfl⟩)
 ·refine fun prev ms cs t => jN (P := fun t w => nR (HJ prev ms cs 91 (58 :: t)) (vK 91 ms cs (58 :: t) w)) ?_ ?_ ?_ ?_ ?_ t
  ·exact fun _ _ => trivial
  ·intro t hf
   refine ⟨[],rfl,fun a rest r e ha => ?_⟩
   cases a with
   | nil => cases ha
   | cons d a =>
    obtain ⟨e1,e2⟩ : 58 = d /\ t = a ++ rest := List.cons.inj e
    subst e1 e2
    have ha : (93 : UInt8) ∈ a := (List.mem_cons.mp ha).resolve_left (by decide)
    obtain ⟨k,hk⟩ := ux ha
    rw [iZ hk] at hf
    cases hf
    exact u9.trans (congrArg _ (vL (iZ hk) (.inl rfl)))
  ·intro t j hf hj
   refine ⟨[],rfl,fun a rest r e ha => ?_⟩
   cases a with
   | nil => cases ha
   | cons d a =>
    obtain ⟨e1,e2⟩ : 58 = d /\ t = a ++ rest := List.cons.inj e
    subst e1 e2
    have ha : (93 : UInt8) ∈ a := (List.mem_cons.mp ha).resolve_left (by decide)
    obtain ⟨k,hk⟩ := ux ha
    rw [iZ hk] at hf
    cases hf
    have hl : j < a.length := Nat.lt_of_succ_lt (List.findIdx?_eq_some_iff_findIdx_eq.mp hk).1
    rw [List.getElem?_append_left hl] at hj
    exact u9.trans (congrArg _ (vL (iZ hk) (.inr (by rw [show j + 1 - 1 = j from rfl,List.getElem?_append_left hl]; exact hj))))
  ·exact fun _ _ _ _ _ => trivial
  ·intro t j v hf Ms hp
   have hl := (List.findIdx?_eq_some_iff_findIdx_eq.mp hf).1
   refine ⟨58 :: t.take (j + 2),by simp,fun a rest r e ha => ?_⟩
   have hl2 : (t.take (j + 2)).length = j + 2 := by rw [List.length_take]; lia
   refine u9.trans (congrArg (vK 91 ms cs (58 :: (t.take (j + 2) ++ (a ++ r)))) (?_ : fu (t.take (j + 2) ++ (a ++ r)) = .cls v (a ++ r)))
   rw [Bt (v := v) (Ld hf _)]
   ·rw [List.drop_append_of_le_length (by lia),List.drop_of_length_le (by lia),List.nil_append]
   ·rw [List.getElem?_append_left (by lia),List.getElem?_take,if_pos (by lia)]; exact Ms
   ·rw [List.take_append_of_le_length (by lia),List.take_take,Nat.min_eq_left (by lia)]; exact hp
 ·refine fun prev ms cs c s h1 h2 h3 => ⟨[],rfl,fun a rest r e ha => Cd h1 h2 ?_⟩
  cases a with
  | nil => cases ha
  | cons d a => subst e; exact h3
theorem Wg (n : Nat) (first : Bool) (prev : Option UInt8) (ms : List Mem) (cs : List Bs) (s : Bs) {iM : List Mem} {cs' : List Bs} {rest : Bs} (h : brk n first prev ms cs s = some (iM,cs',rest)) :
  ∃ a,s = a ++ rest /\ 93 ∈ a /\ ∀ (r : Bs) (m : Nat),(a ++ r).length < m -> brk m first prev ms cs (a ++ r) = some (iM,cs',r) := by
 refine Bf (P := fun first prev ms cs s iM cs' rest => ∃ a,s = a ++ rest /\ 93 ∈ a /\ ∀ (r : Bs) (m : Nat),(a ++ r).length < m -> brk m first prev ms cs (a ++ r) = some (iM,cs',r)) (fun prev ms cs s => ?_) (fun first prev ms cs c s p1 m1 c1 s1 iM cs' rest hc hs b => ?_) n _ _ _ _ _ _ _ _ h
 ·refine ⟨[93],rfl,.head _,fun r m hm => ?_⟩
  obtain ⟨m,rfl⟩ := pW hm
  rfl
 ·obtain ⟨a,rfl,ha,hr⟩ := b
  obtain ⟨b,rfl,hb⟩ := yD hs
  refine ⟨c :: (b ++ a),(congrArg (c :: ·) (List.append_assoc _ _ _)).symm,.tail _ (List.mem_append_right _ ha),fun r m hm => ?_⟩
  obtain ⟨m,rfl⟩ := pW hm
  show brk (m + 1) first prev ms cs (c :: (b ++ a ++ r)) = _
  rw [Ef,if_neg hc,List.append_assoc,hb a _ r rfl ha]
  refine hr r m (Nat.lt_of_le_of_lt ?_ (Nat.lt_of_succ_lt_succ hm))
  show (a ++ r).length <= (b ++ a ++ r).length
  rw [List.append_assoc,List.length_append (as := b)]
  exact Nat.le_add_left _ _
def lW (a : Bs) (neg : Bool) (ms : List Mem) (cs : List Bs) : Prop := ∀ r,bracket (a ++ r) = some (neg,ms,cs,r)
set_option tactic.hygienic true in
theorem Eh {s : Bs} {neg : Bool} {ms : List Mem} {cs : List Bs} {rest : Bs} (h : bracket s = some (neg,ms,cs,rest)) : ∃ a,s = a ++ rest /\ 93 ∈ a /\ lW a neg ms cs := by
 unfold bracket at h
 split at h
 ·exact cN h
 ·rename_i iM cs' rest' hb
  cases h
  obtain ⟨a,e,ha,hr⟩ := Wg _ _ _ _ _ _ hb
  cases hn : kW s with
  | false =>
   rw [hn] at e hb
   simp only [Bool.false_eq_true,if_false] at e
   refine ⟨a,e,ha,fun r => ?_⟩
   have hn' : kW (a ++ r) = false := by
    cases a with
    | nil => cases ha
    | cons c a => rw [e] at hn; exact hn
   unfold bracket
   rw [hn']
   simp only [Bool.false_eq_true,if_false]
   rw [hr r _ (Nat.lt_succ_self _)]
  | true =>
   rw [hn] at e hb
   simp only [if_true] at e
   cases s with
   | nil => exact qD hn
   | cons c s1 =>
    simp only [List.drop_succ_cons,List.drop_zero] at e
    refine ⟨c :: a,by rw [e]; rfl,.tail _ ha,fun r => ?_⟩
    have hn' : kW (c :: a ++ r) = true := hn
    unfold bracket
    rw [hn']
    simp only [if_true,List.cons_append,List.drop_succ_cons,List.drop_zero]
    rw [hr r _ (Nat.lt_succ_self _)]
inductive Its : Bs -> List Item -> Prop
 | nil : Its [] []
 | lone : Its [92] [.chr 92]
 | esc {c : UInt8} {s : Bs} {is : List Item} (h : Its s is) : Its (92 :: c :: s) (.chr c :: is)
 | cls {a : Bs} {neg : Bool} {ms : List Mem} {cs : List Bs} {s : Bs} {is : List Item} (h1 : lW a neg ms cs) (h : Its s is) : Its (91 :: (a ++ s)) (itemOf neg ms cs :: is)
 | chr {c : UInt8} {s : Bs} {is : List Item} (h1 : c ≠ 92) (h2 : c ≠ 91) (h : Its s is) : Its (c :: s) (.chr c :: is)
inductive Bad : Bs -> Prop
 | brk {s : Bs} (h : bracket s = none) : Bad (91 :: s)
 | esc {c : UInt8} {s : Bs} (h : Bad s) : Bad (92 :: c :: s)
 | cls {a : Bs} {neg : Bool} {ms : List Mem} {cs : List Bs} {s : Bs} (h1 : lW a neg ms cs) (h : Bad s) : Bad (91 :: (a ++ s))
 | chr {c : UInt8} {s : Bs} (h1 : c ≠ 92) (h2 : c ≠ 91) (h : Bad s) : Bad (c :: s)
theorem mX : ∀ (n : Nat) (s : Bs),s.length <= n -> (∃ is,Its s is) \/ Bad s
 | _,[],_ => .inl ⟨_,.nil⟩
 | n + 1,c :: s,hn => by
  by_cases Dn : c = 92
  ·subst Dn
   cases s with
   | nil => exact .inl ⟨_,.lone⟩
   | cons d s =>
    rcases mX n s (by simp at hn; lia) with ⟨is,h⟩ | h
    ·exact .inl ⟨_,.esc h⟩
    ·exact .inr (.esc h)
  ·by_cases h91 : c = 91
   ·subst h91
    cases hb : bracket s with
    | none => exact .inr (.brk hb)
    | some r =>
     obtain ⟨neg,ms,cs,rest⟩ := r
     obtain ⟨a,e,ha,ht⟩ := Eh hb
     subst e
     rcases mX n rest (by simp at hn; lia) with ⟨is,h⟩ | h
     ·exact .inl ⟨_,.cls ht h⟩
     ·exact .inr (.cls ht h)
   ·rcases mX n s (by simp at hn; omega) with ⟨is,h⟩ | h
    ·exact .inl ⟨_,.chr Dn h91 h⟩
    ·exact .inr (.chr Dn h91 h)
structure R3 (a : Bs) (ms : List Mem) (cs : List Bs) : Prop where
 lm : ms.length <= a.length
 lc : cs.length <= a.length
 cs : tM cs
 ne : 0 < a.length
set_option tactic.hygienic true in
theorem lW.ok {a : Bs} {neg : Bool} {ms : List Mem} {cs : List Bs} (h : lW a neg ms cs) : R3 a ms cs := by
 have h := h []
 rw [List.append_nil] at h
 unfold bracket at h
 split at h
 ·exact cN h
 ·rename_i iM cs' rest' hb
  cases h
  have ok := RT _ _ _ _ _ _ hb
  have h1 := ok.lm; have h2 := ok.lc; have h3 := ok.len
  have hl : (if kW a then a.drop 1 else a).length <= a.length := by split <;> simp
  simp only [List.length_nil,Nat.zero_add] at h1 h2
  exact ⟨by lia,by lia,ok.cs (fun v hv => by cases hv),by lia⟩
theorem Dg {a : Bs} {ms : List Mem} {cs : List Bs} (h : R3 a ms cs) (neg : Bool) : (itemOf neg ms cs).text.length <= 29 * a.length + 5 := by
 have h1 := qj ms
 have h2 := Dv h.cs
 have h3 : (bJ (eU ms cs)).length <= 29 * a.length := by
  rw [uF h.cs,List.length_append]
  have := h.lm; have := h.lc
  lia
 unfold itemOf
 split
 ·simp only [Item.text,uD,List.length_cons,List.length_append,if_true]
  have : n6.text.length = 1 := rfl
  simp; lia
 ·split
  ·simp [Item.text]
  ·simp only [Item.text,List.length_cons,List.length_append]
   simp; lia
theorem Vt {a : Bs} {ms : List Mem} {cs : List Bs} (h : R3 a ms cs) (hl : a.length <= 1000) (neg : Bool) : (itemOf neg ms cs).ok := by
 have h1 := Hj (ms := ms) h.cs
 have := h.lm; have := h.lc
 unfold itemOf
 split
 ·refine ⟨fun c hc => ?_,by simp; lia⟩
  rcases List.mem_cons.mp hc with rfl | hc
  ·exact J7
  ·exact oK ms cs c hc
 ·split
  ·trivial
  ·exact ⟨oK ms cs,by lia⟩
theorem vp {s : Bs} {is : List Item} (h : Its s is) : (bD is).length <= 40 * s.length := by
 induction h with
 | nil => simp
 | lone => simp [Item.text]; have := gG 92; lia
 | @esc c s is h ih => simp [Item.text]; have := gG c; lia
 | cls h1 h ih =>
  have a := Dg h1.ok (neg := ‹_›)
  have b := h1.ok.ne
  simp only [uq,List.length_cons,List.length_append]
  lia
 | @chr c s is h1 h2 h ih => simp [Item.text]; have := gG c; lia
theorem GC {s : Bs} {is : List Item} (h : Its s is) (hl : s.length <= 1000) : ∀ it ∈ is,it.ok := by
 induction h with
 | nil => intro it h; cases h
 | lone => intro it h; rw [List.mem_singleton] at h; subst h; trivial
 | esc h ih =>
  intro it hi
  rcases List.mem_cons.mp hi with rfl | hi
  ·trivial
  ·exact ih (by simp at hl; lia) it hi
 | cls h1 h ih =>
  intro it hi
  rcases List.mem_cons.mp hi with rfl | hi
  ·exact Vt h1.ok (by simp at hl; lia) _
  ·exact ih (by simp at hl; lia) it hi
 | chr h1 h2 h ih =>
  intro it hi
  rcases List.mem_cons.mp hi with rfl | hi
  ·trivial
  ·exact ih (by simp at hl; lia) it hi
def noStar (s : Bs) : Prop := ∀ c ∈ s,c ≠ 42 /\ c ≠ 63
noncomputable abbrev Fx := (bV aW).1
noncomputable abbrev Fy := (bV aW).2
section
variable {C : bK} {x : Bs}
noncomputable def zW (x res : Bs) (i : Int) (c4 c5 : Option Val) : Ls := [some (.bytes x),some (.bytes res),some (.int i),some (.int (x.length : Int)),c4,c5]
inductive SgG (x : Bs) (h : H) (w : SR) (res : Bs) : Prop where
 | mk (t : H) (i c4 c5 : Option Val) (e : w = .ok .next [some (.bytes x),some (.bytes res),i,some (.int (x.length : Int)),c4,c5] (h ++ t)) : SgG x h w res
theorem SgG.app {h t : H} {w : SR} {res a b : Bs} (g : SgG x (h ++ t) w res) (e : res = a ++ b) : SgG x h w (a ++ b) := by
 obtain ⟨t2,i,c4,c5,g⟩ := g
 exact ⟨t ++ t2,i,c4,c5,by rw [g,e,List.append_assoc]⟩
section
variable {n k : Nat} {res : Bs} {c4 c5 : Option Val} {h : H} {s : Bs}
theorem qg {b : Bs} (hr : res.length + b.length <= 20000) (ls : Ls) (h : H) : nG 1 .add (.bytes res) (.bytes b) ls h = .ok .next (ls.set 1 (some (.bytes (res ++ b)))) h := dG (lim (by lia))
theorem X8 (hx : x.drop k = []) : wh C Fx Fy (n + 1) (zW x res k c4 c5) h = .ok .next (zW x res k c4 c5) h := by
 have hj : x.length <= k := by simpa using hx
 rw [aH]
 simp [zW,Fx,Fy,aW,Nat.not_lt.mpr hj]
theorem Ud {t : H} (hL : x.length <= bH) (hx : x.drop k = [92]) (ht : C gj [.bytes [92]] h = .ok (.bytes (fC 92)) (h ++ t)) (hr : res.length + (fC 92).length <= 20000) : wh C Fx Fy (n + 1 + 1) (zW x res k c4 c5) h = .ok .next (zW x (res ++ fC 92) ((k : Int) + 1) (some (.bytes [92])) c5) (h ++ t) := by
 have hsl : gR x k ((k : Int) + 1) [92] := vf hL hx rfl rfl
 have he : ¬ ((k : Int) + 1 < x.length) := Int.not_lt.mpr (za 1 hx rfl (Nat.le_of_lt (kle hx)))
 rw [aH]
 simp [zW,Fx,Fy,aW,kle hx,hsl,he,ht,qg hr,aH]
theorem Yb {c : UInt8} {t : H} (hL : x.length <= bH) (hx : x.drop k = 92 :: c :: s) (ht : C gj [.bytes [c]] h = .ok (.bytes (fC c)) (h ++ t)) (hr : res.length + (fC c).length <= 20000) : wh C Fx Fy (n + 1) (zW x res k c4 c5) h = wh C Fx Fy n (zW x (res ++ fC c) ((k + 2 : Nat) : Int) (some (.bytes [92])) c5) (h ++ t) := by
 have hsl : gR x k ((k : Int) + 1) [92] := vf hL hx rfl rfl
 have afW : gR x ((k : Int) + 1) ((k : Int) + 1 + 1) [c] := vf hL (aB hx 1) rfl rfl
 have he : (k : Int) + 1 < x.length := mz 1 hx (by simp)
 have e2 : ((k + 2 : Nat) : Int) = (k : Int) + 1 + 1 := rfl
 rw [aH,e2]
 simp [zW,Fx,Fy,aW,kle hx,hsl,afW,he,ht,qg hr]
theorem Yc {i1 : Int} {b : Bs} {t : H} (hL : x.length <= bH) (hx : x.drop k = 91 :: s) (ht : C aU [.bytes x,.int ((k + 1 : Nat) : Int)] h = .ok (.tup [.int i1,.bytes b]) (h ++ t)) (hr : res.length + b.length <= 20000) : wh C Fx Fy (n + 1) (zW x res k c4 c5) h = wh C Fx Fy n (zW x (res ++ b) i1 (some (.bytes [91])) (some (.bytes b))) (h ++ t) := by
 have hsl : gR x k ((k : Int) + 1) [91] := vf hL hx rfl rfl
 simp at ht
 rw [aH]
 simp [zW,Fx,Fy,aW,kle hx,hsl,ht,qg hr]
theorem Yd {c : UInt8} {t : H} (h1 : c ≠ 92) (h2 : c ≠ 91) (h3 : c ≠ 42 /\ c ≠ 63) (hL : x.length <= bH) (hx : x.drop k = c :: s) (ht : C gj [.bytes [c]] h = .ok (.bytes (fC c)) (h ++ t)) (hr : res.length + (fC c).length <= 20000) : wh C Fx Fy (n + 1) (zW x res k c4 c5) h = wh C Fx Fy n (zW x (res ++ fC c) ((k + 1 : Nat) : Int) (some (.bytes [c])) c5) (h ++ t) := by
 have hsl : gR x k ((k : Int) + 1) [c] := vf hL hx rfl rfl
 obtain ⟨h3,h4⟩ := h3
 rw [aH]
 simp [zW,Fx,Fy,aW,kle hx,hsl,h1,h2,h3,h4,ht,qg hr]
end
theorem Uc (hE : uK C) (hT : xH C) (hl : x.length <= 200) {s : Bs} {is : List Item} (hits : Its s is) : ∀ (k n : Nat) (res : Bs) (h : H) (c4 c5 : Option Val),x.drop k = s -> noStar s -> s.length < n -> res.length + 40 * s.length <= 20000 ->
  SgG x h (wh C Fx Fy n (zW x res k c4 c5) h) (res ++ bD is) := by
 have hL : x.length <= bH := lim (by lia)
 induction hits with
 | nil =>
  intro k n res h c4 c5 hx hs hn hr
  cases n with
  | zero => exact absurd hn (Nat.not_lt_zero _)
  | succ n =>
   refine ⟨[],some (.int k),c4,c5,?_⟩
   rw [X8 hx]; simp [zW]
 | lone =>
  intro k n res h c4 c5 hx hs hn hr
  cases n with
  | zero => exact absurd hn (Nat.not_lt_zero _)
  | succ n => cases n with
   | zero => exact absurd hn (Nat.lt_irrefl 1)
   | succ n =>
    obtain ⟨t,ht⟩ := hE 92 h
    have hel := gG 92
    exact ⟨t,some (.int ((k : Int) + 1)),some (.bytes [92]),c5,by rw [Ud hL hx ht (by simp at hr; lia)]; simp [zW,Item.text]⟩
 | @esc c s is hits ih =>
  intro k n res h c4 c5 hx hs hn hr
  cases n with
  | zero => exact absurd hn (Nat.not_lt_zero _)
  | succ n =>
   obtain ⟨t,ht⟩ := hE c h
   have hel := gG c
   simp only [List.length_cons] at hn hr
   rw [Yb hL hx ht (by lia)]
   exact (ih (k + 2) n (res ++ fC c) (h ++ t) (some (.bytes [92])) c5 (aB hx 2) (fun d hd => hs d (.tail _ (.tail _ hd))) (by lia) (by rw [List.length_append]; lia)).app (by simp [Item.text])
 | @cls a neg ms cs s is h1 hits ih =>
  intro k n res h c4 c5 hx hs hn hr
  cases n with
  | zero => exact absurd hn (Nat.not_lt_zero _)
  | succ n =>
   have tb := hT x (k + 1) ((k + 1 : Nat) : Int) (a ++ s) h rfl (aB hx 1) (kle hx) hl
   rw [h1 s] at tb
   obtain ⟨j,i1,t,rfl,hj,hjl,ht⟩ := tb
   have hel := Dg h1.ok neg
   have hne := h1.ok.ne
   simp only [List.length_cons,List.length_append] at hn hr
   rw [Yc hL hx ht (by lia)]
   exact (ih j n (res ++ (itemOf neg ms cs).text) (h ++ t) (some (.bytes [91])) (some (.bytes (itemOf neg ms cs).text)) hj (fun d hd => hs d (.tail _ (List.mem_append_right _ hd))) (by lia) (by rw [List.length_append]; lia)).app (by simp)
 | @chr c s is h1 h2 hits ih =>
  intro k n res h c4 c5 hx hs hn hr
  cases n with
  | zero => exact absurd hn (Nat.not_lt_zero _)
  | succ n =>
   obtain ⟨t,ht⟩ := hE c h
   have hel := gG c
   simp only [List.length_cons] at hn hr
   rw [Yd h1 h2 (hs c (.head _)) hL hx ht (by lia)]
   exact (ih (k + 1) n (res ++ fC c) (h ++ t) (some (.bytes [c])) c5 (aB hx 1) (fun d hd => hs d (.tail _ hd)) (by lia) (by rw [List.length_append]; lia)).app (by simp [Item.text])
def R6 (C : bK) : Prop := ∀ (x : Bs) (is : List Item) (h : H),Its x is -> noStar x -> x.length <= 200 -> ∃ t,C eN [.bytes x] h = .ok (.bytes (bD is)) (h ++ t)
theorem Ug (hE : uK C) (hT : xH C) {is : List Item} {h : H} (hits : Its x is) (hs : noStar x) (hl : x.length <= 200) : ∃ t,cj C ⟨1,[],6,aW⟩ [.bytes x] h = .ok (.bytes (bD is)) (h ++ t) := by
 have hL : x.length <= bH := lim (by lia)
 obtain ⟨t,i',c4,c5,e⟩ := Uc hE hT hl hits 0 FUEL [] h none none rfl hs (mW (by lia)) (by simp; lia)
 have hne : ¬ x = [42] := by
  rintro rfl
  exact (hs 42 (.head _)).1 rfl
 refine ⟨t,?_⟩
 rw [aN (by rfl)]
 simp only [Fx,Fy,zW,jA,jD,jB,jC,agj,aW,List.nil_append,Int.ofNat_zero,Int.natCast_zero] at e ⊢
 simp [hne,bA _ hL]
 rw [e]
 simp
end
def Ey (cur : Bs) (mQ : List Item) : Prop := ∀ s is,Its s is -> Its (cur ++ s) (mQ ++ is)
theorem Ey.nil : Ey [] [] := fun _ _ h => h
theorem Ey.esc {cur : Bs} {mQ : List Item} (h : Ey cur mQ) (c : UInt8) : Ey (cur ++ [92,c]) (mQ ++ [.chr c]) := fun s is q => by
 have := h _ _ (Its.esc (c := c) q); simpa using this
theorem Ey.cls {cur : Bs} {mQ : List Item} (h : Ey cur mQ) {a : Bs} {neg : Bool} {ms : List Mem} {cs : List Bs} (h1 : lW a neg ms cs) : Ey (cur ++ 91 :: a) (mQ ++ [itemOf neg ms cs]) := fun s is q => by
 have := h _ _ (Its.cls h1 q); simpa using this
theorem Ey.chr {cur : Bs} {mQ : List Item} (h : Ey cur mQ) {c : UInt8} (h1 : c ≠ 92) (h2 : c ≠ 91) : Ey (cur ++ [c]) (mQ ++ [.chr c]) := fun s is q => by
 have := h _ _ (Its.chr h1 h2 q); simpa using this
theorem Ey.its {cur : Bs} {mQ : List Item} (h : Ey cur mQ) : Its cur mQ := by
 have := h _ _ Its.nil; simpa using this
noncomputable def pY : List (List Item) -> List Item -> List Item
 | [],l => l
 | a :: r,l => a ++ .chr 47 :: pY r l
@[simp] theorem aaP (l : List Item) : pY [] l = l := rfl
@[simp] theorem Zk (a : List Item) (r : List (List Item)) (l : List Item) : pY (a :: r) l = a ++ .chr 47 :: pY r l := rfl
noncomputable abbrev spT := (bV aJ).1
noncomputable abbrev xR := (bV aJ).2
noncomputable def bv (p : Bs × List Item) : Val := .bytes p.1
section
variable {C : bK} {x : Bs}
structure JH (x : Bs) (p : Bs × List Item) : Prop where
 its : Its p.1 p.2
 sub : ∀ c ∈ p.1,c ∈ x
 len : p.1.length <= x.length
structure ahr (x : Bs) (tot : List Item) (more : List (Bs × List Item)) (start : Nat) (CP : List Item) : Prop where
 ok : ∀ p ∈ more,JH x p
 last : Its (x.drop start) CP
 join : tot = pY (more.map (·.2)) CP
 cnt : more.length <= x.length
noncomputable def spS (x : Bs) (h : H) (st i : Int) (c4 c5 : Option Val) : Ls := [some (.bytes x),some (.lst h.length),some (.int st),some (.int i),c4,c5]
section
variable {n k start : Nat} {st : Int} {c4 c5 : Option Val} {h hh : H} {s : Bs}
theorem X6 (hL : x.length <= bH) (hx : x.drop k = []) : wh C spT xR (n + 1) (spS x h st k c4 c5) hh = .ok .next (spS x h st k c4 c5) hh := by
 have hj : x.length <= k := by simpa using hx
 rw [aH]
 simp [spS,spT,xR,aJ,lbl hL,Nat.not_lt.mpr hj]
theorem T6 (hL : x.length <= bH) (hx : x.drop k = [92]) : wh C spT xR (n + 1 + 1) (spS x h st k c4 c5) hh = .ok .next (spS x h st ((k : Int) + 1) (some (.bytes [92])) c5) hh := by
 have hsl : gR x k ((k : Int) + 1) [92] := vf hL hx rfl rfl
 have he : ¬ ((k : Int) + 1 < x.length) := Int.not_lt.mpr (za 1 hx rfl (Nat.le_of_lt (kle hx)))
 rw [aH]
 simp [spS,spT,xR,aJ,lbl hL,kle hx,hsl,he,aH]
theorem Nm {c : UInt8} (hL : x.length <= bH) (hx : x.drop k = 92 :: c :: s) : wh C spT xR (n + 1) (spS x h st k c4 c5) hh = wh C spT xR n (spS x h st ((k + 2 : Nat) : Int) (some (.bytes [92])) c5) hh := by
 have hsl : gR x k ((k : Int) + 1) [92] := vf hL hx rfl rfl
 have he : (k : Int) + 1 < x.length := mz 1 hx (by simp)
 rw [aH]
 simp [spS,spT,xR,aJ,lbl hL,kle hx,hsl,he]
theorem Np {i1 : Int} {b : Bs} {h2 : H} (hL : x.length <= bH) (hx : x.drop k = 91 :: s) (ht : C aU [.bytes x,.int ((k + 1 : Nat) : Int)] hh = .ok (.tup [.int i1,.bytes b]) h2) : wh C spT xR (n + 1) (spS x h st k c4 c5) hh = wh C spT xR n (spS x h st i1 (some (.bytes [91])) (some (.bytes b))) h2 := by
 have hsl : gR x k ((k : Int) + 1) [91] := vf hL hx rfl rfl
 simp at ht
 rw [aH]
 simp [spS,spT,xR,aJ,lbl hL,kle hx,hsl,ht]
theorem abv {h' : H} (hL : x.length <= bH) (hx : x.drop k = 91 :: s) (ht : C aU [.bytes x,.int ((k + 1 : Nat) : Int)] hh = .exc h') : wh C spT xR (n + 1) (spS x h st k c4 c5) hh = .exc (spS x h st k (some (.bytes [91])) c5) h' := by
 have hsl : gR x k ((k : Int) + 1) [91] := vf hL hx rfl rfl
 simp at ht
 rw [aH]
 simp [spS,spT,xR,aJ,lbl hL,kle hx,hsl,ht]
theorem Nq {c : UInt8} (n1 : c ≠ 92) (n2 : c ≠ 91) (n3 : c ≠ 47) (hL : x.length <= bH) (hx : x.drop k = c :: s) : wh C spT xR (n + 1) (spS x h st k c4 c5) hh = wh C spT xR n (spS x h st ((k + 1 : Nat) : Int) (some (.bytes [c])) c5) hh := by
 have hsl : gR x k ((k : Int) + 1) [c] := vf hL hx rfl rfl
 rw [aH]
 simp [spS,spT,xR,aJ,lbl hL,kle hx,hsl,n1,n2,n3]
theorem Nk {acc : List Val} {t : H} (ha : acc.length <= 1000) (hL : x.length <= bH) (hx : x.drop k = 47 :: s) : wh C spT xR (n + 1) (spS x h (start : Int) k c4 c5) (h ++ .lst acc :: t) = wh C spT xR n (spS x h ((k + 1 : Nat) : Int) ((k + 1 : Nat) : Int) (some (.bytes [47])) c5) (h ++ .lst (acc ++ [.bytes (Bd x (some start) (some k))]) :: t) := by
 have hsl : gR x k ((k : Int) + 1) [47] := vf hL hx rfl rfl
 have afX : gR x start k (Bd x (some start) (some k)) := fun h => fU _ hL
 have happ : ∀ v,gW .aO (.lst h.length) [v] (h ++ .lst acc :: t) = .ok .none (h ++ .lst (acc ++ [v]) :: t) := fun v => eG (iV (by lia))
 rw [aH]
 simp [spS,spT,xR,aJ,lbl hL,kle hx,hsl,afX,happ]
end
inductive JG (x : Bs) (h : H) (w : SR) (acc : List Val) (t : H) (mQ is : List Item) (m : Nat) : Prop where
 | mk (more : List (Bs × List Item)) (start : Nat) (CP : List Item) (t' : H) (i c4 c5 : Option Val)
 (g : w = .ok .next [some (.bytes x),some (.lst h.length),some (.int (start : Int)),i,c4,c5] (h ++ .lst (acc ++ more.map bv) :: (t ++ t'))) (b : ∀ p ∈ more,JH x p) (c : Its (x.drop start) CP) (d : mQ ++ is = pY (more.map (·.2)) CP) (f : more.length <= m) : JG x h w acc t mQ is m
theorem JG.nil {h t : H} {w : SR} {acc : List Val} {mQ is CP : List Item} {m start : Nat} {i c4 c5 : Option Val} (e : w = .ok .next [some (.bytes x),some (.lst h.length),some (.int (start : Int)),i,c4,c5] (h ++ .lst acc :: t)) (h1 : Its (x.drop start) CP) (h2 : mQ ++ is = CP) : JG x h w acc t mQ is m :=
 ⟨[],start,CP,[],i,c4,c5,by rw [e]; simp,(nofun),h1,h2,Nat.zero_le _⟩
theorem JG.up {h t t1 : H} {w : SR} {acc : List Val} {mQ Rz is is2 : List Item} {m m2 : Nat} (g : JG x h w acc (t ++ t1) mQ is m) (e : Rz ++ is2 = mQ ++ is) (hm : m <= m2) : JG x h w acc t Rz is2 m2 := by
 obtain ⟨more,start,CP,t',i,c4,c5,a,b,c,d,f⟩ := g
 exact ⟨more,start,CP,t1 ++ t',i,c4,c5,by rw [a,List.append_assoc t],b,c,e.trans d,Nat.le_trans f hm⟩
theorem JG.up0 {h t : H} {w : SR} {acc : List Val} {mQ Rz is is2 : List Item} {m m2 : Nat} (g : JG x h w acc t mQ is m) (e : Rz ++ is2 = mQ ++ is) (hm : m <= m2) : JG x h w acc t Rz is2 m2 := by
 obtain ⟨more,start,CP,t',i,c4,c5,a,b,c,d,f⟩ := g
 exact ⟨more,start,CP,t',i,c4,c5,a,b,c,e.trans d,Nat.le_trans f hm⟩
theorem JG.sep {h t : H} {w : SR} {acc : List Val} {mQ is : List Item} {cur : Bs} {m : Nat} (g : JG x h w (acc ++ [.bytes cur]) t [] is m) (ok : JH x (cur,mQ)) : JG x h w acc t mQ (.chr 47 :: is) (m + 1) := by
 obtain ⟨more,start,CP,t',i,c4,c5,a,b,c,d,f⟩ := g
 refine ⟨(cur,mQ) :: more,start,CP,t',i,c4,c5,by rw [a]; simp [bv],fun p hp => ?_,c,by rw [List.nil_append] at d; simp [pY,d],Nat.succ_le_succ f⟩
 rcases List.mem_cons.mp hp with rfl | hp
 ·exact ok
 ·exact b p hp
theorem T5 (hT : xH C) (hl : x.length <= 200) {h : H} {s : Bs} {is : List Item} (hits : Its s is) : ∀ (k n start : Nat) (cur : Bs) (mQ : List Item) (acc : List Val) (t : H) (c4 c5 : Option Val),x.drop k = s -> k <= x.length -> x.drop start = cur ++ s -> start + cur.length = k -> Ey cur mQ -> s.length < n -> acc.length + s.length <= 1000 ->
  JG x h (wh C spT xR n (spS x h start k c4 c5) (h ++ .lst acc :: t)) acc t mQ is s.length := by
 have hL : x.length <= bH := lim (by lia)
 induction hits with
 | nil =>
  intro k n start cur mQ acc t c4 c5 hx hk hxs hsk yp hn ha
  cases n with
  | zero => exact absurd hn (Nat.not_lt_zero _)
  | succ n => exact .nil (X6 hL hx) (by rw [hxs,List.append_nil]; exact yp.its) (List.append_nil _)
 | lone =>
  intro k n start cur mQ acc t c4 c5 hx hk hxs hsk yp hn ha
  cases n with
  | zero => exact absurd hn (Nat.not_lt_zero _)
  | succ n => cases n with
   | zero => exact absurd hn (Nat.lt_irrefl 1)
   | succ n => exact .nil (T6 hL hx) (by rw [hxs]; exact yp _ _ Its.lone) rfl
 | @esc c s is hits ih =>
  intro k n start cur mQ acc t c4 c5 hx hk hxs hsk yp hn ha
  cases n with
  | zero => exact absurd hn (Nat.not_lt_zero _)
  | succ n =>
   rw [Nm hL hx]
   simp only [List.length_cons] at hn ha
   exact (ih (k + 2) n start (cur ++ [92,c]) (mQ ++ [.chr c]) acc t (some (.bytes [92])) c5 (aB hx 2) (kle (aB hx 1)) (by simpa using hxs) (by simp; lia) (yp.esc c) (by lia) (by lia)).up0 (by simp) (Nat.le_add_right _ 2)
 | @cls a neg ms cs s is hb hits ih =>
  intro k n start cur mQ acc t c4 c5 hx hk hxs hsk yp hn ha
  cases n with
  | zero => exact absurd hn (Nat.not_lt_zero _)
  | succ n =>
   have tb := hT x (k + 1) ((k + 1 : Nat) : Int) (a ++ s) (h ++ .lst acc :: t) rfl (aB hx 1) (kle hx) hl
   rw [hb s] at tb
   obtain ⟨j,i1,t1,rfl,hj,hjl,ht⟩ := tb
   have hjs := jW hj
   have hks := jW hx
   rw [Np hL hx ht]
   simp only [List.length_cons,List.length_append] at hn ha hks
   rw [List.append_assoc,List.cons_append]
   exact (ih j n start (cur ++ 91 :: a) (mQ ++ [itemOf neg ms cs]) acc (t ++ t1) (some (.bytes [91])) (some (.bytes (itemOf neg ms cs).text)) hj hjl (by simpa using hxs) (by simp; lia) (yp.cls hb) (by lia) (by lia)).up (by simp) (by simp; lia)
 | @chr c s is n1 n2 hits ih =>
  intro k n start cur mQ acc t c4 c5 hx hk hxs hsk yp hn ha
  cases n with
  | zero => exact absurd hn (Nat.not_lt_zero _)
  | succ n =>
   simp only [List.length_cons] at hn ha
   by_cases hc : c = 47
   ·subst hc
    have hb : Bd x (some start) (some k) = cur := by rw [gA hxs 0 cur.length (by simp) (by lia)]; simp
    rw [Nk (by lia) hL hx,hb]
    refine JG.sep (ih (k + 1) n (k + 1) [] [] (acc ++ [.bytes cur]) t (some (.bytes [47])) c5 (aB hx 1) (kle hx) (aB hx 1) rfl Ey.nil (by lia) (by simp; lia)) ⟨yp.its,fun d hd => ?_,by show cur.length <= x.length; lia⟩
    have : d ∈ x.drop start := by rw [hxs]; exact List.mem_append_left _ hd
    exact List.mem_of_mem_drop this
   ·rw [Nq n1 n2 hc hL hx]
    exact (ih (k + 1) n start (cur ++ [c]) (mQ ++ [.chr c]) acc t (some (.bytes [c])) c5 (aB hx 1) (kle hx) (by simpa using hxs) (by simp; lia) (yp.chr n1 n2) (by lia) (by lia)).up0 (by simp) (Nat.le_succ _)
theorem X7 (hT : xH C) (hl : x.length <= 200) {h : H} {s : Bs} (hbad : Bad s) : ∀ (k n start : Nat) (acc : List Val) (t : H) (c4 c5 : Option Val),x.drop k = s -> s.length < n -> acc.length + s.length <= 1000 -> ∃ ls' h',wh C spT xR n (spS x h start k c4 c5) (h ++ .lst acc :: t) = .exc ls' h' := by
 have hL : x.length <= bH := lim (by lia)
 induction hbad with
 | @brk s hb =>
  intro k n start acc t c4 c5 hx hn ha
  cases n with
  | zero => exact absurd hn (Nat.not_lt_zero _)
  | succ n =>
   have tb := hT x (k + 1) ((k + 1 : Nat) : Int) s (h ++ .lst acc :: t) rfl (aB hx 1) (kle hx) hl
   rw [hb] at tb
   obtain ⟨h',ht⟩ := tb
   exact ⟨_,h',abv hL hx ht⟩
 | @esc c s hb ih =>
  intro k n start acc t c4 c5 hx hn ha
  cases n with
  | zero => exact absurd hn (Nat.not_lt_zero _)
  | succ n =>
   simp only [List.length_cons] at hn ha
   rw [Nm hL hx]; exact ih (k + 2) n start acc t _ c5 (aB hx 2) (by lia) (by lia)
 | @cls a neg ms cs s hb hb2 ih =>
  intro k n start acc t c4 c5 hx hn ha
  cases n with
  | zero => exact absurd hn (Nat.not_lt_zero _)
  | succ n =>
   have tb := hT x (k + 1) ((k + 1 : Nat) : Int) (a ++ s) (h ++ .lst acc :: t) rfl (aB hx 1) (kle hx) hl
   rw [hb s] at tb
   obtain ⟨j,i1,t1,rfl,hj,hjl,ht⟩ := tb
   simp only [List.length_cons,List.length_append] at hn ha
   rw [Np hL hx ht,List.append_assoc,List.cons_append]
   exact ih j n start acc (t ++ t1) _ _ hj (by lia) (by lia)
 | @chr c s n1 n2 hb ih =>
  intro k n start acc t c4 c5 hx hn ha
  cases n with
  | zero => exact absurd hn (Nat.not_lt_zero _)
  | succ n =>
   simp only [List.length_cons] at hn ha
   by_cases hc : c = 47
   ·subst hc
    rw [Nk (by lia) hL hx]
    exact ih (k + 1) n (k + 1) _ t _ c5 (aB hx 1) (by lia) (by simp; lia)
   ·rw [Nq n1 n2 hc hL hx]; exact ih (k + 1) n start acc t _ c5 (aB hx 1) (by lia) (by lia)
def R5 (s : Bs) (is : List Item) (h : H) (w : Res Val) : Prop := ∃ (dU : List (Bs × List Item)) (more : List (Bs × List Item)) (last : Bs × List Item) (t : H),dU = more ++ [last] /\ w = .ok (.lst h.length) (h ++ .lst (dU.map bv) :: t) /\ (∀ p ∈ dU,JH (91 :: s) p) /\ is = pY (more.map (·.2)) last.2 /\ dU.length <= 201
def JB (C : bK) : Prop := ∀ (s : Bs) (is : List Item) (h : H),Its (91 :: s) is -> (91 :: s).length <= 200 -> R5 s is h (C iK [.bytes (91 :: s)] h)
def xJ (C : bK) : Prop := ∀ (s : Bs) (h : H),Bad (91 :: s) -> (91 :: s).length <= 200 -> ∃ h',C iK [.bytes (91 :: s)] h = .exc h'
theorem tV {s : Bs} {h : H} (hl : (91 :: s).length <= 200) : cj C ⟨1,[],6,aJ⟩ [.bytes (91 :: s)] h = iI (kB C (dJ 4 aJ) (wh C spT xR FUEL (spS (91 :: s) h ((0 : Nat) : Int) ((0 : Nat) : Int) none none) (h ++ .lst [] :: []))) := by
 have hin : ∀ h : H,tR h (.bytes [91]) (.bytes (91 :: s)) = some true := fun h => by rw [Fb _ (lim (by lia))]; simp
 rw [aN (by rfl)]
 simp [spS,spT,xR,aJ,hin]
theorem J3 (hT : xH C) {s : Bs} {is : List Item} {h : H} (hits : Its (91 :: s) is) (hl : (91 :: s).length <= 200) : R5 s is h (cj C ⟨1,[],6,aJ⟩ [.bytes (91 :: s)] h) := by
 obtain ⟨more,start,CP,t,i',c4,c5,e,h1,h2,h3,h4⟩ := T5 hT hl (h := h) hits 0 FUEL 0 [] [] [] [] none none rfl (Nat.zero_le _) rfl rfl Ey.nil (mW (by lia)) (by simp at hl ⊢; lia)
 have h5 : more.length <= 200 := Nat.le_trans h4 hl
 have hsl : ∀ h : H,gO (.bytes (91 :: s)) (.int (start : Int)) .none h = .ok (.bytes ((91 :: s).drop start)) h := fun h => by rw [aa0 _ (lim (by lia)),RQ]
 have happ : ∀ v,gW .aO (.lst h.length) [v] (h ++ .lst (more.map bv) :: t) = .ok .none (h ++ .lst (more.map bv ++ [v]) :: t) := fun v => eG (iV (by rw [List.length_map]; lia))
 refine ⟨_,more,((91 :: s).drop start,CP),t,rfl,?_,fun p hp => ?_,by simpa using h3,by rw [List.length_append]; exact Nat.succ_le_succ h5⟩
 ·rw [tV hl,e]
  simp [aJ,hsl,happ,bv]
 ·rcases List.mem_append.mp hp with hp | hp
  ·exact h1 p hp
  ·rw [List.mem_singleton] at hp
   subst hp
   exact ⟨h2,fun c hc => List.mem_of_mem_drop hc,by simp⟩
theorem J4 (hT : xH C) {s : Bs} {h : H} (hb : Bad (91 :: s)) (hl : (91 :: s).length <= 200) : ∃ h',cj C ⟨1,[],6,aJ⟩ [.bytes (91 :: s)] h = .exc h' := by
 obtain ⟨ls',h',e⟩ := X7 hT hl (h := h) hb 0 FUEL 0 [] [] none none rfl (mW (by lia)) (by simp at hl ⊢; lia)
 exact ⟨h',by rw [tV hl,e,QJ,Dc]⟩
end
section
variable {C : bK} {h : H}
noncomputable def clB : bG := match bN with
 | .cons _ (.cons (.uT _ _ b) _) => b
 | _ => .nil
theorem V7 {m : Nat} {dU : List (Bs × List Item)} (e : h[m]? = some (.lst (dU.map bv))) (hne : ∀ p ∈ dU,p.1 ≠ [42,42]) : ∀ (rest pre : List (Bs × List Item)) (n : Nat) (s2 : Option Val) (acc : List Val),dU = pre ++ rest -> rest.length < n -> acc.length + rest.length <= 1000 ->
  ∃ s2',fr C (putN C 2) clB (.lst m) n pre.length [some (.lst m),some (.lst h.length),s2] (h ++ [.lst acc]) = .ok .next [some (.lst m),some (.lst h.length),s2'] (h ++ [.lst (acc ++ rest.map bv)]) := by
 intro rest
 induction rest with
 | nil =>
  intro pre n s2 acc hr hn ha
  obtain ⟨n,rfl⟩ : ∃ k,n = k + 1 := ⟨n - 1,by simp at hn; lia⟩
  refine ⟨s2,?_⟩
  rw [cJ,dB (hup e),hr]
  simp
 | cons p rest ih =>
  intro pre n s2 acc hr hn ha
  obtain ⟨n,rfl⟩ : ∃ k,n = k + 1 := ⟨n - 1,by simp at hn; lia⟩
  obtain ⟨s2',e2⟩ := ih (pre ++ [p]) n (some (bv p)) (acc ++ [bv p]) (by simp [hr]) (by simp at hn; omega) (by simp at ha ⊢; lia)
  refine ⟨s2',?_⟩
  have hnx : nx (.lst m) pre.length (h ++ [.lst acc]) = some (some (.bytes p.1)) := by rw [dB (hup e),hr]; simp [bv]
  have hp : p.1 ≠ [42,42] := hne p (by rw [hr]; simp)
  rw [cJ,hnx]
  simp only [clB,bN] at e2 ⊢
  simp [bv] at e2
  simp [hp,eG (iV (show acc.length <= 100000 by simp at ha; lia)),e2,bv]
def xM (C : bK) : Prop := ∀ (h : H) (m : Nat) (dU : List (Bs × List Item)),h[m]? = some (.lst (dU.map bv)) -> (∀ p ∈ dU,p.1 ≠ [42,42]) -> dU.length <= 500 -> C fP [.lst m] h = .ok (.lst h.length) (h ++ [.lst (dU.map bv)])
theorem Bb {m : Nat} {dU : List (Bs × List Item)} (e : h[m]? = some (.lst (dU.map bv))) (hne : ∀ p ∈ dU,p.1 ≠ [42,42]) (hl : dU.length <= 500) : cj C ⟨1,[],3,bN⟩ [.lst m] h = .ok (.lst h.length) (h ++ [.lst (dU.map bv)]) := by
 obtain ⟨s2,e2⟩ := V7 (C := C) e hne dU [] FUEL none [] rfl (by have : FUEL = 100000 := bL; lia) (by simp; lia)
 rw [aN (by rfl)]
 simp only [clB,bN,List.length_nil] at e2 ⊢
 simp
 simp at e2
 rw [e2]
 simp
noncomputable def v8 : Bool -> List (Bs × List Item) -> Bs
 | _,[] => []
 | b,p :: r => (if b then [47] else []) ++ (bD p.2 ++ v8 true r)
@[simp] theorem N8 (b : Bool) : v8 b [] = [] := rfl
@[simp] theorem Kq (b : Bool) (p : Bs × List Item) (r : List (Bs × List Item)) : v8 b (p :: r) = (if b then [47] else []) ++ (bD p.2 ++ v8 true r) := rfl
theorem yK : ∀ (more : List (Bs × List Item)) (last : Bs × List Item),v8 false (more ++ [last]) = bD (pY (more.map (·.2)) last.2) /\ v8 true (more ++ [last]) = 47 :: bD (pY (more.map (·.2)) last.2)
 | [],last => by simp
 | p :: more,last => by
  have ih := (yK more last).2
  have hc : (Item.chr 47).text = [47] := by rfl
  simp [ih,yj,hc]
noncomputable abbrev SN := (bV dH).1
noncomputable abbrev SQ := (bV dH).2
inductive TrG (x0 : Option Val) (m : Nat) (h : H) (w : SR) (res : Bs) : Prop where
 | mk (t : H) (i s4 : Option Val) (e : w = .ok .next [x0,some (.bytes res),some (.lst m),i,s4,none] (h ++ t)) : TrG x0 m h w res
theorem TrG.app {x0 : Option Val} {m : Nat} {h t : H} {w : SR} {r r' : Bs} (g : TrG x0 m (h ++ t) w r) (e : r = r') : TrG x0 m h w r' := by
 obtain ⟨t2,i,s4,g⟩ := g
 exact ⟨t ++ t2,i,s4,by rw [g,e,List.append_assoc]⟩
noncomputable def Mj (x0 : Option Val) (res : Bs) (m : Nat) (i : Int) (s4 : Option Val) : Ls := [x0,some (.bytes res),some (.lst m),some (.int i),s4,none]
section
variable {x0 s4 : Option Val} {m n : Nat} {vs : List Val} {h t : H} {res : Bs} {i : Nat} {b c : Bs}
theorem XM (e : h[m]? = some (.lst vs)) (hl : vs.length <= 500) (hi : vs.length <= i) : wh C SN SQ (n + 1) (Mj x0 res m i s4) h = .ok .next (Mj x0 res m i s4) h := by
 have hle := zO _ e (lim (by lia))
 rw [aH]
 simp [Mj,SN,SQ,dH,hle,Nat.not_lt.mpr hi]
theorem XK (e : h[m]? = some (.lst vs)) (hl : vs.length <= 500) (h0 : vs[0]? = some (.bytes b)) (hb : b ≠ [42,42]) (ht : C eN [.bytes b] h = .ok (.bytes c) (h ++ t)) (hr : res.length + c.length <= 20000) : wh C SN SQ (n + 1) (Mj x0 res m ((0 : Nat) : Int) s4) h = wh C SN SQ n (Mj x0 (res ++ c) m ((1 : Nat) : Int) (some (.bytes b))) (h ++ t) := by
 have hll : vs.length <= bH := lim (by lia)
 have hle := zO _ e hll
 have hidx : bW (.lst m) (.int 0) h = .ok (.bytes b) h := rW _ (k := 0) rfl e h0 hll
 have hlt : 0 < vs.length := (List.getElem?_eq_some_iff.mp h0).1
 rw [aH]
 simp [Mj,SN,SQ,dH,hle,hlt,hidx,hb,ht,qg hr]
theorem Tn {d : Bs} {t1 : H} (e : h[m]? = some (.lst vs)) (hl : vs.length <= 500) (h0 : vs[i + 1]? = some (.bytes b)) (hb : b ≠ [42,42]) (h1 : vs[i]? = some (.bytes d)) (hd : d ≠ [42,42]) (ht1 : C gj [.bytes [47]] h = .ok (.bytes [47]) (h ++ t1)) (ht : C eN [.bytes b] (h ++ t1) = .ok (.bytes c) (h ++ t1 ++ t)) (hr : res.length + 1 + c.length <= 20000) :
  wh C SN SQ (n + 1) (Mj x0 res m ((i + 1 : Nat) : Int) s4) h = wh C SN SQ n (Mj x0 (res ++ [47] ++ c) m ((i + 1 + 1 : Nat) : Int) (some (.bytes b))) (h ++ t1 ++ t) := by
 have hll : vs.length <= bH := lim (by lia)
 have hle := zO _ e hll
 have hidx : bW (.lst m) (.int ((i + 1 : Nat) : Int)) h = .ok (.bytes b) h := rW _ rfl e h0 hll
 have hidx1 : bW (.lst m) (.int (((i + 1 : Nat) : Int) - 1)) h = .ok (.bytes d) h := rW _ (k := i) (by lia) e h1 hll
 have hlt : ((i + 1 : Nat) : Int) < (vs.length : Int) := by have := (List.getElem?_eq_some_iff.mp h0).1; lia
 have hp : (0 : Int) < ((i + 1 : Nat) : Int) := by lia
 have a1 := qg (res := res) (b := [47]) (by simp; lia)
 have a2 := qg (res := res ++ [47]) (b := c) (by simp; omega)
 rw [show ((i + 1 + 1 : Nat) : Int) = ((i + 1 : Nat) : Int) + 1 from rfl,aH]
 generalize ((i + 1 : Nat) : Int) = j at hidx hidx1 hlt hp ⊢
 simp only [List.append_assoc] at ht a2 ⊢
 simp [Mj,SN,SQ,dH,hle,hlt,hidx,hidx1,hp,hb,hd,ht1,ht,a1,a2]
end
theorem Tp (hE : uK C) (hS : R6 C) {x0 : Option Val} {m : Nat} {dU : List (Bs × List Item)} (hok : ∀ p ∈ dU,Its p.1 p.2 /\ noStar p.1 /\ p.1.length <= 200) (hl : dU.length <= 500) (rest : List (Bs × List Item)) : ∀ (pre : List (Bs × List Item)) (n : Nat) (h : H) (res : Bs) (s4 : Option Val),h[m]? = some (.lst (dU.map bv)) -> dU = pre ++ rest -> rest.length < n -> res.length + (v8 (!pre.isEmpty) rest).length <= 20000 ->
  TrG x0 m h (wh C SN SQ n (Mj x0 res m pre.length s4) h) (res ++ v8 (!pre.isEmpty) rest) := by
 have hstar : ∀ q ∈ dU,q.1 ≠ [42,42] := fun q hq c => by
  have := (hok q hq).2.1 42 (by rw [c]; exact .head _)
  exact this.1 rfl
 have hml : (dU.map bv).length <= 500 := by rw [List.length_map]; exact hl
 induction rest with
 | nil =>
  intro pre n h res s4 e hr hn hlen
  cases n with
  | zero => exact absurd hn (Nat.not_lt_zero _)
  | succ n =>
   refine ⟨[],some (.int pre.length),s4,?_⟩
   rw [XM e hml (by rw [List.length_map,hr,List.append_nil]; exact Nat.le_refl _)]; simp [Mj]
 | cons p rest ih =>
  intro pre n h res s4 e hr hn hlen
  cases n with
  | zero => exact absurd hn (Nat.not_lt_zero _)
  | succ n =>
   have hn := Nat.lt_of_succ_lt_succ hn
   have hpm : p ∈ dU := by rw [hr]; exact List.mem_append_right _ (.head _)
   obtain ⟨hits,hns,hp2⟩ := hok p hpm
   have hat : (dU.map bv)[pre.length]? = some (.bytes p.1) := by rw [hr]; simp [bv]
   have hr2 : dU = (pre ++ [p]) ++ rest := by rw [hr]; simp
   cases hpre : pre with
   | nil =>
    subst hpre
    obtain ⟨t,ht⟩ := hS p.1 p.2 h hits hns hp2
    simp only [List.isEmpty_nil,Bool.not_true,N8,Kq,Bool.false_eq_true,if_false,List.nil_append,List.length_append] at hlen
    rw [show ((([] : List (Bs × List Item)).length : Nat) : Int) = ((0 : Nat) : Int) from rfl,XK e hml hat (hstar p hpm) ht (by lia)]
    exact (ih [p] n (h ++ t) (res ++ bD p.2) _ (hup e) hr2 hn (by rw [List.length_append]; exact Nat.le_trans (Nat.le_of_eq (Nat.add_assoc _ _ _)) hlen)).app (by simp [v8])
   | cons q0 pre0 =>
    rw [hpre] at hlen hr hr2 hat
    obtain ⟨d,hd⟩ : ∃ d,(q0 :: pre0)[pre0.length]? = some d := ⟨_,List.getElem?_eq_getElem (Nat.lt_succ_self _)⟩
    have hdm : d ∈ dU := by rw [hr]; exact List.mem_append_left _ (List.mem_of_getElem? hd)
    have agc : (dU.map bv)[pre0.length]? = some (.bytes d.1) := by rw [hr,List.map_append,List.getElem?_append_left (by rw [List.length_map]; exact Nat.lt_succ_self _),List.getElem?_map,hd]; rfl
    obtain ⟨t1,ht1⟩ := hE 47 h
    rw [show fC 47 = [47] from rfl] at ht1
    obtain ⟨t,ht⟩ := hS p.1 p.2 (h ++ t1) hits hns hp2
    simp only [List.isEmpty_cons,Bool.not_false,v8,if_true,List.length_append,List.length_cons,List.length_nil] at hlen
    rw [show (((q0 :: pre0).length : Nat) : Int) = ((pre0.length + 1 : Nat) : Int) from rfl,Tn e hml hat (hstar p hpm) agc (hstar d hdm) ht1 ht (by lia)]
    rw [List.append_assoc h t1 t]
    have := ih (q0 :: pre0 ++ [p]) n (h ++ (t1 ++ t)) (res ++ [47] ++ bD p.2) (some (.bytes p.1)) (hup e) hr2 hn (by simp; lia)
    rw [show (((q0 :: pre0 ++ [p]).length : Nat) : Int) = ((pre0.length + 1 + 1 : Nat) : Int) by simp] at this
    exact this.app (by simp [v8])
def Wo (C : bK) (f : Nat) : Prop := ∀ (s : Bs) (h : H),noStar (91 :: s) -> (91 :: s).length <= 200 -> (∀ is,Its (91 :: s) is -> ∃ t,C f [.bytes (91 :: s)] h = .ok (.bytes (bD is)) (h ++ t)) /\ (Bad (91 :: s) -> ∃ h',C f [.bytes (91 :: s)] h = .exc h')
theorem Tq (hE : uK C) (hS : R6 C) (hP : JB C) (hK : xM C) {s : Bs} {is : List Item} (hits : Its (91 :: s) is) (hns : noStar (91 :: s)) (hl : (91 :: s).length <= 200) : ∃ t,cj C ⟨1,[],6,dH⟩ [.bytes (91 :: s)] h = .ok (.bytes (bD is)) (h ++ t) := by
 obtain ⟨dU,more,last,t,hse,e,h1,h2,h3⟩ := hP s is h hits hl
 have hne : ∀ p ∈ dU,p.1 ≠ [42,42] := fun p hp q => by
  have := (h1 p hp).sub 42 (by rw [q]; simp)
  exact (hns 42 this).1 rfl
 have hk := hK (h ++ .lst (dU.map bv) :: t) h.length dU (bC _ _ _) hne (by lia)
 have hj := (yK more last).1
 rw [<- hse,<- h2] at hj
 have hil := vp hits
 obtain ⟨t2,i',s4',e2⟩ := Tp (C := C) (x0 := some (.bytes (91 :: s))) (m := (h ++ .lst (dU.map bv) :: t).length) (dU := dU) hE hS (fun p hp => ⟨(h1 p hp).its,fun c hc => hns c ((h1 p hp).sub c hc),Nat.le_trans (h1 p hp).len hl⟩) (by lia) dU [] FUEL (h ++ .lst (dU.map bv) :: t ++ [.lst (dU.map bv)]) [] none (by rw [bC]) rfl (mW (by lia)) (by simp only [List.isEmpty_nil,Bool.not_true,List.length_nil]; rw [hj]; lia)
 simp only [List.isEmpty_nil,Bool.not_true,List.nil_append] at e2
 rw [hj] at e2
 refine ⟨.lst (dU.map bv) :: (t ++ .lst (dU.map bv) :: t2),?_⟩
 rw [aN (by rfl)]
 simp only [SN,SQ,Mj,jA,jD,jB,jC,dH] at e2 ⊢
 simp at e2 hk
 simp [e,hk,e2]
theorem XQ (hP : xJ C) {s : Bs} (hb : Bad (91 :: s)) (hl : (91 :: s).length <= 200) : ∃ h',cj C ⟨1,[],6,dH⟩ [.bytes (91 :: s)] h = .exc h' := by
 obtain ⟨h',e⟩ := hP s h hb hl
 refine ⟨h',?_⟩
 rw [aN (by rfl)]
 simp [dH,e,Ai,Vn,Res.bind]
end
theorem oA {α : Type} (l : List α) : l = [] \/ ∃ s d,l = s ++ [d] := by
 rcases List.eq_nil_or_concat l with h | ⟨s,d,h⟩
 ·exact .inl h
 ·exact .inr ⟨s,d,by rw [h,List.concat_eq_append]⟩
section
variable {C : bK} {h : H}
theorem JN {s : Bs} {f : Nat} (hT : Wo C oX) (hns : noStar (91 :: s)) (hl : (91 :: s).length <= 200) : (∀ is,Its (91 :: s) is -> ∃ t,cj C ⟨1,[],1,cV⟩ [.bytes (91 :: s)] h = .ok (.bytes (bD is)) (h ++ t)) /\ (Bad (91 :: s) -> ∃ h',cj C ⟨1,[],1,cV⟩ [.bytes (91 :: s)] h = .exc h') := by
 obtain ⟨a,b⟩ := hT s h hns hl
 refine ⟨fun is hi => ?_,fun hb => ?_⟩
 ·obtain ⟨t,e⟩ := a is hi
  refine ⟨t,?_⟩
  rw [aN (by rfl)]
  simp [cV,e]
 ·obtain ⟨h',e⟩ := b hb
  refine ⟨h',?_⟩
  rw [aN (by rfl)]
  simp [cV,e]
def R8 (C : bK) : Prop := ∀ (s r : Bs) (h : H),C gD [.bytes (91 :: s),.bytes r] h = .ok (.tup [.bytes (91 :: s),.bytes []]) h
theorem PN {s r : Bs} : cj C ⟨2,[],2,dO⟩ [.bytes (91 :: s),.bytes r] h = .ok (.tup [.bytes (91 :: s),.bytes []]) h := by
 have sw : ∀ (y : Bs) (h : H),gW .aZ (.bytes (91 :: s)) [.bytes (47 :: y)] h = .ok (.bool false) h := fun y h => by
  show Res.ok (Val.bool ((47 :: y : Bs).isPrefixOf (91 :: s))) h = _
  rfl
 have sw2 : ∀ (y : Bs) (h : H),gW .aZ (.bytes (91 :: s)) [.bytes (42 :: y)] h = .ok (.bool false) h := fun y h => by
  show Res.ok (Val.bool ((42 :: y : Bs).isPrefixOf (91 :: s))) h = _
  rfl
 rw [aN (by rfl)]
 simp [dO,sw,sw2]
noncomputable def Mt (x : Bs) : Bool := !(x.take (x.length - 1)).contains 47
noncomputable def Oh (x : Bs) : Bool := !([47] : Bs).isSuffixOf x
theorem Fi {g o : Bool} {is : List Item} : (textOf g o is).length <= 15 + (bD is).length := by
 cases g <;> cases o <;> simp [textOf] <;> lia
def JD (C : bK) : Prop := ∀ (s : Bs) (h : H),noStar (91 :: s) -> (91 :: s).length <= 200 -> (∀ is,Its (91 :: s) is -> ∃ t,C bT [.bytes (91 :: s)] h = .ok (.bytes (textOf (Mt (91 :: s)) (Oh (91 :: s)) is)) (h ++ t)) /\ (Bad (91 :: s) -> ∃ h',C bT [.bytes (91 :: s)] h = .exc h')
theorem aai (x : Bs) : Bd x none (some (-1)) = x.take (x.length - 1) := by
 cases x with
 | nil => rfl
 | cons c r =>
  have e : (-1 + ((r.length + 1 : Nat) : Int)) = r.length := by omega
  show (c :: r).take ((-1 + ((r.length + 1 : Nat) : Int)).toNat - 0) = _
  rw [e]; rfl
theorem Vy (hT : Wo C fL) (hL : R8 C) {s : Bs} (hns : noStar (91 :: s)) (hl : (91 :: s).length <= 200) : (∀ is,Its (91 :: s) is -> ∃ t,cj C ⟨1,[],3,bF⟩ [.bytes (91 :: s)] h = .ok (.bytes (textOf (Mt (91 :: s)) (Oh (91 :: s)) is)) (h ++ t)) /\ (Bad (91 :: s) -> ∃ h',cj C ⟨1,[],3,bF⟩ [.bytes (91 :: s)] h = .exc h') := by
 obtain ⟨a,b⟩ := hT s h hns hl
 obtain ⟨x,hx⟩ : ∃ x,x = 91 :: s := ⟨_,rfl⟩
 have Zw : x.length <= bH := lim (by rw [hx]; lia)
 have hsl : ∀ h : H,gO (.bytes x) .none (.int (-1)) h = .ok (.bytes (x.take (x.length - 1))) h := fun h => by rw [Wv _ Zw,aai]
 have hin : ∀ h : H,tR h (.bytes [47]) (.bytes (x.take (x.length - 1))) = some (!Mt x) := fun h => by
  rw [Fb _ (lim (by rw [List.length_take,hx]; lia))]
  simp [Mt]
 have hend : ∀ h : H,gW .bk (.bytes x) [.bytes [47]] h = .ok (.bool (!Oh x)) h := fun h => by
  show Res.ok (Val.bool (([47] : Bs).isSuffixOf x)) h = _
  simp [Oh]
 have hk0 : ∀ h : H,KY (.ok (.bytes []) h) = .ok false h := fun h => by rw [yQ _ _ (lim (by simp))]; rfl
 have hle := fun r h => hL s r h
 rw [<- hx] at a b hle ⊢
 refine ⟨fun is hi => ?_,fun hb => ?_⟩
 ·obtain ⟨t,e⟩ := a is hi
  have hil := vp hi
  have aio : (bD is).length <= 8000 := by rw [hx] at hil; lia
  have ag : ∀ ls h,nG 1 .add (.bytes [40,63,109,115,41]) (.bytes [40,46,42,47,41,63]) ls h = .ok .next (ls.set 1 (some (.bytes [40,63,109,115,41,40,46,42,47,41,63]))) h := fun ls h => dG (lim (by simp))
  have au : ∀ (r : Bs),r.length <= 20 -> ∀ ls h,nG 1 .add (.bytes r) (.bytes (bD is)) ls h = .ok .next (ls.set 1 (some (.bytes (r ++ bD is)))) h := fun r hr ls h => dG (lim (by lia))
  have ao : ∀ (r : Bs),r.length <= 9000 -> ∀ ls h,nG 1 .add (.bytes r) (.bytes [47,63]) ls h = .ok .next (ls.set 1 (some (.bytes (r ++ [47,63])))) h := fun r hr ls h => dG (lim (by simp; lia))
  have az : ∀ (r : Bs),r.length <= 9000 -> ∀ h : H,gY .add (.bytes r) (.bytes [92,90]) h = .ok (.bytes (r ++ [92,90])) h := fun r hr h => u6 _ (lim (by simp; lia))
  refine ⟨t,?_⟩
  rw [aN (by rfl)]
  cases hg : Mt x <;> cases ho : Oh x <;> rw [hg] at hin <;> rw [ho] at hend
  ·simp [bF,hsl,hin,hle,hk0,e,hend,textOf,au,az,show (bD is).length + 5 <= 9000 by lia,show (bD is).length + 1 + 1 + 1 + 1 + 1 <= 9000 by lia]
  ·have := ao (40 :: 63 :: 109 :: 115 :: 41 :: bD is) (by simp; lia)
   have h2 := az (40 :: 63 :: 109 :: 115 :: 41 :: (bD is ++ [47,63])) (by simp; lia)
   simp at this h2
   simp [bF,hsl,hin,hle,hk0,e,hend,textOf,au,this,h2]
  ·have h2 := az (40 :: 63 :: 109 :: 115 :: 41 :: 40 :: 46 :: 42 :: 47 :: 41 :: 63 :: bD is) (by simp; lia)
   simp at h2
   simp [bF,hsl,hin,hle,hk0,e,hend,textOf,ag,au,h2]
  ·have := ao (40 :: 63 :: 109 :: 115 :: 41 :: 40 :: 46 :: 42 :: 47 :: 41 :: 63 :: bD is) (by simp; lia)
   have h2 := az (40 :: 63 :: 109 :: 115 :: 41 :: 40 :: 46 :: 42 :: 47 :: 41 :: 63 :: (bD is ++ [47,63])) (by simp; lia)
   simp at this h2
   simp [bF,hsl,hin,hle,hk0,e,hend,textOf,ag,au,this,h2]
 ·obtain ⟨h',e⟩ := b hb
  refine ⟨h',?_⟩
  have ag : ∀ ls h,nG 1 .add (.bytes [40,63,109,115,41]) (.bytes [40,46,42,47,41,63]) ls h = .ok .next (ls.set 1 (some (.bytes [40,63,109,115,41,40,46,42,47,41,63]))) h := fun ls h => dG (lim (by simp))
  rw [aN (by rfl)]
  cases hg : Mt x <;> rw [hg] at hin
  ·simp [bF,hsl,hin,hle,hk0,e]
  ·simp [bF,hsl,hin,hle,hk0,e,ag]
theorem RX (n : Nat) (first : Bool) (prev : Option UInt8) (ms : List Mem) (cs : List Bs) (s : Bs) {iM : List Mem} {cs' : List Bs} {rest : Bs} (h : brk n first prev ms cs s = some (iM,cs',rest)) : ∃ a,s = a ++ 93 :: rest := by
 refine Bf (P := fun _ _ _ _ s _ _ rest => ∃ a,s = a ++ 93 :: rest) (fun prev ms cs s => ⟨[],rfl⟩) (fun first prev ms cs c s p1 m1 c1 s1 iM cs' rest hc hs b => ?_) n _ _ _ _ _ _ _ _ h
 obtain ⟨a,rfl⟩ := b
 obtain ⟨b,rfl,_⟩ := yD hs
 exact ⟨c :: (b ++ a),by simp⟩
set_option tactic.hygienic true in
theorem lW.last {a : Bs} {neg : Bool} {ms : List Mem} {cs : List Bs} (h : lW a neg ms cs) : ∃ b,a = b ++ [93] := by
 have h := h []
 rw [List.append_nil] at h
 unfold bracket at h
 split at h
 ·exact cN h
 ·rename_i iM cs' rest' hb
  cases h
  obtain ⟨b,e⟩ := RX _ _ _ _ _ _ hb
  cases hn : kW a with
  | false => rw [hn] at e; exact ⟨b,e⟩
  | true =>
   rw [hn] at e
   cases a with
   | nil => exact qD hn
   | cons c a => exact ⟨c :: b,by simp at e; rw [e]; rfl⟩
theorem Tj : ∀ {s : Bs} {is : List Item},Its s is -> ∀ u,s = u ++ [47] -> ∃ is',Its u is' := by
 intro s is h
 induction h with
 | nil => intro u e; cases u <;> cases e
 | lone =>
  intro u e
  cases u with
  | nil => cases e
  | cons a u => cases u <;> cases e
 | @esc c s is h ih =>
  intro u e
  cases u with
  | nil => cases e
  | cons a u =>
   injection e with e1 e2
   subst e1
   cases u with
   | nil => exact ⟨_,.lone⟩
   | cons b u =>
    injection e2 with e3 e4
    subst e3
    obtain ⟨is',hi⟩ := ih u e4
    exact ⟨_,.esc hi⟩
 | @cls a neg ms cs s is h1 h ih =>
  intro u e
  cases u with
  | nil => cases e
  | cons b u =>
   injection e with e1 e2
   subst e1
   rcases oA s with rfl | ⟨s',d,rfl⟩
   ·obtain ⟨b,hb⟩ := h1.last
    rw [List.append_nil,hb] at e2
    have := congrArg List.getLast? e2
    simp at this
   ·rw [<- List.append_assoc] at e2
    obtain ⟨e3,e4⟩ := List.append_inj' e2 rfl
    simp at e4
    subst e4
    obtain ⟨is',hi⟩ := ih s' rfl
    rw [<- e3]
    exact ⟨_,.cls h1 hi⟩
 | @chr c s is h1 h2 h ih =>
  intro u e
  cases u with
  | nil => exact ⟨_,.nil⟩
  | cons b u =>
   injection e with e1 e2
   subst e1
   obtain ⟨is',hi⟩ := ih u e2
   exact ⟨_,.chr h1 h2 hi⟩
theorem tX (u : Bs) : cX (u ++ [47]) 47 = cX u 47 := by
 unfold cX; simp
theorem tW {u : Bs} {d : UInt8} (h : d ≠ 47) : cX (u ++ [d]) 47 = u ++ [d] := by
 unfold cX
 rw [List.reverse_append]
 simp [h]
theorem vX : ∀ (n : Nat) (s : Bs) {is : List Item},s.length = n -> Its s is -> ∃ is',Its (cX s 47) is'
 | 0,s,is,hn,h => by
  have : s = [] := by simpa using hn
  subst this
  exact ⟨_,h⟩
 | n + 1,s,is,hn,h => by
  rcases oA s with rfl | ⟨s',d,rfl⟩
  ·cases hn
  ·by_cases hd : d = 47
   ·subst hd
    rw [tX]
    obtain ⟨is',hi⟩ := Tj h s' rfl
    exact vX n s' (by simpa using hn) hi
   ·rw [tW hd]; exact ⟨_,h⟩
theorem n7 : ∀ (n : Nat) (s : Bs),s.length = n -> ∃ s',cX (91 :: s) 47 = 91 :: s' /\ (∀ c ∈ s',c ∈ s) /\ s'.length <= s.length
 | 0,s,hn => by
  have : s = [] := by simpa using hn
  subst this
  exact ⟨[],rfl,fun _ h => h,Nat.le_refl _⟩
 | n + 1,s,hn => by
  rcases oA s with rfl | ⟨s',d,rfl⟩
  ·cases hn
  ·by_cases hd : d = 47
   ·subst hd
    obtain ⟨s2,e,h1,h2⟩ := n7 n s' (by simpa using hn)
    refine ⟨s2,?_,fun c hc => by simp [h1 c hc],by simp; lia⟩
    rw [<- e]
    exact tX (91 :: s')
   ·exact ⟨s' ++ [d],tW (u := 91 :: s') hd,fun _ h => h,Nat.le_refl _⟩
end
noncomputable def wL (c : UInt8) : Item -> Bool
 | .cls neg cs => hold neg (cs.map fun c => (c.v1,c.hi)) c
 | .never => false
 | .chr d => hold false [(d,d)] c
noncomputable def iu (c : UInt8) : List Item -> Bool
 | [it] => wL c it
 | _ => false
theorem lX (c : UInt8) (it : Item) : gZ c it.part [0] = (if wL c it then [1] else []) /\ gZ c it.part [1] = [] /\ gZ c it.part [] = [] := by
 cases it with
 | cls neg cs =>
  refine ⟨?_,rfl,rfl⟩
  show (if [0] = [0] /\ hold neg (cs.map fun c => (c.v1,c.hi)) c = true then [1] else []) = if hold neg (cs.map fun c => (c.v1,c.hi)) c = true then [1] else []
  cases hold neg (cs.map fun c => (c.v1,c.hi)) c <;> rfl
 | never => exact ⟨rfl,rfl,rfl⟩
 | chr d =>
  refine ⟨?_,rfl,rfl⟩
  show (if [0] = [0] /\ hold false [(d,d)] c = true then [1] else []) = if hold false [(d,d)] c = true then [1] else []
  cases hold false [(d,d)] c <;> rfl
theorem Ie (c : UInt8) : ∀ is : List Item,jy c (is.map Item.part) [] = []
 | [] => rfl
 | it :: is => by
  show jy c (is.map Item.part) (gZ c it.part []) = _
  rw [(lX c it).2.2,Ie c is]
theorem mU (c : UInt8) : ∀ (a b : List Part) (P : List Nat),jy c (a ++ b) P = jy c b (jy c a P)
 | [],b,P => rfl
 | p :: a,b,P => by
  show jy c (a ++ b) (gZ c p P) = jy c b (jy c a (gZ c p P))
  exact mU c a b _
theorem Kc (c : UInt8) : ∀ is : List Item,(jy c (is.map Item.part) [0] = [0] /\ is = []) \/ (jy c (is.map Item.part) [0] = if iu c is then [1] else [])
 | [] => .inl ⟨rfl,rfl⟩
 | [it] => .inr (by
  show gZ c it.part [0] = _
  rw [(lX c it).1]; rfl)
 | it :: kI :: is => .inr (by
  show jy c (is.map Item.part) (gZ c kI.part (gZ c it.part [0])) = _
  rw [(lX c it).1]
  have : gZ c kI.part (if wL c it then [1] else []) = [] := by
   split
   ·exact (lX c kI).2.1
   ·exact (lX c kI).2.2
  rw [this,Ie]; rfl)
theorem Ka (c : UInt8) (g o : Bool) (is : List Item) : (!(jy c (partsOf g o is) [0]).isEmpty) = iu c is := by
 unfold partsOf
 rw [mU,mU,mU]
 have hg : jy c (if g then [.grp] else []) [0] = [0] := by cases g <;> rfl
 rw [hg]
 have ho : ∀ P,jy c (if o then [.opt false [(47,47)]] else []) P = P := fun P => by cases o <;> rfl
 rw [ho]
 rcases Kc c is with ⟨e,rfl⟩ | e
 ·rw [e]; rfl
 ·rw [e]
  cases iu c is <;> rfl
theorem jz (c : UInt8) : ∀ (a b : List Part) (P : List Nat),n8 c a P -> n8 c b (jy c a P) -> n8 c (a ++ b) P
 | [],b,P,_,h => h
 | p :: a,b,P,h1,h2 => ⟨h1.1,jz c a b _ h1.2 h2⟩
theorem uc (c : UInt8) : ∀ (is : List Item) (P : List Nat),(∀ it ∈ is,it.ok) -> n8 c (is.map Item.part) P
 | [],_,_ => trivial
 | it :: is,P,h => ⟨by
  have := h it (.head _)
  cases it with
  | cls neg cs => show (cs.map _).length <= 50000; rw [List.length_map]; exact this.2
  | never => trivial
  | chr d => show 1 <= 50000; decide,uc c is _ fun it hi => h it (.tail _ hi)⟩
theorem Cr {c : UInt8} (hc : c ≠ 47) (g o : Bool) {is : List Item} (h : ∀ it ∈ is,it.ok) : n8 c (partsOf g o is) [0] := by
 unfold partsOf
 have hg : jy c (if g then [.grp] else []) [0] = [0] := by cases g <;> rfl
 refine jz c _ _ _ ?_ ?_
 ·cases g
  ·trivial
  ·exact ⟨⟨rfl,hc⟩,trivial⟩
 ·rw [hg]
  refine jz c _ _ _ (uc c is _ h) (jz c _ _ _ ?_ ⟨trivial,trivial⟩)
  cases o
  ·trivial
  ·exact ⟨⟨by decide,qz hc⟩,trivial⟩
noncomputable def ae5 (o : Option Val) (h : H) : Res Val := match o with
 | some v => .ok v h
 | none => .bad
@[simp] theorem aaD (v : Val) (h : H) : ae5 (some v) h = .ok v h := rfl
theorem M9 {h t : H} {a b : Cell} {r : Nat} {c : Cell} (e : tl (h.length + 2) t r = some c) : (h ++ a :: b :: t)[r]? = some c := by
 have := Tv (h := h ++ [a]) (a := b) (t := t) (r := r) (c := c) (by simpa using e)
 simpa using this
structure Made (h : H) (l : Nat) (x : Bs) (is : List Item) : Prop where
 ex : ∃ as b4 l6 g vs,h[l]? = some (.ns 1 as) /\ as.lookup 3 = some (.bool true) /\ as.lookup 4 = some (.bool b4) /\ as.lookup 5 = some (.bool false) /\ as.lookup 6 = some (.inst 0 l6) /\ h[l6]? = some (.ns 0 [(0,.bool false),(1,.lst g)]) /\ h[g]? = some (.lst vs) /\ uZ (fun r => h[r]?) (partsOf (Mt x) (Oh x) is) vs
theorem Made.up {h t : H} {l : Nat} {x : Bs} {is : List Item} (a : Made h l x is) : Made (h ++ t) l x is := by
 obtain ⟨as,b4,l6,g,vs,e1,e2,e3,e4,e5,e6,e7,e8⟩ := a
 exact ⟨as,b4,l6,g,vs,hup e1,e2,e3,e4,e5,hup e6,hup e7,e8.mono fun r c hc => hup hc⟩
section
variable {C : bK} {h : H}
noncomputable def bG.from : Nat -> bG -> bG
 | n + 1,.cons _ b => bG.from n b
 | _,b => b
theorem lE {k : Nat} {e : ME} {b : bG} {ls : Ls} {v : Val} {as : List (Nat × Val)} {T T2 : H} (hl : ls[0]? = some (some (.inst 1 h.length))) (hv : aL C ls e (h ++ .ns 1 as :: T) = .ok v (h ++ .ns 1 as :: T2)) :
  dz C (.cons (.assign (.attr (.var 0) k) e) b) ls (h ++ .ns 1 as :: T) = dz C b ls (h ++ .ns 1 (kO as k v) :: T2) := by
 show kB C b (kSt C (.attr (.var 0) k) ls (aL C ls e (h ++ .ns 1 as :: T))) = _
 rw [hv]
 show kB C b (Qk ls k v (CW ls[0]? (h ++ .ns 1 as :: T2))) = _
 rw [hl]
 show kB C b (Qk ls k v (.ok (.inst 1 h.length) (h ++ .ns 1 as :: T2))) = _
 rw [Iz ls (bC _ _ _)]
 simp
theorem aan {t : Tg} {e : ME} {b : bG} {ls : Ls} {h h' : H} (hv : aL C ls e h = .exc h') : dz C (.cons (.assign t e) b) ls h = .exc ls h' := by
 show kB C b (kSt C t ls (aL C ls e h)) = _
 rw [hv]; rfl
def Ex (h : H) (l : Nat) (x : Bs) (is : List Item) : Prop :=
 ∃ g vs,h[l]? = some (.ns 0 [(0,.bool false),(1,.lst g)]) /\ h[g]? = some (.lst vs) /\ uZ (fun r => h[r]?) (partsOf (Mt x) (Oh x) is) vs
theorem Ex.up {h t : H} {l : Nat} {x : Bs} {is : List Item} : Ex h l x is -> Ex (h ++ t) l x is
 | ⟨g,vs,a,b,c⟩ => ⟨g,vs,hup a,hup b,c.mono fun _ _ hc => hup hc⟩
theorem Cv (hI : JD C) (hX : Hy C) {s : Bs} {is : List Item} (hits : Its (91 :: s) is) (hns : noStar (91 :: s)) (hl : (91 :: s).length <= 200) {ls : Ls} {e : ME} {as : List (Nat × Val)} {T : H}
  (h0 : ls[0]? = some (some (.inst 1 h.length))) (ha : as.lookup 0 = some (.bool false)) (he : ∀ h,aL C ls e h = .ok (.bytes (91 :: s)) h) :
  ∃ l T2,aL C ls (.oM 0 (.cons (.cI bT (.cons e .nil)) (.cons (.attr (.var 0) 0) .nil))) (h ++ .ns 1 as :: T) = .ok (.inst 0 l) (h ++ .ns 1 as :: (T ++ T2)) /\ ∀ as',Ex (h ++ .ns 1 as' :: (T ++ T2)) l (91 :: s) is := by
 obtain ⟨t1,i1⟩ := (hI s (h ++ .ns 1 as :: T) hns hl).1 is hits
 have hok := GC hits (by lia)
 have hil := vp hits
 have htl := Fi (g := Mt (91 :: s)) (o := Oh (91 :: s)) (is := is)
 obtain ⟨vs,t2,n1,p1⟩ := hX (Mt (91 :: s)) (Oh (91 :: s)) is (h ++ .ns 1 as :: T ++ t1) hok (by lia)
 have e1 : ∀ (X : H) (as' : List (Nat × Val)),h ++ .ns 1 as' :: (T ++ (t1 ++ X)) = h ++ .ns 1 as' :: T ++ t1 ++ X := fun X as' => by simp
 refine ⟨(h ++ .ns 1 as :: T ++ t1).length,t1 ++ .ns 0 [(0,.bool false),(1,.lst ((h ++ .ns 1 as :: T ++ t1).length + 1))] :: .lst vs :: t2,?_,fun as' => ?_⟩
 ·rw [e1,<- Qv,<- n1]
  show wA C 0 (Vn C ls (.cons (.attr (.var 0) 0) .nil) (Ai C bT (Vn C ls .nil (aL C ls e (h ++ .ns 1 as :: T))))) = _
  rw [he]
  show wA C 0 (Vn C ls (.cons (.attr (.var 0) 0) .nil) (C bT [.bytes (91 :: s)] (h ++ .ns 1 as :: T))) = _
  rw [i1]
  show wA C 0 (kL2 _ (Vn C ls .nil (oG 0 (CW ls[0]? (h ++ .ns 1 as :: T ++ t1))))) = _
  rw [h0]
  show wA C 0 (kL2 _ (Vn C ls .nil (oG 0 (.ok (.inst 1 h.length) (h ++ .ns 1 as :: T ++ t1))))) = _
  rw [iw (hup (bC _ _ _)) ha]
  rfl
 ·rw [e1]
  have hn : (h ++ .ns 1 as :: T ++ t1).length = (h ++ .ns 1 as' :: T ++ t1).length := by simp
  rw [hn] at p1 ⊢
  refine ⟨_,vs,bC _ _ _,?_,p1.mono fun r c hc => M9 hc⟩
  exact qC _ _ _ _
section
variable {x : Bs}
noncomputable def KD (h : H) (x : Bs) : Ls := [some (.inst 1 h.length),some (.bytes x),some (.bool false)]
theorem TY (hx : x.length <= bH) (h' : H) : aL C (KD h x) (.meth (.var 1) .cT (.cons (.aj [47]) .nil)) h' = .ok (.bytes (cX x 47)) h' := by
 show (if x.length <= bH then Res.ok (Val.bytes (cX x 47)) h' else .bad) = _
 rw [if_pos hx]
theorem abt {s : Bs} {a : UInt8} (ha : a ≠ 91) (h' : H) : jd C (KD h (91 :: s)) (.meth (.var 1) .aZ (.cons (.aj [a]) .nil)) h' = .ok false h' := by
 show Res.ok (([a] : Bs).isPrefixOf (91 :: s)) h' = _
 simp [List.isPrefixOf,ha]
noncomputable def as5 (x : Bs) : List (Nat × Val) := [(2,.bytes x),(0,.bool false),(3,.bool true),(4,.bool (([47] : Bs).isSuffixOf x)),(5,.bool false)]
theorem Dj {s s' : Bs} (hx : (91 :: s).length <= bH) (hr : cX (91 :: s) 47 = 91 :: s') (hx' : (91 :: s').length <= bH) :
  dz C bU (KD h (91 :: s)) (h ++ [.ns 1 []]) = dz C (bG.from 5 bU) (KD h (91 :: s)) (h ++ .ns 1 (as5 (91 :: s)) :: []) := by
 refine (lE (v := .bytes (91 :: s)) rfl rfl).trans ((lE (v := .bool false) rfl rfl).trans ?_)
 show kB C (bG.from 3 bU) (kIf C _ _ _ (jd C _ _ _)) = _
 rw [abt (by decide),Dd,fZ,vA,pH,abt (by decide),I5,Dd,Jk,iQ]
 rw [lE (v := .bool true) rfl rfl]
 refine (lE (b := bG.from 4 bU) (v := .bool (([47] : Bs).isSuffixOf (91 :: s))) rfl rfl).trans (lE (b := bG.from 5 bU) (v := .bool false) rfl ?_)
 show Qu (aL C _ _ _) = _
 rw [TY hx,hr,Gw _ _ hx']
 rfl
theorem K7 (hI : JD C) (hX : Hy C) {s : Bs} {is : List Item} (hits : Its (91 :: s) is) (hns : noStar (91 :: s)) (hl : (91 :: s).length <= 200) :
  ∃ as t,iI (dz C bU [some (.inst 1 h.length),some (.bytes (91 :: s)),some (.bool false)] (h ++ [.ns 1 []])) = .ok .none (h ++ .ns 1 as :: t) /\ Made (h ++ .ns 1 as :: t) h.length (91 :: s) is := by
 obtain ⟨s',hr,hr1,hr2⟩ := n7 s.length s rfl
 obtain ⟨is',hits'⟩ := vX _ (91 :: s) rfl hits
 rw [hr] at hits'
 have hns' : noStar (91 :: s') := fun c hc => hns c (by
  rcases List.mem_cons.mp hc with rfl | hc
  ·exact .head _
  ·exact .tail _ (hr1 c hc))
 have hl' : (91 :: s').length <= 200 := Nat.le_trans (Nat.succ_le_succ hr2) hl
 have hx : (91 :: s).length <= bH := lim (Nat.le_trans hl (by decide))
 obtain ⟨l6,t1,e1,a1⟩ := Cv (h := h) (T := []) (as := as5 (91 :: s)) (ls := KD h (91 :: s)) (e := .var 1) hI hX hits hns hl rfl rfl fun _ => rfl
 obtain ⟨l7,t2,e2,a2⟩ := Cv (h := h) (T := [] ++ t1) (as := kO (as5 (91 :: s)) 6 (.inst 0 l6)) (ls := KD h (91 :: s)) (e := .meth (.var 1) .cT (.cons (.aj [47]) .nil)) hI hX hits' hns' hl' rfl rfl fun _ => (TY hx _).trans (by rw [hr])
 have e3 : ∀ h',∃ b,aL C (KD h (91 :: s)) (.or (.meth (.meth (.var 1) .cT (.cons (.aj [47]) .nil)) .bk (.cons (.aj [47,42]) .nil)) (.meth (.meth (.var 1) .cT (.cons (.aj [47]) .nil)) .bk (.cons (.aj [47,42,42]) .nil))) h' = .ok (.bool b) h' := fun h' => by
  show ∃ b,kOr C (KD h (91 :: s)) (.meth (.meth (.var 1) .cT (.cons (.aj [47]) .nil)) .bk (.cons (.aj [47,42,42]) .nil)) (jr C (KD h (91 :: s)) .bk (.cons (.aj [47,42]) .nil) (aL C (KD h (91 :: s)) (.meth (.var 1) .cT (.cons (.aj [47]) .nil)) h')) = .ok (.bool b) h'
  rw [TY hx]
  show ∃ b,kOr C (KD h (91 :: s)) _ (.ok (.bool (([47,42] : Bs).isSuffixOf _)) h') = .ok (.bool b) h'
  cases ([47,42] : Bs).isSuffixOf _ with
  | true => exact ⟨_,rfl⟩
  | false =>
   refine ⟨([47,42,42] : Bs).isSuffixOf (cX (91 :: s) 47),?_⟩
   show jr C (KD h (91 :: s)) .bk (.cons (.aj [47,42,42]) .nil) (aL C (KD h (91 :: s)) (.meth (.var 1) .cT (.cons (.aj [47]) .nil)) h') = _
   rw [TY hx]
   rfl
 obtain ⟨b8,e3⟩ := e3 (h ++ .ns 1 (kO (kO (as5 (91 :: s)) 6 (.inst 0 l6)) 7 (.inst 0 l7)) :: ([] ++ t1 ++ t2))
 refine ⟨_,_,congrArg iI ((Dj hx hr (lim (Nat.le_trans hl' (by decide)))).trans ((lE rfl e1).trans ((lE rfl e2).trans (lE rfl e3)))),?_⟩
 obtain ⟨g,vs,q1,q2,q3⟩ := (a1 (kO (kO (kO (as5 (91 :: s)) 6 (.inst 0 l6)) 7 (.inst 0 l7)) 8 (.bool b8))).up (t := t2)
 rw [List.append_assoc,List.cons_append] at q1 q2 q3
 exact ⟨_,_,l6,g,vs,bC _ _ _,rfl,rfl,rfl,rfl,q1,q2,q3⟩
theorem QZ (hI : JD C) {s : Bs} (hb : Bad (91 :: s)) (hns : noStar (91 :: s)) (hl : (91 :: s).length <= 200) :
  ∃ h',iI (dz C bU [some (.inst 1 h.length),some (.bytes (91 :: s)),some (.bool false)] (h ++ [.ns 1 []])) = .exc h' := by
 obtain ⟨s',hr,hr1,hr2⟩ := n7 s.length s rfl
 obtain ⟨h',i1⟩ := (hI s (h ++ .ns 1 (as5 (91 :: s)) :: []) hns hl).2 hb
 have hx : (91 :: s).length <= bH := lim (Nat.le_trans hl (by decide))
 refine ⟨h',congrArg iI ((Dj hx hr (lim (Nat.le_trans (Nat.le_trans (Nat.succ_le_succ hr2) hl) (by decide)))).trans (aan (b := bG.from 6 bU) ?_))⟩
 show wA C 0 (Vn C _ _ (C bT [.bytes (91 :: s)] _)) = _
 rw [i1]; rfl
end
def adM (C : bK) : Prop := Bh C
theorem FQ (hM : Bh C) {l : Nat} {x : Bs} {is : List Item} {c : UInt8} (hm : Made h l x is) (hc : c ≠ 47) (hok : ∀ it ∈ is,it.ok) (hlen : is.length <= 10000) :
  ∃ t,cj C ⟨2,[],2,jm⟩ [.inst 1 l,.bytes [c]] h = .ok (.bool (iu c is)) (h ++ t) := by
 obtain ⟨as,b4,l6,g,vs,e1,e2,e3,e4,e5,e6,e7,e8⟩ := hm
 have hvl := e8.length
 have hpl : (partsOf (Mt x) (Oh x) is).length <= is.length + 3 := by
  unfold partsOf
  cases Mt x <;> cases Oh x <;> simp
 obtain ⟨t,ht⟩ := hM h l6 g _ c _ vs e6 rfl rfl e7 e8 (Cr hc _ _ hok) (by lia)
 rw [Ka] at ht
 have k3 : ∀ t : H,oG 3 (.ok (.inst 1 l) (h ++ t)) = .ok (.bool true) (h ++ t) := fun t => iw (hup e1) e2
 have k4 : ∀ t : H,oG 4 (.ok (.inst 1 l) (h ++ t)) = .ok (.bool b4) (h ++ t) := fun t => iw (hup e1) e3
 have k40 : oG 4 (.ok (.inst 1 l) h) = .ok (.bool b4) h := iw e1 e3
 have k30 : oG 3 (.ok (.inst 1 l) h) = .ok (.bool true) h := iw e1 e2
 have k50 : oG 5 (.ok (.inst 1 l) h) = .ok (.bool false) h := iw e1 e4
 have k60 : oG 6 (.ok (.inst 1 l) h) = .ok (.inst 0 l6) h := iw e1 e5
 have hmm := fun es ls => fW C ls (m := .match_) (es := es) (c := 0) (f := j9) (h := h) rfl e6
 have ew : ∀ h : H,gW .bk (.bytes [c]) [.bytes [47]] h = .ok (.bool false) h := fun h => by
  show Res.ok (Val.bool (([47] : Bs).isSuffixOf [c])) h = _
  simp [List.isSuffixOf,List.isPrefixOf,Ne.symm hc]
 have hin : ∀ h : H,tR h (.bytes [47]) (.bytes [c]) = some false := fun h => by
  rw [Fb _ (lim (by simp))]
  simp [Ne.symm hc]
 refine ⟨t,?_⟩
 rw [aN (by rfl)]
 cases hr : iu c is <;> rw [hr] at ht <;> cases b4 <;> simp [jm,k50,k40,k30,k60,hmm,ht,k4,k3,ew,hin]
end
noncomputable def lD (v : Bs) (o : UInt8) : Bool := (jw v).any fun ch => inR o (ch.v1,ch.hi)
noncomputable def dY (o : UInt8) (ms : List Mem) (cs : List Bs) : Bool := ms.any (inR o) || cs.any fun v => lD v o
theorem Dk (o a b : UInt8) : inR o ((iT a b).v1,(iT a b).hi) = inR o (a,b) := by
 unfold iT
 split
 ·rename_i h; subst h; rfl
 ·rfl
theorem Ik (o a b : UInt8) : ((v7 a b).any fun ch => inR o (ch.v1,ch.hi)) = inR o (a,b) := by
 unfold v7
 split
 ·simp [Dk]
 ·rename_i h
  have : ¬ (a.toNat <= o.toNat /\ o.toNat <= b.toNat) := by lia
  simp only [List.any_nil,inR]
  by_cases h1 : a.toNat <= o.toNat
  ·simp [show ¬ o.toNat <= b.toNat by lia]
  ·simp [h1]
theorem CJ {o : UInt8} (ho : o ≠ 47) (m : Mem) : ((cF m).any fun ch => inR o (ch.v1,ch.hi)) = inR o m := by
 obtain ⟨a,b⟩ := m
 have ho' : o.toNat ≠ 47 := fun h => ho (UInt8.toNat_inj.mp (by rw [h]; rfl))
 unfold cF
 rw [List.any_append,Ik,Ik]
 rcases Nat.lt_or_gt_of_ne ho' with h | h
 ·have h1 : (o.toNat <= (nT b).toNat) = (o.toNat <= b.toNat) := by
   unfold nT
   by_cases hb : 46 < b.toNat
   ·rw [if_pos hb]; exact propext ⟨fun _ => Nat.le_of_lt (Nat.lt_of_lt_of_le h hb),fun _ => Nat.le_of_lt_succ h⟩
   ·rw [if_neg hb]
  have h2 : ¬ (mG a).toNat <= o.toNat := fun q => by
   have : 48 <= (mG a).toNat := by
    unfold mG
    by_cases hb : a.toNat < 48
    ·rw [if_pos hb]; exact Nat.le_refl _
    ·rw [if_neg hb]; exact Nat.le_of_not_lt hb
   exact absurd (Nat.le_trans this q) (Nat.not_le_of_lt (Nat.lt_succ_of_lt h))
  simp [inR,h1,h2]
 ·have h1 : ((mG a).toNat <= o.toNat) = (a.toNat <= o.toNat) := by
   unfold mG
   by_cases hb : a.toNat < 48
   ·rw [if_pos hb]; exact propext ⟨fun _ => Nat.le_of_lt (Nat.lt_of_lt_of_le hb h),fun _ => h⟩
   ·rw [if_neg hb]
  have h2 : ¬ o.toNat <= (nT b).toNat := fun q => by
   have : (nT b).toNat <= 46 := by
    unfold nT
    by_cases hb : 46 < b.toNat
    ·rw [if_pos hb]; exact Nat.le_refl _
    ·rw [if_neg hb]; exact Nat.le_of_not_lt hb
   exact absurd (Nat.le_trans q this) (Nat.not_le_of_lt (Nat.lt_of_succ_lt h))
  simp [inR,h1,h2]
theorem Hl {o : UInt8} (ho : o ≠ 47) (ms : List Mem) (cs : List Bs) : ((eU ms cs).any fun ch => inR o (ch.v1,ch.hi)) = dY o ms cs := by
 unfold eU dY
 rw [List.any_append]
 congr 1
 ·induction ms with
  | nil => rfl
  | cons m ms ih => rw [List.flatMap_cons,List.any_append,CJ ho,ih]; rfl
 ·induction cs with
  | nil => rfl
  | cons v cs ih => rw [List.flatMap_cons,List.any_append,ih]; rfl
theorem GR {o : UInt8} (ho : o ≠ 47) (neg : Bool) (ms : List Mem) (cs : List Bs) : wL o (itemOf neg ms cs) = (dY o ms cs != neg) := by
 have hc := Hl ho ms cs
 have hs : inR o (n6.v1,n6.hi) = false := by
  have := qz ho
  unfold hold at this
  cases hh : inR o (n6.v1,n6.hi) with
  | false => rfl
  | true =>
   have h2 : inR o (47,47) = true := hh
   rw [show ([((47 : UInt8),(47 : UInt8))].any (inR o)) = true by simp [h2]] at this
   exact tnf this
 have hm : ∀ l : List Chunk,(l.map fun c => (c.v1,c.hi)).any (inR o) = l.any fun ch => inR o (ch.v1,ch.hi) := fun l => by
  rw [List.any_map]; rfl
 unfold itemOf
 cases neg with
 | true =>
  simp only [if_true,wL,hold,hm,List.any_cons,hs,Bool.false_or,hc]
  cases dY o ms cs <;> rfl
 | false =>
  simp only [Bool.false_eq_true,if_false]
  split
  ·rename_i h
   rw [h] at hc
   rw [<- hc]; rfl
  ·simp only [wL,hold,hm,hc]
   cases dY o ms cs <;> rfl
noncomputable def Tz (n : Nat) : List Bool :=
 let u := decide (65 <= n) && decide (n <= 90)
 let l := decide (97 <= n) && decide (n <= 122)
 let d := decide (48 <= n) && decide (n <= 57)
 [u || (l || d),u || l,decide (n = 32) || decide (n = 9),decide (n < 32) || decide (n = 127),d,decide (32 < n) && decide (n < 127),l,decide (32 <= n) && decide (n < 127),(decide (32 < n) && decide (n < 127)) && !(u || (l || d)),
  decide (n = 9) || (decide (n = 10) || (decide (n = 13) || decide (n = 32))),u,d || ((decide (65 <= n) && decide (n <= 70)) || (decide (97 <= n) && decide (n <= 102)))]
noncomputable def su (n : Nat) : List (Bs × Val) := (cW.zip (Tz n)).map fun p => (p.1,.bool p.2)
theorem lookup_none {α β : Type} [BEq α] [LawfulBEq α] {k : α} : ∀ {l : List (α × β)},l.lookup k = none ↔ k ∉ l.map (·.1)
 | [] => by simp
 | (a,b) :: l => by
  rw [List.lookup_cons,List.map_cons,List.mem_cons]
  by_cases hq : (k == a) = true
  ·rw [hq]
   constructor
   ·intro h; exact SX h
   ·intro h; exact absurd (.inl (eq_of_beq hq)) h
  ·rw [Bool.not_eq_true] at hq
   rw [hq]
   have hne : k ≠ a := fun e => by rw [e] at hq; simp at hq
   simp only [lookup_none (l := l)]
   constructor
   ·rintro h (e | e)
    ·exact hne e
    ·exact h e
   ·intro h e; exact h (.inr e)
theorem yx (n : Nat) : (su n).map (·.1) = cW := by rfl
theorem V5 : ∀ n,n < 256 -> n ≠ 47 -> (cW.zip gk).all (fun p => (cW.zip (Tz n)).lookup p.1 == some (lD p.2 (UInt8.ofNat n))) = true := by decide +kernel
theorem CK {k : Bs} {b : Bool} {l : List (Bs × Bool)} (e : l.lookup k = some b) : (l.map fun p => (p.1,Val.bool p.2)).lookup k = some (.bool b) := by
 induction l with
 | nil => exact cN e
 | cons x l ih =>
  rw [List.map_cons,List.lookup_cons] at *
  by_cases hq : (k == x.1) = true
  ·rw [hq] at e ⊢; cases e; rfl
  ·rw [Bool.not_eq_true] at hq; rw [hq] at e ⊢; exact ih e
theorem Gu {α β : Type} [BEq α] [LawfulBEq α] {k : α} : ∀ {l : List (α × β)} {v : β},l.lookup k = some v -> ∃ i,∃ h : i < l.length,l[i] = (k,v)
 | (a,b) :: l,v,e => by
  rw [List.lookup_cons] at e
  by_cases hq : (k == a) = true
  ·rw [hq] at e; cases e; exact ⟨0,by simp,by rw [eq_of_beq hq]; rfl⟩
  ·rw [Bool.not_eq_true] at hq; rw [hq] at e
   obtain ⟨i,h,e2⟩ := Gu e
   exact ⟨i + 1,by simp; lia,e2⟩
theorem Rx {w v : Bs} {o : UInt8} (ho : o ≠ 47) (h : bI w = some v) : lO (su o.toNat) w = .bool (lD v o) := by
 have ho' : o.toNat ≠ 47 := fun h => ho (UInt8.toNat_inj.mp (by rw [h]; rfl))
 have a := eq_of_beq (List.all_eq_true.mp (V5 o.toNat o.toNat_lt ho') (w,v) (sG h))
 rw [show UInt8.ofNat o.toNat = o by simp] at a
 unfold lO su
 rw [CK a]
theorem Ry {w : Bs} {o : UInt8} (h : bI w = none) : lO (su o.toNat) w = .none := by
 have h1 : w ∉ (cW.zip gk).map (·.1) := lookup_none.mp h
 have h2 : (cW.zip gk).map (·.1) = cW := by rfl
 rw [h2,<- yx o.toNat] at h1
 have := lookup_none.mpr h1
 unfold lO
 rw [this]
section
variable {C : bK} {h : H}
noncomputable def kDr (b : Bs) (v : Val) (r : Res (List (Bs × Val))) : Res (List (Bs × Val)) := r.bind fun r h => .ok ((b,v) :: r) h
noncomputable def kDe (ls : Ls) (C : bK) (b : Bs) (es : gw) (r : Res Val) : Res (List (Bs × Val)) := r.bind fun v h => kDr b v (Ew C ls es h)
@[simp] theorem afI (b : Bs) (v : Val) (r : List (Bs × Val)) (h : H) : kDr b v (.ok r h) = .ok ((b,v) :: r) h := rfl
@[simp] theorem afJ (ls : Ls) (b : Bs) (es : gw) (v : Val) (h : H) : kDe ls C b es (.ok v h) = kDr b v (Ew C ls es h) := rfl
@[simp] theorem Js (ls : Ls) (h : H) : Ew C ls .nil h = .ok [] h := rfl
@[simp] theorem DQ (ls : Ls) (b : Bs) (e : ME) (es : gw) (h : H) : Ew C ls (.cons (.aj b) (.cons e es)) h = kDe ls C b es (aL C ls e h) := rfl
noncomputable def QD (r : Res (List (Bs × Val))) : Res Val := r.bind fun kvs h => if (kvs.map (·.1)).Nodup /\ kvs.length <= 15 /\ 0 < kvs.length then .ok (.dct h.length) (h ++ [.dct kvs]) else .bad
@[simp] theorem DN (ls : Ls) (es : gw) (h : H) : aL C ls (.dict es) h = QD (Ew C ls es h) := rfl
theorem QC {n : Nat} {h : H} {kvs : List (Bs × Val)} (e : kvs = su n) : QD (.ok kvs h) = .ok (.dct h.length) (h ++ [.dct kvs]) := by
 show (if (kvs.map (·.1)).Nodup /\ kvs.length <= 15 /\ 0 < kvs.length then Res.ok (Val.dct h.length) (h ++ [Cell.dct kvs]) else .bad) = _
 rw [if_pos]
 subst e
 refine ⟨?_,by simp [su,Tz,cW],by simp [su,Tz,cW]⟩
 rw [yx]
 decide +kernel
noncomputable def Xo : bG -> ME
 | .cons (.assign _ e) _ => e
 | _ => .bY
noncomputable def Xn (b : bG) : gw := match Xo b with
 | .dict es => es
 | _ => .nil
def Sd (C : bK) : Prop := ∀ (h : H) (w : Bs) (o : UInt8),∃ t,C oY [.bytes w,.int o.toNat] h = .ok (lO (su o.toNat) w) (h ++ t)
theorem acu {ls : Ls} {b : ME} {u v : Bool} {h : H} (e : aL C ls b h = .ok (.bool v) h) : kOr C ls b (.ok (.bool u) h) = .ok (.bool (u || v)) h := by
 cases u
 ·exact e
 ·rfl
theorem Zj {ls : Ls} {b : ME} {u v : Bool} {h : H} (e : aL C ls b h = .ok (.bool v) h) : QL C ls b (.ok (.bool u) h) = .ok (.bool (u && v)) h := by
 cases u
 ·rfl
 ·exact e
def JM (C : bK) (ls : Ls) (e : ME) (b : Bool) : Prop := ∀ h,aL C ls e h = .ok (.bool b) h
section
variable {ls : Ls} {a b : ME} {u v : Bool} {i : Int}
theorem wY (x : JM C ls a u) (y : JM C ls b v) : JM C ls (.or a b) (u || v) := fun h => by
 show kOr C ls b (aL C ls a h) = _
 rw [x h]; exact acu (y h)
theorem ZS (x : JM C ls a u) (y : JM C ls b v) : JM C ls (.and a b) (u && v) := fun h => by
 show QL C ls b (aL C ls a h) = _
 rw [x h]; exact Zj (y h)
theorem ZR (x : JM C ls a u) : JM C ls (.not a) (!u) := fun h => by
 show Qu (aL C ls a h) = _
 rw [x h]; rfl
theorem Hf {k : Nat} (e : ls[k]? = some (some (.bool u))) : JM C ls (.var k) u := fun h => by
 show CW ls[k]? h = _
 rw [e]; rfl
theorem Ay {o : qO} {c : Int} (e : ls[1]? = some (some (.int i))) (f : ∀ h,dR h o (.int i) (.int c) = some u) : JM C ls (.cmp o (.var 1) (.aq c)) u := fun h => by
 show I3 C ls o (.aq c) (CW ls[1]? h) = _
 rw [e]
 show lM (dR h o (.int i) (.int c)) h = _
 rw [f]; rfl
theorem mZ {o1 o2 : qO} {c d : Int} (e : ls[1]? = some (some (.int i))) (f : ∀ h,dR h o1 (.int c) (.int i) = some u) (g : ∀ h,dR h o2 (.int i) (.int d) = some v) : JM C ls (.ji o1 o2 (.aq c) (.var 1) (.aq d)) (u && v) := fun h => by
 show Vq C ls o1 o2 (.aq d) (.int c) (CW ls[1]? h) = _
 rw [e]
 show K5 C ls o2 (.aq d) (.int i) (dR h o1 (.int c) (.int i)) h = _
 rw [f]
 cases u
 ·rfl
 ·show lM (dR h o2 (.int i) (.int d)) h = _
  rw [g]; rfl
theorem gM {k : Bs} {e : ME} {es : gw} {v : Val} {vs : List (Bs × Val)} {h h1 h2 : H} (x : aL C ls e h = .ok v h1) (y : Ew C ls es h1 = .ok vs h2) : Ew C ls (.cons (.aj k) (.cons e es)) h = .ok ((k,v) :: vs) h2 := by
 show kDe ls C k es (aL C ls e h) = _
 rw [x]
 show kDr k v (Ew C ls es h1) = _
 rw [y]; rfl
end
theorem qX {n a : Nat} : decide ((a : Int) = (n : Int)) = decide (n = a) := by
 by_cases q : n = a
 ·subst q; simp
 ·simp [q]; lia
theorem Mw (a b : Nat) (h : H) : dR h .le (.int (a : Int)) (.int (b : Int)) = some (decide (a <= b)) := by rw [aa3]; simp
theorem vlt (a b : Nat) (h : H) : dR h .lt (.int (a : Int)) (.int (b : Int)) = some (decide (a < b)) := by rw [aa2]; simp
theorem veq (n a : Nat) (h : H) : dR h .eq (.int (n : Int)) (.int (a : Int)) = some (decide (n = a)) := by rw [JR,<- qX]; exact congrArg some (decide_eq_decide.mpr eq_comm)
theorem VF {l : Nat} {es : List (Bs × Val)} {w : Bs} {h : H} (e : h[l]? = some (.dct es)) : gW .get_ (.dct l) [.bytes w] h = .ok (lO es w) h := by
 show (match h[l]? with | some (.dct es) => Res.ok (lO es w) h | _ => .bad) = _
 rw [e]
theorem LC {n : Nat} {ls : Ls} (e : ls[1]? = some (some (.int (n : Int)))) : aL C ls (.cmp .Ja (.var 1) (.lst (.cons (.aq 9) (.cons (.aq 10) (.cons (.aq 13) (.cons (.aq 32) .nil)))))) h = .ok (.bool (decide (n = 9) || (decide (n = 10) || (decide (n = 13) || decide (n = 32))))) (h ++ [.lst [.int 9,.int 10,.int 13,.int 32]]) := by
 show I3 C ls .Ja _ (CW ls[1]? h) = _
 rw [e]
 show lM (dR (h ++ [.lst [.int 9,.int 10,.int 13,.int 32]]) .Ja (.int n) (.lst h.length)) _ = _
 rw [aa8,Bu _ (bC _ _ _),pN,pN,pN,pN,LR]
 simp only [Option.map_some,Bool.or_false,sH]
 rw [show decide ((9 : Int) = (n : Int)) = _ from qX (a := 9),show decide ((10 : Int) = (n : Int)) = _ from qX (a := 10),show decide ((13 : Int) = (n : Int)) = _ from qX (a := 13),show decide ((32 : Int) = (n : Int)) = _ from qX (a := 32)]
theorem Lr {w : Bs} {o : UInt8} : ∃ t,cj C ⟨2,[],6,fj⟩ [.bytes w,.int o.toNat] h = .ok (lO (su o.toNat) w) (h ++ t) := by
 generalize o.toNat = n
 refine ⟨[.lst [.int 9,.int 10,.int 13,.int 32],.dct (su n)],?_⟩
 rw [aN (by rfl)]
 have eu : ∀ r,JM C (some (.bytes w) :: some (.int (n : Int)) :: r) (.ji .le .le (.aq 65) (.var 1) (.aq 90)) _ := fun r => mZ rfl (Mw 65 n) (Mw n 90)
 have el : ∀ r,JM C (some (.bytes w) :: some (.int (n : Int)) :: r) (.ji .le .le (.aq 97) (.var 1) (.aq 122)) _ := fun r => mZ rfl (Mw 97 n) (Mw n 122)
 have ed : ∀ r,JM C (some (.bytes w) :: some (.int (n : Int)) :: r) (.ji .le .le (.aq 48) (.var 1) (.aq 57)) _ := fun r => mZ rfl (Mw 48 n) (Mw n 57)
 obtain ⟨L,hL⟩ : ∃ L : Ls,L = [some (.bytes w),some (.int (n : Int)),some (.bool (decide (65 <= n) && decide (n <= 90))),some (.bool (decide (97 <= n) && decide (n <= 122))),some (.bool (decide (48 <= n) && decide (n <= 57))),none] := ⟨_,rfl⟩
 have vn : L[1]? = some (some (.int (n : Int))) := by rw [hL]; rfl
 have v2 := Hf (C := C) (show L[2]? = some (some (.bool _)) by rw [hL]; rfl)
 have v3 := Hf (C := C) (show L[3]? = some (some (.bool _)) by rw [hL]; rfl)
 have v4 := Hf (C := C) (show L[4]? = some (some (.bool _)) by rw [hL]; rfl)
 have E0 := wY v2 (wY v3 v4)
 have E6 := mZ (C := C) vn (vlt 32 n) (vlt n 127)
 refine (congrArg iI ((vD (x := 2) (eu [none,none,none,none] h) (Nat.le_of_ble_eq_true rfl)).trans ((vD (x := 3) (el [_,none,none,none] h) (Nat.le_of_ble_eq_true rfl)).trans (vD (x := 4) (b := dJ 3 fj) (ed [_,_,none,none] h) (Nat.le_of_ble_eq_true rfl))))).trans ?_
 show iI (dz C (dJ 3 fj) [some (.bytes w),some (.int (n : Int)),some (.bool (decide (65 <= n) && decide (n <= 90))),some (.bool (decide (97 <= n) && decide (n <= 122))),some (.bool (decide (48 <= n) && decide (n <= 57))),none] h) = _
 rw [<- hL]
 have dk : aL C L (Xo (dJ 3 fj)) h = .ok (.dct (h.length + 1)) (h ++ [.lst [.int 9,.int 10,.int 13,.int 32],.dct (su n)]) := by
  have rows : Ew C L (Xn (dJ 3 fj)) h = .ok (su n) (h ++ [.lst [.int 9,.int 10,.int 13,.int 32]]) :=
   gM (E0 _) (gM (wY v2 v3 _) (gM (wY (Ay vn (veq n 32)) (Ay vn (veq n 9)) _) (gM (wY (Ay vn (vlt n 32)) (Ay vn (veq n 127)) _) (gM (v4 _) (gM (E6 _) (gM (v3 _) (gM (mZ vn (Mw 32 n) (vlt n 127) _) (gM (ZS E6 (ZR E0) _) (gM (LC vn) (gM (v2 _) (gM (wY v4 (wY (mZ vn (Mw 65 n) (Mw n 70)) (mZ vn (Mw 97 n) (Mw n 102))) _) rfl)))))))))))
  show QD (Ew C L (Xn (dJ 3 fj)) h) = _
  rw [rows,QC rfl]
  simp
 refine (congrArg iI (vD (x := 5) (b := dJ 4 fj) dk (by rw [hL]; exact Nat.le_of_ble_eq_true rfl))).trans ?_
 rw [hL]
 show iI (kB C .nil (KZ _ (jr C _ .get_ _ (.ok (.dct (h.length + 1)) (h ++ [.lst [.int 9,.int 10,.int 13,.int 32],.dct (su n)]))))) = _
 rw [K1 _ _ (qC _ _ _ _)]
 show iI (kB C .nil (KZ _ (gW .get_ (.dct (h.length + 1)) [.bytes w] _))) = _
 rw [VF (qC _ _ _ _)]
 rfl
end
def oU (prev : Option UInt8) (ms : List Mem) : Prop := ∀ p,prev = some p -> ∃ W2,ms = W2 ++ [(p,p)]
theorem oU.one {p : UInt8} {ms : List Mem} : oU (some p) (ms ++ [(p,p)]) := fun _ e => by cases e; exact ⟨ms,rfl⟩
theorem Fp {prev : Option UInt8} {ms : List Mem} {cs : List Bs} {c : UInt8} {s1 : Bs} {eY : Option UInt8} {iM : List Mem} {cs' : List Bs} {s' : Bs} (h : g8 prev ms cs c s1 = some (eY,iM,cs',s')) : oU eY iM := by
 refine nR.of (jJ (P := fun _ _ _ _ _ => nR fun eY iM _ _ => oU eY iM) ?_ ?_ ?_ ?_ ?_ ?_ ?_ ?_ prev ms cs c s1) h
 ·exact fun _ _ _ => trivial
 ·exact fun _ _ _ _ _ => .one
 ·exact fun _ _ _ => trivial
 ·exact fun _ _ _ _ _ => nofun
 ·exact fun _ _ _ _ _ _ _ => nofun
 ·exact fun _ _ _ _ _ => .one
 ·intro _ ms cs t
  cases fu t with
  | bad => trivial
  | cls v rest => exact nofun
  | _ => exact .one
 ·exact fun _ _ _ _ _ _ _ _ => .one
theorem Jb (o d : UInt8) : inR o (d,d) = decide (o = d) := by
 unfold inR
 by_cases h : o = d
 ·subst h; simp
 ·have : ¬ o.toNat = d.toNat := fun e => h (UInt8.toNat_inj.mp e)
  simp only [h,decide_false]
  by_cases h1 : d.toNat <= o.toNat
  ·simp [show ¬ o.toNat <= d.toNat by lia]
  ·simp [h1]
theorem sO (o : UInt8) (ms : List Mem) (m : Mem) (cs : List Bs) : dY o (ms ++ [m]) cs = (dY o ms cs || inR o m) := by
 unfold dY
 rw [List.any_append]
 simp only [List.any_cons,List.any_nil,Bool.or_false]
 cases ms.any (inR o) <;> cases inR o m <;> cases cs.any (fun v => lD v o) <;> rfl
theorem Pn (o : UInt8) (ms : List Mem) (v : Bs) (cs : List Bs) : dY o ms (cs ++ [v]) = (dY o ms cs || lD v o) := by
 unfold dY
 rw [List.any_append]
 simp only [List.any_cons,List.any_nil,Bool.or_false]
 cases ms.any (inR o) <;> cases lD v o <;> cases cs.any (fun v => lD v o) <;> rfl
theorem Pk (o p d : UInt8) (W2 : List Mem) (cs : List Bs) : dY o (if p.toNat <= d.toNat then (W2 ++ [(p,p)]).dropLast ++ [(p,d)] else W2 ++ [(p,p)]) cs = (dY o (W2 ++ [(p,p)]) cs || (decide (p.toNat <= o.toNat) && decide (o.toNat <= d.toNat))) := by
 by_cases h : p.toNat <= d.toNat
 ·rw [if_pos h,List.dropLast_concat,sO,sO,Jb]
  show (dY o W2 cs || (decide (p.toNat <= o.toNat) && decide (o.toNat <= d.toNat))) = _
  by_cases e : o = p
  ·subst e; simp [h]
  ·simp [e]
 ·rw [if_neg h]
  have : (decide (p.toNat <= o.toNat) && decide (o.toNat <= d.toNat)) = false := by
   by_cases h1 : p.toNat <= o.toNat
   ·simp [show ¬ o.toNat <= d.toNat by lia]
   ·simp [h1]
  rw [this,Bool.or_false]
noncomputable abbrev KN := (bV aM).1
noncomputable abbrev yP := (bV aM).2
section
variable {C : bK} {x : Bs}
theorem Zu (a b : UInt8) : ((a.toNat : Int) = (b.toNat : Int)) = (a = b) := by
 apply propext
 constructor
 ·intro h; exact UInt8.toNat_inj.mp (by lia)
 ·intro h; rw [h]
noncomputable def kE (x : Bs) (i : Int) (o : UInt8) (den st : Val) (prev : Option UInt8) (b : Bool) (c7 c8 c9 jt : Option Val) : Ls := [some (.bytes x),some (.int i),some (.int (o.toNat : Int)),some den,some st,some (pv prev),some (.bool b),c7,c8,c9,jt]
noncomputable def Xx (x : Bs) (o : UInt8) (den st : Val) (k : Nat) (h : H) (w : SR) : yu -> Prop
 | none => ∃ ls' t,w = .ok (.ret .none) ls' (h ++ t)
 | some (eY,iM,cs',s') => ∃ (j : Nat) (c7' c8' c9' agD : Option Val) (t : H),j <= x.length /\ k < j /\ x.drop j = s' /\ w = .ok .next (kE x j o den st eY (dY o iM cs') c7' c8' c9' agD) (h ++ t)
theorem Xx.no {o : UInt8} {den st : Val} {k : Nat} {ls : Ls} {h t : H} {w : SR} (e : w = .ok (.ret .none) ls (h ++ t)) : Xx x o den st k h w none := ⟨ls,t,e⟩
theorem Xx.go {o : UInt8} {den st : Val} {k j : Nat} {h t : H} {prev : Option UInt8} {ms : List Mem} {cs : List Bs} {s : Bs} {b : Bool} {c7 c8 c9 jt : Option Val} {w : SR} (i : Int) (hd : x.drop j = s) (hi : i = j) (hj : j <= x.length) (hk : k < j) (hb : dY o ms cs = b) (e : w = .ok .next (kE x i o den st prev b c7 c8 c9 jt) (h ++ t)) : Xx x o den st k h w (some (prev,ms,cs,s)) := ⟨j,c7,c8,c9,jt,t,hj,hk,hd,by rw [hb,<- hi]; exact e⟩
def S8 (C : bK) (x : Bs) (o : UInt8) (den st : Val) (k : Nat) (h : H) (c7 c8 c9 jt : Option Val) (prev : Option UInt8) (ms : List Mem) (cs : List Bs) (c : UInt8) (s1 : Bs) (r : yu) : Prop := x.length <= bH -> o ≠ 47 -> x.drop k = c :: s1 -> oU prev ms -> Xx x o den st k h (dz C yP (kE x k o den st prev (dY o ms cs) c7 c8 c9 jt) h) r
theorem abH (c : UInt8) : pv (some c) = .int c.toNat := rfl
theorem wg (o : UInt8) (ms : List Mem) (d : UInt8) (cs : List Bs) : dY o (ms ++ [(d,d)]) cs = (dY o ms cs || decide (o = d)) := by rw [sO,Jb]
noncomputable def acv (a : Bool) (h : H) (r : Res Val) : Res Val := match a with
 | true => .ok (.bool true) h
 | false => r
theorem pq (ls : Ls) (b : ME) (a : Bool) (h : H) : kOr C ls b (.ok (.bool a) h) = acv a h (aL C ls b h) := by cases a <;> rfl
theorem pA (a d : Bool) (h : H) : acv a h (.ok (.bool d) h) = .ok (.bool (a || d)) h := by cases a <;> rfl
noncomputable def acU (b : Bool) (h : H) (r : Res Val) : Res Val := match b with
 | true => r
 | false => .ok (.bool false) h
theorem Df (ls : Ls) (o2 : qO) (c : ME) (v : Val) (b : Bool) (h : H) : K5 C ls o2 c v (some b) h = acU b h (Vp o2 v (aL C ls c h)) := by cases b <;> rfl
theorem I6 (a d : Bool) (h : H) : acU a h (.ok (.bool d) h) = .ok (.bool (a && d)) h := by cases a <;> rfl
section
variable {o : UInt8} {den st : Val} {k : Nat} {h : H} {c7 c8 c9 jt : Option Val}
theorem WY {k : Nat} {s : Bs} (j : Nat) (hx : x.drop k = s) (h : j < s.length) : ¬ (k : Int) + j = x.length := Int.ne_of_lt (mz j hx h)
theorem Rt {k : Nat} {s : Bs} (j : Nat) (hx : x.drop k = s) (h : s.length = j) (hk : k <= x.length) : (k : Int) + j = x.length := by
 have := jW hx; lia
theorem abw {s : Bs} {k : Nat} {i i' : Int} (hL : x.length <= bH) (hx : x.drop k = s) (hi : i = k) (hi' : i' = (k : Int) + 2) : gR x i i' (s.take 2) := fun h => by
 subst hi hi'
 rw [fU _ hL,gA hx 0 2 (by simp) (by simp)]; simp
theorem ab7 (prev : Option UInt8) (ms : List Mem) (cs : List Bs) : S8 C x o den st k h c7 c8 c9 jt prev ms cs 92 [] none := fun hL ho hx hp => by
 have i0 : ∀ h : H,bW (.bytes x) (.int k) h = .ok (.int 92) h := at_ 0 hL hx rfl rfl
 have he : (k : Int) + 1 = x.length := Rt 1 hx rfl (Nat.le_of_lt (kle hx))
 refine .no (ls := kE x ((k : Int) + 1) o den st prev (dY o ms cs) (some (.int 92)) (some (.bool true)) c9 jt) (t := []) ?_
 simp [kE,yP,aM,i0,lbl hL,he]
theorem ab6 (prev : Option UInt8) (ms : List Mem) (cs : List Bs) (d : UInt8) (s : Bs) : S8 C x o den st k h c7 c8 c9 jt prev ms cs 92 (d :: s) (some (some d,ms ++ [(d,d)],cs,s)) := fun hL ho hx hp => by
 have i0 : ∀ h : H,bW (.bytes x) (.int k) h = .ok (.int 92) h := at_ 0 hL hx rfl rfl
 have i1 : u5 x ((k : Int) + 1) d := at_ 1 hL hx rfl rfl
 have he : ¬ (k : Int) + 1 = x.length := WY 1 hx (by simp)
 have := kle (aB hx 1)
 refine .go (t := []) (c7 := some (.int d.toNat)) (c8 := some (.bool true)) (c9 := c9) (jt := jt) ((k : Int) + 1 + 1) (aB hx 2) (by lia) (by lia) (by lia) (wg _ _ _ _) ?_
 simp [kE,yP,aM,i0,i1,lbl hL,he,pv,Zu,pq,pA]
theorem ab5 (p : UInt8) (ms : List Mem) (cs : List Bs) : S8 C x o den st k h c7 c8 c9 jt (some p) ms cs 45 [92] none := fun hL ho hx hp => by
 have i0 : ∀ h : H,bW (.bytes x) (.int k) h = .ok (.int 45) h := at_ 0 hL hx rfl rfl
 have i1 : ∀ h : H,bW (.bytes x) (.int ((k : Int) + 1)) h = .ok (.int 92) h := at_ 1 hL hx rfl rfl
 have hlt : (k : Int) + 1 < x.length := mz 1 hx (by simp)
 have he : (k : Int) + 2 = x.length := Rt 2 hx rfl (Nat.le_of_lt (kle hx))
 refine .no (ls := kE x ((k : Int) + 2) o den st (some p) (dY o ms cs) (some (.int 45)) (some (.bool false)) c9 jt) (t := []) ?_
 simp [kE,yP,aM,i0,i1,lbl hL,hlt,he,pv]
theorem yO {o p d : UInt8} {ms : List Mem} (hp : oU (some p) ms) (cs : List Bs) : dY o (if p.toNat <= d.toNat then ms.dropLast ++ [(p,d)] else ms) cs = (dY o ms cs || (decide (p.toNat <= o.toNat) && decide (o.toNat <= d.toNat))) := by
 obtain ⟨W2,rfl⟩ := hp p rfl
 exact Pk o p d W2 cs
theorem ab4 (p : UInt8) (ms : List Mem) (cs : List Bs) (d : UInt8) (s : Bs) : S8 C x o den st k h c7 c8 c9 jt (some p) ms cs 45 (92 :: d :: s) (some (none,if p.toNat <= d.toNat then ms.dropLast ++ [(p,d)] else ms,cs,s)) := fun hL ho hx hp => by
 have i0 : ∀ h : H,bW (.bytes x) (.int k) h = .ok (.int 45) h := at_ 0 hL hx rfl rfl
 have i1 : ∀ h : H,bW (.bytes x) (.int ((k : Int) + 1)) h = .ok (.int 92) h := at_ 1 hL hx rfl rfl
 have i2 : u5 x ((k : Int) + 2) d := at_ 2 hL hx rfl rfl
 have hlt : (k : Int) + 1 < x.length := mz 1 hx (by simp)
 have he : ¬ (k : Int) + 2 = x.length := WY 2 hx (by simp)
 have := kle (aB hx 2)
 refine .go (t := []) (c7 := some (.int 45)) (c8 := some (.bool false)) (c9 := c9) (jt := jt) ((k : Int) + 2 + 1) (aB hx 3) (by lia) (by lia) (by lia) (yO hp cs) ?_
 simp [kE,yP,aM,i0,i1,i2,lbl hL,hlt,he,pv,pq,pA,Df,I6]
theorem ab3 (p : UInt8) (ms : List Mem) (cs : List Bs) (d : UInt8) (s : Bs) (n1 : d ≠ 92) (n2 : d ≠ 93) : S8 C x o den st k h c7 c8 c9 jt (some p) ms cs 45 (d :: s) (some (none,if p.toNat <= d.toNat then ms.dropLast ++ [(p,d)] else ms,cs,s)) := fun hL ho hx hp => by
 have i0 : ∀ h : H,bW (.bytes x) (.int k) h = .ok (.int 45) h := at_ 0 hL hx rfl rfl
 have i1 : u5 x ((k : Int) + 1) d := at_ 1 hL hx rfl rfl
 have hlt : (k : Int) + 1 < x.length := mz 1 hx (by simp)
 have he : ¬ (k : Int) + 1 = x.length := Int.ne_of_lt hlt
 have := kle (aB hx 1)
 refine .go (t := []) (c7 := some (.int 45)) (c8 := some (.bool false)) (c9 := c9) (jt := jt) ((k : Int) + 1 + 1) (aB hx 2) (by lia) (by lia) (by lia) (yO hp cs) ?_
 simp [kE,yP,aM,i0,i1,lbl hL,hlt,he,pv,n1,n2,pq,pA,Df,I6]
theorem Qa {prev : Option UInt8} {ms : List Mem} {cs : List Bs} {c : UInt8} {s : Bs} (Dn : c ≠ 92) (T3 : jd C (kE x k o den st prev (dY o ms cs) (some (.int c.toNat)) (some (.bool false)) c9 jt) (.and (.not (.var 8)) (.and (.cmp .eq (.var 7) (.aq 45)) (.and (.cmp .jV (.var 5) .bY) (.and (.cmp .lt (.bin .add (.var 1) (.aq 1)) (.cg .eX (.cons (.var 0) .nil))) (.cmp .ne (.idx (.var 0) (.bin .add (.var 1) (.aq 1))) (.aq 93)))))) h = .ok false h)
  (ht : c ≠ 91 \/ s.take 1 ≠ [58]) (hL : x.length <= bH) (hx : x.drop k = c :: s) : Xx x o den st k h (dz C yP (kE x k o den st prev (dY o ms cs) c7 c8 c9 jt) h) (some (some c,ms ++ [(c,c)],cs,s)) := by
 have i0 : u5 x k c := at_ 0 hL hx rfl rfl
 have sl : gR x k ((k : Int) + 2) (c :: s.take 1) := abw hL hx rfl rfl
 have hn : ¬ (c = 91 /\ s.take 1 = [58]) := fun q => ht.elim (fun h => h q.1) fun h => h q.2
 have hd : decide (c = 91 /\ s.take 1 = [58]) = false := decide_eq_false hn
 have hsh : yP = .cons (.assign (.var 7) (.idx (.var 0) (.var 1))) (.cons (.assign (.var 8) (.cmp .eq (.var 7) (.aq 92))) (dJ 2 yP)) := rfl
 have := kle hx
 refine .go (t := []) (c7 := some (.int c.toNat)) (c8 := some (.bool false)) (c9 := c9) (jt := jt) ((k : Int) + 1) (aB hx 1) rfl (by lia) (by lia) (wg _ _ _ _) ?_
 simp only [kE] at T3
 simp [kE,yP,aM,i0,Dn,↓T3,sl,hd,hn,abH,Zu,pq,pA]
noncomputable abbrev ahW : ME := .and (.not (.var 8)) (.and (.cmp .eq (.var 7) (.aq 45)) (.and (.cmp .jV (.var 5) .bY) (.and (.cmp .lt (.bin .add (.var 1) (.aq 1)) (.cg .eX (.cons (.var 0) .nil))) (.cmp .ne (.idx (.var 0) (.bin .add (.var 1) (.aq 1))) (.aq 93)))))
theorem ab8 (prev : Option UInt8) (ms : List Mem) (cs : List Bs) (s : Bs) (hs : prev = none \/ s = [] \/ ∃ t,s = 93 :: t) : S8 C x o den st k h c7 c8 c9 jt prev ms cs 45 s (some (some 45,ms ++ [(45,45)],cs,s)) := fun hL ho hx hp => by
 refine Qa (by decide) ?_ (.inl (by decide)) hL hx
 rcases hs with rfl | rfl | ⟨t,rfl⟩
 ·simp [kE,pv]
 ·have : ¬ (k : Int) + 1 < x.length := Int.not_lt.mpr (za 1 hx rfl (Nat.le_of_lt (kle hx)))
  cases prev <;> simp [kE,pv,lbl hL,this]
 ·have h1 : (k : Int) + 1 < x.length := mz 1 hx (by simp)
  have i1 : ∀ h : H,bW (.bytes x) (.int ((k : Int) + 1)) h = .ok (.int 93) h := at_ 1 hL hx rfl rfl
  cases prev <;> simp [kE,pv,lbl hL,h1,i1]
theorem ab9 (prev : Option UInt8) (ms : List Mem) (cs : List Bs) (c : UInt8) (s : Bs) (n1 : c ≠ 92) (n2 : c ≠ 45) (n3 : c ≠ 91 \/ s.take 1 ≠ [58]) : S8 C x o den st k h c7 c8 c9 jt prev ms cs c s (some (some c,ms ++ [(c,c)],cs,s)) := fun hL ho hx hp =>
 Qa n1 (by simp [kE,n2]) n3 hL hx
noncomputable def lbE : bG := (.cons (.dw (.cmp .lt (.var 9) (.aq 0)) (.cons (.ret .bY) .nil) .nil)
  (.cons (.dw (.or (.cmp .eq (.var 9) (.bin .add (.var 1) (.aq 2))) (.cmp .ne (.idx (.var 0) (.bin .sub (.var 9) (.aq 1))) (.aq 58))) (.cons (.assign (.var 6) (.or (.var 6) (.cmp .eq (.var 2) (.aq 91))))
  (.cons (.assign (.var 5) (.aq 91))
  .nil)) (.cons (.assign (.var 10) (.cI oY (.cons (.slc (.var 0) (.bin .add (.var 1) (.aq 2)) (.bin .sub (.var 9) (.aq 1))) (.cons (.var 2) .nil))))
  (.cons (.dw (.cmp .is_ (.var 10) .bY) (.cons (.ret .bY)
  .nil) .nil)
  (.cons (.assign (.var 6) (.or (.var 6) (.var 10)))
  (.cons (.assign (.var 5) .bY)
  (.cons (.assign (.var 1) (.var 9))
  .nil)))))) .nil))
theorem vm {t : Bs} (hL : x.length <= bH) (hx : x.drop k = 91 :: 58 :: t) (prev : Option UInt8) (b : Bool) {f : Int} (hf : cU x 93 (k + 2) = f) : dz C yP (kE x k o den st prev b c7 c8 c9 jt) h = kB C (.cons (.aug 1 .add (.aq 1)) .nil) (kB C .nil (dz C lbE (kE x k o den st prev b (some (.int 91)) (some (.bool false)) (some (.int f)) jt) h)) := by
 have i0 : ∀ h : H,bW (.bytes x) (.int k) h = .ok (.int 91) h := at_ 0 hL hx rfl rfl
 have sl : gR x k ((k : Int) + 2) [91,58] := abw hL hx rfl rfl
 have h2 := kle (aB hx 1)
 have hfind : ∀ h : H,gW .mJ (.bytes x) [.bytes [93],.int ((k : Int) + 2)] h = .ok (.int f) h := fun h => by
  show (if (0 : Int) <= (k : Int) + 2 /\ (k : Int) + 2 <= x.length /\ x.length <= bH then Res.ok (Val.int (cU x 93 ((k : Int) + 2).toNat)) h else .bad) = _
  rw [if_pos ⟨by lia,by lia,hL⟩,<- hf]
  rfl
 simp [kE,yP,aM,lbE,i0,sl,hfind]
theorem Qc {prev : Option UInt8} {ms : List Mem} {cs : List Bs} {t : Bs} {f : Int} (hL : x.length <= bH) (hx : x.drop k = 91 :: 58 :: t) (hf : cU x 93 (k + 2) = f) (hge : ¬ f < 0) (ht : jd C (kE x k o den st prev (dY o ms cs) (some (.int 91)) (some (.bool false)) (some (.int f)) jt) (.or (.cmp .eq (.var 9) (.bin .add (.var 1) (.aq 2))) (.cmp .ne (.idx (.var 0) (.bin .sub (.var 9) (.aq 1))) (.aq 58))) h = .ok true h) : Xx x o den st k h (dz C yP (kE x k o den st prev (dY o ms cs) c7 c8 c9 jt) h) (some (some 91,ms ++ [(91,91)],cs,58 :: t)) := by
 have := kle (aB hx 1)
 refine .go (t := []) (c7 := some (.int 91)) (c8 := some (.bool false)) (c9 := some (.int f)) (jt := jt) ((k : Int) + 1) (aB hx 1) rfl (by lia) (by lia) (wg _ _ _ _) ?_
 rw [vm hL hx prev _ hf]
 simp only [kE] at ht
 simp [lbE,kE,hge,↓ht,Zu,pq,pA,abH]
theorem afs (hC : Sd C) (prev : Option UInt8) (ms : List Mem) (cs : List Bs) (t : Bs) : S8 C x o den st k h c7 c8 c9 jt prev ms cs 91 (58 :: t) (vK 91 ms cs (58 :: t) (fu t)) := by
 refine jN (P := fun t w => S8 C x o den st k h c7 c8 c9 jt prev ms cs 91 (58 :: t) (vK 91 ms cs (58 :: t) w)) ?_ ?_ ?_ ?_ ?_ t
 ·intro t hf hL ho hx hp
  have hx2 : x.drop (k + 2) = t := aB hx 2
  have hff : cU x 93 (k + 2) = -1 := by unfold cU; rw [hx2,hf]
  refine .no (ls := kE x k o den st prev (dY o ms cs) (some (.int 91)) (some (.bool false)) (some (.int (-1))) jt) (t := []) ?_
  rw [vm hL hx prev _ hff]
  simp [lbE,kE]
 ·intro t hf hL ho hx hp
  have hx2 : x.drop (k + 2) = t := aB hx 2
  have hff : cU x 93 (k + 2) = (k : Int) + 2 := by unfold cU; rw [hx2,hf]; rfl
  exact Qc hL hx hff (by lia) (by simp [kE])
 ·intro t j hf hj hL ho hx hp
  have hx2 : x.drop (k + 2) = t := aB hx 2
  have hff : cU x 93 (k + 2) = ((k + 2 + (j + 1) : Nat) : Int) := by unfold cU; rw [hx2,hf]
  have hl : j < t.length := Nat.lt_of_succ_lt (List.findIdx?_eq_some_iff_findIdx_eq.mp hf).1
  have ie : u5 x (((k + 2 + (j + 1) : Nat) : Int) - 1) t[j] := at_ j hL hx2 (List.getElem?_eq_getElem hl) (by lia)
  have hne : ¬ (((k + 2 + (j + 1) : Nat) : Int) = (k : Int) + 2) := by lia
  have Ms : ¬ t[j] = 58 := fun q => hj (by rw [List.getElem?_eq_getElem hl,q])
  refine Qc hL hx hff (Int.not_lt.mpr (Int.natCast_nonneg _)) ?_
  generalize ((k + 2 + (j + 1) : Nat) : Int) = f at ie hne
  simp [kE,hne,ie,Ms]
 ·intro t j hf Ms hp hL ho hx _
  have hx2 : x.drop (k + 2) = t := aB hx 2
  have hff : cU x 93 (k + 2) = ((k + 2 + (j + 1) : Nat) : Int) := by unfold cU; rw [hx2,hf]
  have ie : ∀ h : H,bW (.bytes x) (.int (((k + 2 + (j + 1) : Nat) : Int) - 1)) h = .ok (.int 58) h := at_ j hL hx2 Ms (by lia)
  have hne : ¬ (((k + 2 + (j + 1) : Nat) : Int) = (k : Int) + 2) := by lia
  have hsw : gR x ((k : Int) + 2) (((k + 2 + (j + 1) : Nat) : Int) - 1) (t.take j) := fun h => by
   rw [show (((k + 2 + (j + 1) : Nat) : Int) - 1) = ((k + 2 + j : Nat) : Int) by lia,fU _ hL,gA hx2 0 j (by simp) (by lia)]; simp
  have hge : ¬ (((k + 2 + (j + 1) : Nat) : Int) < 0) := Int.not_lt.mpr (Int.natCast_nonneg _)
  obtain ⟨u,hcl⟩ := hC h (t.take j) o
  rw [Ry hp] at hcl
  generalize ((k + 2 + (j + 1) : Nat) : Int) = f at ie hne hff hsw hge
  refine .no (ls := kE x k o den st prev (dY o ms cs) (some (.int 91)) (some (.bool false)) (some (.int f)) (some .none)) (t := u) ?_
  rw [vm hL hx prev _ hff]
  simp [lbE,kE,hge,hne,ie,hsw,hcl]
 ·intro t j v hf Ms hp hL ho hx _
  have hx2 : x.drop (k + 2) = t := aB hx 2
  have hff : cU x 93 (k + 2) = ((k + 2 + (j + 1) : Nat) : Int) := by unfold cU; rw [hx2,hf]
  have ie : ∀ h : H,bW (.bytes x) (.int (((k + 2 + (j + 1) : Nat) : Int) - 1)) h = .ok (.int 58) h := at_ j hL hx2 Ms (by lia)
  have hne : ¬ (((k + 2 + (j + 1) : Nat) : Int) = (k : Int) + 2) := by lia
  have hsw : gR x ((k : Int) + 2) (((k + 2 + (j + 1) : Nat) : Int) - 1) (t.take j) := fun h => by
   rw [show (((k + 2 + (j + 1) : Nat) : Int) - 1) = ((k + 2 + j : Nat) : Int) by lia,fU _ hL,gA hx2 0 j (by simp) (by lia)]; simp
  have hge : ¬ (((k + 2 + (j + 1) : Nat) : Int) < 0) := Int.not_lt.mpr (Int.natCast_nonneg _)
  have hl := jW hx2
  have hl2 := (List.findIdx?_eq_some_iff_findIdx_eq.mp hf).1
  obtain ⟨u,hcl⟩ := hC h (t.take j) o
  rw [Rx ho hp] at hcl
  refine .go (t := u) (c7 := some (.int 91)) (c8 := some (.bool false)) (c9 := some (.int ((k + 2 + (j + 1) : Nat) : Int))) (jt := some (.bool (lD v o))) (((k + 2 + (j + 1) : Nat) : Int) + 1) (aB hx2 (j + 2)) rfl (by lia) (by lia) (Pn _ _ _ _) ?_
  generalize ((k + 2 + (j + 1) : Nat) : Int) = f at ie hne hff hsw hge
  rw [vm hL hx prev _ hff]
  simp [lbE,kE,hge,hne,ie,hsw,hcl,pv,pq,pA]
theorem Y8 (hC : Sd C) (hl : x.length <= 200) (ho : o ≠ 47) {prev : Option UInt8} {ms : List Mem} {cs : List Bs} {c : UInt8} {s1 : Bs} (hx : x.drop k = c :: s1) (hp : oU prev ms) : Xx x o den st k h (dz C yP (kE x k o den st prev (dY o ms cs) c7 c8 c9 jt) h) (g8 prev ms cs c s1) :=
 jJ (P := S8 C x o den st k h c7 c8 c9 jt) ab7 ab6 ab5 ab4 ab3 ab8 (afs hC) ab9 prev ms cs c s1 (lim (by lia)) ho hx hp
end
end
@[simp] theorem afC (a b : Val) (h : H) : Gx (.ok [a,b] h) = .ok (.lst h.length) (h ++ [.lst [a,b]]) := rfl
noncomputable abbrev W8 := dJ 6 aM
section
variable {C : bK} {x : Bs}
noncomputable def LbL (x : Bs) (o : UInt8) (db : Bool) (h : H) (w : Res Val) : Option (List Mem × List Bs × Bs) -> Prop
 | none => ∃ t,w = .ok .none (h ++ t)
 | some (ms,cs,rest) => ∃ (j : Nat) (t : H),x.drop j = rest /\ j <= x.length /\ w = .ok (.tup [.bool (dY o ms cs != db),.int j]) (h ++ t)
theorem LbL.app {o : UInt8} {db : Bool} {h t : H} {w : Res Val} {r : Option (List Mem × List Bs × Bs)} (e : LbL x o db (h ++ t) w r) : LbL x o db h w r := by
 cases r with
 | none => obtain ⟨u,e⟩ := e; exact ⟨t ++ u,by rw [e,List.append_assoc]⟩
 | some r => obtain ⟨j,u,a,b,e⟩ := e; exact ⟨j,t ++ u,a,b,by rw [e,List.append_assoc]⟩
section
variable {o : UInt8} {db : Bool} {Eu k N : Nat} {prev : Option UInt8} {b : Bool} {c7 c8 c9 jt : Option Val} {h : H}
theorem Y7 (hL : x.length <= bH) (hx : x.drop k = []) : iI (kB C W8 (kW1 C KN yP N (kE x k o (.bool db) (.int (Eu : Int)) prev b c7 c8 c9 jt) (jd C (kE x k o (.bool db) (.int (Eu : Int)) prev b c7 c8 c9 jt) KN h))) = .ok .none (h ++ []) := by
 have hj : x.length <= k := by simpa using hx
 simp [kE,W8,KN,aM,lbl hL,Nat.not_lt.mpr hj,hj]
theorem Y9 {s : Bs} (hL : x.length <= bH) (hx : x.drop k = 93 :: s) (hf : false = decide (k = Eu)) : iI (kB C W8 (kW1 C KN yP N (kE x k o (.bool db) (.int (Eu : Int)) prev b c7 c8 c9 jt) (jd C (kE x k o (.bool db) (.int (Eu : Int)) prev b c7 c8 c9 jt) KN h))) = .ok (.tup [.bool (b != db),.int ((k + 1 : Nat) : Int)]) (h ++ []) := by
 have i0 : ∀ h : H,bW (.bytes x) (.int k) h = .ok (.int 93) h := at_ 0 hL hx rfl rfl
 have hkl := kle hx
 have hks : ¬ k = Eu := of_decide_eq_false hf.symm
 have af4 : ¬ ((k : Int) = (Eu : Int)) := fun q => hks (Int.natCast_inj.mp q)
 simp [kE,W8,KN,aM,lbl hL,hkl,i0,hks,af4,Nat.not_le.mpr hkl,bne]
theorem Y5 {c : UInt8} {s : Bs} {first : Bool} (hL : x.length <= bH) (hx : x.drop k = c :: s) (hf : first = decide (k = Eu)) (hend : ¬ (c = 93 /\ first = false)) : jd C (kE x k o (.bool db) (.int (Eu : Int)) prev b c7 c8 c9 jt) KN h = .ok true h := by
 have hkl := kle hx
 have i0 : u5 x k c := at_ 0 hL hx rfl rfl
 by_cases q : c = 93
 ·have hks : k = Eu := Decidable.byContradiction fun n => hend ⟨q,hf.trans (decide_eq_false n)⟩
  subst hks
  simp [kE,KN,aM,lbl hL,hkl,i0,q]
 ·simp [kE,KN,aM,lbl hL,hkl,i0,q]
end
theorem Vg (hC : Sd C) (hl : x.length <= 200) {o : UInt8} (ho : o ≠ 47) {db : Bool} {Eu : Nat} (n : Nat) : ∀ (s : Bs) (k : Nat) (first : Bool) (prev : Option UInt8) (ms : List Mem) (cs : List Bs) (N : Nat) (c7 c8 c9 jt : Option Val) (h : H),x.drop k = s -> k <= x.length -> s.length < n -> s.length < N -> oU prev ms -> first = decide (k = Eu) -> Eu <= k ->
  LbL x o db h (iI (kB C W8 (wh C KN yP N (kE x k o (.bool db) (.int (Eu : Int)) prev (dY o ms cs) c7 c8 c9 jt) h))) (brk n first prev ms cs s) := by
 induction n with
 | zero => exact fun s k first prev ms cs N c7 c8 c9 jt h hx hk hn => absurd hn (Nat.not_lt_zero _)
 | succ n ih =>
  intro s k first prev ms cs N c7 c8 c9 jt h hx hk hn hN hp hf hst
  cases N with
  | zero => exact absurd hN (Nat.not_lt_zero _)
  | succ N =>
  have hL : x.length <= bH := lim (by lia)
  rw [aH]
  cases s with
  | nil => exact ⟨[],Y7 hL hx⟩
  | cons c s1 =>
   have hn := Nat.lt_of_succ_lt_succ hn
   have hN := Nat.lt_of_succ_lt_succ hN
   by_cases hend : c = 93 /\ first = false
   ·rw [show brk (n + 1) first prev ms cs (c :: s1) = some (ms,cs,s1) from if_pos hend]
    obtain ⟨rfl,rfl⟩ := hend
    exact ⟨k + 1,[],aB hx 1,kle hx,Y9 hL hx hf⟩
   ·rw [show brk (n + 1) first prev ms cs (c :: s1) = _ from if_neg hend,Y5 hL hx hf hend]
    rw [CV]
    have mid := Y8 (C := C) hC hl ho (den := .bool db) (st := .int (Eu : Int)) (cs := cs) hx hp (c7 := c7) (c8 := c8) (c9 := c9) (jt := jt) (h := h)
    cases hs : g8 prev ms cs c s1 with
    | none =>
     rw [hs] at mid
     obtain ⟨ls',t,e⟩ := mid
     exact ⟨t,by rw [e,Vi,Zi,Qs]⟩
    | some r =>
     obtain ⟨eY,iM,cs',s'⟩ := r
     rw [hs] at mid
     obtain ⟨j,d7,d8,d9,d10,t,hj,hkj,hxj,e⟩ := mid
     have h1 := (vU hs).len
     rw [e,oF]
     exact (ih s' j false eY iM cs' N d7 d8 d9 d10 (h ++ t) hxj hj (by lia) (by lia) (Fp hs) (decide_eq_false (by lia)).symm (by lia)).app
noncomputable def LbR (x : Bs) (o : UInt8) (h : H) (w : Res Val) : Option (Bool × List Mem × List Bs × Bs) -> Prop
 | none => ∃ t,w = .ok .none (h ++ t)
 | some (neg,ms,cs,rest) => ∃ (j : Nat) (i' : Int) (t : H),i' = j /\ x.drop j = rest /\ j <= x.length /\ w = .ok (.tup [.bool (dY o ms cs != neg),.int i']) (h ++ t)
def Wr (C : bK) : Prop := ∀ (x : Bs) (k : Nat) (i : Int) (s : Bs) (o : UInt8) (h : H),i = (k : Nat) -> x.drop k = s -> k <= x.length -> x.length <= 200 -> o ≠ 47 -> LbR x o h (C fK [.bytes x,.int i,.int (o.toNat : Int)] h) (bracket s)
theorem PX {k : Nat} {s : Bs} {o : UInt8} {h : H} (hx : x.drop k = s) (hk : k <= x.length) (hL : x.length <= bH) : ∃ k1 : Nat,k1 <= x.length /\ x.drop k1 = (if kW s then s.drop 1 else s) /\
  cj C ⟨3,[],11,aM⟩ [.bytes x,.int (k : Int),.int (o.toNat : Int)] h = iI (kB C W8 (wh C KN yP FUEL (kE x k1 o (.bool (kW s)) (.int k1) none (dY o [] []) none none none none) (h ++ [.lst [.bytes [33],.bytes [94]]]))) := by
 have hsl : gR x k ((k : Int) + 1) (s.take 1) := vf hL hx rfl rfl
 have hin : tR (h ++ [.lst [.bytes [33],.bytes [94]]]) (.bytes (s.take 1)) (.lst h.length) = dM (.bytes (s.take 1)) [.bytes [33],.bytes [94]] := HW _ (bC _ _ _)
 cases hb : kW s with
 | false =>
  refine ⟨k,hk,hx,?_⟩
  rw [aN (by rfl)]
  have : dM (.bytes (s.take 1)) [.bytes [33],.bytes [94]] = some false := by
   cases s with
   | nil => rfl
   | cons c s =>
    have q := Bool.or_eq_false_iff.mp hb
    simp [Ne.symm (beq_eq_false_iff_ne.mp q.1),Ne.symm (beq_eq_false_iff_ne.mp q.2)]
  rw [this] at hin
  simp [kE,W8,KN,yP,aM,hsl,pv,hin,dY]
 | true =>
  obtain ⟨h1,h2⟩ := zF hb hx
  refine ⟨k + 1,h1,h2,?_⟩
  rw [aN (by rfl)]
  have : dM (.bytes (s.take 1)) [.bytes [33],.bytes [94]] = some true := by
   cases s with
   | nil => exact qD hb
   | cons c s =>
    rcases Bool.or_eq_true_iff.mp hb with q | q
    ·rw [eq_of_beq q]; rfl
    ·rw [eq_of_beq q]; rfl
  rw [this] at hin
  simp [kE,W8,KN,yP,aM,hsl,pv,hin,dY]
theorem Y6 (hC : Sd C) {k : Nat} {i : Int} {s : Bs} {o : UInt8} {h : H} (hi : i = (k : Nat)) (hx : x.drop k = s) (hk : k <= x.length) (hl : x.length <= 200) (ho : o ≠ 47) : LbR x o h (cj C ⟨3,[],11,aM⟩ [.bytes x,.int i,.int (o.toNat : Int)] h) (bracket s) := by
 subst hi
 have hsn : s.length = x.length - k := jW hx
 obtain ⟨k1,hk1,hx1,start⟩ := PX (C := C) (o := o) (h := h) hx hk (lim (by lia))
 rw [start]
 unfold bracket
 clear start
 have Zz : (if kW s then s.drop 1 else s).length <= 200 := by
  split
  ·rw [List.length_drop]; lia
  ·lia
 generalize (if kW s then s.drop 1 else s) = s' at hx1 Zz
 have loop := (Vg (C := C) hC hl ho (db := kW s) (Eu := k1) (s'.length + 1) s' k1 true none [] [] FUEL none none none none (h ++ [.lst [.bytes [33],.bytes [94]]]) hx1 hk1 (Nat.lt_succ_self _) (mW (by lia)) nofun (decide_eq_true rfl).symm (Nat.le_refl _)).app
 cases hb : brk (s'.length + 1) true none [] [] s' with
 | none => rw [hb] at loop; exact loop
 | some r =>
  obtain ⟨ms,cs,rest⟩ := r
  rw [hb] at loop
  obtain ⟨j,t,q2,q3,e⟩ := loop
  exact ⟨j,j,t,rfl,q2,q3,e⟩
noncomputable abbrev W6 := (bV cQ).1
noncomputable abbrev YZ := (bV cQ).2
noncomputable abbrev W7 := dJ 5 cQ
noncomputable def Ae (x : Bs) (o : UInt8) (c2 : Option Val) (F : Val) (i : Int) : Ls := [some (.bytes x),some (.int (o.toNat : Int)),c2,some F,some (.int i)]
noncomputable def Af (C : bK) (n : Nat) (ls : Ls) (h : H) : Res Val := iI (kB C W7 (wh C W6 YZ n ls h))
section
variable {o : UInt8} {F : Val} {n k : Nat} {c2 : Option Val} {h : H} {s : Bs}
theorem YW (hL : x.length <= bH) (hx : x.drop k = []) : Af C (n + 1) (Ae x o c2 F k) h = .ok F h := by
 have hj : x.length <= k := by simpa using hx
 unfold Af
 rw [aH]
 simp [Ae,W7,W6,cQ,lbl hL,Nat.not_lt.mpr hj]
theorem PB {c : UInt8} (hL : x.length <= bH) (hx : x.drop k = 92 :: c :: s) : Af C (n + 1) (Ae x o c2 F k) h = Af C n (Ae x o c2 F ((k + 2 : Nat) : Int)) h := by
 have i0 : ∀ h : H,bW (.bytes x) (.int (k : Int)) h = .ok (.int 92) h := at_ 0 hL hx rfl rfl
 unfold Af
 rw [aH]
 simp [Ae,W7,W6,YZ,cQ,lbl hL,kle hx,i0]
theorem Ve (hL : x.length <= bH) (hx : x.drop k = [92]) : Af C (n + 1 + 1) (Ae x o c2 F k) h = .ok F h := by
 have i0 : ∀ h : H,bW (.bytes x) (.int (k : Int)) h = .ok (.int 92) h := at_ 0 hL hx rfl rfl
 have h2 : ¬ ((k : Int) + 2 < x.length) := by
  have : (k : Int) + 1 = x.length := Rt 1 hx rfl (Nat.le_of_lt (kle hx))
  lia
 unfold Af
 rw [aH]
 simp [Ae,W7,W6,YZ,cQ,lbl hL,kle hx,i0,aH,h2]
theorem PK {c : UInt8} (n1 : c ≠ 92) (n2 : c ≠ 91) (hL : x.length <= bH) (hx : x.drop k = c :: s) : Af C (n + 1) (Ae x o c2 F k) h = Af C n (Ae x o c2 F ((k + 1 : Nat) : Int)) h := by
 have i0 : u5 x k c := at_ 0 hL hx rfl rfl
 unfold Af
 rw [aH]
 simp [Ae,W7,W6,YZ,cQ,lbl hL,kle hx,i0,n1,n2]
theorem PJ {i1 : Int} {b : Bool} {t : H} (hL : x.length <= bH) (hx : x.drop k = 91 :: s) (ht : C fK [.bytes x,.int ((k + 1 : Nat) : Int),.int (o.toNat : Int)] h = .ok (.tup [.bool b,.int i1]) (h ++ t)) : Af C (n + 1) (Ae x o c2 F k) h = Af C n (Ae x o (some (.tup [.bool b,.int i1])) F i1) (h ++ t) := by
 have i0 : ∀ h : H,bW (.bytes x) (.int (k : Int)) h = .ok (.int 91) h := at_ 0 hL hx rfl rfl
 have hti : ∀ h : H,bW (.tup [.bool b,.int i1]) (.int 1) h = .ok (.int i1) h := fun h => XD _ (k := 1) rfl rfl (lim (by simp))
 simp only [Int.natCast_add] at ht
 unfold Af
 rw [aH]
 simp at ht
 simp [Ae,W7,W6,YZ,cQ,lbl hL,kle hx,i0,ht,hti]
theorem ab1 {t : H} (hL : x.length <= bH) (hx : x.drop k = 91 :: s) (ht : C fK [.bytes x,.int ((k + 1 : Nat) : Int),.int (o.toNat : Int)] h = .ok .none (h ++ t)) : Af C (n + 1) (Ae x o c2 F k) h = .ok .none (h ++ t) := by
 have i0 : ∀ h : H,bW (.bytes x) (.int (k : Int)) h = .ok (.int 91) h := at_ 0 hL hx rfl rfl
 unfold Af
 rw [aH]
 simp at ht
 simp [Ae,W7,W6,YZ,cQ,lbl hL,kle hx,i0,ht]
end
theorem Vd (hC : Wr C) (hl : x.length <= 200) {o : UInt8} (ho : o ≠ 47) {F : Val} {s : Bs} {is : List Item} (hits : Its s is) : ∀ (k n : Nat) (c2 : Option Val) (h : H),x.drop k = s -> s.length < n -> ∃ t,Af C n (Ae x o c2 F k) h = .ok F (h ++ t) := by
 have hL : x.length <= bH := lim (by lia)
 induction hits with
 | nil =>
  intro k n c2 h hx hn
  cases n with
  | zero => exact absurd hn (Nat.not_lt_zero _)
  | succ n => exact ⟨[],by rw [YW hL hx,List.append_nil]⟩
 | lone =>
  intro k n c2 h hx hn
  match n,hn with
  | n + 1 + 1,_ => exact ⟨[],by rw [Ve hL hx,List.append_nil]⟩
 | @esc c s is hits ih =>
  intro k n c2 h hx hn
  cases n with
  | zero => exact absurd hn (Nat.not_lt_zero _)
  | succ n => rw [PB hL hx]; exact ih (k + 2) n c2 h (aB hx 2) (Nat.lt_of_succ_lt (Nat.lt_of_succ_lt_succ hn))
 | @cls a neg ms cs s is hb hits ih =>
  intro k n c2 h hx hn
  cases n with
  | zero => exact absurd hn (Nat.not_lt_zero _)
  | succ n =>
   have tb := hC x (k + 1) ((k + 1 : Nat) : Int) (a ++ s) o h rfl (aB hx 1) (kle hx) hl ho
   rw [hb s] at tb
   obtain ⟨j,i1,t1,rfl,hj,hjl,ht⟩ := tb
   rw [PJ hL hx ht]
   obtain ⟨t,e⟩ := ih j n (some (.tup [.bool (dY o ms cs != neg),.int j])) (h ++ t1) hj (by simp at hn; lia)
   exact ⟨t1 ++ t,by rw [e,List.append_assoc]⟩
 | @chr c s is n1 n2 hits ih =>
  intro k n c2 h hx hn
  cases n with
  | zero => exact absurd hn (Nat.not_lt_zero _)
  | succ n => rw [PK n1 n2 hL hx]; exact ih (k + 1) n c2 h (aB hx 1) (Nat.lt_of_succ_lt_succ hn)
theorem YX (hC : Wr C) (hl : x.length <= 200) {o : UInt8} (ho : o ≠ 47) {F : Val} {s : Bs} (hbad : Bad s) : ∀ (k n : Nat) (c2 : Option Val) (h : H),x.drop k = s -> s.length < n -> ∃ t,Af C n (Ae x o c2 F k) h = .ok .none (h ++ t) := by
 have hL : x.length <= bH := lim (by lia)
 induction hbad with
 | @brk s hb =>
  intro k n c2 h hx hn
  cases n with
  | zero => exact absurd hn (Nat.not_lt_zero _)
  | succ n =>
   have tb := hC x (k + 1) ((k + 1 : Nat) : Int) s o h rfl (aB hx 1) (kle hx) hl ho
   rw [hb] at tb
   obtain ⟨t,ht⟩ := tb
   exact ⟨t,ab1 hL hx ht⟩
 | @esc c s hb ih =>
  intro k n c2 h hx hn
  cases n with
  | zero => exact absurd hn (Nat.not_lt_zero _)
  | succ n => rw [PB hL hx]; exact ih (k + 2) n c2 h (aB hx 2) (Nat.lt_of_succ_lt (Nat.lt_of_succ_lt_succ hn))
 | @cls a neg ms cs s hb hb2 ih =>
  intro k n c2 h hx hn
  cases n with
  | zero => exact absurd hn (Nat.not_lt_zero _)
  | succ n =>
   have tb := hC x (k + 1) ((k + 1 : Nat) : Int) (a ++ s) o h rfl (aB hx 1) (kle hx) hl ho
   rw [hb s] at tb
   obtain ⟨j,i1,t1,rfl,hj,hjl,ht⟩ := tb
   rw [PJ hL hx ht]
   obtain ⟨t,e⟩ := ih j n (some (.tup [.bool (dY o ms cs != neg),.int j])) (h ++ t1) hj (by simp at hn; lia)
   exact ⟨t1 ++ t,by rw [e,List.append_assoc]⟩
 | @chr c s n1 n2 hb ih =>
  intro k n c2 h hx hn
  cases n with
  | zero => exact absurd hn (Nat.not_lt_zero _)
  | succ n => rw [PK n1 n2 hL hx]; exact ih (k + 1) n c2 h (aB hx 1) (Nat.lt_of_succ_lt_succ hn)
def HB (C : bK) : Prop := ∀ (s : Bs) (o : UInt8) (h : H),(91 :: s).length <= 200 -> o ≠ 47 -> (∀ is,Its (91 :: s) is -> ∃ t,C nj [.bytes (91 :: s),.int (o.toNat : Int)] h = .ok (.bool (iu o is)) (h ++ t)) /\ (Bad (91 :: s) -> ∃ t,C nj [.bytes (91 :: s),.int (o.toNat : Int)] h = .ok .none (h ++ t))
theorem Vs {is : List Item} (h : Its [] is) : is = [] := by cases h; rfl
theorem QS {c : UInt8} {s : Bs} {is : List Item} (h : Its (c :: s) is) : is ≠ [] := by cases h <;> simp
theorem Ji {o : UInt8} {h : H} {b : Bool} {j : Nat} {t : H} {rest : Bs} (hL : x.length <= bH) (hr : x.drop j = rest) (hj : j <= x.length) (e : C fK [.bytes x,.int 1,.int (o.toNat : Int)] h = .ok (.tup [.bool b,.int j]) (h ++ t)) :
  cj C ⟨2,[],5,cQ⟩ [.bytes x,.int (o.toNat : Int)] h = Af C FUEL (Ae x o (some (.tup [.bool b,.int j])) (.bool (b && decide (rest = []))) j) (h ++ t) := by
 have hd : decide ((j : Int) = (x.length : Int)) = decide (rest = []) := by
  have hrl := jW hr
  by_cases q : rest = []
  ·subst q
   simp at hrl
   simp [show j = x.length by lia]
  ·have : 0 < rest.length := List.length_pos_iff.mpr q
   simp [q]
   lia
 unfold Af
 rw [aN (by rfl)]
 cases b <;> simp [Ae,W7,W6,YZ,cQ,e,lbl hL,<- hd]
def adQ (h : H) (s : Bs) (o : UInt8) (w : Res Val) : Prop := (∀ is,Its (91 :: s) is -> ∃ t,w = .ok (.bool (iu o is)) (h ++ t)) /\ (Bad (91 :: s) -> ∃ t,w = .ok .none (h ++ t))
theorem Zm {s : Bs} {is : List Item} (h : Its (91 :: s) is) : ∃ a neg ms cs s2 is2,lW a neg ms cs /\ Its s2 is2 /\ s = a ++ s2 /\ is = itemOf neg ms cs :: is2 := by
 cases h with
 | cls h1 h2 => exact ⟨_,_,_,_,_,_,h1,h2,rfl,rfl⟩
 | chr h1 h2 h3 => exact absurd rfl h2
theorem aal {s : Bs} (h : Bad (91 :: s)) : bracket s = none \/ ∃ a neg ms cs s2,lW a neg ms cs /\ Bad s2 /\ s = a ++ s2 := by
 cases h with
 | brk h => exact .inl h
 | cls h1 h2 => exact .inr ⟨_,_,_,_,_,h1,h2,rfl⟩
 | chr h1 h2 h3 => exact absurd rfl h2
theorem Rk {o : UInt8} (ho : o ≠ 47) {neg : Bool} {ms : List Mem} {cs : List Bs} {s : Bs} {is : List Item} (h : Its s is) : ((dY o ms cs != neg) && decide (s = [])) = iu o (itemOf neg ms cs :: is) := by
 cases s with
 | nil =>
  rw [Vs h]
  show _ = wL o (itemOf neg ms cs)
  rw [GR ho]; simp
 | cons c s3 =>
  cases is with
  | nil => exact absurd rfl (QS h)
  | cons it is3 => simp [iu]
theorem Rm (hC : Wr C) {s : Bs} {o : UInt8} {h : H} (hl : (91 :: s).length <= 200) (ho : o ≠ 47) : adQ h s o (cj C ⟨2,[],5,cQ⟩ [.bytes (91 :: s),.int (o.toNat : Int)] h) := by
 have tb := hC (91 :: s) 1 1 s o h rfl rfl (Nat.succ_le_succ (Nat.zero_le _)) hl ho
 have hL : (91 :: s).length <= bH := lim (Nat.le_trans hl (by decide))
 refine ⟨fun is hi => ?_,fun hb => ?_⟩
 ·obtain ⟨a,neg,ms,cs,s2,is2,hb,h2,rfl,rfl⟩ := Zm hi
  rw [hb s2] at tb
  obtain ⟨j,i',t,rfl,q2,q3,e⟩ := tb
  obtain ⟨t2,e2⟩ := Vd hC hl ho (F := .bool ((dY o ms cs != neg) && decide (s2 = []))) h2 j FUEL (some (.tup [.bool (dY o ms cs != neg),.int j])) (h ++ t) q2 (mW (by simp at hl; lia))
  exact ⟨t ++ t2,by rw [Ji hL q2 q3 e,e2,List.append_assoc,Rk ho h2]⟩
 ·rcases aal hb with hb | ⟨a,neg,ms,cs,s2,h1,h2,rfl⟩
  ·rw [hb] at tb
   obtain ⟨t,e⟩ := tb
   refine ⟨t,?_⟩
   rw [aN (by rfl)]
   simp [cQ,e]
  ·rw [h1 s2] at tb
   obtain ⟨j,i',t,rfl,q2,q3,e⟩ := tb
   obtain ⟨t2,e2⟩ := YX hC hl ho (F := .bool ((dY o ms cs != neg) && decide (s2 = []))) h2 j FUEL (some (.tup [.bool (dY o ms cs != neg),.int j])) (h ++ t) q2 (mW (by simp at hl; lia))
   exact ⟨t ++ t2,by rw [Ji hL q2 q3 e,e2,List.append_assoc]⟩
end
theorem aag (n : Nat) : uK (aG (n + 1)) := fun a h => VL (aG n) a h
theorem agw (n : Nat) : R7 (aG (n + 1)) := fun x k q v r h i hi ho hx hl => Uq (aG n) hi ho hx hl
theorem agA (n : Nat) : Em (aG (n + 2)) := fun x k neg cs r h i hi hok hx hl hc => V3 (aG (n + 1)) (agw n) hi hok hx hl hc
theorem aae (n : Nat) : vG (aG (n + 1)) := fun x k r h i hi hx hl => K6 (C := aG n) hi hx hl
theorem aac (n : Nat) : JC (aG (n + 3)) := fun g o is h hok hl => Kl (C := aG (n + 2)) (agA n) (aae (n + 1)) hok hl
theorem adz (n : Nat) : Hy (aG (n + 4)) := fun g o is h hok hl => Oz (C := aG (n + 3)) (aac n) hok hl
theorem aaf (n : Nat) : JF (aG (n + 1)) := fun h l r neg rs c ho e hl => K8 (C := aG n) ho e hl
theorem Ec (n : Nat) : pO (aG (n + 2)) := fun h l r p neg rs c ps ho e hl ep hp => Oc (C := aG (n + 1)) (aaf n) ho e hl ep hp
theorem RM (n : Nat) : zK (aG (n + 1)) := fun h l p wh c ps ep hp => Od (C := aG n) ep hp
theorem Hs (n : Nat) : uJ (aG (n + 1)) := fun h l p wh c => Gd (C := aG n)
theorem Ht (n : Nat) : El (aG (n + 3)) := fun h l g p r1 r2 c a => G8 (C := aG (n + 2)) (Ec n) a
theorem RL (n : Nat) : zJ (aG (n + 4)) := fun h l g p r1 r2 c a => by
 obtain ⟨p',t,e1,e2⟩ := Ht n h l g p r1 r2 c a
 obtain ⟨as,q,_⟩ := a.ho
 exact ⟨p',t,Ge (C := aG (n + 3)) ⟨as,q⟩ e1,e2⟩
theorem adG (n : Nat) : R9 (aG (n + 5)) := fun h l g p c ps vs P ho hg hv hp hP hok hl => Ru (C := aG (n + 4)) ⟨Ec (n + 2),RM (n + 3),Hs (n + 3),RL n⟩ ho hg hv hp hP hok hl
theorem aad (n : Nat) : Bh (aG (n + 6)) := fun h l g as c ps vs e e0 e1 hg hv hok hl => Kz (C := aG (n + 5)) (adG n) e e0 e1 hg hv hok hl
theorem Wa (n : Nat) : xK (aG (n + 2)) := fun h m ms e hl => FJ (C := aG (n + 1)) (aag n) e hl
theorem Z9 (n : Nat) : rI (aG (n + 1)) := fun x k t h yg csv hx hl hm hc => Kg (C := aG n) hx hl hm hc
theorem Z7 (n : Nat) : xH (aG (n + 3)) := fun x k i s h hi hx hk hl => TG (C := aG (n + 2)) (Z9 (n + 1)) (Wa n) hi hx hk hl
theorem agu (n : Nat) : R6 (aG (n + 4)) := fun x is h hits hs hl => Ug (C := aG (n + 3)) (aag (n + 2)) (Z7 n) hits hs hl
theorem Z8 (n : Nat) : JB (aG (n + 4)) := fun s is h hits hl => J3 (C := aG (n + 3)) (Z7 n) hits hl
theorem Lx (n : Nat) : xJ (aG (n + 4)) := fun s h hb hl => J4 (C := aG (n + 3)) (Z7 n) hb hl
theorem Ly (n : Nat) : xM (aG (n + 1)) := fun h m dU e hne hl => Bb (C := aG n) e hne hl
theorem cTr (n : Nat) : Wo (aG (n + 5)) oX := fun s h hns hl => ⟨fun is hi => Tq (C := aG (n + 4)) (aag (n + 3)) (agu n) (Z8 n) (Ly (n + 3)) hi hns hl,fun hb => XQ (C := aG (n + 4)) (Lx n) hb hl⟩
theorem adw (n : Nat) : Wo (aG (n + 6)) fL := fun s h hns hl => JN (C := aG (n + 5)) (f := 0) (cTr n) hns hl
theorem adB (n : Nat) : R8 (aG (n + 1)) := fun s r h => PN (C := aG n)
theorem adC (n : Nat) : JD (aG (n + 7)) := fun s h hns hl => Vy (C := aG (n + 6)) (adw n) (adB (n + 5)) hns hl
theorem cCl (n : Nat) : Sd (aG (n + 1)) := fun h w o => Lr (C := aG n)
theorem cLb (n : Nat) : Wr (aG (n + 2)) := fun x k i s o h hi hx hk hl ho => Y6 (C := aG (n + 1)) (cCl n) hi hx hk hl ho
theorem adF (n : Nat) : HB (aG (n + 3)) := fun s o h hl ho => Rm (C := aG (n + 2)) (cLb n) hl ho
def Hz (C : bK) : Prop := ∀ (s : Bs) (h : H) (more : List Val),(more = [] \/ more = [.bool false]) -> noStar (91 :: s) -> (91 :: s).length <= 200 ->
 (∀ is,Its (91 :: s) is -> ∃ as t,C j8 (.inst 1 h.length :: .bytes (91 :: s) :: more) (h ++ [.ns 1 []]) = .ok .none (h ++ .ns 1 as :: t) /\ Made (h ++ .ns 1 as :: t) h.length (91 :: s) is) /\
 (Bad (91 :: s) -> ∃ h',C j8 (.inst 1 h.length :: .bytes (91 :: s) :: more) (h ++ [.ns 1 []]) = .exc h')
theorem Xq (n : Nat) : Hz (aG (n + 8)) := fun s h more hm hns hl => by
 have e : aG (n + 8) j8 (.inst 1 h.length :: .bytes (91 :: s) :: more) (h ++ [.ns 1 []]) = iI (dz (aG (n + 7)) bU [some (.inst 1 h.length),some (.bytes (91 :: s)),some (.bool false)] (h ++ [.ns 1 []])) := by
  show cj (aG (n + 7)) ⟨3,[.bool false],j5.length,bU⟩ _ _ = _
  rcases hm with rfl | rfl
  ·rw [vg _ ⟨by simp,by simp⟩]; rfl
  ·rw [vg _ ⟨by simp,by simp⟩]; rfl
 rw [e]
 exact ⟨fun is hi => K7 (C := aG (n + 7)) (adC n) (adz (n + 3)) hi hns hl,fun hb => QZ (C := aG (n + 7)) (adC n) hb hns hl⟩
def Wq (C : bK) : Prop := ∀ (h : H) (l : Nat) (x : Bs) (is : List Item) (c : UInt8),Made h l x is -> c ≠ 47 -> (∀ it ∈ is,it.ok) -> is.length <= 10000 -> ∃ t,C jl [.inst 1 l,.bytes [c]] h = .ok (.bool (iu c is)) (h ++ t)
theorem cPM (n : Nat) : Wq (aG (n + 7)) := fun h l x is c hm hc hok hl => FQ (C := aG (n + 6)) (aad n) hm hc hok hl
def adN (C : bK) : Prop := ∀ (s : Bs) (h : H) (c : UInt8),noStar (91 :: s) -> (91 :: s).length <= 200 -> c ≠ 47 ->
 (∀ is,Its (91 :: s) is -> ∃ t,C jk [.bytes [c],.bytes (91 :: s)] h = .ok (.bool (iu c is)) (h ++ t)) /\
 (Bad (91 :: s) -> ∃ h',C jk [.bytes [c],.bytes (91 :: s)] h = .exc h')
theorem yW {s : Bs} {is : List Item} (h : Its s is) : is.length <= 40 * s.length := Nat.le_trans (wG is) (vp h)
theorem YM {C : bK} (hN : Hz C) (hM : Wq C) {s : Bs} {h : H} {c : UInt8} (hns : noStar (91 :: s)) (hl : (91 :: s).length <= 200) (hc : c ≠ 47) :
  (∀ is,Its (91 :: s) is -> ∃ t,cj C ⟨3,[.bool false],3,dj⟩ [.bytes [c],.bytes (91 :: s)] h = .ok (.bool (iu c is)) (h ++ t)) /\
  (Bad (91 :: s) -> ∃ h',cj C ⟨3,[.bool false],3,dj⟩ [.bytes [c],.bytes (91 :: s)] h = .exc h') := by
 obtain ⟨a,b⟩ := hN s h [.bool false] (.inr rfl) hns hl
 have e : cj C ⟨3,[.bool false],3,dj⟩ [.bytes [c],.bytes (91 :: s)] h = iI (dz C dj [some (.bytes [c]),some (.bytes (91 :: s)),some (.bool false)] h) := by
  rw [vg _ ⟨by simp,by simp⟩]; rfl
 rw [e]
 refine ⟨fun is hi => ?_,fun hb => ?_⟩
 ·obtain ⟨as,t,e1,hm⟩ := a is hi
  have aga := yW hi
  obtain ⟨t2,e2⟩ := hM _ _ _ _ c hm hc (GC hi (by lia)) (by lia)
  refine ⟨.ns 1 as :: (t ++ t2),?_⟩
  have hmm := fun es ls => fW C ls (m := .match_) (es := es) (c := 1) (f := jl) (h := h ++ .ns 1 as :: t) (l := h.length) (c' := 1) (as := as) rfl (by simp)
  simp [dj,initOf,e1,hmm,e2]
 ·obtain ⟨h',e1⟩ := b hb
  refine ⟨h',?_⟩
  simp [dj,initOf,e1,jr,Res.bind,KZ]
  rfl
theorem cMP (n : Nat) : adN (aG (n + 9)) := fun s h c hns hl hc => YM (C := aG (n + 8)) (Xq n) (cPM (n + 1)) hns hl hc
section
variable (C : bK)
noncomputable def Qx (x : Nat) (b : bG) (ls : Ls) (u v : Val) (h : H) : SR := match u,v with
  | .int i,.int j => if -1000000 < i /\ i < 1000000 /\ -1000000 < j /\ j < 1000000 then fr C (putN C x) b (.vals ((List.range (j - i).toNat).map fun k => .int (i + (k : Nat)))) FUEL 0 ls h else .bad
  | _,_ => .bad
noncomputable def Zg (x : Nat) (b : bG) (ls : Ls) (u : Val) (r : Res Val) : SR := SR.of ls r fun v h => Qx C x b ls u v h
noncomputable def acK (x : Nat) (hi : ME) (b : bG) (ls : Ls) (r : Res Val) : SR := SR.of ls r fun u h => Zg C x b ls u (aL C ls hi h)
@[simp] theorem ad9 (x : Nat) (b : bG) (ls : Ls) (u v : Val) (h : H) : Zg C x b ls u (.ok v h) = Qx C x b ls u v h := rfl
@[simp] theorem aea (x : Nat) (hi : ME) (b : bG) (ls : Ls) (u : Val) (h : H) : acK C x hi b ls (.ok u h) = Zg C x b ls u (aL C ls hi h) := rfl
@[simp] theorem adh (x : Nat) (lo hi : ME) (b : bG) (ls : Ls) (h : H) : exS C (.Dq x lo hi b) ls h = acK C x hi b ls (aL C ls lo h) := rfl
theorem Vo {x : Nat} {b : bG} {ls : Ls} {i j : Int} {h : H} (e : -1000000 < i /\ i < 1000000 /\ -1000000 < j /\ j < 1000000) : Qx C x b ls (.int i) (.int j) h = fr C (putN C x) b (.vals ((List.range (j - i).toNat).map fun k => .int (i + (k : Nat)))) FUEL 0 ls h := by
 show (if -1000000 < i /\ i < 1000000 /\ -1000000 < j /\ j < 1000000 then _ else _) = _
 rw [if_pos e]
noncomputable def Vl (x n : Nat) (r : SR) : SR := match r with
  | .exc ls' h => if x < ls'.length /\ ls'.length = n then .ok .next (ls'.set x (some .none)) (h.map Cell.kill) else .bad
  | r => r
@[simp] theorem ad4 (x n : Nat) (f : Xy) (ls : Ls) (h : H) : Vl x n (.ok f ls h) = .ok f ls h := rfl
theorem CX {x n : Nat} {ls : Ls} {h : H} (e : x < ls.length /\ ls.length = n) : Vl x n (.exc ls h) = .ok .next (ls.set x (some .none)) (h.map Cell.kill) := by
 show (if x < ls.length /\ ls.length = n then _ else _) = _
 rw [if_pos e]
@[simp] theorem aeu (b : bG) (x : Nat) (ls : Ls) (h : H) : exS C (.Fe b x) ls h = Vl x ls.length (dz C b ls h) := by
 show (match dz C b ls h with
  | .exc ls' h => if x < ls'.length /\ ls'.length = ls.length then SR.ok .next (ls'.set x (some .none)) (h.map Cell.kill) else .bad
  | r => r) = _
 unfold Vl
 cases dz C b ls h <;> rfl
noncomputable def cq2 (ls : Ls) (x : Val) (elt : ME) (l : Nat) (y : Val) (h : H) : Res Unit := (aL C (ls ++ [some x,some y]) elt h).bind fun z h4 => nD l z h4
noncomputable def cq1 (ls : Ls) (kI elt : ME) (l : Nat) (x : Val) (h : H) : Res Unit := (aL C (ls ++ [some x,none]) kI h).bind fun w h2 => match lY w with
    | some kJ => cH kJ (cq2 C ls x elt l) FUEL 0 h2
    | none => .bad
noncomputable def kCq (ls : Ls) (kI elt : ME) (r : Res Val) : Res Val := r.bind fun v h => match lY v with
  | some src => sV h.length (cH src (cq1 C ls kI elt h.length) FUEL 0 (h ++ [.lst []]))
  | none => .bad
@[simp] theorem K3 (ls : Ls) (kI elt : ME) (x : Bs) (h : H) : kCq C ls kI elt (.ok (.bytes x) h) = sV h.length (cH (.vals (x.map fun c => .int c.toNat)) (cq1 C ls kI elt h.length) FUEL 0 (h ++ [.lst []])) := rfl
@[simp] theorem tB (ls : Ls) (GF kI elt : ME) (h : H) : aL C ls (.uE GF kI elt) h = kCq C ls kI elt (aL C ls GF h) := rfl
end
noncomputable def ov (o : UInt8) : Val := .int o.toNat
noncomputable def m8 (i : Int) : UInt8 := UInt8.ofNat (i % 256).toNat
theorem YT (i : Int) : i % 256 = ((m8 i).toNat : Int) := by
 have h1 : 0 <= i % 256 := Int.emod_nonneg _ (by decide)
 have h2 : i % 256 < 256 := Int.emod_lt_of_pos _ (by decide)
 unfold m8
 rw [UInt8.toNat_ofNat']
 have : (i % 256).toNat % 2 ^ 8 = (i % 256).toNat := Nat.mod_eq_of_lt (by lia)
 rw [this]
 lia
theorem Ds {src : Src} {vs : List Val} {f : Val -> H -> Res Unit} {g : Val -> List UInt8} {h0 : H} (hg : ∀ q,(g q).length <= 3) (hnx : ∀ i acc t,nx src i (h0 ++ .lst acc :: t) = some vs[i]?) (hf : ∀ q ∈ vs,∀ (os : List UInt8) t,os.length <= 10000 -> ∃ u,f q (h0 ++ .lst (os.map ov) :: t) = .ok () (h0 ++ .lst ((os ++ g q).map ov) :: (t ++ u))) :
  ∀ (rest pre : List Val) (n : Nat) (os : List UInt8) (t : H),vs = pre ++ rest -> rest.length < n -> os.length + 3 * rest.length <= 10000 ->
   ∃ u,cH src f n pre.length (h0 ++ .lst (os.map ov) :: t) = .ok () (h0 ++ .lst ((os ++ rest.flatMap g).map ov) :: (t ++ u)) := by
 intro rest
 induction rest with
 | nil =>
  intro pre n os t hr hn ha
  obtain ⟨n,rfl⟩ := pW hn
  refine ⟨[],?_⟩
  rw [pC (by rw [hnx,hr]; simp)]
  simp
 | cons q rest Xg =>
  intro pre n os t hr hn ha
  obtain ⟨n,rfl⟩ := pW hn
  obtain ⟨u,hu⟩ := hf q (by rw [hr]; simp) os t (by lia)
  have hgq := hg q
  obtain ⟨u',hu'⟩ := Xg (pre ++ [q]) n (os ++ g q) (t ++ u) (by simp [hr]) (by simpa using hn) (by simp at ha ⊢; lia)
  refine ⟨u ++ u',?_⟩
  have hq : nx src pre.length (h0 ++ .lst (os.map ov) :: t) = some (some q) := by rw [hnx,hr]; simp
  rw [mH hq,hu]
  simp at hu' ⊢
  exact hu'
noncomputable def pieces : List Bs := [[97],[99],[122],[65],[45],[48],[57],[33],[94],[93],[92],[47],[58],[91],[91,58,97,108,112,104,97,58,93],[91,58,112,117,110,99,116,58,93],[91,58,115,112,97,99,101,58,93],[91,58,99,110,116,114,108,58,93],[95],[255],[91,58,100,105,103,105,116,58,93],[91,58,102,111,111,58,93],[91,58,117,112,112,101,114,58,93],[91,58,120,100,105,103,105,116,58,93],[32],[45],[92],[91,58,103,114,97,112,104,58,93],[91,58,108,111,119,101,114,58,93],[91,58,97,108,110,117,109,58,93],[91,58,98,108,97,110,107,58,93],[91,58,112,114,105,110,116,58,93],[97,45],[91,58],[46]]
theorem Kh : ∀ p ∈ pieces,p.length <= 10 /\ ∀ c ∈ p,c ≠ 42 /\ c ≠ 63 := by decide +kernel
theorem qm : pieces.length = 35 := by rfl
def jY (C : bK) : Prop := ∀ h : H,C ni [] h = .ok (.lst h.length) (h ++ [.lst (pieces.map .bytes)])
theorem Ga {C : bK} {h : H} : cj C ⟨0,[],0,nq⟩ [] h = .ok (.lst h.length) (h ++ [.lst (pieces.map .bytes)]) := by
 rw [aN (by rfl)]
 have hk : ∀ h : H,Gx (.ok (pieces.map .bytes) h) = .ok (.lst h.length) (h ++ [.lst (pieces.map .bytes)]) := fun h => IW (lim (by rw [List.length_map,qm]; decide))
 have hv : pieces.map Val.bytes = [.bytes [97],.bytes [99],.bytes [122],.bytes [65],.bytes [45],.bytes [48],.bytes [57],.bytes [33],.bytes [94],.bytes [93],.bytes [92],.bytes [47],.bytes [58],.bytes [91],.bytes [91,58,97,108,112,104,97,58,93],.bytes [91,58,112,117,110,99,116,58,93],.bytes [91,58,115,112,97,99,101,58,93],.bytes [91,58,99,110,116,114,108,58,93],.bytes [95],.bytes [255],.bytes [91,58,100,105,103,105,116,58,93],.bytes [91,58,102,111,111,58,93],.bytes [91,58,117,112,112,101,114,58,93],.bytes [91,58,120,100,105,103,105,116,58,93],.bytes [32],.bytes [45],.bytes [92],.bytes [91,58,103,114,97,112,104,58,93],.bytes [91,58,108,111,119,101,114,58,93],.bytes [91,58,97,108,110,117,109,58,93],.bytes [91,58,98,108,97,110,107,58,93],.bytes [91,58,112,114,105,110,116,58,93],.bytes [97,45],.bytes [91,58],.bytes [46]] := rfl
 have hk' := hk h
 simp only [nq,fZ,VK,rB,oJ,Lg,Gz,rA,Gy]
 rw [<- hv,hk]
 rfl
theorem Wb (n : Nat) : jY (aG (n + 1)) := fun h => Ga (C := aG n)
noncomputable def oE : bG := match dg with
 | .cons _ (.cons _ (.cons (.Dq _ _ _ b) _)) => b
 | _ => .nil
structure iB (x : Bs) (n : Nat) : Prop where
 hd : ∃ s,x = 91 :: s
 ns : noStar x
 len : x.length <= n
theorem iB.app {x y : Bs} {n m : Nat} (h : iB x n) (h1 : y.length <= m) (h2 : ∀ c ∈ y,c ≠ 42 /\ c ≠ 63) : iB (x ++ y) (n + m) := by
 obtain ⟨s,e⟩ := h.hd
 refine ⟨⟨s ++ y,by rw [e]; rfl⟩,fun c hc => ?_,by rw [List.length_append]; have := h.len; lia⟩
 rcases List.mem_append.mp hc with q | q
 ·exact h.ns c q
 ·exact h2 c q
@[simp] theorem Ze (a b c : Val) (h : H) : Gx (.ok [a,b,c] h) = .ok (.lst h.length) (h ++ [.lst [a,b,c]]) := rfl
section
variable {C : bK}
noncomputable def Mp (script : List Int) (s1 : Option Val) (x : Bs) (s3 s4 : Option Val) : Ls := [some (.lB script),s1,some (.bytes x),s3,s4,none,none,none,none,none]
noncomputable def Mq (C : bK) (m n i : Nat) (ls : Ls) (h : H) : SR := fr C (putN C 3) oE (.vals ((List.range m).map fun k => .int (1 + (k : Nat)))) n i ls h
inductive TxT (C : bK) (script : List Int) (s1 : Option Val) (m n i : Nat) (h : H) (w : SR) : Prop where
 | mk (x : Bs) (s3 s4 : Option Val) (t : H) (ok : iB x (1 + 10 * (i + 1))) (e : w = Mq C m n (i + 1) (Mp script s1 x s3 s4) (h ++ t)) : TxT C script s1 m n i h w
inductive TxG (script : List Int) (s1 : Option Val) (w : SR) : Prop where
 | mk (x : Bs) (s3 s4 : Option Val) (t : H) (ok : iB x 61) (e : w = .ok .next (Mp script s1 x s3 s4) t) : TxG script s1 w
structure TF (C : bK) (script : List Int) (m i : Nat) (h : H) (z : Int) (p : Bs) : Prop where
 pc : C ni [] h = .ok (.lst h.length) (h ++ [.lst (pieces.map .bytes)])
 iz : ∀ h : H,bW (.lB script) (.int (1 + (i : Int))) h = .ok (.int z) h
 md : ∀ h : H,gY .mod (.int z) (.int 35) h = .ok (.int (z % 35)) h
 ip : bW (.lst h.length) (.int (z % 35)) (h ++ [.lst (pieces.map .bytes)]) = .ok (.bytes p) (h ++ [.lst (pieces.map .bytes)])
 nx : nx (.vals ((List.range m).map fun k => .int (1 + (k : Nat)))) i h = some (some (.int (1 + (i : Int))))
section
variable {script : List Int} {x p : Bs} {m i n : Nat} {s1 s3 s4 : Option Val} {h : H} {z : Int}
theorem Nh {q : Bs} (hl : x.length + q.length <= 100) (ls : Ls) (h : H) : nG 2 .add (.bytes x) (.bytes q) ls h = .ok .next (ls.set 2 (some (.bytes (x ++ q)))) h := dG (lim (Nat.le_trans hl (by decide)))
theorem t_p (f : TF C script m i h z p) (hp : p ≠ [93]) (hl : x.length + p.length <= 100) (ok : iB (x ++ p) (1 + 10 * (i + 1))) : TxT C script s1 m n i h (Mq C m (n + 1) i (Mp script s1 x s3 s4) h) := by
 refine ⟨x ++ p,some (.int (1 + (i : Int))),some (.bytes p),[.lst (pieces.map .bytes)],ok,?_⟩
 unfold Mq
 rw [cJ,f.nx]
 simp [Mp,oE,dg,f.pc,f.iz,f.md,f.ip,hp,Nh hl]
theorem aeP {B : Bool} (f : TF C script m i h z [93]) (hB : dM (.bytes x) [.bytes [91],.bytes [91,33],.bytes [91,94]] = some B) (hl : x.length + 1 <= 100) (ok : iB (x ++ if B then [93] else [99]) (1 + 10 * (i + 1))) : TxT C script s1 m n i h (Mq C m (n + 1) i (Mp script s1 x s3 s4) h) := by
 have hin : tR (h ++ [.lst (pieces.map .bytes),.lst [.bytes [91],.bytes [91,33],.bytes [91,94]]]) (.bytes x) (.lst (h.length + 1)) = some B := by
  rw [HW _ (qC _ _ _ _),hB]
 refine ⟨x ++ if B then [93] else [99],some (.int (1 + (i : Int))),some (.bytes [93]),[.lst (pieces.map .bytes),.lst [.bytes [91],.bytes [91,33],.bytes [91,94]]],ok,?_⟩
 unfold Mq
 rw [cJ,f.nx]
 cases B with
 | true => simp [Mp,oE,dg,f.pc,f.iz,f.md,f.ip,hin,Nh (q := [93]) hl]
 | false => simp [Mp,oE,dg,f.pc,f.iz,f.md,f.ip,hin,Nh (q := [99]) hl]
theorem X4 (hP : jY C) (hs : script.length <= 63) (hi : i < m) (hm : 1 + m <= script.length) (h : H) : ∃ z p,TF C script m i h z p /\ p ∈ pieces := by
 have h1 : 1 + i < script.length := Nat.lt_of_lt_of_le (Nat.add_lt_add_left hi 1) hm
 have hz := List.getElem?_eq_getElem h1
 generalize script[1 + i] = z at hz
 have hz0 : 0 <= z % 35 := Int.emod_nonneg _ (by decide)
 have hz1 : (z % 35).toNat < pieces.length := by rw [qm]; exact (Int.toNat_lt hz0).mpr (Int.emod_lt_of_pos _ (by decide))
 have hp := List.getElem?_eq_getElem hz1
 refine ⟨z,_,⟨hP h,fun h => Mz _ (k := 1 + i) (by simp) hz (lim (Nat.le_trans hs (by decide))),fun h => zP _ (by decide),rW _ (k := (z % 35).toNat) (Int.toNat_of_nonneg hz0).symm (bC _ _ _) (by rw [List.getElem?_map,hp]; rfl) (lim (by rw [List.length_map,qm]; decide)),?_⟩,List.mem_of_getElem? hp⟩
 rw [vh,List.getElem?_map,List.getElem?_range hi]; rfl
theorem JX (hP : jY C) (hs : script.length <= 63) (hi : i < m) (hm : 1 + m <= script.length) (hx : iB x (1 + 10 * i)) (hm6 : m <= 6) : TxT C script s1 m n i h (Mq C m (n + 1) i (Mp script s1 x s3 s4) h) := by
 have Zw := hx.len
 obtain ⟨z,p,f,hpm⟩ := X4 hP hs hi hm h
 have ac0 : x.length <= 80 := by omega
 have ok : ∀ {q : Bs},q.length <= 10 -> (∀ c ∈ q,c ≠ 42 /\ c ≠ 63) -> iB (x ++ q) (1 + 10 * (i + 1)) := fun h1 h2 => hx.app h1 h2
 by_cases h93 : p = [93]
 ·subst h93
  obtain ⟨B,hB⟩ : ∃ B,dM (.bytes x) [.bytes [91],.bytes [91,33],.bytes [91,94]] = some B := ⟨_,rfl⟩
  exact aeP f hB (Nat.le_trans (Nat.add_le_add_right ac0 1) (by decide)) (ok (by cases B <;> decide) (by cases B <;> decide))
 ·obtain ⟨hpl,hpn⟩ := Kh p hpm
  exact t_p f h93 (Nat.le_trans (Nat.add_le_add ac0 hpl) (by decide)) (ok hpl hpn)
theorem JZ (hP : jY C) (hs : script.length <= 63) (hm : 1 + m <= script.length) (hm6 : m <= 6) (cnt : Nat) : ∀ (i n : Nat) (x : Bs) (s3 s4 : Option Val) (h : H),i + cnt = m -> iB x (1 + 10 * i) -> TxG script s1 (Mq C m (n + 1 + cnt) i (Mp script s1 x s3 s4) h) := by
 induction cnt with
 | zero =>
  intro i n x s3 s4 h hi hx
  have hi : i = m := hi
  subst hi
  refine ⟨x,s3,s4,h,⟨hx.hd,hx.ns,Nat.le_trans hx.len (Nat.add_le_add_left (Nat.mul_le_mul_left 10 hm6) 1)⟩,?_⟩
  unfold Mq
  rw [Nat.add_zero,cJ,vh,List.getElem?_map,List.getElem?_eq_none (by rw [List.length_range]; exact Nat.le_refl _)]
  exact Ah _ _ _ _ _ _ _ _
 | succ cnt ih =>
  intro i n x s3 s4 h hi hx
  obtain ⟨x1,s3',s4',t,ok,e⟩ := JX (s1 := s1) (s3 := s3) (s4 := s4) (n := n + 1 + cnt) (h := h) hP hs (show i < m by rw [<- hi]; exact Nat.lt_add_of_pos_right (Nat.succ_pos _)) hm hx hm6
  rw [show n + 1 + (cnt + 1) = n + 1 + cnt + 1 from rfl,e]
  exact ih (i + 1) n x1 s3' s4' (h ++ t) (by rw [<- hi,Nat.add_assoc,Nat.add_comm 1]) ok
end
theorem ZL {m : Nat} (h : m <= 6) : FUEL - 1 - m + 1 + m = FUEL := by have := bL; omega
theorem l_v (L : Nat) : ∃ v : Nat,(if (L : Int) < 7 then (L : Int) else 7) = (v : Int) /\ v <= 7 /\ v <= L /\ (v = 0 -> L = 0) := by
 by_cases h : L < 7
 ·exact ⟨L,if_pos (Int.ofNat_lt.mpr h),Nat.le_of_lt h,Nat.le_refl _,id⟩
 ·exact ⟨7,if_neg (fun q => h (Int.ofNat_lt.mp q)),Nat.le_refl _,Nat.not_lt.mp h,nofun⟩
theorem acf {v : Nat} (hv : v <= 7) (ls : Ls) (h : H) : Qx C 3 oE ls (.int 1) (.int (v : Int)) h = Mq C (v - 1) FUEL 0 ls h := by
 rw [Vo C ⟨by decide,by decide,Int.lt_of_lt_of_le (by decide) (Int.natCast_nonneg v),Int.lt_of_le_of_lt (Int.ofNat_le.mpr hv) (by decide)⟩]
 unfold Mq
 congr 4
 cases v with
 | zero => rfl
 | succ m => exact congrArg Int.toNat (Int.add_sub_cancel (m : Int) 1)
theorem ace (hP : jY C) {script : List Int} {v : Nat} (hv : v <= 7) (hl : v <= script.length) (h0 : v = 0 -> script.length = 0) (hs : script.length <= 63) (s1 : Option Val) : TxG script s1 (Mq C (v - 1) FUEL 0 (Mp script s1 [91] none none) []) := by
 have hx0 : iB [91] (1 + 10 * 0) := ⟨⟨[],rfl⟩,by intro c hc; rw [List.mem_singleton] at hc; subst hc; decide,by decide⟩
 cases v with
 | zero =>
  refine ⟨[91],none,none,[],⟨hx0.hd,hx0.ns,by decide⟩,?_⟩
  unfold Mq
  rw [fuel1,cJ]
  exact Ah _ _ _ _ _ _ _ _
 | succ m =>
  have hm := Nat.le_of_succ_le_succ hv
  have := JZ (m := m) (s1 := s1) hP hs (by rw [Nat.add_comm]; exact hl) hm m 0 (FUEL - 1 - m) [91] none none [] (Nat.zero_add _) hx0
  rwa [ZL hm] at this
theorem acd (hP : jY C) {script : List Int} (hs : script.length <= 63) : ∃ (n : Int) (x : Bs) (s3 s4 : Option Val) (t : H),iB x 61 /\
  dz C dg [some (.lB script),none,none,none,none,none,none,none,none,none] [] = dz C (dJ 3 dg) [some (.lB script),some (.int n),some (.bytes x),s3,s4,none,none,none,none,none] t := by
 have hL : script.length <= bH := lim (Nat.le_trans hs (by decide))
 have hfl : ∀ h : H,iU .eX [.lB script] h = .ok (.int script.length) h := fun h => XC _ hL
 have hft : ∀ h : H,KY (.ok (.lB script) h) = .ok (!script.isEmpty) h := fun h => Vm _ _ hL
 obtain ⟨v,v1,v2,v3,v4⟩ := l_v script.length
 have r : ∀ ls h,Qx C 3 oE ls (.int 1) (.int (if (script.length : Int) < 7 then (script.length : Int) else 7)) h = _ := fun ls h => v1 ▸ acf (C := C) v2 ls h
 have txt := ace (C := C) hP v2 v3 v4 hs
 clear v1 v2 v3 v4
 generalize v - 1 = m at r txt
 cases script with
 | nil =>
  obtain ⟨x,s3,s4,t,h1,h2⟩ := txt (some (.int 0))
  refine ⟨0,x,s3,s4,t,h1,?_⟩
  simp only [oE,dg,f9,gb,Mp] at h2 r ⊢
  simp at hfl r
  simp [hft,hfl,r,h2]
 | cons n0 sc =>
  obtain ⟨x,s3,s4,t,h1,h2⟩ := txt (some (.int n0))
  have hi0 : ∀ h : H,bW (.lB (n0 :: sc)) (.int 0) h = .ok (.int n0) h := fun h => Mz _ (k := 0) rfl rfl hL
  refine ⟨n0,x,s3,s4,t,h1,?_⟩
  simp only [oE,dg,f9,gb,Mp] at h2 r ⊢
  simp at hfl r
  simp [hft,hfl,r,hi0,h2]
end
noncomputable def gC (q : Val) : List UInt8 := match q with
 | .int i => [m8 (i + -1),m8 (i + 0),m8 (i + 1)]
 | _ => []
noncomputable def gF (q : Val) : List UInt8 := match q with
 | .int i => if i = 0 \/ i = 47 then [] else [m8 i]
 | _ => []
section
variable {C : bK}
theorem W5 (i : Int) : Val.int (i % 256) = ov (m8 i) := by unfold ov; rw [<- YT]
theorem Hi {ls : Ls} {h1 : H} {c : UInt8} {os : List UInt8} {t : H} (hls : ls.length = 10) (hos : os.length <= 10000) :
  ∃ u,cq1 C ls (.lst (.cons (.neg 1) (.cons (.aq 0) (.cons (.aq 1) .nil)))) (.bin .mod (.bin .add (.var 10) (.var 11)) (.aq 256)) h1.length (ov c) (h1 ++ .lst (os.map ov) :: t) = .ok () (h1 ++ .lst ((os ++ gC (ov c)).map ov) :: (t ++ u)) := by
 have hmod : ∀ (z : Int) (h : H),gY .mod (.int z) (.int 256) h = .ok (.int (z % 256)) h := fun z h => zP _ (by decide)
 have v10 : ∀ y : Val,(ls ++ [some (Val.int c.toNat),some y])[10]? = some (some (Val.int c.toNat)) := fun y => by
  rw [List.getElem?_append_right (by lia),hls]; rfl
 have v11 : ∀ y : Val,(ls ++ [some (Val.int c.toNat),some y])[11]? = some (some y) := fun y => by
  rw [List.getElem?_append_right (by lia),hls]; rfl
 have step : ∀ (d : Int) (os' : List UInt8) (t' : H),os'.length <= 20000 -> cq2 C ls (ov c) (.bin .mod (.bin .add (.var 10) (.var 11)) (.aq 256)) h1.length (.int d) (h1 ++ .lst (os'.map ov) :: t') = .ok () (h1 ++ .lst ((os' ++ [m8 (c.toNat + d)]).map ov) :: t') := fun d os' t' ho => by
  have hp := lZ (h := h1) (t := t') (acc := os'.map ov) (y := ov (m8 (c.toNat + d))) (by rw [List.length_map]; lia)
  unfold cq2
  simp only [vC,jE,v10,v11,iH,wF,wD,ov,XH,mY,hmod,vY]
  rw [W5,hp]
  simp
 let D : H := [.lst [.int (-1),.int 0,.int 1]]
 have hnx : ∀ (a : Cell) (i : Nat),nx (.lst (h1.length + (t.length + 1))) i (h1 ++ a :: (t ++ D)) = some ([Val.int (-1),.int 0,.int 1][i]?) := fun a i => dB (by simp [D])
 refine ⟨D,?_⟩
 unfold cq1
 simp only [rB,oJ,vB,mY,Gz,rA,Gy,Ze,vY,lY]
 rw [show (h1 ++ Cell.lst (os.map ov) :: t) ++ [Cell.lst [.int (-1),.int 0,.int 1]] = h1 ++ .lst (os.map ov) :: (t ++ D) by simp [D],show (h1 ++ Cell.lst (os.map ov) :: t).length = h1.length + (t.length + 1) by simp]
 rw [show FUEL = FUEL - 4 + 1 + 1 + 1 + 1 by have := bL; lia]
 rw [mH (x := .int (-1)) (by rw [hnx]; rfl),step (-1) os _ (by lia),vY]
 rw [mH (x := .int 0) (by rw [hnx]; rfl),step 0 _ _ (by simp; lia),vY]
 rw [mH (x := .int 1) (by rw [hnx]; rfl),step 1 _ _ (by simp; lia),vY]
 rw [pC (by rw [hnx]; rfl)]
 simp [gC,ov]
theorem Uo {ls : Ls} {n : Int} {x : Bs} {h : H} (hls : ls.length = 10) (h1 : ls[1]? = some (some (.int n))) (h2 : ls[2]? = some (some (.bytes x))) (hx : x.length <= 200) :
  ∃ (p : Nat) (os : List UInt8) (t : H),aL C ls (.bin .add (.lst (.cons (.bin .mod (.bin .fdiv (.var 1) (.aq 8)) (.aq 256)) (.cons (.aq 46) (.cons (.aq 48) (.cons (.aq 97) (.cons (.aq 255) .nil)))))) (.uE (.slc (.var 2) (.aq 1) (.aq 6)) (.lst (.cons (.neg 1) (.cons (.aq 0) (.cons (.aq 1) .nil)))) (.bin .mod (.bin .add (.var 10) (.var 11)) (.aq 256)))) h = .ok (.lst p) (h ++ t) /\ (h ++ t)[p]? = some (.lst (os.map ov)) /\ 46 ∈ os /\ os.length <= 100 := by
 have hmod : ∀ (z : Int) (h : H),gY .mod (.int z) (.int 256) h = .ok (.int (z % 256)) h := fun z h => zP _ (by decide)
 have hdiv : ∀ (z : Int) (h : H),gY .fdiv (.int z) (.int 8) h = .ok (.int (z / 8)) h := fun z h => Te _ (by decide)
 let l0 : List UInt8 := [m8 (n / 8),46,48,97,255]
 have e0 : [Val.int (n / 8 % 256),.int 46,.int 48,.int 97,.int 255] = l0.map ov := by
  simp only [l0,List.map_cons,List.map_nil,W5]; rfl
 let H1 : H := h ++ [.lst (l0.map ov)]
 obtain ⟨y,hy⟩ : ∃ y,y = Bd x (some (1 : Int)) (some (6 : Int)) := ⟨_,rfl⟩
 have hyl : y.length <= 5 := by
  rw [hy,show (1 : Int) = ((1 : Nat) : Int) from rfl,show (6 : Int) = ((6 : Nat) : Int) from rfl,Jy,List.length_take]; lia
 obtain ⟨u,hu⟩ := Ds (src := .vals (y.map fun c => .int c.toNat)) (vs := y.map fun c => .int c.toNat) (f := cq1 C ls (.lst (.cons (.neg 1) (.cons (.aq 0) (.cons (.aq 1) .nil)))) (.bin .mod (.bin .add (.var 10) (.var 11)) (.aq 256)) H1.length) (g := gC) (h0 := H1) (fun q => by unfold gC; split <;> simp) (fun i acc t => rfl) (fun q hq os t ho => by
  obtain ⟨c,_,rfl⟩ := List.mem_map.mp hq
  exact Hi hls ho) (y.map fun c => .int c.toNat) [] FUEL [] [] rfl (by rw [List.length_map]; have : FUEL = 100000 := bL; lia) (by simp; lia)
 obtain ⟨os2,ZD⟩ : ∃ os2,os2 = (y.map fun c => Val.int c.toNat).flatMap gC := ⟨_,rfl⟩
 rw [<- ZD] at hu
 have ahk : os2.length <= 15 := by
  rw [ZD]
  clear hu ZD hy
  have : ∀ y : Bs,((y.map fun c => Val.int c.toNat).flatMap gC).length <= 3 * y.length := fun y => by
   induction y with
   | nil => simp
   | cons c y ih => simp only [List.map_cons,List.flatMap_cons,List.length_append,List.length_cons,gC,List.length_nil]; lia
  have := this y
  lia
 refine ⟨h.length + (1 + (u.length + 1)),l0 ++ os2,.lst (l0.map ov) :: .lst (os2.map ov) :: (u ++ [.lst ((l0 ++ os2).map ov)]),?_,?_,by simp [l0],by simp [l0]; lia⟩
 ·have hadd : gY .add (.lst h.length) (.lst H1.length) (H1 ++ .lst (os2.map ov) :: u) = .ok (.lst (H1 ++ .lst (os2.map ov) :: u).length) (H1 ++ .lst (os2.map ov) :: u ++ [.lst (l0.map ov ++ os2.map ov)]) := zQ _ (hup (bC _ _ _)) (bC _ _ _) (lim (by simp [l0]; lia))
  simp only [vC,rB,oJ,jE,h1,iH,mY,wF,wD,hdiv,hmod,Gz,rA,Gy]
  rw [e0,IW (lim (by simp [l0])),wF,tB]
  simp only [Aw,jE,h2,iH,Qq,mY,Qo,Qm,fU _ (lim (show x.length <= 100000 by lia))]
  rw [<- hy,K3]
  simp only [List.length_nil,List.map_nil,List.nil_append] at hu
  show I4 .add (.lst h.length) (sV H1.length (cH _ _ FUEL 0 (H1 ++ [.lst []]))) = _
  rw [hu,yS,wD,hadd]
  simp [H1,l0]
  lia
 ·have := bC (h ++ .lst (l0.map ov) :: .lst (os2.map ov) :: u) (.lst ((l0 ++ os2).map ov)) []
  simp at this ⊢
  rw [show h.length + (1 + (u.length + 1)) = h.length + (u.length + 1 + 1) by lia]
  simpa using this
theorem Un {ls : Ls} {p : Nat} {os : List UInt8} {h : H} (hls : ls.length = 10) (h5 : ls[5]? = some (some (.lst p))) (hp : h[p]? = some (.lst (os.map ov))) (ho : os.length <= 100) (h46 : 46 ∈ os) :
  ∃ (os' : List UInt8) (t : H),aL C ls (.comp (.var 5) true (.and (.cmp .ne (.var 10) (.aq 0)) (.cmp .ne (.var 10) (.aq 47))) (.var 10)) h = .ok (.lst h.length) (h ++ t) /\ (h ++ t)[h.length]? = some (.lst (os'.map ov)) /\ os' ≠ [] /\ (∀ o ∈ os',o ≠ 47) /\ os'.length <= 100 := by
 have v10 : ∀ y : Val,(ls ++ [some y])[10]? = some (some y) := fun y => by
  rw [List.getElem?_append_right (by lia),hls]; rfl
 obtain ⟨u,hu⟩ := Ds (src := .lst p) (vs := os.map ov) (f := Rv C ls (.and (.cmp .ne (.var 10) (.aq 0)) (.cmp .ne (.var 10) (.aq 47))) (.var 10) h.length) (g := gF) (h0 := h) (fun q => by unfold gF; split <;> (try split) <;> simp) (fun i acc t => dB (hup hp)) (fun q hq os' t ho' => by
  obtain ⟨c,_,rfl⟩ := List.mem_map.mp hq
  have hm : m8 (c.toNat : Int) = c := by
   unfold m8
   have : ((c.toNat : Int) % 256).toNat = c.toNat := by have := c.toNat_lt; lia
   rw [this]; simp
  have ac2 := lZ (h := h) (t := t) (acc := os'.map ov) (y := .int c.toNat) (by rw [List.length_map]; lia)
  refine ⟨[],?_⟩
  unfold Rv
  by_cases h0 : (c.toNat : Int) = 0
  ·simp only [pH,Ar,pJ,jE,v10,iH,wC,mY,wB,ov,rY,h0,decide_true,Bool.not_true,sH,CZ,I5,vY]
   simp [gF,h0,ov]
  ·by_cases h47 : (c.toNat : Int) = 47
   ·simp only [pH,Ar,pJ,jE,v10,iH,wC,mY,wB,ov,rY,h47]
    simp [gF,h47,v10]
   ·simp only [pH,Ar,pJ,jE,v10,iH,wC,mY,wB,ov,rY,h0,h47,decide_false,Bool.not_false,sH,CZ,Vr,vY,if_true]
    rw [ac2]
    simp only [gF,h0,h47,or_self,if_false,hm,List.map_append,List.map_cons,List.map_nil,ov,List.append_nil]) (os.map ov) [] FUEL [] [] rfl (by rw [List.length_map]; have : FUEL = 100000 := bL; lia) (by simp; lia)
 simp only [List.length_nil,List.map_nil,List.nil_append] at hu
 refine ⟨(os.map ov).flatMap gF,.lst (((os.map ov).flatMap gF).map ov) :: u,?_,by simp,?_,?_,?_⟩
 ·rw [rC,jE,h5,iH,K4,hu,yS]
 ·have hin : (46 : UInt8) ∈ (os.map ov).flatMap gF := by
   rw [List.mem_flatMap]
   refine ⟨ov 46,List.mem_map.mpr ⟨46,h46,rfl⟩,?_⟩
   decide
  intro q; rw [q] at hin; cases hin
 ·intro o ho
  obtain ⟨q,hq,h⟩ := List.mem_flatMap.mp ho
  obtain ⟨c,_,rfl⟩ := List.mem_map.mp hq
  have hm : m8 (c.toNat : Int) = c := by
   unfold m8
   have : ((c.toNat : Int) % 256).toNat = c.toNat := by have := c.toNat_lt; lia
   rw [this]; simp
  unfold gF ov at h
  dsimp only at h
  split at h
  ·cases h
  ·rename_i hn
   rw [List.mem_singleton,hm] at h
   subst h
   rintro rfl
   exact hn (.inr rfl)
 ·clear hu
  have : ∀ os : List UInt8,((os.map ov).flatMap gF).length <= os.length := fun os => by
   induction os with
   | nil => simp
   | cons c os ih =>
    have : (gF (ov c)).length <= 1 := by unfold gF ov; dsimp only; split <;> simp
    simp only [List.map_cons,List.flatMap_cons,List.length_append,List.length_cons]; lia
  have := this os
  lia
end
noncomputable def Ag : bG := match dJ 11 dg with
 | .cons (.uT _ _ b) _ => b
 | _ => .nil
section
variable {C : bK}
theorem KQ (hM : Wq C) (hF : HB C) {s : Bs} {is : List Item} {l p : Nat} (hits : Its (91 :: s) is) (hl : (91 :: s).length <= 200) {s0 s1 s3 s4 s6 s7 : Option Val} {os : List UInt8} (hos : ∀ o ∈ os,o ≠ 47) (hol : os.length <= 100) : ∀ (rest pre : List UInt8) (n : Nat) (h : H) (s9 : Option Val),os = pre ++ rest -> rest.length < n -> Made h l (91 :: s) is -> h[p]? = some (.lst (os.map ov)) ->
  ∃ (t : H) (s9' : Option Val),fr C (putN C 9) Ag (.lst p) n pre.length [s0,s1,some (.bytes (91 :: s)),s3,s4,some (.lst p),s6,s7,some (.inst 1 l),s9] h = .ok .next [s0,s1,some (.bytes (91 :: s)),s3,s4,some (.lst p),s6,s7,some (.inst 1 l),s9'] (h ++ t) := by
 intro rest
 induction rest with
 | nil =>
  intro pre n h s9 hr hn hm hp
  obtain ⟨n,rfl⟩ : ∃ k,n = k + 1 := ⟨n - 1,by simp at hn; lia⟩
  refine ⟨[],s9,?_⟩
  rw [cJ,dB hp,hr]
  simp
 | cons o rest ih =>
  intro pre n h s9 hr hn hm hp
  obtain ⟨n,rfl⟩ : ∃ k,n = k + 1 := ⟨n - 1,by simp at hn; lia⟩
  have ho : o ≠ 47 := hos o (by rw [hr]; simp)
  have aga := yW hits
  obtain ⟨as,b4,l6,g,vs,q1,_⟩ := hm.ex
  obtain ⟨t1,e1⟩ := hM (h ++ [.lst [.int o.toNat]]) l _ is o hm.up ho (GC hits (by lia)) (by lia)
  obtain ⟨t2,e2⟩ := (hF s o (h ++ [.lst [.int o.toNat]] ++ t1) hl ho).1 is hits
  obtain ⟨t3,s9',e3⟩ := ih (pre ++ [o]) n (h ++ ([.lst [.int o.toNat]] ++ (t1 ++ t2))) (some (ov o)) (by simp [hr]) (by simp at hn; lia) hm.up (hup hp)
  refine ⟨[.lst [.int o.toNat]] ++ (t1 ++ t2) ++ t3,s9',?_⟩
  have hnx : nx (.lst p) pre.length h = some (some (ov o)) := by rw [dB hp,hr]; simp
  have hmm := fun es ls => fW C ls (m := .match_) (es := es) (c := 1) (f := jl) (h := h) (l := l) rfl q1
  rw [cJ,hnx]
  simp only [Ag,dg,f9,gb] at e3 ⊢
  simp [ov] at e1 e2 e3
  simp [ov,hmm,e1,e2,e3]
theorem TX (n : Int) {x : Bs} (hx : iB x 61) {s0 s3 s4 s5 s6 s7 s8 s9 : Option Val} {h : H} : ∃ x',iB x' 71 /\ dz C (dJ 3 dg) [s0,some (.int n),some (.bytes x),s3,s4,s5,s6,s7,s8,s9] h = dz C (dJ 4 dg) [s0,some (.int n),some (.bytes x'),s3,s4,s5,s6,s7,s8,s9] h := by
 have hmod : ∀ h : H,gY .mod (.int n) (.int 8) h = .ok (.int (n % 8)) h := fun h => zP _ (by decide)
 have Zw := hx.len
 by_cases hn : 0 < n % 8
 ·have ZG : ∀ ls h,nG 2 .add (.bytes x) (.bytes [93]) ls h = .ok .next (ls.set 2 (some (.bytes (x ++ [93])))) h := fun ls h => dG (lim (by simp; lia))
  refine ⟨x ++ [93],hx.app (m := 10) (by simp) (by decide),?_⟩
  simp only [f9,gb,dg]
  simp [hmod,hn,ZG]
 ·refine ⟨x,⟨hx.hd,hx.ns,by lia⟩,?_⟩
  simp only [f9,gb,dg]
  simp [hmod,hn]
theorem Vh (hP : jY C) (hF : HB C) (hMP : adN C) (hN : Hz C) (hM : Wq C) {script : List Int} (hs : script.length <= 63) : ∃ h',cj C lu [.lB script] [] = .ok (.bool true) h' := by
 obtain ⟨n,x0,s3,s4,t0,hx0,ea⟩ := acd hP hs
 obtain ⟨x,hx,eb⟩ := TX (C := C) n hx0 (s0 := some (.lB script)) (s3 := s3) (s4 := s4) (s5 := none) (s6 := none) (s7 := none) (s8 := none) (s9 := none) (h := t0)
 obtain ⟨s,rfl⟩ := hx.hd
 have hl : (91 :: s).length <= 200 := by have := hx.len; lia
 obtain ⟨p1,os1,t1,o1,o2,o3,o4⟩ := Uo (C := C) (ls := [some (.lB script),some (.int n),some (.bytes (91 :: s)),s3,s4,none,none,none,none,none]) (n := n) (x := 91 :: s) (h := t0) rfl rfl rfl hl
 obtain ⟨os,t2,r1,r2,r3,r4,r5⟩ := Un (C := C) (ls := [some (.lB script),some (.int n),some (.bytes (91 :: s)),s3,s4,some (.lst p1),none,none,none,none]) (p := p1) (os := os1) (h := t0 ++ t1) rfl rfl o2 o4 o3
 obtain ⟨p,hp⟩ : ∃ p,p = (t0 ++ t1).length := ⟨_,rfl⟩
 rw [<- hp] at r1 r2
 obtain ⟨K,hK⟩ : ∃ K : H,K = t0 ++ t1 ++ t2 := ⟨_,rfl⟩
 rw [<- hK] at r1 r2
 obtain ⟨o,os',rfl⟩ : ∃ o os',os = o :: os' := by
  cases os with
  | nil => exact absurd rfl r3
  | cons o os' => exact ⟨o,os',rfl⟩
 have ho : o ≠ 47 := r4 o (.head _)
 have hol : ((o :: os').map ov).length <= bH := lim (by rw [List.length_map]; lia)
 have hidx : ∀ t : H,bW (.lst p) (.int 0) (K ++ t) = .ok (.int o.toNat) (K ++ t) := fun t => rW _ (k := 0) rfl (hup r2) rfl hol
 have Xi : bW (.lst p) (.int 0) K = .ok (.int o.toNat) K := rW _ (k := 0) rfl r2 rfl hol
 -- up to the octets
 have start : cj C lu [.lB script] [] = iI (dz C (dJ 6 dg) [some (.lB script),some (.int n),some (.bytes (91 :: s)),s3,s4,some (.lst p),none,none,none,none] K) := by
  have e0 : cj C lu [.lB script] [] = iI (dz C dg [some (.lB script),none,none,none,none,none,none,none,none,none] []) := by
   show cj C ⟨1,[],nP.length,dg⟩ [.lB script] [] = _
   rw [aN (by rfl)]; rfl
  have ec : dz C (dJ 4 dg) [some (.lB script),some (.int n),some (.bytes (91 :: s)),s3,s4,none,none,none,none,none] t0 = dz C (dJ 5 dg) [some (.lB script),some (.int n),some (.bytes (91 :: s)),s3,s4,some (.lst p1),none,none,none,none] (t0 ++ t1) := by
   conv => lhs; simp only [f9,gb,dg]
   rw [fZ,wU,o1,Qi,eO,qZ _ _ _ (by simp),iQ]
   rfl
  have ed : dz C (dJ 5 dg) [some (.lB script),some (.int n),some (.bytes (91 :: s)),s3,s4,some (.lst p1),none,none,none,none] (t0 ++ t1) = dz C (dJ 6 dg) [some (.lB script),some (.int n),some (.bytes (91 :: s)),s3,s4,some (.lst p),none,none,none,none] K := by
   conv => lhs; simp only [f9,gb,dg]
   rw [fZ,wU,r1,Qi,eO,qZ _ _ _ (by simp),iQ]
   rfl
  rw [e0,ea,eb,ec,ed]
 rw [start]
 rcases mX _ (91 :: s) (Nat.le_refl _) with ⟨is,hits⟩ | hbad
 ·obtain ⟨u1,f1⟩ := (hF s o K hl ho).1 is hits
  obtain ⟨u2,f2⟩ := (hMP s (K ++ u1 ++ [.lst [.int o.toNat]]) o hx.ns hl ho).1 is hits
  obtain ⟨as,u3,f3,hmade⟩ := (hN s (K ++ (u1 ++ .lst [.int o.toNat] :: u2)) [] (.inl rfl) hx.ns hl).1 is hits
  obtain ⟨u4,s9,f4⟩ := KQ (C := C) hM hF (p := p) hits hl (s0 := some (.lB script)) (s1 := some (.int n)) (s3 := s3) (s4 := s4) (s6 := some (.bool (iu o is))) (s7 := some (.bool (iu o is))) (os := o :: os') r4 r5 (o :: os') [] FUEL _ none rfl (by have : FUEL = 100000 := bL; lia) hmade (hup (hup r2))
  refine ⟨K ++ (u1 ++ .lst [.int o.toNat] :: u2) ++ .ns 1 as :: u3 ++ u4,?_⟩
  have hb := nW (K ++ u1) o
  simp only [Ag,f9,gb,dg,List.length_nil] at f4 ⊢
  simp at f2 f3 hb f4
  simp [Xi,f1,hidx,hb,f2,initOf,f3]
  rw [f4]
  simp
 ·obtain ⟨u1,f1⟩ := (hF s o K hl ho).2 hbad
  obtain ⟨h',f2⟩ := (hMP s (K ++ u1 ++ [.lst [.int o.toNat]]) o hx.ns hl ho).2 hbad
  have hb := nW (K ++ u1) o
  refine ⟨h'.map Cell.kill,?_⟩
  have hte := fun ls => CX (x := 7) (n := 10) (ls := ls) (h := h')
  simp only [f9,gb,dg]
  simp at f2 hb
  simp [Xi,f1,hidx,hb,f2,CX]
theorem Qd {script : List Int} (hs : script.length <= 63) : ∃ h',cj (aG 20) lu [.lB script] [] = .ok (.bool true) h' :=
 Vh (C := aG 20) (Wb 19) (adF 17) (cMP 11) (Xq 12) (cPM 13) hs
end
end Mine.P
end
section
open PySem PySem.W PyProof.Rows PySem.Spec PySem.Calls PySem.Builtin
namespace Mine
noncomputable abbrev RW : OpenLaw := PySem.Challenge.rw_iy0009_01
theorem ints_of {xs : List WData} : WShape.hasItems [] xs .int = true -> ∃ ns : List Int,xs = ns.map .int := by
 induction xs with
 | nil => exact fun _ => ⟨[],rfl⟩
 | cons d xs ih =>
  intro h
  simp only [WShape.hasItems,Bool.and_eq_true] at h
  obtain ⟨i,rfl⟩ := hasW_int h.1
  obtain ⟨ns,rfl⟩ := ih h.2
  exact ⟨i :: ns,rfl⟩
theorem int_inv {cl : PySem.Str -> Option Addr} {h : Heap} {v : Value} {n : Int} {as : List Addr} (r : ReadsW [] cl h v (.int n) as) : ∃ t,v = .int n t := by
 cases r; exact ⟨_,rfl⟩
theorem intsAre_of {cl : PySem.Str -> Option Addr} {h : Heap} (ns : List Int) : ∀ {vs : List Value} {as : List Addr},ReadsAllW [] cl h vs (ns.map .int) as -> IntsAre vs ns := by
 induction ns with
 | nil => intro vs as r; obtain ⟨rfl,_⟩ := readsAllW_nil_inv r; exact .nil
 | cons n ns ih =>
  intro vs as r
  obtain ⟨v,vs,a1,a2,rfl,_,r1,r2⟩ := readsAllW_cons_inv r
  obtain ⟨t,rfl⟩ := int_inv r1
  exact .cons n t (ih r2)
set_option tactic.hygienic true in
theorem aao {cl : PySem.Str -> Option Addr} {h : Heap} {args : List WData} {vs : List Value} {as : List Addr} (hp : RW.row.toRowW.claim.pre args = true) (hr : ReadsAllW [] cl h vs args as) :
  ∃ (ns : List Int) (a : Addr) (ws : List Value),args = [.list (ns.map .int)] /\ vs = [.ref a] /\ h.IsList a ws.toArray /\ IntsAre ws ns /\ ns.length <= 63 := by
 obtain ⟨h1,h2⟩ := pre_splitW hp
 obtain ⟨d,r,rfl,hd,hr0⟩ := hasAllW_cons h1
 have := hasAllW_nil hr0
 subst this
 obtain ⟨xs,rfl,hx⟩ := hasW_list hd
 obtain ⟨ns,rfl⟩ := ints_of hx
 have hlen : ns.length <= 63 := by
  have h3 : (WTm.and (.not (.lt (.lit (.int 63)) (.len (.arg 0)))) (.lit (.bool true))).holds [] { args := [.list (ns.map .int)] } = true := h2
  unfold WTm.holds at h3
  simp [WTm.value] at h3
  refine Nat.le_of_not_lt fun q => ?_
  have hl : W.less? (.int 63) (.int (ns.length : Int)) = some true := by
   show some (decide ((63 : Int) < (ns.length : Int))) = _
   rw [decide_eq_true (by omega)]
  rw [hl] at h3
  simp at h3
 cases hr with
 | cons q1 q2 =>
  cases q2
  cases q1 with
  | list ho hc hd' hall =>
   rename_i a o its n as'
   exact ⟨ns,a,its.toList,rfl,rfl,⟨o,ho,hc,n,by rw [hd']⟩,intsAre_of _ hall,hlen⟩
theorem CT {h : Heap} (e : rZ h = true) : h.nsMap mainNs "law" = some (.ref 278) := by
 have e := aR e
 simp only [M8,Bool.and_eq_true] at e
 obtain ⟨⟨⟨⟨⟨⟨⟨⟨e1,e2⟩,e3⟩,e4⟩,e5⟩,e6⟩,e7⟩,e8⟩,e9⟩ := e
 simp only [Ak,Bool.and_eq_true] at e4
 obtain ⟨⟨⟨⟨⟨⟨⟨⟨⟨⟨⟨_,e⟩,_⟩,_⟩,_⟩,_⟩,_⟩,_⟩,_⟩,_⟩,_⟩,_⟩ := e4
 exact eq_of_beq (List.all_eq_true.mp e 26 (List.mem_range.mpr (by omega)))
theorem Tw {h : Heap} (hg : h.isNs mainGlobals = true) (hc : rZ h = true) (hl : sS h = o9) : isTheDefsW PW h "law" := by
 unfold sS o9 at hl
 cases hf : fdOf h 278 with
 | none =>
  rw [hf] at hl
  have : ((PW.theDef "law").map fun d => (("law" : PySem.Str),("law" : PySem.Str),d.1,FuncBody.stmts d.2.1,d.2.2,mainNs,([] : List (PySem.Str × Addr)),builtinsNs,Value.none,Value.none)) = none := hl.symm
  have h2 : (PW.theDef "law").isSome = true := by decide +kernel
  rw [Option.map_eq_none_iff] at this
  rw [this] at h2; exact qD h2
 | some fd =>
  obtain ⟨o,ho,_,hd⟩ := pD hf
  rw [hf] at hl
  obtain ⟨⟨args,body,scope⟩,h1,h2⟩ := Option.map_eq_some_iff.mp hl.symm
  simp only [Prod.mk.injEq] at h2
  obtain ⟨a1,a2,a3,a4,a5,a6,a7,a8,a9,a10⟩ := h2
  have hdef : args.defaults = [] := by
   have : (PW.theDef "law").map (fun d => d.1.defaults.isEmpty) = some true := by decide +kernel
   rw [h1] at this
   simpa using this
  have hkw : kwWritten? args.kwonlyargs args.kw_defaults = some [] := by
   have : (PW.theDef "law").map (fun d => d.1.kwonlyargs.isEmpty && d.1.kw_defaults.isEmpty) = some true := by decide +kernel
   rw [h1] at this
   simp only [Option.map_some,Option.some.injEq,Bool.and_eq_true,List.isEmpty_iff] at this
   rw [this.1,this.2]
   rfl
  exact ⟨278,o,fd,args,body,scope,(Pin.globalOf_eq hg _).trans (CT hc),ho,hd,h1,a1.symm,a2.symm,a3.symm,a4.symm,a5.symm,a6.symm,a7.symm,a8.symm,.inl ⟨hdef,a9.symm⟩,[],hkw,.inl ⟨rfl,a10.symm⟩⟩
theorem rO.stay {h h' : Heap} {G a : Addr} {fd : FuncData} {body : List Stmt} {names : List PySem.Str} {np : Nat} {dv : List Value} (k : h.StaysIn h') (F : rO h G a fd body names np dv) : rO h' G a fd body names np dv where
 obj := by obtain ⟨o,e,d⟩ := F.obj; exact ⟨o,k _ _ e,d⟩
 lim := by obtain ⟨mc,a,b⟩ := F.lim; exact ⟨mc,Ns.stay k a,b⟩
 code := by obtain ⟨c,o,vs,t,e,g,r⟩ := F.code; exact ⟨c,o,vs,t,e,k _ _ g,r⟩
 body := F.body
 kind := F.kind
 co := F.co
 gen := F.gen
 globals := F.globals
 builtins := F.builtins
 ou := F.ou
 params := F.params
 nodup := F.nodup
 len := F.len
 binds := fun s ws ks => F.binds s ws (fun b o e => ks b o (k b o e))
theorem qN.stay {h h' : Heap} {G a : Addr} {fd : FuncData} {body : List Stmt} {names : List PySem.Str} {np : Nat} (k : h.StaysIn h') (F : qN h G a fd body names np) : qN h' G a fd body names np where
 obj := by obtain ⟨o,e,d⟩ := F.obj; exact ⟨o,k _ _ e,d⟩
 lim := by obtain ⟨mc,a,b⟩ := F.lim; exact ⟨mc,Ns.stay k a,b⟩
 code := by obtain ⟨c,o,vs,t,e,g,r⟩ := F.code; exact ⟨c,o,vs,t,e,k _ _ g,r⟩
 body := F.body
 kind := F.kind
 co := F.co
 gen := F.gen
 globals := F.globals
 builtins := F.builtins
 clo := F.clo
 params := F.params
 nodup := F.nodup
 len := F.len
 binds := F.binds
theorem oW.stay {h h' : Heap} (k : h.StaysIn h') (x : oW h) : oW h' := by
 obtain ⟨f1,f2,f3,f4,f5,f6⟩ := x
 exact ⟨f1,f2,f3,k _ _ f4,Ns.stay k f5,BL k f6⟩
theorem TopAll.stay {prog : Program} {w : World} {aQ : Nat -> Addr} {G : Addr} {h h' : Heap} (k : h.StaysIn h') (x : TopAll prog w aQ G h) : TopAll prog w aQ G h' where
 top := ⟨x.top.Ir.stay k,fun f gQ hf => by
  obtain ⟨fd,body,names,e,⟨dv,F,hd,hb⟩ | ⟨F,hd,hb⟩⟩ := x.top.adb f gQ hf
  ·exact ⟨fd,body,names,e,.inl ⟨dv,F.stay k,hd,hb⟩⟩
  ·exact ⟨fd,body,names,e,.inr ⟨F.stay k,hd,hb⟩⟩⟩
 glob := x.glob.stay k
 posix := x.posix.stay k
 sm := by obtain ⟨o,e⟩ := x.sm; exact ⟨o,k _ _ e⟩
 cls := fun c => ⟨by obtain ⟨N,mN,a,g1,g2,g3,na,ini,mth⟩ := (x.cls c).ex; exact ⟨N,mN,a.keeps k,g1,g2,g3,na,ini,mth⟩,by obtain ⟨K,a,b⟩ := (x.cls c).adf; exact ⟨K,a.keeps k,b⟩⟩
 fn := fun f => by obtain ⟨o,fd,a,b⟩ := x.fn f; exact ⟨o,fd,k _ _ a,b⟩
theorem V9 {w : World} {s s₀ s₁ : Shared} {args : List WData} {vs : List Value} {as : List Addr} (hc : rZ s.heap = true) (hpx : cY PW w s.heap) (hk : s.heap.StaysIn s₁.heap) (hg : s₁.gens = #[]) (hp : RW.row.toRowW.claim.pre args = true) (hr : ReadsAllW [] (classAt s₀.heap) s₁.heap vs args as) :
  wpAny (model PW w) callerA (call (.ref 278) vs) (fun v s' => GoodWG RW.row.toRowW.claim (classAt s₀.heap) (ExcName.means s₀.heap) args s₁ (.ok (.ret v)) s')
   (fun e s' => GoodWG RW.row.toRowW.claim (classAt s₀.heap) (ExcName.means s₀.heap) args s₁ (.error e) s') s₁ := by
 obtain ⟨ns,a,ws,rfl,rfl,Ra,hints,hlen⟩ := aao hp hr
 obtain ⟨T,fd,body,F,hok⟩ := JW hc hpx
 obtain ⟨h',hrun⟩ := P.Qd hlen
 refine wpAny_call (RK (v := .lB ns) (n := 20) (T.stay hk) (F.stay hk) hok rfl rfl (by decide) (.lB (by simp) Ra hints) ⟨rfl,List.nodup_nil,(fun i c a h => nomatch h),(fun a h => nomatch h)⟩ hrun fun b s' e hst hb => ?_)
 subst hb
 have hpost : RW.row.toRowW.claim.post [.list (ns.map .int)] (.bool true) [.list (ns.map .int)] = true := by
  have h2 : (WTm.eq .res (.lit (.bool true))).holds [] { args := [.list (ns.map .int)],res := some (.bool true),after := [.list (ns.map .int)] } = true := by
   unfold WTm.holds
   have hs : W.same (.bool true) (.bool true) = true := by decide +kernel
   simp [WTm.value,hs]
  show (WShape.has [] (.bool true) .bool && (WTm.eq .res (.lit (.bool true))).holds [] { args := [.list (ns.map .int)],res := some (.bool true),after := [.list (ns.map .int)] }) = true
  rw [h2,Bool.and_true]
  rfl
 exact ⟨.inl ⟨.bool true,.bool true,[],rfl,fun _ => rfl,.bool true,hpost,fun _ => ⟨List.nodup_nil,fun _ h => nomatch h⟩⟩,.of_keep hst,by rw [e],.of_eq (by rw [e]; exact hg)⟩
theorem Ke (said : RW.row.wellSaid = true) : RW.row.Holds := by
 have hw : RW.row.toRowW.promised := ⟨[.list []],by decide +kernel,by decide +kernel⟩
 refine ⟨said,hw,⟨⟨rfl,rfl,rfl,rfl,rfl,by decide +kernel⟩,by decide +kernel,rfl⟩,hw.witness,fun w => ⟨(behind w).1,fun s' hs' => ?_⟩⟩
 obtain ⟨s₀,hf,hg0,s,B⟩ := (behind w).2 s' hs'
 refine ⟨s₀,hf,hg0,s,B.top,fun n hn => ?_,(fun x hx => nomatch hx),(fun x hx => nomatch hx),?_⟩
 ·have : n = "law" := by
   have hn' : n ∈ [PySem.Str.ofString "law"] := hn
   exact List.mem_singleton.mp hn'
  subst this
  exact Tw B.mg B.Xp B.law
 refine ClaimW.callFrom_of_specG (c := RW.row.toRowW.claim) B.asleep B.gens fun args hpre hlay ord hord => ?_
 obtain ⟨⟨vs,s₁⟩,hlaid⟩ := Option.isSome_iff_exists.mp (layAllW_isSome (R := []) (cl := classAt s.heap) (P := w.params) (ord := ord) (by intro c hc; exact qD hc) args RW.row.toRowW.args s (pre_splitW hpre).1)
 have keeps := layAllW_keeps _ _ _ hlaid
 have hal := layAllW_rest _ _ _ hlaid
 obtain ⟨as,hrd,hin,hold⟩ := reads_layAllW hord _ _ _ hlaid hlay s₁.heap (fun _ _ e => e)
 have L : Laid [] w s s₁ args vs as := ⟨⟨ord,hord,hlaid⟩,hrd,hin,hold,keeps,hal.1.trans B.gens,hal.2.2.1⟩
 have hcall := V9 (w := w) (s := s) (s₀ := s) B.Xp B.px keeps L.gens hpre hrd
 have hmg : s₁.heap.Ns mainGlobals (s.heap.nsMap mainNs) := (Heap.Ns.of_isNs B.mg).keeps keeps
 have af3 := CT B.Xp
 have hi := ident_freeW (r := RW.row.toRowW) rfl rfl rfl
 refine ⟨vs,s₁,hlaid,wpAny_bind (wpAny_nsGet hmg ?_)⟩
 rw [show RW.row.toRowW.claim.prog = PW from rfl]
 rw [show (s.heap.nsMap mainNs RW.row.name) = some (.ref 278) from af3]
 refine wpAny_bind (wpAny_mono hcall (fun v s' g => wpAny_pure ⟨_,rfl,?_⟩) fun e s' g => ?_)
 ·have z := g.laid (c := RW.row.toRowW.claim) rfl rfl hi L
  exact ⟨z.1,z.2.1,z.2.2,fun q => nomatch q⟩
 ·have z := g.laid (c := RW.row.toRowW.claim) rfl rfl hi L
  exact ⟨z.1,z.2.1,z.2.2,fun q => nomatch q⟩
end Mine
end
section
open PySem PySem.W PyProof.Rows
theorem Mine.said : PySem.Challenge.rw_iy0009_01.wellSaid = true := by
  unfold OpenLaw.wellSaid
  iterate 18 refine look_both ?_ (by decide +kernel)
  unfold OpenRow.wellSaid
  iterate 2 refine look_both ?_ (by decide +kernel)
  unfold OpenRow.partSaid
  iterate 13 refine look_both ?_ (by decide +kernel)
  unfold looksOpen
  iterate 5 refine look_both ?_ (by decide +kernel)
  decide +kernel
theorem PySem.Challenge.cw_iy0009_01_holds : PySem.Challenge.rw_iy0009_01.Holds := by
  exact holds_law Mine.said Mine.Ke
end
