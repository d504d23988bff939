import PyProof.Rows.All
import PyProof.StrCalls6
import PyProof.EqLayable
import PyProof.MinMaxWalk
import PyProof.Rows.StrBin
import PyProof.Rows.StrSplit
import Wide.All
import OpenK.AllK
import Wide.FinOn
import OpenK.KMake
import KE.KLam
import KE.KDictIter
import KE.KRevSl
import PyProof.MaxThree
import KE.LcSums
import KE.KUnpack
import PyProof.Rows.NameDeclared
import KE.KStar
import KE.KItem
import KE.KListMore
import PyProof.MeetsDict
import PyProof.AutoIntG2
import PyProof.StrCalls2
import PyProof.SliceSyntax
import PyProof.Rows.TupDisplay
import PyProof.ForAny
import PyProof.WalksEnum
import PyProof.WalksMore
import PyProof.StrWalks
import PyProof.ZipIter
import KE.KTurns
import KE.KRevIter
import PyProof.RangeFor
import PyProof.DefCall
import PyProof.CompFree
import PyProof.Cells
import PyProof.PlainList
import PyProof.Rows.CellsNews
import PyProof.TableCode
import PyProof.Rows.RegReprOcc
import PySem.Challenge.RW_wc0018_02
set_option Elab.async false
set_option maxRecDepth 100000
set_option genSizeOfSpec false
set_option genSizeOf false
set_option genInjectivity false
set_option backward.match.sparseCases false
set_option tactic.hygienic false
set_option bootstrap.genMatcherCode false
set_option compiler.extract_closed false
set_option linter.all false
section
namespace Mine
@[elab_as_elim] theorem rwG {α:Sort _} {a:α} {m:α→Prop} {b:α} (h:a = b) (k:m b):m a:=by subst h;exact k
@[elab_as_elim] theorem rwH {α:Sort _} {a:α} {m:α→Prop} {b:α} (h:b = a) (k:m b):m a:=by subst h;exact k
theorem no1 {α:Type _} {x:α} {G:Prop} (h:none = some x):G:=nomatch h
theorem no2 {α:Type _} {x:α} {G:Prop} (h:some x = none):G:=nomatch h
theorem tf1 {G:Prop} (h:true = false):G:=nomatch h
theorem tf2 {G:Prop} (h:false = true):G:=nomatch h
section
variable {α β:Type _}
theorem so1 {a b:α} (h:some a = some b):a = b:=by cases h;rfl
@[elab_as_elim] theorem so1m {a b:α} {m:α→Prop} (h:some a = some b) (k:m a):m b:=by cases h;exact k
@[elab_as_elim] theorem so1n {a b:α} {m:α→Prop} (h:some a = some b) (k:m b):m a:=by cases h;exact k
@[elab_as_elim] theorem so2m {a c:α} {b d:β} {m:α→β→Prop} (h:some (a,b) = some (c,d)) (k:m a b):m c d:=by cases h;exact k
@[elab_as_elim] theorem so2n {a c:α} {b d:β} {m:α→β→Prop} (h:some (a,b) = some (c,d)) (k:m c d):m a b:=by cases h;exact k
theorem dF {a c:α} {b d:β} {G:Prop} (h:some (a,b) = some (c,d)) (k:a = c→b = d→G):G:=by cases h;exact k rfl rfl
theorem tN {l:List α} (h:l.length = 1):∃ a,l = [a]:=by
 rcases l with _ | ⟨a,_ | ⟨_,_⟩⟩
 ·nomatch h
 ·exact ⟨a,rfl⟩
 ·nomatch h
theorem qJ {l:List α} (h:l.length = 2):∃ a b,l = [a,b]:=by
 rcases l with _ | ⟨a,l⟩
 ·nomatch h
 ·obtain ⟨b,rfl⟩:=tN (Nat.succ.inj h);exact ⟨a,b,rfl⟩
theorem qK {l:List α} (h:l.length = 3):∃ a b c,l = [a,b,c]:=by
 rcases l with _ | ⟨a,l⟩
 ·nomatch h
 ·obtain ⟨b,c,rfl⟩:=qJ (Nat.succ.inj h);exact ⟨a,b,c,rfl⟩
end
@[elab_as_elim] theorem e2 {α:Type _} {a x0 x1:α} {m:α→Prop} (h:a = x0∨a = x1) (k0:m x0) (k1:m x1):m a:=by rcases h with rfl | rfl <;> assumption
@[elab_as_elim] theorem e3 {α:Type _} {a x0 x1 x2:α} {m:α→Prop} (h:a = x0∨a = x1∨a = x2) (k0:m x0) (k1:m x1) (k2:m x2):m a:=by rcases h with rfl | rfl | rfl <;> assumption
@[elab_as_elim] theorem e4 {α:Type _} {a x0 x1 x2 x3:α} {m:α→Prop} (h:a = x0∨a = x1∨a = x2∨a = x3) (k0:m x0) (k1:m x1) (k2:m x2) (k3:m x3):m a:=by rcases h with rfl | rfl | rfl | rfl <;> assumption
@[elab_as_elim] theorem e6 {α:Type _} {a x0 x1 x2 x3 x4 x5:α} {m:α→Prop} (h:a = x0∨a = x1∨a = x2∨a = x3∨a = x4∨a = x5) (k0:m x0) (k1:m x1) (k2:m x2) (k3:m x3) (k4:m x4) (k5:m x5):m a:=by rcases h with rfl | rfl | rfl | rfl | rfl | rfl <;> assumption
@[elab_as_elim] theorem e8 {α:Type _} {a x0 x1 x2 x3 x4 x5 x6 x7:α} {m:α→Prop} (h:a = x0∨a = x1∨a = x2∨a = x3∨a = x4∨a = x5∨a = x6∨a = x7) (k0:m x0) (k1:m x1) (k2:m x2) (k3:m x3) (k4:m x4) (k5:m x5) (k6:m x6) (k7:m x7):m a:=by rcases h with rfl | rfl | rfl | rfl | rfl | rfl | rfl | rfl <;> assumption
@[elab_as_elim] theorem e9 {α:Type _} {a x0 x1 x2 x3 x4 x5 x6 x7 x8:α} {m:α→Prop} (h:a = x0∨a = x1∨a = x2∨a = x3∨a = x4∨a = x5∨a = x6∨a = x7∨a = x8) (k0:m x0) (k1:m x1) (k2:m x2) (k3:m x3) (k4:m x4) (k5:m x5) (k6:m x6) (k7:m x7) (k8:m x8):m a:=by rcases h with rfl | rfl | rfl | rfl | rfl | rfl | rfl | rfl | rfl <;> assumption
end Mine
end
section
namespace Mine
theorem x03 {P0:Prop} {P1:Prop} {P2:Prop} {G:Prop} (e:P0∧P1∧P2) (k:P0→P1→P2→G):G:=by obtain ⟨h0,h1,h2⟩:=e;exact k h0 h1 h2
theorem x04 {P0:Prop} {P1:Prop} {P2:Prop} {P3:Prop} {G:Prop} (e:P0∧P1∧P2∧P3) (k:P0→P1→P2→P3→G):G:=by obtain ⟨h0,h1,h2,h3⟩:=e;exact k h0 h1 h2 h3
theorem x06 {P0:Prop} {P1:Prop} {P2:Prop} {P3:Prop} {P4:Prop} {P5:Prop} {G:Prop} (e:P0∧P1∧P2∧P3∧P4∧P5) (k:P0→P1→P2→P3→P4→P5→G):G:=by obtain ⟨h0,h1,h2,h3,h4,h5⟩:=e;exact k h0 h1 h2 h3 h4 h5
theorem zp {α0:Type _} {σ:Type _} {f:α0→σ} {s:σ} {G:σ→Prop} (e:∃ a,s = f a) (k:∀ a,G (f a)):G s:=by obtain ⟨a,rfl⟩:=e;exact k a
theorem x12 {α0:Type _} {P0:α0→Prop} {P1:α0→Prop} {G:Prop} (e:∃ a,P0 a∧P1 a) (k:∀ a,P0 a→P1 a→G):G:=by obtain ⟨a,h0,h1⟩:=e;exact k a h0 h1
theorem BE {α0:Type _} {P1:α0→Prop} {σ:Type _} {f:α0→σ} {s:σ} {G:σ→Prop} (e:∃ a,s = f a∧P1 a) (k:∀ a,P1 a→G (f a)):G s:=by obtain ⟨a,rfl,h1⟩:=e;exact k a h1
theorem qd {α0:Type _} {P0:α0→Prop} {σ:Type _} {f:α0→σ} {s:σ} {G:σ→Prop} (e:∃ a,P0 a∧f a = s) (k:∀ a,P0 a→G (f a)):G s:=by obtain ⟨a,h0,rfl⟩:=e;exact k a h0
theorem x13 {α0:Type _} {P0:α0→Prop} {P1:α0→Prop} {P2:α0→Prop} {G:Prop} (e:∃ a,P0 a∧P1 a∧P2 a) (k:∀ a,P0 a→P1 a→P2 a→G):G:=by obtain ⟨a,h0,h1,h2⟩:=e;exact k a h0 h1 h2
theorem x21 {α0 α1:Type _} {P0:α0→α1→Prop} {G:Prop} (e:∃ a b,P0 a b) (k:∀ a b,P0 a b→G):G:=by obtain ⟨a,b,h0⟩:=e;exact k a b h0
theorem x22 {α0 α1:Type _} {P0:α0→α1→Prop} {P1:α0→α1→Prop} {G:Prop} (e:∃ a b,P0 a b∧P1 a b) (k:∀ a b,P0 a b→P1 a b→G):G:=by obtain ⟨a,b,h0,h1⟩:=e;exact k a b h0 h1
theorem Bn {α0 α1:Type _} {P0:α0→α1→Prop} {σ:Type _} {f:α0→α1→σ} {s:σ} {G:σ→Prop} (e:∃ a b,P0 a b∧s = f a b) (k:∀ a b,P0 a b→G (f a b)):G s:=by obtain ⟨a,b,h0,rfl⟩:=e;exact k a b h0
theorem x23 {α0 α1:Type _} {P0:α0→α1→Prop} {P1:α0→α1→Prop} {P2:α0→α1→Prop} {G:Prop} (e:∃ a b,P0 a b∧P1 a b∧P2 a b) (k:∀ a b,P0 a b→P1 a b→P2 a b→G):G:=by obtain ⟨a,b,h0,h1,h2⟩:=e;exact k a b h0 h1 h2
theorem xR {α0 α1:Type _} {P1:α0→α1→Prop} {P2:α0→α1→Prop} {σ:Type _} {f:α0→α1→σ} {s:σ} {G:σ→Prop} (e:∃ a b,s = f a b∧P1 a b∧P2 a b) (k:∀ a b,P1 a b→P2 a b→G (f a b)):G s:=by obtain ⟨a,b,rfl,h1,h2⟩:=e;exact k a b h1 h2
theorem x24 {α0 α1:Type _} {P0:α0→α1→Prop} {P1:α0→α1→Prop} {P2:α0→α1→Prop} {P3:α0→α1→Prop} {G:Prop} (e:∃ a b,P0 a b∧P1 a b∧P2 a b∧P3 a b) (k:∀ a b,P0 a b→P1 a b→P2 a b→P3 a b→G):G:=by obtain ⟨a,b,h0,h1,h2,h3⟩:=e;exact k a b h0 h1 h2 h3
theorem x31 {α0 α1 α2:Type _} {P0:α0→α1→α2→Prop} {G:Prop} (e:∃ a b c,P0 a b c) (k:∀ a b c,P0 a b c→G):G:=by obtain ⟨a,b,c,h0⟩:=e;exact k a b c h0
theorem x32 {α0 α1 α2:Type _} {P0:α0→α1→α2→Prop} {P1:α0→α1→α2→Prop} {G:Prop} (e:∃ a b c,P0 a b c∧P1 a b c) (k:∀ a b c,P0 a b c→P1 a b c→G):G:=by obtain ⟨a,b,c,h0,h1⟩:=e;exact k a b c h0 h1
theorem x33 {α0 α1 α2:Type _} {P0:α0→α1→α2→Prop} {P1:α0→α1→α2→Prop} {P2:α0→α1→α2→Prop} {G:Prop} (e:∃ a b c,P0 a b c∧P1 a b c∧P2 a b c) (k:∀ a b c,P0 a b c→P1 a b c→P2 a b c→G):G:=by obtain ⟨a,b,c,h0,h1,h2⟩:=e;exact k a b c h0 h1 h2
theorem yy {α0 α1 α2:Type _} {P1:α0→α1→α2→Prop} {P2:α0→α1→α2→Prop} {σ:Type _} {f:α0→α1→α2→σ} {s:σ} {G:σ→Prop} (e:∃ a b c,s = f a b c∧P1 a b c∧P2 a b c) (k:∀ a b c,P1 a b c→P2 a b c→G (f a b c)):G s:=by obtain ⟨a,b,c,rfl,h1,h2⟩:=e;exact k a b c h1 h2
theorem x34 {α0 α1 α2:Type _} {P0:α0→α1→α2→Prop} {P1:α0→α1→α2→Prop} {P2:α0→α1→α2→Prop} {P3:α0→α1→α2→Prop} {G:Prop} (e:∃ a b c,P0 a b c∧P1 a b c∧P2 a b c∧P3 a b c) (k:∀ a b c,P0 a b c→P1 a b c→P2 a b c→P3 a b c→G):G:=by obtain ⟨a,b,c,h0,h1,h2,h3⟩:=e;exact k a b c h0 h1 h2 h3
theorem A8 {α0 α1 α2:Type _} {P1:α0→α1→α2→Prop} {P2:α0→α1→α2→Prop} {P3:α0→α1→α2→Prop} {σ:Type _} {f:α0→α1→α2→σ} {s:σ} {G:σ→Prop} (e:∃ a b c,s = f a b c∧P1 a b c∧P2 a b c∧P3 a b c) (k:∀ a b c,P1 a b c→P2 a b c→P3 a b c→G (f a b c)):G s:=by obtain ⟨a,b,c,rfl,h1,h2,h3⟩:=e;exact k a b c h1 h2 h3
theorem x41 {α0 α1 α2 α3:Type _} {P0:α0→α1→α2→α3→Prop} {G:Prop} (e:∃ a b c d,P0 a b c d) (k:∀ a b c d,P0 a b c d→G):G:=by obtain ⟨a,b,c,d,h0⟩:=e;exact k a b c d h0
theorem x42 {α0 α1 α2 α3:Type _} {P0:α0→α1→α2→α3→Prop} {P1:α0→α1→α2→α3→Prop} {G:Prop} (e:∃ a b c d,P0 a b c d∧P1 a b c d) (k:∀ a b c d,P0 a b c d→P1 a b c d→G):G:=by obtain ⟨a,b,c,d,h0,h1⟩:=e;exact k a b c d h0 h1
theorem x43 {α0 α1 α2 α3:Type _} {P0:α0→α1→α2→α3→Prop} {P1:α0→α1→α2→α3→Prop} {P2:α0→α1→α2→α3→Prop} {G:Prop} (e:∃ a b c d,P0 a b c d∧P1 a b c d∧P2 a b c d) (k:∀ a b c d,P0 a b c d→P1 a b c d→P2 a b c d→G):G:=by obtain ⟨a,b,c,d,h0,h1,h2⟩:=e;exact k a b c d h0 h1 h2
theorem AZ {α0 α1 α2 α3:Type _} {P1:α0→α1→α2→α3→Prop} {P2:α0→α1→α2→α3→Prop} {σ:Type _} {f:α0→α1→α2→α3→σ} {s:σ} {G:σ→Prop} (e:∃ a b c d,s = f a b c d∧P1 a b c d∧P2 a b c d) (k:∀ a b c d,P1 a b c d→P2 a b c d→G (f a b c d)):G s:=by obtain ⟨a,b,c,d,rfl,h1,h2⟩:=e;exact k a b c d h1 h2
theorem qo {α0 α1 α2 α3:Type _} {P1:α0→α1→α2→α3→Prop} {P2:α0→α1→α2→α3→Prop} {P3:α0→α1→α2→α3→Prop} {σ:Type _} {f:α0→α1→α2→α3→σ} {s:σ} {G:σ→Prop} (e:∃ a b c d,s = f a b c d∧P1 a b c d∧P2 a b c d∧P3 a b c d) (k:∀ a b c d,P1 a b c d→P2 a b c d→P3 a b c d→G (f a b c d)):G s:=by obtain ⟨a,b,c,d,rfl,h1,h2,h3⟩:=e;exact k a b c d h1 h2 h3
end Mine
end
section
namespace Mine
theorem cQ {a b c d:Nat} (h:a + c < b) (hcd:Nat.ble d c = true):a + d < b:=Nat.lt_of_le_of_lt (Nat.add_le_add_left (Nat.le_of_ble_eq_true hcd) a) h
noncomputable def Up (S:List Nat):Prop:=∀ i,i + 1 < S.length→S.getD i 0 < S.getD (i + 1) 0
theorem jd {a:Nat}:Up [a]:=fun i h=>absurd h (Nat.not_lt_of_le (Nat.le_add_left 1 i))
theorem Up.cons {a b:Nat} {l:List Nat} (H:Up (b :: l)) (h:a < b):Up (a :: b :: l):=fun i=>Nat.rec (fun _=>h) (fun i _ hi=>H i (Nat.lt_of_succ_lt_succ hi)) i
theorem mj {S l:List Nat} (n:Nat) (hn:n = S.length) (h:Up S) (hp:l.Perm (List.range n)):(l.map (S.getD · 0)).Nodup:=by
 subst hn
 have lt:∀ d i,i + d + 1 < S.length→S.getD i 0 < S.getD (i + d + 1) 0:=fun d=>by
  induction d with
  | zero=>exact fun i hi=>h i hi
  | succ d ih=>exact fun i hi=>Nat.lt_trans (ih i (Nat.lt_of_succ_lt hi)) (h (i + d + 1) hi)
 refine ((hp.map _).nodup_iff).mpr ?_
 refine List.pairwise_map.mpr (List.Pairwise.imp_of_mem (fun {a b} _ hb (hab:a < b) e=>?_) List.pairwise_lt_range)
 have hb:=List.mem_range.mp hb
 obtain ⟨d,rfl⟩:=Nat.exists_eq_add_of_lt hab
 exact absurd e (Nat.ne_of_lt (lt d a hb))
theorem vQ (n:Nat):n ≤ n / 2 + (n + 1) / 2∧n + 1 ≤ (n + 1) / 2 + (n + 2) / 2:=by
 induction n with
 | zero=>decide
 | succ n ih=>exact ⟨ih.2,by rw [Nat.add_div_right n Nat.two_pos,Nat.add_div_right (n + 1) Nat.two_pos,Nat.add_add_add_comm];exact Nat.add_le_add_right ih.1 2⟩
theorem lr {l r:Nat} (h:l + 1 < r):l < (l + r) / 2∧(l + r) / 2 < r∧(l + r) / 2 - l ≤ (r - l + 1) / 2∧r - (l + r) / 2 ≤ (r - l + 1) / 2:=by
 obtain ⟨d,rfl⟩:∃ d,r = l + (d + 2):=by
  obtain ⟨d,e⟩:=Nat.exists_eq_add_of_lt h
  exact ⟨d,e.trans (by rw [Nat.add_assoc l,Nat.add_comm 1 d];rfl)⟩
 have e:(l + (l + (d + 2))) / 2 = l + (d + 2) / 2:=by rw [← Nat.add_assoc,← Nat.two_mul,Nat.mul_add_div (Nat.two_pos)]
 rw [e,Nat.add_sub_cancel_left,Nat.add_sub_cancel_left,Nat.add_sub_add_left]
 exact ⟨Nat.lt_add_of_pos_right (Nat.div_pos (Nat.le_add_left _ _) Nat.two_pos),Nat.add_lt_add_left (Nat.div_lt_self (Nat.succ_pos _) (Nat.lt_succ_self _)) l,Nat.div_le_div_right (Nat.le_succ _),Nat.sub_le_iff_le_add'.mpr (vQ (d + 2)).1⟩
end Mine
end
section
namespace Mine
noncomputable section
open PySem Builtin.Str
inductive BI where
 | abs | chr | ord | len | divmod | hex | max | min | sum
 deriving DecidableEq
noncomputable def BI.str:BI→String
 | .abs=>"abs" | .chr=>"chr" | .ord=>"ord" | .len=>"len" | .divmod=>"divmod" | .hex=>"hex" | .max=>"max" | .min=>"min" | .sum=>"sum"
inductive TY where
 | int | range | enumerate | zip | reversed
 deriving DecidableEq
noncomputable def TY.str:TY→String
 | .int=>"int" | .range=>"range" | .enumerate=>"enumerate" | .zip=>"zip" | .reversed=>"reversed"
inductive MT where
 | append | pop | reverse | get_token | push_token | count | join | split | bit_length | get | index | lineno
 deriving DecidableEq
noncomputable def MT.str:MT→Str
 | .append=>"append" | .pop=>"pop" | .reverse=>"reverse" | .get_token=>"get_token" | .push_token=>"push_token" | .count=>"count" | .join=>"join" | .split=>"split" | .bit_length=>"bit_length" | .get=>"get" | .index=>"index" | .lineno=>"lineno"
inductive PV where
 | none | bool (b:Bool) | int (i:Int) | flt (u:UInt64) | str (s:Str)
 | tup (l:List PV) | lst (l:List PV) | dic (l:List (Int × PV))
 | ref (i:Nat) | fn (a:Nat) | bi (n:BI) | ty (n:TY)
inductive MO where
 | lst (l:List PV) | dic (l:List (Int × PV)) | cell (v:Option PV) | lex (signs:List Nat) (line:Int) (push:List Str)
set_option genCtorIdx false in
inductive CT where
 | name (i:Nat) (p:Pos)
 | tup (l:List (Nat × Pos)) (k:Nat) (p:Pos)
structure CSc where
 names:List (Nat × NameKind)
 more:List (Str × Const)
set_option genCtorIdx false in
inductive CE where
 | cst (c:Const) (k:Nat) (p:Pos)
 | name (i:Nat) (p:Pos)
 | bool (op:BoolOp) (es:List CE) (p:Pos)
 | bin (l:CE) (op:Operator) (r:CE) (p:Pos)
 | iW (l r:CE) (p:Pos)
 | una (op:UnaryOp) (e:CE) (p:Pos)
 | ife (t b o:CE) (p:Pos)
 | cmp (l:CE) (ops:List CmpOp) (rs:List CE) (p:Pos)
 | call (f:Nat) (fp:Pos) (args:List CE) (p:Pos)
 | callS (f:Nat) (fp:Pos) (arg:CE) (sp p:Pos)
 | meth (o:CE) (n:MT) (ap:Pos) (args:List CE) (p:Pos)
 | attr (o:CE) (n:MT) (p:Pos)
 | sub (v s:CE) (p:Pos)
 | slc (v:CE) (lo hi st:Option CE) (sp p:Pos)
 | list (m:Bool) (es:List CE) (p:Pos)
 | tup (es:List CE) (k:Nat) (p:Pos)
 | dict (m:Bool) (ks vs:List CE) (p:Pos)
 | comp (elt:CE) (tg:CT) (it:CE) (fs:List CE) (sc:CSc) (p:Pos)
set_option genCtorIdx false in
inductive CS where
 | expr (e:CE) (p:Pos)
 | brk (p:Pos)
 | cont (p:Pos)
 | ret (e:CE) (p:Pos)
 | asg (t:CT) (e:CE) (p:Pos)
 | asgS (o i:CE) (tp:Pos) (e:CE) (p:Pos)
 | augN (i:Nat) (np:Pos) (op:Operator) (e:CE) (p:Pos)
 | augS (o i:CE) (sp:Pos) (op:Operator) (e:CE) (p:Pos)
 | iff (t:CE) (b o:List CS) (p:Pos)
 | whl (t:CE) (b o:List CS) (p:Pos)
 | for (t:CT) (it:CE) (b o:List CS) (p:Pos)
 | other (s:Stmt)
noncomputable def CT.toE (nm:Nat→Str):CT→PySem.Expr
 | .name i p=>.Name (nm i) p
 | .tup l k p=>.Tuple (l.map fun x=>.Name (nm x.1) x.2) k p
noncomputable def CSc.aO (nm:Nat→Str) (c:CSc):Scope:={ kind:=.function,names:=c.names.map fun x=>(nm x.1,x.2),isGenerator:=false,isCoroutine:=false,more:=c.more }
mutual
noncomputable def CE.toE (nm:Nat→Str):CE→PySem.Expr
 | .cst c k p=>.Constant c k p
 | .name i p=>.Name (nm i) p
 | .bool op es p=>.BoolOp op (CE.aC nm es) p
 | .bin l op r p=>.BinOp (l.toE nm) op (r.toE nm) p
 | .iW l r p=>.BinOp (l.toE nm) .Add (r.toE nm) p
 | .una op e p=>.UnaryOp op (e.toE nm) p
 | .ife t b o p=>.IfExp (t.toE nm) (b.toE nm) (o.toE nm) p
 | .cmp l ops rs p=>.Compare (l.toE nm) ops (CE.aC nm rs) p
 | .call f fp args p=>.Call (.Name (nm f) fp) (CE.aC nm args) [] p
 | .callS f fp arg sp p=>.Call (.Name (nm f) fp) [.Starred (arg.toE nm) sp] [] p
 | .meth o n ap args p=>.Call (.Attribute (o.toE nm) n.str ap) (CE.aC nm args) [] p
 | .attr o n p=>.Attribute (o.toE nm) n.str p
 | .sub v s p=>.Subscript (v.toE nm) (s.toE nm) p
 | .slc v lo hi st sp p=>.Subscript (v.toE nm) (.Slice (CE.toO nm lo) (CE.toO nm hi) (CE.toO nm st) sp) p
 | .list _ es p=>.List (CE.aC nm es) p
 | .tup es k p=>.Tuple (CE.aC nm es) k p
 | .dict _ ks vs p=>.Dict ((CE.aC nm ks).map some) (CE.aC nm vs) p
 | .comp elt tg it fs sc p=>.ListComp (elt.toE nm) [⟨tg.toE nm,it.toE nm,CE.aC nm fs,0⟩] (sc.aO nm) p
noncomputable def CE.aC (nm:Nat→Str):List CE→List PySem.Expr
 | []=>[]
 | e :: r=>e.toE nm :: CE.aC nm r
noncomputable def CE.toO (nm:Nat→Str):Option CE→Option PySem.Expr
 | .none=>.none
 | .some e=>.some (e.toE nm)
end
mutual
noncomputable def CS.toS (nm:Nat→Str):CS→Stmt
 | .expr e p=>.Expr (e.toE nm) p
 | .brk p=>.Break p
 | .cont p=>.Continue p
 | .ret e p=>.Return (some (e.toE nm)) p
 | .asg t e p=>.Assign [t.toE nm] (e.toE nm) p
 | .asgS o i tp e p=>.Assign [.Subscript (o.toE nm) (i.toE nm) tp] (e.toE nm) p
 | .augN i np op e p=>.AugAssign (.Name (nm i) np) op (e.toE nm) p
 | .augS o i sp op e p=>.AugAssign (.Subscript (o.toE nm) (i.toE nm) sp) op (e.toE nm) p
 | .iff t b o p=>.If (t.toE nm) (CS.cq nm b) (CS.cq nm o) p
 | .whl t b o p=>.While (t.toE nm) (CS.cq nm b) (CS.cq nm o) p
 | .for t it b o p=>.For (t.toE nm) (it.toE nm) (CS.cq nm b) (CS.cq nm o) p
 | .other s=>s
noncomputable def CS.cq (nm:Nat→Str):List CS→List Stmt
 | []=>[]
 | s :: r=>s.toS nm :: CS.cq nm r
end
noncomputable abbrev Loc:=List (Nat × PV)
noncomputable abbrev Mem:=List MO
noncomputable abbrev M (α:Type):=Mem→Option (α × Mem)
noncomputable def M.ret {α:Type} (a:α):M α:=fun μ=>some (a,μ)
noncomputable def M.no {α:Type}:M α:=fun _=>none
noncomputable def M.lift {α:Type} (o:Option α):M α:=fun μ=>match o with | some a=>some (a,μ) | none=>none
noncomputable def M.bnd {α β:Type} (x:M α) (f:α→M β):M β:=fun μ=>match x μ with | some (a,μ')=>f a μ' | none=>none
noncomputable def M.get (i:Nat):M MO:=fun μ=>match μ[i]? with | some o=>some (o,μ) | none=>none
noncomputable def M.set (i:Nat) (o:MO):M Unit:=fun μ=>some ((),μ.set i o)
noncomputable def M.new (o:MO):M Nat:=fun μ=>some (μ.length,μ ++ [o])
structure Sc where
 names:List (Nat × NameKind)
 cells:List (Nat × Nat)
 lim:Nat
inductive Fl where
 | next | brk | cont | ret (v:PV)
structure R where
 ev:Sc→Loc→CE→M PV
 ts:Sc→Loc→CE→M Bool
 ex:Sc→Loc→CS→M (Fl × Loc)
 cl:PV→List PV→M PV
structure FD where
 params:List (Nat × Pos)
 body:List CS
 sc:CSc
 pure:Bool
inductive jL where
 | int2digits | digits2int | lexer
structure Cfg where
 glob:List (Nat × PV)
 fns:List (Nat × FD)
 prims:List (Nat × jL)
noncomputable def lk {β:Type} (l:List (Nat × β)) (i:Nat):Option β:=List.rec (motive:=fun _=>Option β) none (fun h _ ih=>match Nat.beq i h.1 with | true=>some h.2 | false=>ih) l
theorem xU {β:Type} {i:Nat}:lk ([]:List (Nat × β)) i = none:=rfl
theorem a7 {β:Type} {i j:Nat} {v:β} {r:List (Nat × β)}:lk ((j,v) :: r) i = match Nat.beq i j with | true=>some v | false=>lk r i:=rfl
noncomputable def dQ (l:Loc) (i:Nat) (v:PV):Loc:=List.rec (motive:=fun _=>Loc) [(i,v)] (fun h t ih=>match Nat.beq i h.1 with | true=>(h.1,v) :: t | false=>h :: ih) l
theorem ud {i:Nat} {v:PV}:dQ [] i v = [(i,v)]:=rfl
theorem sA {i j:Nat} {u v:PV} {r:Loc}:dQ ((j,u) :: r) i v = match Nat.beq i j with | true=>(j,v) :: r | false=>(j,u) :: dQ r i v:=rfl
noncomputable def clo (n:Nat):PV→Bool
 | .tup l=>all l
 | .lst l=>all l
 | .dic l=>allD l
 | .ref i=>Nat.blt i n
 | _=>true
where
 all:List PV→Bool
  | []=>true
  | v :: r=>clo n v && all r
 allD:List (Int × PV)→Bool
  | []=>true
  | (_,v) :: r=>clo n v && allD r
noncomputable def z6 (v:PV):Bool:=clo 0 v
noncomputable def dO (n:Nat):MO→Bool
 | .lst l=>clo.all n l
 | .dic l=>clo.allD n l
 | .cell (some v)=>clo n v
 | _=>true
noncomputable def cP (f:PV→Option PV):List PV→Option (List PV)
 | []=>some []
 | v :: r=>match f v,cP f r with
  | some v',some r'=>some (v' :: r')
  | _,_=>none
noncomputable def dN (f:PV→Option PV):List (Int × PV)→Option (List (Int × PV))
 | []=>some []
 | (i,v) :: r=>match f v,dN f r with
  | some v',some r'=>some ((i,v') :: r')
  | _,_=>none
noncomputable def frz (n:Nat) (μ:Mem):Nat→PV→Option PV
 | 0,_=>none
 | k + 1,v=>match v with
  | .ref i=>if i < n then some (.ref i) else (match μ[i]? with
   | some (.lst l)=>(cP (frz n μ k) l).map .lst
   | some (.dic l)=>(dN (frz n μ k) l).map .dic
   | _=>none)
  | .tup l=>(cP (frz n μ k) l).map .tup
  | .lst l=>if clo.all 0 l then some (.lst l) else (cP (frz n μ k) l).map .lst
  | .dic l=>if clo.allD 0 l then some (.dic l) else (dN (frz n μ k) l).map .dic
  | v=>some v
noncomputable def ah:Nat:=1048576
noncomputable def zt (a b:UInt64):Bool:=Float64.cmp a b == some Ordering.gt
noncomputable def xk (a b:UInt64):Bool:=Float64.cmp a b == some Ordering.lt
noncomputable def tZ (a b:UInt64):Bool:=Float64.cmp a b == some Ordering.eq
noncomputable def binI (op:Operator) (a b:Int):Option PV:=match op with
 | .Add=>some (.int (a + b))
 | .Sub=>some (.int (a - b))
 | .Mult=>if Builtin.Int.intBits a ≤ 64 || Builtin.Int.intBits b ≤ 64 then some (.int (a * b)) else none
 | .FloorDiv=>if b ≠ 0 && decide (b.natAbs < 1073741824) then some (.int (a.fdiv b)) else none
 | .Mod=>if b ≠ 0 then some (.int (a.fmod b)) else none
 | .Pow=>if 0 ≤ b && decide (a.natAbs < 128) && decide (b ≤ 1000) then some (.int (a ^ b.toNat)) else none
 | .LShift=>if 0 ≤ b && decide (b ≤ 1000) && decide (a.natAbs < 18446744073709551616) then some (.int (a * 2 ^ b.toNat)) else none
 | .RShift=>if 0 ≤ b then some (.int (a.fdiv (2 ^ b.toNat))) else none
 | .BitAnd=>some (.int (Builtin.bitAnd a b))
 | .BitOr=>some (.int (Builtin.bitOr a b))
 | .BitXor=>some (.int (Builtin.bitXor a b))
 | .Div=>if b ≠ 0 && !Float64.isInf (Float64.ofFrac (decide (a < 0) != decide (b < 0)) a.natAbs b.natAbs) then some (.flt (Float64.ofFrac (decide (a < 0) != decide (b < 0)) a.natAbs b.natAbs)) else none
 | _=>none
noncomputable def qv (op:Operator) (a b:UInt64):Option PV:=match op with
 | .Add=>some (.flt (Float64.add a b))
 | .Sub=>some (.flt (Float64.sub a b))
 | .Mult=>some (.flt (Float64.mul a b))
 | .Div=>if Float64.isZero b then none else some (.flt (Float64.div a b))
 | .Mod=>if Float64.isZero b then none else some (.flt (Float64.divmod a b).snd)
 | _=>none
noncomputable def hN (i:Int):Bool:=decide (i.natAbs < 9007199254740992)
noncomputable def uz (op:Operator) (a b:Str):Option PV:=match op with
 | .Add=>if a.length + b.length ≤ ah then some (.str (a ++ b)) else none
 | _=>none
noncomputable def iW (op:Operator) (a b:List PV):Option PV:=match op with
 | .Add=>if a.length + b.length ≤ ah then some (.lst (a ++ b)) else none
 | _=>none
noncomputable def Bg (op:Operator) (a b:Int):Option PV:=match op with
 | .Add=>binI .Add a b
 | .Sub=>binI .Sub a b
 | .BitXor=>binI .BitXor a b
 | .FloorDiv=>binI .FloorDiv a b
 | .RShift=>binI .RShift a b
 | .LShift=>binI .LShift a b
 | _=>none
noncomputable def kv (op:Operator) (a b:PV):Option PV:=match a with
 | .int a=>(match b with
  | .int b=>Bg op a b
  | _=>none)
 | .str a=>(match b with
  | .str b=>uz op a b
  | _=>none)
 | _=>none
noncomputable def iO (op:Operator) (a b:PV):Option PV:=match a with
 | .int a=>(match b with
  | .int b=>binI op a b
  | .flt b=>if hN a then qv op (Float64.ofInt a) b else none
  | _=>none)
 | .flt a=>(match b with
  | .flt b=>qv op a b
  | .int b=>if hN b then qv op a (Float64.ofInt b) else none
  | _=>none)
 | .str a=>(match b with
  | .str b=>uz op a b
  | _=>none)
 | .lst a=>(match b with
  | .lst b=>iW op a b
  | _=>none)
 | _=>none
noncomputable def xE (op:UnaryOp) (a:PV):Option PV:=match a with
 | .int i=>(match op with
  | .USub=>some (.int (-i))
  | .Invert=>some (.int (Builtin.bitNot i))
  | _=>none)
 | _=>none
mutual
noncomputable def gG:PV→Option PyData
 | .none=>some .none
 | .bool b=>some (.bool b)
 | .int i=>some (.int i)
 | .str s=>some (.str s)
 | .lst l=>(ic l).map .list
 | .tup l=>(ic l).map .tuple
 | _=>none
noncomputable def ic:List PV→Option (List PyData)
 | []=>some []
 | v :: r=>match gG v,ic r with
  | some d,some ds=>some (d :: ds)
  | _,_=>none
end
noncomputable def eqD (a b:PV):Option Bool:=match gG a with
 | some x=>(match gG b with
  | some y=>if SeqAt.shaped x && SeqAt.shaped y then some (PyData.eqv x y) else none
  | none=>none)
 | none=>none
noncomputable def eqS (a b:PV):Option Bool:=match a with
 | .int i=>(match b with
  | .int j=>some (i == j)
  | _=>eqD a b)
 | .str i=>(match b with
  | .str j=>some (i == j)
  | _=>eqD a b)
 | _=>eqD a b
noncomputable def eqV (a b:PV):Option Bool:=match a with
 | .flt i=>(match b with
  | .flt j=>some (tZ i j)
  | .int j=>some (Float64.cmpInt i j == some Ordering.eq)
  | _=>eqS a b)
 | .int i=>(match b with
  | .flt j=>some (Float64.cmpInt j i == some Ordering.eq)
  | _=>eqS a b)
 | _=>eqS a b
noncomputable def A2 (op:CmpOp) (a b:Int):Option Bool:=match op with
 | .Lt=>some (decide (a < b))
 | .LtE=>some (decide (a ≤ b))
 | .Gt=>some (decide (a > b))
 | .GtE=>some (decide (a ≥ b))
 | _=>none
noncomputable def Bb (op:CmpOp) (a b:UInt64):Option Bool:=match op with
 | .Lt=>some (xk a b)
 | .LtE=>some (xk a b || tZ a b)
 | .Gt=>some (zt a b)
 | .GtE=>some (zt a b || tZ a b)
 | _=>none
noncomputable def yD (op:CmpOp) (o:Option Ordering):Option Bool:=match op with
 | .Lt=>some (o == some Ordering.lt)
 | .LtE=>some (o == some Ordering.lt || o == some Ordering.eq)
 | .Gt=>some (o == some Ordering.gt)
 | .GtE=>some (o == some Ordering.gt || o == some Ordering.eq)
 | _=>none
noncomputable def zT:CmpOp→CmpOp
 | .Lt=>.Gt
 | .LtE=>.GtE
 | .Gt=>.Lt
 | .GtE=>.LtE
 | o=>o
noncomputable def Bo (x y:Str):Bool:=!(occurrences x y 0 x.length 1).isEmpty
noncomputable def ym (op:CmpOp) (a b:PV):Option Bool:=match a with
 | .int a=>(match b with
  | .int b=>A2 op a b
  | .flt b=>yD (zT op) (Float64.cmpInt b a)
  | _=>none)
 | .flt a=>(match b with
  | .flt b=>Bb op a b
  | .int b=>yD op (Float64.cmpInt a b)
  | _=>none)
 | _=>none
noncomputable def inO (a b:PV):Option Bool:=match a with
 | .str y=>(match b with
  | .str x=>some (Bo x y)
  | _=>none)
 | _=>none
noncomputable def eK (op:CmpOp) (a b:PV):Option Bool:=match op with
 | .Eq=>eqV a b
 | .NotEq=>(eqV a b).map fun x=>!x
 | .In=>inO a b
 | .NotIn=>none
 | op=>ym op a b
noncomputable def lkI:List (Int × PV)→Int→Option PV
 | [],_=>none
 | (j,v) :: r,i=>if i = j then some v else lkI r i
noncomputable def dT:List (Int × PV)→Int→PV→List (Int × PV)
 | [],i,v=>[(i,v)]
 | (j,u) :: r,i,v=>if i = j then (j,v) :: r else (j,u) :: dT r i v
noncomputable def atI {α:Type} (l:List α) (i:Int):Option α:=(seqIndex? i l.length).bind fun j=>l[j]?
noncomputable def chars (s:Str):List PV:=s.cps.toList.map fun c=>.str ⟨#[c]⟩
noncomputable def aS (i:Int):Bool:=decide (i.natAbs < 1073741824)
noncomputable def ti (v:PV) (i:Int):Option PV:=match v with
 | .lst l=>atI l i
 | .tup l=>atI l i
 | .str s=>atI (chars s) i
 | .dic l=>lkI l i
 | _=>none
noncomputable def kF (v k:PV):Option PV:=match k with
 | .int i=>if aS i then ti v i else none
 | _=>none
noncomputable def hiS {α:Type} (l:List α) (n:Int):Option (List α):=if aS n then some (if 0 ≤ n then l.take n.toNat else l.take (l.length - n.natAbs)) else none
noncomputable def loS {α:Type} (l:List α) (n:Int):Option (List α):=if 0 ≤ n∧aS n then some (l.drop n.toNat) else none
noncomputable def stS {α:Type} (l:List α) (n:Int):Option (List α):=if n = -1 then some l.reverse else none
noncomputable def asI:PV→Option Int
 | .int n=>some n
 | _=>none
noncomputable def nk {α:Type} (l:List α) (lo hi st:Option PV):Option (List α):=match lo with
 | none=>(match hi with
  | none=>(match st with
   | none=>none
   | some p=>(asI p).bind (stS l))
  | some p=>(match st with
   | none=>(asI p).bind (hiS l)
   | some _=>none))
 | some p=>(match hi with
  | none=>(match st with
   | none=>(asI p).bind (loS l)
   | some _=>none)
  | some _=>none)
noncomputable def yC (x:Str) (lo hi st:Option PV):Option PV:=match lo with
 | none=>(match hi with
  | some p=>(match st with
   | none=>(asI p).bind fun n=>if aS n then some (.str (Txt.slice x none (some n))) else none
   | some _=>none)
  | none=>none)
 | some _=>none
noncomputable def fH (v:PV) (lo hi st:Option PV):Option PV:=match v with
 | .lst l=>if l.length ≤ ah then (nk l lo hi st).map .lst else none
 | .str x=>if x.length ≤ ah then yC x lo hi st else none
 | _=>none
noncomputable def trO:PV→Option Bool
 | .none=>some false
 | .bool b=>some b
 | .int i=>some (i != 0)
 | .str s=>if s.length ≤ ah then some (s.length != 0) else none
 | .lst l=>if l.length ≤ ah then some (!l.isEmpty) else none
 | _=>none
noncomputable def gR:PV→Option (List PV)
 | .lst l=>some l
 | .tup l=>some l
 | .str s=>some (chars s)
 | _=>none
noncomputable def bb (a:Int):Nat→List PV
 | 0=>[]
 | n + 1=>.int a :: bb (a + 1) n
noncomputable def bN (a:Int):List PV→List PV
 | []=>[]
 | v :: r=>.tup [.int a,v] :: bN (a + 1) r
noncomputable def dD:List PV→List PV→List PV
 | a :: r,b :: t=>.tup [a,b] :: dD r t
 | _,_=>[]
noncomputable def allInts:List PV→Bool
 | []=>true
 | .int _ :: r=>allInts r
 | _=>false
noncomputable def fM:List PV→Bool
 | []=>true
 | .flt _ :: r=>fM r
 | _=>false
noncomputable def fV (op:CmpOp) (l:List PV):Option PV :=
 if allInts l || fM l then l[argBest (fun i j=>eK op (l.getD i .none) (l.getD j .none) == some true) (l.length - 1)]? else none
noncomputable def strsOf:List PV→Option (List Str)
 | []=>some []
 | .str s :: r=>(strsOf r).map (s :: ·)
 | _=>none
noncomputable def intsOf:List PV→Option (List Int)
 | []=>some []
 | .int s :: r=>(intsOf r).map (s :: ·)
 | _=>none
noncomputable def idxOf (l:List PV) (x:PV):Option Nat:=match x with
 | .str x=>(strsOf l).bind fun ss=>ss.findIdx? (· == x)
 | .int x=>(intsOf l).bind fun ss=>ss.findIdx? (· == x)
 | _=>none
noncomputable def zf (a:PV):Option PV:=match a with
 | .int i=>some (.int (if i < 0 then -i else i))
 | .flt u=>some (.flt (Float64.abs u))
 | _=>none
noncomputable def Bm (i:Int):Option PV:=if 0 ≤ i∧i ≤ 1114111 then some (.str ⟨#[i.toNat]⟩) else none
noncomputable def A4 (s:Str):Option PV:=if s.length = 1 then some (.int (s.cps.getD 0 0:Nat)) else none
noncomputable def qB (a:PV):Option PV:=match a with
 | .lst l=>if l.length ≤ ah then some (.int l.length) else none
 | .str s=>if s.length ≤ ah then some (.int s.length) else none
 | _=>none
noncomputable def Be (i:Int):Option PV:=if (baseText "0x" 16 i).length ≤ ah then some (.str (baseText "0x" 16 i)) else none
noncomputable def dmO (a b:Int):Option PV:=if 0 < b∧b.natAbs < 1073741824 then some (.tup [.int (a.fdiv b),.int (a.fmod b)]) else none
noncomputable def asS:PV→Option Str
 | .str n=>some n
 | _=>none
noncomputable def asL:PV→Option (List PV)
 | .lst n=>some n
 | _=>none
noncomputable def xh (n:BI) (a:PV):Option PV:=match n with
 | .abs=>zf a
 | .chr=>(asI a).bind Bm
 | .ord=>(asS a).bind A4
 | .len=>qB a
 | .hex=>(asI a).bind Be
 | .sum=>(asL a).bind fun l=>if l.length ≤ ah then (intsOf l).map fun ns=>.int ns.sum else none
 | .max=>(asL a).bind fun l=>if l.length ≤ ah then fV .Gt l else none
 | _=>none
noncomputable def yh (n:BI) (a b:PV):Option PV:=match n with
 | .divmod=>(asI a).bind fun i=>(asI b).bind (dmO i)
 | .min=>fV .Lt [a,b]
 | _=>none
noncomputable def A0 (n:BI) (a b c:PV):Option PV:=match n with
 | .max=>fV .Gt [a,b,c]
 | .min=>fV .Lt [a,b,c]
 | _=>none
noncomputable def gN (n:BI) (args:List PV):Option PV:=match args with
 | [a]=>xh n a
 | [a,b]=>yh n a b
 | [a,b,c]=>A0 n a b c
 | _=>none
noncomputable def A1 (a:PV):Option PV:=match a with
 | .bool b=>some (.int (if b then 1 else 0))
 | .flt u=>(match Float64.decode u with
  | .fin sg m e=>some (.int (Float64.truncOf sg m e))
  | _=>none)
 | _=>none
noncomputable def yU (n:TY) (args:List PV):Option PV:=match n with
 | .int=>(match args with
  | [a]=>A1 a
  | _=>none)
 | _=>none
noncomputable def isWs (c:Nat):Bool:=c == 10 || c == 9 || c == 13 || c == 32
noncomputable def nl (c:Nat):Nat:=if c == 10 then 1 else 0
noncomputable def cD:List Nat→List Nat→Nat→List Nat × List Nat × Nat
 | [],t,n=>(t,[],n)
 | c :: r,t,n=>if c == 34 then (t,r,n) else if c == 92 then (match r with
   | []=>(t,[],n)
   | d :: r'=>cD r' (d :: t) (n + nl d)) else cD r (c :: t) (n + nl c)
noncomputable def bJ:List Nat→List Nat→Nat→List Nat × List Nat × Nat
 | [],t,n=>(t,[],n)
 | c :: r,t,n=>if isWs c then (t,r,n + nl c) else if c == 92 then (match r with
   | []=>(t,[],n)
   | d :: r'=>bJ r' (d :: t) (n + nl d)) else bJ r (c :: t) (n + nl c)
noncomputable def aA:List Nat→Nat→List Nat × List Nat × Nat
 | [],n=>([],[],n)
 | c :: r,n=>if isWs c then aA r (n + nl c) else if c == 34 then cD r [] n else if c == 92 then (match r with
   | []=>([],[],n)
   | d :: r'=>bJ r' [d] (n + nl d)) else bJ r [c] (n + nl c)
noncomputable def evL (r:R) (sc:Sc) (loc:Loc):List CE→M (List PV)
 | []=>M.ret []
 | e :: es=>M.bnd (r.ev sc loc e) fun v=>M.bnd (evL r sc loc es) fun vs=>M.ret (v :: vs)
noncomputable def a8 (cfg:Cfg) (sc:Sc) (loc:Loc) (i:Nat):M PV:=match lk sc.names i with
 | some .local=>M.lift (lk loc i)
 | some .cell | some .free=>(match lk sc.cells i with
  | some id=>M.bnd (M.get id) fun o=>match o with
   | .cell (some v)=>M.ret v
   | _=>M.no
  | none=>M.no)
 | some .globalImplicit=>M.lift (lk cfg.glob i)
 | _=>M.no
noncomputable def jo (sc:Sc) (id:Nat) (v:PV):Bool:=Nat.ble sc.lim id || z6 v
noncomputable def cS (sc:Sc) (loc:Loc) (i:Nat) (v:PV):M Loc:=match lk sc.names i with
 | some .local=>M.ret (dQ loc i v)
 | some .cell=>(match lk sc.cells i with
  | some id=>if jo sc id v then M.bnd (M.get id) fun o=>match o with
   | .cell _=>M.bnd (M.set id (.cell (some v))) fun _=>M.ret loc
   | _=>M.no
   else M.no
  | none=>M.no)
 | _=>M.no
noncomputable def storeAll (sc:Sc):List (Nat × Pos)→List PV→Loc→M Loc
 | [],[],loc=>M.ret loc
 | (i,_) :: r,v :: t,loc=>M.bnd (cS sc loc i v) fun loc'=>storeAll sc r t loc'
 | _,_,_=>M.no
noncomputable def dy (l:List (Nat × Pos)) (v:PV):Option (List PV):=match v with
 | .tup vs=>if vs.length = l.length then some vs else none
 | .lst vs=>if vs.length = l.length then some vs else none
 | _=>none
noncomputable def cB (sc:Sc) (loc:Loc) (t:CT) (v:PV):M Loc:=match t with
 | .name i _=>cS sc loc i v
 | .tup l _ _=>M.bnd (M.lift (dy l v)) fun vs=>storeAll sc l vs loc
noncomputable def aY:Nat→CE→Bool
 | n + 1,.bin a _ b _=>aY n a || aY n b
 | n + 1,.una _ a _=>aY n a
 | n + 1,.sub a b _=>aY n a || aY n b
 | _,.name ..=>true
 | _,.call ..=>true
 | _,.callS ..=>true
 | _,.list ..=>true
 | _,.comp ..=>true
 | _,.meth ..=>true
 | _,.ife ..=>true
 | _,.cmp ..=>true
 | _,.bool ..=>true
 | _,.dict ..=>true
 | _,.attr ..=>true
 | _,_=>false
noncomputable def qx:CE→Bool
 | .cst ..=>true
 | _=>false
noncomputable def dJ (names:List (Nat × NameKind)) (line:Nat):List (Nat × Pos)→Bool
 | []=>true
 | (i,p) :: r=>lk names i == some .local && p.line == line && dJ names line r
noncomputable def c7:List (Nat × Pos)→Bool
 | []=>true
 | (i,_) :: r=>!(r.any fun x=>Nat.beq x.1 i) && c7 r
noncomputable def jr (names:List (Nat × NameKind)) (l:List (Nat × Pos)) (e:CE):Option Bool:=match e with
 | .tup es _ _=>if es.length == l.length && (Nat.beq l.length 2 || Nat.beq l.length 3) && dJ names ((l.head?.map (·.2.line)).getD 0) l then
   (if c7 l then (if es.all qx then some false else if es.any (aY 8) then some true else none) else none) else some false
 | _=>some false
noncomputable def gy (sc:Sc) (loc:Loc) (t:CT) (e:CE) (v:PV):M Loc:=match t with
 | .name i _=>cS sc loc i v
 | .tup l _ _=>(match jr sc.names l e with
  | some true=>M.bnd (M.lift (dy l v)) fun vs=>storeAll sc l.reverse vs.reverse loc
  | some false=>M.bnd (M.lift (dy l v)) fun vs=>storeAll sc l vs loc
  | none=>M.no)
noncomputable def l8 (r:R) (sc:Sc) (loc:Loc) (op:BoolOp):List CE→M PV
 | []=>M.no
 | [e]=>r.ev sc loc e
 | e :: es=>M.bnd (r.ev sc loc e) fun v=>M.bnd (M.lift (trO v)) fun t=>match op,t with
  | .And,false=>M.ret v
  | .Or,true=>M.ret v
  | _,_=>l8 r sc loc op es
noncomputable def xO (i:Int) (d:Nat):M Bool:=M.bnd (M.get d) fun o=>match o with
 | .dic l=>if aS i then M.ret (lkI l i).isNone else M.no
 | _=>M.no
noncomputable def jc (op:CmpOp) (a b:PV):M Bool:=match op with
 | .NotIn=>(match a with
  | .int i=>(match b with
   | .ref d=>xO i d
   | _=>M.no)
  | _=>M.no)
 | op=>M.lift (eK op a b)
noncomputable def gZ (r:R) (sc:Sc) (loc:Loc):PV→List CmpOp→List CE→M Bool
 | v,[op],[e]=>M.bnd (r.ev sc loc e) fun w=>jc op v w
 | v,op :: op' :: ops,e :: es=>M.bnd (r.ev sc loc e) fun w=>M.bnd (jc op v w) fun b=>match b with
  | true=>gZ r sc loc w (op' :: ops) es
  | false=>M.ret false
 | _,_,_=>M.no
noncomputable def getM (v k:PV):M PV:=match v with
 | .ref i=>M.bnd (M.get i) fun o=>match o with
  | .lst l=>M.lift (kF (.lst l) k)
  | .dic l=>M.lift (kF (.dic l) k)
  | _=>M.no
 | v=>M.lift (kF v k)
noncomputable def u5 (i:Nat) (j:Int) (x:PV) (o:MO):M Unit:=match o with
 | .lst l=>if 0 ≤ j∧j < l.length∧l.length ≤ ah then M.set i (.lst (l.set j.toNat x)) else M.no
 | .dic l=>if aS j∧l.length ≤ ah then M.set i (.dic (dT l j x)) else M.no
 | _=>M.no
noncomputable def setM (sc:Sc) (v k x:PV):M Unit:=match v with
 | .ref i=>(match k with
  | .int j=>if jo sc i x then M.bnd (M.get i) (u5 i j x) else M.no
  | _=>M.no)
 | _=>M.no
inductive MK where
 | lst | lex | int | str | dic | lstV
noncomputable def d9 (v:PV):M MK:=match v with
 | .ref i=>M.bnd (M.get i) fun o=>match o with
  | .lst _=>M.ret .lst
  | .lex _ _ _=>M.ret .lex
  | _=>M.no
 | .int _=>M.ret .int
 | .str _=>M.ret .str
 | .dic _=>M.ret .dic
 | .lst _=>M.ret .lstV
 | _=>M.no
noncomputable def y4 (sc:Sc) (i:Nat) (l:List PV) (args:List PV):M PV:=match args with
 | [x]=>if jo sc i x && decide (l.length ≤ ah) then M.bnd (M.set i (.lst (l ++ [x]))) fun _=>M.ret .none else M.no
 | _=>M.no
noncomputable def xD (i:Nat) (l:List PV):M PV:=if l.length ≤ ah then (match l.getLast? with
 | some x=>M.bnd (M.set i (.lst l.dropLast)) fun _=>M.ret x
 | none=>M.no) else M.no
noncomputable def Bl (i:Nat) (l:List PV):M PV:=if l.length ≤ ah then M.bnd (M.set i (.lst l.reverse)) fun _=>M.ret .none else M.no
noncomputable def ip (args:List PV) (x:M PV):M PV:=match args with
 | []=>x
 | _=>M.no
noncomputable def pG (sc:Sc) (i:Nat) (n:MT) (args:List PV):M PV:=M.bnd (M.get i) fun o=>match o with
 | .lst l=>(match n with
  | .append=>y4 sc i l args
  | .pop=>ip args (xD i l)
  | .reverse=>ip args (Bl i l)
  | _=>M.no)
 | _=>M.no
noncomputable def uM (i:Nat) (cs:List Nat) (line:Int) (push:List Str):M PV:=match push with
 | p :: r=>M.bnd (M.set i (.lex cs line r)) fun _=>M.ret (.str p)
 | []=>M.bnd (M.set i (.lex (aA cs 0).2.1 (line + (aA cs 0).2.2) [])) fun _=>M.ret (.str ⟨(aA cs 0).1.reverse.toArray⟩)
noncomputable def fj (args:List PV) (f:PV→M PV):M PV:=match args with
 | [x]=>f x
 | _=>M.no
noncomputable def fY (x:PV) (f:Str→M PV):M PV:=match x with
 | .str s=>f s
 | _=>M.no
noncomputable def iq (x:PV) (f:Int→M PV):M PV:=match x with
 | .int s=>f s
 | _=>M.no
noncomputable def qm (i:Nat) (cs:List Nat) (line:Int) (push:List Str) (x:Str):M PV:=if push.length ≤ 1000 then M.bnd (M.set i (.lex cs line (push ++ [x]))) fun _=>M.ret .none else M.no
noncomputable def fE (i:Nat) (n:MT) (args:List PV):M PV:=M.bnd (M.get i) fun o=>match o with
 | .lex cs line push=>(match n with
  | .get_token=>ip args (uM i cs line push)
  | .push_token=>fj args fun x=>fY x (qm i cs line push)
  | _=>M.no)
 | _=>M.no
noncomputable def joinM (x:Str) (l:List PV):M PV:=match strsOf l with
 | some ss=>if (ss.map (·.length)).sum + ss.length * x.length ≤ ah then M.ret (.str (Txt.join x ss)) else M.no
 | none=>M.no
noncomputable def splitM (x y:Str):M PV:=if 0 < y.length∧x.length ≤ ah∧(Txt.split x y).length ≤ ah then M.ret (.lst ((Txt.split x y).map .str)) else M.no
noncomputable def u7 (x:Str) (a:PV):M PV:=match a with
 | .lst l=>joinM x l
 | .ref j=>M.bnd (M.get j) fun o=>match o with
  | .lst l=>joinM x l
  | _=>M.no
 | _=>M.no
noncomputable def pn (x:Str) (n:MT) (args:List PV):M PV:=match n with
 | .count=>fj args fun a=>fY a fun y=>M.ret (.int (Txt.count x y))
 | .join=>fj args (u7 x)
 | .split=>fj args fun a=>fY a (splitM x)
 | _=>M.no
noncomputable def pQ (a:Int) (n:MT) (args:List PV):M PV:=match n with
 | .bit_length=>ip args (M.ret (.int (Builtin.Int.intBits a)))
 | _=>M.no
noncomputable def Ab (l:List (Int × PV)) (args:List PV):M PV:=match args with
 | [a,d]=>iq a fun k=>if aS k then M.ret ((lkI l k).getD d) else M.no
 | _=>M.no
noncomputable def oV (l:List (Int × PV)) (n:MT) (args:List PV):M PV:=match n with
 | .get=>Ab l args
 | _=>M.no
noncomputable def nu (l:List PV) (n:MT) (args:List PV):M PV:=match n with
 | .index=>fj args fun x=>if l.length ≤ ah then M.lift ((idxOf l x).map fun (i:Nat)=>PV.int (i:Int)) else M.no
 | _=>M.no
noncomputable def fk (sc:Sc) (mk:MK) (v:PV) (n:MT) (args:List PV):M PV:=match mk with
 | .lst=>(match v with
  | .ref i=>pG sc i n args
  | _=>M.no)
 | .lex=>(match v with
  | .ref i=>fE i n args
  | _=>M.no)
 | .int=>iq v fun a=>pQ a n args
 | .str=>fY v fun x=>pn x n args
 | .dic=>(match v with
  | .dic l=>oV l n args
  | _=>M.no)
 | .lstV=>(match v with
  | .lst l=>nu l n args
  | _=>M.no)
noncomputable def ju (v:PV):M Bool:=match v with
 | .ref i=>M.bnd (M.get i) fun o=>match o with
  | .lst l=>if l.length ≤ ah then M.ret (!l.isEmpty) else M.no
  | _=>M.no
 | v=>M.lift (trO v)
noncomputable def evO (r:R) (sc:Sc) (loc:Loc):Option CE→M (Option PV)
 | none=>M.ret none
 | some e=>M.bnd (r.ev sc loc e) fun v=>M.ret (some v)
noncomputable def evD (r:R) (sc:Sc) (loc:Loc):List CE→List CE→M (List (Int × PV))
 | [],[]=>M.ret []
 | k :: ks,v :: vs=>M.bnd (r.ev sc loc k) fun a=>M.bnd (r.ev sc loc v) fun x=>match a with
  | .int i=>M.bnd (evD r sc loc ks vs) fun l=>M.ret ((i,x) :: l)
  | _=>M.no
 | _,_=>M.no
noncomputable def putAll:List (Int × PV)→List (Int × PV)→List (Int × PV)
 | [],l=>l
 | (i,x) :: r,l=>putAll r (dT l i x)
inductive Src where
 | items (l:List PV)
 | ref (i n:Nat)
noncomputable def srcOf (v:PV):M Src:=match v with
 | .ref i=>M.bnd (M.get i) fun o=>match o with
  | .lst l=>if l.length ≤ ah then M.ret (.ref i l.length) else M.no
  | _=>M.no
 | v=>M.lift ((gR v).bind fun l=>if l.length ≤ ah then some (.items l) else none)
noncomputable def Bk (a b:Int):Option (List PV):=if b - a ≤ 1000∧aS a∧aS b then some (bb a (b - a).toNat) else none
noncomputable def tW (x:List PV) (b:PV):Option (List PV):=(asL b).bind fun b=>if x.length ≤ ah∧b.length ≤ ah then some (dD x b) else none
noncomputable def Bw (n:TY) (a:PV):Option (List PV):=match n with
 | .range=>(asI a).bind fun b=>if b ≤ 1000∧aS b then some (bb 0 b.toNat) else none
 | .enumerate=>(asL a).bind fun l=>if l.length ≤ ah then some (bN 0 l) else none
 | .reversed=>(asL a).bind fun l=>if l.length ≤ ah then some l.reverse else none
 | _=>none
noncomputable def Bc (n:TY) (a b:PV):Option (List PV):=match n with
 | .range=>(asI a).bind fun i=>(asI b).bind (Bk i)
 | .zip=>(match a with
  | .lst x=>tW x b
  | .tup x=>tW x b
  | _=>none)
 | _=>none
noncomputable def kX (n:TY) (args:List PV):Option (List PV):=match args with
 | [a]=>Bw n a
 | [a,b]=>Bc n a b
 | _=>none
noncomputable def mJ:Option PV→Option TY
 | some (.ty n)=>some n
 | _=>none
noncomputable def nO (n:TY) (t:CT):Bool:=match t with
 | .tup _ _ _=>true
 | .name _ _=>n == TY.range || n == TY.reversed
noncomputable def bH (cfg:Cfg) (r:R) (sc:Sc) (loc:Loc) (t:CT) (e:CE):M Src:=match e with
 | .call i p args q=>(match lk sc.names i with
  | some .globalImplicit=>(match mJ (lk cfg.glob i) with
   | some n=>if nO n t then M.bnd (evL r sc loc args) fun vs=>M.lift ((kX n vs).map .items) else M.no
   | none=>M.bnd (r.ev sc loc (.call i p args q)) srcOf)
  | _=>M.no)
 | e=>M.bnd (r.ev sc loc e) srcOf
noncomputable def gK (r:R) (sc:Sc) (loc:Loc):List CE→M Bool
 | []=>M.ret true
 | [e]=>r.ts sc loc e
 | _=>M.no
noncomputable def dH (r:R) (sc:Sc) (elt:CE) (tg:CT) (fs:List CE):List PV→Loc→List PV→M (List PV)
 | [],_,acc=>M.ret acc
 | v :: rest,loc,acc=>M.bnd (cB sc loc tg v) fun loc'=>M.bnd (gK r sc loc' fs) fun ok=>match ok with
  | true=>M.bnd (r.ev sc loc' elt) fun x=>dH r sc elt tg fs rest loc' (acc ++ [x])
  | false=>dH r sc elt tg fs rest loc' acc
noncomputable def eW (r:R) (sc:Sc) (elt:CE) (tg:CT) (fs:List CE) (id:Nat):Nat→Nat→Loc→List PV→M (List PV)
 | 0,k,_,acc=>M.bnd (M.get id) fun o=>match o with
  | .lst l=>if l.length = k then M.ret acc else M.no
  | _=>M.no
 | n + 1,k,loc,acc=>M.bnd (M.get id) fun o=>match o with
  | .lst l=>(match l[k]? with
   | some v=>M.bnd (cB sc loc tg v) fun loc'=>M.bnd (gK r sc loc' fs) fun ok=>match ok with
    | true=>M.bnd (r.ev sc loc' elt) fun x=>eW r sc elt tg fs id n (k + 1) loc' (acc ++ [x])
    | false=>eW r sc elt tg fs id n (k + 1) loc' acc
   | none=>M.no)
  | _=>M.no
noncomputable def mh (all:List (Nat × NameKind)):List (Nat × NameKind)→Bool
 | []=>true
 | (i,k) :: r=>(k != .local || lk all i == some .local) && mh all r
noncomputable def dI:List (Nat × NameKind)→List (Nat × NameKind)
 | []=>[]
 | (i,k) :: r=>match k with
  | .cell=>(i,k) :: dI r
  | _=>dI r
noncomputable def je:List (Nat × NameKind)→Bool
 | []=>true
 | (i,_) :: r=>!(r.any fun x=>Nat.beq x.1 i) && je r
noncomputable def b7 (cells:List (Nat × Nat)):List (Nat × NameKind)→Option (List (Nat × Nat))
 | []=>some []
 | (i,k) :: r=>match k with
  | .free=>(match lk cells i,b7 cells r with
   | some id,some l=>some ((i,id) :: l)
   | _,_=>none)
  | _=>b7 cells r
noncomputable def cf (vals:Loc):List (Nat × NameKind)→M (List (Nat × Nat))
 | []=>M.ret []
 | (i,k) :: r=>match k with
  | .cell=>M.bnd (M.new (.cell (lk vals i))) fun id=>M.bnd (cf vals r) fun l=>M.ret ((i,id) :: l)
  | .free=>M.no
  | _=>cf vals r
noncomputable def bo (names:List (Nat × NameKind)):Loc→Loc
 | []=>[]
 | (i,v) :: r=>match lk names i with
  | some .local=>(i,v) :: bo names r
  | _=>bo names r
noncomputable def ay (r:R) (sc:Sc):List CS→Loc→M (Fl × Loc)
 | [],loc=>M.ret (.next,loc)
 | s :: t,loc=>M.bnd (r.ex sc loc s) fun x=>match x.1 with
  | .next=>ay r sc t x.2
  | f=>M.ret (f,x.2)
noncomputable def cz (body:PV→Loc→M (Fl × Loc)):List PV→Loc→M (Fl × Loc)
 | [],loc=>M.ret (.next,loc)
 | v :: t,loc=>M.bnd (body v loc) fun x=>match x.1 with
  | .brk=>M.ret (.brk,x.2)
  | .ret w=>M.ret (.ret w,x.2)
  | _=>cz body t x.2
noncomputable def fZ (body:PV→Loc→M (Fl × Loc)) (id:Nat):Nat→Nat→Loc→M (Fl × Loc)
 | 0,k,loc=>M.bnd (M.get id) fun o=>match o with
  | .lst l=>if l.length = k then M.ret (.next,loc) else M.no
  | _=>M.no
 | n + 1,k,loc=>M.bnd (M.get id) fun o=>match o with
  | .lst l=>(match l[k]? with
   | some v=>M.bnd (body v loc) fun x=>match x.1 with
    | .brk=>M.ret (.brk,x.2)
    | .ret w=>M.ret (.ret w,x.2)
    | _=>fZ body id n (k + 1) x.2
   | none=>M.no)
  | _=>M.no
noncomputable def ji:Const→Option PV
 | .none=>some .none
 | .bool b=>some (.bool b)
 | .int i=>some (.int i)
 | .float u=>some (.flt u)
 | .str s=>some (.str s)
 | _=>none
noncomputable def mW:CE→Bool
 | .call _ _ args _=>!args.isEmpty
 | _=>true
noncomputable def isName:CE→Bool
 | .name ..=>true
 | _=>false
noncomputable def cc (o:CE) (ap p:Pos) (args:List CE):Bool:=(ap.endLine == p.line) && Nat.ble args.length 20 && mW o
noncomputable def vf (x y:PV):M PV:=match x with
 | .lst a=>(match y with
  | .lst b=>if a.length + b.length ≤ ah then M.bnd (M.new (.lst (a ++ b))) fun i=>M.ret (.ref i) else M.no
  | _=>M.no)
 | _=>M.no
noncomputable def iu (cfg:Cfg) (r:R) (sc:Sc) (loc:Loc):CE→M PV
 | .cst c _ _=>M.lift (ji c)
 | .name i _=>a8 cfg sc loc i
 | .bool op es _=>l8 r sc loc op es
 | .bin a op b _=>M.bnd (r.ev sc loc a) fun x=>M.bnd (r.ev sc loc b) fun y=>M.lift (iO op x y)
 | .iW a b _=>M.bnd (r.ev sc loc a) fun x=>M.bnd (r.ev sc loc b) fun y=>vf x y
 | .una op a _=>M.bnd (r.ev sc loc a) fun x=>M.lift (xE op x)
 | .ife t b o _=>M.bnd (r.ts sc loc t) fun c=>match c with
  | true=>r.ev sc loc b
  | false=>r.ev sc loc o
 | .cmp a ops rs _=>M.bnd (r.ev sc loc a) fun x=>M.bnd (gZ r sc loc x ops rs) fun b=>M.ret (.bool b)
 | .call f _ args _=>M.bnd (a8 cfg sc loc f) fun fv=>M.bnd (evL r sc loc args) fun vs=>r.cl fv vs
 | .callS f _ arg _ _=>M.bnd (a8 cfg sc loc f) fun fv=>M.bnd (r.ev sc loc arg) fun v=>match fv,v with
  | .fn _,.lst l=>if l.length ≤ ah then r.cl fv l else M.no
  | _,_=>M.no
 | .meth o n ap args p=>match cc o ap p args with
  | true=>M.bnd (r.ev sc loc o) fun ov=>M.bnd (d9 ov) fun mk=>M.bnd (evL r sc loc args) fun vs=>fk sc mk ov n vs
  | false=>M.no
 | .attr o n _=>match isName o with
  | true=>M.bnd (r.ev sc loc o) fun ov=>(match ov with
   | .ref i=>M.bnd (M.get i) fun x=>(match x with
    | .lex _ line _=>if n == MT.lineno then M.ret (.int line) else M.no
    | _=>M.no)
   | _=>M.no)
  | false=>M.no
 | .sub v s _=>M.bnd (r.ev sc loc v) fun x=>M.bnd (r.ev sc loc s) fun y=>getM x y
 | .slc v lo hi st _ _=>M.bnd (r.ev sc loc v) fun x=>M.bnd (evO r sc loc lo) fun a=>M.bnd (evO r sc loc hi) fun b=>M.bnd (evO r sc loc st) fun c=>M.lift (fH x a b c)
 | .list m es _=>match Nat.ble es.length 20 with
  | true=>M.bnd (evL r sc loc es) fun vs=>(match m with
   | true=>M.bnd (M.new (.lst vs)) fun i=>M.ret (.ref i)
   | false=>M.ret (.lst vs))
  | false=>M.no
 | .tup es _ _=>match Nat.ble es.length 20 with
  | true=>M.bnd (evL r sc loc es) fun vs=>M.ret (.tup vs)
  | false=>M.no
 | .dict m ks vs _=>match !ks.isEmpty && Nat.ble ks.length 15 with
  | true=>M.bnd (evD r sc loc ks vs) fun l=>(match m with
   | true=>M.bnd (M.new (.dic (putAll l []))) fun i=>M.ret (.ref i)
   | false=>M.ret (.dic (putAll l [])))
  | false=>M.no
 | .comp elt tg it fs cs _=>M.bnd (bH cfg r sc loc tg it) fun src=>match (if mh cs.names cs.names && je cs.names then b7 sc.cells cs.names else none) with
  | some cells=>M.bnd (cf [] (dI cs.names)) fun own=>(match src with
   | .items l=>M.bnd (dH r ⟨cs.names,own ++ cells,sc.lim⟩ elt tg fs l [] []) fun vs=>M.ret (.lst vs)
   | .ref i n=>M.bnd (eW r ⟨cs.names,own ++ cells,sc.lim⟩ elt tg fs i n 0 [] []) fun vs=>M.ret (.lst vs))
  | none=>M.no
noncomputable def allM (r:R) (sc:Sc) (loc:Loc) (op:BoolOp):List CE→M Bool
 | []=>M.ret (op == .And)
 | e :: es=>M.bnd (r.ts sc loc e) fun t=>match op,t with
  | .And,false=>M.ret false
  | .Or,true=>M.ret true
  | _,_=>allM r sc loc op es
noncomputable def stepT (r:R) (sc:Sc) (loc:Loc):CE→M Bool
 | .una .Not e _=>M.bnd (r.ts sc loc e) fun b=>M.ret (!b)
 | .bool op es _=>allM r sc loc op es
 | .cmp a ops rs _=>M.bnd (r.ev sc loc a) fun x=>gZ r sc loc x ops rs
 | .ife ..=>M.no
 | e=>M.bnd (r.ev sc loc e) ju
noncomputable def jQ:PV→Bool
 | .none | .bool _ | .int _ | .flt _ | .str _=>true
 | _=>false
noncomputable def fF:CE→Bool
 | .comp ..=>true
 | _=>false
noncomputable def ja (r:R) (sc:Sc) (t:CE) (b:List CS):Nat→Loc→M (Fl × Loc)
 | 0,_=>M.no
 | n + 1,loc=>M.bnd (r.ts sc loc t) fun c=>match c with
  | true=>M.bnd (ay r sc b loc) fun x=>(match x.1 with
   | .brk=>M.ret (.brk,x.2)
   | .ret w=>M.ret (.ret w,x.2)
   | _=>ja r sc t b n x.2)
  | false=>M.ret (.next,loc)
noncomputable def bK (r:R) (sc:Sc) (o:List CS) (x:Fl × Loc):M (Fl × Loc):=match x.1 with
 | .brk=>M.ret (.next,x.2)
 | .ret w=>M.ret (.ret w,x.2)
 | _=>ay r sc o x.2
noncomputable def aV (r:R) (sc:Sc) (t:CT) (b:List CS) (v:PV) (loc:Loc):M (Fl × Loc):=M.bnd (cB sc loc t v) fun loc'=>ay r sc b loc'
noncomputable def dc (cfg:Cfg) (r:R) (sc:Sc) (loc:Loc):CS→M (Fl × Loc)
 | .expr e _=>if fF e then M.no else M.bnd (r.ev sc loc e) fun v=>if jQ v then M.ret (.next,loc) else M.no
 | .brk _=>M.ret (.brk,loc)
 | .cont _=>M.ret (.cont,loc)
 | .ret e _=>M.bnd (r.ev sc loc e) fun v=>M.ret (.ret v,loc)
 | .asg t e _=>M.bnd (r.ev sc loc e) fun v=>M.bnd (gy sc loc t e v) fun loc'=>M.ret (.next,loc')
 | .asgS o i _ e _=>M.bnd (r.ev sc loc e) fun v=>M.bnd (r.ev sc loc o) fun ov=>M.bnd (r.ev sc loc i) fun iv=>M.bnd (setM sc ov iv v) fun _=>M.ret (.next,loc)
 | .augN i _ op e _=>M.bnd (a8 cfg sc loc i) fun old=>M.bnd (r.ev sc loc e) fun v=>M.bnd (M.lift (kv op old v)) fun x=>M.bnd (cS sc loc i x) fun loc'=>M.ret (.next,loc')
 | .augS o i _ op e _=>M.bnd (r.ev sc loc o) fun ov=>M.bnd (r.ev sc loc i) fun iv=>M.bnd (getM ov iv) fun old=>M.bnd (r.ev sc loc e) fun v=>M.bnd (M.lift (kv op old v)) fun x=>M.bnd (setM sc ov iv x) fun _=>M.ret (.next,loc)
 | .iff t b o _=>M.bnd (r.ts sc loc t) fun c=>match c with
  | true=>ay r sc b loc
  | false=>ay r sc o loc
 | .whl t b o _=>M.bnd (ja r sc t b 64 loc) (bK r sc o)
 | .for t it b o _=>M.bnd (bH cfg r sc loc t it) fun src=>match src with
  | .items l=>M.bnd (cz (aV r sc t b) l loc) (bK r sc o)
  | .ref i n=>M.bnd (fZ (aV r sc t b) i n 0 loc) (bK r sc o)
 | .other _=>M.no
noncomputable def jG:List (Nat × Pos)→List PV→Option Loc
 | [],[]=>some []
 | (i,_) :: r,v :: t=>(jG r t).map ((i,v) :: ·)
 | _,_=>none
noncomputable def iM:Fl→PV
 | .ret v=>v
 | _=>.none
noncomputable def bV (r:R) (fd:FD) (args:List PV) (lim:Nat):M PV:=match jG fd.params args with
 | none=>M.no
 | some bs=>M.bnd (cf bs fd.sc.names) fun cells=>M.bnd (ay r ⟨fd.sc.names,cells,lim⟩ fd.body (bo fd.sc.names bs)) fun x=>M.ret (iM x.1)
noncomputable def bO (r:R) (fd:FD) (args:List PV):M PV:=fun μ=>match fd.pure with
 | true=>if clo.all 0 args then (match bV r fd args 0 [] with
  | some (v,μ')=>(match frz 0 μ' 8 v with
   | some v'=>some (v',μ)
   | none=>none)
  | none=>none) else none
 | false=>match bV r fd args μ.length μ with
  | some (v,μ')=>(match if (μ'.take μ.length).all (dO μ.length) then frz μ.length μ' 8 v else none with
   | some v'=>some (v',μ'.take μ.length)
   | none=>none)
  | none=>none
noncomputable def fK:Nat→Nat→Nat→List PV
 | _,0,_=>[]
 | n,k + 1,a=>.int (a % 2 ^ n:Nat) :: fK n k (a / 2 ^ n)
noncomputable def bw (n:Nat):List PV→Option Int
 | []=>some 0
 | .int d :: r=>if d.natAbs < 2 ^ 64 then (bw n r).map fun x=>d + x * 2 ^ n else none
 | _=>none
noncomputable def Bq (a n:Int):M PV:=if 0 ≤ a∧0 < n∧n ≤ 64∧a.natAbs < 2 ^ 400 then M.ret (.lst (fK n.toNat ((Builtin.Int.intBits a + n.toNat - 1) / n.toNat) a.toNat)) else M.no
noncomputable def sS (l:List PV) (n:Int):M PV:=if 0 < n∧n ≤ 64∧l.length ≤ 400 then M.lift ((bw n.toNat l).map .int) else M.no
noncomputable def BC (v:PV) (n:Int):M PV:=match v with
 | .lst l=>sS l n
 | .ref i=>M.bnd (M.get i) fun o=>match o with
  | .lst l=>sS l n
  | _=>M.no
 | _=>M.no
noncomputable def Bi (x:Str):M PV:=if x.length ≤ 1000 then M.bnd (M.new (.lex x.cps.toList 1 [])) fun i=>M.ret (.ref i) else M.no
noncomputable def qh (args:List PV) (f:PV→PV→M PV):M PV:=match args with
 | [x,y]=>f x y
 | _=>M.no
noncomputable def me (k:jL) (args:List PV):M PV:=match k with
 | .int2digits=>qh args fun a b=>iq a fun a=>iq b (Bq a)
 | .digits2int=>qh args fun a b=>iq b (BC a)
 | .lexer=>fj args fun a=>fY a Bi
noncomputable def zh (i:Nat):M PV:=M.bnd (M.get i) fun o=>match o with
 | .lst l=>if l.length ≤ ah then M.ret (.int l.length) else M.no
 | _=>M.no
noncomputable def jj:List PV→Option Nat
 | [a]=>(match a with
  | .ref i=>some i
  | _=>none)
 | _=>none
noncomputable def biM (n:BI) (args:List PV):M PV:=match n with
 | .len=>(match jj args with
  | some i=>zh i
  | none=>M.lift (gN .len args))
 | n=>M.lift (gN n args)
noncomputable def jW (cfg:Cfg) (r:R) (f:PV) (args:List PV):M PV:=match f with
 | .fn a=>(match lk cfg.prims a with
  | some k=>me k args
  | none=>match lk cfg.fns a with
   | some fd=>bO r fd args
   | none=>M.no)
 | .bi n=>biM n args
 | .ty n=>M.lift (yU n args)
 | _=>M.no
noncomputable def R.no:R:=⟨fun _ _ _=>M.no,fun _ _ _=>M.no,fun _ _ _=>M.no,fun _ _=>M.no⟩
noncomputable def ae (cfg:Cfg):Nat→R
 | 0=>R.no
 | n + 1=>let r:=ae cfg n;⟨iu cfg r,stepT r,dc cfg r,jW cfg r⟩
end
end Mine
end
section
namespace Mine
open PySem PySem.W PySem.Spec PySem.Calls PyProof.Rows
set_option tactic.hygienic true in
theorem cG {α β:Type} {x:M α} {f:α→M β} {μ μ'':Mem} {b:β} (e:M.bnd x f μ = some (b,μ'')):∃ a μ',x μ = some (a,μ')∧f a μ' = some (b,μ''):=by
 unfold M.bnd at e
 split at e
 ·rename_i a μ' h;exact ⟨a,μ',h,e⟩
 ·exact no1 e
theorem get_some {i:Nat} {μ μ':Mem} {o:MO} (e:M.get i μ = some (o,μ')):μ[i]? = some o∧μ = μ':=by
 unfold M.get at e
 split at e
 ·rename_i h;refine so2m e ?_;exact ⟨h,rfl⟩
 ·exact no1 e
theorem bQ {α:Type} {o:Option α} {μ μ':Mem} {a:α} (e:M.lift o μ = some (a,μ')):o = some a∧μ = μ':=by
 unfold M.lift at e
 split at e
 ·refine so2m e ?_;exact ⟨rfl,rfl⟩
 ·exact no1 e
theorem ai {α:Type} {a b:α} {μ μ':Mem} (e:M.ret a μ = some (b,μ')):a = b∧μ = μ':=by
 unfold M.ret at e;refine so2m e ?_;exact ⟨rfl,rfl⟩
theorem iT {i:Nat} {o:MO} {u:Unit} {μ μ':Mem} (e:M.set i o μ = some (u,μ')):μ.set i o = μ':=by
 unfold M.set at e;refine so2m e ?_;rfl
theorem f9 {i:Nat} {o:MO} {μ μ':Mem} (e:M.new o μ = some (i,μ')):i = μ.length∧μ ++ [o] = μ':=by
 unfold M.new at e;refine so2m e ?_;exact ⟨rfl,rfl⟩
theorem bF {α:Type} {a:α} {μ μ':Mem} (e:(M.no:M α) μ = some (a,μ')):False:=by exact no1 e
theorem M.pif {α:Type} {c:Prop} [Decidable c] {x:M α} {μ:Mem} {z:α × Mem} (e:(if c then x else M.no) μ = some z):c∧x μ = some z:=by
 by_cases h:c
 ·rw [if_pos h] at e;exact ⟨h,e⟩
 ·rw [if_neg h] at e;exact no1 e
theorem oif {α:Type} {c:Prop} [Decidable c] {x:Option α} {y:α} (e:(if c then x else none) = some y):c∧x = some y:=by
 by_cases h:c
 ·rw [if_pos h] at e;exact ⟨h,e⟩
 ·rw [if_neg h] at e;exact no1 e
theorem dP {α:Type} {c:Prop} [Decidable c] {x:Option α} {y:α} (e:(if c then none else x) = some y):¬ c∧x = some y:=by
 by_cases h:c
 ·rw [if_pos h] at e;exact no1 e
 ·rw [if_neg h] at e;exact ⟨h,e⟩
theorem ag {α β:Type} {x:M α} {f:α→M β} {μ μ'':Mem} {b:β} {G:Prop} (e:M.bnd x f μ = some (b,μ'')) (k:∀ a μ',x μ = some (a,μ')→f a μ' = some (b,μ'')→G):G:=by
 refine x22 (cG e) fun a m h1 h2=>?_;exact k a m h1 h2
theorem cw {β:Type} {i:Nat} {f:MO→M β} {μ:Mem} {z:β × Mem} {G:Prop} (e:M.bnd (M.get i) f μ = some z) (k:∀ o,μ[i]? = some o→f o μ = some z→G):G:=by
 obtain ⟨b,μ''⟩:=z;obtain ⟨a,m,h1,h2⟩:=cG e;obtain ⟨h3,rfl⟩:=get_some h1;exact k a h3 h2
theorem mA {α β:Type} {o:Option α} {f:α→M β} {μ:Mem} {z:β × Mem} {G:Prop} (e:M.bnd (M.lift o) f μ = some z) (k:∀ a,o = some a→f a μ = some z→G):G:=by
 obtain ⟨b,μ''⟩:=z;obtain ⟨a,m,h1,h2⟩:=cG e;obtain ⟨h3,rfl⟩:=bQ h1;exact k a h3 h2
theorem cj {α:Type} {o:Option α} {μ μ':Mem} {a:α} {G:Mem→Prop} (e:M.lift o μ = some (a,μ')) (k:o = some a→G μ):G μ':=by
 obtain ⟨h,rfl⟩:=bQ e;exact k h
theorem cW {α:Type} {a b:α} {μ μ':Mem} {G:Mem→Prop} (e:M.ret a μ = some (b,μ')) (k:a = b→G μ):G μ':=by
 obtain ⟨h,rfl⟩:=ai e;exact k h
theorem au {P Q G:Prop} (e:P∧Q) (k:P→Q→G):G:=k e.1 e.2
theorem AG {α β:Type} {f:α→β} {o:Option α} {b:β} {G:β→Prop} (e:o.map f = some b) (k:∀ a,o = some a→G (f a)):G b:=by
 refine qd (Option.map_eq_some_iff.mp e) fun a h=>?_;exact k a h
theorem d6 {α β:Type} {f:α→Option β} {o:Option α} {b:β} {G:Prop} (e:o.bind f = some b) (k:∀ a,o = some a→f a = some b→G):G:=by
 refine x12 (Option.bind_eq_some_iff.mp e) fun a h h2=>?_;exact k a h h2
theorem xn {α β:Type} {f:α→β} {l:List α} {b:β} {G:β→Prop} (e:b∈l.map f) (k:∀ a,a∈l→G (f a)):G b:=by
 refine qd (List.mem_map.mp e) fun a h=>?_;exact k a h
noncomputable abbrev Led:=List (Addr × Obj)
noncomputable def tupQ (o:Obj) (vs:List Value):Prop:=o.cls = .type "tuple"∧∃ n,o.data = .seq vs.toArray n
noncomputable def yf (o:Obj) (vs:List Value):Prop:=∃ n,o = { cls:=.type "list",data:=.seq vs.toArray n }
noncomputable def cM (o:Obj) (f:Int→Option Value) (k:Nat):Prop:=o.cls = .type "dict"∧o.dict = none∧o.slots = #[]∧∃ es n,o.data = .dict es n∧IntKeys es∧es.size ≤ k∧∀ i,findBy Value.isInt es i = f i
noncomputable def yA (o:Obj) (v:Option Value):Prop:=o.data = .cell v
mutual
noncomputable def RV (fz:Led) (ad:List Addr):PV→Value→Prop
 | .none,v=>v = .none
 | .bool b,v=>v = .bool b
 | .int i,v=>∃ t,v = .int i t
 | .flt u,v=>∃ t,v = .float u t
 | .str s,v=>∃ t,v = .str s t
 | .tup l,v=>∃ a o vs,v = .ref a∧(a,o)∈fz∧tupQ o vs∧RVs fz ad l vs
 | .lst l,v=>∃ a o vs,v = .ref a∧(a,o)∈fz∧yf o vs∧RVs fz ad l vs
 | .dic l,v=>∃ a o f,v = .ref a∧(a,o)∈fz∧cM o f l.length∧REs fz ad l f
 | .ref i,v=>∃ a,v = .ref a∧ad[i]? = some a
 | .fn a,v=>v = .ref a
 | .bi n,v=>v = .builtin n.str
 | .ty n,v=>v = .type n.str
noncomputable def RVs (fz:Led) (ad:List Addr):List PV→List Value→Prop
 | [],vs=>vs = []
 | p :: r,vs=>∃ v t,vs = v :: t∧RV fz ad p v∧RVs fz ad r t
noncomputable def REs (fz:Led) (ad:List Addr):List (Int × PV)→(Int→Option Value)→Prop
 | [],f=>∀ k,f k = none
 | (i,p) :: r,f=>(∃ v,f i = some v∧RV fz ad p v)∧REs fz ad r (fun k=>if k = i then none else f k)
end
noncomputable def Pre (ad ad':List Addr):Prop:=∀ (i:Nat) (a:Addr),ad[i]? = some a→ad'[i]? = some a
theorem Pre.refl (ad:List Addr):Pre ad ad:=fun _ _ h=>h
theorem Pre.trans {a b c:List Addr} (h:Pre a b) (g:Pre b c):Pre a c:=fun i x e=>g i x (h i x e)
theorem Pre.app (a b:List Addr):Pre a (a ++ b):=fun i x e=>by
 refine rwG (List.getElem?_append_left (List.getElem?_eq_some_iff.mp e).1) ?_;exact e
mutual
theorem RV.mono {fz fz':Led} {ad ad':List Addr} (hf:∀ p∈fz,p∈fz') (ha:Pre ad ad'):∀ {p:PV} {v:Value},RV fz ad p v→RV fz' ad' p v
 | .none,_,h=>h
 | .bool _,_,h=>h
 | .int _,_,h=>h
 | .flt _,_,h=>h
 | .str _,_,h=>h
 | .tup l,_,h=>by
  skip
  refine x34 h fun a o vs e m q r=>?_
  exact ⟨a,o,vs,e,hf _ m,q,RVs.mono hf ha r⟩
 | .lst l,_,h=>by
  skip
  refine x34 h fun a o vs e m q r=>?_
  exact ⟨a,o,vs,e,hf _ m,q,RVs.mono hf ha r⟩
 | .dic l,_,h=>by
  skip
  refine x34 h fun a o f e m q r=>?_
  exact ⟨a,o,f,e,hf _ m,q,REs.mono hf ha r⟩
 | .ref _,_,h=>by
  skip
  refine x12 h fun a e m=>?_
  exact ⟨a,e,ha _ _ m⟩
 | .fn _,_,h=>h
 | .bi _,_,h=>h
 | .ty _,_,h=>h
theorem RVs.mono {fz fz':Led} {ad ad':List Addr} (hf:∀ p∈fz,p∈fz') (ha:Pre ad ad'):∀ {l:List PV} {vs:List Value},RVs fz ad l vs→RVs fz' ad' l vs
 | [],_,h=>h
 | p :: r,_,h=>by
  skip
  refine x23 h fun v t e h1 h2=>?_
  exact ⟨v,t,e,RV.mono hf ha h1,RVs.mono hf ha h2⟩
theorem REs.mono {fz fz':Led} {ad ad':List Addr} (hf:∀ p∈fz,p∈fz') (ha:Pre ad ad'):∀ {l:List (Int × PV)} {f:Int→Option Value},REs fz ad l f→REs fz' ad' l f
 | [],_,h=>h
 | (i,p) :: r,_,h=>by
  skip
  obtain ⟨⟨v,e,h1⟩,h2⟩:=h
  exact ⟨⟨v,e,RV.mono hf ha h1⟩,REs.mono hf ha h2⟩
end
section
variable {fz:Led} {ad:List Addr}
theorem RVs.nil:RVs fz ad [] []:=rfl
theorem RVs.cons {p:PV} {v:Value} {l:List PV} {vs:List Value} (h:RV fz ad p v) (t:RVs fz ad l vs):RVs fz ad (p :: l) (v :: vs):=by skip;exact ⟨v,vs,rfl,h,t⟩
theorem RVs.len:∀ {l:List PV} {vs:List Value},RVs fz ad l vs→vs.length = l.length
 | [],_,h=>by skip;subst h;rfl
 | _ :: r,_,h=>by skip;obtain ⟨v,t,rfl,_,h2⟩:=h;simp [RVs.len h2]
theorem RVs.get:∀ {l:List PV} {vs:List Value},RVs fz ad l vs→∀ {i:Nat} {p:PV},l[i]? = some p→∃ v,vs[i]? = some v∧RV fz ad p v
 | [],_,_,i,p,e=>by simp at e
 | q :: r,_,h,i,p,e=>by
  skip;obtain ⟨v,t,rfl,h1,h2⟩:=h
  induction i using Nat.casesOn with
  | zero=>simp at e;subst e;exact ⟨v,by simp,h1⟩
  | succ i=>simp at e;refine x12 (RVs.get h2 e) fun v' e' h'=>?_;exact ⟨v',by simpa using e',h'⟩
theorem RVs.app:∀ {l l':List PV} {vs vs':List Value},RVs fz ad l vs→RVs fz ad l' vs'→RVs fz ad (l ++ l') (vs ++ vs')
 | [],_,_,_,h,h'=>by skip;subst h;exact h'
 | _ :: r,_,_,_,h,h'=>by skip;obtain ⟨v,t,rfl,h1,h2⟩:=h;exact RVs.cons h1 (RVs.app h2 h')
theorem RVs.rev:∀ {l:List PV} {vs:List Value},RVs fz ad l vs→RVs fz ad l.reverse vs.reverse
 | [],_,h=>by skip;subst h;exact RVs.nil
 | _ :: r,_,h=>by
  skip;obtain ⟨v,t,rfl,h1,h2⟩:=h
  (refine rwG List.reverse_cons ?_;refine rwG List.reverse_cons ?_);exact RVs.app (RVs.rev h2) (RVs.cons h1 RVs.nil)
theorem RVs.take:∀ {l:List PV} {vs:List Value} (n:Nat),RVs fz ad l vs→RVs fz ad (l.take n) (vs.take n)
 | [],_,n,h=>by skip;subst h;simpa using RVs.nil
 | _ :: r,_,0,h=>by simpa using RVs.nil
 | _ :: r,_,n + 1,h=>by skip;obtain ⟨v,t,rfl,h1,h2⟩:=h;simpa using RVs.cons h1 (RVs.take n h2)
theorem RVs.drop:∀ {l:List PV} {vs:List Value} (n:Nat),RVs fz ad l vs→RVs fz ad (l.drop n) (vs.drop n)
 | [],_,n,h=>by skip;subst h;simpa using RVs.nil
 | _ :: r,_,0,h=>h
 | _ :: r,_,n + 1,h=>by skip;obtain ⟨v,t,rfl,h1,h2⟩:=h;simpa using RVs.drop n h2
theorem RVs.set:∀ {l:List PV} {vs:List Value} (n:Nat) {p:PV} {v:Value},RVs fz ad l vs→RV fz ad p v→RVs fz ad (l.set n p) (vs.set n v)
 | [],_,n,_,_,h,_=>by skip;subst h;simpa using RVs.nil
 | _ :: r,_,0,_,_,h,hp=>by skip;obtain ⟨v,t,rfl,h1,h2⟩:=h;simpa using RVs.cons hp h2
 | _ :: r,_,n + 1,_,_,h,hp=>by skip;obtain ⟨v,t,rfl,h1,h2⟩:=h;simpa using RVs.cons h1 (RVs.set n h2 hp)
theorem REs.congr:∀ {l:List (Int × PV)} {f g:Int→Option Value},REs fz ad l f→(∀ k,f k = g k)→REs fz ad l g
 | [],f,g,h,e=>by skip;exact fun k=>(e k).symm.trans (h k)
 | (i,p) :: r,f,g,h,e=>by
  skip
  obtain ⟨⟨v,e',h1⟩,h2⟩:=h
  refine ⟨⟨v,(e i).symm.trans e',h1⟩,h2.congr fun k=>?_⟩
  by_cases hk:k = i
  ·simp [hk]
  ·simp [hk,e k]
theorem lZ {j i:Int} {v:PV} {r:List (Int × PV)}:lkI ((j,v) :: r) i = if i = j then some v else lkI r i:=rfl
theorem REs.find:∀ {l:List (Int × PV)} {f:Int→Option Value},REs fz ad l f→∀ {k:Int} {p:PV},lkI l k = some p→∃ v,f k = some v∧RV fz ad p v
 | [],_,_,_,_,e=>no1 e
 | (i,q) :: r,f,h,k,p,e=>by
  skip
  obtain ⟨⟨v,e',h1⟩,h2⟩:=h
  rw [lZ] at e
  by_cases hk:k = i
  ·rw [if_pos hk] at e;refine so1m e ?_;exact ⟨v,hk ▸ e',h1⟩
  ·rw [if_neg hk] at e
   refine x12 (h2.find e) fun v' e2 h3=>?_
   rw [if_neg hk] at e2
   exact ⟨v',e2,h3⟩
theorem REs.miss:∀ {l:List (Int × PV)} {f:Int→Option Value},REs fz ad l f→∀ {k:Int},lkI l k = none→f k = none
 | [],_,h,_,_=>by skip;exact h _
 | (i,q) :: r,f,h,k,e=>by
  skip
  obtain ⟨⟨v,e',h1⟩,h2⟩:=h
  rw [lZ] at e
  by_cases hk:k = i
  ·rw [if_pos hk] at e;exact no2 e
  ·rw [if_neg hk] at e
   have:=h2.miss e
   rwa [if_neg hk] at this
theorem mN {j i:Int} {u v:PV} {r:List (Int × PV)}:dT ((j,u) :: r) i v = if i = j then (j,v) :: r else (j,u) :: dT r i v:=rfl
theorem REs.put:∀ {l:List (Int × PV)} {f:Int→Option Value},REs fz ad l f→∀ {k:Int} {p:PV} {v:Value},RV fz ad p v→REs fz ad (dT l k p) (fun x=>if x = k then some v else f x)
 | [],f,h,k,p,v,hp=>by
  skip
  skip
  refine ⟨⟨v,by simp,hp⟩,fun x=>?_⟩
  by_cases hx:x = k
  ·simp [hx]
  ·simp [hx,h x]
 | (i,q) :: r,f,h,k,p,v,hp=>by
  skip
  obtain ⟨⟨u,e',h1⟩,h2⟩:=h
  rw [mN]
  by_cases hk:k = i
  ·subst hk
   rw [if_pos rfl]
   refine And.intro ⟨v,by simp,hp⟩ (h2.congr fun x=>?_)
   by_cases hx:x = k
   ·simp [hx]
   ·simp [hx]
  ·rw [if_neg hk]
   have hk':¬ i = k:=fun e=>hk e.symm
   refine ⟨⟨u,by simp [hk',e'],h1⟩,(h2.put hp).congr fun x=>?_⟩
   by_cases hx:x = k
   ·simp [hx,hk]
   ·simp [hx]
end
theorem iR:∀ (l:List (Int × PV)) (k:Int) (p:PV),l.length ≤ (dT l k p).length∧(lkI l k = none→(dT l k p).length = l.length + 1)
 | [],_,_=>⟨Nat.zero_le _,fun _=>rfl⟩
 | (i,q) :: r,k,p=>by
  rw [mN,lZ]
  by_cases hk:k = i
  ·simp [hk]
  ·simp only [hk,if_false]
   have:=iR r k p
   simp;exact ⟨this.1,this.2⟩
noncomputable def RM (LX:Led→List Nat→Int→List Str→Led→Prop) (fz:Led) (ad:List Addr):MO→Led→Prop
 | .lst l,led=>∃ a o vs,led = [(a,o)]∧yf o vs∧RVs fz ad l vs
 | .dic l,led=>∃ a o f,led = [(a,o)]∧cM o f l.length∧REs fz ad l f
 | .cell none,led=>∃ a o,led = [(a,o)]∧yA o none
 | .cell (some p),led=>∃ a o v,led = [(a,o)]∧yA o (some v)∧RV fz ad p v
 | .lex cs n ps,led=>∃ c:Led,(∀ p∈c,p∈fz)∧LX c cs n ps led
noncomputable def RMs (LX:Led→List Nat→Int→List Str→Led→Prop) (fz:Led) (ad:List Addr):List MO→List Led→Prop
 | [],ls=>ls = []
 | o :: r,ls=>∃ l t,ls = l :: t∧RM LX fz ad o l∧RMs LX fz ad r t
section
variable {LX:Led→List Nat→Int→List Str→Led→Prop}
theorem RM.mono {fz fz':Led} {ad ad':List Addr} (hf:∀ p∈fz,p∈fz') (ha:Pre ad ad') {o:MO} {l:Led} (h:RM LX fz ad o l):RM LX fz' ad' o l:=by
 induction o using MO.casesOn with
 | lst _=>refine x33 h fun a o vs e q r=>?_;exact ⟨a,o,vs,e,q,RVs.mono hf ha r⟩
 | dic _=>refine x33 h fun a o vs e q r=>?_;exact ⟨a,o,vs,e,q,REs.mono hf ha r⟩
 | cell v=>induction v using Option.casesOn with
  | none=>exact h
  | some p=>refine x33 h fun a o v e q r=>?_;exact ⟨a,o,v,e,q,RV.mono hf ha r⟩
 | lex _ _ _=>refine x12 h fun c hc h=>?_;exact ⟨c,fun p hp=>hf p (hc p hp),h⟩
theorem RMs.mono {fz fz':Led} {ad ad':List Addr} (hf:∀ p∈fz,p∈fz') (ha:Pre ad ad'):∀ {μ:List MO} {ls:List Led},RMs LX fz ad μ ls→RMs LX fz' ad' μ ls
 | [],_,h=>h
 | _ :: _,_,⟨l,t,e,h1,h2⟩=>⟨l,t,e,h1.mono hf ha,h2.mono hf ha⟩
theorem RMs.len {fz:Led} {ad:List Addr}:∀ {μ:List MO} {ls:List Led},RMs LX fz ad μ ls→ls.length = μ.length
 | [],_,h=>by subst h;rfl
 | _ :: _,_,⟨l,t,e,h1,h2⟩=>by subst e;simp [h2.len]
theorem RMs.get {fz:Led} {ad:List Addr}:∀ {μ:List MO} {ls:List Led},RMs LX fz ad μ ls→∀ {i:Nat} {o:MO},μ[i]? = some o→∃ l,ls[i]? = some l∧RM LX fz ad o l
 | [],_,_,i,o,e=>by simp at e
 | _ :: _,_,⟨l,t,e',h1,h2⟩,i,o,e=>by
  subst e'
  induction i using Nat.casesOn with
  | zero=>simp at e;subst e;exact ⟨l,by simp,h1⟩
  | succ i=>simp at e;refine x12 (h2.get e) fun l' a b=>?_;exact ⟨l',by simpa using a,b⟩
theorem RMs.set {fz:Led} {ad:List Addr}:∀ {μ:List MO} {ls:List Led},RMs LX fz ad μ ls→∀ (i:Nat) {o:MO} {l:Led},RM LX fz ad o l→RMs LX fz ad (μ.set i o) (ls.set i l)
 | [],_,h,i,o,l,_=>by subst h;exact rfl
 | _ :: _,_,⟨l',t,e',h1,h2⟩,i,o,l,ho=>by
  subst e'
  induction i using Nat.casesOn with
  | zero=>exact ⟨l,t,by simp,ho,h2⟩
  | succ i=>exact ⟨l',t.set i l,by simp,h1,h2.set i ho⟩
theorem RMs.app {fz:Led} {ad:List Addr}:∀ {μ ν:List MO} {ls ms:List Led},RMs LX fz ad μ ls→RMs LX fz ad ν ms→RMs LX fz ad (μ ++ ν) (ls ++ ms)
 | [],_,_,_,h,h'=>by subst h;exact h'
 | _ :: _,_,_,_,⟨l,t,e,h1,h2⟩,h'=>⟨l,t ++ _,by subst e;rfl,h1,h2.app h'⟩
end
end Mine
end
section
namespace Mine
open PySem PySem.W PySem.Spec PySem.Calls PyProof.Rows
noncomputable abbrev NoE:Value→Shared→Prop:=fun _ _=>False
noncomputable def adr:Led→Addr
 | (a,_) :: _=>a
 | []=>0
structure Bas where
 prog:Program
 w:World
 nm:Nat→Str
 cfg:Cfg
 hb:Heap
 mg:Str→Option Value
 mb:Str→Option Value
 kfz:Led
 LX:Led→List Nat→Int→List Str→Led→Prop
 TQ:Led→Led→Prop
 fT:Addr
 fP:Addr
structure Ctx extends Bas where
 A:Around
 env:Env
 h₀:Heap
structure Wd where
 fz:Led
 tab:Led
 hid:Led
 led:List Led
noncomputable def ads (l:List Led):List Addr:=l.map adr
noncomputable def Wd.oth (W:Wd):Led:=W.tab ++ (W.hid ++ W.led.flatten)
noncomputable def Wd.own (W:Wd):List Addr:=W.oth.map (·.1)
structure Wd.le (W W':Wd):Prop where
 fz:∀ p∈W.fz,p∈W'.fz
 hid:W'.hid = W.hid
 ad:Pre (ads W.led) (ads W'.led)
theorem Wd.le.refl (W:Wd):W.le W:=⟨fun _ h=>h,rfl,Pre.refl _⟩
theorem Wd.le.trans {a b c:Wd} (h:a.le b) (g:b.le c):a.le c:=⟨fun p m=>g.fz p (h.fz p m),g.hid.trans h.hid,h.ad.trans g.ad⟩
theorem RV.le {W W':Wd} {p:PV} {v:Value} (h:RV W.fz (ads W.led) p v) (l:W.le W'):RV W'.fz (ads W'.led) p v:=RV.mono l.fz l.ad h
theorem RVs.le {W W':Wd} {p:List PV} {v:List Value} (h:RVs W.fz (ads W.led) p v) (l:W.le W'):RVs W'.fz (ads W'.led) p v:=RVs.mono l.fz l.ad h
structure Rep (C:Ctx) (sc:Sc) (loc:Loc) (μ:Mem) (W:Wd) (h:Heap):Prop where
 ns:∃ m,h.Ns C.env.locals m∧∀ i p,lk loc i = some p→∃ v,m (C.nm i) = some v∧RV W.fz (ads W.led) p v
 keep:C.h₀.StaysIn h
 fzs:∀ p∈W.fz,h.get? p.1 = some p.2
 all:∀ p∈W.oth,h.get? p.1 = some p.2
 nd:(C.env.locals :: W.own).Nodup
 old:∀ a∈C.env.locals :: W.own,C.h₀.get? a = none
 fzo:∀ p∈W.fz,p.1 ∉ C.env.locals :: W.own
 mem:RMs C.LX W.fz (ads W.led) μ W.led
 tabs:C.TQ W.fz W.tab
 kf:∀ p∈C.kfz,p∈W.fz
 cells:∀ i id,lk sc.cells i = some id→∃ a,C.env.cells.lookup (C.nm i) = some a∧(ads W.led)[id]? = some a
structure zc (B:Bas):Prop where
 ne:∀ {c cs n ps l},B.LX c cs n ps l→l ≠ []
 fnT:∃ o fd,B.hb.get? B.fT = some o∧o.data = .func fd
 fnP:∃ o fd,B.hb.get? B.fP = some o∧o.data = .func fd
 look:∀ {A:Around} {s:Shared} {E:Value→Shared→Prop} {Q:Value × List Value→Shared→Prop} {pl:Sem Bool} {c cs n ps l f} {x:Str},((x == ("get_token":Str)) = true∧f = B.fT)∨((x == ("push_token":Str)) = true∧f = B.fP)→A.handled = none →
  B.hb.StaysIn s.heap→B.LX c cs n ps l→(∀ p∈c,s.heap.get? p.1 = some p.2∧p.1 ∉ l.map (·.1))→(∀ p∈l,s.heap.get? p.1 = some p.2)→Q (.ref f,[.ref (adr l)]) s→wpAny (model B.prog B.w) A (getMethod (.ref (adr l)) x pl) Q E s
 line:∀ {A:Around} {s:Shared} {E:Value→Shared→Prop} {Q:Value→Shared→Prop} {c cs n ps l} {x:Str},(x == ("lineno":Str)) = true→A.handled = none→B.hb.StaysIn s.heap→B.LX c cs n ps l→(∀ p∈c,s.heap.get? p.1 = some p.2∧p.1 ∉ l.map (·.1))→(∀ p∈l,s.heap.get? p.1 = some p.2)→(∀ t tk,Q (.int n t) { s with toks:=tk }) →
  wpAny (model B.prog B.w) A (getAttr (.ref (adr l)) x true) Q E s
 tok:∀ {A:Around} {s:Shared} {E:Value→Shared→Prop} {Q:Value→Shared→Prop} {c cs n ps l},A.handled = none→A.depth + 30 < recursionLimit→A.units + 300 < cLine→B.hb.StaysIn s.heap→B.LX c cs n ps l→(∀ p∈c,s.heap.get? p.1 = some p.2∧p.1 ∉ l.map (·.1))→(∀ p∈l,s.heap.get? p.1 = some p.2)→(l.map (·.1)).Nodup →
  (∀ h' tk l' t,(match ps with | []=>B.LX c (aA cs 0).2.1 (n + (aA cs 0).2.2) [] l' | _ :: r=>B.LX c cs n r l')→l'.map (·.1) = l.map (·.1)→(∀ p∈l',h'.get? p.1 = some p.2)→(∀ b o,b ∉ l.map (·.1)→s.heap.get? b = some o→h'.get? b = some o) →
   Q (.str (match ps with | []=>⟨(aA cs 0).1.reverse.toArray⟩ | p :: _=>p) t) { s with heap:=h',toks:=tk })→wpAny (model B.prog B.w) A (call (.ref B.fT) [.ref (adr l)]) Q E s
 push:∀ {A:Around} {s:Shared} {E:Value→Shared→Prop} {Q:Value→Shared→Prop} {c cs n ps l} {x:Str} {t:Tok},A.handled = none→A.depth + 30 < recursionLimit→A.units + 300 < cLine→B.hb.StaysIn s.heap→B.LX c cs n ps l→(∀ p∈c,s.heap.get? p.1 = some p.2∧p.1 ∉ l.map (·.1))→ps.length ≤ 1000→(∀ p∈l,s.heap.get? p.1 = some p.2)→(l.map (·.1)).Nodup →
  (∀ h' tk l',B.LX c cs n (ps ++ [x]) l'→l'.map (·.1) = l.map (·.1)→(∀ p∈l',h'.get? p.1 = some p.2)→(∀ b o,b ∉ l.map (·.1)→s.heap.get? b = some o→h'.get? b = some o)→Q .none { s with heap:=h',toks:=tk }) →
   wpAny (model B.prog B.w) A (call (.ref B.fP) [.ref (adr l),.str x t]) Q E s
structure bZ (B:Bas) (a:Addr) (fd:FD):Prop where
 ob:∃ o fv,B.hb.get? a = some o∧o.data = .func fv∧fv.scope = fd.sc.aO B.nm∧fv.body = .stmts (CS.cq B.nm fd.body)∧B.hb.CodeRec fv.code fv.qualname∧fv.globals = mainGlobals∧fv.closure = []∧fv.builtins = builtinsNs ∧
  ∀ vs:List Value,vs.length = fd.params.length→bindArgs fv ⟨vs,[]⟩ = pure ((fd.params.map fun x=>B.nm x.1).zip vs)
 kinds:(fd.params.all fun x=>lk fd.sc.names x.1 == some .local || lk fd.sc.names x.1 == some .cell) = true
 pnd:(fd.params.map (·.1)).Nodup
 nnd:(fd.sc.names.map (·.1)).Nodup
structure dC (B:Bas) (s:Shared) (h':Heap) (fz T new T':Led):Prop where
 tq:B.TQ (new ++ fz) T'
 ad:T'.map (·.1) = T.map (·.1)
 tab:∀ p∈T',h'.get? p.1 = some p.2
 new:∀ p∈new,h'.get? p.1 = some p.2∧s.heap.objs.size ≤ p.1
 keep:∀ b o,b ∉ T.map (·.1)→s.heap.get? b = some o→h'.get? b = some o
structure eC (B:Bas) (A:Around) (s:Shared) (fz T:Led):Prop where
 hnd:A.handled = none
 dep:A.depth + 35 < recursionLimit
 uni:A.units + 390 < cLine
 hb:B.hb.StaysIn s.heap
 tq:B.TQ fz T
 fzs:∀ p∈fz,s.heap.get? p.1 = some p.2
 tab:∀ p∈T,s.heap.get? p.1 = some p.2
 nd:(T.map (·.1)).Nodup
 off:∀ p∈fz,p.1 ∉ T.map (·.1)
structure ve (B:Bas):Prop where
 fn:∀ a,(lk B.cfg.prims a).isSome = true→∃ o fd,B.hb.get? a = some o∧o.data = .func fd
 i2d:∀ a,lk B.cfg.prims a = some .int2digits→∀ {A:Around} {s:Shared} {E:Value→Shared→Prop} {Q:Value→Shared→Prop} {x n:Int} {t u:Tok} {fz T:Led},eC B A s fz T→0 ≤ x→0 < n→n ≤ 64→x.natAbs < 2 ^ 400 →
  (∀ h' tk new T' D vs m,dC B s h' fz T new T'→(D,({ cls:=.type "list",data:=.seq vs.toArray m }:Obj))∈new→RVs [] [] (fK n.toNat ((Builtin.Int.intBits x + n.toNat - 1) / n.toNat) x.toNat) vs→Q (.ref D) { s with heap:=h',toks:=tk }) →
   wpAny (model B.prog B.w) A (call (.ref a) [.int x t,.int n u]) Q E s
 d2i:∀ a,lk B.cfg.prims a = some .digits2int→∀ {A:Around} {s:Shared} {E:Value→Shared→Prop} {Q:Value→Shared→Prop} {n r:Int} {u:Tok} {fz T:Led} {D:Addr} {vs:List Value} {m:Nat} {l:List PV},eC B A s fz T→0 < n→n ≤ 64→l.length ≤ 400 →
  s.heap.get? D = some { cls:=.type "list",data:=.seq vs.toArray m }→D ∉ T.map (·.1)→RVs [] [] l vs→bw n.toNat l = some r →
  (∀ h' tk new T' t,dC B s h' fz T new T'→Q (.int r t) { s with heap:=h',toks:=tk })→wpAny (model B.prog B.w) A (call (.ref a) [.ref D,.int n u]) Q E s
 lexer:∀ a,lk B.cfg.prims a = some .lexer→∀ {A:Around} {s:Shared} {E:Value→Shared→Prop} {Q:Value→Shared→Prop} {x:Str} {t:Tok} {fz T:Led},eC B A s fz T→x.length ≤ 1000 →
  (∀ h' tk new T' l c,dC B s h' fz T new T'→(∀ p∈c,p∈new ++ fz)→B.LX c x.cps.toList 1 [] l→(∀ p∈l,h'.get? p.1 = some p.2∧s.heap.objs.size ≤ p.1)→((l ++ new).map (·.1)).Nodup→Q (.ref (adr l)) { s with heap:=h',toks:=tk }) →
   wpAny (model B.prog B.w) A (call (.ref a) [.str x t]) Q E s
structure Base (B:Bas):Prop where
 fns:∀ a fd,lk B.cfg.fns a = some fd→bZ B a fd
 prim:ve B
 inj:∀ i j,B.nm i = B.nm j→i = j
 dbg:∀ i,(B.nm i == ("__debug__":Str)) = false
 cld:∀ i,(B.nm i == ("__classdict__":Str)) = false
 g:B.hb.Ns mainGlobals B.mg
 b:B.hb.Ns builtinsNs B.mb
 lim:B.hb.NoLimit
 mods:∃ o,B.hb.get? sysModules = some o
 glob:∀ i p,lk B.cfg.glob i = some p→∃ v,(B.mg (B.nm i) = some v∨(B.mg (B.nm i) = none∧B.mb (B.nm i) = some v))∧∀ ad,RV B.kfz ad p v
 tq:∀ fz fz' T,(∀ p∈fz,p∈fz')→B.TQ fz T→B.TQ fz' T
 lexc:zc B
theorem Base.fnD {B:Bas} (b:Base B):∀ a,(lk B.cfg.prims a).isSome = true∨(lk B.cfg.fns a).isSome = true→∃ o fd,B.hb.get? a = some o∧o.data = .func fd:=fun a h=>by
 rcases h with h | h
 ·exact b.prim.fn a h
 ·obtain ⟨fd,e⟩:=Option.isSome_iff_exists.mp h
  refine x23 ((b.fns a fd e).ob) fun o fv h1 h2 _=>?_
  exact ⟨o,fv,h1,h2⟩
structure Good (C:Ctx) (sc:Sc) (k:Nat):Prop where
 base:Base C.toBas
 hb:C.hb.StaysIn C.h₀
 kind:C.env.scope.kind = .function
 glb:C.env.globals = mainGlobals
 blt:C.env.builtins = builtinsNs
 names:∀ i x,lk sc.names i = some x→C.env.kindOf (C.nm i) = some x∨(x = .free∧C.env.kindOf (C.nm i) = some .cell)
 hnd:C.A.handled = none
 dep:C.A.depth + k + 40 < recursionLimit
 uni:C.A.units + 3 * k + 400 < cLine
theorem Good.inj {C:Ctx} {sc:Sc} {k:Nat} (g:Good C sc k):∀ i j,C.nm i = C.nm j→i = j:=g.base.inj
theorem Good.dbg {C:Ctx} {sc:Sc} {k:Nat} (g:Good C sc k):∀ i,(C.nm i == ("__debug__":Str)) = false:=g.base.dbg
theorem Good.cld {C:Ctx} {sc:Sc} {k:Nat} (g:Good C sc k):∀ i,(C.nm i == ("__classdict__":Str)) = false:=g.base.cld
theorem Good.g {C:Ctx} {sc:Sc} {k:Nat} (g:Good C sc k):C.h₀.Ns mainGlobals C.mg:=g.base.g.keeps g.hb
theorem Good.b {C:Ctx} {sc:Sc} {k:Nat} (g:Good C sc k):C.h₀.Ns builtinsNs C.mb:=g.base.b.keeps g.hb
theorem Good.lim {C:Ctx} {sc:Sc} {k:Nat} (g:Good C sc k):C.h₀.NoLimit:=g.base.lim.keeps g.hb
theorem Good.glob {C:Ctx} {sc:Sc} {k:Nat} (g:Good C sc k):∀ i p,lk C.cfg.glob i = some p→∃ v,(C.mg (C.nm i) = some v∨(C.mg (C.nm i) = none∧C.mb (C.nm i) = some v))∧∀ ad,RV C.kfz ad p v:=g.base.glob
theorem Good.tq {C:Ctx} {sc:Sc} {k:Nat} (g:Good C sc k):∀ fz fz' T,(∀ p∈fz,p∈fz')→C.TQ fz T→C.TQ fz' T:=g.base.tq
noncomputable def Giv {α:Type} (C:Ctx) (sc:Sc) (loc:Loc) (W:Wd) (s:Shared) (t:Sem α) (R:α→Wd→Prop) (μ':Mem):Prop :=
 ∀ Q:α→Shared→Prop,(∀ a h' tk W',Rep C sc loc μ' W' h'→W.le W'→R a W'→Q a { s with heap:=h',toks:=tk })→wpAny (model C.prog C.w) C.A t Q NoE s
noncomputable abbrev IsV (p:PV) (v:Value) (W:Wd):Prop:=RV W.fz (ads W.led) p v
noncomputable abbrev aL (p:List PV) (v:List Value) (W:Wd):Prop:=RVs W.fz (ads W.led) p v
section
variable {C:Ctx} {sc:Sc} {loc:Loc} {μ μ' μ'':Mem} {W W':Wd} {s:Shared} {h h':Heap} {a:Addr} {o:Obj}
theorem aJ {h:Heap} {a:Addr} {o:Obj} (e:h.get? a = some o):a < h.objs.size:=Heap.lt_size e
theorem bf (h:Heap):h.get? h.objs.size = none:=by
 cases e:h.get? h.objs.size with
 | none=>rfl
 | some o=>exact absurd (aJ e) (Nat.lt_irrefl _)
theorem Rep.bg (r:Rep C sc loc μ W h) {a:Addr} (ha:a∈C.env.locals :: W.own):∃ o,h.get? a = some o:=by
 rcases List.mem_cons.mp ha with rfl | ha
 ·obtain ⟨m,⟨o,_,_,e,_⟩,_⟩:=r.ns;exact ⟨o,e⟩
 ·obtain ⟨p,hp,rfl⟩:=List.mem_map.mp ha;exact ⟨_,r.all p hp⟩
theorem Rep.grow (r:Rep C sc loc μ W h) (hk:∀ b o,h.get? b = some o→h'.get? b = some o) (new:Led) (hn:∀ p∈new,h'.get? p.1 = some p.2∧p.1 ∉ C.env.locals :: W.own)
  (tq:∀ fz fz' T,(∀ p∈fz,p∈fz')→C.TQ fz T→C.TQ fz' T) :
  Rep C sc loc μ { W with fz:=new ++ W.fz } h':=by
 have sub:∀ p∈W.fz,p∈new ++ W.fz:=fun p hp=>List.mem_append_right _ hp
 refine x12 r.ns fun m hm hl=>?_
 refine ⟨⟨m,hm.keeps hk,fun i p e=>?_⟩,fun b o e=>hk b o (r.keep b o e),fun p hp=>?_,fun p hp=>hk _ _ (r.all p hp),r.nd,r.old,fun p hp=>?_, ?_,tq _ _ _ sub r.tabs,fun p hp=>sub p (r.kf p hp),r.cells⟩
 ·refine x12 (hl i p e) fun v e1 e2=>?_
  exact ⟨v,e1,RV.mono sub (Pre.refl _) e2⟩
 ·rcases List.mem_append.mp hp with hp | hp
  ·exact (hn p hp).1
  ·exact hk _ _ (r.fzs p hp)
 ·rcases List.mem_append.mp hp with hp | hp
  ·exact (hn p hp).2
  ·exact r.fzo p hp
 ·exact RMs.mono sub (Pre.refl _) r.mem
theorem Rep.same (r:Rep C sc loc μ W h) (hk:∀ b o,h.get? b = some o→h'.get? b = some o):Rep C sc loc μ W h':=by
 refine x12 r.ns fun m hm hl=>?_
 exact ⟨⟨m,hm.keeps hk,hl⟩,fun b o e=>hk b o (r.keep b o e),fun p hp=>hk _ _ (r.fzs p hp),fun p hp=>hk _ _ (r.all p hp),r.nd,r.old,r.fzo,r.mem,r.tabs,r.kf,r.cells⟩
theorem Rep.gU (r:Rep C sc loc μ W h) {a:Addr} (ha:h.get? a = none):a ∉ C.env.locals :: W.own:=fun m=>by
 obtain ⟨o,e⟩:=r.bg m;rw [ha] at e;exact no1 e
theorem Rep.fro (r:Rep C sc loc μ W h) {a:Addr} {o:Obj} (hk:∀ b o,h.get? b = some o→h'.get? b = some o) (ha:h.get? a = none) (ho:h'.get? a = some o)
  (tq:∀ fz fz' T,(∀ p∈fz,p∈fz')→C.TQ fz T→C.TQ fz' T):Rep C sc loc μ { W with fz:=(a,o) :: W.fz } h' :=
 r.grow hk [(a,o)] (fun p hp=>by
  rcases List.mem_cons.mp hp with rfl | hp
  ·exact ⟨ho,r.gU ha⟩
  ·cases hp) tq
theorem Wd.le.fro (W:Wd) (p:Addr × Obj):W.le { W with fz:=p :: W.fz }:=⟨fun _ h=>.tail _ h,rfl,Pre.refl _⟩
theorem b0 {i j:Nat} (h:¬ i = j):Nat.beq i j = false:=by
 cases e:Nat.beq i j with
 | false=>rfl
 | true=>exact absurd (Nat.eq_of_beq_eq_true e) h
theorem oR (i j:Nat) (p:PV):∀ l:Loc,lk (dQ l i p) j = if j = i then some p else lk l j
 | []=>by
  rw [ud,a7,xU]
  by_cases h:j = i
  ·subst h;simp
  ·rw [if_neg h,b0 h]
 | (k,u) :: r=>by
  rw [sA,a7]
  cases hk:Nat.beq i k with
  | true =>
   have:i = k:=Nat.eq_of_beq_eq_true hk
   subst this
   dsimp only
   rw [a7]
   by_cases h:j = i
   ·subst h;simp
   ·rw [if_neg h,b0 h]
  | false =>
   dsimp only
   rw [a7,oR i j p r]
   cases hj:Nat.beq j k with
   | true =>
    have:j = k:=Nat.eq_of_beq_eq_true hj
    subst this
    have:¬ j = i:=fun e=>by rw [e] at hk;simp at hk
    (refine rwG (if_neg this) ?_;refine rwG (if_neg this) rfl)
   | false=>rfl
theorem Rep.put (r:Rep C sc loc μ W h) {i:Nat} {p:PV} {v:Value} {m:Str→Option Value} (inj:∀ i j,C.nm i = C.nm j→i = j) (hv:RV W.fz (ads W.led) p v)
  (hm:h.Ns C.env.locals m) (hn:h'.Ns C.env.locals (fun y=>if y = C.nm i then some v else m y)) (hs:Heap.SameBut C.env.locals h h'):Rep C sc (dQ loc i p) μ W h':=by
 refine x12 r.ns fun m₀ hm₀ hl=>?_
 have e:m₀ = m:=by
  refine x34 hm₀ fun o es ep a1 a2 a3 a4=>?_
  refine x34 hm fun o' es' ep' b1 b2 b3 b4=>?_
  rw [a1] at b1;(have q1:=so1 b1;subst q1);rw [a2] at b2;cases b2
  funext y;exact (a4 y).symm.trans (b4 y)
 subst e
 have out:∀ {a:Addr},a∈W.own→a ≠ C.env.locals:=fun ha e=>(List.nodup_cons.mp r.nd).1 (e ▸ ha)
 refine ⟨⟨_,hn,fun j q e=>?_⟩,fun b o e=>(hs.2 b fun q=>?_).trans (r.keep b o e),fun p hp=>(hs.2 _ fun q=>r.fzo p hp (q ▸ .head _)).trans (r.fzs p hp),fun p hp=>(hs.2 _ (out (List.mem_map_of_mem hp))).trans (r.all p hp),r.nd,r.old,r.fzo,r.mem,r.tabs,r.kf,r.cells⟩
 ·rw [oR] at e
  by_cases hj:j = i
  ·subst hj;rw [if_pos rfl] at e;refine so1m e ?_;exact ⟨v,by simp,hv⟩
  ·rw [if_neg hj] at e
   refine x12 (hl j q e) fun v' e1 e2=>?_
   exact ⟨v',by refine rwG (if_neg fun e=>hj (inj _ _ e)) ?_;exact e1,e2⟩
 ·rw [q,r.old _ (.head _)] at e;exact no1 e
theorem fe {α:Type} {l:List α} {i:Nat} {x:α} (h:l[i]? = some x) (y:α):l = l.take i ++ x :: l.drop (i + 1)∧l.set i y = l.take i ++ y :: l.drop (i + 1):=by
 obtain ⟨hi,e⟩:=List.getElem?_eq_some_iff.mp h
 subst e
 constructor
 ·rw [List.getElem_cons_drop,List.take_append_drop]
 ·(refine rwG List.set_eq_take_append_cons_drop ?_;refine rwG (if_pos hi) rfl)
theorem pN {l:List Led} {i:Nat} {x y:Led} (h:l[i]? = some x) (e:y.map (·.1) = x.map (·.1)):ads (l.set i y) = ads l:=by
 have hy:adr y = adr x:=by
  induction x using List.casesOn with
  | nil=>induction y using List.casesOn with
   | nil=>rfl
   | cons _ _=>injection e
  | cons p r=>induction y using List.casesOn with
   | nil=>injection e
   | cons q t=>simp at e;refine (?_:q.1 = p.1);exact e.1
 obtain ⟨h1,h2⟩:=fe h y
 refine rwG h2 ?_
 conv=>rhs;rw [h1]
 simp [ads,hy]
theorem uh {l:List Led} {i:Nat} {x y:Led} (h:l[i]? = some x) (e:y.map (·.1) = x.map (·.1)):(l.set i y).flatten.map (·.1) = l.flatten.map (·.1):=by
 obtain ⟨h1,h2⟩:=fe h y
 refine rwG h2 ?_
 conv=>rhs;rw [h1]
 simp only [List.flatten_append,List.flatten_cons,List.map_append,e]
theorem Rep.upd (r:Rep C sc loc μ W h) {i:Nat} {l l':Led} {x:MO} (hi:W.led[i]? = some l) (hl:l'.map (·.1) = l.map (·.1)) (hh:∀ p∈l',h'.get? p.1 = some p.2)
  (hx:∀ b o,b ∉ l.map (·.1)→h.get? b = some o→h'.get? b = some o) (hm:RM C.LX W.fz (ads W.led) x l'):Rep C sc loc (μ.set i x) { W with led:=W.led.set i l' } h':=by
 obtain ⟨e1,e2⟩:=fe hi l'
 have hown:({ W with led:=W.led.set i l' }:Wd).own = W.own:=by
  refine (?_:(W.tab ++ (W.hid ++ (W.led.set i l').flatten)).map _ = (W.tab ++ (W.hid ++ W.led.flatten)).map _)
  simp only [List.map_append,uh hi hl]
 have inO:∀ a∈l.map (·.1),a∈W.own:=fun a ha=>by
  refine qd (List.mem_map.mp ha) fun p hp=>?_
  refine List.mem_map_of_mem (List.mem_append_right _ (List.mem_append_right _ ?_))
  (refine rwG e1 ?_;refine rwG List.flatten_append ?_;refine rwG List.flatten_cons ?_)
  exact List.mem_append_right _ (List.mem_append_left _ hp)
 have nd:=(List.nodup_cons.mp r.nd).2
 have Lno:C.env.locals ∉ l.map (·.1):=fun ha=>(List.nodup_cons.mp r.nd).1 (inO _ ha)
 have nd':((W.tab ++ (W.hid ++ (W.led.take i).flatten)).map (·.1) ++ (l.map (·.1) ++ (W.led.drop (i + 1)).flatten.map (·.1))).Nodup:=by
  have:=nd
  unfold Wd.own Wd.oth at this
  rw [e1] at this
  simpa only [List.flatten_append,List.flatten_cons,List.map_append,List.append_assoc] using this
 have hleft:∀ p∈W.tab ++ (W.hid ++ (W.led.take i).flatten),p.1 ∉ l.map (·.1):=fun p hp hq =>
  (List.nodup_append.mp nd').2.2 _ (List.mem_map_of_mem hp) _ (List.mem_append_left _ hq) rfl
 have hright:∀ p∈(W.led.drop (i + 1)).flatten,p.1 ∉ l.map (·.1):=fun p hp hq =>
  (List.nodup_append.mp (List.nodup_append.mp nd').2.1).2.2 _ hq _ (List.mem_map_of_mem hp) rfl
 have hall:∀ p∈W.oth,p.1 ∉ l.map (·.1)→h'.get? p.1 = some p.2:=fun p hp hn=>hx _ _ hn (r.all p hp)
 obtain ⟨m,⟨o,es,ep,a1,a2⟩,hlc⟩:=r.ns
 have ea:ads (W.led.set i l') = ads W.led:=pN hi hl
 refine ⟨⟨m,⟨o,es,ep,hx _ _ Lno a1,a2⟩,fun j q e=>by
   refine x12 (hlc j q e) fun v e3 e4=>?_
   exact ⟨v,e3,by refine (?_:RV W.fz (ads (W.led.set i l')) q v);refine rwG ea ?_;exact e4⟩⟩,fun b ob e=>hx b ob (fun q=>?_) (r.keep b ob e),fun p hp=>hx _ _ (fun q=>r.fzo p hp (.tail _ (inO _ q))) (r.fzs p hp),
  fun p hp=>?_,by refine rwG hown ?_;exact r.nd,by refine rwG hown ?_;exact r.old,by refine rwG hown ?_;exact r.fzo, ?_,r.tabs,r.kf,fun j id e=>by
   refine x12 (r.cells j id e) fun b e3 e4=>?_
   exact ⟨b,e3,by refine (?_:(ads (W.led.set i l'))[id]? = some b);refine rwG ea ?_;exact e4⟩⟩
 ·rw [r.old _ (.tail _ (inO _ q))] at e;exact no1 e
 ·have hp':p∈W.tab ++ (W.hid ++ ((W.led.take i).flatten ++ (l' ++ (W.led.drop (i + 1)).flatten))):=by
   have:p∈W.tab ++ (W.hid ++ (W.led.set i l').flatten):=hp
   rw [e2,List.flatten_append,List.flatten_cons] at this
   exact this
  have old:∀ q,q∈W.tab ++ (W.hid ++ ((W.led.take i).flatten ++ (W.led.drop (i + 1)).flatten))→q∈W.oth:=fun q hq=>by
   unfold Wd.oth
   (refine rwG e1 ?_;refine rwG List.flatten_append ?_;refine rwG List.flatten_cons ?_)
   simp only [List.mem_append] at hq ⊢
   rcases hq with h | h | h | h
   ·exact .inl h
   ·exact .inr (.inl h)
   ·exact .inr (.inr (.inl h))
   ·exact .inr (.inr (.inr (.inr h)))
  simp only [List.mem_append] at hp'
  rcases hp' with h1 | h1 | h1 | h1 | h1
  ·exact hall p (old p (by simp only [List.mem_append];exact .inl h1)) (hleft p (by simp only [List.mem_append];exact .inl h1))
  ·exact hall p (old p (by simp only [List.mem_append];exact .inr (.inl h1))) (hleft p (by simp only [List.mem_append];exact .inr (.inl h1)))
  ·exact hall p (old p (by simp only [List.mem_append];exact .inr (.inr (.inl h1)))) (hleft p (by simp only [List.mem_append];exact .inr (.inr h1)))
  ·exact hh p h1
  ·exact hall p (old p (by simp only [List.mem_append];exact .inr (.inr (.inr h1)))) (hright p h1)
 ·refine (?_:RMs C.LX W.fz (ads (W.led.set i l')) (μ.set i x) (W.led.set i l'))
  refine rwG ea ?_
  exact r.mem.set i hm
theorem Wd.le.upd {W:Wd} {i:Nat} {l l':Led} (hi:W.led[i]? = some l) (hl:l'.map (·.1) = l.map (·.1)):W.le { W with led:=W.led.set i l' } :=
 ⟨fun _ h=>h,rfl,by refine (?_:Pre (ads W.led) (ads (W.led.set i l')));refine rwG (pN hi hl) ?_;exact Pre.refl _⟩
theorem Rep.mut (r:Rep C sc loc μ W h) {a:Addr} {o:Obj} {x:MO} (hk:∀ b o,h.get? b = some o→h'.get? b = some o) (ha:h.get? a = none) (ho:h'.get? a = some o)
  (hm:RM C.LX W.fz (ads W.led ++ [a]) x [(a,o)]):Rep C sc loc (μ ++ [x]) { W with led:=W.led ++ [[(a,o)]] } h':=by
 have no:=r.gU ha
 have ea:ads (W.led ++ [[(a,o)]]) = ads W.led ++ [a]:=by simp [ads,adr]
 have hown:({ W with led:=W.led ++ [[(a,o)]] }:Wd).own = W.own ++ [a]:=by
  refine (?_:(W.tab ++ (W.hid ++ (W.led ++ [[(a,o)]]).flatten)).map _ = (W.tab ++ (W.hid ++ W.led.flatten)).map _ ++ [a])
  simp
 have pre:Pre (ads W.led) (ads W.led ++ [a]):=Pre.app _ _
 refine x12 r.ns fun m hmn hl=>?_
 have hn₀:C.h₀.get? a = none:=by
  cases e:C.h₀.get? a with
  | none=>rfl
  | some ob=>rw [r.keep _ _ e] at ha;exact no2 ha
 refine ⟨⟨m,hmn.keeps hk,fun i p e=>?_⟩,fun b o e=>hk b o (r.keep b o e),fun p hp=>hk _ _ (r.fzs p hp),fun p hp=>?_, ?_, ?_, ?_, ?_,r.tabs,r.kf,fun i id e=>?_⟩
 ·refine x12 (hl i p e) fun v e1 e2=>?_
  exact ⟨v,e1,by refine (?_:RV W.fz (ads (W.led ++ [[(a,o)]])) p v);refine rwG ea ?_;exact RV.mono (fun _ h=>h) pre e2⟩
 ·have:p∈W.oth∨p = (a,o):=by
   have:p∈W.tab ++ (W.hid ++ (W.led ++ [[(a,o)]]).flatten):=hp
   simp only [List.flatten_append,List.flatten_cons,List.flatten_nil,List.append_nil,List.mem_append,List.mem_singleton] at this
   unfold Wd.oth
   simp only [List.mem_append]
   rcases this with h | h | h | h
   ·exact .inl (.inl h)
   ·exact .inl (.inr (.inl h))
   ·exact .inl (.inr (.inr h))
   ·exact .inr h
  rcases this with h | rfl
  ·exact hk _ _ (r.all p h)
  ·exact ho
 ·(refine rwG hown ?_;refine rwH List.cons_append ?_)
  refine List.nodup_append.mpr ⟨r.nd,by simp,fun x hx y hy e=>?_⟩
  rw [List.mem_singleton] at hy
  subst hy;subst e
  exact no hx
 ·(refine rwG hown ?_;refine rwH List.cons_append ?_)
  intro b hb
  rcases List.mem_append.mp hb with hb | hb
  ·exact r.old b hb
  ·rw [List.mem_singleton] at hb;subst hb;exact hn₀
 ·(refine rwG hown ?_;refine rwH List.cons_append ?_)
  intro p hp hb
  rcases List.mem_append.mp hb with hb | hb
  ·exact r.fzo p hp hb
  ·rw [List.mem_singleton] at hb
   have:=r.fzs p hp
   rw [hb,ha] at this;exact no1 this
 ·refine (?_:RMs C.LX W.fz (ads (W.led ++ [[(a,o)]])) _ _)
  refine rwG ea ?_
  exact (r.mem.mono (fun _ h=>h) pre).app ⟨_,[],rfl,hm,rfl⟩
 ·refine x12 (r.cells i id e) fun b e1 e2=>?_
  exact ⟨b,e1,by refine (?_:(ads (W.led ++ [[(a,o)]]))[id]? = some b);refine rwG ea ?_;exact pre _ _ e2⟩
theorem Wd.le.mut (W:Wd) (l:Led):W.le { W with led:=W.led ++ [l] }:=⟨fun _ h=>h,rfl,by refine (?_:Pre (ads W.led) (ads (W.led ++ [l])));simp only [ads,List.map_append];exact Pre.app _ _⟩
theorem Rep.pg (r:Rep C sc loc μ W h) {a:Addr} {o:Obj} (hk:∀ b o,h.get? b = some o→h'.get? b = some o) (ha:h.get? a = none) (ho:h'.get? a = some o) :
  Rep C sc loc μ { W with hid:=(a,o) :: W.hid } h':=by
 have no:=r.gU ha
 have hn₀:C.h₀.get? a = none:=by
  cases e:C.h₀.get? a with
  | none=>rfl
  | some ob=>rw [r.keep _ _ e] at ha;exact no2 ha
 have mo:∀ x,x∈({ W with hid:=(a,o) :: W.hid }:Wd).own ↔ x = a∨x∈W.own:=fun x=>by
  refine (?_:x∈(W.tab ++ (((a,o) :: W.hid) ++ W.led.flatten)).map _ ↔ x = a∨x∈(W.tab ++ (W.hid ++ W.led.flatten)).map _)
  simp only [List.map_append,List.map_cons,List.mem_append,List.mem_cons,List.cons_append]
  constructor
  ·rintro (h | h | h)
   ·exact .inr (.inl h)
   ·exact .inl h
   ·exact .inr (.inr h)
  ·rintro (h | h | h)
   ·exact .inr (.inl h)
   ·exact .inl h
   ·exact .inr (.inr h)
 refine x12 r.ns fun m hmn hl=>?_
 refine ⟨⟨m,hmn.keeps hk,hl⟩,fun b o e=>hk b o (r.keep b o e),fun p hp=>hk _ _ (r.fzs p hp),fun p hp=>?_, ?_, ?_, ?_,r.mem,r.tabs,r.kf,r.cells⟩
 ·have:p∈W.tab ++ (((a,o) :: W.hid) ++ W.led.flatten):=hp
  simp only [List.mem_append,List.mem_cons] at this
  have old:p∈W.oth→h'.get? p.1 = some p.2:=fun h=>hk _ _ (r.all p h)
  unfold Wd.oth at old
  simp only [List.mem_append] at old
  rcases this with h | (rfl | h) | h
  ·exact old (.inl h)
  ·exact ho
  ·exact old (.inr (.inl h))
  ·exact old (.inr (.inr h))
 ·have n:=r.nd
  have na:a ≠ C.env.locals:=fun e=>no (e ▸ .head _)
  have nb:a ∉ W.own:=fun e=>no (.tail _ e)
  rw [List.nodup_cons] at n ⊢
  refine ⟨fun q=>?_, ?_⟩
  ·rcases (mo _).mp q with q | q
   ·exact na q.symm
   ·exact n.1 q
  ·have:((W.tab.map (·.1)) ++ (a :: ((W.hid ++ W.led.flatten).map (·.1)))).Nodup:=by
    have n2:((W.tab.map (·.1)) ++ ((W.hid ++ W.led.flatten).map (·.1))).Nodup:=by
     have:=n.2;unfold Wd.own Wd.oth at this;rwa [List.map_append] at this
    have nb':a ∉ (W.tab.map (·.1)) ++ ((W.hid ++ W.led.flatten).map (·.1)):=by
     have:=nb;unfold Wd.own Wd.oth at this;rwa [List.map_append] at this
    exact (List.perm_middle.nodup_iff).mpr (List.nodup_cons.mpr ⟨nb',n2⟩)
   refine (?_:((W.tab ++ (((a,o) :: W.hid) ++ W.led.flatten)).map (·.1)).Nodup)
   simpa using this
 ·intro b hb
  rcases List.mem_cons.mp hb with rfl | hb
  ·exact r.old _ (.head _)
  ·rcases (mo _).mp hb with rfl | hb
   ·exact hn₀
   ·exact r.old _ (.tail _ hb)
 ·intro p hp hb
  rcases List.mem_cons.mp hb with hb | hb
  ·exact r.fzo p hp (hb ▸ .head _)
  ·rcases (mo _).mp hb with hb | hb
   ·have:=r.fzs p hp
    rw [hb,ha] at this;exact no1 this
   ·exact r.fzo p hp (.tail _ hb)
theorem Rep.fO (r:Rep C sc loc μ { W with hid:=(a,o) :: W.hid } h):Rep C sc loc μ W h:=by
 have sub:∀ p∈W.oth,p∈({ W with hid:=(a,o) :: W.hid }:Wd).oth:=fun p hp=>by
  have:p∈W.tab ++ (W.hid ++ W.led.flatten):=hp
  refine (?_:p∈W.tab ++ (((a,o) :: W.hid) ++ W.led.flatten))
  simp only [List.mem_append,List.mem_cons] at this ⊢
  rcases this with h | h | h
  ·exact .inl h
  ·exact .inr (.inl (.inr h))
  ·exact .inr (.inr h)
 have subo:∀ x∈C.env.locals :: W.own,x∈C.env.locals :: ({ W with hid:=(a,o) :: W.hid }:Wd).own:=fun x hx=>by
  rcases List.mem_cons.mp hx with rfl | hx
  ·exact .head _
  ·refine qd (List.mem_map.mp hx) fun p hp=>?_
   exact .tail _ (List.mem_map_of_mem (sub p hp))
 refine ⟨r.ns,r.keep,r.fzs,fun p hp=>r.all p (sub p hp), ?_,fun x hx=>r.old x (subo x hx),fun p hp hq=>r.fzo p hp (subo _ hq),r.mem,r.tabs,r.kf,r.cells⟩
 refine r.nd.sublist (List.Sublist.cons_cons _ (List.Sublist.map _ ?_))
 refine (?_:(W.tab ++ (W.hid ++ W.led.flatten)).Sublist (W.tab ++ (((a,o) :: W.hid) ++ W.led.flatten)))
 exact List.Sublist.append (List.Sublist.refl _) (List.Sublist.cons _ (List.Sublist.refl _))
theorem Rep.nB (r:Rep C sc loc μ { W with hid:=(a,o) :: W.hid } h) {o':Obj} (ho:h'.get? a = some o') (hx:∀ b ob,b ≠ a→h.get? b = some ob→h'.get? b = some ob) :
  Rep C sc loc μ { W with hid:=(a,o') :: W.hid } h':=by
 have inO:a∈({ W with hid:=(a,o) :: W.hid }:Wd).own:=by
  refine (?_:a∈(W.tab ++ (((a,o) :: W.hid) ++ W.led.flatten)).map (·.1))
  exact List.mem_map.mpr ⟨(a,o),List.mem_append_right _ (List.mem_append_left _ (.head _)),rfl⟩
 have hown:({ W with hid:=(a,o') :: W.hid }:Wd).own = ({ W with hid:=(a,o) :: W.hid }:Wd).own:=by
  refine (?_:(W.tab ++ (((a,o') :: W.hid) ++ W.led.flatten)).map _ = (W.tab ++ (((a,o) :: W.hid) ++ W.led.flatten)).map _)
  simp
 have n:=(List.nodup_cons.mp r.nd).2
 have n':((W.tab.map (·.1)) ++ (a :: ((W.hid ++ W.led.flatten).map (·.1)))).Nodup:=by
  have:((W.tab ++ (((a,o) :: W.hid) ++ W.led.flatten)).map (·.1)).Nodup:=n
  simpa using this
 have n2:=List.nodup_cons.mp ((List.perm_middle.nodup_iff).mp n')
 have ne:∀ p∈W.oth,p.1 ≠ a:=fun p hp e=>n2.1 (by
  have:p.1∈(W.tab ++ (W.hid ++ W.led.flatten)).map (·.1):=List.mem_map_of_mem hp
  rw [List.map_append] at this;exact e ▸ this)
 have La:C.env.locals ≠ a:=fun e=>(List.nodup_cons.mp r.nd).1 (e ▸ inO)
 obtain ⟨m,⟨ob,es,ep,a1,a2⟩,hl⟩:=r.ns
 refine ⟨⟨m,⟨ob,es,ep,hx _ _ La a1,a2⟩,hl⟩,fun b ob e=>hx b ob (fun q=>?_) (r.keep b ob e),fun p hp=>hx _ _ (fun q=>r.fzo p hp (by refine rwG q ?_;exact .tail _ inO)) (r.fzs p hp),fun p hp=>?_,by refine rwG hown ?_;exact r.nd,by refine rwG hown ?_;exact r.old,by refine rwG hown ?_;exact r.fzo,r.mem,r.tabs,r.kf,r.cells⟩
 ·rw [q,r.old _ (.tail _ inO)] at e;exact no1 e
 ·have hp':p∈W.tab ++ (((a,o') :: W.hid) ++ W.led.flatten):=hp
  have old:p∈W.oth→h'.get? p.1 = some p.2:=fun hq=>hx _ _ (ne p hq) (r.all p (by
   have:p∈W.tab ++ (W.hid ++ W.led.flatten):=hq
   refine (?_:p∈W.tab ++ (((a,o) :: W.hid) ++ W.led.flatten))
   simp only [List.mem_append,List.mem_cons] at this ⊢
   rcases this with h | h | h
   ·exact .inl h
   ·exact .inr (.inl (.inr h))
   ·exact .inr (.inr h)))
  unfold Wd.oth at old
  simp only [List.mem_append,List.mem_cons] at hp' old
  rcases hp' with h | (rfl | h) | h
  ·exact old (.inl h)
  ·exact ho
  ·exact old (.inr (.inl h))
  ·exact old (.inr (.inr h))
end
end Mine
end
section
open PySem PySem.W PySem.Spec PySem.Calls PyProof.Rows
namespace Mine
section
variable {prog:Program} {w:World} {A:Around} {E:Value→Shared→Prop} {s:Shared}
end
section
variable {prog:Program} {w:World} {A:Around} {E:Value→Shared→Prop} {s:Shared} {h₀:Heap} {L:Addr} {m:Str→Option Value} {news:List (Addr × Obj)}
end
end Mine
end
section
open PySem PySem.W PySem.Spec PySem.Calls PyProof.Rows
namespace Mine
noncomputable def qt (Q:Flow→Shared→Prop) (I:Shared→Prop) (f:Flow) (s:Shared):Prop:=match f with
 | .ret v=>Q (.ret v) s
 | .brk=>Q .next s
 | _=>I s
noncomputable def jy (prog:Program) (w:World) (A:Around) (target:PySem.Expr) (body orelse:List Stmt) (env:Env) (Q:Flow→Shared→Prop) (it:Value) (s:Shared):Prop :=
 codeAny (model prog w) A (.forLoop target it body orelse env) (fun r s'=>match r with | .ok f=>Q f s' | .error e=>cameBackBy (model prog w) A env NoE e s') s
section
variable {prog:Program} {w:World} {A:Around} {s:Shared} {env:Env} {target iter:PySem.Expr} {body orelse:List Stmt} {pos:Pos} {Q:Flow→Shared→Prop}
theorem dM {E:Value→Shared→Prop} (h:wpAny (model prog w) A (eval iter env) (fun x s₁=>wpAny (model prog w) A (pyIter x) (fun it s₂=>jy prog w A target body orelse env Q it s₂) NoE s₁) NoE s)
  (hs:∀ x,foldedSetIterable iter env x = pure x:=by intro _;rfl):wpAny (model prog w) A (exec (.For target iter body orelse pos) env) Q E s :=
 wpAny_mono (wpAny_For h hs) (fun _ _ x=>x) fun _ _ x=>x.elim
theorem kQ {it:Value} (I:Nat→Shared→Prop)
  (turn:∀ n s,I n s→wpAny (model prog w) A (pyNext it) (fun r s₁=>match r with
   | none=>wpAny (model prog w) A (execs orelse env) Q NoE s₁
   | some v=>wpAny (model prog w) A (letOwnedTupleGo target it v) (fun _ s₂=>wpAny (model prog w) A (assign target env v) (fun _ s₃ =>
     wpAny (model prog w) A (execs body env) (qt Q fun s₄=>∃ m,m < n∧I m s₄) NoE s₃) NoE s₂) NoE s₁) NoE s)
  (n:Nat) (h:I n s):jy prog w A target body orelse env Q it s:=by
 refine codeAny_forLoop_any I (fun n s hI=>?_) n h
 refine wpAny_mono (turn n s hI) (fun r s₁ h₁=>?_) fun _ _ x=>x.elim
 induction r using Option.casesOn with
 | none=>exact wpAny_mono h₁ (fun _ _ x=>x) fun _ _ x=>x.elim
 | some v =>
  refine wpAny_mono h₁ (fun _ s₂ h₂=>wpAny_mono h₂ (fun _ s₃ h₃=>wpAny_mono h₃ (fun f s₄ h₄=>?_) fun _ _ x=>x.elim) fun _ _ x=>x.elim) fun _ _ x=>x.elim
  cases f <;> exact h₄
end
section
variable {h₀ h h':Heap} {L a:Addr} {m:Str→Option Value} {news:List (Addr × Obj)} {o o':Obj}
theorem wW (F:Fr h₀ L h m) (N:h₀.get? a = none) (ha:a ≠ L) (hs:Heap.SameBut a h h'):Fr h₀ L h' m :=
 ⟨F.ns.sameBut hs (Ne.symm ha),fun b x e=>(hs.2 b fun q=>by rw [q,N] at e;exact no1 e).trans (F.keep b x e),F.above⟩
end
section
variable {prog:Program} {w:World} {A:Around} {s:Shared} {h₀:Heap} {L:Addr} {m:Str→Option Value} {news:List (Addr × Obj)} {E:Value→Shared→Prop}
end
section
variable {prog:Program} {w:World} {A:Around} {s:Shared} {env:Env} {target:PySem.Expr} {body orelse:List Stmt} {Q:Flow→Shared→Prop} {g:Heap} {L:Addr} {m:Str→Option Value} {news:List (Addr × Obj)}
end
section
variable {M:Model} {A:Around} {E:Value→Shared→Prop} {s:Shared} {h₀:Heap} {L a:Addr} {m:Str→Option Value} {cn:Str} {cs:Scope} {ccd:Value} {cl:List (Str × Addr)} {x:Str} {v:Value} {Q:Value→Shared→Prop}
theorem bE (F:Fr h₀ L s.heap m) (hv:m x = some v) (h:Q v s) (hk:cs.kind = .function:=by rfl) (hx:(envX cn cs L a ccd cl).kindOf x = some .local:=by rfl) :
  wpAny M A (loadName (envX cn cs L a ccd cl) x) Q E s:=wpAny_loadName_local hk hx F.ns hv h
end
end Mine
end
section
open PySem PySem.W PySem.Spec PySem.Calls PyProof.Rows
set_option backward.match.sparseCases true
namespace Mine
noncomputable def aW (s:Shared) (g:Heap) (L:Addr) (R:Value→List (Addr × Obj)→Prop) (fl:Flow) (s':Shared):Prop :=
 ∃ h' tk' m' news',s' = { s with heap:=h',toks:=tk' }∧Fr g L h' m'∧News g L h' news'∧R (match fl with | .ret v=>v | _=>.none) news'
theorem aW.intro {s:Shared} {g:Heap} {L:Addr} {R:Value→List (Addr × Obj)→Prop} {fl:Flow} {h':Heap} {tk':Nat} {m':Str→Option Value} {news':List (Addr × Obj)} (F:Fr g L h' m') (N:News g L h' news') (r:R (match fl with | .ret v=>v | _=>.none) news') :
  aW s g L R fl { s with heap:=h',toks:=tk' }:=⟨h',tk',m',news',rfl,F,N,r⟩
section
variable {prog:Program} {w:World} {A A₀:Around} {s:Shared} {base h₀:Heap} {outer:List Env} {L:Addr} {m:Str→Option Value} {env:Env} {news others:List (Addr × Obj)} {K:Frag}
end
section
variable {prog:Program} {w:World} {K:Frag} {news:List (Addr × Obj)} {d u:Nat} {R:Value→List (Addr × Obj)→Prop} {name qual:Str} {params:Arguments} {body:List Stmt} {scope:Scope} {cl:List (Str × Addr)} {dV kV doc pm cdv ct oc:Value} {an od:Option Addr} {osl:Array (Option Value)} {f:Addr} {args:Args} {binds:List (Str × Value)}
end
section
variable {prog:Program} {w:World} {K:Frag} {news others:List (Addr × Obj)} {d u:Nat} {R:Value→List (Addr × Obj)→Prop} {f:Value} {vs:List Value} {p:Program} {loose:List Str} {mean:ExcName→Option Value} {mg mb:Str→Option Value} {A A₀:Around} {env:Env} {outer:List Env} {base h₀:Heap} {L:Addr} {m:Str→Option Value} {s:Shared} {Q E:Value→Shared→Prop}
end
section
variable {prog:Program} {w:World} {K:Frag} {news:List (Addr × Obj)} {d u:Nat} {R:Value→List (Addr × Obj)→Prop} {name qual:Str} {params:Arguments} {body:List Stmt} {scope:Scope} {dV kV doc pm cdv ct oc:Value} {an od:Option Addr} {osl:Array (Option Value)} {f:Addr} {args:Args} {binds:List (Str × Value)}
end
end Mine
end
section
open PySem PySem.W PySem.Spec PySem.Calls PyProof.Rows
namespace Mine
section
variable {prog:Program} {w:World} {A:Around} {s:Shared} {env:Env} {target:PySem.Expr} {body orelse:List Stmt} {it:Value} {Q Q':Flow→Shared→Prop}
end
end Mine
end
section
open PySem PySem.W PySem.Spec PySem.Calls PyProof.Rows PySem.Builtin PySem.Builtin.ObjectAttr
namespace Mine
theorem eZ:Slot "function" "__setattr__" "object.__setattr__" :=
 .of (owner:="object") (n:="__setattr__") (by rw [typeLookup_type,builtinLookup_eq_fast];kernel_rfl) (by decide +kernel) (by decide +kernel) (by decide +kernel)
  (by first | exact .inl (by decide +kernel) | exact .inr (by decide +kernel)) (by rw [isSubtype_type];kernel_rfl)
theorem yI:mroOf (.type "function") = pure [.type "function",.type "object"]:=by kernel_rfl
theorem rm (self:Value):refuseLoop self "__setattr__" [.type "function",.type "object"] = pure ():=by kernel_rfl
theorem j3:typeLookup (.type "function") "read" = pure none:=by rw [typeLookup_type,builtinLookup_eq_fast];kernel_rfl
theorem sL (name:Str) (h:Int) (key v:Value):Obj.putName name h key v emptyDict = { cls:=.type "dict",data:=.dict #[⟨h,key,v⟩] 1 }:=by rfl
section
variable {prog:Program} {w:World} {A:Around} {E:Value→Shared→Prop} {s:Shared} {h₀:Heap} {L f:Addr} {m:Str→Option Value} {fo:Obj} {pre post:List (Addr × Obj)} {v:Value}
theorem pS {Q:Unit→Shared→Prop} (F:Fr h₀ L s.heap m) (N:News h₀ L s.heap (pre ++ (f,fo) :: post)) (h1:∀ p∈pre,p.1 ≠ f) (h2:∀ p∈post,p.1 ≠ f)
  (hc:fo.cls = .type "function") (hd:fo.dict = none) {d:FuncData} (hdat:fo.data = .func d)
  (h:∀ dx h' hsh tk,Fr h₀ L h' m→News h₀ L h' ((dx,{ cls:=.type "dict",data:=.dict #[⟨hsh,.str "read" tk,v⟩] 1 }) :: (pre ++ (f,{ fo with dict:=some dx }) :: post))→(∀ p∈pre ++ (f,fo) :: post,p.1 < dx)→Q () { s with heap:=h',toks:=s.toks + 2 }) :
  wpAny (model prog w) A (setAttr (.ref f) "read" v) Q E s:=by
 have D:=(N (f,fo) (by simp)).1
 have T:s.TypeIs (.ref f) "function":=⟨fo,D,hc⟩
 refine wpAny_bind (wpAny_mkText (wpAny_bind (wpAny_callSpecial?_slot (name:="__setattr__") (T:="function") (id:="object.__setattr__") ?_ eZ ?_)))
 ·exact T
 refine wpAny_call_entry eZ T PySem.F.entry_object_sa ?_ (by skip;kernel_rfl)
 rw [osa_eq,refuse_eq]
 refine wpAny_bind (wpAny_bind (wpAny_typeOf_ref D ?_))
 rw [hc,yI]
 refine wpAny_bind (wpAny_pure ?_)
 rw [rm]
 refine wpAny_pure (wpAny_bind (wpAny_typeOf_ref D ?_))
 rw [hc]
 refine wpAny_bind ?_
 rw [j3]
 refine wpAny_pure (wpAny_bind (wpAny_pure ?_))
 refine (?_:wpAny _ _ (storeInOwnDict _ _ _ _ _ _) _ _ _)
 delta storeInOwnDict
 have os:ownStreamTells (.ref f) (.type "function") = pure ():=rfl
 rw [os]
 refine wpAny_bind (wpAny_pure ?_)
 rw [if_neg (by decide)]
 refine wpAny_bind ?_
 refine (?_:wpAny _ _ (instanceDict f true) _ _ _)
 skip
 refine wpAny_bind (wpAny_loadPart D ?_)
 have Dl:f < s.heap.objs.size:=Heap.lt_size D
 obtain ⟨fc,fd,fdat,fsl⟩:=fo
 dsimp only at hc hd hdat
 subst hc hd hdat
 dsimp only
 have th:typeHasDict (.type "function") = true:=by decide +kernel
 simp only [th,Bool.not_true,Bool.or_self,Bool.false_eq_true,if_false]
 refine wpAny_bind (wpAny_alloc (wpAny_bind ?_))
 have F1:=F.push emptyDict
 have N1:=N.push F emptyDict
 have l1:∀ p∈pre ++ (f,_) :: post,p.1 < s.heap.objs.size:=fun p hp=>Heap.lt_size (N p hp).1
 obtain ⟨F2,N2⟩:=news_upd (pre:=(s.heap.objs.size,emptyDict) :: pre) (f:=fun o=>{ o with dict:=some s.heap.objs.size }) F1 N1 (fun p hp=>by
  cases hp with
  | head=>exact Nat.ne_of_gt Dl
  | tail _ q=>exact h1 p q) h2 rfl rfl
 obtain ⟨F3,N3⟩:=news_upd (pre:=[]) (d:=s.heap.objs.size) (f:=Obj.putName "read" (PyData.keyHash w.params "read") (.str "read" (s.toks + 1)) v) F2 N2 (fun _ hp=>nomatch hp) (fun p hp=>by
  rcases List.mem_append.mp hp with q | q
  ·exact Nat.ne_of_lt (l1 p (List.mem_append_left _ q))
  ·cases q with
   | head=>exact Nat.ne_of_lt Dl
   | tail _ q=>exact Nat.ne_of_lt (l1 p (List.mem_append_right _ (.tail _ q)))) (sL _ _ _ _) rfl
 refine wpAny_update (Heap.get?_push_of_some _ D) ?_
 have fin:finalisedInACycleAlone "function" = false:=by decide +kernel
 skip
 simp only [fin,Bool.false_eq_true,if_false]
 refine wpAny_bind (wpAny_pure (wpAny_pure ?_))
 dsimp only
 skip
 refine wpAny_bind (wpAny_pure (wpAny_bind ?_))
 skip
 have D2:=(N2 _ (.head _)).1
 have D3:=(N3 _ (.head _)).1
 refine wpAny_bind (wpAny_bind (wpAny_askSetting (wpAny_pure (wpAny_bind (wpAny_mkText (wpAny_bind (wpAny_loadPart D2 ?_)))))))
 dsimp only
 rw [if_neg (by rw [aRefKeyMayBeTheName_at];simp)]
 refine wpAny_bind (wpAny_pure (wpAny_updatePart D2 ?_))
 refine wpAny_bind (wpAny_lookBehind D3 (pastItsLine_dict (by rw [sizeLine_eq];simp)) ?_)
 exact wpAny_pure ⟨_,rfl,wpAny_pure (h _ _ _ _ F3 N3 l1)⟩
end
end Mine
end
section
open PySem PySem.W PySem.Spec PySem.Calls PyProof.Rows PySem.Builtin PySem.Builtin.ObjectAttr
set_option maxHeartbeats 4000000
namespace Mine
theorem aN:Slot "function" "__getattribute__" "object.__getattribute__" :=
 .of (owner:="object") (n:="__getattribute__") (by rw [typeLookup_type,builtinLookup_eq_fast];kernel_rfl) (by decide +kernel) (by decide +kernel) (by decide +kernel)
  (by first | exact .inl (by decide +kernel) | exact .inr (by decide +kernel)) (by rw [isSubtype_type];kernel_rfl)
theorem fJ:entryFor table "object.__getattribute__" = some Builtin.«object.__getattribute__»:=entryFor_of_tree (by kernel_rfl)
theorem jK:typeLookup (.type "function") "__getattr__" = pure none:=by rw [typeLookup_type,builtinLookup_eq_fast];kernel_rfl
theorem pY (a b:Value):argsOk "object.__getattribute__" ⟨[a,b],[]⟩:=by skip;kernel_rfl
noncomputable abbrev dj (hsh:Int) (tk:Tok) (v:Value):Obj:={ cls:=.type "dict",data:=.dict #[⟨hsh,.str "read" tk,v⟩] 1 }
section
variable {prog:Program} {w:World} {A:Around} {E:Value→Shared→Prop} {s:Shared} {f dx:Addr} {fo:Obj} {hsh:Int} {tk:Tok} {r:Addr} {b:Sem Bool}
theorem qn {Q:Option Value→Shared→Prop} {v:Value} (hd:s.heap.get? dx = some (dj hsh tk v)) (hq:Q (some v) s):wpAny (model prog w) A (nsGet dx "read") Q E s:=by
 skip
 exact wpAny_bind (wpAny_loadPart hd (wpAny_pure hq))
theorem mL {Q:Value × List Value→Shared→Prop} (hf:s.heap.get? f = some fo) (hc:fo.cls = .type "function") (hd:fo.dict = some dx) {d:FuncData} (hdat:fo.data = .func d) (hD:s.heap.get? dx = some (dj hsh tk (.ref r)))
  (hq:Q (.ref r,[]) { s with toks:=s.toks + 1 }):wpAny (model prog w) A (getMethod (.ref f) "read" b) Q E s:=by
 have T:s.TypeIs (.ref f) "function":=⟨fo,hf,hc⟩
 skip
 refine wpAny_bind (wpAny_specialOf T aN.lookup ?_)
 dsimp only
 rw [PySem.F.canon_object_ga,if_neg (by decide)]
 refine wpAny_bind (wpAny_specialOf T jK ?_)
 dsimp only [Option.isSome]
 rw [if_neg (by decide)]
 refine wpAny_bind (wpAny_specialOf T j3 ?_)
 dsimp only
 refine wpAny_bind ?_
 skip
 refine wpAny_bind (wpAny_mkText (wpAny_holding (wpAny_bind (wpAny_typeOf_ref hf ?_))))
 rw [hc]
 refine wpAny_bind ?_
 rw [aN.lookup]
 refine wpAny_pure ?_
 dsimp only
 rw [if_neg (by decide)]
 skip
 have f3:=aN.lookup
 have f4:=aN.bind (.ref f)
 repeat (any_goals (first | assumption | exact T | wp_step))
 refine codeAny_call_builtin aN.plain fJ (aN.check _ _ _ _ _ _ _ _ T (pY _ _) ?_)
 unfold Builtin.«object.__getattribute__»
 refine wpAny_bind (wpAny_pure ?_)
 refine wpAny_bind (wpAny_pure (wpAny_bind (wpAny_typeOf_ref hf ?_)))
 rw [hc]
 skip
 refine wpAny_bind (wpAny_bind ?_)
 rw [j3]
 refine wpAny_pure (wpAny_bind (wpAny_pure (wpAny_bind (wpAny_pure ?_))))
 dsimp only
 skip
 refine wpAny_bind (wpAny_bind (wpAny_bind (wpAny_loadPart hf ?_)))
 rw [hdat]
 dsimp only
 skip
 refine wpAny_bind (wpAny_loadPart hf ?_)
 rw [hc,hd]
 dsimp only
 refine wpAny_pure ?_
 skip
 refine qn hD ?_
 dsimp only
 refine wpAny_bind (wpAny_rule (wpAny_pure (wpAny_pure ?_)))
 exact wpAny_pure (wpAny_pure hq)
end
end Mine
end
section
open PySem PySem.W PySem.Spec PySem.Calls PyProof.Rows PySem.Builtin
namespace Mine
noncomputable def signs (x:Str):List Str:=x.cps.toList.map fun c=>⟨#[c]⟩
theorem iH:∀ {vs:List Value} {ys:List Str},vs.length = ys.length→(∀ (j:Nat) v,vs[j]? = some v→∃ y t,ys[j]? = some y∧v = .str y t)→StrsAre vs ys
 | [],[],_,_=>.nil
 | v :: vs,y :: ys,hl,h=>by
  obtain ⟨y',t,e,rfl⟩:=h 0 v rfl
  cases e
  exact .cons _ _ (iH (by simpa using hl) fun j v hj=>h (j + 1) v hj)
theorem tM {x:Str} {acc:Array Value} (h:ItemsOf (SignAt x) acc x.cps.size):StrsAre acc.toList (signs x):=by
 refine iH ?_ fun j v hj=>?_
 ·(refine rwG Array.length_toList ?_;refine rwG h.1 ?_);simp [signs]
 ·obtain ⟨c,u,hc,rfl⟩:=h.2 j v (by refine rwH (Array.getElem?_toList) ?_;exact hj)
  refine ⟨⟨#[c]⟩,u, ?_,rfl⟩
  skip
  (refine rwG (List.getElem?_map) ?_;refine rwG (Array.getElem?_toList) ?_;refine rwG hc ?_);rfl
section
variable {prog:Program} {w:World} {A:Around} {E:Value→Shared→Prop} {s:Shared} {h₀:Heap} {L:Addr} {m:Str→Option Value} {news:List (Addr × Obj)}
theorem list_str {Q:Value→Shared→Prop} {x:Str} {t:Tok} (hh:A.handled = none) (F:Fr h₀ L s.heap m) (N:News h₀ L s.heap news) (hx:x.cps.size ≤ 1000)
  (h:∀ D h' tk vs ep,Fr h₀ L h' m→News h₀ L h' ((D,listOf vs.toArray ep) :: news)→(∀ p∈news,p.1 < D)→StrsAre vs (signs x)→vs.toArray.size ≤ sizeLine→Q (.ref D) { s with heap:=h',toks:=tk }) :
  wpAny (model prog w) A (call (.type "list") [.str x t]) Q E s:=by
 refine call_list_str hh x t (fun h' tk acc' c' hk hS hI=>?_) (by refine rwG sizeLine_eq ?_;omega)
 have l1:∀ p∈news,p.1 < s.heap.objs.size:=fun p hp=>Heap.lt_size (N p hp).1
 have nL:s.heap.objs.size ≠ L:=by
  refine x32 F.ns fun oL es ep hL _=>?_
  exact Nat.ne_of_gt (Heap.lt_size hL)
 have n0:h₀.get? s.heap.objs.size = none:=by
  cases q:h₀.get? s.heap.objs.size with
  | none=>rfl
  | some o=>exact absurd (Heap.lt_size (F.keep _ _ q)) (Nat.lt_irrefl _)
 refine h s.heap.objs.size h' tk acc'.toList c' ⟨F.ns.at' fun o e=>hk _ o e,fun b o e=>hk _ _ (F.keep b o e),F.above⟩ (fun p hp=>?_) l1 (tM hI) (by (refine rwG sizeLine_eq ?_;refine rwG List.size_toArray ?_;refine rwG Array.length_toList ?_;refine rwG hI.1 ?_);omega)
 cases hp with
 | head=>exact ⟨hS,nL,n0⟩
 | tail _ hp=>exact ⟨hk _ _ (N p hp).1,(N p hp).2⟩
end
theorem ou {vs vs':List Value} {ys ys':List Str} (h:StrsAre vs ys) (h':StrsAre vs' ys'):StrsAre (vs ++ vs') (ys ++ ys'):=by
 induction h with
 | nil=>exact h'
 | cons a b _ ih=>exact .cons a b ih
theorem iC {vs:List Value} {ys:List Str} (h:StrsAre vs ys):StrsAre vs.reverse ys.reverse:=by
 induction h with
 | nil=>exact .nil
 | cons a b _ ih=>(refine rwG List.reverse_cons ?_;refine rwG List.reverse_cons ?_);exact ou ih (.cons a b .nil)
section
variable {prog:Program} {w:World} {A:Around} {E:Value→Shared→Prop} {s:Shared} {h₀:Heap} {L f:Addr} {m:Str→Option Value} {fo:Obj} {news:List (Addr × Obj)} {v:Value} {g:Obj→List (Addr × Obj)}
theorem iD {Q:Unit→Shared→Prop} (F:Fr h₀ L s.heap m) (N:News h₀ L s.heap news) (U:UpdF f fo news g)
  (hc:fo.cls = .type "function") (hd:fo.dict = none) {d:FuncData} (hdat:fo.data = .func d)
  (h:∀ dx h' hsh tk,Fr h₀ L h' m→News h₀ L h' ((dx,dj hsh tk v) :: g { fo with dict:=some dx })→(∀ p∈news,p.1 < dx)→Q () { s with heap:=h',toks:=s.toks + 2 }) :
  wpAny (model prog w) A (setAttr (.ref f) "read" v) Q E s:=by
 obtain ⟨own,rest,rfl,hgr,h1,h2⟩:=U.split
 exact pS F N h1 h2 hc hd hdat fun dx h' hsh tk F' N' l1=>h dx h' hsh tk F' (by refine rwG (hgr ..) ?_;exact N') l1
end
end Mine
end
section
open PySem PySem.W PySem.Spec PySem.Calls PyProof.Rows PySem.Builtin
namespace Mine
section
variable {prog:Program} {w:World} {K:Frag} {news:List (Addr × Obj)} {d u:Nat} {R:Value→List (Addr × Obj)→Prop} {name qual:Str} {params:Arguments} {body:PySem.Expr} {scope:Scope} {cl:List (Str × Addr)} {pm ctv:Value} {f c':Addr} {oc:Obj} {cvs:Array Value} {ct:Tok} {args:Args} {binds:List (Str × Value)}
end
end Mine
end
section
open PySem PySem.W PySem.Spec PySem.Calls PyProof.Rows
namespace Mine
noncomputable def ba (prog:Program) (w:World) (K:Frag) (f:Value) (args:Args) (news:List (Addr × Obj)) (d u:Nat) (R:Value→List (Addr × Obj)→Prop):Prop :=
 ∀ (p:Program) (loose:List Str) (mean:ExcName→Option Value) (mg mb:Str→Option Value) (A:Around) (s:Shared) (R':Result→Shared→Prop),
  A.handled = none→K.In (hideAll s.heap (news.map (·.1)))→(∀ p∈news,s.heap.get? p.1 = some p.2)→Top p loose mean mg mb (hideAll s.heap (news.map (·.1)))→A.depth + d < recursionLimit→A.units + u < cLine →
  (∀ v news' h' tk',(∀ b o,b ∉ news.map (·.1)→s.heap.get? b = some o→h'.get? b = some o)→(∀ p∈news',h'.get? p.1 = some p.2∧(hideAll s.heap (news.map (·.1))).get? p.1 = none)→R v news'→R' (.ok (.ret v)) { s with heap:=h',toks:=tk' }) →
  codeAny (model prog w) A (.call f args) R' s
noncomputable abbrev eG (dp un:Nat) (gd:Option (List Code)) (fr:Option (List Env)):Around:={ handled:=none,depth:=dp,frames:=fr,guards:=gd,units:=un }
section
variable {prog:Program} {w:World} {K:Frag} {news:List (Addr × Obj)} {d u:Nat} {R:Value→List (Addr × Obj)→Prop} {name qual:Str} {params:Arguments} {body:List Stmt} {scope:Scope} {cl:List (Str × Addr)} {dV kV doc pm cdv ct oc:Value} {an od:Option Addr} {osl:Array (Option Value)} {f:Addr} {args:Args} {binds:List (Str × Value)}
theorem il (ho:K.lookup f = some ⟨oc,od,.func (fnX name qual params body scope [] dV kV doc pm an cdv ct),osl⟩) (hcd:codeIn K cdv qual = true)
  (hbind:∀ s,BindsTo s (fnX name qual params body scope [] dV kV doc pm an cdv ct) args binds) (hloc:∀ y∈binds,scope.names.lookup y.1 = some .local)
  (hco:scope.isCoroutine = false) (hgen:scope.isGenerator = false) (hk:scope.kind = .function) (hcell:∀ x∈scope.names,x.2 ≠ .cell)
  (h:∀ (p:Program) (loose:List Str) (mean:ExcName→Option Value) (mg mb:Str→Option Value) (dp un:Nat) (gd:Option (List Code)) (fr:Option (List Env)) (g:Heap) (L:Addr) (s:Shared),
   Fr g L s.heap (fun y=>binds.reverse.lookup y)→K.In g→News g L s.heap news→Top p loose mean mg mb g→dp + d < recursionLimit→un + u < cLine→(∀ p∈news,p.1 < L) →
   wpAny (model prog w) (eG dp un gd fr) (execs body (envX qual scope L f cdv [])) (aW s g L R) NoE s):ba prog w K (.ref f) args news (d + 1) (u + 3) R:=by
 intro p loose mean mg mb A s R' hh X N T hd hu ret
 have up:∀ {b o},(hideAll s.heap (news.map (·.1))).get? b = some o→s.heap.get? b = some o:=of_hideAll _
 refine codeAny_call_def (fd:=fnX name qual params body scope [] dV kV doc pm an cdv ct) (body:=body) (binds:=binds) (by omega) (up (X f _ ho)) rfl (T.nolimit.keeps fun _ _ e=>up e) (codeRec_of (fun a o e=>up (X a o e)) hcd) rfl (hbind s) hcell hloc (fun h₁ hns hk₁=>?_) hco hgen hk
 have w1:=h p loose mean mg mb (A.depth + 1) (A.units + 3) A.guards (A.frames.map (callEnv (fnX name qual params body scope [] dV kV doc pm an cdv ct) s.heap.objs.size f :: ·)) _ s.heap.objs.size { s with heap:=h₁,toks:=s.toks + binds.length }
  ⟨hns,fun b o e=>hk₁ b o (up e),Nat.le_of_eq (hideAll_size _ _)⟩ X
  (fun p hp=>⟨hk₁ _ _ (N p hp),Nat.ne_of_lt (Heap.lt_size (N p hp)),hideAll_none _ (List.mem_map_of_mem hp)⟩) T (by omega) (by omega) (fun p hp=>Heap.lt_size (N p hp))
 have hAd:A.deeper (callEnv (fnX name qual params body scope [] dV kV doc pm an cdv ct) s.heap.objs.size f) = eG (A.depth + 1) (A.units + 3) A.guards (A.frames.map (callEnv (fnX name qual params body scope [] dV kV doc pm an cdv ct) s.heap.objs.size f :: ·)):=by
  obtain ⟨hd',dp,fr,gs,un⟩:=A
  simp only at hh
  subst hh
  rfl
 rw [hAd]
 refine wpAny_mono w1 (fun fl s' hq=>?_) fun _ _ x=>x.elim
 refine qo hq fun h' tk' m' news' F' N' r=>?_
 refine ret _ news' h' tk' (fun b o hb e=>F'.keep b o (hideAll_get _ e hb)) (fun p hp=>⟨(N' p hp).1,(N' p hp).2.2⟩) r
end
end Mine
end
section
open PySem PySem.W PyProof.Rows
namespace Mine
noncomputable def fA:Stmt→Arguments
 | .FunctionDef _ a ..=>a
 | _=>Arguments.mk [] [] none [] [] none []
noncomputable def fBL:Stmt→List Stmt
 | .FunctionDef _ _ b ..=>b
 | .ClassDef _ _ _ b ..=>b
 | _=>[]
noncomputable def fB (s:Stmt):FuncBody:=.stmts (fBL s)
noncomputable def fS:Stmt→Scope
 | .FunctionDef _ _ _ _ _ _ s ..=>s
 | _=>default
noncomputable def bl:List Stmt→Nat→Stmt
 | [],_=>.Pass ⟨0,0,0,0⟩
 | s :: _,0=>s
 | _ :: r,n + 1=>bl r n
noncomputable def stm (i:Nat):Stmt:=bl PySem.Challenge.pw_wc0018_02.main.body i
noncomputable def mth (i j:Nat):Stmt:=bl (fBL (stm i)) j
noncomputable def kf (P:Params):Frag:=List.cons ((nat_lit 2),(Obj.mk Value.none none (Data.dict #[] 0) #[])) (
List.cons ((nat_lit 3),(Obj.mk (Value.type "dict") none (Data.dict #[(DictEntry.mk (PyData.keyHash P "__name__") (Value.str "__name__" 165) (Value.str "law_wc0018_02" 457)),(DictEntry.mk (PyData.keyHash P "__doc__") (Value.str "__doc__" 166) Value.none),(DictEntry.mk (PyData.keyHash P "__package__") (Value.str "__package__" 167) Value.none),(DictEntry.mk (PyData.keyHash P "__loader__") (Value.str "__loader__" 168) (Value.builtin "__main__.__loader__#opaque")),(DictEntry.mk (PyData.keyHash P "__spec__") (Value.str "__spec__" 169) Value.none),(DictEntry.mk (PyData.keyHash P "__annotations__") (Value.str "__annotations__" 170) (Value.ref 6)),(DictEntry.mk (PyData.keyHash P "__builtins__") (Value.str "__builtins__" 171) (Value.ref 4)),(DictEntry.mk (PyData.keyHash P "__file__") (Value.str "__file__" 173) (Value.str "/claim/cut.py" 172)),(DictEntry.mk (PyData.keyHash P "__cached__") (Value.str "__cached__" 174) Value.none),(DictEntry.mk (PyData.keyHash P "_DIV_LIMIT") (Value.str "_DIV_LIMIT" 190) (Value.int (4000:Int) 189)),(DictEntry.mk (PyData.keyHash P "_div2n1n") (Value.str "_div2n1n" 207) (Value.ref 21)),(DictEntry.mk (PyData.keyHash P "_div3n2n") (Value.str "_div3n2n" 221) (Value.ref 28)),(DictEntry.mk (PyData.keyHash P "_int2digits") (Value.str "_int2digits" 232) (Value.ref 35)),(DictEntry.mk (PyData.keyHash P "_digits2int") (Value.str "_digits2int" 243) (Value.ref 42)),(DictEntry.mk (PyData.keyHash P "_divmod_pos") (Value.str "_divmod_pos" 258) (Value.ref 49)),(DictEntry.mk (PyData.keyHash P "int_divmod") (Value.str "int_divmod" 268) (Value.ref 56)),(DictEntry.mk (PyData.keyHash P "ONE_THIRD") (Value.str "ONE_THIRD" 274) (Value.float (4599676419421066581:UInt64) 273)),(DictEntry.mk (PyData.keyHash P "ONE_SIXTH") (Value.str "ONE_SIXTH" 278) (Value.float (4595172819793696085:UInt64) 277)),(DictEntry.mk (PyData.keyHash P "TWO_THIRD") (Value.str "TWO_THIRD" 282) (Value.float (4604180019048437077:UInt64) 281)),(DictEntry.mk (PyData.keyHash P "rgb_to_hls") (Value.str "rgb_to_hls" 301) (Value.ref 63)),(DictEntry.mk (PyData.keyHash P "hls_to_rgb") (Value.str "hls_to_rgb" 312) (Value.ref 70)),(DictEntry.mk (PyData.keyHash P "_v") (Value.str "_v" 321) (Value.ref 77)),(DictEntry.mk (PyData.keyHash P "rgb_to_hsv") (Value.str "rgb_to_hsv" 339) (Value.ref 84)),(DictEntry.mk (PyData.keyHash P "hsv_to_rgb") (Value.str "hsv_to_rgb" 353) (Value.ref 91)),(DictEntry.mk (PyData.keyHash P "COMPILER_FLAG_NAMES") (Value.str "COMPILER_FLAG_NAMES" 386) (Value.ref 92)),(DictEntry.mk (PyData.keyHash P "pretty_flags") (Value.str "pretty_flags" 396) (Value.ref 99)),(DictEntry.mk (PyData.keyHash P "_netrclex") (Value.str "_netrclex" 456) (Value.ref 137)),(DictEntry.mk (PyData.keyHash P "_law_lexer") (Value.str "_law_lexer" 467) (Value.ref 148)),(DictEntry.mk (PyData.keyHash P "_law_diagram") (Value.str "_law_diagram" 473) (Value.ref 153)),(DictEntry.mk (PyData.keyHash P "_law_painted") (Value.str "_law_painted" 479) (Value.ref 158)),(DictEntry.mk (PyData.keyHash P "_law_marks") (Value.str "_law_marks" 485) (Value.ref 163)),(DictEntry.mk (PyData.keyHash P "_law_changed") (Value.str "_law_changed" 491) (Value.ref 168)),(DictEntry.mk (PyData.keyHash P "_law_mirrored") (Value.str "_law_mirrored" 497) (Value.ref 173)),(DictEntry.mk (PyData.keyHash P "_law_rims") (Value.str "_law_rims" 503) (Value.ref 178)),(DictEntry.mk (PyData.keyHash P "law") (Value.str "law" 509) (Value.ref 183))] 35) #[])) (
List.cons ((nat_lit 31),(Obj.mk (Value.type "tuple") none (Data.seq #[(Value.str "a" 225),(Value.str "n" 226)] 0) #[])) (
List.cons ((nat_lit 32),(Obj.mk (Value.type "tuple") none (Data.seq #[(Value.str "n" 227),(Value.str "a_digits" 228),(Value.str "inner" 229)] 0) #[])) (
List.cons ((nat_lit 34),(Obj.mk (Value.type "code") none (Data.fields #[(Value.str "_int2digits" 222),(Value.str "_int2digits" 223),(Value.str "/claim/cut.py" 224),(Value.int (29:Int) 0),(Value.int (2:Int) 0),(Value.int (0:Int) 0),(Value.int (0:Int) 0),(Value.int (3:Int) 0),(Value.ref 29),(Value.bool true),(Value.int (181:Int) 0),(Value.ref 30),Value.none,(Value.ref 31),(Value.ref 32),(Value.ref 33),(Value.int (230:Int) 0),(Value.int (29:Int) 0),(Value.str "/claim/cut.py" 231)]) #[])) (
List.cons ((nat_lit 35),(Obj.mk (Value.type "function") none (Data.func (FuncData.mk "_int2digits" "_int2digits" (fA (stm 4)) (fB (stm 4)) (fS (stm 4)) 3 [] Value.none Value.none Value.none (Value.str "cpy313._pylong" 187) none (Value.ref 34) Value.none 0)) #[])) (
List.cons ((nat_lit 36),(Obj.mk (Value.type "tuple") none (Data.seq #[] 0) #[])) (
List.cons ((nat_lit 38),(Obj.mk (Value.type "tuple") none (Data.seq #[(Value.str "digits" 236),(Value.str "n" 237)] 0) #[])) (
List.cons ((nat_lit 39),(Obj.mk (Value.type "tuple") none (Data.seq #[(Value.str "digits" 238),(Value.str "n" 239),(Value.str "inner" 240)] 0) #[])) (
List.cons ((nat_lit 41),(Obj.mk (Value.type "code") none (Data.fields #[(Value.str "_digits2int" 233),(Value.str "_digits2int" 234),(Value.str "/claim/cut.py" 235),(Value.int (45:Int) 0),(Value.int (2:Int) 0),(Value.int (0:Int) 0),(Value.int (0:Int) 0),(Value.int (3:Int) 0),(Value.ref 36),(Value.bool true),(Value.int (181:Int) 0),(Value.ref 37),Value.none,(Value.ref 38),(Value.ref 39),(Value.ref 40),(Value.int (241:Int) 0),(Value.int (45:Int) 0),(Value.str "/claim/cut.py" 242)]) #[])) (
List.cons ((nat_lit 42),(Obj.mk (Value.type "function") none (Data.func (FuncData.mk "_digits2int" "_digits2int" (fA (stm 5)) (fB (stm 5)) (fS (stm 5)) 3 [] Value.none Value.none Value.none (Value.str "cpy313._pylong" 187) none (Value.ref 41) Value.none 0)) #[])) (
List.cons ((nat_lit 43),(Obj.mk (Value.type "tuple") none (Data.seq #[] 0) #[])) (
List.cons ((nat_lit 107),(Obj.mk (Value.type "tuple") none (Data.seq #[] 0) #[])) (
List.cons ((nat_lit 109),(Obj.mk (Value.type "tuple") none (Data.seq #[(Value.str "self" 414),(Value.str "fp" 415)] 0) #[])) (
List.cons ((nat_lit 110),(Obj.mk (Value.type "tuple") none (Data.seq #[] 0) #[])) (
List.cons ((nat_lit 112),(Obj.mk (Value.type "code") none (Data.fields #[(Value.str "__init__" 411),(Value.str "_netrclex.__init__" 412),(Value.str "/claim/cut.py" 413),(Value.int (178:Int) 0),(Value.int (2:Int) 0),(Value.int (0:Int) 0),(Value.int (0:Int) 0),(Value.int (3:Int) 0),(Value.ref 107),(Value.bool true),(Value.int (181:Int) 0),(Value.ref 108),Value.none,(Value.ref 109),(Value.ref 110),(Value.ref 111),(Value.int (416:Int) 0),(Value.int (178:Int) 0),(Value.str "/claim/cut.py" 417)]) #[])) (
List.cons ((nat_lit 113),(Obj.mk (Value.type "function") none (Data.func (FuncData.mk "__init__" "_netrclex.__init__" (fA (mth 21 0)) (fB (mth 21 0)) (fS (mth 21 0)) 3 [] Value.none Value.none Value.none (Value.str "cpy313.netrc" 397) none (Value.ref 112) Value.none 0)) #[])) (
List.cons ((nat_lit 114),(Obj.mk (Value.type "tuple") none (Data.seq #[] 0) #[])) (
List.cons ((nat_lit 116),(Obj.mk (Value.type "tuple") none (Data.seq #[(Value.str "self" 422),(Value.str "ch" 423)] 0) #[])) (
List.cons ((nat_lit 117),(Obj.mk (Value.type "tuple") none (Data.seq #[] 0) #[])) (
List.cons ((nat_lit 119),(Obj.mk (Value.type "code") none (Data.fields #[(Value.str "_read_char" 419),(Value.str "_netrclex._read_char" 420),(Value.str "/claim/cut.py" 421),(Value.int (184:Int) 0),(Value.int (1:Int) 0),(Value.int (0:Int) 0),(Value.int (0:Int) 0),(Value.int (3:Int) 0),(Value.ref 114),(Value.bool true),(Value.int (181:Int) 0),(Value.ref 115),Value.none,(Value.ref 116),(Value.ref 117),(Value.ref 118),(Value.int (424:Int) 0),(Value.int (184:Int) 0),(Value.str "/claim/cut.py" 425)]) #[])) (
List.cons ((nat_lit 120),(Obj.mk (Value.type "function") none (Data.func (FuncData.mk "_read_char" "_netrclex._read_char" (fA (mth 21 1)) (fB (mth 21 1)) (fS (mth 21 1)) 3 [] Value.none Value.none Value.none (Value.str "cpy313.netrc" 397) none (Value.ref 119) Value.none 0)) #[])) (
List.cons ((nat_lit 121),(Obj.mk (Value.type "tuple") none (Data.seq #[] 0) #[])) (
List.cons ((nat_lit 123),(Obj.mk (Value.type "tuple") none (Data.seq #[(Value.str "self" 430),(Value.str "token" 431),(Value.str "fiter" 432),(Value.str "ch" 433)] 0) #[])) (
List.cons ((nat_lit 124),(Obj.mk (Value.type "tuple") none (Data.seq #[] 0) #[])) (
List.cons ((nat_lit 126),(Obj.mk (Value.type "code") none (Data.fields #[(Value.str "get_token" 427),(Value.str "_netrclex.get_token" 428),(Value.str "/claim/cut.py" 429),(Value.int (190:Int) 0),(Value.int (1:Int) 0),(Value.int (0:Int) 0),(Value.int (0:Int) 0),(Value.int (3:Int) 0),(Value.ref 121),(Value.bool true),(Value.int (181:Int) 0),(Value.ref 122),Value.none,(Value.ref 123),(Value.ref 124),(Value.ref 125),(Value.int (434:Int) 0),(Value.int (190:Int) 0),(Value.str "/claim/cut.py" 435)]) #[])) (
List.cons ((nat_lit 127),(Obj.mk (Value.type "function") none (Data.func (FuncData.mk "get_token" "_netrclex.get_token" (fA (mth 21 2)) (fB (mth 21 2)) (fS (mth 21 2)) 3 [] Value.none Value.none Value.none (Value.str "cpy313.netrc" 397) none (Value.ref 126) Value.none 0)) #[])) (
List.cons ((nat_lit 128),(Obj.mk (Value.type "tuple") none (Data.seq #[] 0) #[])) (
List.cons ((nat_lit 130),(Obj.mk (Value.type "tuple") none (Data.seq #[(Value.str "self" 440),(Value.str "token" 441)] 0) #[])) (
List.cons ((nat_lit 131),(Obj.mk (Value.type "tuple") none (Data.seq #[] 0) #[])) (
List.cons ((nat_lit 133),(Obj.mk (Value.type "code") none (Data.fields #[(Value.str "push_token" 437),(Value.str "_netrclex.push_token" 438),(Value.str "/claim/cut.py" 439),(Value.int (217:Int) 0),(Value.int (2:Int) 0),(Value.int (0:Int) 0),(Value.int (0:Int) 0),(Value.int (3:Int) 0),(Value.ref 128),(Value.bool true),(Value.int (181:Int) 0),(Value.ref 129),Value.none,(Value.ref 130),(Value.ref 131),(Value.ref 132),(Value.int (442:Int) 0),(Value.int (217:Int) 0),(Value.str "/claim/cut.py" 443)]) #[])) (
List.cons ((nat_lit 134),(Obj.mk (Value.type "function") none (Data.func (FuncData.mk "push_token" "_netrclex.push_token" (fA (mth 21 3)) (fB (mth 21 3)) (fS (mth 21 3)) 3 [] Value.none Value.none Value.none (Value.str "cpy313.netrc" 397) none (Value.ref 133) Value.none 0)) #[])) (
List.cons ((nat_lit 135),(Obj.mk (Value.type "tuple") none (Data.seq #[(Value.str "instream" 445),(Value.str "lineno" 446),(Value.str "pushback" 447),(Value.str "whitespace" 448)] 0) #[])) (
List.cons ((nat_lit 136),(Obj.mk (Value.type "dict") none (Data.dict #[(DictEntry.mk (PyData.keyHash P "__module__") (Value.str "__module__" 406) (Value.str "cpy313.netrc" 397)),(DictEntry.mk (PyData.keyHash P "__firstlineno__") (Value.str "__firstlineno__" 410) (Value.int (176:Int) 409)),(DictEntry.mk (PyData.keyHash P "__init__") (Value.str "__init__" 418) (Value.ref 113)),(DictEntry.mk (PyData.keyHash P "_read_char") (Value.str "_read_char" 426) (Value.ref 120)),(DictEntry.mk (PyData.keyHash P "get_token") (Value.str "get_token" 436) (Value.ref 127)),(DictEntry.mk (PyData.keyHash P "push_token") (Value.str "push_token" 444) (Value.ref 134)),(DictEntry.mk (PyData.keyHash P "__static_attributes__") (Value.str "__static_attributes__" 449) (Value.ref 135)),(DictEntry.mk (PyData.keyHash P "__dict__") (Value.str "__dict__" 451) (Value.ref 138)),(DictEntry.mk (PyData.keyHash P "__weakref__") (Value.str "__weakref__" 453) (Value.ref 139)),(DictEntry.mk (PyData.keyHash P "__doc__") (Value.str "__doc__" 454) Value.none)] 4) #[])) (
List.cons ((nat_lit 137),(Obj.mk (Value.type "type") none (Data.cls (PySem.ClassData.mk "_netrclex" [(Value.type "object")] [(Value.ref 137),(Value.type "object")] 136 "_netrclex" true [] [] false none false)) #[none,none,(some (Value.str "_netrclex" 399)),(some (Value.str "_netrclex" 407)),(some (Value.builtin "object.__new__")),(some (Value.bool true))])) (
List.cons ((nat_lit 138),(Obj.mk (Value.type "getset_descriptor") none (Data.fields #[(Value.str "__dict__" 450),(Value.ref 137),(Value.builtin "function.__dict__"),(Value.builtin "function.__dict__#set")]) #[])) (
List.cons ((nat_lit 139),(Obj.mk (Value.type "getset_descriptor") none (Data.fields #[(Value.str "__weakref__" 452),(Value.ref 137),(Value.builtin "ExceptionGroup.__weakref__"),Value.none]) #[])) (
List.cons ((nat_lit 142),(Obj.mk (Value.type "tuple") none (Data.seq #[] 0) #[])) (
List.cons ((nat_lit 144),(Obj.mk (Value.type "tuple") none (Data.seq #[(Value.str "text" 462),(Value.str "stream" 463)] 0) #[])) (
List.cons ((nat_lit 145),(Obj.mk (Value.type "tuple") none (Data.seq #[(Value.str "signs" 464)] 0) #[])) (
List.cons ((nat_lit 147),(Obj.mk (Value.type "code") none (Data.fields #[(Value.str "_law_lexer" 459),(Value.str "_law_lexer" 460),(Value.str "/claim/cut.py" 461),(Value.int (220:Int) 0),(Value.int (1:Int) 0),(Value.int (0:Int) 0),(Value.int (0:Int) 0),(Value.int (3:Int) 0),(Value.ref 142),(Value.bool true),(Value.int (181:Int) 0),(Value.ref 143),Value.none,(Value.ref 144),(Value.ref 145),(Value.ref 146),(Value.int (465:Int) 0),(Value.int (220:Int) 0),(Value.str "/claim/cut.py" 466)]) #[])) (
List.cons ((nat_lit 148),(Obj.mk (Value.type "function") none (Data.func (FuncData.mk "_law_lexer" "_law_lexer" (fA (stm 23)) (fB (stm 23)) (fS (stm 23)) 3 [] Value.none Value.none Value.none (Value.str "law_wc0018_02" 457) none (Value.ref 147) Value.none 0)) #[])) List.nil)))))))))))))))))))))))))))))))))))))))))
noncomputable abbrev kfA:List Addr:=[2,3,31,32,34,35,36,38,39,41,42,43,107,109,110,112,113,114,116,117,119,120,121,123,124,126,127,128,130,131,133,134,135,136,137,138,139,142,144,145,147,148]
end Mine
end
section
open PySem PySem.W PyProof.Rows
namespace Mine
noncomputable def kg (P:Params):Frag:=List.cons ((nat_lit 1),(Obj.mk (Value.type "dict") none (Data.dict #[(DictEntry.mk (PyData.keyHash P "builtins") (Value.str "builtins" 162) (Value.ref 4)),(DictEntry.mk (PyData.keyHash P "__main__") (Value.str "__main__" 163) (Value.ref 5))] 2) #[])) (
List.cons ((nat_lit 20),(Obj.mk (Value.type "code") none (Data.fields #[(Value.str "_div2n1n" 191),(Value.str "_div2n1n" 192),(Value.str "/claim/cut.py" 193),(Value.int (3:Int) 0),(Value.int (3:Int) 0),(Value.int (0:Int) 0),(Value.int (0:Int) 0),(Value.int (3:Int) 0),(Value.ref 15),(Value.bool Bool.true),(Value.int (181:Int) 0),(Value.ref 16),Value.none,(Value.ref 17),(Value.ref 18),(Value.ref 19),(Value.int (205:Int) 0),(Value.int (3:Int) 0),(Value.str "/claim/cut.py" 206)]) #[])) (
List.cons ((nat_lit 21),(Obj.mk (Value.type "function") none (Data.func (FuncData.mk "_div2n1n" "_div2n1n" (fA (stm 2)) (fB (stm 2)) (fS (stm 2)) 3 [] Value.none Value.none Value.none (Value.str "cpy313._pylong" 187) none (Value.ref 20) Value.none 0)) #[])) (
List.cons ((nat_lit 48),(Obj.mk (Value.type "code") none (Data.fields #[(Value.str "_divmod_pos" 244),(Value.str "_divmod_pos" 245),(Value.str "/claim/cut.py" 246),(Value.int (54:Int) 0),(Value.int (2:Int) 0),(Value.int (0:Int) 0),(Value.int (0:Int) 0),(Value.int (3:Int) 0),(Value.ref 43),(Value.bool Bool.true),(Value.int (181:Int) 0),(Value.ref 44),Value.none,(Value.ref 45),(Value.ref 46),(Value.ref 47),(Value.int (256:Int) 0),(Value.int (54:Int) 0),(Value.str "/claim/cut.py" 257)]) #[])) (
List.cons ((nat_lit 49),(Obj.mk (Value.type "function") none (Data.func (FuncData.mk "_divmod_pos" "_divmod_pos" (fA (stm 6)) (fB (stm 6)) (fS (stm 6)) 3 [] Value.none Value.none Value.none (Value.str "cpy313._pylong" 187) none (Value.ref 48) Value.none 0)) #[])) (
List.cons ((nat_lit 55),(Obj.mk (Value.type "code") none (Data.fields #[(Value.str "int_divmod" 259),(Value.str "int_divmod" 260),(Value.str "/claim/cut.py" 261),(Value.int (65:Int) 0),(Value.int (2:Int) 0),(Value.int (0:Int) 0),(Value.int (0:Int) 0),(Value.int (3:Int) 0),(Value.ref 50),(Value.bool Bool.true),(Value.int (181:Int) 0),(Value.ref 51),Value.none,(Value.ref 52),(Value.ref 53),(Value.ref 54),(Value.int (266:Int) 0),(Value.int (65:Int) 0),(Value.str "/claim/cut.py" 267)]) #[])) (
List.cons ((nat_lit 56),(Obj.mk (Value.type "function") none (Data.func (FuncData.mk "int_divmod" "int_divmod" (fA (stm 7)) (fB (stm 7)) (fS (stm 7)) 3 [] Value.none Value.none Value.none (Value.str "cpy313._pylong" 187) none (Value.ref 55) Value.none 0)) #[])) (
List.cons ((nat_lit 62),(Obj.mk (Value.type "code") none (Data.fields #[(Value.str "rgb_to_hls" 283),(Value.str "rgb_to_hls" 284),(Value.str "/claim/cut.py" 285),(Value.int (80:Int) 0),(Value.int (3:Int) 0),(Value.int (0:Int) 0),(Value.int (0:Int) 0),(Value.int (3:Int) 0),(Value.ref 57),(Value.bool Bool.true),(Value.int (181:Int) 0),(Value.ref 58),Value.none,(Value.ref 59),(Value.ref 60),(Value.ref 61),(Value.int (299:Int) 0),(Value.int (80:Int) 0),(Value.str "/claim/cut.py" 300)]) #[])) (
List.cons ((nat_lit 63),(Obj.mk (Value.type "function") none (Data.func (FuncData.mk "rgb_to_hls" "rgb_to_hls" (fA (stm 12)) (fB (stm 12)) (fS (stm 12)) 3 [] Value.none Value.none Value.none (Value.str "cpy313.colorsys" 269) none (Value.ref 62) Value.none 0)) #[])) (
List.cons ((nat_lit 69),(Obj.mk (Value.type "code") none (Data.fields #[(Value.str "hls_to_rgb" 302),(Value.str "hls_to_rgb" 303),(Value.str "/claim/cut.py" 304),(Value.int (103:Int) 0),(Value.int (3:Int) 0),(Value.int (0:Int) 0),(Value.int (0:Int) 0),(Value.int (3:Int) 0),(Value.ref 64),(Value.bool Bool.true),(Value.int (181:Int) 0),(Value.ref 65),Value.none,(Value.ref 66),(Value.ref 67),(Value.ref 68),(Value.int (310:Int) 0),(Value.int (103:Int) 0),(Value.str "/claim/cut.py" 311)]) #[])) (
List.cons ((nat_lit 70),(Obj.mk (Value.type "function") none (Data.func (FuncData.mk "hls_to_rgb" "hls_to_rgb" (fA (stm 13)) (fB (stm 13)) (fS (stm 13)) 3 [] Value.none Value.none Value.none (Value.str "cpy313.colorsys" 269) none (Value.ref 69) Value.none 0)) #[])) (
List.cons ((nat_lit 76),(Obj.mk (Value.type "code") none (Data.fields #[(Value.str "_v" 313),(Value.str "_v" 314),(Value.str "/claim/cut.py" 315),(Value.int (112:Int) 0),(Value.int (3:Int) 0),(Value.int (0:Int) 0),(Value.int (0:Int) 0),(Value.int (3:Int) 0),(Value.ref 71),(Value.bool Bool.true),(Value.int (181:Int) 0),(Value.ref 72),Value.none,(Value.ref 73),(Value.ref 74),(Value.ref 75),(Value.int (319:Int) 0),(Value.int (112:Int) 0),(Value.str "/claim/cut.py" 320)]) #[])) (
List.cons ((nat_lit 77),(Obj.mk (Value.type "function") none (Data.func (FuncData.mk "_v" "_v" (fA (stm 14)) (fB (stm 14)) (fS (stm 14)) 3 [] Value.none Value.none Value.none (Value.str "cpy313.colorsys" 269) none (Value.ref 76) Value.none 0)) #[])) (
List.cons ((nat_lit 83),(Obj.mk (Value.type "code") none (Data.fields #[(Value.str "rgb_to_hsv" 322),(Value.str "rgb_to_hsv" 323),(Value.str "/claim/cut.py" 324),(Value.int (121:Int) 0),(Value.int (3:Int) 0),(Value.int (0:Int) 0),(Value.int (0:Int) 0),(Value.int (3:Int) 0),(Value.ref 78),(Value.bool Bool.true),(Value.int (181:Int) 0),(Value.ref 79),Value.none,(Value.ref 80),(Value.ref 81),(Value.ref 82),(Value.int (337:Int) 0),(Value.int (121:Int) 0),(Value.str "/claim/cut.py" 338)]) #[])) (
List.cons ((nat_lit 84),(Obj.mk (Value.type "function") none (Data.func (FuncData.mk "rgb_to_hsv" "rgb_to_hsv" (fA (stm 15)) (fB (stm 15)) (fS (stm 15)) 3 [] Value.none Value.none Value.none (Value.str "cpy313.colorsys" 269) none (Value.ref 83) Value.none 0)) #[])) (
List.cons ((nat_lit 90),(Obj.mk (Value.type "code") none (Data.fields #[(Value.str "hsv_to_rgb" 340),(Value.str "hsv_to_rgb" 341),(Value.str "/claim/cut.py" 342),(Value.int (140:Int) 0),(Value.int (3:Int) 0),(Value.int (0:Int) 0),(Value.int (0:Int) 0),(Value.int (3:Int) 0),(Value.ref 85),(Value.bool Bool.true),(Value.int (181:Int) 0),(Value.ref 86),Value.none,(Value.ref 87),(Value.ref 88),(Value.ref 89),(Value.int (351:Int) 0),(Value.int (140:Int) 0),(Value.str "/claim/cut.py" 352)]) #[])) (
List.cons ((nat_lit 91),(Obj.mk (Value.type "function") none (Data.func (FuncData.mk "hsv_to_rgb" "hsv_to_rgb" (fA (stm 16)) (fB (stm 16)) (fS (stm 16)) 3 [] Value.none Value.none Value.none (Value.str "cpy313.colorsys" 269) none (Value.ref 90) Value.none 0)) #[])) (
List.cons ((nat_lit 92),(Obj.mk (Value.type "dict") none (Data.dict #[(DictEntry.mk (1:Int) (Value.int (1:Int) 356) (Value.str "OPTIMIZED" 357)),(DictEntry.mk (2:Int) (Value.int (2:Int) 358) (Value.str "NEWLOCALS" 359)),(DictEntry.mk (4:Int) (Value.int (4:Int) 360) (Value.str "VARARGS" 361)),(DictEntry.mk (8:Int) (Value.int (8:Int) 362) (Value.str "VARKEYWORDS" 363)),(DictEntry.mk (16:Int) (Value.int (16:Int) 364) (Value.str "NESTED" 365)),(DictEntry.mk (32:Int) (Value.int (32:Int) 366) (Value.str "GENERATOR" 367)),(DictEntry.mk (64:Int) (Value.int (64:Int) 368) (Value.str "NOFREE" 369)),(DictEntry.mk (128:Int) (Value.int (128:Int) 370) (Value.str "COROUTINE" 371)),(DictEntry.mk (256:Int) (Value.int (256:Int) 372) (Value.str "ITERABLE_COROUTINE" 373)),(DictEntry.mk (512:Int) (Value.int (512:Int) 374) (Value.str "ASYNC_GENERATOR" 375))] 10) #[])) (
List.cons ((nat_lit 98),(Obj.mk (Value.type "code") none (Data.fields #[(Value.str "pretty_flags" 387),(Value.str "pretty_flags" 388),(Value.str "/claim/cut.py" 389),(Value.int (163:Int) 0),(Value.int (1:Int) 0),(Value.int (0:Int) 0),(Value.int (0:Int) 0),(Value.int (3:Int) 0),(Value.ref 93),(Value.bool Bool.true),(Value.int (181:Int) 0),(Value.ref 94),Value.none,(Value.ref 95),(Value.ref 96),(Value.ref 97),(Value.int (394:Int) 0),(Value.int (163:Int) 0),(Value.str "/claim/cut.py" 395)]) #[])) (
List.cons ((nat_lit 99),(Obj.mk (Value.type "function") none (Data.func (FuncData.mk "pretty_flags" "pretty_flags" (fA (stm 19)) (fB (stm 19)) (fS (stm 19)) 3 [] Value.none Value.none Value.none (Value.str "cpy313.dis" 354) none (Value.ref 98) Value.none 0)) #[])) (
List.cons ((nat_lit 152),(Obj.mk (Value.type "code") none (Data.fields #[(Value.str "_law_diagram" 468),(Value.str "_law_diagram" 469),(Value.str "/claim/cut.py" 470),(Value.int (224:Int) 0),(Value.int (2:Int) 0),(Value.int (0:Int) 0),(Value.int (0:Int) 0),(Value.int (3:Int) 0),(Value.ref 149),(Value.bool Bool.true),(Value.int (181:Int) 0),(Value.ref 150),Value.none,Value.none,Value.none,(Value.ref 151),(Value.int (471:Int) 0),(Value.int (224:Int) 0),(Value.str "/claim/cut.py" 472)]) #[])) (
List.cons ((nat_lit 153),(Obj.mk (Value.type "function") none (Data.func (FuncData.mk "_law_diagram" "_law_diagram" (fA (stm 24)) (fB (stm 24)) (fS (stm 24)) 3 [] Value.none Value.none Value.none (Value.str "law_wc0018_02" 457) none (Value.ref 152) Value.none 0)) #[])) (
List.cons ((nat_lit 157),(Obj.mk (Value.type "code") none (Data.fields #[(Value.str "_law_painted" 474),(Value.str "_law_painted" 475),(Value.str "/claim/cut.py" 476),(Value.int (233:Int) 0),(Value.int (1:Int) 0),(Value.int (0:Int) 0),(Value.int (0:Int) 0),(Value.int (3:Int) 0),(Value.ref 154),(Value.bool Bool.true),(Value.int (181:Int) 0),(Value.ref 155),Value.none,Value.none,Value.none,(Value.ref 156),(Value.int (477:Int) 0),(Value.int (233:Int) 0),(Value.str "/claim/cut.py" 478)]) #[])) (
List.cons ((nat_lit 158),(Obj.mk (Value.type "function") none (Data.func (FuncData.mk "_law_painted" "_law_painted" (fA (stm 25)) (fB (stm 25)) (fS (stm 25)) 3 [] Value.none Value.none Value.none (Value.str "law_wc0018_02" 457) none (Value.ref 157) Value.none 0)) #[])) (
List.cons ((nat_lit 162),(Obj.mk (Value.type "code") none (Data.fields #[(Value.str "_law_marks" 480),(Value.str "_law_marks" 481),(Value.str "/claim/cut.py" 482),(Value.int (235:Int) 0),(Value.int (2:Int) 0),(Value.int (0:Int) 0),(Value.int (0:Int) 0),(Value.int (3:Int) 0),(Value.ref 159),(Value.bool Bool.true),(Value.int (181:Int) 0),(Value.ref 160),Value.none,Value.none,Value.none,(Value.ref 161),(Value.int (483:Int) 0),(Value.int (235:Int) 0),(Value.str "/claim/cut.py" 484)]) #[])) (
List.cons ((nat_lit 163),(Obj.mk (Value.type "function") none (Data.func (FuncData.mk "_law_marks" "_law_marks" (fA (stm 26)) (fB (stm 26)) (fS (stm 26)) 3 [] Value.none Value.none Value.none (Value.str "law_wc0018_02" 457) none (Value.ref 162) Value.none 0)) #[])) (
List.cons ((nat_lit 167),(Obj.mk (Value.type "code") none (Data.fields #[(Value.str "_law_changed" 486),(Value.str "_law_changed" 487),(Value.str "/claim/cut.py" 488),(Value.int (250:Int) 0),(Value.int (4:Int) 0),(Value.int (0:Int) 0),(Value.int (0:Int) 0),(Value.int (3:Int) 0),(Value.ref 164),(Value.bool Bool.true),(Value.int (181:Int) 0),(Value.ref 165),Value.none,Value.none,Value.none,(Value.ref 166),(Value.int (489:Int) 0),(Value.int (250:Int) 0),(Value.str "/claim/cut.py" 490)]) #[])) (
List.cons ((nat_lit 168),(Obj.mk (Value.type "function") none (Data.func (FuncData.mk "_law_changed" "_law_changed" (fA (stm 27)) (fB (stm 27)) (fS (stm 27)) 3 [] Value.none Value.none Value.none (Value.str "law_wc0018_02" 457) none (Value.ref 167) Value.none 0)) #[])) (
List.cons ((nat_lit 172),(Obj.mk (Value.type "code") none (Data.fields #[(Value.str "_law_mirrored" 492),(Value.str "_law_mirrored" 493),(Value.str "/claim/cut.py" 494),(Value.int (257:Int) 0),(Value.int (2:Int) 0),(Value.int (0:Int) 0),(Value.int (0:Int) 0),(Value.int (3:Int) 0),(Value.ref 169),(Value.bool Bool.true),(Value.int (181:Int) 0),(Value.ref 170),Value.none,Value.none,Value.none,(Value.ref 171),(Value.int (495:Int) 0),(Value.int (257:Int) 0),(Value.str "/claim/cut.py" 496)]) #[])) (
List.cons ((nat_lit 173),(Obj.mk (Value.type "function") none (Data.func (FuncData.mk "_law_mirrored" "_law_mirrored" (fA (stm 28)) (fB (stm 28)) (fS (stm 28)) 3 [] Value.none Value.none Value.none (Value.str "law_wc0018_02" 457) none (Value.ref 172) Value.none 0)) #[])) (
List.cons ((nat_lit 177),(Obj.mk (Value.type "code") none (Data.fields #[(Value.str "_law_rims" 498),(Value.str "_law_rims" 499),(Value.str "/claim/cut.py" 500),(Value.int (268:Int) 0),(Value.int (1:Int) 0),(Value.int (0:Int) 0),(Value.int (0:Int) 0),(Value.int (3:Int) 0),(Value.ref 174),(Value.bool Bool.true),(Value.int (181:Int) 0),(Value.ref 175),Value.none,Value.none,Value.none,(Value.ref 176),(Value.int (501:Int) 0),(Value.int (268:Int) 0),(Value.str "/claim/cut.py" 502)]) #[])) (
List.cons ((nat_lit 178),(Obj.mk (Value.type "function") none (Data.func (FuncData.mk "_law_rims" "_law_rims" (fA (stm 29)) (fB (stm 29)) (fS (stm 29)) 3 [] Value.none Value.none Value.none (Value.str "law_wc0018_02" 457) none (Value.ref 177) Value.none 0)) #[])) (
List.cons ((nat_lit 182),(Obj.mk (Value.type "code") none (Data.fields #[(Value.str "law" 504),(Value.str "law" 505),(Value.str "/claim/cut.py" 506),(Value.int (280:Int) 0),(Value.int (1:Int) 0),(Value.int (0:Int) 0),(Value.int (0:Int) 0),(Value.int (3:Int) 0),(Value.ref 179),(Value.bool Bool.true),(Value.int (181:Int) 0),(Value.ref 180),Value.none,Value.none,Value.none,(Value.ref 181),(Value.int (507:Int) 0),(Value.int (280:Int) 0),(Value.str "/claim/cut.py" 508)]) #[])) (
List.cons ((nat_lit 183),(Obj.mk (Value.type "function") none (Data.func (FuncData.mk "law" "law" (fA (stm 30)) (fB (stm 30)) (fS (stm 30)) 3 [] Value.none Value.none Value.none (Value.str "law_wc0018_02" 457) none (Value.ref 182) Value.none 0)) #[])) List.nil)))))))))))))))))))))))))))))))))
noncomputable abbrev kgA:List Addr:=[1,20,21,48,49,55,56,62,63,69,70,76,77,83,84,90,91,92,98,99,152,153,157,158,162,163,167,168,172,173,177,178,182,183]
noncomputable def kt:Frag:=[(6,{ cls:=.type "dict",data:=.dict #[] 0 }),(30,tabObj #[]),(37,tabObj #[]),(143,tabObj #[])]
noncomputable def kh (P:Params):Frag:=kf P ++ (kg P ++ kt)
noncomputable abbrev khA:List Addr:=kfA ++ (kgA ++ [6,30,37,143])
theorem zU (P:Params):khA = (kh P).map (·.1):=by kernel_rfl
theorem pC {a b:Frag} {h:Heap} (X:(a ++ b:Frag).In h):a.In h:=fun x o e=>X x o (by rw [List.lookup_append,e];rfl)
theorem nK {a b:Frag} {h:Heap} (X:(a ++ b:Frag).In h) (d:((b.map (·.1)).all fun x=>!(a.map (·.1)).contains x) = true):b.In h:=fun x o e=>X x o (by
 have hx:x∈b.map (·.1):=List.mem_map_of_mem (f:=(·.1)) (mem_of_lookupK e)
 have hn:a.lookup x = none:=by
  cases q:a.lookup x with
  | none=>rfl
  | some y =>
   have h1:=List.all_eq_true.mp d x hx
   have h2:x∈a.map (·.1):=List.mem_map_of_mem (f:=(·.1)) (mem_of_lookupK q)
   rw [List.contains_iff_mem.mpr h2] at h1;cases h1
 rw [List.lookup_append,hn];exact e)
end Mine
end
section
open PySem PySem.W PyProof.Rows
set_option maxHeartbeats 0
namespace Mine
noncomputable def q1:Program:=view PySem.Challenge.pw_wc0018_02 [30]
noncomputable def sN:List Str:=PySem.Challenge.pw_wc0018_02.boundNames.take 26
noncomputable def hk1:Hook:=kHook kh khA zU
theorem zK:LeftO PySem.Challenge.pw_wc0018_02 q1 sN (fun _=>true) hk1.obs hk1.val 2540:=by
 refine LeftO.of_split "special-get-raises" ?_
 intro w
 kernel_rfl
theorem zJ:PySem.Challenge.rw_wc0018_02.wellSaid = true:=by kernel_rfl
end Mine
end
section
open PySem PySem.W PySem.Spec PySem.Calls PyProof.Rows
namespace Mine
section
variable {prog:Program} {w:World} {K:Frag} {f:Value} {args:Args} {news others:List (Addr × Obj)} {d u:Nat} {R:Value→List (Addr × Obj)→Prop} {A:Around} {s:Shared} {g:Heap} {L:Addr} {m mg mb:Str→Option Value} {p:Program} {loose:List Str} {mean:ExcName→Option Value}
theorem ba.use {R':Result→Shared→Prop} (C:ba prog w K f args news d u R) (hh:A.handled = none) (F:Fr g L s.heap m) (X:K.In g) (N:News g L s.heap (news ++ others)) (ho:∀ q∈others,∀ p∈news,q.1 ≠ p.1) (T:Top p loose mean mg mb g) (hd:A.depth + d < recursionLimit) (hu:A.units + u < cLine)
  (h:∀ v news' h' tk',Fr g L h' m→News g L h' (news' ++ others)→(∀ q∈others,∀ p∈news',q.1 ≠ p.1)→R v news'→R' (.ok (.ret v)) { s with heap:=h',toks:=tk' }):codeAny (model prog w) A (.call f args) R' s:=by
 have nm:∀ b o,g.get? b = some o→b ∉ news.map (·.1):=fun b o e q=>by
  obtain ⟨p,hp,rfl⟩:=List.mem_map.mp q
  rw [(N p (List.mem_append_left _ hp)).2.2] at e;exact no1 e
 have st:g.StaysIn (hideAll s.heap (news.map (·.1))):=fun b o e=>hideAll_get _ (F.keep b o e) (nm b o e)
 refine x34 F.ns fun oL es ep hL hLd hLk hLf=>?_
 have nL:L ∉ news.map (·.1):=fun q=>by
  refine x12 (List.mem_map.mp q) fun p hp e=>?_
  exact (N p (List.mem_append_left _ hp)).2.1 e
 have hLg:=hideAll_get (news.map (·.1)) hL nL
 refine C p loose mean mg mb A s R' hh (X.keeps st) (fun p hp=>(N p (List.mem_append_left _ hp)).1) (T.keeps st) hd hu fun v news' h' tk' hk hn r=>?_
 have ot:∀ q∈others,q.1 ∉ news.map (·.1):=fun q hq z=>by
  refine x12 (List.mem_map.mp z) fun p hp e=>?_
  exact ho q hq p hp e.symm
 refine h v news' h' tk' ⟨⟨oL,es,ep,hk _ _ nL hL,hLd,hLk,hLf⟩,fun b o e=>hk b o (nm b o e) (F.keep b o e),F.above⟩ (fun p hp=>?_) (fun q hq p hp e=>?_) r
 ·rcases List.mem_append.mp hp with hp | hp
  ·refine ⟨(hn p hp).1,fun q=>?_, ?_⟩
   ·have:=(hn p hp).2;rw [q,hLg] at this;exact no2 this
   ·cases q:g.get? p.1 with
    | none=>rfl
    | some o=>have:=(hn p hp).2;rw [st _ _ q] at this;exact no2 this
  ·exact ⟨hk _ _ (ot p hp) (N p (List.mem_append_right _ hp)).1,(N p (List.mem_append_right _ hp)).2⟩
 ·have:=(hn p hp).2
  rw [← e,hideAll_get _ (N q (List.mem_append_right _ hq)).1 (ot q hq)] at this
  exact no2 this
end
section
variable {prog:Program} {w:World} {K:Frag} {news:List (Addr × Obj)} {d u:Nat} {R:Value→List (Addr × Obj)→Prop} {name qual:Str} {params:Arguments} {body:PySem.Expr} {scope:Scope} {cl:List (Str × Addr)} {pm ctv:Value} {f c':Addr} {oc:Obj} {cvs:Array Value} {ct:Tok} {args:Args} {binds:List (Str × Value)}
theorem ur (ho:(f,kla_obj name qual params body scope cl pm c' ctv)∈news) (hoc:(c',oc)∈news) (hd':oc.data = .fields cvs) (hv:cvs[1]? = some (.str qual ct))
  (hbind:bindArgs (kla_fn name qual params body scope cl pm (.ref c') ctv) args = pure binds) (hloc:∀ y∈binds,scope.names.lookup y.1 = some .local)
  (hco:scope.isCoroutine = false) (hgen:scope.isGenerator = false) (hk:scope.kind = .function) (hcell:∀ x∈scope.names,x.2 ≠ .cell)
  (h:∀ (p:Program) (loose:List Str) (mean:ExcName→Option Value) (mg mb:Str→Option Value) (dp un:Nat) (gd:Option (List Code)) (fr:Option (List Env)) (g:Heap) (L:Addr) (s:Shared),
   Fr g L s.heap (fun y=>binds.reverse.lookup y)→K.In g→News g L s.heap news→Top p loose mean mg mb g→dp + d < recursionLimit→un + u < cLine→(∀ p∈news,p.1 < L) →
   wpAny (model prog w) (eG dp un gd fr) (eval body (envX qual scope L f (.ref c') cl)) (fun v=>aW s g L R (.ret v)) NoE s):ba prog w K (.ref f) args news (d + 1) (u + 3) R:=by
 intro p loose mean mg mb A s R' hh X N T hd hu ret
 have up:∀ {b o},(hideAll s.heap (news.map (·.1))).get? b = some o→s.heap.get? b = some o:=of_hideAll _
 refine kla_callFunE (by omega) (N _ ho) rfl hco hgen rfl ⟨c',oc,cvs,ct,rfl,N _ hoc,hd',hv⟩ ?_
 rw [hbind]
 refine wpAny_pure (wpAny_newFunctionEnv hcell hloc (fun h₁ hns hsb=>⟨((T.nolimit).keeps fun _ _ e=>up e).fresh _ hsb, ?_⟩) hk)
 show codeAny _ _ (.expr body (envX qual scope s.heap.objs.size f (.ref c') cl)) _ _
 have hk₁:∀ b o,s.heap.get? b = some o→h₁.get? b = some o:=fun b o e=>hsb.extBut b o (Nat.ne_of_lt (Heap.lt_size e)) (Heap.get?_push_of_some _ e)
 have w1:=h p loose mean mg mb (A.depth + 1) (A.units + 3) A.guards (A.frames.map ((envX qual scope s.heap.objs.size f (.ref c') cl) :: ·)) _ s.heap.objs.size { s with heap:=h₁,toks:=s.toks + binds.length } ⟨hns,fun b o e=>hk₁ b o (up e),Nat.le_of_eq (hideAll_size _ _)⟩ X
  (fun p hp=>⟨hk₁ _ _ (N p hp),Nat.ne_of_lt (Heap.lt_size (N p hp)),hideAll_none _ (List.mem_map_of_mem hp)⟩) T (by omega) (by omega) (fun p hp=>Heap.lt_size (N p hp))
 refine kla_codeExpr ?_
 have hAd:A.deeper (envX qual scope s.heap.objs.size f (.ref c') cl) = eG (A.depth + 1) (A.units + 3) A.guards (A.frames.map ((envX qual scope s.heap.objs.size f (.ref c') cl) :: ·)):=by
  obtain ⟨hd',dp,fr,gs,un⟩:=A
  simp only at hh
  subst hh
  rfl
 rw [hAd]
 refine wpAny_mono w1 (fun v s' hq=>?_) fun _ _ x=>x.elim
 refine qo hq fun h' tk' m' news' F' N' r=>?_
 exact ret _ news' h' tk' (fun b o hb e=>F'.keep b o (hideAll_get _ e hb)) (fun p hp=>⟨(N' p hp).1,(N' p hp).2.2⟩) r
end
theorem News.swap {g h:Heap} {L:Addr} {a b:List (Addr × Obj)} (N:News g L h (a ++ b)):News g L h (b ++ a):=fun p hp=>N p (List.mem_append.mpr (List.mem_append.mp hp).symm)
theorem tI {a b:List (Addr × Obj)} (h:((a ++ b).map (·.1)).Nodup):∀ q∈b,∀ p∈a,q.1 ≠ p.1:=fun q hq p hp e=>by
 rw [List.map_append,List.nodup_append] at h
 exact h.2.2 p.1 (List.mem_map_of_mem hp) q.1 (List.mem_map_of_mem hq) e.symm
theorem g6:∀ (l:List Value) (v:Value),kl_last (l ++ [v]) = some (l,v)
 | [],_=>rfl
 | x :: l,v=>by
  show (match kl_last (l ++ [v]) with | some (p,y)=>some (x :: p,y) | none=>some ([],x)) = _
  rw [g6 l v]
noncomputable def oQ (vs:List Value) (l:List Str):Prop:=List.casesOn l (vs = []) fun y ys=>∃ t r,vs = .str y t :: r∧StrsAre r ys
theorem iV {vs:List Value} {l:List Str} (h:StrsAre vs l):oQ vs l:=StrsAre.casesOn (motive:=fun vs l _=>oQ vs l) h rfl (@fun _ t _ _ h=>Exists.intro t (Exists.intro _ (And.intro rfl h)))
theorem strs_nil {vs:List Value} (h:StrsAre vs []):vs = []:=iV h
theorem strs_snoc {ys:List Str} {y:Str}:∀ {vs:List Value},StrsAre vs (ys ++ [y])→∃ vs' t,vs = vs' ++ [.str y t]∧StrsAre vs' ys:=by
 induction ys with
 | nil =>
  intro vs h
  obtain ⟨t,r,e,h⟩:=iV h
  have e2:=strs_nil h
  subst e2;subst e
  exact ⟨[],t,rfl,.nil⟩
 | cons x ys ih =>
  intro vs h
  obtain ⟨t,r,e,h⟩:=iV h
  obtain ⟨vs',u,e2,h'⟩:=ih h
  subst e2;subst e
  exact ⟨.str x t :: vs',u,rfl,.cons _ _ h'⟩
theorem sU {vs:List Value} {ys:List Str} {y:Str} {t:Tok} (h:StrsAre vs ys):StrsAre (vs ++ [.str y t]) (ys ++ [y]):=by
 induction h with
 | nil=>exact .cons _ t .nil
 | cons _ _ _ ih=>exact .cons _ _ ih
theorem gj {vs:List Value} {ys:List Str} (h:StrsAre vs ys):vs.length = ys.length:=by
 induction h with
 | nil=>rfl
 | cons a b _ ih=>simp [ih]
noncomputable def Stream (so:Obj) (dx:Addr):Prop:=so.cls = .type "function"∧so.dict = some dx∧∃ d,so.data = .func d
noncomputable abbrev jS:Str:="\n\t\r "
noncomputable abbrev bu (w:World) (line:Int) (tl k1 k2 k3 tw k4:Tok) (st pb:Addr):Obj :=
 dictOf [⟨PyData.keyHash w.params "lineno",.str "lineno" k1,.int line tl⟩,⟨PyData.keyHash w.params "instream",.str "instream" k2,.ref st⟩,⟨PyData.keyHash w.params "whitespace",.str "whitespace" k3,.str jS tw⟩,⟨PyData.keyHash w.params "pushback",.str "pushback" k4,.ref pb⟩] 4
end Mine
end
section
open PySem PySem.W PySem.Spec PySem.Calls PyProof.Rows
namespace Mine
noncomputable abbrev pw:Program:=PySem.Challenge.pw_wc0018_02
noncomputable def uA:PySem.Expr:=match bl (fBL (stm 23)) 1 with | .Assign _ (.Lambda _ b _ _) _=>b | _=>.Constant .none 0 ⟨0,0,0,0⟩
noncomputable def yV:Arguments:=match bl (fBL (stm 23)) 1 with | .Assign _ (.Lambda a _ _ _) _=>a | _=>default
noncomputable def yM:Scope:=match bl (fBL (stm 23)) 1 with | .Assign _ (.Lambda _ _ s _) _=>s | _=>default
noncomputable abbrev kM:Str:=(Str.ofString "_law_lexer" ++ Str.ofString ".<locals>.") ++ Str.ofString "<lambda>"
noncomputable abbrev eI (cell c2:Addr) (pm ctv:Value):Obj:=kla_obj "<lambda>" kM yV uA yM [("signs",cell)] pm c2 ctv
noncomputable def cT (oc:Obj) (q:Str):Prop:=∃ cvs ct,oc.data = .fields cvs∧cvs[1]? = some (.str q ct)
noncomputable abbrev gW (rf c2 cell sg:Addr) (pm ctv:Value) (oc2 co:Obj) (vs:List Value) (ep:Nat):List (Addr × Obj):=[(rf,eI cell c2 pm ctv),(c2,oc2),(cell,co),(sg,listOf vs.toArray ep)]
noncomputable def zB (rf c2 cell sg:Addr) (pm ctv:Value) (oc2 co:Obj):List Str→Value→List (Addr × Obj)→Prop
 | [],v,nw=>∃ t ep,v = .str "" t∧nw = gW rf c2 cell sg pm ctv oc2 co [] ep
 | c :: r,v,nw=>∃ t vs ep,v = .str c t∧nw = gW rf c2 cell sg pm ctv oc2 co vs ep∧StrsAre vs r.reverse
set_option maxHeartbeats 4000000 in
theorem Ap (w:World) {rf c2 cell sg:Addr} {pm ctv:Value} {oc2 co:Obj} (hc:cT oc2 kM) (hco:co.data = .cell (some (.ref sg))) (cs:List Str) (vs:List Value) (ep:Nat) (t:Tok) (hvs:StrsAre vs cs.reverse) (hcs:cs.length ≤ 1000) (n1:@Ne Nat rf sg) (n2:@Ne Nat c2 sg) (n3:@Ne Nat cell sg) :
  ba pw w (kf w.params) (.ref rf) ⟨[.int 1 t],[]⟩ (gW rf c2 cell sg pm ctv oc2 co vs ep) 5 40 (zB rf c2 cell sg pm ctv oc2 co cs):=by
 have:PySem.Challenge.rw_wc0018_02 = PySem.Challenge.rw_wc0018_02∧kf = kf:=by (k_fill;exact ⟨rfl,rfl⟩)
 clear this
 refine x22 hc fun cvs ct hd hv=>?_
 refine ur (name:="<lambda>") (qual:=kM) (params:=yV) (body:=uA) (scope:=yM) (cl:=[("signs",cell)]) (pm:=pm) (ctv:=ctv) (binds:=[("count",.int 1 t)]) (.head _) (.tail _ (.head _)) hd hv rfl (locs rfl) rfl rfl rfl ?_ ?_
 ·decide
 ·intro p loose mean mg mb dp un gd fr gh L s F X N T hdp hun hL
  conv in (eval uA _)=>arg 1;whnf
  dsimp only [gW] at N
  induction cs using List.casesOn with
  | nil =>
   have e:=strs_nil hvs
   subst e
   (repeat' first | ((with_reducible show wpAny _ _ (eval (PySem.Expr.Name _ _) _) _ _ _);k_dflt (refine' nameX_F (by k_asm) rfl (by k_mem) (by with_reducible assumption) ?_ rfl rfl;k_whole)) | walk1)
   exact aW.intro (by assumption) (by assumption) ⟨_,_,rfl,rfl⟩
  | cons c r =>
   obtain ⟨vs',u,rfl,hvs'⟩:=strs_snoc (by rw [List.reverse_cons] at hvs;exact hvs)
   have hl:(vs' ++ [Value.str c u]).length ≤ 1000:=by
    have:=gj hvs'
    simp only [List.length_append,List.length_reverse,List.length_cons,List.length_nil] at this hcs ⊢
    lia
   have hz:(vs' ++ [Value.str c u]).toArray.toList.length ≤ sizeLine:=by skip;exact Nat.le_trans hl (by decide)
   (repeat' first | ((with_reducible show wpAny _ _ (eval (PySem.Expr.Name _ _) _) _ _ _);k_dflt (refine' nameX_F (by k_asm) rfl (by k_mem) (by with_reducible assumption) ?_ rfl rfl;k_whole)) | walk1)
   refine kgr_truthy (vs:=vs' ++ [.str c u]) (by assumption) (by k_mem) rfl rfl (Nat.lt_of_le_of_lt hl (by decide)) ?_
   refine rwG (show (!(vs' ++ [Value.str c u]).isEmpty) = true by simp) ?_
   (repeat' first | ((with_reducible show wpAny _ _ (eval (PySem.Expr.Name _ _) _) _ _ _);k_dflt (refine' nameX_F (by k_asm) rfl (by k_mem) (by with_reducible assumption) ?_ rfl rfl;k_whole)) | ((with_reducible show wpAny _ _ (call (Value.builtin _) [Value.ref _]) _ _ _);k_dflt (refine' kl_pop (by k_asm) (by k_asm) (g6 _ _) (by k_upd) (by with_reducible assumption) ?_);intro h' F' N';try dsimp only [List.nil_append,List.cons_append] at N') | walk1)
   exact aW.intro (by assumption) (by assumption) ⟨_,_,_,rfl,rfl,hvs'⟩
end Mine
end
section
open PySem PySem.W PySem.Spec PySem.Calls PyProof.Rows
namespace Mine
noncomputable def sgs (cs:List Nat):List Str:=cs.map fun c=>⟨#[c]⟩
theorem aH {l:List Addr} (h:l.Nodup) (i j:Nat) {a b:Addr} (hij:Nat.blt i j = true) (ei:l[i]? = some a) (ej:l[j]? = some b):@Ne Nat a b:=fun e=>by
 have hlt:i < j:=Nat.le_of_ble_eq_true hij
 obtain ⟨hi,ei⟩:=List.getElem?_eq_some_iff.mp ei
 obtain ⟨hj,ej⟩:=List.getElem?_eq_some_iff.mp ej
 exact absurd (List.getElem_inj h |>.mp (ei.trans (e.trans ej.symm))) (Nat.ne_of_lt hlt)
theorem wI (r:List Nat):(sgs r).length = r.length:=List.length_map ..
structure Lx where
 (x d pb st dx rf c2 cell sg:Addr)
 (so oc2 co:Obj)
 (pm ctv:Value)
 (hs:Int)
 (tk k1 k2 k3 tw k4:Tok)
noncomputable abbrev Lx.N (a:Lx) (w:World) (line:Int) (tl:Tok) (pvs:List Value) (pe:Nat) (vs:List Value) (ep:Nat):List (Addr × Obj) :=
 [(a.x,instObj 137 a.d),(a.d,bu w line tl a.k1 a.k2 a.k3 a.tw a.k4 a.st a.pb),(a.pb,listOf pvs.toArray pe),(a.st,a.so),(a.dx,dj a.hs a.tk (.ref a.rf)),(a.rf,eI a.cell a.c2 a.pm a.ctv),(a.c2,a.oc2),(a.cell,a.co),(a.sg,listOf vs.toArray ep)]
noncomputable def Lx.addrs (a:Lx):List Addr:=[a.x,a.d,a.pb,a.st,a.dx,a.rf,a.c2,a.cell,a.sg]
structure Lx.Ok (a:Lx):Prop where
 st:Stream a.so a.dx
 code:cT a.oc2 kM
 cell:a.co.data = .cell (some (.ref a.sg))
 nd:a.addrs.Nodup
noncomputable def dG (a:Lx) (w:World) (line:Int) (pvs:List Value) (pe:Nat) (cs:List Nat) (v:Value) (nw:List (Addr × Obj)):Prop :=
 match cs with
 | []=>∃ t tl ep,v = .str "" t∧nw = a.N w line tl pvs pe [] ep
 | c :: r=>∃ t tl vs ep,v = .str ⟨#[c]⟩ t∧nw = a.N w (line + nl c) tl pvs pe vs ep∧StrsAre vs (sgs r).reverse
theorem bc (c k:Nat) (x:Str) (h:x = ⟨#[k]⟩):((⟨#[c]⟩:Str) == x) = (c == k):=by
 subst h
 by_cases e:c = k
 ·subst e;simp
 ·have:(⟨#[c]⟩:Str) ≠ ⟨#[k]⟩:=fun q=>e (by injection q with q;injection q with q;injection q)
  rw [beq_eq_false_iff_ne.mpr this,beq_eq_false_iff_ne.mpr e]
theorem rX:("\n":Str) = ⟨#[10]⟩:=by decide +kernel
theorem AS {c:Nat} (h:((⟨#[c]⟩:Str) == ("\n":Str)) = true):nl c = 1:=by
 rw [bc c 10 _ rX] at h;unfold nl;rw [h];rfl
theorem An {c:Nat} (h:((⟨#[c]⟩:Str) == ("\n":Str)) = false):nl c = 0:=by
 rw [bc c 10 _ rX] at h;unfold nl;rw [h];rfl
set_option maxHeartbeats 4000000 in
theorem rC (w:World) (a:Lx) (ok:a.Ok) (line:Int) (tl:Tok) (pvs:List Value) (pe:Nat) (cs:List Nat) (vs:List Value) (ep:Nat) (hvs:StrsAre vs (sgs cs).reverse) (hcs:cs.length ≤ 1000) :
  ba pw w (kf w.params) (.ref 120) ⟨[.ref a.x],[]⟩ (a.N w line tl pvs pe vs ep) 10 100 (dG a w line pvs pe cs):=by
 have:PySem.Challenge.rw_wc0018_02 = PySem.Challenge.rw_wc0018_02∧kf = kf:=by (k_fill;exact ⟨rfl,rfl⟩)
 clear this
 obtain ⟨x,d,pb,st,dx,rf,c2,cell,sg,so,oc2,co,pm,ctv,hs,tk,k1,k2,k3,tw,k4⟩:=a
 obtain ⟨⟨so1,so2,fd,so3⟩,hcode,hco,nd⟩:=ok
 dsimp only [Lx.N,Lx.addrs] at *
 k_dflt (refine' il (binds:=[("self",.ref x)]) ?k6 ?k7 ?k9 ?kB ?c2 ?c3 ?c4 ?c5 ?_;(case k6=>k_is);(case k7=>k_is);(case k9=>exact fun s=>BindsTo.of_eq rfl);(case kB=>exact locs rfl);(case c2=>exact rfl);(case c3=>exact rfl);(case c4=>exact rfl);(case c5=>decide))
 intro p loose mean mg mb dp un gd fr gh L s F X N T hdp hun hL
 conv in (execs _ _)=>arg 1;whnf
 k_steps
 refine mL (N (st,so) (by k_mem)).1 so1 so2 so3 (N (dx,dj hs tk (.ref rf)) (by k_mem)).1 ?_
 dsimp only
 refine callWith_F (FnAt.of (by assumption) (show (rf,eI cell c2 pm ctv)∈_ from by k_mem)) ?_
 k_steps
 have n1:@Ne Nat rf sg:=aH nd 5 8 rfl rfl rfl
 have n2:@Ne Nat c2 sg:=aH nd 6 8 rfl rfl rfl
 have n3:@Ne Nat cell sg:=aH nd 7 8 rfl rfl rfl
 have m0:@Ne Nat x d:=aH nd 0 1 rfl rfl rfl
 have m1:@Ne Nat pb d:=(aH nd 1 2 rfl rfl rfl).symm
 have m2:@Ne Nat st d:=(aH nd 1 3 rfl rfl rfl).symm
 have m3:@Ne Nat dx d:=(aH nd 1 4 rfl rfl rfl).symm
 have m4:@Ne Nat rf d:=(aH nd 1 5 rfl rfl rfl).symm
 have m5:@Ne Nat c2 d:=(aH nd 1 6 rfl rfl rfl).symm
 have m6:@Ne Nat cell d:=(aH nd 1 7 rfl rfl rfl).symm
 have m7:@Ne Nat sg d:=(aH nd 1 8 rfl rfl rfl).symm
 have hho:=tI (a:=gW rf c2 cell sg pm ctv oc2 co vs ep) (b:=[(x,instObj 137 d),(d,bu w line tl k1 k2 k3 tw k4 st pb),(pb,listOf pvs.toArray pe),(st,so),(dx,dj hs tk (.ref rf))]) (by
  simp only [gW,List.cons_append,List.nil_append,List.map_cons,List.map_nil]
  exact (List.perm_append_comm (l₁:=[x,d,pb,st,dx]) (l₂:=[rf,c2,cell,sg])).nodup_iff.mp nd)
 refine wpAny_call (ba.use (Ap w hcode hco (sgs cs) vs ep _ hvs (by rw [wI];exact hcs) n1 n2 n3) rfl (by assumption) X (News.swap (a:=[(x,instObj 137 d),(d,bu w line tl k1 k2 k3 tw k4 st pb),(pb,listOf pvs.toArray pe),(st,so),(dx,dj hs tk (.ref rf))]) (by assumption)) hho T (by dsimp only;lia) (by dsimp only;lia) fun v nw h' tk' F1 N1 ho1 R1=>?_)
 clear hho
 induction cs using List.casesOn with
 | nil =>
  obtain ⟨t1,ep1,rfl,rfl⟩:=R1
  replace N1:=News.swap N1
  dsimp only [gW,List.cons_append,List.nil_append] at N1
  k_steps
  exact aW.intro (by assumption) (by assumption) ⟨_,_,_,rfl,rfl⟩
 | cons c r =>
  obtain ⟨t1,vs1,ep1,rfl,rfl,S1⟩:=R1
  replace N1:=News.swap N1
  dsimp only [gW,List.cons_append,List.nil_append] at N1
  k_steps
  ·exact aW.intro (by assumption) (by assumption) ⟨_,_,_,_,rfl,by rw [AS (by assumption)];rfl,S1⟩
  ·exact aW.intro (by assumption) (by assumption) ⟨_,_,_,_,rfl,by rw [An (by assumption),Int.natCast_zero,Int.add_zero],S1⟩
end Mine
end
section
open PySem PySem.W PySem.Spec PySem.Calls PyProof.Rows
namespace Mine
noncomputable def AF (a:Lx) (w:World) (line:Int) (pvs:List Value) (y:Value) (vs:List Value) (ep:Nat) (v:Value) (nw:List (Addr × Obj)):Prop :=
 v = .none∧∃ tl pe,nw = a.N w line tl (pvs ++ [y]) pe vs ep
set_option maxHeartbeats 4000000 in
theorem xo (w:World) (a:Lx) (nd:a.addrs.Nodup) (line:Int) (tl:Tok) (pvs:List Value) (pe:Nat) (vs:List Value) (ep:Nat) (x:Str) (t:Tok) (hz:pvs.toArray.size ≤ sizeLine) :
  ba pw w (kf w.params) (.ref 134) ⟨[.ref a.x,.str x t],[]⟩ (a.N w line tl pvs pe vs ep) 10 100 (AF a w line pvs (.str x t) vs ep):=by
 have:PySem.Challenge.rw_wc0018_02 = PySem.Challenge.rw_wc0018_02∧kf = kf:=by (k_fill;exact ⟨rfl,rfl⟩)
 clear this
 obtain ⟨z,d,pb,st,dx,rf,c2,cell,sg,so,oc2,co,pm,ctv,hs,tk,k1,k2,k3,tw,k4⟩:=a
 dsimp only [Lx.N,Lx.addrs] at *
 k_dflt (refine' il (binds:=[("self",.ref z),("token",.str x t)]) ?k6 ?k7 ?k9 ?kB ?c2 ?c3 ?c4 ?c5 ?_;(case k6=>k_is);(case k7=>k_is);(case k9=>exact fun s=>BindsTo.of_eq rfl);(case kB=>exact locs rfl);(case c2=>exact rfl);(case c3=>exact rfl);(case c4=>exact rfl);(case c5=>decide))
 intro p loose mean mg mb dp un gd fr gh L s F X N T hdp hun hL
 conv in (execs _ _)=>arg 1;whnf
 have m0:@Ne Nat z pb:=aH nd 0 2 rfl rfl rfl
 have m1:@Ne Nat d pb:=aH nd 1 2 rfl rfl rfl
 have m2:@Ne Nat st pb:=(aH nd 2 3 rfl rfl rfl).symm
 have m3:@Ne Nat dx pb:=(aH nd 2 4 rfl rfl rfl).symm
 have m4:@Ne Nat rf pb:=(aH nd 2 5 rfl rfl rfl).symm
 have m5:@Ne Nat c2 pb:=(aH nd 2 6 rfl rfl rfl).symm
 have m6:@Ne Nat cell pb:=(aH nd 2 7 rfl rfl rfl).symm
 have m7:@Ne Nat sg pb:=(aH nd 2 8 rfl rfl rfl).symm
 (repeat' first | ((with_reducible show wpAny _ _ (call (Value.builtin _) [Value.ref _,_]) _ _ _);k_dflt (refine' append_K (by k_asm) (by k_asm) (by k_upd) ?_ (by with_reducible assumption);k_whole);intro h' F' N';try k_sweep) | walk1)
 rw [List.push_toArray] at N'
 exact aW.intro F' N' ⟨rfl,_,_,rfl⟩
end Mine
end
section
open PySem PySem.W PySem.Spec PySem.Calls PyProof.Rows
namespace Mine
noncomputable def Ao (w:World) (x d st:Addr) (v:Value) (nw:List (Addr × Obj)):Prop :=
 v = .none∧∃ pb tl k1 k2 k3 tw k4,nw = [(pb,listOf #[] 0),(x,instObj 137 d),(d,bu w 1 tl k1 k2 k3 tw k4 st pb)]∧x < pb∧d < pb
set_option maxHeartbeats 4000000 in
theorem sj (w:World) (x d st:Addr) (hdx:d < x) :
  ba pw w (kf w.params) (.ref 113) ⟨[.ref x,.ref st],[]⟩ [(x,instObj 137 d),(d,emptyDict)] 5 50 (Ao w x d st):=by
 have:PySem.Challenge.rw_wc0018_02 = PySem.Challenge.rw_wc0018_02∧kf = kf:=by (k_fill;exact ⟨rfl,rfl⟩)
 clear this
 k_dflt (refine' il (binds:=[("self",.ref x),("fp",.ref st)]) ?k6 ?k7 ?k9 ?kB ?c2 ?c3 ?c4 ?c5 ?_;(case k6=>k_is);(case k7=>k_is);(case k9=>exact fun s=>BindsTo.of_eq rfl);(case kB=>exact locs rfl);(case c2=>exact rfl);(case c3=>exact rfl);(case c4=>exact rfl);(case c5=>decide))
 intro p loose mean mg mb dp un gd fr gh L s F X N T hdp hun hL
 conv in (execs _ _)=>arg 1;whnf
 have m0:@Ne Nat x d:=Nat.ne_of_gt hdx
 have a1:x < L:=hL _ (.head _)
 have a2:d < L:=hL _ (.tail _ (.head _))
 k_steps
 exact aW.intro (by assumption) (by assumption) ⟨rfl,_,_,_,_,_,_,_,rfl,by assumption⟩
end Mine
end
section
open PySem PySem.W PySem.Spec PySem.Calls PyProof.Rows
namespace Mine
theorem mz:Manifest.owners.lookup (String.ofList ['r','o','t','a','r','e','t','i','_','e','l','b','a','l','l','a','c'].reverse) = some Manifest.sig_callable_iterator:=by kernel_rfl
theorem cC:Slot "callable_iterator" "__next__" "callable_iterator.__next__" :=
 .of (owner:="callable_iterator") (n:="__next__") (by skip;kernel_rfl) (by decide +kernel) (by decide +kernel) (by decide +kernel)
  (by first | exact .inl (by decide +kernel) | exact .inr (by decide +kernel)) (by skip;kernel_rfl)
theorem gC:entryFor table "callable_iterator.__next__" = some Builtin.«callable_iterator.__next__»:=entryFor_of_tree (by kernel_rfl)
theorem gQ (a:Value):argsOk "callable_iterator.__next__" ⟨[a],[]⟩:=by
 unfold argsOk;refine rwG (signature?_of (id:="callable_iterator.__next__") (n:=['_','_','t','x','e','n','_','_']) (o:=['r','o','t','a','r','e','t','i','_','e','l','b','a','l','l','a','c']) (by kernel_rfl) mz) ?_;kernel_rfl
theorem gH:Slot "callable_iterator" "__iter__" "callable_iterator.__iter__" :=
 .of (owner:="callable_iterator") (n:="__iter__") (by skip;kernel_rfl) (by decide +kernel) (by decide +kernel) (by decide +kernel)
  (by first | exact .inl (by decide +kernel) | exact .inr (by decide +kernel)) (by skip;kernel_rfl)
theorem oj (a:Value):argsOk "callable_iterator.__iter__" ⟨[a],[]⟩:=by
 unfold argsOk;refine rwG (signature?_of (id:="callable_iterator.__iter__") (n:=['_','_','r','e','t','i','_','_']) (o:=['r','o','t','a','r','e','t','i','_','e','l','b','a','l','l','a','c']) (by kernel_rfl) mz) ?_;kernel_rfl
theorem lS:entryFor table "callable_iterator.__iter__" = some Builtin.«dict_keyiterator.__iter__» :=
 entryFor_alias (id':="dict_keyiterator.__iter__") (by kernel_rfl) (by first | rfl | decide +kernel | (unfold String.splitOn;simp +decide [String.splitOnAux])) (by decide +kernel) (by kernel_rfl)
noncomputable abbrev c9 (M:Addr) (t:Tok):Obj:={ cls:=.type "callable_iterator",data:=.fields #[.ref M,.str "" t,.bool false] }
noncomputable abbrev mn:Obj:={ cls:=.type "callable_iterator",data:=.fields #[.none,.none,.bool true] }
section
variable {prog:Program} {w:World} {A:Around} {E:Value→Shared→Prop} {s:Shared}
theorem hO {M:Model} {f:Value} {Q:Value→Shared→Prop}
  (hc:codeAny M A (.call f ⟨[],[]⟩) (fun r s'=>match r with | .ok (.ret v)=>Q v s' | .ok _=>False | .error e=>E e s') s) :
  wpAny M A (callBorrowed f []) Q E s:=fun Γ p hΓ=>by
 refine wpCode_mono (fun r s' x=>?_) (hc _ p rfl (hΓ.enter _ none p (by intro x;exact no1 x)))
 rcases r with e | (v | _ | _ | _)
 ·exact x
 all_goals first | exact x | exact x.elim
theorem fU {I:Addr} {o:Obj} {Q:Value→Shared→Prop} (ho:s.heap.get? I = some o) (hc:o.cls = .type "callable_iterator") (h:Q (.ref I) s):wpAny (model prog w) A (pyIter (.ref I)) Q E s:=by
 have hT:s.TypeIs (.ref I) "callable_iterator":=⟨_,ho,hc⟩
 refine wpAny_pyIter_slot hT gH (wpAny_call_entry gH hT lS ?_ (oj _))
 show wpAny _ _ (ret (.ref I)) _ _ s
 exact wpAny_pure ⟨_,rfl,"callable_iterator",_,hT,cC.lookup,h⟩
theorem oJ {I:Addr} {Q:Option Value→Shared→Prop} (hh:A.handled = none) (ho:s.heap.get? I = some mn)
  (hQ:∀ h',(∀ b o,s.heap.get? b = some o→h'.get? b = some o)→Q none { s with heap:=h' }):wpAny (model prog w) A (pyNext (.ref I)) Q E s:=by
 have hT:s.TypeIs (.ref I) "callable_iterator":=⟨_,ho,rfl⟩
 unfold pyNext
 refine wpAny_bind (wpAny_attempt (wpAny_callSpecial?_slot (name:=Str.ofString "__next__") hT cC
  (wpAny_call_entry cC hT gC ?_ (gQ _))))
 unfold Builtin.«callable_iterator.__next__»
 refine wpAny_bind (wpAny_of_eq (a:=(Value.ref I,[])) rfl ?_)
 try dsimp only
 refine wpAny_bind (wpAny_field ho rfl (x:=.bool true) rfl ?_)
 refine rwG (if_pos (by rfl)) ?_
 refine wpAny_bind (wpAny_rule ?_)
 refine wpAny_bind ?_
 show wpAny _ _ (newExc (.type "StopIteration") [] >>= _) _ _ _
 refine wpAny_bind ?_
 simp only [newExc,newTuple]
 refine wpAny_bind (wpAny_newObj_type ?_ (by size_fits))
 refine wpAny_bind (m:=firstArgMember _ _) (wpAny_of_eq (a:=Value.none) (by first | rfl | (simp only [firstArgMember];rfl)) ?_)
 refine wpAny_newObj_type ?_ (by size_fits)
 simp only [raiseNew]
 refine wpAny_bind (wpAny_handled ?_)
 refine rwG (show A.in1.handled = none from hh) ?_
 refine wpAny_bind (wpAny_pure (wpAny_throw ?_))
 refine wpAny_bind (wpAny_isInstance (T:="StopIteration") (b:=true) ⟨_,Heap.get?_push_size _ rfl,rfl⟩ isSubtype_stop ?_)
 exact wpAny_pure (hQ _ fun b o e=>Heap.get?_push_of_some _ (Heap.get?_push_of_some _ e))
theorem vF {Q:Option Value→Shared→Prop} {K:Frag} {f x I B:Addr} {t0:Tok} {nw oth:List (Addr × Obj)} {d u:Nat} {R:Value→List (Addr × Obj)→Prop} {g:Heap} {L:Addr} {m:Str→Option Value} {p:Program} {loose:List Str} {mean:ExcName→Option Value} {mg mb:Str→Option Value} {fo:Obj} {fd:FuncData}
  (C:ba prog w K (.ref f) ⟨[.ref x],[]⟩ nw d u R) (hh:A.handled = none) (F:Fr g L s.heap m) (X:K.In g) (N:News g L s.heap (nw ++ ((I,c9 B t0) :: (B,methodObj (.ref f) (.ref x)) :: oth)))
  (ho:∀ q∈((I,c9 B t0) :: (B,methodObj (.ref f) (.ref x)) :: oth),∀ p∈nw,q.1 ≠ p.1) (hI:B ≠ I∧∀ p∈oth,p.1 ≠ I) (T:Top p loose mean mg mb g) (hf:g.get? f = some fo) (hfd:fo.data = .func fd)
  (hd:A.depth + d < recursionLimit) (hu:A.units + u + 1 < cLine) (hR:∀ v nw',R v nw'→∃ y t,v = .str y t)
  (hq:∀ y t nw' h' tk',Fr g L h' m→R (.str y t) nw'→(∀ q∈((I,c9 B t0) :: (B,methodObj (.ref f) (.ref x)) :: oth),∀ p∈nw',q.1 ≠ p.1) →
   (y ≠ ""→News g L h' (nw' ++ ((I,c9 B t0) :: (B,methodObj (.ref f) (.ref x)) :: oth))→Q (some (.str y t)) { s with heap:=h',toks:=tk' }) ∧
   (y = ""→News g L h' (nw' ++ ((I,mn) :: (B,methodObj (.ref f) (.ref x)) :: oth))→Q none { s with heap:=h',toks:=tk' })):wpAny (model prog w) A (pyNext (.ref I)) Q E s:=by
 have DI:=N (I,c9 B t0) (by simp)
 have DB:=N (B,methodObj (.ref f) (.ref x)) (by simp)
 have hT:s.TypeIs (.ref I) "callable_iterator":=⟨_,DI.1,rfl⟩
 unfold pyNext
 refine wpAny_bind (wpAny_attempt (wpAny_callSpecial?_slot (name:=Str.ofString "__next__") hT cC
  (wpAny_call_entry cC hT gC ?_ (gQ _))))
 unfold Builtin.«callable_iterator.__next__»
 refine wpAny_bind (wpAny_of_eq (a:=(Value.ref I,[])) rfl ?_)
 try dsimp only
 refine wpAny_bind (wpAny_field DI.1 rfl (x:=.bool false) rfl ?_)
 refine rwG (if_neg (by decide)) ?_
 refine wpAny_bind (wpAny_field DI.1 rfl (x:=.ref B) rfl ?_)
 refine wpAny_bind (wpAny_attempt ?_)
 unfold callOutOfASlot
 refine wpAny_bind ?_
 have kf:s.heap.get? f = some fo:=F.keep _ _ hf
 have bx:∀ {A':Around} {E':Value→Shared→Prop} {s':Shared} {Q':Bool→Shared→Prop},s'.heap.get? B = some (methodObj (.ref f) (.ref x))→s'.heap.get? f = some fo→Q' true s'→wpAny (model prog w) A' (borrowsExactly (.ref B)) Q' E' s':=fun h1 h2 q=>by
  unfold borrowsExactly
  refine wpAny_bind (wpAny_load h1 ?_)
  dsimp only
  refine rwG (if_pos (by decide)) ?_
  refine wpAny_bind (wpAny_load h2 ?_)
  refine rwG hfd ?_
  exact wpAny_pure q
 refine bx DB.1 kf ?_
 refine rwG (if_pos rfl) ?_
 refine hO (method_call DB.1 ?_)
 refine ba.use C hh F X N ho T (by show A.depth + d < _;exact hd) (by show A.units + 1 + u < _;lia) fun v nw' h' tk' F1 N1 ho1 r1=>?_
 obtain ⟨y,t,rfl⟩:=hR _ _ r1
 have D1:=N1 (I,c9 B t0) (by simp)
 have B1:=N1 (B,methodObj (.ref f) (.ref x)) (by simp)
 have k1:h'.get? f = some fo:=F1.keep _ _ hf
 dsimp only
 refine wpAny_bind (wpAny_field D1.1 rfl (x:=.bool false) rfl ?_)
 refine rwG (if_neg (by decide)) ?_
 refine wpAny_bind (wpAny_field D1.1 rfl (x:=.str "" t0) rfl ?_)
 refine wpAny_bind (wpAny_holding (wpAny_eqBool_str ?_))
 by_cases e:("":Str) = y
 ·(refine rwG (decide_eq_true e) ?_;refine rwG (if_neg (by decide)) ?_)
  refine wpAny_bind (wpAny_rule ?_)
  refine wpAny_bind ?_
  show wpAny _ _ (field (.ref I) 0 >>= _) _ _ _
  refine wpAny_bind (wpAny_field D1.1 rfl (x:=.ref B) rfl ?_)
  refine wpAny_bind ?_
  unfold slotLetsGo
  refine wpAny_bind (bx B1.1 k1 ?_)
  refine rwG (if_pos rfl) ?_
  refine wpAny_pure ?_
  refine wpAny_bind (wpAny_setField_rec D1.1 (by show 0 < 3;decide) fun h1 g1 s1=>?_)
  refine wpAny_bind (wpAny_setField_rec g1 (by show 1 < 3;decide) fun h2 g2 s2=>?_)
  refine wpAny_setField_rec g2 (by show 2 < 3;decide) fun h3 g3 s3=>?_
  have s4:Heap.SameBut I h' h3:=(s1.trans s2).trans s3
  show wpAny _ _ (newExc (.type "StopIteration") [] >>= _) _ _ _
  refine wpAny_bind ?_
  simp only [newExc,newTuple]
  refine wpAny_bind (wpAny_newObj_type ?_ (by size_fits))
  refine wpAny_bind (m:=firstArgMember _ _) (wpAny_of_eq (a:=Value.none) (by first | rfl | (simp only [firstArgMember];rfl)) ?_)
  refine wpAny_newObj_type ?_ (by size_fits)
  simp only [raiseNew]
  refine wpAny_bind (wpAny_handled ?_)
  refine rwG (show A.in1.handled = none from hh) ?_
  refine wpAny_bind (wpAny_pure (wpAny_throw ?_))
  refine wpAny_bind (wpAny_isInstance (T:="StopIteration") (b:=true) ⟨_,Heap.get?_push_size _ rfl,rfl⟩ isSubtype_stop ?_)
  have F2:=wW F1 D1.2.2 D1.2.1 s4
  refine wpAny_pure ((hq y t nw' _ _ ((F2.push _).push _) r1 ho1).2 e.symm fun p hp=>?_)
  have up:∀ {o1 o2 b o},h3.get? b = some o→((h3.push o1).push o2).get? b = some o:=fun e=>Heap.get?_push_of_some _ (Heap.get?_push_of_some _ e)
  rcases List.mem_append.mp hp with hp | hp
  ·have n:=N1 p (List.mem_append_left _ hp)
   exact ⟨up ((s4.2 p.1 (Ne.symm (ho1 _ (.head _) p hp))).trans n.1),n.2⟩
  ·rcases List.mem_cons.mp hp with rfl | hp
   ·exact ⟨up g3,D1.2⟩
   ·have n:=N1 p (List.mem_append_right _ (.tail _ hp))
    refine ⟨up ((s4.2 p.1 ?_).trans n.1),n.2⟩
    rcases List.mem_cons.mp hp with rfl | hp
    ·exact hI.1
    ·exact hI.2 p hp
 ·(refine rwG (decide_eq_false e) ?_;refine rwG (if_pos (by decide)) ?_)
  exact wpAny_pure ⟨_,rfl,wpAny_pure ((hq y t nw' h' tk' F1 r1 ho1).1 (Ne.symm e) N1)⟩
theorem qi (a b:Value):argsOk "iter" ⟨[a,b],[]⟩:=by unfold argsOk;kernel_rfl
theorem mH:typeLookup (.type "method") "__call__" = pure (some (.builtin "method.__call__")):=by skip;kernel_rfl
theorem rW {B:Addr} {f self:Value} {t0:Tok} {news:List (Addr × Obj)} {g:Heap} {L:Addr} {m:Str→Option Value} {Q:Value→Shared→Prop} (F:Fr g L s.heap m) (N:News g L s.heap news) (hB:(B,methodObj f self)∈news)
  (h:∀ I h',Fr g L h' m→News g L h' ((I,c9 B t0) :: news)→(∀ p∈news,p.1 < I)→Q (.ref I) { s with heap:=h' }):wpAny (model prog w) A (call (.builtin "iter") [.ref B,.str "" t0]) Q E s:=by
 have hT:s.TypeIs (.ref B) "method":=⟨_,(N _ hB).1,rfl⟩
 refine call_function_entry (by decide +kernel) (by decide +kernel) kdk_entry_iter (qi _ _) ?_
 unfold Builtin.«iter»
 refine wpAny_bind (m:=someArgs "iter" 1 2 _) (wpAny_of_eq (a:=[Value.ref B,Value.str "" t0]) (by first | rfl | kernel_rfl!) ?_)
 dsimp only
 refine wpAny_bind (wpAny_specialOf hT mH ?_)
 refine rwG (if_neg (by decide)) ?_
 refine wpAny_bind ?_
 refine wpAny_rule ?_
 refine wpAny_bind ?_
 unfold newFields
 refine wpAny_newObj_type ?_ (by size_fits)
 exact wpAny_pure ⟨_,rfl,h _ _ (F.push _) (News.push F N _ rfl) (fun q hq=>Heap.lt_size (N q hq).1)⟩
end
end Mine
end
section
open PySem PySem.W PySem.Spec PySem.Calls PyProof.Rows
namespace Mine
noncomputable def Rst (a:Lx) (pe:Nat) (I B:Addr) (t0:Tok) (alive:Bool) (cs:List Nat) (R:List (Addr × Obj)):Prop :=
 ∃ vs ep,StrsAre vs (sgs cs).reverse∧R = [(a.pb,listOf ([]:List Value).toArray pe),(a.st,a.so),(a.dx,dj a.hs a.tk (.ref a.rf)),(a.rf,eI a.cell a.c2 a.pm a.ctv),(a.c2,a.oc2),(a.cell,a.co),(a.sg,listOf vs.toArray ep),(I,if alive then c9 B t0 else mn),(B,methodObj (.ref 120) (.ref a.x))]
inductive aq (a:Lx) (w:World) (pe:Nat) (I B:Addr) (t0:Tok) (line:Int) (tok cs:List Nat) (n:Nat) (g:Heap) (L:Addr) (m:Str→Option Value) (h:Heap) (alive:Bool):Prop
 | mk (u tl:Tok) (R:List (Addr × Obj)) (self:m "self" = some (.ref a.x)) (fit:m "fiter" = some (.ref I)) (tk:m "token" = some (.str ⟨tok.reverse.toArray⟩ u)) (F:Fr g L h m)
  (N:News g L h ((a.x,instObj 137 a.d) :: (a.d,bu w (line + n) tl a.k1 a.k2 a.k3 a.tw a.k4 a.st a.pb) :: R)) (hs:Rst a pe I B t0 alive cs R) (sm:cs.length + tok.length ≤ 1000)
section
variable {a:Lx} {w:World} {pe:Nat} {I B:Addr} {t0:Tok} {line:Int} {tok cs r:List Nat} {c n:Nat} {g:Heap} {L:Addr} {m:Str→Option Value} {h:Heap} {al:Bool}
theorem aq.sm (S:aq a w pe I B t0 line tok cs n g L m h al):cs.length + tok.length ≤ 1000:=by cases S;assumption
theorem xr {t:List Nat} {k:Nat} (h:k + t.length ≤ 1000):([]:List Nat).length + t.length ≤ 1000:=by simp only [List.length_nil];lia
theorem xW {l t:List Nat} (e:l = c :: r) (h:l.length + t.length ≤ 1000):r.length + t.length ≤ 1000:=by subst e;simp only [List.length_cons] at h;lia
theorem vo (line:Int) (n c:Nat):line + (n:Int) + (nl c:Int) = line + ((n + nl c:Nat):Int):=Int.add_assoc ..
@[elab_as_elim] theorem dG.vc {pvs:List Value} {v:Value} {nw:List (Addr × Obj)} {motive:Value→List (Addr × Obj)→Prop} (h:dG a w line pvs pe cs v nw) (k0:cs = []→∀ t tl ep,motive (.str "" t) (a.N w line tl pvs pe [] ep))
  (k1:∀ c r t tl vs ep,cs = c :: r→StrsAre vs (sgs r).reverse→motive (.str ⟨#[c]⟩ t) (a.N w (line + nl c) tl pvs pe vs ep)):motive v nw:=by
 induction cs using List.casesOn with
 | nil=>obtain ⟨t,tl,ep,rfl,rfl⟩:=h;exact k0 rfl _ _ _
 | cons c r=>obtain ⟨t,tl,vs,ep,rfl,rfl,hs⟩:=h;exact k1 _ _ _ _ _ _ rfl hs
@[elab_as_elim] theorem dG.sc {pvs:List Value} {y:Str} {t:Tok} {nw:List (Addr × Obj)} {motive:Str→List (Addr × Obj)→Prop} (h:dG a w line pvs pe cs (.str y t) nw) (k0:cs = []→∀ tl ep,motive "" (a.N w line tl pvs pe [] ep))
  (k1:∀ c r tl vs ep,cs = c :: r→StrsAre vs (sgs r).reverse→motive ⟨#[c]⟩ (a.N w (line + nl c) tl pvs pe vs ep)):motive y nw:=by
 have:∀ v,dG a w line pvs pe cs v nw→v = .str y t→motive y nw:=fun v h=>dG.vc (motive:=fun v nw=>v = .str y t→motive y nw) h (fun e t tl ep q=>by injection q with q;subst q;exact k0 e _ _) (fun c r t tl vs ep e hs q=>by injection q with q;subst q;exact k1 _ _ _ _ _ e hs)
 exact this _ h rfl
theorem aq.mk2 {al:Bool} {tl:Tok} {R:List (Addr × Obj)} {u:Tok} (F:Fr g L h m) (N:News g L h ((a.x,instObj 137 a.d) :: (a.d,bu w (line + n) tl a.k1 a.k2 a.k3 a.tw a.k4 a.st a.pb) :: R)) (hs:Rst a pe I B t0 al cs R) (sm:cs.length + tok.length ≤ 1000)
  (e1:m "self" = some (.ref a.x)) (e2:m "fiter" = some (.ref I)) (e3:m "token" = some (.str ⟨tok.reverse.toArray⟩ u)):aq a w pe I B t0 line tok cs n g L m h al:=⟨u,tl,R,e1,e2,e3,F,N,hs,sm⟩
theorem aq.atz {z:List Nat × List Nat × Nat} (e:(tok,cs,n) = z) (S:aq a w pe I B t0 line tok cs n g L m h al):aq a w pe I B t0 line z.1 cs z.2.2 g L m h al:=by subst e;exact S
theorem dt (tok:List Nat) (c:Nat):(⟨tok.reverse.toArray⟩:Str) ++ (⟨#[c]⟩:Str) = ⟨(c :: tok).reverse.toArray⟩:=by
 show Str.mk (tok.reverse.toArray ++ #[c]) = _
 skip
 congr 1
 apply Array.ext'
 simp
theorem wK:("":Str) = ⟨#[]⟩:=by decide +kernel
theorem iN (tok:List Nat):(⟨tok.reverse.toArray⟩:Str) ++ ("":Str) = ⟨tok.reverse.toArray⟩:=by
 skip
 show Str.mk (tok.reverse.toArray ++ #[]) = _
 congr 1
theorem lt1 {l:List Nat} (e:l = c :: r):r.length < l.length:=by subst e;exact Nat.lt_succ_self _
theorem lt2 {l r2:List Nat} {d:Nat} (e:l = c :: r) (e2:r = d :: r2):r2.length < l.length:=by subst e;subst e2;exact Nat.lt_succ_of_lt (Nat.lt_succ_self _)
theorem smA {l t:List Nat} (e:l = c :: r) (h:l.length + t.length ≤ 1000):r.length + (c :: t).length ≤ 1000:=by subst e;simp only [List.length_cons] at h ⊢;lia
theorem smB {l t r2:List Nat} {d:Nat} (e:l = c :: r) (e2:r = d :: r2) (h:l.length + t.length ≤ 1000):r2.length + (d :: t).length ≤ 1000:=by subst e;subst e2;simp only [List.length_cons] at h ⊢;lia
theorem oP (tok:List Nat):(⟨tok.reverse.toArray⟩:Str).length = tok.length:=by
 show tok.reverse.toArray.size = _
 simp
theorem sz1 {t:List Nat} {k:Nat} (c:Nat) (h:k + t.length ≤ 1000):(⟨t.reverse.toArray⟩:Str).length + (⟨#[c]⟩:Str).length ≤ sizeLine:=by
 (refine rwG (oP ..) ?_;refine rwG sizeLine_eq ?_);show t.length + 1 ≤ _;lia
theorem sz0 {t:List Nat} {k:Nat} (h:k + t.length ≤ 1000):(⟨t.reverse.toArray⟩:Str).length + ("":Str).length ≤ sizeLine:=by
 (refine rwG (oP ..) ?_;refine rwG sizeLine_eq ?_;refine rwG wK ?_);show t.length + 0 ≤ _;lia
end
structure Apart (a:Lx) (I B:Addr):Prop where
 i:I ∉ a.addrs
 b:B ∉ a.addrs
 ne:B ≠ I
theorem Lx.Aa (a:Lx) (w:World) (line:Int) (tl:Tok) (pvs:List Value) (pe:Nat) (vs:List Value) (ep:Nat):(a.N w line tl pvs pe vs ep).map (·.1) = a.addrs:=rfl
theorem Apart.on {a:Lx} {I B:Addr} (p:Apart a I B) {w:World} {line:Int} {tl:Tok} {pvs:List Value} {pe:Nat} {vs:List Value} {ep:Nat} {oI oB:Obj}:∀ q∈[(I,oI),(B,oB)],∀ z∈a.N w line tl pvs pe vs ep,q.1 ≠ z.1:=by
 intro q hq z hz e
 have hm:=List.mem_map_of_mem (f:=(·.1)) hz
 rw [a.Aa] at hm
 rcases List.mem_cons.mp hq with rfl | hq
 ·exact p.i ((show I = z.1 from e) ▸ hm)
 ·rcases List.mem_cons.mp hq with rfl | hq
  ·exact p.b ((show B = z.1 from e) ▸ hm)
  ·cases hq
section
variable {w:World} {A:Around} {E:Value→Shared→Prop} {s:Shared} {a:Lx} {pe:Nat} {I B:Addr} {t0:Tok} {line:Int} {tok cs:List Nat} {n:Nat} {g:Heap} {L:Addr} {m mg mb:Str→Option Value} {p:Program} {loose:List Str} {mean:ExcName→Option Value}
theorem wx (c:Nat):(⟨#[c]⟩:Str) ≠ ("":Str):=fun e=>by
 have:(("":Str)) = ⟨#[]⟩:=by decide +kernel
 rw [this] at e;injection e with e;cases e
theorem kz {Q:Option Value→Shared→Prop} (ok:a.Ok) (ap:Apart a I B) (hh:A.handled = none) (X:(kf w.params).In g) (T:Top p loose mean mg mb g) {fo:Obj} {fd:FuncData} (hf:g.get? 120 = some fo) (hfd:fo.data = .func fd) (hd:A.depth + 10 < recursionLimit) (hu:A.units + 101 < cLine)
  (S:aq a w pe I B t0 line tok cs n g L m s.heap true)
  (h0:cs = []→∀ h' tk',aq a w pe I B t0 line tok [] n g L m h' false→Q none { s with heap:=h',toks:=tk' })
  (h1:∀ c r,cs = c :: r→∀ t h' tk',aq a w pe I B t0 line tok r (n + nl c) g L m h' true→Q (some (.str ⟨#[c]⟩ t)) { s with heap:=h',toks:=tk' }):wpAny (model pw w) A (pyNext (.ref I)) Q E s:=by
 have S0:=S
 obtain ⟨ut,tl,R,e1,e2,e3,F,N,hR,sm⟩:=S0
 obtain ⟨vs,ep,hs,eR⟩:=hR
 have N:News g L s.heap (a.N w (line + n) tl [] pe vs ep ++ [(I,c9 B t0),(B,methodObj (.ref 120) (.ref a.x))]):=(congrArg (fun R=>News g L s.heap ((a.x,instObj 137 a.d) :: (a.d,bu w (line + n) tl a.k1 a.k2 a.k3 a.tw a.k4 a.st a.pb) :: R)) eR).mp N
 refine vF (oth:=[]) (rC w a ok (line + n) tl [] pe cs vs ep hs (Nat.le_trans (Nat.le_add_right _ _) sm)) hh F X N ap.on ⟨ap.ne,fun _ h=>nomatch h⟩ T hf hfd hd hu (fun v nw r=>dG.vc r (fun _ _ _ _=>⟨_,_,rfl⟩) fun _ _ _ _ _ _ _ _=>⟨_,_,rfl⟩) fun y t nw h' tk' F' r ho=>?_
 refine dG.sc r (fun e tl' ep'=>?_) fun c r' tl' vs' ep' e hs'=>?_
 ·exact ⟨fun q=>absurd rfl q,fun _ N'=>h0 e _ _ ⟨_,_,_,e1,e2,e3,F',N',⟨_,_,.nil,rfl⟩,xr sm⟩⟩
 ·exact ⟨fun _ N'=>h1 c r' e _ _ _ ⟨_,tl',_,e1,e2,e3,F',vo line n c ▸ N',⟨_,ep',hs',rfl⟩,xW e sm⟩,fun q=>absurd q (wx c)⟩
theorem kS {Q:Value→Shared→Prop} (ok:a.Ok) (ap:Apart a I B) (hh:A.handled = none) (X:(kf w.params).In g) (T:Top p loose mean mg mb g) (hd:A.depth + 10 < recursionLimit) (hu:A.units + 101 < cLine)
  (S:aq a w pe I B t0 line tok cs n g L m s.heap true)
  (h0:cs = []→∀ t h' tk',aq a w pe I B t0 line tok [] n g L m h' true→Q (.str "" t) { s with heap:=h',toks:=tk' })
  (h1:∀ c r,cs = c :: r→∀ t h' tk',aq a w pe I B t0 line tok r (n + nl c) g L m h' true→Q (.str ⟨#[c]⟩ t) { s with heap:=h',toks:=tk' }):wpAny (model pw w) A (call (.ref 120) [.ref a.x]) Q E s:=by
 have S0:=S
 obtain ⟨ut,tl,R,e1,e2,e3,F,N,hR,sm⟩:=S0
 obtain ⟨vs,ep,hs,eR⟩:=hR
 have N:News g L s.heap (a.N w (line + n) tl [] pe vs ep ++ [(I,c9 B t0),(B,methodObj (.ref 120) (.ref a.x))]):=(congrArg (fun R=>News g L s.heap ((a.x,instObj 137 a.d) :: (a.d,bu w (line + n) tl a.k1 a.k2 a.k3 a.tw a.k4 a.st a.pb) :: R)) eR).mp N
 refine wpAny_call (ba.use (rC w a ok (line + n) tl [] pe cs vs ep hs (Nat.le_trans (Nat.le_add_right _ _) sm)) hh F X N ap.on T hd (Nat.lt_of_succ_lt hu) fun v nw h' tk' F' N' ho r=>?_)
 revert N'
 refine dG.vc r (fun e t tl' ep' N'=>?_) fun c r' t tl' vs' ep' e hs' N'=>?_
 ·exact h0 e _ _ _ ⟨_,_,_,e1,e2,e3,F',N',⟨_,_,.nil,rfl⟩,xr sm⟩
 ·exact h1 c r' e _ _ _ ⟨_,tl',_,e1,e2,e3,F',vo line n c ▸ N',⟨_,ep',hs',rfl⟩,xW e sm⟩
end
end Mine
end
section
open PySem PySem.W PySem.Spec PySem.Calls PyProof.Rows
namespace Mine
noncomputable def sO:Stmt→List Stmt | .For _ _ b ..=>b | _=>[]
noncomputable def A3:Stmt→List Stmt | .If _ b ..=>b | _=>[]
noncomputable def ifE:Stmt→List Stmt | .If _ _ e ..=>e | _=>[]
noncomputable abbrev qM:List Stmt:=sO (bl (fBL (mth 21 2)) 3)
noncomputable abbrev Bd:List Stmt:=sO (bl (A3 (bl qM 1)) 0)
noncomputable abbrev AY:List Stmt:=sO (bl (ifE (bl qM 1)) 2)
noncomputable abbrev nG (L:Addr):Env:=envX "_netrclex.get_token" (fS (mth 21 2)) L 127 (.ref 126) []
theorem ew:("\"":Str) = ⟨#[34]⟩:=by decide +kernel
theorem fN:("\\":Str) = ⟨#[92]⟩:=by decide +kernel
theorem si {c:Nat} (r t:List Nat) (n:Nat) (h:(c == 34) = true):cD (c :: r) t n = (t,r,n):=by cases r <;> exact if_pos h
theorem pR {c:Nat} (t:List Nat) (n:Nat) (h:(c == 34) = false) (h2:(c == 92) = true):cD [c] t n = (t,[],n):=(if_neg (ne_true_of_eq_false h)).trans (if_pos h2)
theorem ro {c:Nat} (d:Nat) (r t:List Nat) (n:Nat) (h:(c == 34) = false) (h2:(c == 92) = true):cD (c :: d :: r) t n = cD r (d :: t) (n + nl d):=(if_neg (ne_true_of_eq_false h)).trans (if_pos h2)
theorem sq {c:Nat} (r t:List Nat) (n:Nat) (h:(c == 34) = false) (h2:(c == 92) = false):cD (c :: r) t n = cD r (c :: t) (n + nl c):=by cases r <;> exact (if_neg (ne_true_of_eq_false h)).trans (if_neg (ne_true_of_eq_false h2))
theorem xq {c:Nat} (h:(c == 34) = true):nl c = 0:=by rw [beq_iff_eq] at h;subst h;rfl
theorem ub {c:Nat} (h:(c == 92) = true):nl c = 0:=by rw [beq_iff_eq] at h;subst h;rfl
inductive QSt (a:Lx) (w:World) (pe:Nat) (I B:Addr) (t0:Tok) (line:Int) (g:Heap) (L:Addr) (s:Shared) (z:List Nat × List Nat × Nat) (lex:List Nat→List Nat→Nat→List Nat × List Nat × Nat):Nat→Shared→Prop
 | mk {m₁:Str→Option Value} {h:Heap} {tk:Nat} {t' cs':List Nat} {n':Nat} (S:aq a w pe I B t0 line t' cs' n' g L m₁ h true) (he:lex cs' t' n' = z):QSt a w pe I B t0 line g L s z lex cs'.length { s with heap:=h,toks:=tk }
noncomputable def zX (a:Lx) (w:World) (pe:Nat) (I B:Addr) (t0:Tok) (line:Int) (g:Heap) (L:Addr) (s:Shared) (z:List Nat × List Nat × Nat) (lex:List Nat→List Nat→Nat→List Nat × List Nat × Nat) (k:Nat) (s₁:Shared):Prop:=∃ m,m < k∧QSt a w pe I B t0 line g L s z lex m s₁
theorem yc {a:Lx} {w:World} {pe:Nat} {I B:Addr} {t0:Tok} {line:Int} {g:Heap} {L:Addr} {s:Shared} {z:List Nat × List Nat × Nat} {lex:List Nat→List Nat→Nat→List Nat × List Nat × Nat} {k:Nat} {Q:Flow→Shared→Prop} (P:(Flow→Shared→Prop)→Prop)
  (hret:∀ m' h' tk' u,aq a w pe I B t0 line z.1 z.2.1 z.2.2 g L m' h' true→Q (.ret (.str ⟨z.1.reverse.toArray⟩ u)) { s with heap:=h',toks:=tk' })
  (h:∀ K:Flow→Shared→Prop,(∀ m' h' tk' u t r n,(t,r,n) = z→aq a w pe I B t0 line t r n g L m' h' true→K (.ret (.str ⟨t.reverse.toArray⟩ u)) { s with heap:=h',toks:=tk' }) →
   (∀ m' h' tk' t r n,r.length < k→lex r t n = z→aq a w pe I B t0 line t r n g L m' h' true→K .next { s with heap:=h',toks:=tk' })→P K):P (qt Q (zX a w pe I B t0 line g L s z lex k)) :=
 h _ (fun _ _ _ _ _ _ _ e=>by subst e;exact hret _ _ _ _) fun _ _ _ _ _ _ hk he S=>⟨_,hk,.mk S he⟩
theorem qr {P:Params} {g:Heap} (X:(kf P).In g):∃ fo fd,g.get? 120 = some fo∧fo.data = .func fd:=by
 have:PySem.Challenge.rw_wc0018_02 = PySem.Challenge.rw_wc0018_02∧kf = kf:=by (k_fill;exact ⟨rfl,rfl⟩)
 clear this
 refine ⟨_,_,X 120 _ (by k_is),rfl⟩
section
variable {w:World} {E:Value→Shared→Prop} {s:Shared} {a:Lx} {pe:Nat} {I B:Addr} {t0:Tok} {line:Int} {g:Heap} {L:Addr} {mg mb:Str→Option Value} {p:Program} {loose:List Str} {mean:ExcName→Option Value} {dp un:Nat} {gd:Option (List Code)} {fr:Option (List Env)} {Q:Flow→Shared→Prop} {pos:Pos}
set_option tactic.hygienic true in
set_option maxHeartbeats 4000000 in
theorem Af (ok:a.Ok) (ap:Apart a I B) (X:(kf w.params).In g) (T:Top p loose mean mg mb g) (hd:dp + 11 < recursionLimit) (hu:un + 110 < cLine) (cs t:List Nat) (n:Nat) (z:List Nat × List Nat × Nat) (hz:cD cs t n = z) (m:Str→Option Value)
  (S:aq a w pe I B t0 line t cs n g L m s.heap true)
  (hret:∀ m' h' tk' u,aq a w pe I B t0 line z.1 z.2.1 z.2.2 g L m' h' true→Q (.ret (.str ⟨z.1.reverse.toArray⟩ u)) { s with heap:=h',toks:=tk' })
  (hend:∀ m' h' tk',aq a w pe I B t0 line z.1 [] z.2.2 g L m' h' false→z.2.1 = []→Q .next { s with heap:=h',toks:=tk' }) :
  jy pw w (eG dp un gd fr) (.Name "ch" pos) Bd [] (nG L) Q (.ref I) s:=by
 have:PySem.Challenge.rw_wc0018_02 = PySem.Challenge.rw_wc0018_02∧kf = kf:=by (k_fill;exact ⟨rfl,rfl⟩)
 clear this
 refine kQ (QSt a w pe I B t0 line g L s z cD) ?_ _ (.mk (h:=s.heap) (tk:=s.toks) S hz)
 clear S
 intro k s₁ hh
 cases hh with | @mk m₁ h tk t' cs' n' S he =>
 refine x22 (qr X) fun fo fd hf hfd=>?_
 refine kz ok ap rfl X T hf hfd (by show dp + 10 < _;omega) (by show un + 101 < _;omega) S (fun e h' tk' S'=>?_) fun c r e u h' tk' S'=>?_
 ·have he:(t',[],n') = z:=(congrArg (fun l=>cD l t' n') e).symm.trans he
  exact wpAny_execs_nil (hend _ _ _ (S'.atz he) (congrArg (·.2.1) he).symm)
 ·have sm0:=S.sm
  have he:=(congrArg (fun l=>cD l t' n') e).symm.trans he
  clear S
  obtain ⟨u1,tl,R,e1,e2,e3,F,N,hR,sm⟩:=S'
  refine wpAny_of_eq (a:=()) rfl ?_
  conv in (execs _ _)=>arg 1;whnf
  refine yc (fun K=>wpAny _ _ _ (fun _ s'=>wpAny _ _ _ K _ s') _ _) hret fun K kr kn=>?_
  clear hret hend
  have hsz:=sz1 c sm
  (repeat' first | walk1 | k_dflt (refine' nameX_L (by k_asm) (by k_asm) ?_ rfl rfl;k_whole) | k_dflt (refine' bE (by k_asm) (by k_asm) ?_ rfl rfl;k_whole))
  ·rename_i hq
   rename Fr _ _ _ _=>F5
   rename News _ _ _ _=>N5
   rw [bc c 34 _ ew] at hq
   rw [xq hq] at N5
   refine kr _ _ _ _ _ _ _ ((si r t' n' hq).symm.trans he) (aq.mk2 (u:=u1) F5 N5 hR sm ?_ ?_ ?_)
   ·exact (if_neg (by decide)).trans e1
   ·exact (if_neg (by decide)).trans e2
   ·exact (if_neg (by decide)).trans e3
  ·rename (_ == Str.ofString "\"") = false=>hq
   rename (_ == Str.ofString "\\") = true=>hb
   rename Fr _ _ _ _=>F5
   rename News _ _ _ _=>N5
   rw [bc c 34 _ ew] at hq
   rw [bc c 92 _ fN] at hb
   rw [ub hb] at N5
   refine kS ok ap rfl X T (by show dp + 10 < _;omega) (by show un + 101 < _;omega) (aq.mk2 (u:=u1) F5 N5 hR sm ?_ ?_ ?_) (fun e0 t2 h2 tk2 S2=>?_) (fun d' r2 e0 t2 h2 tk2 S2=>?_)
   ·exact (if_neg (by decide)).trans e1
   ·exact (if_neg (by decide)).trans e2
   ·exact (if_neg (by decide)).trans e3
   ·have he:=(pR t' n' hq hb).symm.trans ((congrArg (fun l=>cD (c :: l) t' n') e0).symm.trans he)
    clear N5 F5 e1 e2 e3 hsz
    obtain ⟨u1,tl,R,e1,e2,e3,F,N,hR,sm⟩:=S2
    have hsz:=sz0 sm
    (repeat' first | walk1 | k_dflt (refine' bE (by k_asm) (by k_asm) ?_ rfl rfl;k_whole))
    rename Fr _ _ _ _=>F5
    rename News _ _ _ _=>N5
    rw [iN] at F5
    refine kn _ _ _ t' [] _ ((congrArg List.length e0).symm ▸ lt1 e) he (aq.mk2 F5 N5 hR sm ?_ ?_ (if_pos rfl))
    ·exact (if_neg (by decide)).trans ((if_neg (by decide)).trans e1)
    ·exact (if_neg (by decide)).trans ((if_neg (by decide)).trans e2)
   ·have he:=(ro d' r2 t' n' hq hb).symm.trans ((congrArg (fun l=>cD (c :: l) t' n') e0).symm.trans he)
    clear N5 F5 e1 e2 e3 hsz
    obtain ⟨u1,tl,R,e1,e2,e3,F,N,hR,sm⟩:=S2
    have hsz:=sz1 d' sm
    (repeat' first | walk1 | k_dflt (refine' bE (by k_asm) (by k_asm) ?_ rfl rfl;k_whole))
    rename Fr _ _ _ _=>F5
    rename News _ _ _ _=>N5
    rw [dt] at F5
    refine kn _ _ _ (d' :: t') r2 _ (lt2 e e0) he (aq.mk2 F5 N5 hR (smB e e0 sm0) ?_ ?_ (if_pos rfl))
    ·exact (if_neg (by decide)).trans ((if_neg (by decide)).trans e1)
    ·exact (if_neg (by decide)).trans ((if_neg (by decide)).trans e2)
  ·rename (_ == Str.ofString "\"") = false=>hq
   rename (_ == Str.ofString "\\") = false=>hb
   rename Fr _ _ _ _=>F5
   rename News _ _ _ _=>N5
   rw [bc c 34 _ ew] at hq
   rw [bc c 92 _ fN] at hb
   rw [dt] at F5
   refine kn _ _ _ (c :: t') r _ (lt1 e) ((sq r t' n' hq hb).symm.trans he) (aq.mk2 F5 N5 hR (smA e sm0) ?_ ?_ (if_pos rfl))
   ·exact (if_neg (by decide)).trans ((if_neg (by decide)).trans e1)
   ·exact (if_neg (by decide)).trans ((if_neg (by decide)).trans e2)
end
open PySem PySem.W PySem.Spec PySem.Calls PyProof.Rows
theorem yn:jS = ⟨#[10,9,13,32]⟩:=by decide +kernel
theorem eE (c:Nat):(Builtin.Str.occurrences jS ⟨#[c]⟩ 0 jS.length 1).isEmpty = !isWs c:=by
 refine rwG yn ?_
 cases h:isWs c with
 | true =>
  simp only [isWs,Bool.or_eq_true,beq_iff_eq] at h
  rcases h with ((rfl | rfl) | rfl) | rfl <;> decide +kernel
 | false =>
  have hs:∀ i,Builtin.Str.subAt ⟨#[10,9,13,32]⟩ ⟨#[c]⟩ i = false:=fun i=>by
   rw [Bool.eq_false_iff]
   intro e
   have e:=eq_of_beq e
   have hm:c∈(#[10,9,13,32]:Array Nat).extract i (i + Str.length ⟨#[c]⟩):=by rw [show (Array.extract #[10,9,13,32] i (i + Str.length ⟨#[c]⟩)) = #[c] from e];simp
   rw [← Array.mem_toList_iff,Array.toList_extract] at hm
   have hm:=List.mem_of_mem_drop (List.mem_of_mem_take hm)
   simp only [isWs,Bool.or_eq_false_iff,beq_eq_false_iff_ne] at h
   simp at hm
   lia
  unfold Builtin.Str.occurrences
  simp only [hs,Bool.and_false,Bool.false_eq_true,if_false]
  kernel_rfl
theorem rM {c:Nat} (r t:List Nat) (n:Nat) (h:isWs c = true):bJ (c :: r) t n = (t,r,n + nl c):=by cases r <;> exact if_pos h
theorem ph {c:Nat} (t:List Nat) (n:Nat) (h:isWs c = false) (h2:(c == 92) = true):bJ [c] t n = (t,[],n):=(if_neg (ne_true_of_eq_false h)).trans (if_pos h2)
theorem sH {c:Nat} (d:Nat) (r t:List Nat) (n:Nat) (h:isWs c = false) (h2:(c == 92) = true):bJ (c :: d :: r) t n = bJ r (d :: t) (n + nl d):=(if_neg (ne_true_of_eq_false h)).trans (if_pos h2)
theorem rE {c:Nat} (r t:List Nat) (n:Nat) (h:isWs c = false) (h2:(c == 92) = false):bJ (c :: r) t n = bJ r (c :: t) (n + nl c):=by cases r <;> exact (if_neg (ne_true_of_eq_false h)).trans (if_neg (ne_true_of_eq_false h2))
section
variable {w:World} {E:Value→Shared→Prop} {s:Shared} {a:Lx} {pe:Nat} {I B:Addr} {t0:Tok} {line:Int} {g:Heap} {L:Addr} {mg mb:Str→Option Value} {p:Program} {loose:List Str} {mean:ExcName→Option Value} {dp un:Nat} {gd:Option (List Code)} {fr:Option (List Env)} {Q:Flow→Shared→Prop} {pos:Pos}
set_option maxHeartbeats 4000000 in
theorem qw (ok:a.Ok) (ap:Apart a I B) (X:(kf w.params).In g) (T:Top p loose mean mg mb g) (hd:dp + 11 < recursionLimit) (hu:un + 110 < cLine) (cs t:List Nat) (n:Nat) (z:List Nat × List Nat × Nat) (hz:bJ cs t n = z) (m:Str→Option Value)
  (S:aq a w pe I B t0 line t cs n g L m s.heap true)
  (hret:∀ m' h' tk' u,aq a w pe I B t0 line z.1 z.2.1 z.2.2 g L m' h' true→Q (.ret (.str ⟨z.1.reverse.toArray⟩ u)) { s with heap:=h',toks:=tk' })
  (hend:∀ m' h' tk',aq a w pe I B t0 line z.1 [] z.2.2 g L m' h' false→z.2.1 = []→Q .next { s with heap:=h',toks:=tk' }) :
  jy pw w (eG dp un gd fr) (.Name "ch" pos) AY [] (nG L) Q (.ref I) s:=by
 have:PySem.Challenge.rw_wc0018_02 = PySem.Challenge.rw_wc0018_02∧kf = kf:=by (k_fill;exact ⟨rfl,rfl⟩)
 clear this
 refine kQ (QSt a w pe I B t0 line g L s z bJ) ?_ _ (.mk (h:=s.heap) (tk:=s.toks) S hz)
 clear S
 intro k s₁ hh
 cases hh with | @mk m₁ h tk t' cs' n' S he =>
 refine x22 (qr X) fun fo fd hf hfd=>?_
 refine kz ok ap rfl X T hf hfd (by show dp + 10 < _;omega) (by show un + 101 < _;omega) S (fun e h' tk' S'=>?_) fun c r e u h' tk' S'=>?_
 ·have he:(t',[],n') = z:=(congrArg (fun l=>bJ l t' n') e).symm.trans he
  exact wpAny_execs_nil (hend _ _ _ (S'.atz he) (congrArg (·.2.1) he).symm)
 ·have sm0:=S.sm
  have he:=(congrArg (fun l=>bJ l t' n') e).symm.trans he
  clear S
  obtain ⟨u1,tl,R,e1,e2,e3,F,N,hR,sm⟩:=S'
  refine wpAny_of_eq (a:=()) rfl ?_
  conv in (execs _ _)=>arg 1;whnf
  refine yc (fun K=>wpAny _ _ _ (fun _ s'=>wpAny _ _ _ K _ s') _ _) hret fun K kr kn=>?_
  clear hret hend
  have hsz:=sz1 c sm
  (repeat' first | walk1 | k_dflt (refine' nameX_L (by k_asm) (by k_asm) ?_ rfl rfl;k_whole) | k_dflt (refine' bE (by k_asm) (by k_asm) ?_ rfl rfl;k_whole))
  ·rename List.isEmpty _ = true=>hq
   rename (_ == Str.ofString "\\") = true=>hb
   rename Fr _ _ _ _=>F5
   rename News _ _ _ _=>N5
   rw [eE,Bool.not_eq_true'] at hq
   rw [bc c 92 _ fN] at hb
   rw [ub hb] at N5
   refine kS ok ap rfl X T (by show dp + 10 < _;omega) (by show un + 101 < _;omega) (aq.mk2 (u:=u1) F5 N5 hR sm ?_ ?_ ?_) (fun e0 t2 h2 tk2 S2=>?_) (fun d' r2 e0 t2 h2 tk2 S2=>?_)
   ·exact (if_neg (by decide)).trans e1
   ·exact (if_neg (by decide)).trans e2
   ·exact (if_neg (by decide)).trans e3
   ·have he:=(ph t' n' hq hb).symm.trans ((congrArg (fun l=>bJ (c :: l) t' n') e0).symm.trans he)
    clear N5 F5 e1 e2 e3 hsz
    obtain ⟨u1,tl,R,e1,e2,e3,F,N,hR,sm⟩:=S2
    have hsz:=sz0 sm
    (repeat' first | walk1 | k_dflt (refine' bE (by k_asm) (by k_asm) ?_ rfl rfl;k_whole))
    rename Fr _ _ _ _=>F5
    rename News _ _ _ _=>N5
    rw [iN] at F5
    refine kn _ _ _ t' [] _ ((congrArg List.length e0).symm ▸ lt1 e) he (aq.mk2 F5 N5 hR sm ?_ ?_ (if_pos rfl))
    ·exact (if_neg (by decide)).trans ((if_neg (by decide)).trans e1)
    ·exact (if_neg (by decide)).trans ((if_neg (by decide)).trans e2)
   ·have he:=(sH d' r2 t' n' hq hb).symm.trans ((congrArg (fun l=>bJ (c :: l) t' n') e0).symm.trans he)
    clear N5 F5 e1 e2 e3 hsz
    obtain ⟨u1,tl,R,e1,e2,e3,F,N,hR,sm⟩:=S2
    have hsz:=sz1 d' sm
    (repeat' first | walk1 | k_dflt (refine' bE (by k_asm) (by k_asm) ?_ rfl rfl;k_whole))
    rename Fr _ _ _ _=>F5
    rename News _ _ _ _=>N5
    rw [dt] at F5
    refine kn _ _ _ (d' :: t') r2 _ (lt2 e e0) he (aq.mk2 F5 N5 hR (smB e e0 sm0) ?_ ?_ (if_pos rfl))
    ·exact (if_neg (by decide)).trans ((if_neg (by decide)).trans e1)
    ·exact (if_neg (by decide)).trans ((if_neg (by decide)).trans e2)
  ·rename List.isEmpty _ = true=>hq
   rename (_ == Str.ofString "\\") = false=>hb
   rename Fr _ _ _ _=>F5
   rename News _ _ _ _=>N5
   rw [eE,Bool.not_eq_true'] at hq
   rw [bc c 92 _ fN] at hb
   rw [dt] at F5
   refine kn _ _ _ (c :: t') r _ (lt1 e) ((rE r t' n' hq hb).symm.trans he) (aq.mk2 F5 N5 hR (smA e sm0) ?_ ?_ (if_pos rfl))
   ·exact (if_neg (by decide)).trans ((if_neg (by decide)).trans e1)
   ·exact (if_neg (by decide)).trans ((if_neg (by decide)).trans e2)
  ·rename List.isEmpty _ = false=>hq
   rename Fr _ _ _ _=>F5
   rename News _ _ _ _=>N5
   rw [eE,Bool.not_eq_false'] at hq
   refine kr _ _ _ _ _ _ _ ((rM r t' n' hq).symm.trans he) (aq.mk2 (u:=u1) F5 N5 hR sm ?_ ?_ ?_)
   ·exact (if_neg (by decide)).trans e1
   ·exact (if_neg (by decide)).trans e2
   ·exact (if_neg (by decide)).trans e3
end
open PySem PySem.W PySem.Spec PySem.Calls PyProof.Rows
theorem qN {c:Nat} (r:List Nat) (n:Nat) (h:isWs c = true):aA (c :: r) n = aA r (n + nl c):=if_pos h
theorem qQ {c:Nat} (r:List Nat) (n:Nat) (h:isWs c = false) (h2:(c == 34) = true):aA (c :: r) n = cD r [] n:=(if_neg (ne_true_of_eq_false h)).trans (if_pos h2)
theorem pF {c:Nat} (n:Nat) (h:isWs c = false) (h2:(c == 34) = false) (h3:(c == 92) = true):aA [c] n = bJ [] [] n:=(if_neg (ne_true_of_eq_false h)).trans ((if_neg (ne_true_of_eq_false h2)).trans (if_pos h3))
theorem qO {c:Nat} (d:Nat) (r:List Nat) (n:Nat) (h:isWs c = false) (h2:(c == 34) = false) (h3:(c == 92) = true):aA (c :: d :: r) n = bJ r [d] (n + nl d):=(if_neg (ne_true_of_eq_false h)).trans ((if_neg (ne_true_of_eq_false h2)).trans (if_pos h3))
theorem sM {c:Nat} (r:List Nat) (n:Nat) (h:isWs c = false) (h2:(c == 34) = false) (h3:(c == 92) = false):aA (c :: r) n = bJ r [c] (n + nl c):=(if_neg (ne_true_of_eq_false h)).trans ((if_neg (ne_true_of_eq_false h2)).trans (if_neg (ne_true_of_eq_false h3)))
theorem o7 (c:Nat):("":Str) ++ (⟨#[c]⟩:Str) = ⟨[c].reverse.toArray⟩:=by skip;show Str.mk (#[] ++ #[c]) = _;simp
theorem ni:("":Str) = ⟨([]:List Nat).reverse.toArray⟩:=by skip;rfl
inductive OSt (a:Lx) (w:World) (pe:Nat) (I B:Addr) (t0:Tok) (line:Int) (g:Heap) (L:Addr) (s:Shared) (z:List Nat × List Nat × Nat):Nat→Shared→Prop
 | go {m₁:Str→Option Value} {h:Heap} {tk:Nat} {cs':List Nat} {n':Nat} (S:aq a w pe I B t0 line [] cs' n' g L m₁ h true) (he:aA cs' n' = z):OSt a w pe I B t0 line g L s z (cs'.length + 1) { s with heap:=h,toks:=tk }
 | fin {m₁:Str→Option Value} {h:Heap} {tk:Nat} (S:aq a w pe I B t0 line z.1 [] z.2.2 g L m₁ h false) (he:z.2.1 = []):OSt a w pe I B t0 line g L s z 0 { s with heap:=h,toks:=tk }
noncomputable def zL (a:Lx) (w:World) (pe:Nat) (I B:Addr) (t0:Tok) (line:Int) (g:Heap) (L:Addr) (s:Shared) (z:List Nat × List Nat × Nat) (k:Nat) (s₁:Shared):Prop:=∃ m,m < k∧OSt a w pe I B t0 line g L s z m s₁
theorem aq.mk3 {a:Lx} {w:World} {pe:Nat} {I B:Addr} {t0:Tok} {line:Int} {tok cs:List Nat} {n:Nat} {g:Heap} {L:Addr} {m:Str→Option Value} {h:Heap} {al:Bool} {tl:Tok} {R:List (Addr × Obj)} (F:Fr g L h m) (N:News g L h ((a.x,instObj 137 a.d) :: (a.d,bu w (line + n) tl a.k1 a.k2 a.k3 a.tw a.k4 a.st a.pb) :: R)) (hs:Rst a pe I B t0 al cs R) (sm:cs.length + tok.length ≤ 1000)
  (e1:m "self" = some (.ref a.x)) (e2:m "fiter" = some (.ref I)) (e3:∃ u,m "token" = some (.str ⟨tok.reverse.toArray⟩ u)):aq a w pe I B t0 line tok cs n g L m h al:=e3.elim fun u e3=>⟨u,tl,R,e1,e2,e3,F,N,hs,sm⟩
theorem Rst.it {a:Lx} {pe:Nat} {I B:Addr} {t0:Tok} {al:Bool} {cs:List Nat} {R:List (Addr × Obj)} (r:Rst a pe I B t0 al cs R) {p q:Addr × Obj}:(I,if al then c9 B t0 else mn)∈p :: q :: R:=by
 obtain ⟨_,_,_,rfl⟩:=r
 iterate 9 apply List.Mem.tail
 exact .head _
theorem yl {a:Lx} {w:World} {pe:Nat} {I B:Addr} {t0:Tok} {line:Int} {g:Heap} {L:Addr} {s:Shared} {z:List Nat × List Nat × Nat} {k:Nat} {Q:Flow→Shared→Prop} (P:(Flow→Shared→Prop)→Prop)
  (hret:∀ m' h' tk' u,aq a w pe I B t0 line z.1 z.2.1 z.2.2 g L m' h' true→Q (.ret (.str ⟨z.1.reverse.toArray⟩ u)) { s with heap:=h',toks:=tk' })
  (h:∀ K:Flow→Shared→Prop,(∀ m' h' tk' u,aq a w pe I B t0 line z.1 z.2.1 z.2.2 g L m' h' true→K (.ret (.str ⟨z.1.reverse.toArray⟩ u)) { s with heap:=h',toks:=tk' }) →
   (∀ m' h' tk' r n,r.length < k→aA r n = z→aq a w pe I B t0 line [] r n g L m' h' true→K .cont { s with heap:=h',toks:=tk' }) →
   (∀ m' h' tk',aq a w pe I B t0 line z.1 [] z.2.2 g L m' h' false→z.2.1 = []→K .next { s with heap:=h',toks:=tk' })→P K):P (qt Q (zL a w pe I B t0 line g L s z (k + 1))) :=
 h _ hret (fun _ _ _ _ _ hk he S=>⟨_,Nat.succ_lt_succ hk,.go S he⟩) fun _ _ _ S he=>⟨0,Nat.succ_pos _,.fin S he⟩
theorem aq.grow {a:Lx} {w:World} {pe:Nat} {I B:Addr} {t0:Tok} {line:Int} {tok cs:List Nat} {n:Nat} {g:Heap} {L:Addr} {m:Str→Option Value} {h h':Heap} {al:Bool} (S:aq a w pe I B t0 line tok cs n g L m h al)
  (hk:∀ b o,h.get? b = some o→h'.get? b = some o):aq a w pe I B t0 line tok cs n g L m h' al:=by
 obtain ⟨u,tl,R,e1,e2,e3,F,N,hs,sm⟩:=S
 exact ⟨u,tl,R,e1,e2,e3,F.grownK hk,N.grown hk,hs,sm⟩
section
variable {w:World} {E:Value→Shared→Prop} {s:Shared} {a:Lx} {pe:Nat} {I B:Addr} {t0:Tok} {line:Int} {g:Heap} {L:Addr} {mg mb:Str→Option Value} {p:Program} {loose:List Str} {mean:ExcName→Option Value} {dp un:Nat} {gd:Option (List Code)} {fr:Option (List Env)} {Q:Flow→Shared→Prop} {pos:Pos}
set_option maxHeartbeats 4000000 in
theorem zE (ok:a.Ok) (ap:Apart a I B) (X:(kf w.params).In g) (T:Top p loose mean mg mb g) (hd:dp + 11 < recursionLimit) (hu:un + 110 < cLine) (cs:List Nat) (n:Nat) (z:List Nat × List Nat × Nat) (hz:aA cs n = z) (m:Str→Option Value)
  (S:aq a w pe I B t0 line [] cs n g L m s.heap true)
  (hret:∀ m' h' tk' u,aq a w pe I B t0 line z.1 z.2.1 z.2.2 g L m' h' true→Q (.ret (.str ⟨z.1.reverse.toArray⟩ u)) { s with heap:=h',toks:=tk' })
  (hend:∀ m' h' tk',aq a w pe I B t0 line z.1 [] z.2.2 g L m' h' false→z.2.1 = []→Q .next { s with heap:=h',toks:=tk' }) :
  jy pw w (eG dp un gd fr) (.Name "ch" pos) qM [] (nG L) Q (.ref I) s:=by
 have:PySem.Challenge.rw_wc0018_02 = PySem.Challenge.rw_wc0018_02∧kf = kf:=by (k_fill;exact ⟨rfl,rfl⟩)
 clear this
 refine kQ (OSt a w pe I B t0 line g L s z) ?_ (cs.length + 1) (.go (h:=s.heap) (tk:=s.toks) S hz)
 clear S
 intro k s₁ hh
 rcases hh with @⟨m₁,h,tk,cs',n',S,he⟩ | @⟨m₁,h,tk,S,he⟩
 ·refine x22 (qr X) fun fo fd hf hfd=>?_
  refine kz ok ap rfl X T hf hfd (by show dp + 10 < _;omega) (by show un + 101 < _;omega) S (fun e h' tk' S'=>?_) fun c r e u h' tk' S'=>?_
  ·have he:([],[],n') = z:=(congrArg (fun l=>aA l n') e).symm.trans he
   exact wpAny_execs_nil (hend _ _ _ (S'.atz he) (congrArg (·.2.1) he).symm)
  ·have sm0:=S.sm
   have he:=(congrArg (fun l=>aA l n') e).symm.trans he
   clear S
   obtain ⟨u1,tl,R,e1,e2,e3,F,N,hR,sm⟩:=S'
   refine wpAny_of_eq (a:=()) rfl ?_
   conv in (execs _ _)=>arg 1;whnf
   refine yl (fun K=>wpAny _ _ _ (fun _ s'=>wpAny _ _ _ K _ s') _ _) hret fun K kr kn kf=>?_
   clear hret hend
   have hsz:=sz1 c sm
   (repeat' first | walk1 | k_dflt (refine' nameX_L (by k_asm) (by k_asm) ?_ rfl rfl;k_whole) | k_dflt (refine' bE (by k_asm) (by k_asm) ?_ rfl rfl;k_whole) | (refine SBL.iadd (hsz:=(by with_reducible assumption)) ?_;intro _ _) | refine dM ?_)
   ·rename (_ == Str.ofString "\"") = true=>hq
    rename List.isEmpty _ = true=>hw
    rename Fr _ _ _ _=>F5
    rename News _ _ _ _=>N5
    rw [eE,Bool.not_eq_true'] at hw
    rw [bc c 34 _ ew] at hq
    rw [xq hq] at N5
    refine fU (N5 _ hR.it).1 rfl ?_
    refine Af (pe:=pe) (t0:=t0) (line:=line) ok ap X T hd hu r [] n' z ((qQ r n' hw hq).symm.trans he) _ (aq.mk3 F5 N5 hR sm ?_ ?_ ?_) (fun m' h' tk' u S'=>?_) (fun m' h' tk' S' z'=>?_)
    ·exact (if_neg (by decide)).trans e1
    ·exact (if_neg (by decide)).trans e2
    ·exact ⟨_,(if_neg (by decide)).trans e3⟩
    ·exact kr _ _ _ _ S'
    ·(repeat' first | walk1 | k_dflt (refine' nameX_L (by k_asm) (by k_asm) ?_ rfl rfl;k_whole) | k_dflt (refine' bE (by k_asm) (by k_asm) ?_ rfl rfl;k_whole) | (refine SBL.iadd (hsz:=(by with_reducible assumption)) ?_;intro _ _) | refine dM ?_)
     exact kf _ _ _ S' z'
   ·rename (_ == Str.ofString "\"") = false=>hq
    rename (_ == Str.ofString "\\") = true=>hb
    rename List.isEmpty _ = true=>hw
    rename Fr _ _ _ _=>F5
    rename News _ _ _ _=>N5
    rw [eE,Bool.not_eq_true'] at hw
    rw [bc c 34 _ ew] at hq
    rw [bc c 92 _ fN] at hb
    rw [ub hb,Nat.add_zero] at N5
    refine kS (pe:=pe) (t0:=t0) (line:=line) ok ap rfl X T (by show dp + 10 < _;omega) (by show un + 101 < _;omega) (aq.mk2 (u:=u1) F5 N5 hR sm ?_ ?_ ?_) (fun e0 t2 h2 tk2 S2=>?_) (fun d' r2 e0 t2 h2 tk2 S2=>?_)
    ·exact (if_neg (by decide)).trans e1
    ·exact (if_neg (by decide)).trans e2
    ·exact (if_neg (by decide)).trans e3
    ·have he:=(pF n' hw hq hb).symm.trans ((congrArg (fun l=>aA (c :: l) n') e0).symm.trans he)
     clear N5 F5 e1 e2 e3 hsz
     obtain ⟨u1,tl,R,e1,e2,e3,F,N,hR,sm⟩:=S2
     have hsz:=sz0 sm
     (repeat' first | walk1 | k_dflt (refine' nameX_L (by k_asm) (by k_asm) ?_ rfl rfl;k_whole) | k_dflt (refine' bE (by k_asm) (by k_asm) ?_ rfl rfl;k_whole) | (refine SBL.iadd (hsz:=(by with_reducible assumption)) ?_;intro _ _) | refine dM ?_)
     rename Fr _ _ _ _=>F5
     rename News _ _ _ _=>N5
     first | rw [iN] at F5 | rw [str_zero] at F5 | rw [ni] at F5
     refine fU (N5 _ hR.it).1 rfl ?_
     refine qw (pe:=pe) (t0:=t0) (line:=line) ok ap X T hd hu [] [] _ z he _ (aq.mk3 F5 N5 hR sm ?_ ?_ ?_) (fun m' h' tk' u S'=>?_) (fun m' h' tk' S' z'=>?_)
     ·exact (if_neg (by decide)).trans ((if_neg (by decide)).trans e1)
     ·exact (if_neg (by decide)).trans ((if_neg (by decide)).trans e2)
     ·exact ⟨_,if_pos rfl⟩
     ·exact kr _ _ _ _ S'
     ·(repeat' first | walk1 | k_dflt (refine' nameX_L (by k_asm) (by k_asm) ?_ rfl rfl;k_whole) | k_dflt (refine' bE (by k_asm) (by k_asm) ?_ rfl rfl;k_whole) | (refine SBL.iadd (hsz:=(by with_reducible assumption)) ?_;intro _ _) | refine dM ?_)
      exact kf _ _ _ S' z'
    ·have he:=(qO d' r2 n' hw hq hb).symm.trans ((congrArg (fun l=>aA (c :: l) n') e0).symm.trans he)
     clear N5 F5 e1 e2 e3 hsz
     obtain ⟨u1,tl,R,e1,e2,e3,F,N,hR,sm⟩:=S2
     have hsz:=sz1 d' sm
     (repeat' first | walk1 | k_dflt (refine' nameX_L (by k_asm) (by k_asm) ?_ rfl rfl;k_whole) | k_dflt (refine' bE (by k_asm) (by k_asm) ?_ rfl rfl;k_whole) | (refine SBL.iadd (hsz:=(by with_reducible assumption)) ?_;intro _ _) | refine dM ?_)
     rename Fr _ _ _ _=>F5
     rename News _ _ _ _=>N5
     first | rw [dt] at F5 | rw [o7] at F5 | rw [str_one'] at F5
     refine fU (N5 _ hR.it).1 rfl ?_
     refine qw (pe:=pe) (t0:=t0) (line:=line) ok ap X T hd hu r2 [d'] _ z he _ (aq.mk3 F5 N5 hR (smB e e0 sm0) ?_ ?_ ?_) (fun m' h' tk' u S'=>?_) (fun m' h' tk' S' z'=>?_)
     ·exact (if_neg (by decide)).trans ((if_neg (by decide)).trans e1)
     ·exact (if_neg (by decide)).trans ((if_neg (by decide)).trans e2)
     ·exact ⟨_,if_pos rfl⟩
     ·exact kr _ _ _ _ S'
     ·(repeat' first | walk1 | k_dflt (refine' nameX_L (by k_asm) (by k_asm) ?_ rfl rfl;k_whole) | k_dflt (refine' bE (by k_asm) (by k_asm) ?_ rfl rfl;k_whole) | (refine SBL.iadd (hsz:=(by with_reducible assumption)) ?_;intro _ _) | refine dM ?_)
      exact kf _ _ _ S' z'
   ·rename (_ == Str.ofString "\"") = false=>hq
    rename (_ == Str.ofString "\\") = false=>hb
    rename List.isEmpty _ = true=>hw
    rename Fr _ _ _ _=>F5
    rename News _ _ _ _=>N5
    rw [eE,Bool.not_eq_true'] at hw
    rw [bc c 34 _ ew] at hq
    rw [bc c 92 _ fN] at hb
    first | rw [dt] at F5 | rw [o7] at F5 | rw [str_one'] at F5
    refine fU (N5 _ hR.it).1 rfl ?_
    refine qw (pe:=pe) (t0:=t0) (line:=line) ok ap X T hd hu r [c] _ z ((sM r n' hw hq hb).symm.trans he) _ (aq.mk3 F5 N5 hR (smA e sm0) ?_ ?_ ?_) (fun m' h' tk' u S'=>?_) (fun m' h' tk' S' z'=>?_)
    ·exact (if_neg (by decide)).trans ((if_neg (by decide)).trans e1)
    ·exact (if_neg (by decide)).trans ((if_neg (by decide)).trans e2)
    ·exact ⟨_,if_pos rfl⟩
    ·exact kr _ _ _ _ S'
    ·(repeat' first | walk1 | k_dflt (refine' nameX_L (by k_asm) (by k_asm) ?_ rfl rfl;k_whole) | k_dflt (refine' bE (by k_asm) (by k_asm) ?_ rfl rfl;k_whole) | (refine SBL.iadd (hsz:=(by with_reducible assumption)) ?_;intro _ _) | refine dM ?_)
     exact kf _ _ _ S' z'
   ·rename List.isEmpty _ = false=>hw
    rename Fr _ _ _ _=>F5
    rename News _ _ _ _=>N5
    rw [eE,Bool.not_eq_false'] at hw
    refine kn _ _ _ r _ (lt1 e) ((qN r n' hw).symm.trans he) (aq.mk2 (u:=u1) F5 N5 hR sm ?_ ?_ ?_)
    ·exact (if_neg (by decide)).trans e1
    ·exact (if_neg (by decide)).trans e2
    ·exact (if_neg (by decide)).trans e3
 ·have S0:=S
  obtain ⟨u,tl,R,e1,e2,e3,F,N,hR,sm⟩:=S0
  refine oJ rfl (N _ hR.it).1 fun h' hk=>?_
  exact wpAny_execs_nil (hend _ _ _ (S.grow hk) he)
end
open PySem PySem.W PySem.Spec PySem.Calls PyProof.Rows
theorem zq (v:Value) (vs:List Value):seqIndex? 0 (v :: vs).toArray.size = some 0:=by
 rw [List.size_toArray,List.length_cons];simp [seqIndex?]
theorem jM {i:Addr} {l:List Addr} (h:∀ y∈l,y < i):i ∉ l:=fun m=>Nat.lt_irrefl _ (h i m)
theorem y7 {x1 x2 x3 x4 x5 x6 x7 x8 x9 i:Addr} (h:x1 < i∧x2 < i∧x3 < i∧x4 < i∧x5 < i∧x6 < i∧x7 < i∧x8 < i∧x9 < i):∀ y∈[x1,x2,x3,x4,x5,x6,x7,x8,x9],y < i:=by
 obtain ⟨h1,h2,h3,h4,h5,h6,h7,h8,h9⟩:=h
 exact List.forall_mem_cons.mpr ⟨h1,List.forall_mem_cons.mpr ⟨h2,List.forall_mem_cons.mpr ⟨h3,List.forall_mem_cons.mpr ⟨h4,List.forall_mem_cons.mpr ⟨h5,List.forall_mem_cons.mpr ⟨h6,List.forall_mem_cons.mpr ⟨h7,List.forall_mem_cons.mpr ⟨h8,List.forall_mem_cons.mpr ⟨h9,nofun⟩⟩⟩⟩⟩⟩⟩⟩⟩
theorem xZ:∃ p1 p2 p3,bl (fBL (mth 21 2)) 3 = .For (.Name "ch" p1) (.Name "fiter" p2) qM [] p3:=⟨_,_,_,rfl⟩
theorem uT {g h:Heap} {L:Addr} {a b:List (Addr × Obj)} (N:News g L h (a ++ b)):News g L h a:=fun p hp=>N p (List.mem_append_left _ hp)
noncomputable def fW (a:Lx) (w:World) (line:Int) (pvs:List Value) (pe:Nat) (cs:List Nat) (vs:List Value) (ep:Nat) (ps:List Str) (v:Value) (nw:List (Addr × Obj)):Prop :=
 match ps with
 | []=>∃ t tl pe' vs' ep',v = .str ⟨(aA cs 0).1.reverse.toArray⟩ t∧nw = a.N w (line + ((aA cs 0).2.2:Nat)) tl [] pe' vs' ep'∧StrsAre vs' (sgs (aA cs 0).2.1).reverse
 | p :: r=>∃ t tl pvs' pe',v = .str p t∧nw = a.N w line tl pvs' pe' vs ep∧StrsAre pvs' r
theorem fW.n {a:Lx} {w:World} {line:Int} {pvs:List Value} {pe:Nat} {cs:List Nat} {vs:List Value} {ep:Nat} {t tl:Tok} {pe':Nat} {vs':List Value} {ep':Nat} (h:StrsAre vs' (sgs (aA cs 0).2.1).reverse) :
  fW a w line pvs pe cs vs ep [] (.str ⟨(aA cs 0).1.reverse.toArray⟩ t) (a.N w (line + ((aA cs 0).2.2:Nat)) tl [] pe' vs' ep'):=⟨_,_,_,_,_,rfl,rfl,h⟩
theorem fW.fin {a:Lx} {w:World} {line:Int} {pvs:List Value} {pe:Nat} {cs c2:List Nat} {vs:List Value} {ep:Nat} {t tl:Tok} {g h:Heap} {L I B:Addr} {t0:Tok} {al:Bool} {R:List (Addr × Obj)} {pe':Nat}
  (N:News g L h ((a.x,instObj 137 a.d) :: (a.d,bu w (line + ((aA cs 0).2.2:Nat)) tl a.k1 a.k2 a.k3 a.tw a.k4 a.st a.pb) :: R)) (hR:Rst a pe' I B t0 al c2 R) (e:(aA cs 0).2.1 = c2):∃ nw,News g L h nw∧fW a w line pvs pe cs vs ep [] (.str ⟨(aA cs 0).1.reverse.toArray⟩ t) nw:=by
 subst e
 obtain ⟨vs',ep',hs',rfl⟩:=hR
 exact ⟨_,uT (a:=[_,_,_,_,_,_,_,_,_]) (b:=[_,_]) N,.n hs'⟩
theorem fW.c {a:Lx} {w:World} {line:Int} {pvs:List Value} {pe:Nat} {cs:List Nat} {vs:List Value} {ep:Nat} {t tl:Tok} {p:Str} {r:List Str} {pvs':List Value} {pe':Nat} (h:StrsAre pvs' r) :
  fW a w line pvs pe cs vs ep (p :: r) (.str p t) (a.N w line tl pvs' pe' vs ep):=⟨_,_,_,_,rfl,rfl,h⟩
set_option tactic.hygienic true in
set_option maxHeartbeats 4000000 in
theorem xb (w:World) (a:Lx) (ok:a.Ok) (line:Int) (tl:Tok) (pvs:List Value) (pe:Nat) (cs:List Nat) (vs:List Value) (ep:Nat) (ps:List Str) (hvs:StrsAre vs (sgs cs).reverse) (hcs:cs.length ≤ 1000) (hps:StrsAre pvs ps) (hpl:ps.length ≤ 2000) :
  ba pw w (kf w.params) (.ref 127) ⟨[.ref a.x],[]⟩ (a.N w line tl pvs pe vs ep) 15 140 (fW a w line pvs pe cs vs ep ps):=by
 have:PySem.Challenge.rw_wc0018_02 = PySem.Challenge.rw_wc0018_02∧kf = kf:=by (k_fill;exact ⟨rfl,rfl⟩)
 clear this
 have nd:=ok.nd
 obtain ⟨x,d,pb,st,dx,rf,c2,cell,sg,so,oc2,co,pm,ctv,hs,tkk,k1,k2,k3,tw,k4⟩:=a
 dsimp only [Lx.N,Lx.addrs] at nd ⊢
 k_dflt (refine' il (binds:=[("self",.ref x)]) ?k6 ?k7 ?k9 ?kB ?c2 ?c3 ?c4 ?c5 ?_;(case k6=>k_is);(case k7=>k_is);(case k9=>exact fun s=>BindsTo.of_eq rfl);(case kB=>exact locs rfl);(case c2=>exact rfl);(case c3=>exact rfl);(case c4=>exact rfl);(case c5=>decide))
 intro p loose mean mg mb dp un gd fr gh L s F X N T hdp hun hL
 have hb:fBL (mth 21 2) = [bl (fBL (mth 21 2)) 0,bl (fBL (mth 21 2)) 1,bl (fBL (mth 21 2)) 2,bl (fBL (mth 21 2)) 3,bl (fBL (mth 21 2)) 4]:=rfl
 change wpAny _ _ (execs (fBL (mth 21 2)) _) _ _ _
 rw [hb]
 clear hb
 conv in (bl _ 0)=>whnf
 conv in (bl _ 1)=>whnf
 conv in (bl _ 2)=>whnf
 conv in (bl _ 4)=>whnf
 induction ps using List.casesOn with
 | nil =>
  cases hps
  (repeat' first | walk1 | (k_dflt (refine' rW (by k_asm) (by k_asm) (by k_mem) ?_);intro I' h' F' N' l1;try k_lt l1))
  rename Fr _ _ _ _=>F5
  rename News _ _ _ _=>N5
  rename (_ < _∧_ < _∧_ < _∧_ < _∧_ < _∧_ < _∧_ < _∧_ < _∧_ < _∧_ < _)=>l1
  rename (_ < _∧_ < _∧_ < _∧_ < _∧_ < _∧_ < _∧_ < _∧_ < _∧_ < _)=>l0
  have ap:Apart ⟨x,d,pb,st,dx,rf,c2,cell,sg,so,oc2,co,pm,ctv,hs,tkk,k1,k2,k3,tw,k4⟩ _ _:=⟨jM (y7 l1.2),jM (y7 l0),Nat.ne_of_lt l1.1⟩
  rw [show line = line + ((0:Nat):Int) from (Int.add_zero _).symm] at N5
  refine x31 xZ fun p1 p2 p3 e3=>?_
  rw [e3]
  refine dM ?_
  k_steps
  refine fU (N5 _ (.head _)).1 rfl ?_
  refine zE (pe:=pe) (line:=line) ok ap X T (by lia) (by lia) cs 0 _ rfl _ (aq.mk3 F5 (News.swap (a:=[_,_]) N5) ⟨_,_,hvs,rfl⟩ ?_ ?_ ?_ ?_) (fun m' h' tk' u S'=>?_) (fun m' h' tk' S' z'=>?_)
  ·show cs.length + 0 ≤ 1000;omega
  ·exact (if_neg (by decide)).trans ((if_neg (by decide)).trans rfl)
  ·exact if_pos rfl
  ·exact ⟨_,(if_neg (by decide)).trans ((if_pos rfl).trans (by rw [ni])) ⟩
  ·obtain ⟨u1,tl',R,e1,e2,e3,F,N',hR,sm⟩:=S'
   exact x12 (fW.fin N' hR rfl) fun nw N r=>aW.intro F N r
  ·obtain ⟨u1,tl',R,e1,e2,e3,F,N',hR,sm⟩:=S'
   clear F5 N5
   (repeat' first | walk1 | k_dflt (refine' nameX_L (by k_asm) (by k_asm) ?_ rfl rfl;k_whole))
   exact x12 (fW.fin N' hR z') fun nw N r=>aW.intro (by assumption) N r
 | cons y ys =>
  cases hps with
  | cons _ ty hps' =>
   rename_i vs0
   have hz:(Value.str y ty :: vs0).toArray.toList.length ≤ sizeLine:=by
    have:=gj hps'
    rw [sizeLine_eq];simp only [List.length_cons] at hpl ⊢;lia
   have hl:(Value.str y ty :: vs0).length < 2 ^ 62:=by
    have:=gj hps'
    simp only [List.length_cons] at hpl ⊢;omega
   have m0:@Ne Nat x pb:=aH nd 0 2 rfl rfl rfl
   have m1:@Ne Nat d pb:=aH nd 1 2 rfl rfl rfl
   have m2:@Ne Nat st pb:=(aH nd 2 3 rfl rfl rfl).symm
   have m3:@Ne Nat dx pb:=(aH nd 2 4 rfl rfl rfl).symm
   have m4:@Ne Nat rf pb:=(aH nd 2 5 rfl rfl rfl).symm
   have m5:@Ne Nat c2 pb:=(aH nd 2 6 rfl rfl rfl).symm
   have m6:@Ne Nat cell pb:=(aH nd 2 7 rfl rfl rfl).symm
   have m7:@Ne Nat sg pb:=(aH nd 2 8 rfl rfl rfl).symm
   k_steps
   refine kgr_truthy (vs:=Value.str y ty :: vs0) (by assumption) (by k_mem) rfl rfl hl ?_
   rw [show (!(Value.str y ty :: vs0).isEmpty) = true from rfl]
   (repeat' first | walk1 | (k_dflt (refine' kl_popAt (k:=0) (p:=[]) ?F ?N ?hf ?hk ?e ?U ?z ?_;(case F=>k_asm);(case N=>k_asm);(case U=>k_upd);(case hf=>decide);(case hk=>exact zq _ _);(case e=>exact rfl);(case z=>with_reducible assumption));intro h' F' N';try dsimp only [List.nil_append,List.cons_append] at N'))
   exact aW.intro (by assumption) (by assumption) (.c hps')
end Mine
end
section
open PySem PySem.W PySem.Spec PySem.Calls PyProof.Rows
namespace Mine
noncomputable def gF (prog:Program) (w:World) (K:Frag) (f:Value) (args:Args) (news:List (Addr × Obj)) (d u:Nat) (R:Addr→Value→List (Addr × Obj)→Prop):Prop :=
 ∀ (p:Program) (loose:List Str) (mean:ExcName→Option Value) (mg mb:Str→Option Value) (A:Around) (s:Shared) (R':Result→Shared→Prop),
  A.handled = none→K.In (hideAll s.heap (news.map (·.1)))→(∀ p∈news,s.heap.get? p.1 = some p.2)→Top p loose mean mg mb (hideAll s.heap (news.map (·.1)))→A.depth + d < recursionLimit→A.units + u < cLine →
  (∀ v news' h' tk',(∀ b o,b ∉ news.map (·.1)→s.heap.get? b = some o→h'.get? b = some o)→(∀ p∈news',h'.get? p.1 = some p.2∧(hideAll s.heap (news.map (·.1))).get? p.1 = none)→R s.heap.objs.size v news'→R' (.ok (.ret v)) { s with heap:=h',toks:=tk' }) →
  codeAny (model prog w) A (.call f args) R' s
section
variable {prog:Program} {w:World} {K:Frag} {news:List (Addr × Obj)} {d u:Nat} {R:Addr→Value→List (Addr × Obj)→Prop} {name qual:Str} {params:Arguments} {body:List Stmt} {scope:Scope} {dV kV doc pm cdv ct oc:Value} {an od:Option Addr} {osl:Array (Option Value)} {f:Addr} {args:Args} {binds:List (Str × Value)}
theorem dA (ho:K.lookup f = some ⟨oc,od,.func (fnX name qual params body scope [] dV kV doc pm an cdv ct),osl⟩) (hcd:codeIn K cdv qual = true)
  (hbind:∀ s,BindsTo s (fnX name qual params body scope [] dV kV doc pm an cdv ct) args binds) (hkind:(binds.all fun y=>scope.names.lookup y.1 == some .local || scope.names.lookup y.1 == some .cell) = true)
  (hnd:((cellsFrom 0 scope.names []).map (·.1)).Nodup)
  (hco:scope.isCoroutine = false) (hgen:scope.isGenerator = false) (hk:scope.kind = .function)
  (h:∀ (p:Program) (loose:List Str) (mean:ExcName→Option Value) (mg mb:Str→Option Value) (dp un:Nat) (gd:Option (List Code)) (fr:Option (List Env)) (g:Heap) (L:Addr) (s:Shared) (cells:List (Addr × Obj)),
   Fr g L s.heap (bindL (envOfC qual scope L f cdv).kindOf binds fun _=>none)→K.In g→News g L s.heap (cells ++ news) →
   CellsAre (bindC (envOfC qual scope L f cdv).kindOf binds fun _=>none) (cellsFrom (L + 1) scope.names []) cells→Top p loose mean mg mb g→dp + d < recursionLimit→un + u < cLine→(∀ p∈news,p.1 < L) →
   wpAny (model prog w) (eG dp un gd fr) (execs body (envOfC qual scope L f cdv)) (aW s g L (R L)) NoE s):gF prog w K (.ref f) args news (d + 1) (u + 3) R:=by
 intro p loose mean mg mb A s R' hh X N T hd hu ret
 have up:∀ {b o},(hideAll s.heap (news.map (·.1))).get? b = some o→s.heap.get? b = some o:=of_hideAll _
 refine codeAny_call_function (by omega) (up (X f _ ho)) rfl hco hgen rfl (codeRec_of (fun a o e=>up (X a o e)) hcd) (hbind s _ _ _ _ ?_)
 refine wpAny_newFunctionEnv_cells hk (kindsX hkind _) fun env' he s' x=>?_
 subst he
 refine ⟨((T.nolimit).keeps fun _ _ e=>up e).keeps x.toInCall.keep,codeAny_func ?_⟩
 obtain ⟨h₁,tk,rfl,_⟩:=x.done
 have hk₁:=x.toInCall.keep
 refine x12 (Cl.news (h₀:=s.heap) (Nat.le_refl _) fun n c hm=>⟨x.cell n c (lookup_of_mem_nodup (cellsFrom_names scope.names 0 (s.heap.objs.size + 1) [] [] rfl ▸ hnd) hm),x.above n c hm⟩) fun cells NC Y=>?_
 have hNg:News (hideAll s.heap (news.map (·.1))) s.heap.objs.size h₁ (cells ++ news):=fun p hp=>by
  rcases List.mem_append.mp hp with hp | hp
  ·refine ⟨(NC p hp).1,(NC p hp).2.1, ?_⟩
   cases q:(hideAll s.heap (news.map (·.1))).get? p.1 with
   | none=>rfl
   | some o=>have:=of_hideAll _ q;rw [(NC p hp).2.2] at this;cases this
  ·have hp':=N p hp
   exact ⟨hk₁ _ _ hp',Nat.ne_of_lt (Heap.lt_size hp'),hideAll_none _ (List.mem_map_of_mem hp)⟩
 have w1:=h p loose mean mg mb (A.depth + 1) (A.units + 3) A.guards (A.frames.map ((envOfC qual scope s.heap.objs.size f cdv) :: ·)) _ s.heap.objs.size { s with heap:=h₁,toks:=tk } cells ⟨x.toInCall.ns,fun b o e=>hk₁ b o (up e),Nat.le_of_eq (hideAll_size _ _)⟩ X
  hNg Y T (by omega) (by omega) (fun p hp=>Heap.lt_size (N p hp))
 have hAd:A.deeper (envOfC qual scope s.heap.objs.size f cdv) = eG (A.depth + 1) (A.units + 3) A.guards (A.frames.map ((envOfC qual scope s.heap.objs.size f cdv) :: ·)):=by
  obtain ⟨hd',dp,fr,gs,un⟩:=A
  simp only at hh
  subst hh
  rfl
 refine wpAny_mono (A:=A.deeper (envOfC qual scope s.heap.objs.size f cdv)) (hAd ▸ w1) (fun fl s' hq=>?_) fun _ _ x=>x.elim
 refine qo hq fun h' tk' m' news' F' N' r=>?_
 exact ret _ news' h' tk' (fun b o hb e=>F'.keep b o (hideAll_get _ e hb)) (fun p hp=>⟨(N' p hp).1,(N' p hp).2.2⟩) r
end
end Mine
end
section
open PySem PySem.W PySem.Spec PySem.Calls PyProof.Rows
namespace Mine
theorem News.yK {g h:Heap} {L:Addr} {a b:Addr × Obj} {r:List (Addr × Obj)} (N:News g L h (a :: b :: r)):News g L h ([a,b] ++ r):=N
theorem apart2 {l:List (Addr × Obj)} {x d:Addr} {ox od:Obj} (h:∀ p∈l,p.1 < d) (hx:d < x):∀ q∈l,∀ p∈[(x,ox),(d,od)],q.1 ≠ p.1:=fun q hq p hp=>by
 have:=h q hq
 rcases List.mem_cons.mp hp with rfl | hp
 ·exact Nat.ne_of_lt (Nat.lt_trans this hx)
 ·rcases List.mem_cons.mp hp with rfl | hp
  ·exact Nat.ne_of_lt this
  ·cases hp
theorem xm {α:Type} (e0 e1 e2 e3 e4 e5 e6 e7 e8 e9 e10 e11 e12:α):∀ p∈[e1,e2,e0,e7,e3,e4,e11,e9,e5,e12],p∈[e0,e1,e2,e3,e4,e5,e6,e7,e8,e9,e10,e11,e12] :=
 List.forall_mem_cons.mpr ⟨List.mem_of_getElem? (i:=1) rfl,List.forall_mem_cons.mpr ⟨List.mem_of_getElem? (i:=2) rfl,List.forall_mem_cons.mpr ⟨List.mem_of_getElem? (i:=0) rfl,List.forall_mem_cons.mpr ⟨List.mem_of_getElem? (i:=7) rfl,List.forall_mem_cons.mpr ⟨List.mem_of_getElem? (i:=3) rfl,List.forall_mem_cons.mpr ⟨List.mem_of_getElem? (i:=4) rfl,List.forall_mem_cons.mpr ⟨List.mem_of_getElem? (i:=11) rfl,List.forall_mem_cons.mpr ⟨List.mem_of_getElem? (i:=9) rfl,List.forall_mem_cons.mpr ⟨List.mem_of_getElem? (i:=5) rfl,List.forall_mem_cons.mpr ⟨List.mem_of_getElem? (i:=12) rfl,nofun⟩⟩⟩⟩⟩⟩⟩⟩⟩⟩
theorem yv {L sg st c2 rf dx d x pb:Nat} (h1:L + 1 < sg) (h2:sg < st) (h3:st < c2) (h4:c2 < rf) (h5:rf < dx) (h6:dx < d) (h7:d < x) (h8:x < pb):[x,d,pb,st,dx,rf,c2,L + 1,sg].Nodup :=
 mj (l:=[7,6,8,2,5,4,3,0,1]) 9 rfl ((((((((jd.cons h8).cons h7).cons h6).cons h5).cons h4).cons h3).cons h2).cons h1) (by decide)
theorem rp {L sg st rf dx d x pb:Nat} (h1:L + 1 < sg) (h2:sg < st) (h3:st < rf) (h5:rf < dx) (h6:dx < d) (h7:d < x) (h8:x < pb):∀ y∈[x,d,pb,st,dx,rf,L + 1,sg],L ≤ y:=by
 have a1:=Nat.le_of_lt (Nat.lt_of_succ_lt h1);have a2:=Nat.le_trans a1 (Nat.le_of_lt h2);have a3:=Nat.le_trans a2 (Nat.le_of_lt h3);have a4:=Nat.le_trans a3 (Nat.le_of_lt h5);have a5:=Nat.le_trans a4 (Nat.le_of_lt h6);have a6:=Nat.le_trans a5 (Nat.le_of_lt h7)
 simp only [List.forall_mem_cons]
 exact ⟨a6,a5,Nat.le_trans a6 (Nat.le_of_lt h8),a2,a4,a3,Nat.le_succ L,a1,nofun⟩
theorem zN {L sg st c2:Nat} (h1:L + 1 < sg) (h2:sg < st) (h3:st < c2):L ≤ c2:=Nat.le_of_lt (Nat.lt_of_succ_lt (Nat.lt_trans (Nat.lt_trans h1 h2) h3))
noncomputable abbrev cR (c1 c2:Addr):Obj:=tabObj #[rawInt 221,rawInt 39,.ref c1,rawInt 222,rawInt 18,.ref c2]
noncomputable abbrev Lx.L (a:Lx) (w:World) (line:Int) (tl:Tok) (pvs:List Value) (pe:Nat) (vs:List Value) (ep:Nat):List (Addr × Obj) :=
 [(a.x,instObj 137 a.d),(a.d,bu w line tl a.k1 a.k2 a.k3 a.tw a.k4 a.st a.pb),(a.pb,listOf pvs.toArray pe),(a.st,a.so),(a.dx,dj a.hs a.tk (.ref a.rf)),(a.rf,eI a.cell a.c2 a.pm a.ctv),(a.cell,a.co),(a.sg,listOf vs.toArray ep)]
noncomputable def xi (w:World) (text:Str) (tab:Addr→Addr→Obj→Obj→Prop) (b:Addr) (v:Value) (nw:List (Addr × Obj)):Prop :=
 ∃ (a:Lx) (tl:Tok) (vs:List Value) (ep:Nat) (t:Obj),v = .ref a.x∧nw = a.L w 1 tl [] 0 vs ep ++ [(a.c2,a.oc2),(143,t)]∧a.Ok∧StrsAre vs (signs text).reverse∧(∀ y∈a.L w 1 tl [] 0 vs ep,b ≤ y.1)∧tab b a.c2 a.oc2 t
set_option maxHeartbeats 8000000 in
theorem t9 (w:World) (x:Str) (t:Tok) (hx:x.cps.size ≤ 1000) (C0:∀ g,(kf w.params).In g→CodeHd g 147 143):gF pw w (kf w.params) (.ref 148) ⟨[.str x t],[]⟩ [(143,tabObj #[])] 15 140 (xi w x fun b c2 _ t=>∃ c1,t = cR c1 c2∧b ≤ c2):=by
 have:PySem.Challenge.rw_wc0018_02 = PySem.Challenge.rw_wc0018_02∧kf = kf:=by (k_fill;exact ⟨rfl,rfl⟩)
 clear this
 k_dflt (refine' dA (binds:=[("text",.str x t)]) ?k6 ?k7 ?k9 ?kB ?kn ?c2 ?c3 ?c4 ?_;(case k6=>k_is);(case k7=>k_is);(case k9=>exact fun s=>BindsTo.of_eq rfl);(case kB=>exact rfl);(case kn=>decide);(case c2=>exact rfl);(case c3=>exact rfl);(case c4=>exact rfl))
 intro p loose mean mg mb dp un gd fr gh L s cells F X N Y T hdp hun hL
 (try k_lt hL);k_cells Y;(try simp only [List.cons_append,List.nil_append] at N);(try dsimp only)
 have C:=C0 _ X
 conv in (execs _ _)=>arg 1;whnf
 (repeat' first | ((with_reducible show wpAny _ _ (call (Value.type _) [_]) _ _ _);k_dflt (refine' list_str rfl (by k_asm) (by k_asm) (by with_reducible assumption) ?_);intro D2 h8 tk3 vs0 ep0 F' N' l5 S0 Z0;try k_lt l5) | ((with_reducible show wpAny _ _ (subscriptTail _ (PySem.Expr.Slice none none (some _) _) (Value.ref _) (Value.ref _)) _ _ _);k_dflt (refine' krv_lit (by k_asm) (by k_asm) (by kmk_list) (by exact IsPart.int _ _) rfl ?_ (by with_unfolding_all rfl) (by kmk_pure) (by with_reducible assumption));intro D1 h7 F' N' l4;(try k_lt l4);try k_sweep) | ((with_reducible show wpAny _ _ (setAttr (Value.ref _) _ _) _ _ _);k_dflt (refine' iD (by k_asm) (by k_asm) (by k_updF) rfl rfl rfl ?_;intro dx h0 hs0 tk0 F0 N0 l0;(try k_lt l0);(try dsimp only at N0);try k_sweep)) | walk1)
 rename_i o0 d0 f1 c1 oc1 cvs1 ct1 ctv1 h6 tk2 e1 e2 l3 l2a D0 h5 l2b h4 h3 co d1 h2 f2 c2 oc2 cvs2 ct2 ctv2 h1 tk1 e3 e4 l1a l2c
 refine' call_cls ?k1 ?k2 ?k3 ?k4 ?k5 ?k6 ?_
 case k1=>k_asm
 case k2=>k_asm
 case k3=>k_asm
 case k4=>k_is
 case k5=>k_is
 case k6=>k_is
 clear F0 N0
 intro x' d' h' F' N' l1 l2
 refine ba.use (sj w x' d' _ l2) rfl F' X (News.yK N') (apart2 l1 l2) T (show dp + 1 + 5 < _ from cQ (d:=6) hdp rfl) (show un + 1 + 50 < _ from cQ (d:=51) hun rfl) fun v nw h2 tk2 F2 N2 ho2 r2=>?_
 obtain ⟨rfl,pb,tl,k1,k2,k3,tw,k4,rfl,hpb⟩:=r2
 have l1':=l1
 k_lt l1'
 obtain ⟨so,tb,N6,so1,so2,so3,htb⟩:∃ so tb:Obj,News gh L h2 [(pb,listOf #[] 0),(x',instObj 137 d'),(d',bu w 1 tl k1 k2 k3 tw k4 f1 pb),(dx,dj hs0 tk0 (.ref f2)),(f2,eI (L + 1) c2 ((mg "__name__").getD .none) ctv2),(c2,oc2),(D0,{ cls:=.type "tuple",data:=.seq #[.ref D1,.ref f1] }),(f1,so),(c1,oc1),(D1,listOf vs0.reverse.toArray 0),(D2,listOf vs0.toArray ep0),(L + 1,co),(143,tb)]∧so.cls = .type "function"∧so.dict = some dx∧(∃ d,so.data = .func d)∧tb = cR c1 c2:=⟨_,_,N2,rfl,rfl,⟨_,rfl⟩,by kernel_rfl⟩
 subst htb
 clear N2 N' F' ho2
 have N7:News gh L h2 (Lx.L ⟨x',d',pb,f1,dx,f2,c2,L + 1,D1,so,oc2,co,(mg "__name__").getD .none,ctv2,hs0,tk0,k1,k2,k3,tw,k4⟩ w 1 tl [] 0 vs0.reverse 0 ++ [(c2,oc2),(143,cR c1 c2)]):=fun p hp=>N6 p (xm _ _ _ _ _ _ _ _ _ _ _ _ _ p hp)
 clear N6
 refine ⟨rfl, ?_⟩
 show aW s gh L _ (.ret (.ref x')) _
 refine aW.intro F2 N7 ⟨_,tl,vs0.reverse,0,_,rfl,rfl,⟨⟨so1,so2,so3⟩,⟨_,_,e3,e4⟩,d1, ?_⟩,iC S0, ?_,⟨c1,rfl, ?_⟩⟩
 ·exact yv l4.2.1 (Nat.lt_trans l3.1 l2a) l1a.2.1 l2c l0.1 l1'.1 l2 hpb.1
 ·exact fun y hy=>rp l4.2.1 (Nat.lt_trans l3.1 l2a) (Nat.lt_trans l1a.2.1 l2c) l0.1 l1'.1 l2 hpb.1 y.1 (List.mem_map_of_mem (f:=(·.1)) hy)
 ·exact zN l4.2.1 (Nat.lt_trans l3.1 l2a) l1a.2.1
open PySem PySem.W PySem.Spec PySem.Calls PyProof.Rows
theorem yZ {α:Type} (e0 e1 e2 e3 e4 e5 e6 e7 e8 e9 e10 e11:α):∀ p∈[e1,e2,e0,e6,e3,e4,e9,e7,e11,e10],p∈[e0,e1,e2,e3,e4,e5,e6,e7,e8,e9,e10,e11] :=
 List.forall_mem_cons.mpr ⟨List.mem_of_getElem? (i:=1) rfl,List.forall_mem_cons.mpr ⟨List.mem_of_getElem? (i:=2) rfl,List.forall_mem_cons.mpr ⟨List.mem_of_getElem? (i:=0) rfl,List.forall_mem_cons.mpr ⟨List.mem_of_getElem? (i:=6) rfl,List.forall_mem_cons.mpr ⟨List.mem_of_getElem? (i:=3) rfl,List.forall_mem_cons.mpr ⟨List.mem_of_getElem? (i:=4) rfl,List.forall_mem_cons.mpr ⟨List.mem_of_getElem? (i:=9) rfl,List.forall_mem_cons.mpr ⟨List.mem_of_getElem? (i:=7) rfl,List.forall_mem_cons.mpr ⟨List.mem_of_getElem? (i:=11) rfl,List.forall_mem_cons.mpr ⟨List.mem_of_getElem? (i:=10) rfl,nofun⟩⟩⟩⟩⟩⟩⟩⟩⟩⟩
theorem wV {L sg st c2 rf dx d x pb:Nat} (h0:c2 < L) (h1:L + 1 < sg) (h2:sg < st) (h3:st < rf) (h5:rf < dx) (h6:dx < d) (h7:d < x) (h8:x < pb):[x,d,pb,st,dx,rf,c2,L + 1,sg].Nodup :=
 mj (l:=[7,6,8,3,5,4,0,1,2]) 9 rfl ((((((((jd.cons h8).cons h7).cons h6).cons h5).cons h3).cons h2).cons h1).cons (Nat.lt_succ_of_lt h0)) (by decide)
set_option maxHeartbeats 8000000 in
theorem t8 (w:World) (x:Str) (t:Tok) (hx:x.cps.size ≤ 1000) {c1 c2:Addr} {oc2:Obj} (hc2:cT oc2 kM) (C0:∀ g,(kf w.params).In g→CodeHd g 147 143):gF pw w (kf w.params) (.ref 148) ⟨[.str x t],[]⟩ [(143,cR c1 c2),(c2,oc2)] 15 140 (xi w x fun _ c o t=>c = c2∧o = oc2∧t = cR c1 c2):=by
 have:PySem.Challenge.rw_wc0018_02 = PySem.Challenge.rw_wc0018_02∧kf = kf:=by (k_fill;exact ⟨rfl,rfl⟩)
 clear this
 k_dflt (refine' dA (binds:=[("text",.str x t)]) ?k6 ?k7 ?k9 ?kB ?kn ?c2 ?c3 ?c4 ?_;(case k6=>k_is);(case k7=>k_is);(case k9=>exact fun s=>BindsTo.of_eq rfl);(case kB=>exact rfl);(case kn=>decide);(case c2=>exact rfl);(case c3=>exact rfl);(case c4=>exact rfl))
 intro p loose mean mg mb dp un gd fr gh L s cells F X N Y T hdp hun hL
 (try k_lt hL);k_cells Y;(try simp only [List.cons_append,List.nil_append] at N);(try dsimp only)
 have C:=C0 _ X
 conv in (execs _ _)=>arg 1;whnf
 (repeat' first | ((with_reducible show wpAny _ _ (call (Value.type _) [_]) _ _ _);k_dflt (refine' list_str rfl (by k_asm) (by k_asm) (by with_reducible assumption) ?_);intro D2 h8 tk3 vs0 ep0 F' N' l5 S0 Z0;try k_lt l5) | ((with_reducible show wpAny _ _ (subscriptTail _ (PySem.Expr.Slice none none (some _) _) (Value.ref _) (Value.ref _)) _ _ _);k_dflt (refine' krv_lit (by k_asm) (by k_asm) (by kmk_list) (by exact IsPart.int _ _) rfl ?_ (by with_unfolding_all rfl) (by kmk_pure) (by with_reducible assumption));intro D1 h7 F' N' l4;(try k_lt l4);try k_sweep) | ((with_reducible show wpAny _ _ (setAttr (Value.ref _) _ _) _ _ _);k_dflt (refine' iD (by k_asm) (by k_asm) (by k_updF) rfl rfl rfl ?_;intro dx h0 hs0 tk0 F0 N0 l0;(try k_lt l0);(try dsimp only at N0);try k_sweep)) | walk1)
 rename_i o0 d0 f1 ctv1 h6 tk2 l3 D0 h5 l2b h4 h3 co d1 h2 f2 ctv2 h1 tk1 l1a
 refine' call_cls ?k1 ?k2 ?k3 ?k4 ?k5 ?k6 ?_
 case k1=>k_asm
 case k2=>k_asm
 case k3=>k_asm
 case k4=>k_is
 case k5=>k_is
 case k6=>k_is
 clear F0 N0
 intro x' d' h' F' N' l1 l2
 refine ba.use (sj w x' d' _ l2) rfl F' X (News.yK N') (apart2 l1 l2) T (show dp + 1 + 5 < _ from cQ (d:=6) hdp rfl) (show un + 1 + 50 < _ from cQ (d:=51) hun rfl) fun v nw h2 tk2 F2 N2 ho2 r2=>?_
 obtain ⟨rfl,pb,tl,k1,k2,k3,tw,k4,rfl,hpb⟩:=r2
 have l1':=l1
 k_lt l1'
 obtain ⟨so,N6,so1,so2,so3⟩:∃ so:Obj,News gh L h2 [(pb,listOf #[] 0),(x',instObj 137 d'),(d',bu w 1 tl k1 k2 k3 tw k4 f1 pb),(dx,dj hs0 tk0 (.ref f2)),(f2,eI (L + 1) c2 ((mg "__name__").getD .none) ctv2),(D0,{ cls:=.type "tuple",data:=.seq #[.ref D1,.ref f1] }),(f1,so),(D1,listOf vs0.reverse.toArray 0),(D2,listOf vs0.toArray ep0),(L + 1,co),(143,cR c1 c2),(c2,oc2)]∧so.cls = .type "function"∧so.dict = some dx∧(∃ d,so.data = .func d):=⟨_,N2,rfl,rfl,⟨_,rfl⟩⟩
 clear N2 N' F' ho2
 have N7:News gh L h2 (Lx.L ⟨x',d',pb,f1,dx,f2,c2,L + 1,D1,so,oc2,co,(mg "__name__").getD .none,ctv2,hs0,tk0,k1,k2,k3,tw,k4⟩ w 1 tl [] 0 vs0.reverse 0 ++ [(c2,oc2),(143,cR c1 c2)]):=fun p hp=>N6 p (yZ _ _ _ _ _ _ _ _ _ _ _ _ p hp)
 clear N6
 refine ⟨rfl, ?_⟩
 show aW s gh L _ (.ret (.ref x')) _
 refine aW.intro F2 N7 ⟨_,tl,vs0.reverse,0,_,rfl,rfl,⟨⟨so1,so2,so3⟩,hc2,d1, ?_⟩,iC S0, ?_,⟨rfl,rfl,rfl⟩⟩
 ·exact wV hL.2 l4.2.1 l3.1 l1a.2.1 l0.1 l1'.1 l2 hpb.1
 ·exact fun y hy=>rp l4.2.1 l3.1 l1a.2.1 l0.1 l1'.1 l2 hpb.1 y.1 (List.mem_map_of_mem (f:=(·.1)) hy)
end Mine
end
section
open PySem PySem.W PySem.Spec PySem.Calls PyProof.Rows
namespace Mine
section
variable {prog:Program} {w:World} {K:Frag} {news:List (Addr × Obj)} {d u:Nat} {R:Value→List (Addr × Obj)→Prop} {name qual:Str} {params:Arguments} {body:List Stmt} {scope:Scope} {cl:List (Str × Addr)} {doc pm ctv:Value} {f c':Addr} {oc:Obj} {cvs:Array Value} {ct:Tok} {args:Args} {binds:List (Str × Value)}
theorem lj (ho:(f,fnMade name qual params body scope cl doc pm c' ctv)∈news) (hoc:(c',oc)∈news) (hd':oc.data = .fields cvs) (hv:cvs[1]? = some (.str qual ct))
  (hbind:∀ s,BindsTo s (fnX name qual params body scope cl .none .none doc pm none (.ref c') ctv) args binds) (hloc:∀ y∈binds,scope.names.lookup y.1 = some .local)
  (hco:scope.isCoroutine = false) (hgen:scope.isGenerator = false) (hk:scope.kind = .function) (hcell:∀ x∈scope.names,x.2 ≠ .cell)
  (h:∀ (p:Program) (loose:List Str) (mean:ExcName→Option Value) (mg mb:Str→Option Value) (dp un:Nat) (gd:Option (List Code)) (fr:Option (List Env)) (g:Heap) (L:Addr) (s:Shared),
   Fr g L s.heap (fun y=>binds.reverse.lookup y)→K.In g→News g L s.heap news→Top p loose mean mg mb g→dp + d < recursionLimit→un + u < cLine→(∀ p∈news,p.1 < L) →
   wpAny (model prog w) (eG dp un gd fr) (execs body (envX qual scope L f (.ref c') cl)) (aW s g L R) NoE s):ba prog w K (.ref f) args news (d + 1) (u + 3) R:=by
 intro p loose mean mg mb A s R' hh X N T hd hu ret
 have up:∀ {b o},(hideAll s.heap (news.map (·.1))).get? b = some o→s.heap.get? b = some o:=of_hideAll _
 refine codeAny_call_def (fd:=fnX name qual params body scope cl .none .none doc pm none (.ref c') ctv) (body:=body) (binds:=binds) (by omega) (N _ ho) rfl (T.nolimit.keeps fun _ _ e=>up e) ⟨c',oc,cvs,ct,rfl,N _ hoc,hd',hv⟩ rfl (hbind s) hcell hloc (fun h₁ hns hk₁=>?_) hco hgen hk
 have w1:=h p loose mean mg mb (A.depth + 1) (A.units + 3) A.guards (A.frames.map (envX qual scope s.heap.objs.size f (.ref c') cl :: ·)) _ s.heap.objs.size { s with heap:=h₁,toks:=s.toks + binds.length }
  ⟨hns,fun b o e=>hk₁ b o (up e),Nat.le_of_eq (hideAll_size _ _)⟩ X
  (fun p hp=>⟨hk₁ _ _ (N p hp),Nat.ne_of_lt (Heap.lt_size (N p hp)),hideAll_none _ (List.mem_map_of_mem hp)⟩) T (by omega) (by omega) (fun p hp=>Heap.lt_size (N p hp))
 have hAd:A.deeper (envX qual scope s.heap.objs.size f (.ref c') cl) = eG (A.depth + 1) (A.units + 3) A.guards (A.frames.map (envX qual scope s.heap.objs.size f (.ref c') cl :: ·)):=by
  obtain ⟨hd',dp,fr,gs,un⟩:=A
  simp only at hh
  subst hh
  rfl
 rw [show callEnv (fnX name qual params body scope cl .none .none doc pm none (.ref c') ctv) s.heap.objs.size f = envX qual scope s.heap.objs.size f (.ref c') cl from rfl,hAd]
 refine wpAny_mono w1 (fun fl s' hq=>?_) fun _ _ x=>x.elim
 refine qo hq fun h' tk' m' news' F' N' r=>?_
 refine ret _ news' h' tk' (fun b o hb e=>F'.keep b o (hideAll_get _ e hb)) (fun p hp=>⟨(N' p hp).1,(N' p hp).2.2⟩) r
end
end Mine
end
section
open PySem PySem.W PySem.Spec PySem.Calls PyProof.Rows
namespace Mine
noncomputable def fq (n:Nat) (vs vs':List Value) (l r x:Nat):Prop :=
 vs'.length = vs.length∧(∀ i,i < l∨r ≤ i→vs'[i]? = vs[i]?)∧∀ i,l ≤ i→i < r→∃ t,vs'[i]? = some (.int ((x / 2 ^ (n * (i - l)) % 2 ^ n:Nat):Int) t)
theorem fq.one {n:Nat} {vs:List Value} {l x:Nat} (t:Tok) (hl:l < vs.length) (hx:x < 2 ^ (n * 1)):fq n vs (vs.set l (.int (x:Int) t)) l (l + 1) x:=by
 refine ⟨List.length_set,fun i h=>List.getElem?_set_ne (by lia),fun i h1 h2=>⟨t, ?_⟩⟩
 have:i = l:=Nat.le_antisymm (Nat.le_of_lt_succ h2) h1
 subst this
 rw [List.getElem?_set_self hl,Nat.sub_self,Nat.mul_zero,Nat.pow_zero,Nat.div_one,Nat.mod_eq_of_lt (by rw [Nat.mul_one] at hx;exact hx)]
theorem oM (x a b n:Nat) (h:a + n ≤ b):x % 2 ^ b / 2 ^ a % 2 ^ n = x / 2 ^ a % 2 ^ n:=by
 apply Nat.eq_of_testBit_eq
 intro i
 simp only [Nat.testBit_mod_two_pow,Nat.testBit_div_two_pow]
 by_cases hi:i < n
 ·have:i + a < b:=Nat.lt_of_lt_of_le (Nat.add_comm i a ▸ Nat.add_lt_add_left hi a) h
  simp [hi,this]
 ·simp [hi]
theorem fq.join {n:Nat} {vs v1 v2:List Value} {l m r x:Nat} (h1:fq n vs v1 l m (x % 2 ^ ((m - l) * n))) (h2:fq n v1 v2 m r (x / 2 ^ ((m - l) * n))) (hlm:l ≤ m) (hmr:m ≤ r):fq n vs v2 l r x:=by
 refine ⟨h2.1.trans h1.1,fun i h=>?_,fun i a b=>?_⟩
 ·rw [h2.2.1 i (h.imp (fun g=>Nat.lt_of_lt_of_le g hlm) id),h1.2.1 i (h.imp id (Nat.le_trans hmr))]
 ·by_cases hi:i < m
  ·obtain ⟨t,e⟩:=h1.2.2 i a hi
   refine ⟨t, ?_⟩
   rw [h2.2.1 i (.inl hi),e,oM]
   have:n * (i - l) + n = n * (i - l + 1):=(Nat.mul_succ _ _).symm
   rw [this,Nat.mul_comm (m - l)]
   exact Nat.mul_le_mul_left _ (Nat.le_trans (Nat.le_of_eq (Nat.succ_sub a).symm) (Nat.sub_le_sub_right hi l))
  ·obtain ⟨t,e⟩:=h2.2.2 i (Nat.le_of_not_lt hi) b
   refine ⟨t, ?_⟩
   rw [e,Nat.div_div_eq_div_mul,← Nat.pow_add]
   have:(m - l) * n + n * (i - m) = n * (i - l):=by
    rw [Nat.mul_comm (m - l),← Nat.mul_add,Nat.add_comm,Nat.sub_add_sub_cancel (Nat.le_of_not_lt hi) hlm]
   rw [this]
theorem ye (x s:Nat):x ||| (x / 2 ^ s * 2 ^ s) = x:=by
 apply Nat.eq_of_testBit_eq
 intro i
 rw [Nat.testBit_or,Nat.mul_comm,Nat.testBit_two_pow_mul,Nat.testBit_div_two_pow]
 by_cases h:s ≤ i
 ·simp [h,Nat.sub_add_cancel h]
 ·simp [h]
theorem wi (x s:Nat):x &&& (x / 2 ^ s * 2 ^ s) = x / 2 ^ s * 2 ^ s:=by
 apply Nat.eq_of_testBit_eq
 intro i
 rw [Nat.testBit_and,Nat.mul_comm,Nat.testBit_two_pow_mul,Nat.testBit_div_two_pow]
 by_cases h:s ≤ i
 ·simp [h,Nat.sub_add_cancel h]
 ·simp [h]
theorem i3 (a b:Nat):(a:Int).fdiv (b:Int) = ((a / b:Nat):Int):=by
 rw [Int.fdiv_eq_ediv_of_nonneg _ (Int.natCast_nonneg b)];rfl
theorem pK (s:Nat):((2:Int) ^ s) = ((2 ^ s:Nat):Int):=by rw [Int.natCast_pow];rfl
theorem fL (l r:Nat):((l:Int) + r).fdiv (2 ^ Int.toNat 1) = (((l + r) / 2:Nat):Int):=by
 rw [← Int.natCast_add];exact i3 _ 2
theorem ly (l r n:Nat) (h:l ≤ r):(((l:Int) + r).fdiv (2 ^ Int.toNat 1) - l) * n = ((((l + r) / 2 - l) * n:Nat):Int):=by
 rw [fL,Int.natCast_mul,Int.natCast_sub ((Nat.le_div_iff_mul_le Nat.two_pos).mpr (Nat.mul_two l ▸ Nat.add_le_add_left h l))]
theorem qT (x s:Nat):(x:Int).fdiv (2 ^ ((s:Nat):Int).toNat) = ((x / 2 ^ s:Nat):Int):=by
 rw [Int.toNat_natCast,pK,i3]
theorem p5 (a b:Nat):Builtin.bitAnd (a:Int) (b:Int) = ((a &&& b:Nat):Int):=by
 unfold Builtin.bitAnd
 rw [decide_eq_true (Int.natCast_nonneg a),decide_eq_true (Int.natCast_nonneg b)]
 rfl
theorem gr (a:Int):Builtin.bitNot (Builtin.bitNot a) = a:=by unfold Builtin.bitNot;lia
theorem jO (a:Nat):decide (0 ≤ Builtin.bitNot (a:Int)) = false:=decide_eq_false (by unfold Builtin.bitNot;omega)
theorem rH (a b:Nat):Builtin.bitOr (a:Int) (b:Int) = ((a ||| b:Nat):Int):=by
 unfold Builtin.bitOr Builtin.bitAnd
 rw [jO,jO]
 dsimp only
 rw [gr,gr,gr]
 rfl
theorem qV (x s:Nat):Builtin.bitXor (x:Int) (((x / 2 ^ s:Nat):Int) * 2 ^ ((s:Nat):Int).toNat) = ((x % 2 ^ s:Nat):Int):=by
 rw [Int.toNat_natCast,pK,← Int.natCast_mul]
 unfold Builtin.bitXor
 rw [rH,p5,ye,wi]
 rw [← Int.natCast_sub (Nat.div_mul_le_self x _)]
 exact congrArg Int.ofNat (Nat.sub_eq_of_eq_add (Nat.mod_add_div' x (2 ^ s)).symm)
end Mine
end
section
open PySem PySem.W PySem.Spec PySem.Calls PyProof.Rows
namespace Mine
noncomputable def kD:Arguments:=fA (bl (fBL (stm 4)) 1)
noncomputable def kE:List Stmt:=fBL (bl (fBL (stm 4)) 1)
noncomputable def j7:Scope:=fS (bl (fBL (stm 4)) 1)
noncomputable abbrev eA:Str:=(Str.ofString "_int2digits" ++ Str.ofString ".<locals>.") ++ Str.ofString "inner"
structure In where
 (f c' ca ci cn D:Addr)
 (oc oa oi on:Obj)
 (doc pm ctv:Value)
noncomputable abbrev In.N (a:In) (vs:List Value) (ep:Nat):List (Addr × Obj) :=
 [(a.f,fnMade "inner" eA kD kE j7 [("n",a.cn),("inner",a.ci),("a_digits",a.ca)] a.doc a.pm a.c' a.ctv),(a.c',a.oc),(a.ca,a.oa),(a.ci,a.oi),(a.cn,a.on),(a.D,listOf vs.toArray ep)]
structure In.Ok (a:In) (n:Nat):Prop where
 code:cT a.oc eA
 da:a.oa.data = .cell (some (.ref a.D))
 di:a.oi.data = .cell (some (.ref a.f))
 dn:∃ t,a.on.data = .cell (some (.int n t))
 nd:[a.f,a.c',a.ca,a.ci,a.cn,a.D].Nodup
theorem qg {l:Nat} {v:Value}:∀ {vs:List Value},((l:Nat):Int).toNat < vs.length→ki_setL vs ((l:Nat):Int).toNat v = some (vs.set ((l:Nat):Int).toNat v):=by
 rw [Int.toNat_natCast]
 induction l with
 | zero=>intro vs h;induction vs using List.casesOn with
  | nil=>cases h
  | cons a r=>rfl
 | succ k ih=>intro vs h;induction vs using List.casesOn with
  | nil=>cases h
  | cons a r =>
   show (match ki_setL r k v with | some q=>some (a :: q) | none=>none) = _
   rw [ih (Nat.lt_of_succ_lt_succ h)]
   rfl
theorem News.qE {g h:Heap} {L:Addr} {a:List (Addr × Obj)} (N:News g L h a):News g L h (a ++ []):=by rw [List.append_nil];exact N
theorem intBits_le {x k:Nat} (h:x < 2 ^ k):Builtin.Int.intBits ((x:Nat):Int) ≤ k:=by
 unfold Builtin.Int.intBits
 by_cases e:x = 0
 ·subst e;exact Nat.zero_le _
 ·rw [if_neg (by simpa using e)]
  have:=(Nat.log2_lt e).mpr h
  exact this
theorem jB {b:List (Addr × Obj)}:∀ q∈([]:List (Addr × Obj)),∀ p∈b,q.1 ≠ p.1:=fun _ h=>nomatch h
theorem iA {a b c:Nat} (h:a < b) (g:b ≤ c):a ≤ c:=Nat.le_trans (Nat.le_of_lt h) g
theorem xN (x l m n:Nat):x % 2 ^ ((m - l) * n) < 2 ^ (n * (m - l)):=by rw [Nat.mul_comm];exact Nat.mod_lt _ (Nat.two_pow_pos _)
theorem AK {x l m r n:Nat} (hx:x < 2 ^ (n * (r - l))) (h1:l ≤ m) (h2:m ≤ r):x / 2 ^ ((m - l) * n) < 2 ^ (n * (r - m)):=by
 rw [Nat.div_lt_iff_lt_mul (Nat.two_pow_pos _),← Nat.pow_add]
 have:n * (r - m) + (m - l) * n = n * (r - l):=by
  rw [Nat.mul_comm (m - l),← Nat.mul_add,Nat.sub_add_sub_cancel h2 h1]
 rw [this];exact hx
theorem jl {l r:Nat} (h:(l:Int) + 1 = r):r = l + 1:=(Int.ofNat.inj h).symm
theorem jF {l r:Nat} (h:(l:Int) + 1 ≠ r) (g:l < r):l + 1 < r:=Nat.lt_of_le_of_ne g fun e=>h (congrArg Int.ofNat e)
noncomputable def ue (a:In) (n:Nat) (vs:List Value) (l r x:Nat) (v:Value) (nw:List (Addr × Obj)):Prop:=v = .none∧∃ vs' ep',nw = a.N vs' ep'∧fq n vs vs' l r x
set_option maxHeartbeats 8000000 in
theorem g0 (w:World) (a:In) (n:Nat) (hn64:n ≤ 64) (ok:a.Ok n) (dd uu:Nat) (vs:List Value) (ep:Nat) (x l r:Nat) (tx tl tr:Tok) (hv:vs.length ≤ 400) (hlr:l < r) (hr:r ≤ vs.length) (hx:x < 2 ^ (n * (r - l)))
  (ih:l + 1 < r→∀ (vs:List Value) (ep:Nat) (x l' r':Nat) (tx tl tr:Tok),vs.length ≤ 400→l' < r'→r' ≤ vs.length→r' - l' ≤ (r - l + 1) / 2→x < 2 ^ (n * (r' - l'))→ba pw w (kf w.params) (.ref a.f) ⟨[.int x tx,.int l' tl,.int r' tr],[]⟩ (a.N vs ep) dd uu (ue a n vs l' r' x)) :
  ba pw w (kf w.params) (.ref a.f) ⟨[.int x tx,.int l tl,.int r tr],[]⟩ (a.N vs ep) (dd + 1) (uu + 3) (ue a n vs l r x):=by
 have:PySem.Challenge.rw_wc0018_02 = PySem.Challenge.rw_wc0018_02∧kf = kf:=by (k_fill;exact ⟨rfl,rfl⟩)
 clear this
 obtain ⟨f,c',ca,ci,cn,D,oc,oa,oi,on,doc,pm,ctv⟩:=a
 obtain ⟨⟨cvs,ct,e1,e2⟩,da,di,⟨tn,dn⟩,nd⟩:=ok
 dsimp only [In.N] at *
 refine lj (name:="inner") (qual:=eA) (params:=kD) (body:=kE) (scope:=j7) (cl:=[("n",cn),("inner",ci),("a_digits",ca)]) (doc:=doc) (pm:=pm) (ctv:=ctv) (binds:=[("x",.int x tx),("L",.int l tl),("R",.int r tr)]) (.head _) (.tail _ (.head _)) e1 e2 (fun s=>BindsTo.of_eq rfl) (locs rfl) rfl rfl rfl ?_ ?_
 ·decide
 intro p loose mean mg mb dp un gd fr gh L s F X N T hdp hun hL
 conv in (execs _ _)=>arg 1;whnf
 have hdp':dp + dd < recursionLimit:=hdp
 have hun':un + uu < cLine:=hun
 have m0:@Ne Nat f D:=aH nd 0 5 rfl rfl rfl
 have m1:@Ne Nat c' D:=aH nd 1 5 rfl rfl rfl
 have m2:@Ne Nat ca D:=aH nd 2 5 rfl rfl rfl
 have m3:@Ne Nat ci D:=aH nd 3 5 rfl rfl rfl
 have m4:@Ne Nat cn D:=aH nd 4 5 rfl rfl rfl
 have z1:0 ≤ ((l:Nat):Int):=Int.natCast_nonneg l
 have z2:((l:Nat):Int) < 2 ^ 63:=by omega
 have z3:((l:Nat):Int).toNat < vs.length:=by rw [Int.toNat_natCast];omega
 have rs:=ly l r n (Nat.le_of_lt hlr)
 have h0:0 ≤ (((l:Int) + r).fdiv (2 ^ Int.toNat 1) - l) * n:=by rw [rs];exact Int.natCast_nonneg _
 have ru:(x:Int).fdiv (2 ^ ((((l:Int) + r).fdiv (2 ^ Int.toNat 1) - l) * n).toNat) = ((x / 2 ^ (((l + r) / 2 - l) * n):Nat):Int):=by rw [rs,qT]
 have hb:(Builtin.Int.intBits ((x:Int).fdiv (2 ^ ((((l:Int) + r).fdiv (2 ^ Int.toNat 1) - l) * n).toNat)):Int) + (((l:Int) + r).fdiv (2 ^ Int.toNat 1) - l) * n ≤ 2 ^ 27:=by
  rw [ru,rs]
  have b1:=intBits_le (Nat.lt_of_le_of_lt (Nat.div_le_self x (2 ^ (((l + r) / 2 - l) * n))) hx)
  have b2:n * (r - l) ≤ 64 * 400:=Nat.mul_le_mul hn64 (by omega)
  have b3:((l + r) / 2 - l) * n ≤ 400 * 64:=Nat.mul_le_mul (by omega) hn64
  omega
 have rl:Builtin.bitXor (x:Int) ((x:Int).fdiv (2 ^ ((((l:Int) + r).fdiv (2 ^ Int.toNat 1) - l) * n).toNat) * 2 ^ ((((l:Int) + r).fdiv (2 ^ Int.toNat 1) - l) * n).toNat) = ((x % 2 ^ (((l + r) / 2 - l) * n):Nat):Int):=by
  rw [ru,rs,qV]
 (repeat' first | ((with_reducible show wpAny _ _ (eval (PySem.Expr.Name _ _) _) _ _ _);k_dflt (refine' nameX_F (by k_asm) rfl (by k_mem) (by with_reducible assumption) ?_ rfl rfl;k_whole)) | ((with_reducible show wpAny _ _ (callWith _ (Value.ref _) _ _ _) _ _ _);k_dflt (refine' callWith_F (by exact FnAt.of (by k_asm) (by k_mem)) ?_;k_whole)) | ((with_reducible show wpAny _ _ (binaryOp .LShift (.int _ _) (.int _ _)) _ _ _);refine' lshift_int (by with_reducible assumption) (by with_reducible assumption) ?_) | ((with_reducible show wpAny _ _ (binaryOp .RShift (.int _ _) (.int _ _)) _ _ _);refine' rshift_int (by first | decide | with_reducible assumption) ?_) | walk1)
 ·refine' ki_set (its:=vs.toArray) (q:=vs.set l (.int x tx)) ?F ?N ?a ?b ?e ?U ?_
  case F=>k_asm
  case N=>k_asm
  case a=>exact z1
  case b=>exact z2
  case e=>exact qg z3
  case U=>k_upd
  intro h' F' N'
  (repeat' first | ((with_reducible show wpAny _ _ (eval (PySem.Expr.Name _ _) _) _ _ _);k_dflt (refine' nameX_F (by k_asm) rfl (by k_mem) (by with_reducible assumption) ?_ rfl rfl;k_whole)) | ((with_reducible show wpAny _ _ (callWith _ (Value.ref _) _ _ _) _ _ _);k_dflt (refine' callWith_F (by exact FnAt.of (by k_asm) (by k_mem)) ?_;k_whole)) | ((with_reducible show wpAny _ _ (binaryOp .LShift (.int _ _) (.int _ _)) _ _ _);refine' lshift_int (by with_reducible assumption) (by with_reducible assumption) ?_) | ((with_reducible show wpAny _ _ (binaryOp .RShift (.int _ _) (.int _ _)) _ _ _);refine' rshift_int (by first | decide | with_reducible assumption) ?_) | walk1)
  rename (_ + 1 = _)=>hq
  have hq:=jl hq
  subst hq
  refine aW.intro (by assumption) (by assumption) ⟨rfl,_,_,rfl, ?_⟩
  rw [Nat.add_sub_cancel_left] at hx
  exact fq.one tx hr hx
 ·rename (_ + 1 ≠ _)=>hq
  have hq:=jF hq hlr
  have ih:=ih hq
  refine x04 (lr hq) fun g1 g2 g3 g4=>?_
  rw [rl,fL]
  have c1:=ih vs ep _ l _ (tk + 1 + 1 + 1 + 1 + 1 + 1 + 1 + 1 + 1 + 1) tl (tk + 1 + 1) hv g1 (iA g2 hr) g3 (xN x l _ n)
  refine wpAny_call (ba.use (others:=[]) c1 rfl (by assumption) X (News.qE (by assumption)) jB T (by exact hdp') (by exact hun') fun v nw h1 tk1 F1 N1 ho1 r1=>?_)
  obtain ⟨rfl,vs1,ep1,rfl,d1⟩:=r1
  rw [List.append_nil] at N1
  dsimp only [In.N] at N1
  clear ho1 c1
  (repeat' first | ((with_reducible show wpAny _ _ (eval (PySem.Expr.Name _ _) _) _ _ _);k_dflt (refine' nameX_F (by k_asm) rfl (by k_mem) (by with_reducible assumption) ?_ rfl rfl;k_whole)) | ((with_reducible show wpAny _ _ (callWith _ (Value.ref _) _ _ _) _ _ _);k_dflt (refine' callWith_F (by exact FnAt.of (by k_asm) (by k_mem)) ?_;k_whole)) | ((with_reducible show wpAny _ _ (binaryOp .LShift (.int _ _) (.int _ _)) _ _ _);refine' lshift_int (by with_reducible assumption) (by with_reducible assumption) ?_) | ((with_reducible show wpAny _ _ (binaryOp .RShift (.int _ _) (.int _ _)) _ _ _);refine' rshift_int (by first | decide | with_reducible assumption) ?_) | walk1)
  rw [ru,fL]
  have c2:=ih vs1 ep1 _ _ r (tk + 1 + 1 + 1 + 1 + 1 + 1 + 1) (tk + 1 + 1) tr (d1.1 ▸ hv) g2 (Nat.le_trans hr (Nat.le_of_eq d1.1.symm)) g4 (AK hx (Nat.le_of_lt g1) (Nat.le_of_lt g2))
  refine wpAny_call (ba.use (others:=[]) c2 rfl (by assumption) X (News.qE (by assumption)) jB T (by exact hdp') (by exact hun') fun v nw h2 tk2 F2 N2 ho2 r2=>?_)
  obtain ⟨rfl,vs2,ep2,rfl,d2⟩:=r2
  rw [List.append_nil] at N2
  dsimp only [In.N] at N2
  clear ho2 c2
  (repeat' first | ((with_reducible show wpAny _ _ (eval (PySem.Expr.Name _ _) _) _ _ _);k_dflt (refine' nameX_F (by k_asm) rfl (by k_mem) (by with_reducible assumption) ?_ rfl rfl;k_whole)) | ((with_reducible show wpAny _ _ (callWith _ (Value.ref _) _ _ _) _ _ _);k_dflt (refine' callWith_F (by exact FnAt.of (by k_asm) (by k_mem)) ?_;k_whole)) | ((with_reducible show wpAny _ _ (binaryOp .LShift (.int _ _) (.int _ _)) _ _ _);refine' lshift_int (by with_reducible assumption) (by with_reducible assumption) ?_) | ((with_reducible show wpAny _ _ (binaryOp .RShift (.int _ _) (.int _ _)) _ _ _);refine' rshift_int (by first | decide | with_reducible assumption) ?_) | walk1)
  exact aW.intro (by assumption) (by assumption) ⟨rfl,_,_,rfl,d1.join d2 (Nat.le_of_lt g1) (Nat.le_of_lt g2)⟩
theorem oZ (w:World) (a:In) (n:Nat) (hn64:n ≤ 64) (ok:a.Ok n) (k:Nat):∀ (vs:List Value) (ep:Nat) (x l r:Nat) (tx tl tr:Tok),vs.length ≤ 400→l < r→r ≤ vs.length→r - l ≤ 2 ^ k→x < 2 ^ (n * (r - l)) →
  ba pw w (kf w.params) (.ref a.f) ⟨[.int x tx,.int l tl,.int r tr],[]⟩ (a.N vs ep) (k + 1) (3 * k + 47 + 3) (ue a n vs l r x):=by
 induction k with
 | zero=>exact fun vs ep x l r tx tl tr hv hlr hr hk hx=>g0 w a n hn64 ok 0 47 vs ep x l r tx tl tr hv hlr hr hx fun h=>by omega
 | succ k ih=>exact fun vs ep x l r tx tl tr hv hlr hr hk hx=>g0 w a n hn64 ok (k + 1) (3 * k + 47 + 3) vs ep x l r tx tl tr hv hlr hr hx fun _ vs ep x l' r' tx tl tr h1 h2 h3 h4 h5=>ih vs ep x l' r' tx tl tr h1 h2 h3 (by rw [Nat.pow_succ] at hk;lia) h5
open PySem PySem.W PySem.Spec PySem.Calls PyProof.Rows
section
variable {prog:Program} {w:World} {A:Around} {E:Value→Shared→Prop} {s:Shared} {h₀:Heap} {L:Addr} {m:Str→Option Value} {news:List (Addr × Obj)}
theorem oS {l:Addr} {v:Int} {t u:Tok} {ep k:Nat} {raw:Int} {Q:Value→Shared→Prop} (F:Fr h₀ L s.heap m) (N:News h₀ L s.heap news) (hm:(l,listOf #[.int v t] ep)∈news) (e:raw = (k:Int)) (hk:k ≤ 1000)
  (h:∀ D h',Fr h₀ L h' m→News h₀ L h' ((D,listOf (List.replicate k (Value.int v t)).toArray 0) :: news)→(∀ p∈news,p.1 < D)→Q (.ref D) { s with heap:=h' }):wpAny (model prog w) A (binaryOp .Mult (.ref l) (.int raw u)) Q E s:=by
 subst e
 refine KM.mul (vs:=[.int v t]) (ns:=[v]) F N (News.isList N hm) (.cons _ _ .nil) (by lia) (by lia) (by (refine rwG (List.length_singleton ..) ?_;refine rwG (Int.toNat_natCast ..) ?_);lia) fun D h' F' N' l1 _ _ _ _ _ _=>h D h' F' ?_ l1
 rw [Int.toNat_natCast,List.flatten_replicate_singleton] at N'
 exact N'
theorem cH {D:Addr} {vs:List Value} {ep k:Nat} {Q:Value→Shared→Prop} (N:News h₀ L s.heap news) (hm:(D,listOf vs.toArray ep)∈news) (e:vs.length = k) (hk:k ≤ 1000)
  (h:Q (.int (k:Int) (s.toks + 1)) { s with toks:=s.toks + 1 + 1 }):wpAny (model prog w) A (call (.builtin "len") [.ref D]) Q E s:=by
 subst e
 refine call_len_list (News.isList N hm) (by refine rwG List.size_toArray ?_;omega) ?_
 skip;exact h
end
theorem uW (x n:Nat) (h:0 < n):((Builtin.Int.intBits (x:Int):Int) + n - 1).fdiv n = (((Builtin.Int.intBits (x:Int) + n - 1) / n:Nat):Int):=by
 refine rwG (show ((Builtin.Int.intBits (x:Int):Int) + n - 1) = ((Builtin.Int.intBits (x:Int) + n - 1:Nat):Int) from by omega) ?_
 exact i3 _ _
theorem yz (x n:Nat) (h:0 < n) (hx:x < 2 ^ 400):(Builtin.Int.intBits (x:Int) + n - 1) / n ≤ 400:=by
 have:=intBits_le hx
 rw [Nat.div_le_iff_le_mul_add_pred h]
 have:400 ≤ 400 * n:=Nat.le_mul_of_pos_right _ h
 skip
 omega
theorem hZ (L:Addr):qualnameIn (envOfC (Str.ofString "_int2digits") (fS (stm 4)) L 35 (Value.ref 34)) (Str.ofString "inner") (Str.ofString "inner") = eA:=by kernel_rfl
theorem zG {α:Type} (e0 e1 e2 e3 e4 e5 e6 e7:α):∀ p∈[e0,e1,e5,e4,e6,e2,e7],p∈[e0,e1,e2,e3,e4,e5,e6,e7] :=
 List.forall_mem_cons.mpr ⟨List.mem_of_getElem? (i:=0) rfl,List.forall_mem_cons.mpr ⟨List.mem_of_getElem? (i:=1) rfl,List.forall_mem_cons.mpr ⟨List.mem_of_getElem? (i:=5) rfl,List.forall_mem_cons.mpr ⟨List.mem_of_getElem? (i:=4) rfl,List.forall_mem_cons.mpr ⟨List.mem_of_getElem? (i:=6) rfl,List.forall_mem_cons.mpr ⟨List.mem_of_getElem? (i:=2) rfl,List.forall_mem_cons.mpr ⟨List.mem_of_getElem? (i:=7) rfl,nofun⟩⟩⟩⟩⟩⟩⟩
noncomputable abbrev bM (c:Addr):Obj:=tabObj #[rawInt 32,rawInt 4,.ref c]
noncomputable def ie (n k x:Nat) (vs:List Value):Prop:=vs.length = k∧∀ i,i < k→∃ t,vs[i]? = some (.int ((x / 2 ^ (n * i) % 2 ^ n:Nat):Int) t)
theorem fq.all {n k x:Nat} {v0 vs:List Value} (h:fq n v0 vs 0 k x) (e:v0.length = k):ie n k x vs:=⟨h.1.trans e,fun i hi=>by
 obtain ⟨t,e⟩:=h.2.2 i (Nat.zero_le _) hi
 exact ⟨t,by skip;exact e⟩⟩
noncomputable def zj (x n:Nat) (tab:Addr→Addr→Obj→Obj→Prop) (b:Addr) (v:Value) (nw:List (Addr × Obj)):Prop :=
 ∃ D vs m c oc t,v = .ref D∧nw = [(D,listOf vs.toArray m),(c,oc),(30,t)]∧b ≤ D∧c ≠ D∧ie n ((Builtin.Int.intBits (x:Int) + n - 1) / n) x vs∧tab b c oc t
theorem oU (x n:Nat) (h:0 < n):x < 2 ^ (n * ((Builtin.Int.intBits (x:Int) + n - 1) / n)):=by
 have h1:x < 2 ^ Builtin.Int.intBits (x:Int):=by
  unfold Builtin.Int.intBits
  by_cases e:x = 0
  ·subst e;decide
  ·refine rwG (if_neg (by simpa using e)) ?_
   exact Nat.lt_log2_self
 refine Nat.lt_of_lt_of_le h1 (Nat.pow_le_pow_right (by decide) ?_)
 have:=Nat.div_add_mod (Builtin.Int.intBits (x:Int) + n - 1) n
 have:=Nat.mod_lt (Builtin.Int.intBits (x:Int) + n - 1) h
 omega
theorem vm (x n:Nat) (h:0 < n) (hx:x ≠ 0):0 < (Builtin.Int.intBits (x:Int) + n - 1) / n:=by
 refine Nat.div_pos ?_ h
 have:0 < Builtin.Int.intBits (x:Int):=by
  unfold Builtin.Int.intBits
  refine rwG (if_neg (by simpa using hx)) ?_;exact Nat.succ_pos _
 omega
theorem zQ {L D c f:Nat} (h1:L + 1 + 1 + 1 < D) (h2:D < c) (h3:c < f):[f,c,L + 1 + 1,L + 1 + 1 + 1,L + 1,D].Nodup :=
 mj (l:=[5,4,1,2,0,3]) 6 rfl (((((jd.cons h3).cons h2).cons h1).cons (Nat.lt_succ_self _)).cons (Nat.lt_succ_self _)) (by decide)
theorem rO {α:Type} (e0 e1 e2 e3 e4 e5 e6:α):∀ p∈[e5,e1,e6],p∈[e0,e1,e2,e3,e4,e5,e6] :=
 List.forall_mem_cons.mpr ⟨List.mem_of_getElem? (i:=5) rfl,List.forall_mem_cons.mpr ⟨List.mem_of_getElem? (i:=1) rfl,List.forall_mem_cons.mpr ⟨List.mem_of_getElem? (i:=6) rfl,nofun⟩⟩⟩
theorem xG {α:Type} (e0 e1 e2 e3 e4 e5 e6 e7:α):∀ p∈[e2,e1,e7],p∈[e0,e1,e2,e3,e4,e5,e6,e7] :=
 List.forall_mem_cons.mpr ⟨List.mem_of_getElem? (i:=2) rfl,List.forall_mem_cons.mpr ⟨List.mem_of_getElem? (i:=1) rfl,List.forall_mem_cons.mpr ⟨List.mem_of_getElem? (i:=7) rfl,nofun⟩⟩⟩
theorem z0 {L D c f:Nat} (h0:30 < L) (h1:L + 1 + 1 + 1 < D) (h2:D < c) (h3:c < f):∀ y∈[f,c,L + 1 + 1,L + 1 + 1 + 1,L + 1,D],30 < y:=by
 have a1:=Nat.lt_succ_of_lt h0;have a2:=Nat.lt_succ_of_lt a1;have a3:=Nat.lt_succ_of_lt a2;have a4:=Nat.lt_trans a3 h1;have a5:=Nat.lt_trans a4 h2
 simp only [List.forall_mem_cons]
 exact ⟨Nat.lt_trans a5 h3,a5,a2,a3,a1,a4,nofun⟩
theorem apart1 {t:Addr} {o:Obj} {b:List (Addr × Obj)} (h:∀ y∈b.map (·.1),t < y):∀ q∈[(t,o)],∀ p∈b,q.1 ≠ p.1:=fun q hq p hp=>by
 rcases List.mem_cons.mp hq with rfl | hq
 ·exact Nat.ne_of_lt (h _ (List.mem_map_of_mem hp))
 ·cases hq
theorem u6 (n:Nat) (h:0 < n) (v:Value):ie n ((Builtin.Int.intBits ((0:Nat):Int) + n - 1) / n) 0 (List.replicate ((Builtin.Int.intBits ((0:Nat):Int) + n - 1) / n) v):=by
 have e:(Builtin.Int.intBits ((0:Nat):Int) + n - 1) / n = 0:=Nat.div_eq_of_lt (by show 0 + n - 1 < n;omega)
 refine rwG e ?_
 exact ⟨rfl,fun i hi=>absurd hi (Nat.not_lt_zero i)⟩
theorem dr {L D:Nat} (h:L + 1 + 1 + 1 < D):L ≤ D:=Nat.le_of_lt (Nat.lt_of_succ_lt (Nat.lt_of_succ_lt (Nat.lt_of_succ_lt h)))
theorem fi {L D c:Nat} (h:L + 1 + 1 + 1 < D) (g:D < c):L ≤ c∧c ≠ D:=⟨Nat.le_trans (dr h) (Nat.le_of_lt g),Nat.ne_of_gt g⟩
set_option tactic.hygienic true in
set_option maxHeartbeats 8000000 in
theorem xI (w:World) (x n:Nat) (ta tn:Tok) (h1:0 < n) (h2:n ≤ 64) (hx:x < 2 ^ 400) (C0:∀ g,(kf w.params).In g→CodeHd g 34 30):gF pw w (kf w.params) (.ref 35) ⟨[.int x ta,.int n tn],[]⟩ [(30,tabObj #[])] 30 300 (zj x n fun b c oc t=>b ≤ c∧cT oc eA∧t = bM c):=by
 have:PySem.Challenge.rw_wc0018_02 = PySem.Challenge.rw_wc0018_02∧kf = kf:=by (k_fill;exact ⟨rfl,rfl⟩)
 clear this
 k_dflt (refine' dA (binds:=[("a",.int x ta),("n",.int n tn)]) ?k6 ?k7 ?k9 ?kB ?kn ?c2 ?c3 ?c4 ?_;(case k6=>k_is);(case k7=>k_is);(case k9=>exact fun s=>BindsTo.of_eq rfl);(case kB=>exact rfl);(case kn=>decide);(case c2=>exact rfl);(case c3=>exact rfl);(case c4=>exact rfl))
 intro p loose mean mg mb dp un gd fr gh L s cells F X N Y T hdp hun hL
 (try k_lt hL);k_cells Y;(try simp only [List.cons_append,List.nil_append] at N);(try dsimp only)
 have C:=C0 _ X
 conv in (execs _ _)=>arg 1;whnf
 have rk:=uW x n h1
 have kl:=yz x n h1 hx
 have kl2:=Nat.le_trans kl (by decide:400 ≤ 1000)
 (repeat' first | ((with_reducible show wpAny _ _ (binaryOp Operator.Mult (Value.ref _) (Value.int _ _)) _ _ _);k_dflt (refine' oS (by k_asm) (by k_asm) (by k_mem) (by with_reducible assumption) (by with_reducible assumption) ?_);intro D h3 F' N' l1b;try k_lt l1b) | ((with_reducible show wpAny _ _ (call (.builtin _) [_]) _ _ _);k_dflt (refine' cH (by k_asm) (by k_mem) (by first | with_reducible assumption | exact List.length_replicate ..) (by with_reducible assumption) ?_;k_whole)) | walk1)
 ·
  rename_i o0 o02 on d01 d02 dn l0 h4 l1c h2' oa da f c oc cvs ct ctv doc h1' tk1 e1 e2 l1a l2a h0 oi F0 N0 di ha
  rw [hZ] at N0 e2
  obtain ⟨tb,N6,htb⟩:∃ tb:Obj,News gh L h0 [(f,fnMade "inner" eA kD kE j7 [("n",L + 1),("inner",L + 1 + 1 + 1),("a_digits",L + 1 + 1)] doc ((mg "__name__").getD .none) c ctv),(c,oc),(D,listOf (List.replicate ((Builtin.Int.intBits (x:Int) + n - 1) / n) (Value.int 0 s.toks)).toArray 0),(l0,listOf #[.int 0 s.toks] 0),(L + 1 + 1 + 1,oi),(L + 1 + 1,oa),(L + 1,on),(30,tb)]∧tb = bM c:=⟨_,N0,by kernel_rfl⟩
  subst htb
  clear N0
  have ok:In.Ok (⟨f,c,L + 1 + 1,L + 1 + 1 + 1,L + 1,D,oc,oa,oi,on,doc,(mg "__name__").getD .none,ctv⟩:In) n:=⟨⟨_,_,e1,e2⟩,da,di,⟨tn,dn⟩,zQ l1b.2.1 l1a.1 l2a⟩
  have N7:News gh L h0 (In.N (⟨f,c,L + 1 + 1,L + 1 + 1 + 1,L + 1,D,oc,oa,oi,on,doc,(mg "__name__").getD .none,ctv⟩:In) (List.replicate ((Builtin.Int.intBits (x:Int) + n - 1) / n) (Value.int 0 s.toks)) 0 ++ [(30,bM c)]):=fun p hp=>N6 p (zG _ _ _ _ _ _ _ _ p hp)
  clear N6
  have c1:=oZ w (⟨f,c,L + 1 + 1,L + 1 + 1 + 1,L + 1,D,oc,oa,oi,on,doc,(mg "__name__").getD .none,ctv⟩:In) n h2 ok 9 (List.replicate ((Builtin.Int.intBits (x:Int) + n - 1) / n) (Value.int 0 s.toks)) 0 x 0 ((Builtin.Int.intBits (x:Int) + n - 1) / n) ta tk1 (tk1 + 1 + 1) (by refine rwG List.length_replicate ?_;exact kl) (vm x n h1 fun e=>ha (by refine rwG e ?_;rfl)) (Nat.le_of_eq List.length_replicate.symm) (Nat.le_trans (Nat.sub_le _ _) (Nat.le_trans kl (by decide))) (oU x n h1)
  refine wpAny_call (ba.use (others:=[(30,bM c)]) c1 rfl (by assumption) X N7 (apart1 (z0 hL l1b.2.1 l1a.1 l2a)) T (cQ (a:=dp) hdp rfl) (cQ (a:=un) hun rfl) fun v nw h5 tk5 F5 N5 ho5 r5=>?_)
  obtain ⟨rfl,vs1,ep1,rfl,d1⟩:=r5
  dsimp only [In.N,List.cons_append,List.nil_append] at N5
  clear ho5 c1 N7
  k_steps
  exact aW.intro F5 (fun p hp=>N5 p (rO _ _ _ _ _ _ _ p hp)) ⟨D,vs1,ep1,c,oc,_,rfl,rfl,dr l1b.2.1,(fi l1b.2.1 l1a.1).2,d1.all List.length_replicate,(fi l1b.2.1 l1a.1).1,⟨_,_,e1,e2⟩,rfl⟩
 ·
  rename_i o0 o02 on d01 d02 dn l0 h4 l1c h2' oa da f c oc cvs ct ctv doc h1' tk1 e1 e2 l1a l2a h0 oi F0 N0 di ha
  rw [hZ] at N0 e2
  obtain ⟨tb,N6,htb⟩:∃ tb:Obj,News gh L h0 [(f,fnMade "inner" eA kD kE j7 [("n",L + 1),("inner",L + 1 + 1 + 1),("a_digits",L + 1 + 1)] doc ((mg "__name__").getD .none) c ctv),(c,oc),(D,listOf (List.replicate ((Builtin.Int.intBits (x:Int) + n - 1) / n) (Value.int 0 s.toks)).toArray 0),(l0,listOf #[.int 0 s.toks] 0),(L + 1 + 1 + 1,oi),(L + 1 + 1,oa),(L + 1,on),(30,tb)]∧tb = bM c:=⟨_,N0,by kernel_rfl⟩
  subst htb
  clear N0
  have ha:x = 0:=Int.natCast_eq_zero.mp ha
  subst ha
  exact aW.intro F0 (fun p hp=>N6 p (xG _ _ _ _ _ _ _ _ p hp)) ⟨D,_,_,c,oc,_,rfl,rfl,dr l1b.2.1,(fi l1b.2.1 l1a.1).2,u6 n h1 _,(fi l1b.2.1 l1a.1).1,⟨_,_,e1,e2⟩,rfl⟩
open PySem PySem.W PySem.Spec PySem.Calls PyProof.Rows
theorem yr {α:Type} (e0 e1 e2 e3 e4 e5 e6 e7:α):∀ p∈[e0,e7,e4,e3,e5,e1,e6],p∈[e0,e1,e2,e3,e4,e5,e6,e7] :=
 List.forall_mem_cons.mpr ⟨List.mem_of_getElem? (i:=0) rfl,List.forall_mem_cons.mpr ⟨List.mem_of_getElem? (i:=7) rfl,List.forall_mem_cons.mpr ⟨List.mem_of_getElem? (i:=4) rfl,List.forall_mem_cons.mpr ⟨List.mem_of_getElem? (i:=3) rfl,List.forall_mem_cons.mpr ⟨List.mem_of_getElem? (i:=5) rfl,List.forall_mem_cons.mpr ⟨List.mem_of_getElem? (i:=1) rfl,List.forall_mem_cons.mpr ⟨List.mem_of_getElem? (i:=6) rfl,nofun⟩⟩⟩⟩⟩⟩⟩
theorem wc {α:Type} (e0 e1 e2 e3 e4 e5 e6 e7:α):∀ p∈[e1,e7,e6],p∈[e0,e1,e2,e3,e4,e5,e6,e7] :=
 List.forall_mem_cons.mpr ⟨List.mem_of_getElem? (i:=1) rfl,List.forall_mem_cons.mpr ⟨List.mem_of_getElem? (i:=7) rfl,List.forall_mem_cons.mpr ⟨List.mem_of_getElem? (i:=6) rfl,nofun⟩⟩⟩
theorem xj {L D c f:Nat} (h0:c < L) (h1:L + 1 + 1 + 1 < D) (h2:D < f):[f,c,L + 1 + 1,L + 1 + 1 + 1,L + 1,D].Nodup :=
 mj (l:=[5,0,2,3,1,4]) 6 rfl (((((jd.cons h2).cons h1).cons (Nat.lt_succ_self _)).cons (Nat.lt_succ_self _)).cons (Nat.lt_succ_of_lt h0)) (by decide)
theorem zY {L D c f t:Nat} (h0:t < L) (h1:L + 1 + 1 + 1 < D) (h2:D < f) (h3:c ≠ t):∀ y∈[f,c,L + 1 + 1,L + 1 + 1 + 1,L + 1,D],t ≠ y:=by
 have a1:=Nat.lt_succ_of_lt h0;have a2:=Nat.lt_succ_of_lt a1;have a3:=Nat.lt_succ_of_lt a2;have a4:=Nat.lt_trans a3 h1
 simp only [List.forall_mem_cons]
 exact ⟨Nat.ne_of_lt (Nat.lt_trans a4 h2),h3.symm,Nat.ne_of_lt a2,Nat.ne_of_lt a3,Nat.ne_of_lt a1,Nat.ne_of_lt a4,nofun⟩
theorem wD {t:Addr} {o:Obj} {b:List (Addr × Obj)} (h:∀ y∈b.map (·.1),t ≠ y):∀ q∈[(t,o)],∀ p∈b,q.1 ≠ p.1:=fun q hq p hp=>by
 rcases List.mem_cons.mp hq with rfl | hq
 ·exact h _ (List.mem_map_of_mem hp)
 ·cases hq
theorem mG {L D c:Nat} (h:c < L) (g:L + 1 + 1 + 1 < D):c ≠ D:=Nat.ne_of_lt (Nat.lt_of_lt_of_le h (dr g))
set_option tactic.hygienic true in
set_option maxHeartbeats 8000000 in
theorem ze (w:World) (x n:Nat) (ta tn:Tok) (h1:0 < n) (h2:n ≤ 64) (hx:x < 2 ^ 400) {c:Addr} {oc:Obj} (hc:cT oc eA) (hct:c ≠ 30) (C0:∀ g,(kf w.params).In g→CodeHd g 34 30):gF pw w (kf w.params) (.ref 35) ⟨[.int x ta,.int n tn],[]⟩ [(30,bM c),(c,oc)] 30 300 (zj x n fun _ c' o t=>c' = c∧o = oc∧t = bM c):=by
 have:PySem.Challenge.rw_wc0018_02 = PySem.Challenge.rw_wc0018_02∧kf = kf:=by (k_fill;exact ⟨rfl,rfl⟩)
 clear this
 k_dflt (refine' dA (binds:=[("a",.int x ta),("n",.int n tn)]) ?k6 ?k7 ?k9 ?kB ?kn ?c2 ?c3 ?c4 ?_;(case k6=>k_is);(case k7=>k_is);(case k9=>exact fun s=>BindsTo.of_eq rfl);(case kB=>exact rfl);(case kn=>decide);(case c2=>exact rfl);(case c3=>exact rfl);(case c4=>exact rfl))
 intro p loose mean mg mb dp un gd fr gh L s cells F X N Y T hdp hun hL
 (try k_lt hL);k_cells Y;(try simp only [List.cons_append,List.nil_append] at N);(try dsimp only)
 have C:=C0 _ X
 conv in (execs _ _)=>arg 1;whnf
 have rk:=uW x n h1
 have kl:=yz x n h1 hx
 have kl2:=Nat.le_trans kl (by decide:400 ≤ 1000)
 (repeat' first | ((with_reducible show wpAny _ _ (binaryOp Operator.Mult (Value.ref _) (Value.int _ _)) _ _ _);k_dflt (refine' oS (by k_asm) (by k_asm) (by k_mem) (by with_reducible assumption) (by with_reducible assumption) ?_);intro D h3 F' N' l1b;try k_lt l1b) | ((with_reducible show wpAny _ _ (call (.builtin _) [_]) _ _ _);k_dflt (refine' cH (by k_asm) (by k_mem) (by first | with_reducible assumption | exact List.length_replicate ..) (by with_reducible assumption) ?_;k_whole)) | walk1)
 ·
  rename_i o0 o02 on d01 d02 dn l0 h4 l1c h2' oa da f ctv doc h1' tk1 l1a h0 oi F0 N0 di ha
  rw [hZ] at N0
  have N6:News gh L h0 [(f,fnMade "inner" eA kD kE j7 [("n",L + 1),("inner",L + 1 + 1 + 1),("a_digits",L + 1 + 1)] doc ((mg "__name__").getD .none) c ctv),(D,listOf (List.replicate ((Builtin.Int.intBits (x:Int) + n - 1) / n) (Value.int 0 s.toks)).toArray 0),(l0,listOf #[.int 0 s.toks] 0),(L + 1 + 1 + 1,oi),(L + 1 + 1,oa),(L + 1,on),(30,bM c),(c,oc)]:=N0
  clear N0
  have ok:In.Ok (⟨f,c,L + 1 + 1,L + 1 + 1 + 1,L + 1,D,oc,oa,oi,on,doc,(mg "__name__").getD .none,ctv⟩:In) n:=⟨hc,da,di,⟨tn,dn⟩,xj hL.2 l1b.2.1 l1a.1⟩
  have N7:News gh L h0 (In.N (⟨f,c,L + 1 + 1,L + 1 + 1 + 1,L + 1,D,oc,oa,oi,on,doc,(mg "__name__").getD .none,ctv⟩:In) (List.replicate ((Builtin.Int.intBits (x:Int) + n - 1) / n) (Value.int 0 s.toks)) 0 ++ [(30,bM c)]):=fun p hp=>N6 p (yr _ _ _ _ _ _ _ _ p hp)
  clear N6
  have c1:=oZ w (⟨f,c,L + 1 + 1,L + 1 + 1 + 1,L + 1,D,oc,oa,oi,on,doc,(mg "__name__").getD .none,ctv⟩:In) n h2 ok 9 (List.replicate ((Builtin.Int.intBits (x:Int) + n - 1) / n) (Value.int 0 s.toks)) 0 x 0 ((Builtin.Int.intBits (x:Int) + n - 1) / n) ta tk1 (tk1 + 1 + 1) (by rw [List.length_replicate];exact kl) (vm x n h1 fun e=>ha (by rw [e];rfl)) (Nat.le_of_eq List.length_replicate.symm) (Nat.le_trans (Nat.sub_le _ _) (Nat.le_trans kl (by decide))) (oU x n h1)
  refine wpAny_call (ba.use (others:=[(30,bM c)]) c1 rfl (by assumption) X N7 (wD (zY hL.1 l1b.2.1 l1a.1 hct)) T (cQ (a:=dp) hdp rfl) (cQ (a:=un) hun rfl) fun v nw h5 tk5 F5 N5 ho5 r5=>?_)
  obtain ⟨rfl,vs1,ep1,rfl,d1⟩:=r5
  dsimp only [In.N,List.cons_append,List.nil_append] at N5
  clear ho5 c1 N7
  k_steps
  exact aW.intro F5 (fun p hp=>N5 p (rO _ _ _ _ _ _ _ p hp)) ⟨D,vs1,ep1,c,oc,_,rfl,rfl,dr l1b.2.1,mG hL.2 l1b.2.1,d1.all List.length_replicate,rfl,rfl,rfl⟩
 ·
  rename_i o0 o02 on d01 d02 dn l0 h4 l1c h2' oa da f ctv doc h1' tk1 l1a h0 oi F0 N0 di ha
  rw [hZ] at N0
  have N6:News gh L h0 [(f,fnMade "inner" eA kD kE j7 [("n",L + 1),("inner",L + 1 + 1 + 1),("a_digits",L + 1 + 1)] doc ((mg "__name__").getD .none) c ctv),(D,listOf (List.replicate ((Builtin.Int.intBits (x:Int) + n - 1) / n) (Value.int 0 s.toks)).toArray 0),(l0,listOf #[.int 0 s.toks] 0),(L + 1 + 1 + 1,oi),(L + 1 + 1,oa),(L + 1,on),(30,bM c),(c,oc)]:=N0
  clear N0
  have ha:x = 0:=Int.natCast_eq_zero.mp ha
  subst ha
  exact aW.intro F0 (fun p hp=>N6 p (wc _ _ _ _ _ _ _ _ p hp)) ⟨D,_,_,c,oc,_,rfl,rfl,dr l1b.2.1,mG hL.2 l1b.2.1,u6 n h1 _,rfl,rfl,rfl⟩
open PySem PySem.W PySem.Spec PySem.Calls PyProof.Rows
noncomputable def dnP:Arguments:=fA (bl (fBL (stm 5)) 0)
noncomputable def dnB:List Stmt:=fBL (bl (fBL (stm 5)) 0)
noncomputable def dnS:Scope:=fS (bl (fBL (stm 5)) 0)
noncomputable abbrev dnQ:Str:=(Str.ofString "_digits2int" ++ Str.ofString ".<locals>.") ++ Str.ofString "inner"
noncomputable abbrev In.M (a:In) (vs:List Value) (ep:Nat):List (Addr × Obj) :=
 [(a.f,fnMade "inner" dnQ dnP dnB dnS [("n",a.cn),("inner",a.ci),("digits",a.ca)] a.doc a.pm a.c' a.ctv),(a.c',a.oc),(a.ca,a.oa),(a.ci,a.oi),(a.cn,a.on),(a.D,listOf vs.toArray ep)]
structure In.OkM (a:In) (n:Nat):Prop where
 code:cT a.oc dnQ
 da:a.oa.data = .cell (some (.ref a.D))
 di:a.oi.data = .cell (some (.ref a.f))
 dn:∃ t,a.on.data = .cell (some (.int n t))
noncomputable def dv (n:Nat) (ds:Nat→Int):Nat→Nat→Int
 | _,0=>0
 | l,k + 1=>ds l + dv n ds (l + 1) k * 2 ^ n
theorem rj (n:Nat) (ds:Nat→Int):∀ (a b l:Nat),dv n ds l (a + b) = dv n ds l a + dv n ds (l + a) b * 2 ^ (a * n)
 | 0,b,l=>by rw [Nat.zero_add,Nat.zero_mul,Int.pow_zero,Int.mul_one];exact (Int.zero_add _).symm
 | a + 1,b,l=>by
  rw [show a + 1 + b = (a + b) + 1 from by lia]
  show ds l + dv n ds (l + 1) (a + b) * 2 ^ n = ds l + dv n ds (l + 1) a * 2 ^ n + _
  rw [rj n ds a b (l + 1),Int.add_mul,Int.mul_assoc,← Int.pow_add,Nat.succ_mul,show l + 1 + a = l + (a + 1) from by lia,Int.add_assoc]
theorem u3 {n:Nat} (hn:n ≤ 64) {ds:Nat→Int} (hd:∀ i,(ds i).natAbs < 2 ^ 64):∀ k l,(dv n ds l k).natAbs < 2 ^ (65 * k + 65)
 | 0,l=>by show 0 < _;exact Nat.two_pow_pos _
 | k + 1,l=>by
  have ih:=u3 hn hd k (l + 1)
  show (ds l + dv n ds (l + 1) k * 2 ^ n).natAbs < _
  have h1:(dv n ds (l + 1) k * 2 ^ n).natAbs ≤ 2 ^ (65 * k + 65) * 2 ^ 64:=by
   rw [Int.natAbs_mul,Int.natAbs_pow]
   exact Nat.mul_le_mul (Nat.le_of_lt ih) (Nat.pow_le_pow_right (by decide) hn)
  rw [← Nat.pow_add] at h1
  have h2:2 ^ 64 ≤ 2 ^ (65 * k + 65 + 64):=Nat.pow_le_pow_right (by decide) (by lia)
  have h3:=Int.natAbs_add_le (ds l) (dv n ds (l + 1) k * 2 ^ n)
  have h4:=hd l
  have h5:2 ^ (65 * (k + 1) + 65) = 2 * 2 ^ (65 * k + 65 + 64):=by
   rw [show 65 * (k + 1) + 65 = (65 * k + 65 + 64) + 1 from by lia,Nat.pow_succ,Nat.mul_comm]
  omega
theorem yp (n:Nat) (ds:Nat→Int) (l:Nat) (t:Tok):Value.int (ds l) t = Value.int (dv n ds l (l + 1 - l)) t:=by
 rw [Nat.add_sub_cancel_left]
 show _ = Value.int (ds l + 0 * 2 ^ n) t
 rw [Int.zero_mul,Int.add_zero]
theorem vV (n:Nat) (ds:Nat→Int) {l m r:Nat} (h1:l ≤ m) (h2:m ≤ r) (t:Tok):Value.int (dv n ds m (r - m) * 2 ^ (((m:Int) - l) * n).toNat + dv n ds l (m - l)) t = Value.int (dv n ds l (r - l)) t:=by
 have e:((m:Int) - l) * n = (((m - l) * n:Nat):Int):=by rw [Int.natCast_mul,Int.natCast_sub h1]
 have:=rj n ds (m - l) (r - m) l
 rw [show l + (m - l) = m from by lia,show m - l + (r - m) = r - l from by lia] at this
 rw [e,Int.toNat_natCast,this,Int.add_comm]
theorem oA {z:Int} {k:Nat} (h:z.natAbs < 2 ^ k):Builtin.Int.intBits z ≤ k:=by
 unfold Builtin.Int.intBits
 by_cases e:z = 0
 ·subst e;exact Nat.zero_le _
 ·rw [if_neg (by simpa using e)]
  exact (Nat.log2_lt (by omega)).mpr h
noncomputable def DnR (a:In) (vs:List Value) (ep:Nat) (z:Int) (v:Value) (nw:List (Addr × Obj)):Prop:=∃ t,v = .int z t∧nw = a.M vs ep
set_option maxHeartbeats 8000000 in
theorem lE (w:World) (a:In) (n:Nat) (hn64:n ≤ 64) (ok:a.OkM n) (dd uu:Nat) (ds:Nat→Int) (hds:∀ i,(ds i).natAbs < 2 ^ 64) (vs:List Value) (hv:vs.length ≤ 400) (hvs:∀ i,i < vs.length→∃ t,vs[i]? = some (.int (ds i) t)) (ep:Nat) (l r:Nat) (tl tr:Tok) (hlr:l < r) (hr:r ≤ vs.length)
  (ih:l + 1 < r→∀ (l' r':Nat) (tl tr:Tok),l' < r'→r' ≤ vs.length→r' - l' ≤ (r - l + 1) / 2→ba pw w (kf w.params) (.ref a.f) ⟨[.int l' tl,.int r' tr],[]⟩ (a.M vs ep) dd uu (DnR a vs ep (dv n ds l' (r' - l')))) :
  ba pw w (kf w.params) (.ref a.f) ⟨[.int l tl,.int r tr],[]⟩ (a.M vs ep) (dd + 1) (uu + 3) (DnR a vs ep (dv n ds l (r - l))):=by
 have:PySem.Challenge.rw_wc0018_02 = PySem.Challenge.rw_wc0018_02∧kf = kf:=by (k_fill;exact ⟨rfl,rfl⟩)
 clear this
 obtain ⟨f,c',ca,ci,cn,D,oc,oa,oi,on,doc,pm,ctv⟩:=a
 obtain ⟨⟨cvs,ct,e1,e2⟩,da,di,⟨tn,dn⟩⟩:=ok
 dsimp only [In.M] at *
 refine lj (name:="inner") (qual:=dnQ) (params:=dnP) (body:=dnB) (scope:=dnS) (cl:=[("n",cn),("inner",ci),("digits",ca)]) (doc:=doc) (pm:=pm) (ctv:=ctv) (binds:=[("L",.int l tl),("R",.int r tr)]) (.head _) (.tail _ (.head _)) e1 e2 (fun s=>BindsTo.of_eq rfl) (locs rfl) rfl rfl rfl ?_ ?_
 ·decide
 intro p loose mean mg mb dp un gd fr gh L s F X N T hdp hun hL
 conv in (execs _ _)=>arg 1;whnf
 have hdp':dp + dd < recursionLimit:=hdp
 have hun':un + uu < cLine:=hun
 have rs:=ly l r n (Nat.le_of_lt hlr)
 have h0:0 ≤ (((l:Int) + r).fdiv (2 ^ Int.toNat 1) - l) * n:=by rw [rs];exact Int.natCast_nonneg _
 (repeat' first | ((with_reducible show wpAny _ _ (eval (PySem.Expr.Name _ _) _) _ _ _);k_dflt (refine' nameX_F (by k_asm) rfl (by k_mem) (by with_reducible assumption) ?_ rfl rfl;k_whole)) | ((with_reducible show wpAny _ _ (callWith _ (Value.ref _) _ _ _) _ _ _);k_dflt (refine' callWith_F (by exact FnAt.of (by k_asm) (by k_mem)) ?_;k_whole)) | ((with_reducible show wpAny _ _ (binaryOp .LShift (.int _ _) (.int _ _)) _ _ _);refine' lshift_int (by with_reducible assumption) (by with_reducible assumption) ?_) | ((with_reducible show wpAny _ _ (binaryOp .RShift (.int _ _) (.int _ _)) _ _ _);refine' rshift_int (by first | decide | with_reducible assumption) ?_) | walk1)
 ·rename (_ + 1 = _)=>hq
  have hq:=jl hq
  subst hq
  obtain ⟨t,e⟩:=hvs l hr
  refine item_list (items:=vs.toArray) (x:=.int (ds l) t) (News.isList (by assumption) (by k_mem)) (Int.natCast_nonneg l) (by omega) (by rw [Int.toNat_natCast,List.getElem?_toArray];exact e) ?_
  exact aW.intro (by assumption) (by assumption) ⟨_,yp n ds l _,rfl⟩
 ·rename (_ + 1 ≠ _)=>hq
  have hq:=jF hq hlr
  have ih:=ih hq
  refine x04 (lr hq) fun g1 g2 g3 g4=>?_
  have c1:=ih ((l + r) / 2) r (tk + 1 + 1) tr g2 hr g4
  rw [fL]
  refine wpAny_call (ba.use (others:=[]) c1 rfl (by assumption) X (News.qE (by assumption)) jB T (by exact hdp') (by exact hun') fun v nw h1 tk1 F1 N1 ho1 r1=>?_)
  obtain ⟨t1,rfl,rfl⟩:=r1
  rw [List.append_nil] at N1
  dsimp only [In.M] at N1
  clear ho1 c1
  have hb:(Builtin.Int.intBits (dv n ds ((l + r) / 2) (r - (l + r) / 2)):Int) + (((l:Int) + r).fdiv (2 ^ Int.toNat 1) - l) * n ≤ 2 ^ 27:=by
   rw [rs]
   have b1:=oA (u3 hn64 hds (r - (l + r) / 2) ((l + r) / 2))
   have b3:((l + r) / 2 - l) * n ≤ 400 * 64:=Nat.mul_le_mul (by lia) hn64
   omega
  (repeat' first | ((with_reducible show wpAny _ _ (eval (PySem.Expr.Name _ _) _) _ _ _);k_dflt (refine' nameX_F (by k_asm) rfl (by k_mem) (by with_reducible assumption) ?_ rfl rfl;k_whole)) | ((with_reducible show wpAny _ _ (callWith _ (Value.ref _) _ _ _) _ _ _);k_dflt (refine' callWith_F (by exact FnAt.of (by k_asm) (by k_mem)) ?_;k_whole)) | ((with_reducible show wpAny _ _ (binaryOp .LShift (.int _ _) (.int _ _)) _ _ _);refine' lshift_int (by with_reducible assumption) (by with_reducible assumption) ?_) | ((with_reducible show wpAny _ _ (binaryOp .RShift (.int _ _) (.int _ _)) _ _ _);refine' rshift_int (by first | decide | with_reducible assumption) ?_) | walk1)
  have c2:=ih l ((l + r) / 2) tl (tk + 1 + 1) g1 (iA g2 hr) g3
  rw [fL]
  refine wpAny_call (ba.use (others:=[]) c2 rfl (by assumption) X (News.qE (by assumption)) jB T (by exact hdp') (by exact hun') fun v nw h2 tk2 F2 N2 ho2 r2=>?_)
  obtain ⟨t2,rfl,rfl⟩:=r2
  rw [List.append_nil] at N2
  dsimp only [In.M] at N2
  clear ho2 c2
  (repeat' first | ((with_reducible show wpAny _ _ (eval (PySem.Expr.Name _ _) _) _ _ _);k_dflt (refine' nameX_F (by k_asm) rfl (by k_mem) (by with_reducible assumption) ?_ rfl rfl;k_whole)) | ((with_reducible show wpAny _ _ (callWith _ (Value.ref _) _ _ _) _ _ _);k_dflt (refine' callWith_F (by exact FnAt.of (by k_asm) (by k_mem)) ?_;k_whole)) | ((with_reducible show wpAny _ _ (binaryOp .LShift (.int _ _) (.int _ _)) _ _ _);refine' lshift_int (by with_reducible assumption) (by with_reducible assumption) ?_) | ((with_reducible show wpAny _ _ (binaryOp .RShift (.int _ _) (.int _ _)) _ _ _);refine' rshift_int (by first | decide | with_reducible assumption) ?_) | walk1)
  exact aW.intro (by assumption) (by assumption) ⟨_,vV n ds (Nat.le_of_lt g1) (Nat.le_of_lt g2) _,rfl⟩
theorem yX (w:World) (a:In) (n:Nat) (hn64:n ≤ 64) (ok:a.OkM n) (ds:Nat→Int) (hds:∀ i,(ds i).natAbs < 2 ^ 64) (vs:List Value) (hv:vs.length ≤ 400) (hvs:∀ i,i < vs.length→∃ t,vs[i]? = some (.int (ds i) t)) (ep:Nat) (k:Nat):∀ (l r:Nat) (tl tr:Tok),l < r→r ≤ vs.length→r - l ≤ 2 ^ k →
  ba pw w (kf w.params) (.ref a.f) ⟨[.int l tl,.int r tr],[]⟩ (a.M vs ep) (k + 1) (3 * k + 47 + 3) (DnR a vs ep (dv n ds l (r - l))):=by
 induction k with
 | zero=>exact fun l r tl tr hlr hr hk=>lE w a n hn64 ok 0 47 ds hds vs hv hvs ep l r tl tr hlr hr fun h=>by omega
 | succ k ih=>exact fun l r tl tr hlr hr hk=>lE w a n hn64 ok (k + 1) (3 * k + 47 + 3) ds hds vs hv hvs ep l r tl tr hlr hr fun _ l' r' tl tr h1 h2 h3=>ih l' r' tl tr h1 h2 (by rw [Nat.pow_succ] at hk;omega)
open PySem PySem.W PySem.Spec PySem.Calls PyProof.Rows
theorem jN (L:Addr):qualnameIn (envOfC (Str.ofString "_digits2int") (fS (stm 5)) L 42 (Value.ref 41)) (Str.ofString "inner") (Str.ofString "inner") = dnQ:=by kernel_rfl
noncomputable abbrev cx (c:Addr):Obj:=tabObj #[rawInt 47,rawInt 4,.ref c]
noncomputable def yQ (D:Addr) (vs:List Value) (ep:Nat) (z:Int) (tab:Addr→Addr→Obj→Obj→Prop) (b:Addr) (v:Value) (nw:List (Addr × Obj)):Prop :=
 ∃ t c oc tb,v = .int z t∧nw = [(c,oc),(37,tb),(D,listOf vs.toArray ep)]∧tab b c oc tb
theorem Ag {α:Type} (e0 e1 e2 e3 e4 e5 e6:α):∀ p∈[e0,e1,e4,e2,e3,e6,e5],p∈[e0,e1,e2,e3,e4,e5,e6] :=
 List.forall_mem_cons.mpr ⟨List.mem_of_getElem? (i:=0) rfl,List.forall_mem_cons.mpr ⟨List.mem_of_getElem? (i:=1) rfl,List.forall_mem_cons.mpr ⟨List.mem_of_getElem? (i:=4) rfl,List.forall_mem_cons.mpr ⟨List.mem_of_getElem? (i:=2) rfl,List.forall_mem_cons.mpr ⟨List.mem_of_getElem? (i:=3) rfl,List.forall_mem_cons.mpr ⟨List.mem_of_getElem? (i:=6) rfl,List.forall_mem_cons.mpr ⟨List.mem_of_getElem? (i:=5) rfl,nofun⟩⟩⟩⟩⟩⟩⟩
theorem uZ {α:Type} (e0 e1 e2 e3 e4 e5 e6:α):∀ p∈[e1,e6,e5],p∈[e0,e1,e2,e3,e4,e5,e6] :=
 List.forall_mem_cons.mpr ⟨List.mem_of_getElem? (i:=1) rfl,List.forall_mem_cons.mpr ⟨List.mem_of_getElem? (i:=6) rfl,List.forall_mem_cons.mpr ⟨List.mem_of_getElem? (i:=5) rfl,nofun⟩⟩⟩
theorem zO {α:Type} (e0 e1 e2 e3 e4 e5 e6:α):∀ p∈[e1,e5,e6],p∈[e0,e1,e2,e3,e4,e5,e6] :=
 List.forall_mem_cons.mpr ⟨List.mem_of_getElem? (i:=1) rfl,List.forall_mem_cons.mpr ⟨List.mem_of_getElem? (i:=5) rfl,List.forall_mem_cons.mpr ⟨List.mem_of_getElem? (i:=6) rfl,nofun⟩⟩⟩
theorem zk {α:Type} (e0 e1 e2 e3 e4 e5 e6:α):∀ p∈[e0,e6,e3,e1,e2,e5,e4],p∈[e0,e1,e2,e3,e4,e5,e6] :=
 List.forall_mem_cons.mpr ⟨List.mem_of_getElem? (i:=0) rfl,List.forall_mem_cons.mpr ⟨List.mem_of_getElem? (i:=6) rfl,List.forall_mem_cons.mpr ⟨List.mem_of_getElem? (i:=3) rfl,List.forall_mem_cons.mpr ⟨List.mem_of_getElem? (i:=1) rfl,List.forall_mem_cons.mpr ⟨List.mem_of_getElem? (i:=2) rfl,List.forall_mem_cons.mpr ⟨List.mem_of_getElem? (i:=5) rfl,List.forall_mem_cons.mpr ⟨List.mem_of_getElem? (i:=4) rfl,nofun⟩⟩⟩⟩⟩⟩⟩
theorem xJ {α:Type} (e0 e1 e2 e3 e4 e5 e6:α):∀ p∈[e6,e4,e5],p∈[e0,e1,e2,e3,e4,e5,e6] :=
 List.forall_mem_cons.mpr ⟨List.mem_of_getElem? (i:=6) rfl,List.forall_mem_cons.mpr ⟨List.mem_of_getElem? (i:=4) rfl,List.forall_mem_cons.mpr ⟨List.mem_of_getElem? (i:=5) rfl,nofun⟩⟩⟩
theorem len_pos {v:Value} {vs:List Value}:0 < (v :: vs).length:=Nat.succ_pos _
theorem rB {t:Addr} {o:Obj} {b:List (Addr × Obj)} (h:∀ y∈b.map (·.1),@Ne Nat t y):∀ q∈[(t,o)],∀ p∈b,q.1 ≠ p.1:=fun q hq p hp=>by
 rcases List.mem_cons.mp hq with rfl | hq
 ·exact h _ (List.mem_map_of_mem hp)
 ·cases hq
theorem vt {L D c f t:Nat} (h0:t < L) (h1:L + 1 + 1 + 1 < f) (hD:D ≠ t) (hc:c ≠ t):∀ y∈[f,c,L + 1,L + 1 + 1 + 1,L + 1 + 1,D],@Ne Nat t y:=by
 have a1:=Nat.lt_succ_of_lt h0;have a2:=Nat.lt_succ_of_lt a1;have a3:=Nat.lt_succ_of_lt a2
 simp only [List.forall_mem_cons]
 exact ⟨Nat.ne_of_lt (Nat.lt_trans a3 h1),hc.symm,Nat.ne_of_lt a1,Nat.ne_of_lt a3,Nat.ne_of_lt a2,hD.symm,nofun⟩
theorem i0 {L c:Nat} (h1:L + 1 + 1 + 1 < c):L ≤ c:=Nat.le_of_lt (Nat.lt_of_succ_lt (Nat.lt_of_succ_lt (Nat.lt_of_succ_lt h1)))
theorem j4 {L t c:Nat} (h0:t < L) (h1:L + 1 + 1 + 1 < c):c ≠ t:=Nat.ne_of_gt (Nat.lt_of_lt_of_le h0 (i0 h1))
theorem qW {L c f:Nat} (h1:L + 1 + 1 + 1 < c) (h2:c < f):L + 1 + 1 + 1 < f:=Nat.lt_trans h1 h2
set_option maxHeartbeats 8000000 in
theorem xw (w:World) (n:Nat) (tn:Tok) (D:Addr) (ds:Nat→Int) (hds:∀ i,(ds i).natAbs < 2 ^ 64) (vs:List Value) (hv:vs.length ≤ 400) (hvs:∀ i,i < vs.length→∃ t,vs[i]? = some (.int (ds i) t)) (ep:Nat) (hD:@Ne Nat D 37) (h2:n ≤ 64) (C0:∀ g,(kf w.params).In g→CodeHd g 41 37):gF pw w (kf w.params) (.ref 42) ⟨[.ref D,.int n tn],[]⟩ [(37,tabObj #[]),(D,listOf vs.toArray ep)] 30 300 (yQ D vs ep (dv n ds 0 vs.length) fun b c oc t=>b ≤ c∧cT oc dnQ∧t = cx c∧c ≠ 37):=by
 have:PySem.Challenge.rw_wc0018_02 = PySem.Challenge.rw_wc0018_02∧kf = kf:=by (k_fill;exact ⟨rfl,rfl⟩)
 clear this
 k_dflt (refine' dA (binds:=[("digits",.ref D),("n",.int n tn)]) ?k6 ?k7 ?k9 ?kB ?kn ?c2 ?c3 ?c4 ?_;(case k6=>k_is);(case k7=>k_is);(case k9=>exact fun s=>BindsTo.of_eq rfl);(case kB=>exact rfl);(case kn=>decide);(case c2=>exact rfl);(case c3=>exact rfl);(case c4=>exact rfl))
 intro p loose mean mg mb dp un gd fr gh L s cells F X N Y T hdp hun hL
 (try k_lt hL);k_cells Y;(try simp only [List.cons_append,List.nil_append] at N);(try dsimp only)
 have C:=C0 _ X
 have kl2:=Nat.le_trans hv (by decide:400 ≤ 1000)
 conv in (execs _ _)=>arg 1;whnf
 cases vs with
 | nil =>
  (repeat' first | ((with_reducible show wpAny _ _ (call (.builtin _) [_]) _ _ _);k_dflt (refine' cH (by k_asm) (by k_mem) (by first | with_reducible assumption | exact rfl) (by with_reducible assumption) ?_;k_whole)) | walk1)
  rename_i o0 o02 o3 d01 d02 d3 f c oc cvs ct ctv doc h1' tk0 e1 e2 l1 l2 h0 oi F0 N0 di
  rw [jN] at N0 e2
  obtain ⟨tb,N6,htb⟩:∃ tb:Obj,News gh L h0 [(f,fnMade "inner" dnQ dnP dnB dnS [("n",L + 1 + 1),("inner",L + 1 + 1 + 1),("digits",L + 1)] doc ((mg "__name__").getD .none) c ctv),(c,oc),(L + 1 + 1 + 1,oi),(L + 1 + 1,o02),(L + 1,o3),(37,tb),(D,listOf ([]:List Value).toArray ep)]∧tb = cx c:=⟨_,N0,by kernel_rfl⟩
  subst htb
  clear N0
  exact aW.intro F0 (fun p hp=>N6 p (zO _ _ _ _ _ _ _ p hp)) ⟨_,_,_,_,rfl,rfl,i0 l1.1,⟨_,_,e1,e2⟩,rfl,j4 hL.1 l1.1⟩
 | cons v0 vs =>
  (repeat' first | ((with_reducible show wpAny _ _ (call (.builtin _) [_]) _ _ _);k_dflt (refine' cH (by k_asm) (by k_mem) (by first | with_reducible assumption | exact rfl) (by with_reducible assumption) ?_;k_whole)) | walk1)
  rename_i o0 o02 o3 d01 d02 d3 f c oc cvs ct ctv doc h1' tk0 e1 e2 l1 l2 h0 oi F0 N0 di
  rw [jN] at N0 e2
  obtain ⟨tb,N6,htb⟩:∃ tb:Obj,News gh L h0 [(f,fnMade "inner" dnQ dnP dnB dnS [("n",L + 1 + 1),("inner",L + 1 + 1 + 1),("digits",L + 1)] doc ((mg "__name__").getD .none) c ctv),(c,oc),(L + 1 + 1 + 1,oi),(L + 1 + 1,o02),(L + 1,o3),(37,tb),(D,listOf (v0 :: vs).toArray ep)]∧tb = cx c:=⟨_,N0,by kernel_rfl⟩
  subst htb
  clear N0
  have c1:=yX w (⟨f,c,L + 1,L + 1 + 1 + 1,L + 1 + 1,D,oc,o3,oi,o02,doc,(mg "__name__").getD .none,ctv⟩:In) n h2 ⟨⟨_,_,e1,e2⟩,d3,di,⟨tn,d02⟩⟩ ds hds (v0 :: vs) hv hvs ep 9 0 (v0 :: vs).length (tk0 + 1 + 1) (tk0 + 1 + 1 + 1 + 1) len_pos (Nat.le_refl _) (Nat.le_trans (Nat.sub_le _ _) (Nat.le_trans hv (by decide)))
  have N7:News gh L h0 (In.M (⟨f,c,L + 1,L + 1 + 1 + 1,L + 1 + 1,D,oc,o3,oi,o02,doc,(mg "__name__").getD .none,ctv⟩:In) (v0 :: vs) ep ++ [(37,cx c)]):=fun p hp=>N6 p (Ag _ _ _ _ _ _ _ p hp)
  clear N6
  refine wpAny_call (ba.use (others:=[(37,cx c)]) c1 rfl F0 X N7 (rB (vt hL.1 (qW l1.1 l2) hD (j4 hL.1 l1.1))) T (cQ (a:=dp) hdp rfl) (cQ (a:=un) hun rfl) fun v nw h5 tk5 F5 N5 ho5 r5=>?_)
  obtain ⟨t5,rfl,rfl⟩:=r5
  dsimp only [In.M,List.cons_append,List.nil_append] at N5
  clear ho5 c1 N7
  (repeat' first | ((with_reducible show wpAny _ _ (call (.builtin _) [_]) _ _ _);k_dflt (refine' cH (by k_asm) (by k_mem) (by first | with_reducible assumption | exact rfl) (by with_reducible assumption) ?_;k_whole)) | walk1)
  exact aW.intro F5 (fun p hp=>N5 p (uZ _ _ _ _ _ _ _ p hp)) ⟨_,_,_,_,rfl,rfl,i0 l1.1,⟨_,_,e1,e2⟩,rfl,j4 hL.1 l1.1⟩
open PySem PySem.W PySem.Spec PySem.Calls PyProof.Rows
set_option maxHeartbeats 8000000 in
theorem xT (w:World) (n:Nat) (tn:Tok) (D:Addr) (ds:Nat→Int) (hds:∀ i,(ds i).natAbs < 2 ^ 64) (vs:List Value) (hv:vs.length ≤ 400) (hvs:∀ i,i < vs.length→∃ t,vs[i]? = some (.int (ds i) t)) (ep:Nat) (hD:@Ne Nat D 37) (h2:n ≤ 64) {c:Addr} {oc:Obj} (hc:cT oc dnQ) (hct:@Ne Nat c 37) (C0:∀ g,(kf w.params).In g→CodeHd g 41 37):gF pw w (kf w.params) (.ref 42) ⟨[.ref D,.int n tn],[]⟩ [(37,cx c),(D,listOf vs.toArray ep),(c,oc)] 30 300 (yQ D vs ep (dv n ds 0 vs.length) fun _ c' o t=>c' = c∧o = oc∧t = cx c):=by
 have:PySem.Challenge.rw_wc0018_02 = PySem.Challenge.rw_wc0018_02∧kf = kf:=by (k_fill;exact ⟨rfl,rfl⟩)
 clear this
 k_dflt (refine' dA (binds:=[("digits",.ref D),("n",.int n tn)]) ?k6 ?k7 ?k9 ?kB ?kn ?c2 ?c3 ?c4 ?_;(case k6=>k_is);(case k7=>k_is);(case k9=>exact fun s=>BindsTo.of_eq rfl);(case kB=>exact rfl);(case kn=>decide);(case c2=>exact rfl);(case c3=>exact rfl);(case c4=>exact rfl))
 intro p loose mean mg mb dp un gd fr gh L s cells F X N Y T hdp hun hL
 (try k_lt hL);k_cells Y;(try simp only [List.cons_append,List.nil_append] at N);(try dsimp only)
 have C:=C0 _ X
 have kl2:=Nat.le_trans hv (by decide:400 ≤ 1000)
 conv in (execs _ _)=>arg 1;whnf
 cases vs with
 | nil =>
  (repeat' first | ((with_reducible show wpAny _ _ (call (.builtin _) [_]) _ _ _);k_dflt (refine' cH (by k_asm) (by k_mem) (by first | with_reducible assumption | exact rfl) (by with_reducible assumption) ?_;k_whole)) | walk1)
  rename_i o0 o02 o3 d01 d02 d3 f ctv doc h1' tk0 l1 h0 oi F0 N0 di
  rw [jN] at N0
  have N6:News gh L h0 [(f,fnMade "inner" dnQ dnP dnB dnS [("n",L + 1 + 1),("inner",L + 1 + 1 + 1),("digits",L + 1)] doc ((mg "__name__").getD .none) c ctv),(L + 1 + 1 + 1,oi),(L + 1 + 1,o02),(L + 1,o3),(37,cx c),(D,listOf ([]:List Value).toArray ep),(c,oc)]:=N0
  clear N0
  exact aW.intro F0 (fun p hp=>N6 p (xJ _ _ _ _ _ _ _ p hp)) ⟨_,_,_,_,rfl,rfl,rfl,rfl,rfl⟩
 | cons v0 vs =>
  (repeat' first | ((with_reducible show wpAny _ _ (call (.builtin _) [_]) _ _ _);k_dflt (refine' cH (by k_asm) (by k_mem) (by first | with_reducible assumption | exact rfl) (by with_reducible assumption) ?_;k_whole)) | walk1)
  rename_i o0 o02 o3 d01 d02 d3 f ctv doc h1' tk0 l1 h0 oi F0 N0 di
  rw [jN] at N0
  have N6:News gh L h0 [(f,fnMade "inner" dnQ dnP dnB dnS [("n",L + 1 + 1),("inner",L + 1 + 1 + 1),("digits",L + 1)] doc ((mg "__name__").getD .none) c ctv),(L + 1 + 1 + 1,oi),(L + 1 + 1,o02),(L + 1,o3),(37,cx c),(D,listOf (v0 :: vs).toArray ep),(c,oc)]:=N0
  clear N0
  have c1:=yX w (⟨f,c,L + 1,L + 1 + 1 + 1,L + 1 + 1,D,oc,o3,oi,o02,doc,(mg "__name__").getD .none,ctv⟩:In) n h2 ⟨hc,d3,di,⟨tn,d02⟩⟩ ds hds (v0 :: vs) hv hvs ep 9 0 (v0 :: vs).length (tk0 + 1 + 1) (tk0 + 1 + 1 + 1 + 1) len_pos (Nat.le_refl _) (Nat.le_trans (Nat.sub_le _ _) (Nat.le_trans hv (by decide)))
  have N7:News gh L h0 (In.M (⟨f,c,L + 1,L + 1 + 1 + 1,L + 1 + 1,D,oc,o3,oi,o02,doc,(mg "__name__").getD .none,ctv⟩:In) (v0 :: vs) ep ++ [(37,cx c)]):=fun p hp=>N6 p (zk _ _ _ _ _ _ _ p hp)
  clear N6
  refine wpAny_call (ba.use (others:=[(37,cx c)]) c1 rfl F0 X N7 (rB (vt hL.1 l1.1 hD hct)) T (cQ (a:=dp) hdp rfl) (cQ (a:=un) hun rfl) fun v nw h5 tk5 F5 N5 ho5 r5=>?_)
  obtain ⟨t5,rfl,rfl⟩:=r5
  dsimp only [In.M,List.cons_append,List.nil_append] at N5
  clear ho5 c1 N7
  (repeat' first | ((with_reducible show wpAny _ _ (call (.builtin _) [_]) _ _ _);k_dflt (refine' cH (by k_asm) (by k_mem) (by first | with_reducible assumption | exact rfl) (by with_reducible assumption) ?_;k_whole)) | walk1)
  exact aW.intro F5 (fun p hp=>N5 p (uZ _ _ _ _ _ _ _ p hp)) ⟨_,_,_,_,rfl,rfl,rfl,rfl,rfl⟩
end Mine
end
section
namespace Mine
open PySem PySem.W PySem.Spec PySem.Calls PyProof.Rows
section
variable {C:Ctx} {sc:Sc} {loc loc' loc'':Loc} {μ μ' μ'':Mem} {W W':Wd} {s:Shared} {α β:Type}
theorem bB:ah ≤ sizeLine:=by decide +kernel
theorem RV.i {fz:Led} {ad:List Addr} (i:Int) (t:Tok):RV fz ad (.int i) (.int i t):=by skip;exact ⟨t,rfl⟩
theorem RV.f {fz:Led} {ad:List Addr} (i:UInt64) (t:Tok):RV fz ad (.flt i) (.float i t):=by skip;exact ⟨t,rfl⟩
theorem RV.x {fz:Led} {ad:List Addr} (i:Str) (t:Tok):RV fz ad (.str i) (.str i t):=by skip;exact ⟨t,rfl⟩
theorem RV.b {fz:Led} {ad:List Addr} (i:Bool):RV fz ad (.bool i) (.bool i):=rfl
theorem RV.n {fz:Led} {ad:List Addr}:RV fz ad .none .none:=rfl
theorem RV.i' {fz:Led} {ad:List Addr} {i:Int} {v:Value} (h:RV fz ad (.int i) v):∃ t,v = .int i t:=by assumption
theorem RV.f' {fz:Led} {ad:List Addr} {i:UInt64} {v:Value} (h:RV fz ad (.flt i) v):∃ t,v = .float i t:=by assumption
theorem RV.x' {fz:Led} {ad:List Addr} {i:Str} {v:Value} (h:RV fz ad (.str i) v):∃ t,v = .str i t:=by assumption
theorem RV.b' {fz:Led} {ad:List Addr} {i:Bool} {v:Value} (h:RV fz ad (.bool i) v):v = .bool i:=by assumption
theorem RV.n' {fz:Led} {ad:List Addr} {v:Value} (h:RV fz ad .none v):v = .none:=by assumption
theorem RV.l' {fz:Led} {ad:List Addr} {l:List PV} {v:Value} (h:RV fz ad (.lst l) v):∃ a vs n,v = .ref a∧(a,({ cls:=.type "list",data:=.seq vs.toArray n }:Obj))∈fz∧RVs fz ad l vs:=by
 skip;obtain ⟨a,o,vs,e,m,⟨n,rfl⟩,r⟩:=h;exact ⟨a,vs,n,e,m,r⟩
theorem RV.t' {fz:Led} {ad:List Addr} {l:List PV} {v:Value} (h:RV fz ad (.tup l) v):∃ a o vs n,v = .ref a∧(a,o)∈fz∧o.cls = .type "tuple"∧o.data = .seq (List.toArray vs) n∧RVs fz ad l vs:=by
 skip;obtain ⟨a,o,vs,e,m,⟨hc,n,hd⟩,r⟩:=h;exact ⟨a,o,vs,n,e,m,hc,hd,r⟩
theorem RV.d' {fz:Led} {ad:List Addr} {l:List (Int × PV)} {v:Value} (h:RV fz ad (.dic l) v):∃ a o f,v = .ref a∧(a,o)∈fz∧cM o f l.length∧REs fz ad l f:=by assumption
theorem RV.r' {fz:Led} {ad:List Addr} {i:Nat} {v:Value} (h:RV fz ad (.ref i) v):∃ a,v = .ref a∧ad[i]? = some a:=by assumption
theorem RV.kx {fz:Led} {ad:List Addr} {i:Str} {v:Value} {G:Value→Prop} (h:RV fz ad (.str i) v) (k:∀ t,G (.str i t)):G v:=by refine zp h.x' fun t=>?_;exact k t
theorem RV.kl {fz:Led} {ad:List Addr} {l:List PV} {v:Value} {G:Value→Prop} (h:RV fz ad (.lst l) v) (k:∀ a vs n,(a,({ cls:=.type "list",data:=.seq vs.toArray n }:Obj))∈fz→RVs fz ad l vs→G (.ref a)):G v:=by
 refine yy h.l' fun a vs n m r=>?_;exact k a vs n m r
theorem RV.kt {fz:Led} {ad:List Addr} {l:List PV} {v:Value} {G:Value→Prop} (h:RV fz ad (.tup l) v) (k:∀ a o vs n,(a,o)∈fz→o.cls = .type "tuple"→o.data = .seq (List.toArray vs) n→RVs fz ad l vs→G (.ref a)):G v:=by
 refine AZ h.t' fun a o vs n m r=>?_;exact k a o vs n m r.1 r.2.1 r.2.2
theorem RV.kd {fz:Led} {ad:List Addr} {l:List (Int × PV)} {v:Value} {G:Value→Prop} (h:RV fz ad (.dic l) v) (k:∀ a o f,(a,o)∈fz→cM o f l.length→REs fz ad l f→G (.ref a)):G v:=by
 refine yy h.d' fun a o f m r=>?_;exact k a o f m r.1 r.2
theorem RV.kr {fz:Led} {ad:List Addr} {i:Nat} {v:Value} {G:Value→Prop} (h:RV fz ad (.ref i) v) (k:∀ a,ad[i]? = some a→G (.ref a)):G v:=by refine BE h.r' fun a e=>?_;exact k a e
theorem RV.l {fz:Led} {ad:List Addr} {l:List PV} {a:Addr} {vs:List Value} {n:Nat} (m:(a,({ cls:=.type "list",data:=.seq vs.toArray n }:Obj))∈fz) (r:RVs fz ad l vs):RV fz ad (.lst l) (.ref a):=by
 skip;exact ⟨a,_,vs,rfl,m,⟨n,rfl⟩,r⟩
theorem RV.t {fz:Led} {ad:List Addr} {l:List PV} {a:Addr} {vs:List Value} {n:Nat} (m:(a,({ cls:=.type "tuple",data:=.seq vs.toArray n }:Obj))∈fz) (r:RVs fz ad l vs):RV fz ad (.tup l) (.ref a):=by
 skip;exact ⟨a,_,vs,rfl,m,⟨rfl,n,rfl⟩,r⟩
noncomputable def pU (h:Heap) (L:Addr):Led:=(List.range h.objs.size).filterMap fun b=>if b = L then none else (h.get? b).map (b,·)
theorem eN {h:Heap} {L b:Addr} {o:Obj} (hb:b ≠ L) (e:h.get? b = some o):(b,o)∈pU h L:=by
 refine List.mem_filterMap.mpr ⟨b,List.mem_range.mpr (aJ e), ?_⟩
 (refine rwG (if_neg hb) ?_;refine rwG e ?_);rfl
theorem sf (h:Heap) (L:Addr):News ({}:Heap) L h (pU h L):=fun p hp=>by
 refine x12 (List.mem_filterMap.mp hp) fun b _ e=>?_
 by_cases hb:b = L
 ·rw [if_pos hb] at e;exact no1 e
 ·rw [if_neg hb] at e
  obtain ⟨o,eo,rfl⟩:=Option.map_eq_some_iff.mp e
  exact ⟨eo,hb,rfl⟩
theorem Rep.fr {h:Heap} (r:Rep C sc loc μ W h):∃ m,Fr ({}:Heap) C.env.locals h m∧News ({}:Heap) C.env.locals h (pU h C.env.locals):=by
 refine x12 r.ns fun m hm _=>?_
 exact ⟨m,⟨hm,fun b o e=>(nomatch e),Nat.zero_le _⟩,sf _ _⟩
theorem Rep.l9 {h h':Heap} (r:Rep C sc loc μ W h) {m:Str→Option Value} (hm:h.Ns C.env.locals m) (hm':h'.Ns C.env.locals m) (hk:∀ b o,b ≠ C.env.locals→h.get? b = some o→h'.get? b = some o):Rep C sc loc μ W h':=by
 refine x12 r.ns fun m₀ hm₀ hl=>?_
 have e:m₀ = m:=by
  refine x34 hm₀ fun o es ep a1 a2 a3 a4=>?_
  refine x34 hm fun o' es' ep' b1 b2 b3 b4=>?_
  rw [a1] at b1;(have q1:=so1 b1;subst q1);rw [a2] at b2;cases b2
  funext y;exact (a4 y).symm.trans (b4 y)
 subst e
 have out:∀ {a:Addr},a∈W.own→a ≠ C.env.locals:=fun ha e=>(List.nodup_cons.mp r.nd).1 (e ▸ ha)
 exact ⟨⟨_,hm',hl⟩,fun b o e=>hk b o (fun q=>by rw [q,r.old _ (.head _)] at e;exact no1 e) (r.keep b o e),fun p hp=>hk _ _ (fun q=>r.fzo p hp (q ▸ .head _)) (r.fzs p hp),fun p hp=>hk _ _ (out (List.mem_map_of_mem hp)) (r.all p hp),r.nd,r.old,r.fzo,r.mem,r.tabs,r.kf,r.cells⟩
theorem Rep.xM {h h':Heap} (r:Rep C sc loc μ W h) {a:Addr} {o:Obj} {m:Str→Option Value} (hm:h.Ns C.env.locals m) (F:Fr ({}:Heap) C.env.locals h' m) (N:News ({}:Heap) C.env.locals h' ((a,o) :: pU h C.env.locals)) (ha:h.get? a = none)
  (tq:∀ fz fz' T,(∀ p∈fz,p∈fz')→C.TQ fz T→C.TQ fz' T):Rep C sc loc μ { W with fz:=(a,o) :: W.fz } h':=by
 have r':=r.l9 hm F.ns fun b o hb e=>(N _ (.tail _ (eN hb e))).1
 exact r'.grow (fun _ _ e=>e) [(a,o)] (fun p hp=>by
  rcases List.mem_cons.mp hp with rfl | hp
  ·exact ⟨(N _ (.head _)).1,r.gU ha⟩
  ·cases hp) tq
theorem Giv.bind {t:Sem α} {f:α→Sem β} {R₁:α→Wd→Prop} {R₂:β→Wd→Prop} (h₁:Giv C sc loc W s t R₁ μ')
  (h₂:∀ a h' tk W',Rep C sc loc μ' W' h'→W.le W'→R₁ a W'→Giv C sc loc' W' { s with heap:=h',toks:=tk } (f a) R₂ μ''):Giv C sc loc' W s (t >>= f) R₂ μ'' :=
 fun Q hQ=>wpAny_bind (h₁ _ fun a h' tk W' r l ra=>h₂ a h' tk W' r l ra Q fun b h'' tk' W'' r' l' rb=>hQ b h'' tk' W'' r' (l.trans l') rb)
theorem Giv.of_eq {t u:Sem α} {R:α→Wd→Prop} (e:t = u) (h:Giv C sc loc W s u R μ):Giv C sc loc W s t R μ:=e ▸ h
theorem Giv.done {a:α} {R:α→Wd→Prop} (r:Rep C sc loc μ W s.heap) (h:R a W):Giv C sc loc W s (pure a:Sem α) R μ :=
 fun Q hQ=>wpAny_pure (hQ a s.heap s.toks W r (Wd.le.refl _) h)
theorem Giv.skip {t:Sem β} {R:β→Wd→Prop} {pos:Pos} (h:Giv C sc loc W s t R μ):Giv C sc loc W s (standAt pos >>= fun _=>t) R μ :=
 fun Q hQ=>wpAny_bind (wpAny_standAt (h Q hQ))
theorem Giv.hold {t:Sem β} {R:β→Wd→Prop} {vs:List Value} (h:Giv C sc loc W s t R μ):Giv C sc loc W s (holding vs t) R μ :=
 fun Q hQ=>wpAny_holding (h Q hQ)
theorem Giv.kO {t:Sem Value} {R:Value→Wd→Prop} {vs:List Value} (h:Giv C sc loc W s t R μ):Giv C sc loc W s (operate vs t) R μ :=
 fun Q hQ=>wpAny_operating (h Q hQ)
theorem cZ {i:Int} (h:hN i = true):i.natAbs < 2 ^ 1023:=by
 unfold hN at h
 have:=of_decide_eq_true h
 exact Nat.lt_trans this (by decide +kernel)
theorem gc {i:Int} (h:hN i = true):¬ Float64.isInf (Float64.ofInt i) = true:=Float64.ofInt_fits (cZ h)
theorem As {a:Int} (h:a.natAbs < 128):Builtin.Int.intBits a ≤ 7:=by
 unfold Builtin.Int.intBits
 by_cases hz:a = 0
 ·subst hz;exact Nat.zero_le _
 ·refine rwG (if_neg (by simpa using hz)) ?_
  exact (Nat.log2_lt (Int.natAbs_ne_zero.mpr hz)).mpr h
theorem ry {a b:Int} (h0:0 ≤ b) (h1:a.natAbs < 128) (h2:b ≤ 1000):(Builtin.Int.intBits a:Int) * b ≤ 7 * 1000 :=
 Int.mul_le_mul (Int.ofNat_le.mpr (As h1)) h2 h0 (by decide)
theorem eP {a b:Bool} (h:(a && b) = true):a = true∧b = true:=Bool.and_eq_true_iff.mp h
theorem tc {p q r:Prop} [Decidable p] [Decidable q] [Decidable r] (h:(decide p && decide q && decide r) = true):p∧q∧r:=by
 obtain ⟨h,h3⟩:=eP h
 obtain ⟨h1,h2⟩:=eP h
 exact ⟨of_decide_eq_true h1,of_decide_eq_true h2,of_decide_eq_true h3⟩
theorem vW {op:Operator} {a b:Int} {t u:Tok} {p:PV} (e:binI op a b = some p) (r:Rep C sc loc μ W s.heap):Giv C sc loc W s (binaryOp op (.int a t) (.int b u)) (IsV p) μ:=by
 intro Q hQ
 have fin:∀ i k,p = .int i→Q (.int i k) { s with toks:=s.toks + 1 }:=fun i k h=>by
  subst h;exact hQ _ s.heap _ W r (Wd.le.refl _) (RV.i i k)
 induction op using PySem.Operator.casesOn with
 | Add=>exact PyProof.Rows.add_int (fin _ _ (Option.some.inj e).symm)
 | Sub=>exact PyProof.Rows.sub_int (fin _ _ (Option.some.inj e).symm)
 | Mult =>
  refine au (oif e) fun hh e=>?_
  exact PyProof.Rows.mul_int (fin _ _ (Option.some.inj e).symm) ((Bool.or_eq_true_iff.mp hh).elim (fun h=>IntMulOk.of_left (of_decide_eq_true h)) fun h=>IntMulOk.of_right (of_decide_eq_true h))
 | FloorDiv =>
  refine au (oif e) fun hh e=>?_
  exact PyProof.Rows.floordiv_int (of_decide_eq_true (eP hh).1) (fin _ _ (Option.some.inj e).symm) (Or.inl (PyProof.noPylong_small (of_decide_eq_true (eP hh).2)))
 | Mod =>
  refine au (oif e) fun hh e=>?_
  exact PyProof.Rows.mod_int' hh (fin _ _ (Option.some.inj e).symm)
 | Pow =>
  refine au (oif e) fun hh e=>?_
  refine x03 (tc hh) fun h0 h1 h2=>?_
  exact PyProof.Rows.pow_int h0 (Int.le_trans (ry h0 h1 h2) (by decide)) (fin _ _ (Option.some.inj e).symm)
 | LShift =>
  refine au (oif e) fun hh e=>?_
  refine x03 (tc hh) fun h0 h1 h2=>?_
  exact PyProof.Rows.lshift_int_small h0 (Int.le_trans h1 (by decide)) h2 (fin _ _ (Option.some.inj e).symm)
 | RShift =>
  refine au (oif e) fun hh e=>?_
  exact PyProof.Rows.rshift_int hh (fin _ _ (Option.some.inj e).symm)
 | BitAnd=>exact PyProof.Rows.and_int (fin _ _ (Option.some.inj e).symm)
 | BitOr=>exact PyProof.Rows.or_int (fin _ _ (Option.some.inj e).symm)
 | BitXor=>exact PyProof.Rows.xor_int (fin _ _ (Option.some.inj e).symm)
 | Div =>
  refine au (oif e) fun hh e=>?_
  refine AutoIntOps.truediv_2 (by have:=of_decide_eq_true (eP hh).1;simpa using this) (by simpa using (eP hh).2) ?_
  (have q1:=so1 e;subst q1);exact hQ _ s.heap _ W r (Wd.le.refl _) (RV.f _ _)
 | _=>exact no1 e
theorem kG {op:Operator} {a b:UInt64} {p:PV} (e:qv op a b = some p) (tree:Sem Value)
  (h:∀ Q:Value→Shared→Prop,(∀ x k,p = .flt x→Q (.float x k) { s with toks:=s.toks + 1 })→wpAny (model C.prog C.w) C.A tree Q NoE s) (r:Rep C sc loc μ W s.heap):Giv C sc loc W s tree (IsV p) μ:=by
 intro Q hQ
 exact h Q fun x k hp=>by subst hp;exact hQ _ s.heap _ W r (Wd.le.refl _) (RV.f x k)
theorem bk {a:UInt64} {p:PV} (e:some (PV.flt a) = some p):p = .flt a:=(Option.some.inj e).symm
theorem lK {op:Operator} {a b:Str} {p:PV} (e:uz op a b = some p):op = .Add∧a.length + b.length ≤ ah∧p = .str (a ++ b):=by
 induction op using PySem.Operator.casesOn with
 | Add =>
  have e:(if a.length + b.length ≤ ah then some (PV.str (a ++ b)) else none) = some p:=e
  exact ⟨rfl,(oif e).1,(Option.some.inj (oif e).2).symm⟩
 | _=>exact no1 e
theorem sC {op:Operator} {a b:List PV} {p:PV} (e:iW op a b = some p):op = .Add∧a.length + b.length ≤ ah∧p = .lst (a ++ b):=by
 induction op using PySem.Operator.casesOn with
 | Add =>
  have e:(if a.length + b.length ≤ ah then some (PV.lst (a ++ b)) else none) = some p:=e
  exact ⟨rfl,(oif e).1,(Option.some.inj (oif e).2).symm⟩
 | _=>exact no1 e
set_option maxHeartbeats 4000000 in
theorem w9 {op:Operator} {a b p:PV} {x y:Value} (e:iO op a b = some p) (hx:IsV a x W) (hy:IsV b y W) (r:Rep C sc loc μ W s.heap)
  (tq:∀ fz fz' T,(∀ p∈fz,p∈fz')→C.TQ fz T→C.TQ fz' T):Giv C sc loc W s (binaryOp op x y) (IsV p) μ:=by
 induction a using PV.casesOn with
 | int i =>
  obtain ⟨t,rfl⟩:=RV.i' hx
  clear hx
  induction b using PV.casesOn with
  | int j=>obtain ⟨u,rfl⟩:=RV.i' hy;exact vW e r
  | flt j =>
   obtain ⟨u,rfl⟩:=RV.f' hy
   refine au (oif e) fun hs e=>?_
   refine kG e _ (fun Q hq=>?_) r
   induction op using PySem.Operator.casesOn with
   | Add=>exact PyProof.Rows.add_if_fits (cZ hs) (hq _ _ (bk e))
   | Sub=>exact PyProof.Rows.sub_if_fits (cZ hs) (hq _ _ (bk e))
   | Mult=>exact PyProof.Rows.mul_if_fits (cZ hs) (hq _ _ (bk e))
   | Div=>exact AutoFloatOps.truediv_if_2 (gc hs) (dP e).1 (hq _ _ (bk (dP e).2))
   | Mod=>exact AutoFloatOps.mod_if_2 (gc hs) (dP e).1 (hq _ _ (bk (dP e).2))
   | _=>exact no1 e
  | _=>exact no1 e
 | flt i =>
  obtain ⟨t,rfl⟩:=RV.f' hx
  clear hx
  induction b using PV.casesOn with
  | flt j =>
   obtain ⟨u,rfl⟩:=RV.f' hy
   refine kG e _ (fun Q hq=>?_) r
   induction op using PySem.Operator.casesOn with
   | Add=>exact PyProof.Rows.add_float (hq _ _ (bk e))
   | Sub=>exact PyProof.Rows.sub_float (hq _ _ (bk e))
   | Mult=>exact PyProof.Rows.mul_float (hq _ _ (bk e))
   | Div=>exact AutoFloatOps.truediv_1 (dP e).1 (hq _ _ (bk (dP e).2))
   | Mod=>exact AutoFloatOps.mod_1 (dP e).1 (hq _ _ (bk (dP e).2))
   | _=>exact no1 e
  | int j =>
   obtain ⟨u,rfl⟩:=RV.i' hy
   refine au (oif e) fun hs e=>?_
   refine kG e _ (fun Q hq=>?_) r
   induction op using PySem.Operator.casesOn with
   | Add=>exact PyProof.Rows.add_fi_fits (cZ hs) (hq _ _ (bk e))
   | Sub=>exact PyProof.Rows.sub_fi_fits (cZ hs) (hq _ _ (bk e))
   | Mult=>exact PyProof.Rows.mul_fi_fits (cZ hs) (hq _ _ (bk e))
   | Div=>exact AutoFloatOps.truediv_fi_2 (gc hs) (dP e).1 (hq _ _ (bk (dP e).2))
   | Mod=>exact AutoFloatOps.mod_fi_2 (gc hs) (dP e).1 (hq _ _ (bk (dP e).2))
   | _=>exact no1 e
  | _=>exact no1 e
 | str i =>
  obtain ⟨t,rfl⟩:=RV.x' hx
  clear hx
  induction b using PV.casesOn with
  | str j =>
   obtain ⟨u,rfl⟩:=RV.x' hy
   obtain ⟨rfl,hs,rfl⟩:=lK e
   exact fun Q hQ=>PyProof.Rows.add_str (fun t' tk=>hQ _ s.heap tk W r (Wd.le.refl _) (RV.x _ _)) (Nat.le_trans hs bB)
  | _=>exact no1 e
 | lst la =>
  obtain ⟨aa,va,na,rfl,ma,ra⟩:=RV.l' hx
  clear hx
  induction b using PV.casesOn with
  | lst lb =>
   obtain ⟨ab,vb,nb,rfl,mb,rb⟩:=RV.l' hy
   obtain ⟨rfl,hs,rfl⟩:=sC e
   intro Q hQ
   refine x12 r.fr fun m F N=>?_
   exact add_lists F N ⟨_,r.fzs _ ma,rfl,na,rfl⟩ ⟨_,r.fzs _ mb,rfl,nb,rfl⟩ (fun h' F' N'=>hQ _ h' s.toks _ (r.xM F.ns F' N' (bf _) tq) (Wd.le.fro W _) (RV.l (.head _) ((ra.app rb).le (Wd.le.fro W _)))) (by (refine rwG ra.len ?_;refine rwG rb.len ?_);exact Nat.le_trans hs bB)
  | _=>exact no1 e
 | _=>exact no1 e
end
end Mine
end
section
namespace Mine
open PySem PySem.W PySem.Spec PySem.Calls PyProof.Rows
section
variable {C:Ctx} {sc:Sc} {loc loc' loc'':Loc} {μ μ' μ'':Mem} {W W':Wd} {s:Shared} {α β:Type}
mutual
theorem iY {fz:Led} {ad:List Addr} {h:Heap} (hf:∀ p∈fz,h.get? p.1 = some p.2):∀ {p:PV} {d:PyData} {v:Value},gG p = some d→RV fz ad p v→∃ as,Reads h v d as
 | .none,_,_,e,r=>by refine so1m e ?_;obtain rfl:=RV.n' r;exact ⟨_,.none⟩
 | .bool b,_,_,e,r=>by refine so1m e ?_;obtain rfl:=RV.b' r;exact ⟨_,.bool b⟩
 | .int i,_,_,e,r=>by refine so1m e ?_;obtain ⟨t,rfl⟩:=RV.i' r;exact ⟨_,.int i t⟩
 | .str x,_,_,e,r=>by refine so1m e ?_;obtain ⟨t,rfl⟩:=RV.x' r;exact ⟨_,.str x t⟩
 | .lst l,d,_,e,r=>by
  obtain ⟨ds,e1,rfl⟩:=Option.map_eq_some_iff.mp e
  obtain ⟨a,vs,n,rfl,m,rs⟩:=RV.l' r
  obtain ⟨as,ra⟩:=eQ hf e1 rs
  exact ⟨_,.list (hf _ m) rfl rfl ra⟩
 | .tup l,d,_,e,r=>by
  obtain ⟨ds,e1,rfl⟩:=Option.map_eq_some_iff.mp e
  obtain ⟨a,o,vs,n,rfl,m,hc,hd,rs⟩:=RV.t' r
  obtain ⟨as,ra⟩:=eQ hf e1 rs
  exact ⟨_,.tuple (hf _ m) hc hd ra⟩
 | .flt _,_,_,e,_=>no1 e
 | .dic _,_,_,e,_=>no1 e
 | .ref _,_,_,e,_=>no1 e
 | .fn _,_,_,e,_=>no1 e
 | .bi _,_,_,e,_=>no1 e
 | .ty _,_,_,e,_=>no1 e
theorem eQ {fz:Led} {ad:List Addr} {h:Heap} (hf:∀ p∈fz,h.get? p.1 = some p.2):∀ {l:List PV} {ds:List PyData} {vs:List Value},ic l = some ds→RVs fz ad l vs→∃ as,ReadsAll h vs ds as
 | [],_,_,e,r=>by refine so1m e ?_;skip;subst r;exact ⟨_,.nil⟩
 | p :: l,ds,vs,e,r=>by
  have e:(match gG p,ic l with
   | some d,some ds=>some (d :: ds)
   | _,_=>none) = some ds:=e
  skip
  obtain ⟨v,t,rfl,h1,h2⟩:=r
  cases e1:gG p with
  | none=>rw [e1] at e;exact no1 e
  | some d =>
   cases e2:ic l with
   | none=>rw [e1,e2] at e;exact no1 e
   | some ds =>
    rw [e1,e2] at e
    refine so1m e ?_
    obtain ⟨as,ra⟩:=iY hf e1 h1
    obtain ⟨bs,rb⟩:=eQ hf e2 h2
    exact ⟨_,.cons ra rb⟩
end
noncomputable def EqG (C:Ctx) (sc:Sc) (loc:Loc) (μ:Mem) (W:Wd) (s:Shared) (x y:Value) (c:Bool):Prop:=Giv C sc loc W s (compareOp .Eq x y) (IsV (.bool c)) μ∧Giv C sc loc W s (compareOp .NotEq x y) (IsV (.bool (!c))) μ
theorem EqG.of {x y:Value} {c:Bool} (r:Rep C sc loc μ W s.heap) (h1:∀ Q:Value→Shared→Prop,Q (.bool c) s→wpAny (model C.prog C.w) C.A (compareOp .Eq x y) Q NoE s) (h2:∀ Q:Value→Shared→Prop,Q (.bool (!c)) s→wpAny (model C.prog C.w) C.A (compareOp .NotEq x y) Q NoE s):EqG C sc loc μ W s x y c :=
 ⟨fun Q hQ=>h1 Q (hQ _ s.heap s.toks W r (Wd.le.refl _) (RV.b _)),fun Q hQ=>h2 Q (hQ _ s.heap s.toks W r (Wd.le.refl _) (RV.b _))⟩
theorem nM {a b:PV} {x y:Value} {c:Bool} (e:eqD a b = some c) (hx:IsV a x W) (hy:IsV b y W) (r:Rep C sc loc μ W s.heap) (hu:C.A.units + 64 < cLine):EqG C sc loc μ W s x y c:=by
 unfold eqD at e
 cases e1:gG a with
 | none=>rw [e1] at e;exact no1 e
 | some d1 =>
  cases e2:gG b with
  | none=>rw [e1,e2] at e;exact no1 e
  | some d2 =>
   rw [e1,e2] at e
   refine au (oif e) fun hs e=>?_
   refine so1m e ?_
   obtain ⟨h1,h2⟩:=Bool.and_eq_true_iff.mp hs
   obtain ⟨as,ra⟩:=iY r.fzs e1 hx
   obtain ⟨bs,rb⟩:=iY r.fzs e2 hy
   exact .of r (fun Q hQ=>eq_dataH ra rb h1 h2 hu hQ) fun Q hQ=>ne_dataH ra rb h1 h2 hu hQ
theorem mC {a b:PV} {x y:Value} {c:Bool} (e:eqS a b = some c) (hx:IsV a x W) (hy:IsV b y W) (r:Rep C sc loc μ W s.heap) (hu:C.A.units + 64 < cLine):EqG C sc loc μ W s x y c:=by
 induction a using PV.casesOn with
 | int i=>induction b using PV.casesOn with
  | int j =>
   obtain ⟨t,rfl⟩:=RV.i' hx;obtain ⟨u,rfl⟩:=RV.i' hy
   refine so1m e ?_
   exact .of r (fun Q hQ=>PyProof.Rows.eq_int hQ) fun Q hQ=>PyProof.Rows.ne_int hQ
  | _=>refine nM ?_ hx hy r hu;exact e
 | str i=>induction b using PV.casesOn with
  | str j =>
   obtain ⟨t,rfl⟩:=RV.x' hx;obtain ⟨u,rfl⟩:=RV.x' hy
   refine so1m e ?_
   exact .of r (fun Q hQ=>PyProof.Rows.eq_str hQ) fun Q hQ=>PyProof.Rows.ne_str hQ
  | _=>refine nM ?_ hx hy r hu;exact e
 | _=>refine nM ?_ hx hy r hu;exact e
theorem su {a b:PV} {x y:Value} {c:Bool} (e:eqV a b = some c) (hx:IsV a x W) (hy:IsV b y W) (r:Rep C sc loc μ W s.heap) (hu:C.A.units + 64 < cLine):EqG C sc loc μ W s x y c:=by
 induction a using PV.casesOn with
 | flt i=>induction b using PV.casesOn with
  | flt j =>
   obtain ⟨t,rfl⟩:=RV.f' hx;obtain ⟨u,rfl⟩:=RV.f' hy
   refine so1m e ?_
   exact .of r (fun Q hQ=>AutoFloatOps.eq_0 hQ) fun Q hQ=>AutoFloatOps.ne_0 hQ
  | int j =>
   obtain ⟨t,rfl⟩:=RV.f' hx;obtain ⟨u,rfl⟩:=RV.i' hy
   refine so1m e ?_
   exact .of r (fun Q hQ=>PyProof.Rows.eq_fi hQ) fun Q hQ=>PyProof.Rows.ne_fi hQ
  | _=>refine mC ?_ hx hy r hu;exact e
 | int i=>induction b using PV.casesOn with
  | flt j =>
   obtain ⟨t,rfl⟩:=RV.i' hx;obtain ⟨u,rfl⟩:=RV.f' hy
   refine so1m e ?_
   exact .of r (fun Q hQ=>PyProof.Rows.eq_if hQ) fun Q hQ=>PyProof.Rows.ne_if hQ
  | _=>refine mC ?_ hx hy r hu;exact e
 | _=>refine mC ?_ hx hy r hu;exact e
theorem y9 {op:CmpOp} {a b:PV} {x y:Value} {c:Bool} (e:ym op a b = some c) (hx:IsV a x W) (hy:IsV b y W) (r:Rep C sc loc μ W s.heap):Giv C sc loc W s (compareOp op x y) (IsV (.bool c)) μ:=by
 intro Q hQ
 have fin:Q (.bool c) s:=hQ _ s.heap s.toks W r (Wd.le.refl _) (RV.b c)
 clear hQ r
 induction a using PV.casesOn with
 | int i =>
  obtain ⟨t,rfl⟩:=RV.i' hx
  clear hx
  induction b using PV.casesOn with
  | int j =>
   obtain ⟨u,rfl⟩:=RV.i' hy
   induction op using PySem.CmpOp.casesOn with
   | Lt=>(have q1:=so1 e;subst q1);exact PyProof.Rows.lt_int fin
   | LtE=>(have q1:=so1 e;subst q1);exact PyProof.Rows.le_int fin
   | Gt=>(have q1:=so1 e;subst q1);exact PyProof.Rows.gt_int fin
   | GtE=>(have q1:=so1 e;subst q1);exact PyProof.Rows.ge_int fin
   | _=>exact no1 e
  | flt j =>
   obtain ⟨u,rfl⟩:=RV.f' hy
   induction op using PySem.CmpOp.casesOn with
   | Lt=>(have q1:=so1 e;subst q1);exact PyProof.Rows.lt_if fin
   | LtE=>(have q1:=so1 e;subst q1);exact PyProof.Rows.le_if fin
   | Gt=>(have q1:=so1 e;subst q1);exact PyProof.Rows.gt_if fin
   | GtE=>(have q1:=so1 e;subst q1);exact PyProof.Rows.ge_if fin
   | _=>exact no1 e
  | _=>exact no1 e
 | flt i =>
  obtain ⟨t,rfl⟩:=RV.f' hx
  clear hx
  induction b using PV.casesOn with
  | flt j =>
   obtain ⟨u,rfl⟩:=RV.f' hy
   induction op using PySem.CmpOp.casesOn with
   | Lt=>(have q1:=so1 e;subst q1);exact AutoFloatOps.lt_0 fin
   | LtE=>(have q1:=so1 e;subst q1);exact AutoFloatOps.le_0 fin
   | Gt=>(have q1:=so1 e;subst q1);exact AutoFloatOps.gt_0 fin
   | GtE=>(have q1:=so1 e;subst q1);exact AutoFloatOps.ge_0 fin
   | _=>exact no1 e
  | int j =>
   obtain ⟨u,rfl⟩:=RV.i' hy
   induction op using PySem.CmpOp.casesOn with
   | Lt=>(have q1:=so1 e;subst q1);exact PyProof.Rows.lt_fi fin
   | LtE=>(have q1:=so1 e;subst q1);exact PyProof.Rows.le_fi fin
   | Gt=>(have q1:=so1 e;subst q1);exact PyProof.Rows.gt_fi fin
   | GtE=>(have q1:=so1 e;subst q1);exact PyProof.Rows.ge_fi fin
   | _=>exact no1 e
  | _=>exact no1 e
 | _=>exact no1 e
theorem yk {a b:PV} {x y:Value} {c:Bool} (e:inO a b = some c) (hx:IsV a x W) (hy:IsV b y W) (r:Rep C sc loc μ W s.heap):Giv C sc loc W s (compareOp .In x y) (IsV (.bool c)) μ:=by
 induction a using PV.casesOn with
 | str i=>induction b using PV.casesOn with
  | str j =>
   obtain ⟨t,rfl⟩:=RV.x' hx;obtain ⟨u,rfl⟩:=RV.x' hy
   refine so1m e ?_
   exact fun Q hQ=>PyProof.Rows.in_str (hQ _ s.heap s.toks W r (Wd.le.refl _) (RV.b _))
  | _=>exact no1 e
 | _=>exact no1 e
theorem vH {op:CmpOp} {a b:PV} {x y:Value} {c:Bool} (e:eK op a b = some c) (hx:IsV a x W) (hy:IsV b y W) (r:Rep C sc loc μ W s.heap) (hu:C.A.units + 64 < cLine) :
  Giv C sc loc W s (compareOp op x y) (IsV (.bool c)) μ:=by
 induction op using PySem.CmpOp.casesOn with
 | Eq=>exact (su e hx hy r hu).1
 | NotEq =>
  obtain ⟨d,e1,rfl⟩:=Option.map_eq_some_iff.mp e
  exact (su e1 hx hy r hu).2
 | In=>exact yk e hx hy r
 | NotIn=>exact no1 e
 | _=>refine y9 ?_ hx hy r;exact e
theorem vP {op:UnaryOp} {a p:PV} {x:Value} (e:xE op a = some p) (hx:IsV a x W) (r:Rep C sc loc μ W s.heap):Giv C sc loc W s (unaryOp op x) (IsV p) μ:=by
 induction a using PV.casesOn with
 | int i =>
  obtain ⟨t,rfl⟩:=RV.i' hx
  induction op using PySem.UnaryOp.casesOn with
  | USub=>refine so1m e ?_;exact fun Q hQ=>PyProof.Rows.neg_int (hQ _ s.heap _ W r (Wd.le.refl _) (RV.i _ _))
  | Invert=>refine so1m e ?_;exact fun Q hQ=>PyProof.Rows.invert_int (hQ _ s.heap _ W r (Wd.le.refl _) (RV.i _ _))
  | _=>exact no1 e
 | _=>exact no1 e
theorem oT {op:Operator} {a b p:PV} {x y:Value} (e:kv op a b = some p) (hx:IsV a x W) (hy:IsV b y W) (r:Rep C sc loc μ W s.heap):Giv C sc loc W s (inplaceOp op x y) (IsV p) μ:=by
 induction a using PV.casesOn with
 | int i=>induction b using PV.casesOn with
  | int j =>
   obtain ⟨t,rfl⟩:=RV.i' hx;obtain ⟨u,rfl⟩:=RV.i' hy
   intro Q hQ
   have fin:∀ i k,p = .int i→Q (.int i k) { s with toks:=s.toks + 1 }:=fun i k h=>by
    subst h;exact hQ _ s.heap _ W r (Wd.le.refl _) (RV.i i k)
   clear hQ hx hy r
   induction op using PySem.Operator.casesOn with
   | Add=>exact PyProof.Rows.iadd_int (fin _ _ (Option.some.inj e).symm)
   | Sub=>exact PyProof.Rows.isub_int (fin _ _ (Option.some.inj e).symm)
   | BitXor=>exact PyProof.Rows.ixor_int (fin _ _ (Option.some.inj e).symm)
   | FloorDiv =>
    refine au (oif e) fun hh e=>?_
    exact PyProof.Rows.ifloordiv_int (of_decide_eq_true (eP hh).1) (fin _ _ (Option.some.inj e).symm) (Or.inl (PyProof.noPylong_small (of_decide_eq_true (eP hh).2)))
   | RShift =>
    refine au (oif e) fun hh e=>?_
    exact PyProof.Rows.irshift_int hh (fin _ _ (Option.some.inj e).symm)
   | LShift =>
    refine au (oif e) fun hh e=>?_
    refine x03 (tc hh) fun h0 h1 h2=>?_
    exact PyProof.Rows.ilshift_int_small h0 (Int.le_trans h1 (by decide)) h2 (fin _ _ (Option.some.inj e).symm)
   | _=>exact no1 e
  | _=>exact no1 e
 | str i=>induction b using PV.casesOn with
  | str j =>
   obtain ⟨t,rfl⟩:=RV.x' hx;obtain ⟨u,rfl⟩:=RV.x' hy
   obtain ⟨rfl,hs,rfl⟩:=lK e
   exact fun Q hQ=>PyProof.Rows.iadd_str (fun t' tk=>hQ _ s.heap tk W r (Wd.le.refl _) (RV.x _ _)) (Nat.le_trans hs bB)
  | _=>exact no1 e
 | _=>exact no1 e
end
end Mine
end
section
namespace Mine
open PySem PySem.W PySem.Spec PySem.Calls PyProof.Rows
section
variable {C:Ctx} {sc:Sc} {loc loc' loc'':Loc} {μ μ' μ'':Mem} {W W':Wd} {s:Shared} {α β:Type}
theorem eg {l:List Led} {i:Nat} {a b:Addr} {o:Obj} (h:l[i]? = some [(a,o)]) (e:(ads l)[i]? = some b):b = a:=by
 delta ads at e
 rw [List.getElem?_map,h] at e
 exact (Option.some.inj e).symm
theorem eu {W:Wd} {i:Nat} {l:Led} (h:W.led[i]? = some l) {p:Addr × Obj} (hp:p∈l):p∈W.oth :=
 List.mem_append_right _ (List.mem_append_right _ (List.mem_flatten.mpr ⟨l,List.mem_of_getElem? h,hp⟩))
theorem Rep.lst {h:Heap} (r:Rep C sc loc μ W h) {i:Nat} {l:List PV} {a:Addr} (e:μ[i]? = some (.lst l)) (ea:(ads W.led)[i]? = some a) :
  ∃ vs n,W.led[i]? = some [(a,{ cls:=.type "list",data:=.seq vs.toArray n })]∧RVs W.fz (ads W.led) l vs∧h.get? a = some { cls:=.type "list",data:=.seq vs.toArray n }:=by
 obtain ⟨ld,e1,b,o,vs,rfl,⟨n,rfl⟩,q⟩:=r.mem.get e
 obtain rfl:=eg e1 ea
 exact ⟨vs,n,e1,q,r.all _ (eu e1 (.head _))⟩
theorem Rep.dic {h:Heap} (r:Rep C sc loc μ W h) {i:Nat} {l:List (Int × PV)} {a:Addr} (e:μ[i]? = some (.dic l)) (ea:(ads W.led)[i]? = some a) :
  ∃ o f,W.led[i]? = some [(a,o)]∧cM o f l.length∧REs W.fz (ads W.led) l f∧h.get? a = some o:=by
 obtain ⟨ld,e1,b,o,f,rfl,q,q'⟩:=r.mem.get e
 obtain rfl:=eg e1 ea
 exact ⟨o,f,e1,q,q',r.all _ (eu e1 (.head _))⟩
theorem Rep.cell {h:Heap} (r:Rep C sc loc μ W h) {i:Nat} {v:Option PV} {a:Addr} (e:μ[i]? = some (.cell v)) (ea:(ads W.led)[i]? = some a) :
  ∃ o ov,W.led[i]? = some [(a,o)]∧o.data = .cell ov∧h.get? a = some o∧(∀ p,v = some p→∃ x,ov = some x∧RV W.fz (ads W.led) p x):=by
 refine x12 (r.mem.get e) fun ld e1 q=>?_
 induction v using Option.casesOn with
 | none =>
  obtain ⟨b,o,rfl,q⟩:=q
  obtain rfl:=eg e1 ea
  exact ⟨o,none,e1,q,r.all _ (eu e1 (.head _)),fun p hp=>nomatch hp⟩
 | some p =>
  obtain ⟨b,o,x,rfl,q,q'⟩:=q
  obtain rfl:=eg e1 ea
  exact ⟨o,some x,e1,q,r.all _ (eu e1 (.head _)),fun p' hp=>by refine so1m hp ?_;exact ⟨x,rfl,q'⟩⟩
theorem eX {h:Heap} {a:Addr} {o:Obj} {f:Int→Option Value} {k:Nat} (e:h.get? a = some o) (q:cM o f k):h.IntMap a f:=by
 obtain ⟨h1,h2,h3,es,n,h4,h5,h6,h7⟩:=q
 exact ⟨o,es,n,e,h1,h4,h5,h7⟩
theorem hX {n:Nat} (h:n ≤ ah):(n:Int) < 2 ^ 63:=Int.lt_of_le_of_lt (Int.ofNat_le.mpr h) (by decide +kernel)
theorem gO {i:Int} (h:aS i = true):-(2 ^ 63) ≤ i:=by have:=of_decide_eq_true h;omega
theorem gM {i:Int} (h:aS i = true):i < 2 ^ 63:=by have:=of_decide_eq_true h;omega
theorem mv {a:Addr} {vs:List Value} {n:Nat} {l:List PV} (hg:s.heap.get? a = some { cls:=.type "list",data:=.seq vs.toArray n }) (rs:RVs W.fz (ads W.led) l vs) (hs:l.length ≤ ah) (r:Rep C sc loc μ W s.heap):Giv C sc loc W s (truthy (.ref a)) (fun c _=>c = !l.isEmpty) μ:=by
 intro Q hQ
 refine wpAny_truthy_list ⟨_,hg,rfl,n,rfl⟩ (by (refine rwG List.size_toArray ?_;refine rwG rs.len ?_);exact hX hs) (hQ _ s.heap _ W r (Wd.le.refl _) ?_)
 have:=rs.len
 induction vs using List.casesOn with
 | nil=>induction l using List.casesOn with
  | nil=>rfl
  | cons _ _=>injection this
 | cons _ _=>induction l using List.casesOn with
  | nil=>injection this
  | cons _ _=>rfl
theorem vS (n:Nat):((n:Int) != 0) = (n != 0):=by
 induction n using Nat.casesOn with
 | zero=>rfl
 | succ n=>rfl
theorem sG {p:PV} {x:Value} {b:Bool} (e:trO p = some b) (hx:IsV p x W) (r:Rep C sc loc μ W s.heap):Giv C sc loc W s (truthy x) (fun c _=>c = b) μ:=by
 induction p using PV.casesOn with
 | none=>refine so1m e ?_;obtain rfl:=RV.n' hx;exact fun Q hQ _ _ _=>hQ _ s.heap s.toks W r (Wd.le.refl _) rfl
 | bool b=>refine so1m e ?_;obtain rfl:=RV.b' hx;exact fun Q hQ=>wpAny_truthy_bool (hQ _ s.heap s.toks W r (Wd.le.refl _) rfl)
 | int i=>refine so1m e ?_;obtain ⟨t,rfl⟩:=RV.i' hx;exact fun Q hQ=>P.truthy_int (hQ _ s.heap s.toks W r (Wd.le.refl _) rfl)
 | str y =>
  obtain ⟨t,rfl⟩:=RV.x' hx
  refine au (oif e) fun hs e=>?_
  refine so1m e ?_
  exact fun Q hQ=>P.truthy_str (Int.not_le.mpr (hX hs)) (hQ _ s.heap _ W r (Wd.le.refl _) (vS _))
 | lst l =>
  obtain ⟨a,vs,n,rfl,m,rs⟩:=RV.l' hx
  refine au (oif e) fun hs e=>?_
  refine so1m e ?_
  exact mv (r.fzs _ m) rs hs r
 | _=>exact no1 e
theorem oE {p:PV} (h:¬ ∃ i,p = .ref i) (μ:Mem):ju p μ = M.lift (trO p) μ:=by
 induction p using PV.casesOn with
 | ref i=>exact absurd ⟨i,rfl⟩ h
 | _=>rfl
theorem ll {p k:PV} (h:¬ ∃ i,p = .ref i) (μ:Mem):getM p k μ = M.lift (kF p k) μ:=by
 induction p using PV.casesOn with
 | ref i=>exact absurd ⟨i,rfl⟩ h
 | _=>rfl
theorem sa {p:PV} {x:Value} {b:Bool} (e:ju p μ = some (b,μ')) (hx:IsV p x W) (r:Rep C sc loc μ W s.heap):Giv C sc loc W s (truthy x) (fun c _=>c = b) μ':=by
 by_cases hr:∃ i,p = .ref i
 ·obtain ⟨i,rfl⟩:=hr
  refine cw e fun o e2 e=>?_
  induction o using MO.casesOn with
  | lst l =>
   refine au (M.pif e) fun hs e=>?_
   obtain ⟨rfl,rfl⟩:=ai e
   obtain ⟨a,rfl,ea⟩:=RV.r' hx
   refine x23 (r.lst e2 ea) fun vs n _ rs hg=>?_
   exact mv hg rs hs r
  | _=>exact no1 e
 ·refine cj ((oE hr μ).symm.trans e) fun e1=>?_
  exact sG e1 hx r
theorem lT {i:Int} {n j:Nat} (e:seqIndex? i n = some j):j < n∧((i < 0∧-(n:Int) ≤ i∧(i + n).toNat = j)∨(0 ≤ i∧i.toNat = j)):=by
 unfold seqIndex? at e
 by_cases h:i < 0
 ·simp only [if_pos h] at e
  refine au (oif e) fun h2 e=>?_
  refine so1m e ?_
  have h3:=eP h2
  have h4:=of_decide_eq_true h3.1
  have h5:=of_decide_eq_true h3.2
  exact ⟨by omega,.inl ⟨h,by omega,rfl⟩⟩
 ·simp only [if_neg h] at e
  refine au (oif e) fun h2 e=>?_
  refine so1m e ?_
  have h3:=eP h2
  have h4:=of_decide_eq_true h3.1
  have h5:=of_decide_eq_true h3.2
  exact ⟨by omega,.inr ⟨Int.not_lt.mp h,rfl⟩⟩
theorem ku {vs:List Value} {j:Nat} {v:Value} (e:vs[j]? = some v):vs.toArray[j]? = some v:=by refine rwG (List.getElem?_toArray) ?_;exact e
theorem jI {a:Addr} {vs:List Value} {n:Nat} {l:List PV} {i:Int} {t:Tok} {p:PV} (hg:s.heap.get? a = some { cls:=.type "list",data:=.seq vs.toArray n }) (rs:RVs W.fz (ads W.led) l vs)
  (hk:aS i = true) (e:atI l i = some p) (r:Rep C sc loc μ W s.heap):Giv C sc loc W s (getItem (.ref a) (.int i t)) (IsV p) μ:=by
 intro Q hQ
 refine d6 e fun j ej e2=>?_
 refine x12 (rs.get e2) fun v ev hv=>?_
 have fin:=hQ v s.heap s.toks W r (Wd.le.refl _) hv
 have hl:s.heap.IsList a vs.toArray:=⟨_,hg,rfl,n,rfl⟩
 have hn:vs.toArray.size = l.length:=by (refine rwG List.size_toArray ?_;refine rwG rs.len rfl)
 rcases (lT ej).2 with ⟨h1,h2,rfl⟩ | ⟨h1,rfl⟩
 ·exact wpAny_getItem_list_neg hl h1 (by refine rwG hn ?_;exact h2) (gO hk) (by refine rwG hn ?_;exact ku ev) fin
 ·exact wpAny_getItem_list hl h1 (gM hk) (ku ev) fin
theorem qA {x:Str} {j:Nat} {q:PV} (e:(chars x)[j]? = some q):∃ c,x.cps[j]? = some c∧q = .str ⟨#[c]⟩:=by
 delta chars at e
 rw [List.getElem?_map] at e
 refine x12 (Option.map_eq_some_iff.mp e) fun c h1 h2=>?_
 exact ⟨c,by refine rwH (Array.getElem?_toList) ?_;exact h1,h2.symm⟩
theorem pV (x:Str):(chars x).length = x.length:=by skip;(refine rwG (List.length_map ..) ?_;refine rwG (Array.length_toList ..) ?_);rfl
theorem v8 {p q:PV} {x:Value} {i:Int} {t:Tok} (e:ti p i = some q) (hk:aS i = true) (hx:IsV p x W) (r:Rep C sc loc μ W s.heap):Giv C sc loc W s (getItem x (.int i t)) (IsV q) μ:=by
 induction p using PV.casesOn with
 | lst l =>
  obtain ⟨a,vs,n,rfl,m,rs⟩:=RV.l' hx
  exact jI (r.fzs _ m) rs hk e r
 | tup l =>
  obtain ⟨a,o,vs,n,rfl,m,hc,hd,rs⟩:=RV.t' hx
  refine d6 e fun j ej e2=>?_
  refine x12 (rs.get e2) fun v ev hv=>?_
  exact fun Q hQ=>PyProof.Rows.getItem_tuple ⟨o,r.fzs _ m,hc,n,hd⟩ (gO hk) (gM hk) (by (refine rwG List.size_toArray ?_;refine rwG rs.len ?_);exact ej) (ku ev) (hQ v s.heap s.toks W r (Wd.le.refl _) hv)
 | str y =>
  obtain ⟨u,rfl⟩:=RV.x' hx
  refine d6 e fun j ej e2=>?_
  rw [pV] at ej
  obtain ⟨c,hc,rfl⟩:=qA e2
  exact fun Q hQ=>PyProof.Rows.getItem_str (c:=c) (Bool.or_eq_false_iff.mpr ⟨decide_eq_false (Int.not_lt.mpr (gO hk)),decide_eq_false (Int.not_le.mpr (gM hk))⟩) (by refine rwG ej ?_;exact hc) (hQ _ s.heap _ W r (Wd.le.refl _) (RV.x _ _))
 | dic l =>
  obtain ⟨a,o,f,rfl,m,dq,es⟩:=RV.d' hx
  refine x12 (es.find e) fun v ev hv=>?_
  exact fun Q hQ=>wpAny_getItem_intMap (eX (r.fzs _ m) dq) ev (hQ v s.heap _ W r (Wd.le.refl _) hv)
 | _=>exact no1 e
theorem fb {p k q:PV} (e:kF p k = some q):∃ i,k = .int i∧aS i = true∧ti p i = some q:=by
 induction k using PV.casesOn with
 | int i=>refine au (oif e) fun h e=>?_;exact ⟨i,rfl,h,e⟩
 | _=>exact no1 e
theorem xf {p k q:PV} {x y:Value} (e:kF p k = some q) (hx:IsV p x W) (hy:IsV k y W) (r:Rep C sc loc μ W s.heap):Giv C sc loc W s (getItem x y) (IsV q) μ:=by
 obtain ⟨i,rfl,hk,e⟩:=fb e
 obtain ⟨t,rfl⟩:=RV.i' hy
 exact v8 e hk hx r
theorem pJ {p k q:PV} {x y:Value} (e:getM p k μ = some (q,μ')) (hx:IsV p x W) (hy:IsV k y W) (r:Rep C sc loc μ W s.heap):Giv C sc loc W s (getItem x y) (IsV q) μ':=by
 by_cases hr:∃ i,p = .ref i
 ·obtain ⟨i,rfl⟩:=hr
  refine cw e fun o e2 e=>?_
  obtain ⟨a,rfl,ea⟩:=RV.r' hx
  induction o using MO.casesOn with
  | lst l =>
   refine x23 (r.lst e2 ea) fun vs n _ rs hg=>?_
   refine cj e fun e3=>?_
   obtain ⟨j,rfl,hk,e4⟩:=fb e3
   obtain ⟨t,rfl⟩:=RV.i' hy
   exact jI hg rs hk e4 r
  | dic l =>
   refine x24 (r.dic e2 ea) fun o f _ dq es hg=>?_
   refine cj e fun e3=>?_
   obtain ⟨j,rfl,hk,e4⟩:=fb e3
   obtain ⟨t,rfl⟩:=RV.i' hy
   refine x12 (es.find e4) fun v ev hv=>?_
   exact fun Q hQ=>wpAny_getItem_intMap (eX hg dq) ev (hQ v s.heap _ W r (Wd.le.refl _) hv)
  | _=>exact no1 e
 ·refine cj ((ll hr μ).symm.trans e) fun e1=>?_
  exact xf e1 hx hy r
end
end Mine
end
section
namespace Mine
open PySem PySem.W PySem.Spec PySem.Calls PyProof.Rows
section
variable {C:Ctx} {sc:Sc} {loc loc' loc'':Loc} {μ μ' μ'':Mem} {W W':Wd} {s:Shared} {α β:Type}
theorem RVs.one {fz:Led} {ad:List Addr} {p:PV} {vs:List Value} (h:RVs fz ad [p] vs):∃ v,vs = [v]∧RV fz ad p v:=by
 skip;obtain ⟨v,t,rfl,h1,h2⟩:=h;skip;subst h2;exact ⟨v,rfl,h1⟩
theorem RVs.two {fz:Led} {ad:List Addr} {p q:PV} {vs:List Value} (h:RVs fz ad [p,q] vs):∃ v x,vs = [v,x]∧RV fz ad p v∧RV fz ad q x:=by
 skip;obtain ⟨v,t,rfl,h1,h2⟩:=h;obtain ⟨x,rfl,h3⟩:=h2.one;exact ⟨v,x,rfl,h1,h3⟩
theorem RVs.three {fz:Led} {ad:List Addr} {p q o:PV} {vs:List Value} (h:RVs fz ad [p,q,o] vs):∃ v x y,vs = [v,x,y]∧RV fz ad p v∧RV fz ad q x∧RV fz ad o y:=by
 skip;obtain ⟨v,t,rfl,h1,h2⟩:=h;obtain ⟨x,y,rfl,h3,h4⟩:=h2.two;exact ⟨v,x,y,rfl,h1,h3,h4⟩
theorem RVs.zero {fz:Led} {ad:List Addr} {vs:List Value} (h:RVs fz ad [] vs):vs = []:=by assumption
theorem fx:∀ {l:List PV},allInts l = true→∀ {i:Nat} {p:PV},l[i]? = some p→∃ k,p = .int k
 | [],_,i,p,e=>by cases i <;> exact no1 e
 | x :: r,h,i,p,e=>by
  induction x using PV.casesOn with
  | int k=>induction i using Nat.casesOn with
   | zero=>refine so1m e ?_;exact ⟨k,rfl⟩
   | succ i=>exact fx (l:=r) h e
  | _=>exact tf2 h
theorem fw:∀ {l:List PV},fM l = true→∀ {i:Nat} {p:PV},l[i]? = some p→∃ k,p = .flt k
 | [],_,i,p,e=>by cases i <;> exact no1 e
 | x :: r,h,i,p,e=>by
  induction x using PV.casesOn with
  | flt k=>induction i using Nat.casesOn with
   | zero=>refine so1m e ?_;exact ⟨k,rfl⟩
   | succ i=>exact fw (l:=r) h e
  | _=>exact tf2 h
theorem RVs.back {fz:Led} {ad:List Addr}:∀ {l:List PV} {vs:List Value},RVs fz ad l vs→∀ {i:Nat} {v:Value},vs[i]? = some v→∃ p,l[i]? = some p∧RV fz ad p v
 | [],_,h,i,v,e=>by skip;subst h;simp at e
 | p :: r,_,h,i,v,e=>by
  skip;obtain ⟨u,t,rfl,h1,h2⟩:=h
  induction i using Nat.casesOn with
  | zero=>simp at e;subst e;exact ⟨p,by simp,h1⟩
  | succ i=>simp at e;refine x12 (RVs.back h2 e) fun q e' h'=>?_;exact ⟨q,by simpa using e',h'⟩
theorem sbt {Q:Bool→Prop} {b:Bool} (h:Q (some b == some true)):Q b:=by
 induction b using Bool.casesOn with
 | true=>exact h
 | false=>exact h
theorem jP {prog:Program} {w:World} {A:Around} {fz:Led} {ad:List Addr} {op:CmpOp} (hop:op = .Gt∨op = .Lt) {l:List PV} {vs:List Value} (ha:(allInts l || fM l) = true) (rs:RVs fz ad l vs) :
  CmpOf prog w A op (fun i v=>vs.toArray[i]? = some v) (fun i j=>eK op (l.getD i .none) (l.getD j .none) == some true):=by
 intro i j vi vj s Q E hi hj hQ
 simp only [List.getElem?_toArray] at hi hj
 refine x12 (rs.back hi) fun p ep hp=>?_
 refine x12 (rs.back hj) fun q eq hq=>?_
 simp only [List.getD_eq_getElem?_getD,ep,eq,Option.getD_some] at hQ
 rcases Bool.or_eq_true_iff.mp ha with h | h
 ·obtain ⟨a,rfl⟩:=fx h ep
  obtain ⟨b,rfl⟩:=fx h eq
  obtain ⟨t,rfl⟩:=RV.i' hp;obtain ⟨u,rfl⟩:=RV.i' hq
  rcases hop with rfl | rfl
  ·exact PyProof.Rows.gt_int (E:=E) (Q:=Q) (sbt (Q:=fun c=>Q (.bool c) s) hQ)
  ·exact PyProof.Rows.lt_int (E:=E) (Q:=Q) (sbt (Q:=fun c=>Q (.bool c) s) hQ)
 ·obtain ⟨a,rfl⟩:=fw h ep
  obtain ⟨b,rfl⟩:=fw h eq
  obtain ⟨t,rfl⟩:=RV.f' hp;obtain ⟨u,rfl⟩:=RV.f' hq
  rcases hop with rfl | rfl
  ·exact AutoFloatOps.gt_0 (E:=E) (Q:=Q) (sbt (Q:=fun c=>Q (.bool c) s) hQ)
  ·exact AutoFloatOps.lt_0 (E:=E) (Q:=Q) (sbt (Q:=fun c=>Q (.bool c) s) hQ)
theorem nz {op:CmpOp} {l:List PV} {p:PV} (e:fV op l = some p):(allInts l || fM l) = true∧l[argBest (fun i j=>eK op (l.getD i .none) (l.getD j .none) == some true) (l.length - 1)]? = some p∧0 < l.length:=by
 refine au (oif e) fun h e=>?_
 exact ⟨h,e,Nat.lt_of_le_of_lt (Nat.zero_le _) (List.getElem?_eq_some_iff.mp e).1⟩
theorem gw {A:Around} {op:CmpOp} (hop:op = .Gt∨op = .Lt) (hh:A.handled = none) {l:List PV} {vs:List Value} {p:PV} (e:fV op l = some p) (rs:aL l vs W) (r:Rep C sc loc μ W s.heap) {Q:Value→Shared→Prop}
  (hQ:∀ a h' tk W',Rep C sc loc μ W' h'→W.le W'→IsV p a W'→Q a { s with heap:=h',toks:=tk }) :
  wpAny (model C.prog C.w) A (pyIter (.ref s.heap.objs.size)) (fun it s₂=>∃ I fp wr n P St bt,it = .ref I∧Walks C.prog C.w A I fp wr n P St∧St 0 s₂.heap∧(∀ b∈fp,b < s₂.heap.objs.size)∧0 < n∧CmpOf C.prog C.w A op P bt ∧
   ∀ v h' tk,P (argBest bt (n - 1)) v→(∀ b o,b ∉ wr→s₂.heap.get? b = some o→h'.get? b = some o)→Q v { s₂ with heap:=h',toks:=tk }) NoE
   { s with heap:=s.heap.push { cls:=.type "tuple",data:=.seq vs.toArray } }:=by
 refine x03 (nz e) fun ha eb hn=>?_
 have hT:(s.heap.push { cls:=.type "tuple",data:=.seq vs.toArray }).IsTuple s.heap.objs.size vs.toArray:=⟨_,Heap.get?_push_size _ rfl,rfl,0,rfl⟩
 refine wpAny_pyIter_tuple hT ?_
 have hsz:(s.heap.push { cls:=.type "tuple",data:=.seq vs.toArray }).objs.size = s.heap.objs.size + 1:=Heap.size_push ..
 refine ⟨_,[_,s.heap.objs.size],[_],_,_,_,_,rfl,Walks.tuple hh _ s.heap.objs.size (by refine rwG hsz ?_;exact Nat.ne_of_lt (Nat.lt_succ_self _)) vs.toArray,
  ⟨⟨_,Heap.get?_push_size _ rfl,rfl,rfl⟩,hT.push _⟩,fun c hc=>?_,by (refine rwG List.size_toArray ?_;refine rwG rs.len ?_);exact hn,jP hop ha rs,fun v h' tk hP hk=>?_⟩
 ·refine (?_:c < ((s.heap.push _).push _).objs.size)
  (refine rwG (Heap.size_push ..) ?_;refine rwG (hsz ..) ?_)
  rcases List.mem_cons.mp hc with rfl | hc
  ·rw [hsz];exact Nat.lt_succ_self _
  ·rcases List.mem_cons.mp hc with rfl | hc
   ·exact Nat.lt_succ_of_lt (Nat.lt_succ_self _)
   ·cases hc
 ·rw [List.size_toArray,rs.len,List.getElem?_toArray] at hP
  refine x12 (rs.back hP) fun q eq hq=>?_
  rw [eb] at eq;(have q1:=so1 eq;subst q1)
  refine hQ v h' tk W (r.same fun c o e=>?_) (Wd.le.refl _) hq
  refine hk c o (fun hm=>?_) (Heap.get?_push_of_some _ (Heap.get?_push_of_some _ e))
  rcases List.mem_cons.mp hm with e1 | hm
  ·have:=Heap.lt_size e;rw [e1,hsz] at this;exact Nat.lt_irrefl _ (Nat.lt_of_succ_lt this)
  ·cases hm
theorem qR {prog:Program} {w:World} {A:Around} {E:Value→Shared→Prop} {a:UInt64} {t:Tok} {Q:Value→Shared→Prop} (h:∀ u tk,Q (.float (Float64.abs a) u) { s with toks:=tk }) :
  wpAny (model prog w) A (call (.builtin "abs") [.float a t]) Q E s:=by
 refine call_function_entry kind_abs plain_abs entry_abs (args_abs _) ?_
 unfold Builtin.«abs»
 refine wpAny_bind (m:=oneArg "abs" _) (wpAny_pure ?_)
 refine wpAny_bind (m:=callSpecial? (.float a t) (Str.ofString "__abs__")) (wpAny_callSpecial?_slot (name:=Str.ofString "__abs__") (typeIs_float s a t) F.slot_float_abs
  (wpAny_call_entry F.slot_float_abs (typeIs_float s a t) F.entry_float_abs ?_ (F.args_float_abs_1 _)))
 refine (?_:wpAny _ _ (mkFloat (Float64.abs a) >>= _) _ _ s)
 have mk:∀ {A:Around} {Q:Value→Shared→Prop} {E:Value→Shared→Prop},Q (.float (Float64.abs a) s.toks) { s with toks:=s.toks + 1 }→wpAny (model prog w) A (mkFloat (Float64.abs a)) Q E s:=fun h _ _ _=>h
 exact wpAny_bind (mk (wpAny_pure ⟨_,rfl,wpAny_pure ⟨_,rfl,h _ _⟩⟩))
theorem se {l:List PV} {p:PV} {v:Value} (e:fV .Gt l = some p) (hv:IsV (.lst l) v W) (r:Rep C sc loc μ W s.heap) (hh:C.A.handled = none):Giv C sc loc W s (call (.builtin "max") [v]) (IsV p) μ:=by
 obtain ⟨a,vs,n,rfl,m,rl⟩:=RV.l' hv
 refine x03 (nz e) fun ha eb hn=>?_
 have hl:s.heap.IsList a vs.toArray:=⟨_,r.fzs _ m,rfl,n,rfl⟩
 have hax:a < s.heap.objs.size:=aJ (r.fzs _ m)
 intro Q hQ
 refine call_max_walk (wpAny_pyIter_list hl ?_)
 refine ⟨_,[s.heap.objs.size,a],[s.heap.objs.size],_,_,_,_,rfl,Walks.list (A:=C.A.in1) hh s.heap.objs.size a (Nat.ne_of_lt hax) vs.toArray,⟨⟨_,Heap.get?_push_size _ rfl,rfl,rfl⟩,hl.push _⟩,fun c hc=>?_,by (refine rwG List.size_toArray ?_;refine rwG rl.len ?_);exact hn,jP (.inl rfl) ha rl,fun v h' tk hP hk=>?_⟩
 ·refine (?_:c < (s.heap.push _).objs.size)
  refine rwG (Heap.size_push ..) ?_
  rcases List.mem_cons.mp hc with rfl | hc
  ·exact Nat.lt_succ_self _
  ·refine rwG (List.mem_singleton.mp hc) ?_;exact Nat.lt_succ_of_lt hax
 ·rw [List.size_toArray,rl.len,List.getElem?_toArray] at hP
  refine x12 (rl.back hP) fun q eq hq=>?_
  rw [eb] at eq;(have q1:=so1 eq;subst q1)
  refine hQ v h' tk W (r.same fun c o e=>hk c o (fun hm=>?_) (Heap.get?_push_of_some _ e)) (Wd.le.refl _) hq
  have:=Heap.lt_size e;rw [List.mem_singleton.mp hm] at this;exact Nat.lt_irrefl _ this
theorem sX {a:PV} {i:Int} (e:asI a = some i):a = .int i:=by
 induction a using PV.casesOn with
 | int j=>refine so1m e ?_;rfl
 | _=>exact no1 e
theorem uC {a:PV} {i:Str} (e:asS a = some i):a = .str i:=by
 induction a using PV.casesOn with
 | str j=>refine so1m e ?_;rfl
 | _=>exact no1 e
theorem tG {a:PV} {i:List PV} (e:asL a = some i):a = .lst i:=by
 induction a using PV.casesOn with
 | lst j=>refine so1m e ?_;rfl
 | _=>exact no1 e
theorem bI {α:Type} {a:PV} {f:Int→Option α} {p:α} (e:(asI a).bind f = some p):∃ i,a = .int i∧f i = some p:=by
 refine d6 e fun i h e=>?_
 exact ⟨i,sX h,e⟩
theorem bS {α:Type} {a:PV} {f:Str→Option α} {p:α} (e:(asS a).bind f = some p):∃ i,a = .str i∧f i = some p:=by
 refine d6 e fun i h e=>?_
 exact ⟨i,uC h,e⟩
theorem bL {α:Type} {a:PV} {f:List PV→Option α} {p:α} (e:(asL a).bind f = some p):∃ i,a = .lst i∧f i = some p:=by
 refine d6 e fun i h e=>?_
 exact ⟨i,tG h,e⟩
theorem vX {a p:PV} {v:Value} (e:zf a = some p) (hv:IsV a v W) (r:Rep C sc loc μ W s.heap):Giv C sc loc W s (call (.builtin "abs") [v]) (IsV p) μ:=by
 induction a using PV.casesOn with
 | int i =>
  obtain ⟨t,rfl⟩:=RV.i' hv
  refine so1m e ?_
  exact fun Q hQ=>call_abs_int fun u tk=>hQ _ s.heap tk W r (Wd.le.refl _) (RV.i _ _)
 | flt i =>
  obtain ⟨t,rfl⟩:=RV.f' hv
  refine so1m e ?_
  exact fun Q hQ=>qR fun u tk=>hQ _ s.heap tk W r (Wd.le.refl _) (RV.f _ _)
 | _=>exact no1 e
theorem w6 {a p:PV} {v:Value} (e:qB a = some p) (hv:IsV a v W) (r:Rep C sc loc μ W s.heap):Giv C sc loc W s (call (.builtin "len") [v]) (IsV p) μ:=by
 induction a using PV.casesOn with
 | lst l =>
  obtain ⟨a,vs,n,rfl,m,rl⟩:=RV.l' hv
  refine au (oif e) fun hc e=>?_
  refine so1m e ?_
  exact fun Q hQ=>len_list ⟨_,r.fzs _ m,rfl,n,rfl⟩ (by (refine rwG List.size_toArray ?_;refine rwG rl.len ?_);exact hX hc) (by (refine rwG List.size_toArray ?_;refine rwG rl.len ?_);exact hQ _ s.heap _ W r (Wd.le.refl _) (RV.i _ _))
 | str x =>
  obtain ⟨t,rfl⟩:=RV.x' hv
  refine au (oif e) fun hc e=>?_
  refine so1m e ?_
  exact fun Q hQ=>PyProof.Rows.len_str (Int.not_le.mpr (hX hc)) (hQ _ s.heap _ W r (Wd.le.refl _) (RV.i _ _))
 | _=>exact no1 e
theorem intsAre_of:∀ {l:List PV} {ns:List Int} {vs:List Value},intsOf l = some ns→aL l vs W→IntsAre vs ns
 | [],ns,vs,e,rs=>by
  refine so1m e ?_
  obtain rfl:vs = []:=rs
  exact .nil
 | p :: l,ns,vs,e,rs=>by
  obtain ⟨v,us,rfl,h1,h2⟩:=rs
  induction p using PV.casesOn with
  | int i =>
   obtain ⟨ms,e',rfl⟩:=Option.map_eq_some_iff.mp e
   obtain ⟨t,rfl⟩:=RV.i' h1
   exact .cons i t (intsAre_of e' h2)
  | _=>exact no1 e
theorem zl {l:List PV} {ns:List Int} {v:Value} (e:intsOf l = some ns) (hv:IsV (.lst l) v W) (r:Rep C sc loc μ W s.heap) (hh:C.A.handled = none):Giv C sc loc W s (call (.builtin "sum") [v]) (IsV (.int ns.sum)) μ:=by
 obtain ⟨ad,vs,n,rfl,m,rs⟩:=RV.l' hv
 intro Q hQ
 refine x12 r.fr fun mm F N=>?_
 exact PyProof.Rows.LSm.sum_ints F N hh ⟨_,r.fzs _ m,rfl,n,rfl⟩ (intsAre_of e rs) fun h' tk t' F' N'=>hQ _ h' tk W (r.l9 F.ns F'.ns fun b o hb e=>(N' _ (eN hb e)).1) (Wd.le.refl _) (RV.i _ _)
theorem wO {n:BI} {a p:PV} {v:Value} (e:xh n a = some p) (hv:IsV a v W) (r:Rep C sc loc μ W s.heap) (hh:C.A.handled = none):Giv C sc loc W s (call (.builtin n.str) [v]) (IsV p) μ:=by
 induction n using BI.casesOn with
 | abs=>exact vX e hv r
 | chr =>
  obtain ⟨i,rfl,e⟩:=bI e
  obtain ⟨t,rfl⟩:=RV.i' hv
  refine au (oif e) fun hc e=>?_
  refine so1m e ?_
  exact fun Q hQ=>chr_of_range hc.1 hc.2 (hQ _ s.heap _ W r (Wd.le.refl _) (RV.x _ _))
 | ord =>
  obtain ⟨x,rfl,e⟩:=bS e
  obtain ⟨t,rfl⟩:=RV.x' hv
  refine au (oif e) fun hc e=>?_
  refine so1m e ?_
  exact fun Q hQ=>ord_of_one hc (hQ _ s.heap _ W r (Wd.le.refl _) (RV.i _ _))
 | len=>exact w6 e hv r
 | hex =>
  obtain ⟨i,rfl,e⟩:=bI e
  obtain ⟨t,rfl⟩:=RV.i' hv
  refine au (oif e) fun hc e=>?_
  refine so1m e ?_
  exact fun Q hQ=>P.hex_of_int (hQ _ s.heap _ W r (Wd.le.refl _) (RV.x _ _)) (Nat.le_trans hc bB)
 | max =>
  obtain ⟨l,rfl,e⟩:=bL e
  exact se (oif e).2 hv r hh
 | sum =>
  obtain ⟨l,rfl,e⟩:=bL e
  obtain ⟨ns,e',rfl⟩:=Option.map_eq_some_iff.mp (oif e).2
  exact zl e' hv r hh
 | _=>exact no1 e
theorem wU {n:BI} {a b p:PV} {v x:Value} (e:yh n a b = some p) (hv:IsV a v W) (hx:IsV b x W) (r:Rep C sc loc μ W s.heap) (hh:C.A.handled = none)
  (tq:∀ fz fz' T,(∀ p∈fz,p∈fz')→C.TQ fz T→C.TQ fz' T):Giv C sc loc W s (call (.builtin n.str) [v,x]) (IsV p) μ:=by
 induction n using BI.casesOn with
 | divmod =>
  obtain ⟨i,rfl,e⟩:=bI e
  obtain ⟨j,rfl,e⟩:=bI e
  obtain ⟨t,rfl⟩:=RV.i' hv
  obtain ⟨u,rfl⟩:=RV.i' hx
  refine au (oif e) fun hc e=>?_
  refine so1m e ?_
  intro Q hQ
  refine x12 r.fr fun m F N=>?_
  exact divmod_N F N (Int.ne_of_gt hc.1) (fun h' F' N'=>hQ _ h' _ _ (r.xM F.ns F' N' (bf _) tq) (Wd.le.fro W _) (RV.t (vs:=[_,_]) (.head _) (RVs.cons (RV.i _ _) (RVs.cons (RV.i _ _) RVs.nil)))) (Or.inl (PyProof.noPylong_small hc.2))
 | min=>exact fun Q hQ=>call_min_two (gw (A:=C.A.in1) (.inr rfl) hh e (RVs.cons hv (RVs.cons hx RVs.nil)) r hQ)
 | _=>exact no1 e
theorem wR {n:BI} {args:List PV} {p:PV} {vals:List Value} (e:gN n args = some p) (rs:aL args vals W) (r:Rep C sc loc μ W s.heap) (hh:C.A.handled = none)
  (tq:∀ fz fz' T,(∀ p∈fz,p∈fz')→C.TQ fz T→C.TQ fz' T):Giv C sc loc W s (call (.builtin n.str) vals) (IsV p) μ:=by
 rcases args with _ | ⟨a,_ | ⟨b,_ | ⟨c,_ | ⟨_,_⟩⟩⟩⟩
 ·exact no1 e
 ·obtain ⟨v,rfl,hv⟩:=rs.one
  exact wO e hv r hh
 ·obtain ⟨v,x,rfl,hv,hx⟩:=rs.two
  exact wU e hv hx r hh tq
 ·obtain ⟨v,x,y,rfl,hv,hx,hy⟩:=rs.three
  induction n using BI.casesOn with
  | max=>exact fun Q hQ=>call_max_three (gw (A:=C.A.in1) (.inl rfl) hh e rs r hQ)
  | min=>exact fun Q hQ=>call_min_three (gw (A:=C.A.in1) (.inr rfl) hh e rs r hQ)
  | _=>exact no1 e
 ·exact no1 e
theorem vG {n:TY} {args:List PV} {p:PV} {vals:List Value} (e:yU n args = some p) (rs:aL args vals W) (r:Rep C sc loc μ W s.heap):Giv C sc loc W s (call (.type n.str) vals) (IsV p) μ:=by
 induction n using TY.casesOn with
 | int =>
  rcases args with _ | ⟨a,_ | ⟨_,_⟩⟩
  ·exact no1 e
  ·obtain ⟨v,rfl,hv⟩:=rs.one
   clear rs
   induction a using PV.casesOn with
   | bool b =>
    obtain rfl:=RV.b' hv
    refine so1m e ?_
    exact fun Q hQ=>call_int_bool (hQ _ s.heap _ W r (Wd.le.refl _) (RV.i _ _))
   | flt u =>
    obtain ⟨t,rfl⟩:=RV.f' hv
    have e:(match Float64.decode u with | .fin sg m e=>some (PV.int (Float64.truncOf sg m e)) | _=>none) = some p:=e
    cases hd:Float64.decode u with
    | fin sg m ex =>
     rw [hd] at e
     refine so1m e ?_
     exact fun Q hQ=>call_int_float hd (hQ _ s.heap _ W r (Wd.le.refl _) (RV.i _ _))
    | _=>rw [hd] at e;exact no1 e
   | _=>exact no1 e
  ·exact no1 e
 | _=>exact no1 e
end
end Mine
end
section
namespace Mine
open PySem PySem.W PySem.Spec PySem.Calls PyProof.Rows
section
variable {C:Ctx} {sc:Sc} {loc loc' loc'':Loc} {μ μ' μ'':Mem} {W W':Wd} {s:Shared} {α β:Type} {k:Nat}
theorem Good.cellAt (g:Good C sc k) {i:Nat} {kd:NameKind} (h:lk sc.names i = some kd) (hk:kd = .cell∨kd = .free):C.env.kindOf (C.nm i) = some .cell∨C.env.kindOf (C.nm i) = some .free:=by
 rcases g.names i kd h with e | ⟨_,e⟩
 ·rcases hk with rfl | rfl
  ·exact .inl e
  ·exact .inr e
 ·exact .inl e
theorem Good.mf (g:Good C sc k) {i:Nat} {kd:NameKind} (h:lk sc.names i = some kd) (hk:kd ≠ .free):C.env.kindOf (C.nm i) = some kd:=by
 rcases g.names i kd h with h | ⟨h,_⟩
 ·exact h
 ·exact absurd h hk
theorem iJ {i:Nat} {p:PV} (e:a8 C.cfg sc loc i μ = some (p,μ')) (g:Good C sc k) (r:Rep C sc loc μ W s.heap):Giv C sc loc W s (loadName C.env (C.nm i)) (IsV p) μ':=by
 delta a8 at e
 have cellCase:∀ kd,lk sc.names i = some kd→(kd = .cell∨kd = .free)→(match lk sc.cells i with
   | some id=>M.bnd (M.get id) fun o=>match o with
    | .cell (some v)=>M.ret v
    | _=>M.no
   | none=>M.no) μ = some (p,μ')→Giv C sc loc W s (loadName C.env (C.nm i)) (IsV p) μ':=by
  intro kd hn hk e
  cases hc:lk sc.cells i with
  | none=>rw [hc] at e;exact no1 e
  | some id =>
   rw [hc] at e
   refine cw e fun o e2 e=>?_
   induction o using MO.casesOn with
   | cell ov =>
    induction ov using Option.casesOn with
    | none=>exact no1 e
    | some v =>
     obtain ⟨rfl,rfl⟩:=ai e
     refine x12 (r.cells i id hc) fun a ha had=>?_
     refine x24 (r.cell e2 had) fun ob ov _ hd hg hv=>?_
     obtain ⟨x,rfl,hx⟩:=hv _ rfl
     intro Q hQ
     have fin:=hQ x s.heap s.toks W r (Wd.le.refl _) hx
     rcases g.cellAt hn hk with hc' | hc'
     ·exact wpAny_loadName_cell g.kind hc' ha ⟨ob,hg,hd⟩ fin
     ·exact wpAny_loadName_free g.kind hc' ha ⟨ob,hg,hd⟩ fin (g.cld i)
   | _=>exact no1 e
 cases hn:lk sc.names i with
 | none=>rw [hn] at e;exact no1 e
 | some kd =>
  rw [hn] at e
  induction kd using PySem.NameKind.casesOn with
  | «local» =>
   refine cj e fun e1=>?_
   refine x12 r.ns fun m hm hl=>?_
   refine x12 (hl i p e1) fun v hv hx=>?_
   have hk:C.env.kindOf (C.nm i) = some .local:=g.mf hn nofun
   exact fun Q hQ=>wpAny_loadName_local g.kind hk hm hv (hQ v s.heap s.toks W r (Wd.le.refl _) hx)
  | cell=>exact cellCase _ hn (.inl rfl) e
  | free=>exact cellCase _ hn (.inr rfl) e
  | globalImplicit =>
   refine cj e fun e1=>?_
   refine x12 (g.glob i p e1) fun v hv hx=>?_
   have hk:C.env.kindOf (C.nm i) = some .globalImplicit:=g.mf hn nofun
   intro Q hQ
   have fin:=hQ v s.heap s.toks W r (Wd.le.refl _) (RV.mono r.kf (Pre.refl _) (hx _))
   have hg:s.heap.Ns C.env.globals C.mg:=by refine rwG g.glb ?_;exact g.g.keeps r.keep
   have hb:s.heap.Ns C.env.builtins C.mb:=by refine rwG g.blt ?_;exact g.b.keeps r.keep
   refine rwG (loadName_read g.kind hk) ?_
   rcases hv with h | ⟨h1,h2⟩
   ·exact loadGlobal_global hg h fin
   ·exact loadGlobal_builtin hg h1 hb h2 fin
  | globalExplicit=>exact no1 e
theorem ik {i:Nat} {pos:Pos} {p:PV} (e:a8 C.cfg sc loc i μ = some (p,μ')) (g:Good C sc k) (r:Rep C sc loc μ W s.heap):Giv C sc loc W s (eval (.Name (C.nm i) pos) C.env) (IsV p) μ' :=
 fun Q hQ=>wpAny_Name (iJ e g r Q hQ) (g.dbg i)
theorem uI (g:Good C sc k):(C.env.scope.kind == .class || (C.env.scope.kind == .module && C.env.locals != C.env.globals)) = false:=by refine rwG g.kind ?_;rfl
theorem nt {i:Nat} {p:PV} {v:Value} (e:cS sc loc i p μ = some (loc',μ')) (g:Good C sc k) (r:Rep C sc loc μ W s.heap) (hv:IsV p v W):Giv C sc loc' W s (storeName C.env (C.nm i) v) (fun _ _=>True) μ':=by
 delta cS at e
 cases hn:lk sc.names i with
 | none=>rw [hn] at e;exact no1 e
 | some kd =>
  rw [hn] at e
  induction kd using PySem.NameKind.casesOn with
  | «local» =>
   obtain ⟨rfl,rfl⟩:=ai e
   have hk:C.env.kindOf (C.nm i) = some .local:=g.mf hn nofun
   refine x12 r.ns fun m hm _=>?_
   exact fun Q hQ=>wpAny_storeName_local hk hm (fun h' hn' hs'=>hQ () h' _ W (r.put g.inj hv hm hn' hs') (Wd.le.refl _) trivial) (uI g)
  | cell =>
   cases hc:lk sc.cells i with
   | none=>rw [hc] at e;exact no1 e
   | some id =>
    rw [hc] at e
    dsimp only at e
    cases hml:jo sc id p with
    | false=>rw [hml] at e;exact (bF (show (M.no:M Loc) μ = some (loc',μ') from e)).elim
    | true =>
     rw [hml,if_pos rfl] at e
     refine cw e fun o e2 e=>?_
     induction o using MO.casesOn with
     | cell ov' =>
      refine ag e fun u μ₂ e3 e=>?_
      obtain rfl:=iT e3
      obtain ⟨rfl,rfl⟩:=ai e
      have hk:C.env.kindOf (C.nm i) = some .cell:=g.mf hn nofun
      refine x12 (r.cells i id hc) fun a ha had=>?_
      refine x24 (r.cell e2 had) fun ob ov hi hd hg _=>?_
      intro Q hQ
      refine wpAny_storeName_cell g.kind hk ha ⟨ob,hg,hd⟩ fun h' ⟨o',ho',hd'⟩ hs'=>?_
      have r':=r.upd (l':=[(a,o')]) (x:=.cell (some p)) hi rfl (fun q hq=>by
       rcases List.mem_cons.mp hq with rfl | hq
       ·exact ho'
       ·cases hq) (fun b ob' hb eb=>hs'.extBut b ob' (fun q=>hb (by refine rwG q ?_;exact List.mem_singleton.mpr rfl)) eb) ⟨a,o',v,rfl,hd',hv⟩
      exact hQ () h' _ _ r' (Wd.le.upd hi rfl) trivial
     | _=>exact no1 e
  | _=>exact no1 e
theorem pE {i:Nat} {p:PV} {v:Value} (e:cS sc loc i p μ = some (loc',μ')) (g:Good C sc k) (r:Rep C sc loc μ W s.heap) (hv:IsV p v W):Giv C sc loc' W s (bindName C.env (C.nm i) v) (fun _ _=>True) μ' :=
 fun Q hQ=>wpAny_bindName (nt e g r hv Q hQ)
theorem fy (g:Good C sc k) (f:Nat × Pos→Value→Sem Unit) (hf:∀ x v (Q:Unit→Shared→Prop) (s:Shared),wpAny (model C.prog C.w) C.A (bindName C.env (C.nm x.1) v) Q NoE s→wpAny (model C.prog C.w) C.A (f x v) Q NoE s) :
  ∀ {l:List (Nat × Pos)} {ps:List PV} {vs:List Value} {loc loc':Loc} {μ μ':Mem} {W:Wd} {s:Shared},storeAll sc l ps loc μ = some (loc',μ')→Rep C sc loc μ W s.heap→aL ps vs W →
   Giv C sc loc' W s (assignInOrder (l.map f) vs) (fun _ _=>True) μ'
 | [],[],vs,loc,loc',μ,μ',W,s,e,r,hv=>by
  obtain ⟨rfl,rfl⟩:=ai e
  obtain rfl:=RVs.zero hv
  exact Giv.done r trivial
 | (i,pos) :: l,p :: ps,vs,loc,loc',μ,μ',W,s,e,r,hv=>by
  refine ag e fun loc₁ μ₁ e1 e=>?_
  skip
  obtain ⟨v,t,rfl,h1,h2⟩:=hv
  refine (?_:Giv C sc loc' W s (holding t (f (i,pos) v) >>= fun _=>assignInOrder (l.map f) t) _ _)
  refine Giv.bind (loc:=loc₁) (Giv.hold (fun Q hQ=>hf _ _ _ _ (pE e1 g r h1 Q hQ))) fun _ h' tk W' r' l' _=>?_
  exact fy g f hf (s:={ s with heap:=h',toks:=tk }) e r' (h2.le l')
 | [],_ :: _,_,_,_,_,_,_,_,e,_,_=>no1 e
 | _ :: _,[],_,_,_,_,_,_,_,e,_,_=>no1 e
theorem eT (env:Env) (nm:Nat→Str):∀ l:List (Nat × Pos),assignEach (l.map fun x=>PySem.Expr.Name (nm x.1) x.2) env = l.map fun x=>(false,assign (.Name (nm x.1) x.2) env)
 | []=>rfl
 | x :: r=>by
  refine (?_:(false,assign (.Name (nm x.1) x.2) env) :: assignEach (r.map fun x=>PySem.Expr.Name (nm x.1) x.2) env = _)
  refine rwG (eT env nm r) ?_;rfl
theorem lV {γ:Type} (l:List γ) (f:γ→(Value→Sem Unit)):(l.map fun x=>(false,f x)).findIdx? (·.1) = none:=by
 rw [List.findIdx?_eq_none_iff]
 intro x hx
 obtain ⟨y,_,rfl⟩:=List.mem_map.mp hx
 rfl
theorem nf {l:List (Nat × Pos)} {p:PV} {ps:List PV} {v:Value} (e:dy l p = some ps) (g:Good C sc k) (r:Rep C sc loc μ W s.heap) (hv:IsV p v W) :
  ps.length = l.length∧Giv C sc loc W s (unpackItems v l.length none) (aL ps) μ:=by
 delta dy at e
 have fresh:∀ h',Heap.ExtBut s.heap.objs.size s.heap h'→Rep C sc loc μ W h':=fun h' hx=>r.same fun b o e=>hx b o (Nat.ne_of_lt (aJ e)) e
 split at e
 ·split at e
  ·rename_i hl
   refine so1m e ?_
   obtain ⟨a,o,vs,n,rfl,m,hc,hd,rs⟩:=RV.t' hv
   refine ⟨hl,fun Q hQ=>?_⟩
   have hsz:l.length = vs.toArray.size:=by (refine rwG List.size_toArray ?_;refine rwG rs.len ?_;refine rwG hl rfl)
   refine rwG hsz ?_
   exact wpAny_unpackItems_tuple g.hnd ⟨o,r.fzs _ m,hc,n,hd⟩ fun h' hx=>hQ _ h' _ W (fresh h' hx) (Wd.le.refl _) rs
  ·exact no1 e
 ·split at e
  ·rename_i hl
   refine so1m e ?_
   obtain ⟨a,vs,n,rfl,m,rs⟩:=RV.l' hv
   refine ⟨hl,fun Q hQ=>?_⟩
   have hsz:l.length = vs.toArray.size:=by (refine rwG List.size_toArray ?_;refine rwG rs.len ?_;refine rwG hl rfl)
   refine rwG hsz ?_
   exact kun_itemsOf g.hnd ⟨_,r.fzs _ m,rfl,n,rfl⟩ fun h' hx=>hQ _ h' _ W (fresh h' hx) (Wd.le.refl _) rs
  ·exact no1 e
 ·exact no1 e
theorem CT.o9 (nm:Nat→Str) (l:List (Nat × Pos)) (k:Nat) (p:Pos):(CT.tup l k p).toE nm = .Tuple (l.map fun x=>.Name (nm x.1) x.2) k p:=rfl
theorem CT.td (nm:Nat→Str) (i:Nat) (p:Pos):(CT.name i p).toE nm = .Name (nm i) p:=rfl
noncomputable def gp (C:Ctx) (x:Nat × Pos):Value→Sem Unit:=assign (.Name (C.nm x.1) x.2) C.env
theorem qZ (C:Ctx):∀ (x:Nat × Pos) (v:Value) (Q:Unit→Shared→Prop) (s:Shared),wpAny (model C.prog C.w) C.A (bindName C.env (C.nm x.1) v) Q NoE s→wpAny (model C.prog C.w) C.A (gp C x v) Q NoE s:=fun x v Q s h=>by
 skip
 skip
 exact wpAny_bind (wpAny_standAt h)
theorem ib {t:CT} {p:PV} {v:Value} (e:cB sc loc t p μ = some (loc',μ')) (g:Good C sc k) (r:Rep C sc loc μ W s.heap) (hv:IsV p v W):Giv C sc loc' W s (assign (t.toE C.nm) C.env v) (fun _ _=>True) μ':=by
 induction t using CT.casesOn with
 | name i pos =>
  rw [CT.td]
  exact fun Q hQ=>wpAny_assign_Name (nt e g r hv Q hQ)
 | tup l kk pos =>
  refine mA e fun ps e2 e=>?_
  obtain ⟨hl,hi⟩:=nf e2 g r hv
  skip
  refine Giv.skip (μ:=μ') ?_
  delta unpack
  (refine rwG (eT ..) ?_;refine rwG (List.length_map ..) ?_;refine rwG (lV ..) ?_)
  have hb:=Giv.hold (vs:=[v]) hi
  refine Giv.bind hb fun vs h' tk W' r' l' hvs=>?_
  have e3:(List.map (fun x:Nat × Pos=>(false,assign (.Name (C.nm x.1) x.2) C.env)) l).map (·.2) = l.map (gp C):=by refine rwG List.map_map ?_;rfl
  rw [e3]
  exact fy g (gp C) (qZ C) (s:={ s with heap:=h',toks:=tk }) e r' hvs
end
end Mine
end
section
namespace Mine
open PySem PySem.W PySem.Spec PySem.Calls PyProof.Rows
noncomputable def cb (f:Fl) (g:Flow) (W:Wd):Prop:=match f with
 | .next=>g = .next
 | .brk=>g = .brk
 | .cont=>g = .cont
 | .ret p=>∃ v,g = .ret v∧IsV p v W
structure OkR (C:Ctx) (sc:Sc) (r:R):Prop where
 ev:∀ {e:CE} {loc:Loc} {μ μ':Mem} {p:PV} {W:Wd} {s:Shared},r.ev sc loc e μ = some (p,μ')→Rep C sc loc μ W s.heap→Giv C sc loc W s (eval (e.toE C.nm) C.env) (IsV p) μ'
 ec:∀ {elt:CE} {tg:CT} {it:CE} {fs:List CE} {cs:CSc} {pos:Pos} {loc loc':Loc} {μ μ' μ'':Mem} {p:PV} {W:Wd} {s:Shared} {u:Value→Sem Unit},r.ev sc loc (.comp elt tg it fs cs pos) μ = some (p,μ')→Rep C sc loc μ W s.heap →
  (∀ v W' (s':Shared),IsV p v W'→Rep C sc loc μ' W' s'.heap→Giv C sc loc' W' s' (u v) (fun _ _=>True) μ'')→Giv C sc loc' W s (evalThenUse ((CE.comp elt tg it fs cs pos).toE C.nm) C.env u) (fun _ _=>True) μ''
 ts:∀ {e:CE} {loc:Loc} {μ μ':Mem} {b:Bool} {W:Wd} {s:Shared},r.ts sc loc e μ = some (b,μ')→Rep C sc loc μ W s.heap→Giv C sc loc W s (isTrue (e.toE C.nm) C.env (eval (e.toE C.nm) C.env)) (fun c _=>c = b) μ'
 ex:∀ {t:CS} {loc loc':Loc} {μ μ':Mem} {f:Fl} {W:Wd} {s:Shared},r.ex sc loc t μ = some ((f,loc'),μ')→Rep C sc loc μ W s.heap→Giv C sc loc' W s (exec (t.toS C.nm) C.env) (cb f) μ'
 cl:∀ {f:PV} {args:List PV} {loc:Loc} {μ μ':Mem} {p:PV} {W:Wd} {s:Shared} {fv:Value} {vs:List Value},r.cl f args μ = some (p,μ')→IsV f fv W→aL args vs W→Rep C sc loc μ W s.heap→Giv C sc loc W s (call fv vs) (IsV p) μ'
 fn:∀ {a:Nat} {args:List PV} {μ:Mem} {x:PV × Mem},r.cl (.fn a) args μ = some x→(lk C.cfg.prims a).isSome = true∨(lk C.cfg.fns a).isSome = true
 kd:∀ {f:PV} {args:List PV} {μ:Mem} {x:PV × Mem},r.cl f args μ = some x→(∃ a,f = .fn a)∨(∃ n,f = .bi n)∨∃ n,f = .ty n
section
variable {C:Ctx} {sc:Sc} {loc loc' loc'':Loc} {μ μ' μ'':Mem} {W W':Wd} {s:Shared} {α β:Type} {k:Nat} {r:R}
noncomputable def fX (C:Ctx) (es:List CE):List (Bool × Sem Value):=es.map fun e=>(false,eval (e.toE C.nm) C.env)
theorem om (nm:Nat→Str) (env:Env) (e:CE) (rest:List PySem.Expr):starEach (e.toE nm :: rest) env = (false,eval (e.toE nm) env) :: starEach rest env:=by
 cases e <;> rfl
theorem bq (C:Ctx) (pos:Pos):∀ es:List CE,backTo pos (starEach (CE.aC C.nm es) C.env) = fX C es
 | []=>rfl
 | e :: es=>by
  rw [show CE.aC C.nm (e :: es) = e.toE C.nm :: CE.aC C.nm es from rfl,om]
  refine (?_:(false,eval (e.toE C.nm) C.env) :: backTo pos (starEach (CE.aC C.nm es) C.env) = _)
  refine rwG (bq C pos es) ?_;rfl
theorem ed (C:Ctx):∀ es:List CE,(fX C es).any (·.1) = false
 | []=>rfl
 | e :: es=>by refine (?_:(false || (fX C es).any (·.1)) = false);refine rwG (ed C es) ?_;rfl
theorem jJ (I:OkR C sc r):∀ {es:List CE} {μ μ':Mem} {ps:List PV} {W:Wd} {s:Shared},evL r sc loc es μ = some (ps,μ')→Rep C sc loc μ W s.heap→Giv C sc loc W s (spliced (fX C es)) (aL ps) μ'
 | [],μ,μ',ps,W,s,e,q=>by
  obtain ⟨rfl,rfl⟩:=ai e
  exact fun Q hQ=>spliced_nil (hQ _ s.heap s.toks W q (Wd.le.refl _) RVs.nil)
 | x :: es,μ,μ',ps,W,s,e,q=>by
  refine ag e fun v μ₁ e1 e=>?_
  refine ag e fun vs μ₂ e2 e=>?_
  obtain ⟨rfl,rfl⟩:=ai e
  exact fun Q hQ=>spliced_cons (I.ev e1 q _ fun a h' tk W' q' l' ha=>jJ I (s:={ s with heap:=h',toks:=tk }) e2 q' _ fun as h'' tk' W'' q'' l'' has =>
   hQ _ h'' tk' W'' q'' (l'.trans l'') (RVs.cons (ha.le l'') has))
theorem dK (I:OkR C sc r) {f:Value} {es:List CE} {ps:List PV} (e:evL r sc loc es μ = some (ps,μ')) (q:Rep C sc loc μ W s.heap) {Q:Args→Shared→Prop}
  (hQ:∀ as h' tk W',Rep C sc loc μ' W' h'→W.le W'→aL ps as W'→Q ⟨as,[]⟩ { s with heap:=h',toks:=tk }):wpAny (model C.prog C.w) C.A (evalArgs f true (fX C es) []) Q NoE s:=by
 induction es using List.casesOn with
 | nil =>
  obtain ⟨rfl,rfl⟩:=ai e
  exact PySem.evalArgs_none (hQ _ s.heap s.toks W q (Wd.le.refl _) RVs.nil)
 | cons x es=>exact evalArgs_plain (jJ I (es:=x :: es) e q _ hQ)
theorem kZ (I:OkR C sc r) {n:String} {pos:Pos} {first:List Value} {es:List CE} {ps:List PV} (e:evL r sc loc es μ = some (ps,μ')) (q:Rep C sc loc μ W s.heap) {Q:Value→Shared→Prop}
  (hQ:∀ as h' tk W',Rep C sc loc μ' W' h'→W.le W'→aL ps as W'→wpAny (model C.prog C.w) C.A (call (.builtin n) (first ++ as)) Q NoE { s with heap:=h',toks:=tk }) :
  wpAny (model C.prog C.w) C.A (callWith pos (.builtin n) first (fX C es) []) Q NoE s :=
 callWith_builtin (ed C es) (dK I e q hQ)
theorem tV (g:Good C sc k) (I:OkR C sc r) {f p:PV} {fv:Value} {pos:Pos} {es:List CE} {ps:List PV} (e:evL r sc loc es μ = some (ps,μ')) (e2:r.cl f ps μ' = some (p,μ'')) (hf:IsV f fv W) (q:Rep C sc loc μ W s.heap) :
  Giv C sc loc W s (callWith pos fv [] (fX C es) []) (IsV p) μ'':=by
 intro Q hQ
 have fin:∀ as h' tk W',Rep C sc loc μ' W' h'→W.le W'→aL ps as W'→wpAny (model C.prog C.w) C.A (call fv as) Q NoE { s with heap:=h',toks:=tk }:=fun as h' tk W' q' l' has =>
  I.cl (s:={ s with heap:=h',toks:=tk }) e2 (hf.le l') has q' Q fun a h'' tk' W'' q'' l'' ha=>hQ a h'' tk' W'' q'' (l'.trans l'') ha
 rcases I.kd e2 with ⟨a,rfl⟩ | ⟨n,rfl⟩ | ⟨n,rfl⟩
 ·skip
  subst hf
  refine x22 (g.base.fnD a (I.fn e2)) fun o fd ho hd=>?_
  exact callWith_function (dK I e q fun as h' tk W' q' l' has=>⟨⟨q'.keep _ _ (g.hb _ _ ho),hd⟩,fin as h' tk W' q' l' has⟩)
 ·skip
  subst hf
  exact kZ I e q fin
 ·skip
  subst hf
  exact PySem.callWith_type (ed C es) (dK I e q fin)
theorem tm (g:Good C sc k) (I:OkR C sc r) {p:PV} {a:Nat} {fv:Value} {pos sp:Pos} {arg:CE} {l:List PV} (e:r.ev sc loc arg μ = some (.lst l,μ')) (hl:l.length ≤ ah) (e2:r.cl (.fn a) l μ' = some (p,μ'')) (hf:IsV (.fn a) fv W) (q:Rep C sc loc μ W s.heap) :
  Giv C sc loc W s (callWith pos fv [] (backTo pos (starEach [.Starred (arg.toE C.nm) sp] C.env)) []) (IsV p) μ'':=by
 skip
 subst hf
 intro Q hQ
 refine x22 (g.base.fnD a (I.fn e2)) fun o fd ho hd=>?_
 skip
 refine ks_call (P:=fun h=>h.get? a = some o) rfl (fun h hh=>⟨.frame,.inl rfl,fun A Q E s kp q=>?_⟩) (ks_lone (I.ev e q _ fun v h' tk W' q' l' hv=>?_))
 ·skip
  exact wpAny_bind (wpAny_load (kp _ _ hh) (by refine rwG hd ?_;exact wpAny_pure q))
 ·obtain ⟨b,vs,n,rfl,m,rs⟩:=RV.l' hv
  refine x12 q'.fr fun mm F N=>?_
  have hb:h'.get? b = some { cls:=.type "list",data:=.seq vs.toArray n }:=q'.fzs _ m
  refine star_seq (o:={ cls:=.type "list",data:=.seq vs.toArray n }) (s:={ s with heap:=h',toks:=tk }) F N (eN (fun e=>q'.fzo _ m (e ▸ .head _)) hb) rfl rfl (.inl rfl) rfl (by (refine rwG List.size_toArray ?_;refine rwG rs.len ?_);exact Nat.le_trans hl bB) fun h'' F' N'=>?_
  have hk:∀ b' o',b' ≠ C.env.locals→h'.get? b' = some o'→h''.get? b' = some o':=fun b' o' hb' e'=>(N' _ (eN hb' e')).1
  have q'':=q'.l9 F.ns F'.ns hk
  refine ⟨q''.keep _ _ (g.hb _ _ ho), ?_⟩
  have e5:vs.toArray.toList = vs:=rfl
  skip
  exact I.cl (s:={ s with heap:=h'',toks:=tk }) e2 rfl rs q'' Q fun a h3 tk' W3 q3 l3 ha=>hQ a h3 tk' W3 q3 (l'.trans l3) ha
end
end Mine
end
section
namespace Mine
open PySem PySem.W PySem.Spec PySem.Calls PyProof.Rows
section
variable {C:Ctx} {sc:Sc} {loc loc' loc'':Loc} {μ μ' μ'':Mem} {W W':Wd} {s:Shared} {α β:Type} {k:Nat} {r:R}
theorem nP {prog:Program} {w:World} {A:Around} {E:Value→Shared→Prop} {d:Addr} {o:Obj} {f:Int→Option Value} {n:Nat} {i:Int} {t:Tok} {v:Value} {Q:Unit→Shared→Prop} (ho:s.heap.get? d = some o) (dq:cM o f n) (hn:n ≤ sizeLine)
  (hQ:∀ h' o',h'.get? d = some o'→cM o' (fun x=>if x = i then some v else f x) (if (f i).isSome then n else n + 1)→Heap.SameBut d s.heap h'→Q () { s with heap:=h',toks:=s.toks + 1 }) :
  wpAny (model prog w) A (dictSet d (.int i t) v) Q E s:=by
 obtain ⟨c1,c2,c3,es,ep,hd,hk,hz,hf⟩:=dq
 have ex:o.ExactDict:=⟨c1,c2,c3⟩
 skip
 refine wpAny_holding (wpAny_bind (wpAny_pyHash_int ?_))
 skip
 try refine wpAny_holding ?_
 refine wpAny_bind (wpAny_dictFind_int (s:={ s with toks:=s.toks + 1 }) ho hd hk ?_)
 have hfi:=findBy_of_findIdx? Value.isInt es i
 rw [hf i] at hfi
 cases hi:es.findIdx? fun e=>Value.isInt i e.key with
 | some j =>
  have e1:=Obj.ExactDict.mapDict ex (fun es=>es.modify j fun e=>{ e with val:=v })
  refine x03 e1 fun e2 e3 e4=>?_
  refine wpAny_bind (wpAny_rule (wpAny_bind (wpAny_updateDict (s:={ s with toks:=s.toks + 1 }) ho hd (wpAny_point (hQ _ _ (Heap.get?_update_self _ ho (Obj.isFreed_of_dict (Obj.data_mapDict hd _))) ⟨e2,e3,e4,_,ep,Obj.data_mapDict hd _,hk.modify _ _, ?_,fun x=>?_⟩ (Heap.SameBut.update ..))))))
  ·refine rwG Array.size_modify ?_;refine Nat.le_trans hz ?_;cases (f i).isSome <;> first | exact Nat.le_refl _ | exact Nat.le_succ _
  ·rw [findBy_modify Value.isInt Value.isInt_inj es i x v j hi,hf]
 | none =>
  rw [hi] at hfi
  have e1:=Obj.ExactDict.mapDictKeys ex (fun es=>es.push ⟨hashInt i,.int i t,v⟩)
  refine x03 e1 fun e2 e3 e4=>?_
  refine wpAny_bind (wpAny_rule (wpAny_updateDictKeys (hz:=Nat.le_trans hz hn) (s:={ s with toks:=s.toks + 1 }) ho hd (hQ _ _ (Heap.get?_update_self _ ho (Obj.isFreed_of_dict (Obj.data_mapDictKeys hd _))) ⟨e2,e3,e4,_,ep + 1,Obj.data_mapDictKeys hd _,hk.push _ _ _, ?_,fun x=>?_⟩ (Heap.SameBut.update ..))))
  ·have:(f i).isSome = false:=by refine rwG hfi ?_;rfl
   (refine rwG (this ..) ?_;refine rwG (Array.size_push ..) ?_);exact Nat.succ_le_succ hz
  ·rw [findBy_push Value.isInt es i x _ _ v (fun y=>by
    simp only [Value.isInt]
    by_cases h:y = i
    ·subst h;simp
    ·have:¬ i = y:=fun e=>h e.symm
     simp [h,this]) hi,hf]
theorem mR {prog:Program} {w:World} {A:Around} {E:Value→Shared→Prop} {d:Addr} {o:Obj} {f:Int→Option Value} {n:Nat} {i:Int} {t:Tok} {v:Value} {Q:Unit→Shared→Prop} (ho:s.heap.get? d = some o) (dq:cM o f n) (hn:n ≤ sizeLine)
  (hQ:∀ h' o',h'.get? d = some o'→cM o' (fun x=>if x = i then some v else f x) (if (f i).isSome then n else n + 1)→Heap.SameBut d s.heap h'→Q () { s with heap:=h',toks:=s.toks + 1 }) :
  wpAny (model prog w) A (setItem (.ref d) (.int i t) v) Q E s:=by
 have hT:s.TypeIs (.ref d) "dict":=⟨o,ho,dq.1⟩
 delta setItem
 try with_reducible refine wpAny_holding ?_
 first | refine wpAny_bind (wpAny_pure ?_) | skip
 refine wpAny_bind (wpAny_sequenceKey hT (by decide) ?_)
 refine wpAny_bind (wpAny_callSpecial?_slot (name:=Str.ofString "__setitem__") hT slot_dict_setitem (wpAny_call_entry slot_dict_setitem hT entry_dict_setitem ?_ (args_dict_setitem _ _ _)))
 refine (?_:wpAny _ _ (Builtin.Dict.notOrdered "__setitem__" ⟨[.ref d,.int i t,v],[]⟩ >>= _) _ _ s)
 refine wpAny_bind (wpAny_notOrdered_dict hT ?_)
 refine (?_:wpAny _ _ (dictSet d (.int i t) v >>= _) _ _ s)
 exact wpAny_bind (nP ho dq hn fun h' o' a b c=>wpAny_pure ⟨.none,rfl,wpAny_pure (hQ h' o' a b c)⟩)
theorem lF {fz:Led} {ad:List Addr} {l:List (Int × PV)} {f:Int→Option Value} (h:REs fz ad l f) (i:Int) (p:PV):(if (f i).isSome then l.length else l.length + 1) ≤ (dT l i p).length:=by
 have:=iR l i p
 cases e:lkI l i with
 | none=>refine rwG (h.miss e) ?_;refine (?_:l.length + 1 ≤ _);refine rwG (this.2 e) ?_;exact Nat.le_refl _
 | some q =>
  refine x12 (h.find e) fun v ev _=>?_
  refine rwG ev ?_;exact this.1
theorem cM.le {o:Obj} {f:Int→Option Value} {n m:Nat} (h:cM o f n) (hn:n ≤ m):cM o f m:=by
 obtain ⟨c1,c2,c3,es,ep,hd,hk,hz,hf⟩:=h
 exact ⟨c1,c2,c3,es,ep,hd,hk,Nat.le_trans hz hn,hf⟩
theorem Rep.nW {h:Heap} (r:Rep C sc loc μ W h) {i:Nat} {a:Addr} {vs:List Value} {n:Nat} {l':List PV} {vs':List Value} (hi:W.led[i]? = some [(a,{ cls:=.type "list",data:=.seq vs.toArray n })]) (hg:h.get? a = some { cls:=.type "list",data:=.seq vs.toArray n })
  (f:Array Value→Array Value) (he:f vs.toArray = vs'.toArray) (rs:aL l' vs' W):∃ n',Rep C sc loc (μ.set i (.lst l')) { W with led:=W.led.set i [(a,{ cls:=.type "list",data:=.seq vs'.toArray n' })] } (h.update a (Obj.mapSeq f)):=by
 have q:=PySem.IsL.update (n:=n) hg f
 rw [he] at q
 refine ⟨_,r.upd (l':=[(a,{ cls:=.type "list",data:=.seq vs'.toArray (if vs'.toArray.size == vs.toArray.size then n else n + 1) })]) (x:=.lst l') hi rfl (fun q' hq=>by
  rcases List.mem_cons.mp hq with rfl | hq
  ·exact q
  ·cases hq) (fun b ob' hb eb=>(Heap.SameBut.update ..).extBut b ob' (fun q=>hb (by refine rwG q ?_;exact List.mem_singleton.mpr rfl)) eb) ⟨a,_,vs',rfl,⟨_,rfl⟩,rs⟩⟩
theorem sl {p kk v:PV} {u:Unit} (e:setM sc p kk v μ = some (u,μ')):∃ i j o,p = .ref i∧kk = .int j∧μ[i]? = some o∧u5 i j v o μ = some (u,μ'):=by
 induction p using PV.casesOn with
 | ref i=>induction kk using PV.casesOn with
  | int j =>
   refine au (M.pif e) fun _ e=>?_
   refine cw e fun o e2 e=>?_
   exact ⟨i,j,o,rfl,rfl,e2,e⟩
  | _=>exact no1 e
 | _=>exact no1 e
theorem oW {p kk v:PV} {x y z:Value} {u:Unit} (e:setM sc p kk v μ = some (u,μ')) (hx:IsV p x W) (hy:IsV kk y W) (hz:IsV v z W) (r:Rep C sc loc μ W s.heap):Giv C sc loc W s (setItem x y z) (fun _ _=>True) μ':=by
 obtain ⟨i,j,o,rfl,rfl,e2,e⟩:=sl e
 obtain ⟨a,rfl,ea⟩:=RV.r' hx
 obtain ⟨t,rfl⟩:=RV.i' hy
 induction o using MO.casesOn with
 | lst l =>
  obtain ⟨⟨h0,h1,h2⟩,e⟩:=M.pif e
  obtain rfl:=iT e
  refine x23 (r.lst e2 ea) fun vs n hi rs hg=>?_
  obtain ⟨n',r'⟩:=r.nW (l':=l.set j.toNat v) hi hg (·.setIfInBounds j.toNat z) (by simp) (rs.set j.toNat hz)
  exact fun Q hQ=>ki_setAt hg h0 (Int.lt_trans h1 (hX h2)) (by (refine rwG List.size_toArray ?_;refine rwG rs.len ?_);exact h1) (hQ () _ s.toks _ r' (Wd.le.upd hi rfl) trivial)
 | dic l =>
  refine au (M.pif e) fun hc e=>?_
  obtain rfl:=iT e
  refine x24 (r.dic e2 ea) fun o f hi dq es hg=>?_
  refine fun Q hQ=>mR hg dq (Nat.le_trans hc.2 bB) fun h' o' ho' dq' hs=>hQ () h' _ _ (r.upd (l':=[(a,o')]) (x:=.dic (dT l j v)) hi rfl (fun q hq=>?_) (fun b ob' hb eb=>?_) ⟨a,o',_,rfl,dq'.le (lF es j v),es.put hz⟩) (Wd.le.upd hi rfl) trivial
  ·refine rwG (List.mem_singleton.mp hq) ?_;exact ho'
  ·exact hs.extBut b ob' (fun q=>hb (by refine rwG q ?_;exact List.mem_singleton.mpr rfl)) eb
 | _=>exact no1 e
end
end Mine
end
section
namespace Mine
open PySem PySem.W PySem.Spec PySem.Calls PyProof.Rows
section
variable {C:Ctx} {sc:Sc} {loc loc' loc'':Loc} {μ μ' μ'':Mem} {W W':Wd} {s:Shared} {α β:Type} {k:Nat} {r:R}
theorem yL {c:Const} {kk:Nat} {pos:Pos} {p:PV} (e:ji c = some p) (q:Rep C sc loc μ W s.heap):Giv C sc loc W s (eval (.Constant c kk pos) C.env) (IsV p) μ:=by
 intro Q hQ
 skip
 cases c <;> simp only [ji,Option.some.injEq,reduceCtorEq] at e <;> subst e
 ·exact wpAny_pure (hQ _ s.heap s.toks W q (Wd.le.refl _) RV.n)
 ·exact wpAny_pure (hQ _ s.heap s.toks W q (Wd.le.refl _) (RV.b _))
 ·exact wpAny_mkInt (hQ _ s.heap _ W q (Wd.le.refl _) (RV.i _ _))
 ·exact fun _ _ _=>hQ _ s.heap _ W q (Wd.le.refl _) (RV.f _ _)
 ·exact fun _ _ _=>hQ _ s.heap _ W q (Wd.le.refl _) (RV.x _ _)
theorem dm (nm:Nat→Str) (env:Env):∀ es:List CE,evalEach (CE.aC nm es) env = es.map fun e=>eval (e.toE nm) env
 | []=>rfl
 | e :: es=>(arm_evalEach_cons ..).trans (by refine rwG (dm nm env es) ?_;rfl)
theorem nV (I:OkR C sc r) {op:BoolOp} {pos:Pos}:∀ {es:List CE} {μ μ':Mem} {p:PV} {W:Wd} {s:Shared},l8 r sc loc op es μ = some (p,μ')→Rep C sc loc μ W s.heap →
  Giv C sc loc W s (boolOp pos op (es.map fun e=>eval (e.toE C.nm) C.env)) (IsV p) μ'
 | [],_,_,_,_,_,e,_=>no1 e
 | [x],_,_,_,_,_,e,q=>I.ev e q
 | x :: y :: es,μ,μ',p,W,s,e,q=>by
  refine ag e fun v μ₁ e1 e=>?_
  refine mA e fun t e2' e=>?_
  refine Giv.bind (I.ev e1 q) fun a h' tk W' q' l' ha=>Giv.skip (Giv.bind (Giv.hold (sG (s:={ s with heap:=h',toks:=tk }) e2' ha q')) fun b h'' tk' W'' q'' l'' hb=>?_)
  subst hb
  have rest:=fun (e:l8 r sc loc op (y :: es) μ₁ = some (p,μ'))=>nV I (op:=op) (pos:=pos) (es:=y :: es) (s:={ s with heap:=h'',toks:=tk' }) e q''
  cases op <;> cases b
  ·obtain ⟨rfl,rfl⟩:=ai e
   exact Giv.done (s:={ s with heap:=h'',toks:=tk' }) q'' (ha.le l'')
  ·exact rest e
  ·exact rest e
  ·obtain ⟨rfl,rfl⟩:=ai e
   exact Giv.done (s:={ s with heap:=h'',toks:=tk' }) q'' (ha.le l'')
theorem pI (I:OkR C sc r) {op:BoolOp}:∀ {es:List CE} {μ μ':Mem} {p:Bool} {W:Wd} {s:Shared},allM r sc loc op es μ = some (p,μ')→Rep C sc loc μ W s.heap →
  Giv C sc loc W s (allTrue op (CE.aC C.nm es) C.env) (fun c _=>c = p) μ'
 | [],_,_,_,W,s,e,q=>by
  obtain ⟨rfl,rfl⟩:=ai e
  refine (?_:Giv C sc loc W s (allTrue op [] C.env) _ _)
  skip
  exact Giv.done q rfl
 | x :: es,μ,μ',p,W,s,e,q=>by
  refine ag e fun t μ₁ e1 e=>?_
  refine (?_:Giv C sc loc W s (allTrue op (x.toE C.nm :: CE.aC C.nm es) C.env) _ _)
  skip
  refine Giv.bind (I.ts e1 q) fun b h' tk W' q' l' hb=>?_
  subst hb
  have rest:=fun (e:allM r sc loc op es μ₁ = some (p,μ'))=>pI I (op:=op) (es:=es) (s:={ s with heap:=h',toks:=tk }) e q'
  cases op <;> cases b
  ·obtain ⟨rfl,rfl⟩:=ai e
   exact Giv.done (s:={ s with heap:=h',toks:=tk }) q' rfl
  ·exact rest e
  ·exact rest e
  ·obtain ⟨rfl,rfl⟩:=ai e
   exact Giv.done (s:={ s with heap:=h',toks:=tk }) q' rfl
theorem dW (nm:Nat→Str) (env:Env):∀ (ops:List CmpOp) (es:List CE),markedEach ops (CE.aC nm es) (es.map fun e=>eval (e.toE nm) env) = es.map fun e=>eval (e.toE nm) env
 | [],[]=>rfl
 | [],_ :: _=>rfl
 | _ :: _,[]=>by
  refine (?_:markedEach _ [] [] = [])
  rename_i l
  cases l <;> rfl
 | [op],[e]=>by
  have:behindInMarks op (e.toE nm) = false:=by cases e <;> rfl
  refine (?_:[markedBehindIn op (e.toE nm) (eval (e.toE nm) env)] = _)
  unfold markedBehindIn
  refine rwG this ?_;rfl
 | [op],e :: e' :: es=>by
  refine (?_:eval (e.toE nm) env :: markedEach [] (CE.aC nm (e' :: es)) ((e' :: es).map fun e=>eval (e.toE nm) env) = _)
  refine rwG (dW nm env [] (e' :: es)) ?_;rfl
 | op :: op' :: ops,e :: es=>by
  refine (?_:eval (e.toE nm) env :: markedEach (op' :: ops) (CE.aC nm es) (es.map fun e=>eval (e.toE nm) env) = _)
  refine rwG (dW nm env (op' :: ops) es) ?_;rfl
theorem qX {op:CmpOp} {a b:PV} (h:op ≠ .NotIn) (μ:Mem):jc op a b μ = M.lift (eK op a b) μ:=by
 induction op using PySem.CmpOp.casesOn with
 | NotIn=>exact absurd rfl h
 | _=>rfl
theorem uN {a b:PV} {c:Bool} (e:jc .NotIn a b μ = some (c,μ')):∃ i d,a = .int i∧b = .ref d∧xO i d μ = some (c,μ'):=by
 induction a using PV.casesOn with
 | int i=>induction b using PV.casesOn with
  | ref d=>exact ⟨i,d,rfl,rfl,e⟩
  | _=>exact no1 e
 | _=>exact no1 e
theorem j6 (g:Good C sc k) {op:CmpOp} {a b:PV} {x y:Value} {c:Bool} (e:jc op a b μ = some (c,μ')) (hx:IsV a x W) (hy:IsV b y W) (q:Rep C sc loc μ W s.heap):Giv C sc loc W s (compareOp op x y) (IsV (.bool c)) μ':=by
 have hu:C.A.units + 64 < cLine:=by have:=g.uni;lia
 by_cases hn:op = .NotIn
 ·subst hn
  obtain ⟨i,d,rfl,rfl,e⟩:=uN e
  refine cw e fun o e2 e=>?_
  induction o using MO.casesOn with
  | dic l =>
   refine au (M.pif e) fun hl e=>?_
   obtain ⟨rfl,rfl⟩:=ai e
   obtain ⟨t,rfl⟩:=RV.i' hx
   obtain ⟨ad,rfl,ea⟩:=RV.r' hy
   refine x24 (q.dic e2 ea) fun o f hi dq es hg=>?_
   intro Q hQ
   have hds:(ad == sysModules) = false:=by
    have h1:C.h₀.get? ad = none:=q.old _ (.tail _ (List.mem_map_of_mem (f:=(·.1)) (eu hi (.head _))))
    refine beq_eq_false_iff_ne.mpr fun hh=>?_
    obtain ⟨o',ho'⟩:=g.base.mods
    have ho':=g.hb _ _ ho'
    rw [← hh,h1] at ho';exact no1 ho'
   have hM:s.heap.MapOf (intKind C.prog C.w) ad f:=(eX hg dq).mapOf fun o' ho'=>by rw [hg] at ho';refine so1m ho' ?_;exact ⟨dq.2.1,dq.2.2.1⟩
   refine wpAny_notIn_of (k:=i) (by simp [intKind,Value.isInt]) hds hM ?_
   have:(!(f i).isSome) = (lkI l i).isNone:=by
    cases e:lkI l i with
    | none=>refine rwG (es.miss e) ?_;rfl
    | some p=>refine x12 (es.find e) fun v ev _=>?_;refine rwG ev ?_;rfl
   refine rwG this ?_
   exact hQ _ s.heap _ W q (Wd.le.refl _) (RV.b _)
  | _=>exact no1 e
 ·refine cj ((qX hn μ).symm.trans e) fun e1=>?_
  exact vH e1 hx hy q hu
theorem iB {c:Bool} {v:Value} (hv:IsV (.bool c) v W) (q:Rep C sc loc μ W s.heap):Giv C sc loc W s (truthy v) (fun b _=>b = c) μ:=by
 obtain rfl:=RV.b' hv
 exact fun Q hQ=>wpAny_truthy_bool (hQ _ s.heap s.toks W q (Wd.le.refl _) rfl)
theorem Giv.rel {t:Sem β} {R:β→Wd→Prop} {vs ks:List Value} (h:Giv C sc loc W s t R μ):Giv C sc loc W s (release vs ks >>= fun _=>t) R μ :=
 fun Q hQ=>wpAny_bind (wpAny_release (h Q hQ))
theorem dZ (g:Good C sc k) (I:OkR C sc r) {op:CmpOp} {y:CE} {a:PV} {x:Value} {w:PV} {μ₁:Mem} {b:Bool} {μ₂:Mem} {R:α→Wd→Prop} {f:Value→Value→Bool→Sem α} {pos:Pos} (e1:r.ev sc loc y μ = some (w,μ₁)) (e2:jc op a w μ₁ = some (b,μ₂)) (hx:IsV a x W) (q:Rep C sc loc μ W s.heap)
  (h:∀ rv c h' tk W',Rep C sc loc μ₂ W' h'→IsV w rv W'→IsV (.bool b) c W'→Giv C sc loc W' { s with heap:=h',toks:=tk } (f rv c b) R μ') :
  Giv C sc loc W s (holding [x] (eval (y.toE C.nm) C.env) >>= fun rv=>standAt pos >>= fun _=>holding [x,rv] (compareOp op x rv) >>= fun c=>release [x,rv] [c] >>= fun _=>holding [c,rv] (truthy c) >>= fun t=>f rv c t) R μ' :=
 Giv.bind (Giv.hold (I.ev e1 q)) fun v h' tk W' q' l' hv=>Giv.skip (Giv.bind (Giv.hold (j6 (s:={ s with heap:=h',toks:=tk }) g e2 (hx.le l') hv q')) fun c h'' tk' W'' q'' l'' hb=>Giv.rel (Giv.bind (Giv.hold (iB (s:={ s with heap:=h'',toks:=tk' }) hb q'')) fun b3 h3 tk3 W3 q3 l3 hb3=>by
  subst hb3
  exact h v c h3 tk3 W3 q3 ((hv.le l'').le l3) (hb.le l3)))
theorem fm (g:Good C sc k) (I:OkR C sc r) {pos:Pos}:∀ {ops:List CmpOp} {es:List CE} {a:PV} {x:Value} {μ μ':Mem} {c:Bool} {W:Wd} {s:Shared},gZ r sc loc a ops es μ = some (c,μ')→IsV a x W→Rep C sc loc μ W s.heap →
  Giv C sc loc W s (compareChain pos x ops (es.map fun e=>eval (e.toE C.nm) C.env)) (IsV (.bool c)) μ'∧Giv C sc loc W s (testChain pos x ops (es.map fun e=>eval (e.toE C.nm) C.env)) (fun b _=>b = c) μ'
 | [op],[y],a,x,μ,μ',c,W,s,e,hx,q=>by
  refine ag e fun w μ₁ e1 e=>?_
  exact ⟨Giv.bind (Giv.hold (I.ev e1 q)) fun v h' tk W' q' l' hv=>Giv.skip (Giv.kO (j6 (s:={ s with heap:=h',toks:=tk }) g e (hx.le l') hv q')),
   Giv.bind (Giv.hold (I.ev e1 q)) fun v h' tk W' q' l' hv=>Giv.skip (Giv.bind (Giv.kO (j6 (s:={ s with heap:=h',toks:=tk }) g e (hx.le l') hv q')) fun b h'' tk' W'' q'' l'' hb=>Giv.hold (iB hb q''))⟩
 | op :: op' :: ops,y :: es,a,x,μ,μ',c,W,s,e,hx,q=>by
  refine ag e fun w μ₁ e1 e=>?_
  refine ag e fun b μ₂ e2 e=>?_
  induction b using Bool.casesOn with
  | true=>exact ⟨dZ g I e1 e2 hx q fun rv d h3 tk3 W3 q3 hv hb=>(fm g I (s:={ s with heap:=h3,toks:=tk3 }) e hv q3).1,dZ g I e1 e2 hx q fun rv d h3 tk3 W3 q3 hv hb=>(fm g I (s:={ s with heap:=h3,toks:=tk3 }) e hv q3).2⟩
  | false =>
   obtain ⟨rfl,rfl⟩:=ai e
   exact ⟨dZ g I e1 e2 hx q fun rv d h3 tk3 W3 q3 hv hb=>Giv.done (s:={ s with heap:=h3,toks:=tk3 }) q3 hb,dZ g I e1 e2 hx q fun rv d h3 tk3 W3 q3 hv hb=>Giv.done (s:={ s with heap:=h3,toks:=tk3 }) q3 rfl⟩
 | [],_,_,_,_,_,_,_,_,e,_,_=>no1 e
 | [_],[],_,_,_,_,_,_,_,e,_,_=>no1 e
 | _ :: _ :: _,[],_,_,_,_,_,_,_,e,_,_=>no1 e
 | [_],_ :: _ :: _,_,_,_,_,_,_,_,e,_,_=>no1 e
end
end Mine
end
section
namespace Mine
open PySem PySem.W PySem.Spec PySem.Calls PyProof.Rows Builtin Builtin.Str
section
variable {C:Ctx} {sc:Sc} {loc loc' loc'':Loc} {μ μ' μ'' μ₁ μ₂ μ₃:Mem} {W W':Wd} {s:Shared} {α β:Type} {k:Nat} {r:R}
theorem eH (nm:Nat→Str) (env:Env) (n:Str) (t:Sem Value) {o:CE} (h:mW o = true):attributeBase (o.toE nm) n env t = t:=by
 induction o using CE.casesOn with
 | call f fp args p =>
  induction args using List.casesOn with
  | nil=>exact tf2 h
  | cons a as=>rfl
 | _=>rfl
theorem c0 (nm:Nat→Str):∀ es:List CE,(CE.aC nm es).length = es.length
 | []=>rfl
 | e :: es=>congrArg Nat.succ (c0 nm es)
theorem iS (C:Ctx):∀ es:List CE,(fX C es).all (fun x=>!x.1) = true
 | []=>rfl
 | e :: es=>by refine (?_:(true && (fX C es).all (fun x=>!x.1)) = true);refine rwG (iS C es) ?_;rfl
theorem CE.s9 (nm:Nat→Str) (o:CE) (n:MT) (ap:Pos) (args:List CE) (p:Pos):(CE.meth o n ap args p).toE nm = .Call (.Attribute (o.toE nm) n.str ap) (CE.aC nm args) [] p:=rfl
theorem hG {o:CE} {ap p:Pos} {args:List CE} (hm:cc o ap p args = true):(ap.endLine == p.line) = true∧args.length ≤ 20∧mW o = true:=by
 delta cc at hm
 rw [Bool.and_eq_true,Bool.and_eq_true] at hm
 exact ⟨hm.1.1,Nat.le_of_ble_eq_true hm.1.2,hm.2⟩
theorem vM (I:OkR C sc r) {o:CE} {n:MT} {ap p:Pos} {args:List CE} (hm:cc o ap p args = true) {ov:PV} {ps:List PV} {pv:PV} (e1:r.ev sc loc o μ = some (ov,μ₁)) (e2:evL r sc loc args μ₁ = some (ps,μ₂)) (q:Rep C sc loc μ W s.heap)
  (T id:String) (pa:PlainAttrs T) (slot:Slot T n.str id) (hty:typeOf (.builtin id) = pure (.type "method_descriptor"))
  (hT:∀ x W' (s':Shared),Rep C sc loc μ₁ W' s'.heap→IsV ov x W'→s'.TypeIs x T∧∀ a,x = .ref a→∃ ob,s'.heap.get? a = some ob∧ob.dict = none)
  (hc:∀ x vs W' (s':Shared),Rep C sc loc μ₂ W' s'.heap→IsV ov x W'→aL ps vs W'→Giv C sc loc W' s' (call (.builtin id) (x :: vs)) (IsV pv) μ₃) :
  Giv C sc loc W s (eval ((CE.meth o n ap args p).toE C.nm) C.env) (IsV pv) μ₃:=by
 refine x03 (hG hm) fun h1 h2 h3=>?_
 intro Q hQ
 skip
 refine wpAny_Call_method_lateS (eH _ _ _ _ h3) ?_ h1 (I.ev e1 q _ fun x h' tk W' q' l' hx=>?_)
 ·(refine rwG (bq ..) ?_;refine rwG (iS ..) ?_;refine rwG (c0 ..) ?_)
  exact Bool.and_eq_true_iff.mpr ⟨rfl,decide_eq_true (Nat.lt_of_le_of_lt h2 (by decide))⟩
 ·obtain ⟨t1,t2⟩:=hT x W' { s with heap:=h',toks:=tk } q' hx
  refine rwG (bq ..) ?_
  exact ⟨T,id,pa,slot,hty,t1,t2,kZ I (s:={ s with heap:=h',toks:=tk }) e2 q' fun as h'' tk' W'' q'' l'' has =>
   hc x as W'' { s with heap:=h'',toks:=tk' } q'' (hx.le l'') has Q fun a h3 tk3 W3 q3 l3 ha=>hQ a h3 tk3 W3 q3 ((l'.trans l'').trans l3) ha⟩
theorem kN {T:String} {x:Value} {a:Addr} {o:Obj} (hx:x = .ref a) (hg:s.heap.get? a = some o) (hc:o.cls = .type T) (hd:o.dict = none):s.TypeIs x T∧∀ b,x = .ref b→∃ ob,s.heap.get? b = some ob∧ob.dict = none:=by
 subst hx
 exact ⟨⟨o,hg,hc⟩,fun b e=>by (injection e with q1;subst q1);exact ⟨o,hg,hd⟩⟩
theorem pT {a:Int} {x:Value} (hx:IsV (.int a) x W) (q:Rep C sc loc μ W s.heap):Giv C sc loc W s (call (.builtin "int.bit_length") [x]) (IsV (.int (Builtin.Int.intBits a))) μ:=by
 obtain ⟨t,rfl⟩:=RV.i' hx
 exact fun Q hQ=>call_gives PySem.F.slot_int_bit_length (typeIs_int _ _ _) PySem.F.entry_int_bit_length (PySem.F.args_int_bit_length_1 _) (PySem.AutoIntG2.int_bit_length_int_0 a t) (hQ _ s.heap _ W q (Wd.le.refl _) (RV.i _ _))
theorem sQ {a b:Str} {x y:Value} (hx:IsV (.str a) x W) (hy:IsV (.str b) y W) (q:Rep C sc loc μ W s.heap):Giv C sc loc W s (call (.builtin "str.count") [x,y]) (IsV (.int (Txt.count a b))) μ:=by
 obtain ⟨t,rfl⟩:=RV.x' hx;obtain ⟨u,rfl⟩:=RV.x' hy
 exact fun Q hQ=>SC.count (hQ _ s.heap _ W q (Wd.le.refl _) (RV.i _ _))
theorem kL {fz:Led} {ad:List Addr}:∀ {l:List PV} {ss:List Str} {vs:List Value},strsOf l = some ss→RVs fz ad l vs→∃ ps:List (Str × Tok),vs = strValues ps∧ps.map (·.1) = ss
 | [],ss,vs,e,h=>by refine so1m e ?_;exact ⟨[],RVs.zero h,rfl⟩
 | x :: l,ss,vs,e,h=>by
  skip
  obtain ⟨v,t,rfl,h1,h2⟩:=h
  induction x using PV.casesOn with
  | str x =>
   obtain ⟨ss',e1,rfl⟩:=Option.map_eq_some_iff.mp e
   obtain ⟨u,rfl⟩:=RV.x' h1
   obtain ⟨ps,rfl,rfl⟩:=kL e1 h2
   exact ⟨(x,u) :: ps,rfl,rfl⟩
  | _=>exact no1 e
theorem lh (n:Nat):∀ (ss:List Str) (a:Nat),ss.foldl (fun acc x=>acc + x.length + n) a = a + (ss.map (·.length)).sum + ss.length * n
 | [],a=>by simp
 | x :: r,a=>by
  rw [List.foldl_cons,lh n r,List.map_cons,List.sum_cons,List.length_cons,Nat.succ_mul];lia
theorem pP {a:Str} {l:List PV} {p:PV} {x:Value} {b:Addr} {vs:List Value} {n:Nat} (e:joinM a l μ = some (p,μ')) (hx:IsV (.str a) x W) (hg:s.heap.get? b = some { cls:=.type "list",data:=.seq vs.toArray n }) (rs:aL l vs W) (q:Rep C sc loc μ W s.heap) :
  Giv C sc loc W s (call (.builtin "str.join") [x,.ref b]) (IsV p) μ':=by
 delta joinM at e
 cases es:strsOf l with
 | none=>rw [es] at e;exact no1 e
 | some ss =>
  rw [es] at e
  dsimp only at e
  by_cases hz:(ss.map (·.length)).sum + ss.length * a.length ≤ ah
  ·rw [if_pos hz] at e
   obtain ⟨rfl,rfl⟩:=ai e
   obtain ⟨t,rfl⟩:=RV.x' hx
   obtain ⟨ps,rfl,rfl⟩:=kL es rs
   intro Q hQ
   refine SC.join ⟨_,hg,rfl,n,rfl⟩ rfl ?_ fun t' kk=>hQ _ s.heap kk W q (Wd.le.refl _) (RV.x _ _)
   delta JoinOk Builtin.Str.tooLong
   (refine rwG (List.foldl_toArray ..) ?_;refine rwG (lh ..) ?_)
   have:=bB
   simp only [Bool.not_eq_true',decide_eq_false_iff_not]
   simp only [Nat.zero_add] at hz ⊢
   omega
  ·rw [if_neg hz] at e
   exact no1 e
theorem RVs.strs {fz:Led} {ad:List Addr}:∀ (l:List (Str × Tok)),RVs fz ad ((l.map (·.1)).map .str) (strValues l)
 | []=>RVs.nil
 | p :: r=>RVs.cons (RV.x p.1 p.2) (RVs.strs r)
theorem sZ {a b:Str} {x y:Value} (hc:0 < b.length∧a.length ≤ ah∧(Txt.split a b).length ≤ ah) (hx:IsV (.str a) x W) (hy:IsV (.str b) y W) (g:Good C sc k) (q:Rep C sc loc μ W s.heap) :
  Giv C sc loc W s (call (.builtin "str.split") [x,y]) (IsV (.lst ((Txt.split a b).map .str))) μ:=by
 obtain ⟨t,rfl⟩:=RV.x' hx
 obtain ⟨u,rfl⟩:=RV.x' hy
 intro Q hQ
 have hsz:=Nat.le_trans hc.2.1 bB
 have hne:(b.length == 0) = false:=by simp;omega
 have fin:∀ (l:List (Str × Tok)) (tk:Nat),l.map (·.1) = Txt.split a b→Q (.ref s.heap.objs.size) { s with heap:=s.heap.push { cls:=.type "list",data:=.seq (strValues l).toArray },toks:=tk }:=fun l tk e =>
  hQ _ _ tk _ (q.fro (a:=s.heap.objs.size) (o:={ cls:=.type "list",data:=.seq (strValues l).toArray }) (fun b o e=>Heap.get?_push_of_some _ e) (bf _) (Heap.get?_push_size _ rfl) g.tq) (Wd.le.fro _ _)
   (RV.l (.head _) (e ▸ RVs.strs l))
 cases h1:(decide (a.length < b.length) || decide (strKind a < strKind b))
 ·cases hf:(occurrences a b 0 a.length (a.length + 1)).isEmpty
  ·have he:Txt.split a b = partsBetween a (occurrences a b 0 a.length (a.length + 1)) b.length:=(if_neg (ne_true_of_eq_false h1)).trans (if_neg (ne_true_of_eq_false hf))
   refine call_meets F.slot_str_split (typeIs_str _ _ _) F.entry_str_split (F.args_str_split_2 _ _) (meets_str_split_sep a b t u h1 hne hf hsz (he ▸ Nat.le_trans hc.2.2 bB)) ?_
   refine (?_:wants Q NoE _ { s with toks:=_,heap:=s.heap.push { cls:=.type "list",data:=.seq (strsFrom s.toks (partsBetween a (occurrences a b 0 a.length (a.length + 1)) b.length)).toArray } })
   refine rwG (strsFrom_eq ..) ?_
   exact fin (numbered s.toks _) _ ((numbered_texts _ _).trans he.symm)
  ·exact call_meets F.slot_str_split (typeIs_str _ _ _) F.entry_str_split (F.args_str_split_2 _ _) (meets_str_split_not_found a b t u h1 hne hf)
    (fin [(a,t)] s.toks ((if_neg (ne_true_of_eq_false h1)).trans (if_pos hf)).symm)
 ·exact call_meets F.slot_str_split (typeIs_str _ _ _) F.entry_str_split (F.args_str_split_2 _ _) (meets_str_split_cannot_occur a b t u h1) (fin [(a,t)] s.toks (if_pos h1).symm)
theorem rL {i:Nat} {x:PV} {vx vy:Value} {l:List PV} (e2:μ[i]? = some (.lst l)) (hl:l.length ≤ ah) (hx:IsV (.ref i) vx W) (hy:IsV x vy W) (q:Rep C sc loc μ W s.heap) :
  Giv C sc loc W s (call (.builtin "list.append") [vx,vy]) (IsV .none) (μ.set i (.lst (l ++ [x]))):=by
 obtain ⟨a,rfl,ea⟩:=RV.r' hx
 refine x23 (q.lst e2 ea) fun vs n hi rs hg=>?_
 intro Q hQ
 refine wpAny_list_append_plain ⟨n,hg⟩ (fun h' hp hs=>?_) (by (refine rwG List.size_toArray ?_;refine rwG rs.len ?_);exact Nat.le_trans hl bB)
 obtain ⟨n',hg'⟩:=hp
 have hpush:vs.toArray.push vy = (vs ++ [vy]).toArray:=by simp
 rw [hpush] at hg'
 have r':=q.upd (l':=[(a,{ cls:=.type "list",data:=.seq (vs ++ [vy]).toArray n' })]) (x:=.lst (l ++ [x])) hi rfl (fun p hp=>by
  rcases List.mem_cons.mp hp with rfl | hp
  ·exact hg'
  ·cases hp) (fun b ob' hb eb=>hs.extBut b ob' (fun q=>hb (by refine rwG q ?_;exact List.mem_singleton.mpr rfl)) eb) ⟨a,_,_,rfl,⟨_,rfl⟩,rs.app (RVs.cons hy RVs.nil)⟩
 exact hQ _ h' s.toks _ r' (Wd.le.upd hi rfl) RV.n
theorem y5 {i:Nat} {x:PV} {vx:Value} {l:List PV} (e2:μ[i]? = some (.lst l)) (hl:l.length ≤ ah) (hlast:l.getLast? = some x) (hx:IsV (.ref i) vx W) (q:Rep C sc loc μ W s.heap) :
  Giv C sc loc W s (call (.builtin "list.pop") [vx]) (IsV x) (μ.set i (.lst l.dropLast)):=by
 obtain ⟨a,rfl,ea⟩:=RV.r' hx
 refine x23 (q.lst e2 ea) fun vs n hi rs hg=>?_
 intro Q hQ
 have hx':l[l.length - 1]? = some x:=by refine rwH (List.getLast?_eq_getElem?) ?_;exact hlast
 refine x12 (rs.get hx') fun y ey hy=>?_
 have hlen:=rs.len
 have hdl:∀ {γ:Type} (z:List γ),z.dropLast = z.take (z.length - 1):=fun z=>List.dropLast_eq_take
 have rs':aL l.dropLast (vs.take (vs.length - 1)) W:=by (refine rwG (hdl ..) ?_;refine rwG (hlen ..) ?_);exact rs.take _
 have hpos:0 < vs.length:=by
  have:=(List.getElem?_eq_some_iff.mp ey).1;omega
 obtain ⟨n',r'⟩:=q.nW (l':=l.dropLast) (vs':=vs.take (vs.length - 1)) hi hg (fun xs=>xs.eraseIdxIfInBounds (vs.toArray.size - 1)) (by
  apply Array.toList_inj.mp
  delta Array.eraseIdxIfInBounds
  rw [dif_pos (by rw [List.size_toArray];omega),Array.toList_eraseIdx]
  simp only [List.size_toArray]
  rw [List.eraseIdx_eq_take_drop_succ,List.drop_of_length_le (by omega),List.append_nil]) rs'
 refine call_meets PySem.F.slot_list_pop ⟨_,hg,rfl⟩ PySem.F.entry_list_pop (PySem.F.args_list_pop_1 _) (PySem.MeetsSeq.list_pop_last a _ n y (by (refine rwG (List.size_toArray ..) ?_;refine rwG (List.getElem?_toArray) ?_;refine rwG (hlen ..) ?_);exact ey) (by (refine rwG List.size_toArray ?_;refine rwG hlen ?_);exact Nat.le_trans hl bB)) ⟨hg, ?_⟩
 exact hQ _ _ s.toks _ r' (Wd.le.upd hi rfl) (hy.le (Wd.le.upd hi rfl))
theorem qC {i:Nat} {vx:Value} {l:List PV} (e2:μ[i]? = some (.lst l)) (hl:l.length ≤ ah) (hx:IsV (.ref i) vx W) (q:Rep C sc loc μ W s.heap) :
  Giv C sc loc W s (call (.builtin "list.reverse") [vx]) (IsV .none) (μ.set i (.lst l.reverse)):=by
 obtain ⟨a,rfl,ea⟩:=RV.r' hx
 refine x23 (q.lst e2 ea) fun vs n hi rs hg=>?_
 intro Q hQ
 obtain ⟨n',r'⟩:=q.nW (l':=l.reverse) (vs':=vs.reverse) hi hg (fun xs=>xs.reverse) (by simp) rs.rev
 refine call_meets PySem.F.slot_list_reverse ⟨_,hg,rfl⟩ PySem.F.entry_list_reverse (PySem.F.args_list_reverse_1 _) (PySem.AutoSeq1.list_reverse_list_0 a _ n (by (refine rwG List.size_toArray ?_;refine rwG rs.len ?_);exact Nat.le_trans hl bB)) ⟨hg, ?_⟩
 exact hQ _ _ s.toks _ r' (Wd.le.upd hi rfl) RV.n
theorem p8 {prog:Program} {w:World} {a:Addr} {f:Int→Option Value} {i:Int} {t:Tok} {vd:Value} :
  MeetsIn prog w (Builtin.«dict.get» ⟨[.ref a,.int i t,vd],[]⟩) (fun _ R s=>s.heap.IntMap a f∧R (.ok (.ret ((f i).getD vd))) { s with toks:=s.toks + 1 }) :=
 .of_wp fun A R s ⟨hm,h⟩=>by
  refine (?_:wpAny _ _ (dictGet a (.int i t) >>= _) _ _ s)
  refine wpAny_bind (wpAny_dictGet_int hm ?_)
  cases e:f i with
  | some v=>rw [e] at h;exact wpAny_pure ⟨v,rfl,h⟩
  | none =>
   rw [e] at h
   refine (?_:wpAny _ _ (Builtin.Dict.missed a (.int i t) >>= _) _ _ _)
   exact wpAny_bind (wpAny_missed_int (wpAny_pure ⟨vd,rfl,h⟩))
theorem vC {l:List (Int × PV)} {i:Int} {d:PV} {vx vi vd:Value} (hx:IsV (.dic l) vx W) (hi:IsV (.int i) vi W) (hd:IsV d vd W) (q:Rep C sc loc μ W s.heap) :
  Giv C sc loc W s (call (.builtin "dict.get") [vx,vi,vd]) (IsV ((lkI l i).getD d)) μ:=by
 obtain ⟨a,o,f,rfl,m,dq,es⟩:=RV.d' hx
 obtain ⟨t,rfl⟩:=RV.i' hi
 intro Q hQ
 have hg:=q.fzs _ m
 refine call_meetsIn PySem.F.slot_dict_get ⟨o,hg,dq.1⟩ PySem.F.entry_dict_get (PySem.F.args_dict_get_3 _ _ _) (p8 (f:=f)) ⟨eX hg dq, ?_⟩
 refine hQ _ s.heap _ W q (Wd.le.refl _) ?_
 cases e:lkI l i with
 | none=>refine rwG (es.miss e) ?_;exact hd
 | some p=>refine x12 (es.find e) fun v ev hv=>?_;refine rwG ev ?_;exact hv
theorem pM {fz:Led} {ad:List Addr}:∀ {l:List PV} {ss:List Int} {vs:List Value},intsOf l = some ss→RVs fz ad l vs→∃ ps:List (Int × Tok),vs = ps.map (fun p=>.int p.1 p.2)∧ps.map (·.1) = ss
 | [],ss,vs,e,h=>by refine so1m e ?_;exact ⟨[],RVs.zero h,rfl⟩
 | x :: l,ss,vs,e,h=>by
  skip
  obtain ⟨v,t,rfl,h1,h2⟩:=h
  induction x using PV.casesOn with
  | int x =>
   obtain ⟨ss',e1,rfl⟩:=Option.map_eq_some_iff.mp e
   obtain ⟨u,rfl⟩:=RV.i' h1
   obtain ⟨ps,rfl,rfl⟩:=pM e1 h2
   exact ⟨(x,u) :: ps,rfl,rfl⟩
  | _=>exact no1 e
theorem s6 {l:List PV} {x:PV} {j:Nat} {vl vx:Value} (e:idxOf l x = some j) (hl:l.length ≤ ah) (hv:IsV (.lst l) vl W) (hx:IsV x vx W) (q:Rep C sc loc μ W s.heap) :
  Giv C sc loc W s (call (.builtin "list.index") [vl,vx]) (IsV (.int j)) μ:=by
 obtain ⟨a,vs,n,rfl,m,rs⟩:=RV.l' hv
 have hg:=q.fzs _ m
 have h20:ah = 1048576:=rfl
 have hlen:=rs.len
 intro Q hQ
 have fin:∀ (f:Value→Bool) (hf:∀ y,y∈vs.toArray→MeetsSeq.EqGives y vx (f y)) (hj:vs.findIdx? f = some j),wpAny (model C.prog C.w) C.A (call (.builtin "list.index") [.ref a,vx]) Q NoE s:=fun f hf hj=>by
  obtain ⟨h1,h2,h3⟩:=List.findIdx?_eq_some_iff_getElem.mp hj
  refine call_meets PySem.F.slot_list_index ⟨_,hg,rfl⟩ PySem.F.entry_list_index (PySem.F.args_list_index_2 _ _) (PySem.MeetsSeq.list_index a vs.toArray n vx f hf j (by skip;exact h1) (by omega) (by simpa using h2) (fun i hi hij=>by simpa using h3 i hij)) ⟨hg,hQ _ s.heap _ W q (Wd.le.refl _) (RV.i _ _)⟩
 induction x using PV.casesOn with
 | str y =>
  refine d6 e fun ss e1 e2=>?_
  obtain ⟨u,rfl⟩:=RV.x' hx
  obtain ⟨ps,rfl,rfl⟩:=kL e1 rs
  refine fin (fun v=>match v with | .str z _=>z == y | _=>false) (fun z hz=>?_) ?_
  ·have hz':z∈strValues ps:=by simpa using hz
   obtain ⟨p,_,rfl⟩:=List.mem_map.mp hz'
   intro prog w A E s Q h
   refine wpAny_eqBool_str ?_
   have:decide (p.1 = y) = (p.1 == y):=by rfl
   first | exact h | (skip;exact h) | (have:decide (p.1 = y) = (p.1 == y):=by by_cases h:p.1 = y <;> simp [h];skip;exact h)
  ·skip
   refine rwG (List.findIdx?_map) ?_
   rw [List.findIdx?_map] at e2
   exact e2
 | int y =>
  refine d6 e fun ss e1 e2=>?_
  obtain ⟨u,rfl⟩:=RV.i' hx
  obtain ⟨ps,rfl,rfl⟩:=pM e1 rs
  refine fin (fun v=>match v with | .int z _=>z == y | _=>false) (fun z hz=>?_) ?_
  ·have hz':z∈ps.map (fun p=>Value.int p.1 p.2):=by simpa using hz
   obtain ⟨p,_,rfl⟩:=List.mem_map.mp hz'
   exact MeetsSeq.EqGives.int _ _ _ _
  ·refine rwG (List.findIdx?_map) ?_
   rw [List.findIdx?_map] at e2
   exact e2
 | _=>exact no1 e
end
end Mine
end
section
namespace Mine
open PySem PySem.W PySem.Spec PySem.Calls PyProof.Rows
section
variable {C:Ctx} {sc:Sc} {loc loc' loc'':Loc} {μ μ' μ'' μ₁ μ₂ μ₃:Mem} {W W':Wd} {s:Shared} {α β:Type} {k:Nat} {r:R}
theorem Rep.lex {h:Heap} (q:Rep C sc loc μ W h) {i:Nat} {cs:List Nat} {n:Int} {ps:List Str} {a:Addr} (e:μ[i]? = some (.lex cs n ps)) (ea:(ads W.led)[i]? = some a) :
  ∃ l c,W.led[i]? = some l∧C.LX c cs n ps l∧a = adr l∧(∀ p∈l,h.get? p.1 = some p.2)∧(l.map (·.1)).Nodup∧(∀ p∈c,p∈W.fz)∧∀ p∈c,h.get? p.1 = some p.2∧p.1 ∉ l.map (·.1):=by
 obtain ⟨l,e1,c,hc,q'⟩:=q.mem.get e
 refine ⟨l,c,e1,q', ?_,fun p hp=>q.all _ (eu e1 hp), ?_,hc,fun p hp=>⟨q.fzs p (hc p hp),fun hm=>q.fzo p (hc p hp) (.tail _ ?_)⟩⟩
 rotate_left 2
 ·refine x12 (List.mem_map.mp hm) fun x hx ex=>?_
  exact List.mem_map.mpr ⟨x,List.mem_append_right _ (List.mem_append_right _ (List.mem_flatten.mpr ⟨l,List.mem_iff_getElem?.mpr ⟨i,e1⟩,hx⟩)),ex⟩
 ·unfold ads at ea
  rw [List.getElem?_map,e1] at ea
  exact (Option.some.inj ea).symm
 ·have n:=(List.nodup_cons.mp q.nd).2
  unfold Wd.own Wd.oth at n
  rw [(fe e1 l).1,List.flatten_append,List.flatten_cons] at n
  simp only [List.map_append] at n
  exact (List.nodup_append.mp (List.nodup_append.mp (List.nodup_append.mp (List.nodup_append.mp n).2.1).2.1).2.1).1
theorem dY {args:List PV} {x:M PV} {z:PV × Mem} (e:ip args x μ = some z):args = []∧x μ = some z:=by
 induction args using List.casesOn with
 | nil=>exact ⟨rfl,e⟩
 | cons _ _=>exact no1 e
theorem cL {args:List PV} {f:PV→M PV} {z:PV × Mem} (e:fj args f μ = some z):∃ x,args = [x]∧f x μ = some z:=by
 rcases args with _ | ⟨x,_ | ⟨_,_⟩⟩
 ·exact no1 e
 ·exact ⟨x,rfl,e⟩
 ·exact no1 e
theorem d7 {x:PV} {f:Str→M PV} {z:PV × Mem} (e:fY x f μ = some z):∃ y,x = .str y∧f y μ = some z:=by
 induction x using PV.casesOn with
 | str y=>exact ⟨y,rfl,e⟩
 | _=>exact no1 e
theorem ee {x:PV} {f:Int→M PV} {z:PV × Mem} (e:iq x f μ = some z):∃ y,x = .int y∧f y μ = some z:=by
 induction x using PV.casesOn with
 | int y=>exact ⟨y,rfl,e⟩
 | _=>exact no1 e
theorem Good.d40 (g:Good C sc k):C.A.depth + 40 < recursionLimit:=Nat.lt_of_le_of_lt (Nat.add_le_add_right (Nat.le_add_right _ _) _) g.dep
theorem Good.yB (g:Good C sc k):C.A.units + 400 < cLine:=Nat.lt_of_le_of_lt (Nat.add_le_add_right (Nat.le_add_right _ _) _) g.uni
theorem r8 {i:Nat} {cs:List Nat} {line:Int} {push:List Str} {p:PV} (e:uM i cs line push μ = some (p,μ')):(push = []∧μ' = μ.set i (.lex (aA cs 0).2.1 (line + (aA cs 0).2.2) [])∧p = .str ⟨(aA cs 0).1.reverse.toArray⟩)∨∃ x r,push = x :: r∧μ' = μ.set i (.lex cs line r)∧p = .str x:=by
 induction push using List.casesOn with
 | nil=>refine so2m e ?_;exact .inl ⟨rfl,rfl,rfl⟩
 | cons x r=>refine so2m e ?_;exact .inr ⟨x,r,rfl,rfl,rfl⟩
theorem jE (g:Good C sc k) {i:Nat} {n:MT} {ps:List PV} {p:PV} {x:Value} {vs:List Value} (e:fE i n ps μ = some (p,μ')) (hx:IsV (.ref i) x W) (hv:aL ps vs W) (q:Rep C sc loc μ W s.heap) :
  (n = MT.get_token∧Giv C sc loc W s (call (.ref C.fT) (x :: vs)) (IsV p) μ')∨(n = MT.push_token∧Giv C sc loc W s (call (.ref C.fP) (x :: vs)) (IsV p) μ'):=by
 refine cw e fun o e2 e=>?_
 (have q0:=RV.r' hx;clear hx;obtain ⟨a,rfl,ea⟩:=q0)
 have L:=g.base.lexc
 have hb:C.hb.StaysIn s.heap:=fun b o e=>q.keep b o (g.hb b o e)
 induction o using MO.casesOn with
 | lex cs line push =>
  (have q0:=q.lex e2 ea;clear e2 ea;obtain ⟨l,c,hi,hl,rfl,hall,hnd,hcf,hc⟩:=q0)
  have up:∀ {h':Heap} {l':Led} {cs' n' ps'},C.LX c cs' n' ps' l'→l'.map (·.1) = l.map (·.1)→(∀ p∈l',h'.get? p.1 = some p.2)→(∀ b o,b ∉ l.map (·.1)→s.heap.get? b = some o→h'.get? b = some o) →
    Rep C sc loc (μ.set i (.lex cs' n' ps')) { W with led:=W.led.set i l' } h':=fun a b c' d=>q.upd hi b c' d ⟨c,hcf,a⟩
  induction n using MT.casesOn with
  | get_token =>
   refine .inl ⟨rfl,fun Q hQ=>?_⟩
   obtain ⟨rfl,e⟩:=dY e
   obtain rfl:=RVs.zero hv
   refine L.tok g.hnd (cQ g.d40 rfl) (cQ g.yB rfl) hb hl hc hall hnd fun h' tk l' t a b c d=>?_
   rcases r8 e with ⟨rfl,rfl,rfl⟩ | ⟨x,r,rfl,rfl,rfl⟩
   ·exact hQ _ h' tk _ (up a b c d) (Wd.le.upd hi b) (RV.x _ _)
   ·exact hQ _ h' tk _ (up a b c d) (Wd.le.upd hi b) (RV.x _ _)
  | push_token =>
   refine .inr ⟨rfl,fun Q hQ=>?_⟩
   obtain ⟨y,rfl,e⟩:=cL e
   obtain ⟨y,rfl,e⟩:=d7 e
   (have q0:=RVs.one hv;clear hv;obtain ⟨v,rfl,hv1⟩:=q0)
   (have q0:=RV.x' hv1;clear hv1;obtain ⟨t,rfl⟩:=q0)
   refine au (M.pif e) fun h3 e=>?_
   (refine dF e fun q1 q2=>?_;subst q1;subst q2)
   exact L.push g.hnd (cQ g.d40 rfl) (cQ g.yB rfl) hb hl hc h3 hall hnd fun h' tk l' a b c d=>hQ _ h' tk _ (up a b c d) (Wd.le.upd hi b) RV.n
  | _=>exact no1 e
 | _=>exact no1 e
end
end Mine
end
section
namespace Mine
open PySem PySem.W PySem.Spec PySem.Calls PyProof.Rows
section
variable {C:Ctx} {sc:Sc} {loc loc' loc'':Loc} {μ μ' μ'' μ₁ μ₂ μ₃:Mem} {W W':Wd} {s:Shared} {α β:Type} {k:Nat} {r:R}
theorem M.i5 {α:Type} {b:Bool} {x y:M α} {μ:Mem} {z:α × Mem} (e:(if b = true then x else y) μ = some z):(b = true∧x μ = some z)∨(b = false∧y μ = some z):=by
 induction b using Bool.casesOn with
 | true=>exact .inl ⟨rfl,e⟩
 | false=>exact .inr ⟨rfl,e⟩
noncomputable def A9 (i:Nat) (n:MT) (args:List PV) (o:MO):M PV:=match o with
 | .lex cs line push=>(match n with
  | .get_token=>ip args (uM i cs line push)
  | .push_token=>fj args fun x=>fY x (qm i cs line push)
  | _=>M.no)
 | _=>M.no
theorem tQ {i:Nat} {n:MT} {args:List PV} {o:MO} {z:PV × Mem} (e:A9 i n args o μ = some z):n = .get_token∨n = .push_token:=by
 induction o using MO.casesOn with
 | lex cs line push=>induction n using MT.casesOn with
  | get_token=>exact .inl rfl
  | push_token=>exact .inr rfl
  | _=>exact no1 e
 | _=>exact no1 e
theorem uf {i:Nat} {n:MT} {args:List PV} {z:PV × Mem} (e:fE i n args μ = some z):n = .get_token∨n = .push_token:=by
 obtain ⟨a,b⟩:=z
 refine ag e fun o μ₁ _ e=>?_
 exact tQ (i:=i) (args:=args) (o:=o) e
theorem qj (g:Good C sc k) (I:OkR C sc r) {o:CE} {n:MT} {ap p:Pos} {args:List CE} (hm:cc o ap p args = true) {i:Nat} {cs:List Nat} {ln:Int} {pu:List Str} {ps:List PV} {pv:PV} (e1:r.ev sc loc o μ = some (.ref i,μ₁)) (el:μ₁[i]? = some (.lex cs ln pu))
  (e2:evL r sc loc args μ₁ = some (ps,μ₂)) (e3:fE i n ps μ₂ = some (pv,μ₃)) (q:Rep C sc loc μ W s.heap) :
  Giv C sc loc W s (eval ((CE.meth o n ap args p).toE C.nm) C.env) (IsV pv) μ₃:=by
 refine x03 (hG hm) fun h1 h2 h3=>?_
 intro Q hQ
 (refine rwG (CE.s9 ..) ?_;refine rwG (arm_eval_Call ..) ?_;refine rwG (eH _ _ _ _ h3) ?_)
 refine wpAny_bind (I.ev e1 q _ fun x h' tk W' q' l' hx=>?_)
 refine wpAny_bind (wpAny_standAt ?_)
 have hform:methodCallForm ((CE.aC C.nm args).length + ([]:List Keyword).length) (backTo p (starEach (CE.aC C.nm args) C.env)) (backToKw p (keywordEach [] C.env)) = true:=by
  unfold methodCallForm
  (refine rwG (bq ..) ?_;refine rwG (iS ..) ?_;refine rwG (c0 ..) ?_)
  exact Bool.and_eq_true_iff.mpr ⟨rfl,decide_eq_true (Nat.lt_of_le_of_lt h2 (by decide))⟩
 have hpos:methodCallPos true (o.toE C.nm) C.env ap p = pure p:=by unfold methodCallPos;refine rwG h1 ?_;rfl
 unfold methodCall
 refine rwG hform ?_
 obtain ⟨a,rfl,ea⟩:=RV.r' hx
 obtain ⟨l,c,hi,hl,rfl,hall,_,_,hc'⟩:=q'.lex el ea
 have L:=g.base.lexc
 have hb:C.hb.StaysIn h':=fun b o e=>q'.keep b o (g.hb b o e)
 have key:∀ f,((n.str == ("get_token":Str)) = true∧f = C.fT∨(n.str == ("push_token":Str)) = true∧f = C.fP)→(∃ o fd,C.hb.get? f = some o∧o.data = .func fd) →
   (∀ x vs W' (s':Shared),Rep C sc loc μ₂ W' s'.heap→IsV (.ref i) x W'→aL ps vs W'→Giv C sc loc W' s' (call (.ref f) (x :: vs)) (IsV pv) μ₃) →
   wpAny (model C.prog C.w) C.A (holding [.ref (adr l)] (calleeOf true (o.toE C.nm) C.env (.ref (adr l)) n.str) >>= fun d=>methodCallPos true (o.toE C.nm) C.env ap p >>= fun pp=>callWith pp d.1 d.2 (backTo p (starEach (CE.aC C.nm args) C.env)) (backToKw p (keywordEach [] C.env))) Q NoE { s with heap:=h',toks:=tk }:=fun f hf ⟨of,fd,ho,hd⟩ hc=>by
  refine wpAny_bind (wpAny_holding ?_)
  unfold calleeOf
  rw [if_pos rfl]
  refine L.look (x:=n.str) (s:={ s with heap:=h',toks:=tk }) hf g.hnd hb hl hc' hall (wpAny_bind (wpAny_of_eq hpos ?_))
  rw [bq]
  refine callWith_function (dK I (s:={ s with heap:=h',toks:=tk }) e2 q' fun as h'' tk' W'' q'' l'' has=>⟨⟨q''.keep _ _ (g.hb _ _ ho),hd⟩, ?_⟩)
  exact hc _ as W'' { s with heap:=h'',toks:=tk' } q'' (hx.le l'') has Q fun a h3 tk3 W3 q3 l3 ha=>hQ a h3 tk3 W3 q3 ((l'.trans l'').trans l3) ha
 rcases uf e3 with rfl | rfl
 ·exact key C.fT (.inl ⟨beq_self_eq_true _,rfl⟩) L.fnT fun x vs W' s' q2 hx2 hv2=>(jE g e3 hx2 hv2 q2).elim (·.2) fun h=>nomatch h.1
 ·exact key C.fP (.inr ⟨beq_self_eq_true _,rfl⟩) L.fnP fun x vs W' s' q2 hx2 hv2=>(jE g e3 hx2 hv2 q2).elim (fun h=>nomatch h.1) (·.2)
noncomputable def MG (C:Ctx) (sc:Sc) (loc:Loc) (μ₁ μ₂ μ₃:Mem) (ov:PV) (n:MT) (ps:List PV) (pv:PV):Prop :=
 ∃ T id:String,PlainAttrs T∧Slot T n.str id∧typeOf (.builtin id) = pure (.type "method_descriptor") ∧
  (∀ x W' (s':Shared),Rep C sc loc μ₁ W' s'.heap→IsV ov x W'→s'.TypeIs x T∧∀ a,x = .ref a→∃ ob,s'.heap.get? a = some ob∧ob.dict = none) ∧
  ∀ x vs W' (s':Shared),Rep C sc loc μ₂ W' s'.heap→IsV ov x W'→aL ps vs W'→Giv C sc loc W' s' (call (.builtin id) (x :: vs)) (IsV pv) μ₃
theorem MG.of {T id:String} {ov:PV} {n:MT} {ps:List PV} {pv:PV} (a:PlainAttrs T) (b:Slot T n.str id) (c:typeOf (.builtin id) = pure (.type "method_descriptor"))
  (hT:∀ x W' (s':Shared),Rep C sc loc μ₁ W' s'.heap→IsV ov x W'→s'.TypeIs x T∧∀ a,x = .ref a→∃ ob,s'.heap.get? a = some ob∧ob.dict = none)
  (hc:∀ x vs W' (s':Shared),Rep C sc loc μ₂ W' s'.heap→IsV ov x W'→aL ps vs W'→Giv C sc loc W' s' (call (.builtin id) (x :: vs)) (IsV pv) μ₃):MG C sc loc μ₁ μ₂ μ₃ ov n ps pv:=⟨T,id,a,b,c,hT,hc⟩
theorem rG {i:Nat} {l:List PV} {p:PV} (e:xD i l μ = some (p,μ')):l.length ≤ ah∧l.getLast? = some p∧μ' = μ.set i (.lst l.dropLast):=by
 refine au (M.pif e) fun h e=>?_
 refine ⟨h, ?_⟩
 cases hl:l.getLast? with
 | none=>rw [hl] at e;exact no1 e
 | some x=>rw [hl] at e;refine so2m e ?_;exact ⟨rfl,rfl⟩
theorem rV {i:Nat} {l ps:List PV} {p:PV} (e:y4 sc i l ps μ = some (p,μ')):∃ x,ps = [x]∧l.length ≤ ah∧p = .none∧μ' = μ.set i (.lst (l ++ [x])):=by
 rcases ps with _ | ⟨x,_ | ⟨_,_⟩⟩
 ·exact no1 e
 ·refine au (M.pif e) fun h e=>?_
  refine so2m e ?_
  exact ⟨x,rfl,of_decide_eq_true (eP h).2,rfl,rfl⟩
 ·exact no1 e
theorem zx {i:Nat} {l0:List PV} {n:MT} {ps:List PV} {pv:PV} (k2:μ₁[i]? = some (.lst l0)) (e:pG sc i n ps μ₂ = some (pv,μ₃)):MG C sc loc μ₁ μ₂ μ₃ (.ref i) n ps pv:=by
 have hT:∀ x W' (s':Shared),Rep C sc loc μ₁ W' s'.heap→IsV (.ref i) x W'→s'.TypeIs x "list"∧∀ a,x = .ref a→∃ ob,s'.heap.get? a = some ob∧ob.dict = none:=fun x W' s' q' hx=>by
  obtain ⟨a,rfl,ea⟩:=RV.r' hx
  refine x23 (q'.lst k2 ea) fun vs n hi rs hg=>?_
  exact kN rfl hg rfl rfl
 clear k2
 refine x22 (cG e) fun ob μ₆ m1 e=>?_
 obtain ⟨m2,rfl⟩:=get_some m1
 clear m1
 induction ob using MO.casesOn with
 | lst l =>
  induction n using MT.casesOn with
  | append =>
   obtain ⟨x,rfl,hl,rfl,rfl⟩:=rV e
   refine .of PySem.F.plainAttrs_list PySem.F.slot_list_append PySem.F.type_list_append hT fun x vs W' s' q' hx hv=>?_
   obtain ⟨v,rfl,hv1⟩:=RVs.one hv
   exact rL m2 hl hx hv1 q'
  | pop =>
   obtain ⟨rfl,e⟩:=dY e
   obtain ⟨hl,hlast,rfl⟩:=rG e
   refine .of PySem.F.plainAttrs_list PySem.F.slot_list_pop PySem.F.type_list_pop hT fun x vs W' s' q' hx hv=>?_
   obtain rfl:=RVs.zero hv
   exact y5 m2 hl hlast hx q'
  | reverse =>
   obtain ⟨rfl,e⟩:=dY e
   refine au (M.pif e) fun hl e=>?_
   refine so2m e ?_
   refine .of PySem.F.plainAttrs_list PySem.F.slot_list_reverse PySem.F.type_list_reverse hT fun x vs W' s' q' hx hv=>?_
   obtain rfl:=RVs.zero hv
   exact qC m2 hl hx q'
  | _=>exact no1 e
 | _=>exact no1 e
theorem wk {a:Str} {y pv:PV} (e:u7 a y μ₂ = some (pv,μ₃)) {x:Value} {vs:List Value} (hx:IsV (.str a) x W) (hv:aL [y] vs W) (q:Rep C sc loc μ₂ W s.heap):Giv C sc loc W s (call (.builtin "str.join") (x :: vs)) (IsV pv) μ₃:=by
 obtain ⟨v,rfl,hv1⟩:=RVs.one hv
 clear hv
 induction y using PV.casesOn with
 | lst l =>
  obtain ⟨b,ws,n,rfl,m,rs⟩:=RV.l' hv1
  exact pP e hx (q.fzs _ m) rs q
 | ref j =>
  refine cw e fun ob m5 e=>?_
  obtain ⟨b,rfl,eb⟩:=RV.r' hv1
  induction ob using MO.casesOn with
  | lst l =>
   refine x23 (q.lst m5 eb) fun ws n hi rs hg=>?_
   exact pP e hx hg rs q
  | _=>exact no1 e
 | _=>exact no1 e
theorem yw (g:Good C sc k) {a:Str} {n:MT} {ps:List PV} {pv:PV} (e:pn a n ps μ₂ = some (pv,μ₃)):MG C sc loc μ₁ μ₂ μ₃ (.str a) n ps pv:=by
 have hT:∀ x W' (s':Shared),Rep C sc loc μ₁ W' s'.heap→IsV (.str a) x W'→s'.TypeIs x "str"∧∀ b,x = .ref b→∃ ob,s'.heap.get? b = some ob∧ob.dict = none:=fun x W' s' q' hx=>by
  obtain ⟨t,rfl⟩:=RV.x' hx
  exact ⟨typeIs_str _ _ _,fun a e=>nomatch e⟩
 induction n using MT.casesOn with
 | count =>
  obtain ⟨y,rfl,e⟩:=cL e
  obtain ⟨y,rfl,e⟩:=d7 e
  refine so2m e ?_
  refine .of PySem.F.plainAttrs_str PySem.F.slot_str_count PySem.F.type_str_count hT fun x vs W' s' q' hx hv=>?_
  obtain ⟨v,rfl,hv1⟩:=RVs.one hv
  exact sQ hx hv1 q'
 | join =>
  obtain ⟨y,rfl,e⟩:=cL e
  exact .of PySem.F.plainAttrs_str PySem.F.slot_str_join PySem.F.type_str_join hT fun x vs W' s' q' hx hv=>wk e hx hv q'
 | split =>
  obtain ⟨y,rfl,e⟩:=cL e
  obtain ⟨y,rfl,e⟩:=d7 e
  refine au (M.pif e) fun hc e=>?_
  refine so2m e ?_
  refine .of PySem.F.plainAttrs_str PySem.F.slot_str_split PySem.F.type_str_split hT fun x vs W' s' q' hx hv=>?_
  obtain ⟨v,rfl,hv1⟩:=RVs.one hv
  exact sZ hc hx hv1 g q'
 | _=>exact no1 e
theorem yx {a:Int} {n:MT} {ps:List PV} {pv:PV} (e:pQ a n ps μ₂ = some (pv,μ₃)):MG C sc loc μ₁ μ₂ μ₃ (.int a) n ps pv:=by
 induction n using MT.casesOn with
 | bit_length =>
  obtain ⟨rfl,e⟩:=dY e
  refine so2m e ?_
  refine .of PySem.F.plainAttrs_int PySem.F.slot_int_bit_length PySem.F.type_int_bit_length (fun x W' s' q' hx=>?_) fun x vs W' s' q' hx hv=>?_
  ·obtain ⟨t,rfl⟩:=RV.i' hx
   exact ⟨typeIs_int _ _ _,fun a e=>nomatch e⟩
  ·obtain rfl:=RVs.zero hv
   exact pT hx q'
 | _=>exact no1 e
theorem xH {l:List (Int × PV)} {n:MT} {ps:List PV} {pv:PV} (e:oV l n ps μ₂ = some (pv,μ₃)):MG C sc loc μ₁ μ₂ μ₃ (.dic l) n ps pv:=by
 induction n using MT.casesOn with
 | get =>
  rcases ps with _ | ⟨x,_ | ⟨d,_ | ⟨_,_⟩⟩⟩
  ·exact no1 e
  ·exact no1 e
  ·obtain ⟨i,rfl,e⟩:=ee e
   refine au (M.pif e) fun _ e=>?_
   refine so2m e ?_
   refine .of PySem.F.plainAttrs_dict PySem.F.slot_dict_get PySem.F.type_dict_get (fun x W' s' q' hx=>?_) fun x vs W' s' q' hx hv=>?_
   ·obtain ⟨a,o,f,rfl,m,dq,es⟩:=RV.d' hx
    exact kN rfl (q'.fzs _ m) dq.1 dq.2.1
   ·obtain ⟨v,u,rfl,hv1,hv2⟩:=RVs.two hv
    exact vC hx hv1 hv2 q'
  ·exact no1 e
 | _=>exact no1 e
theorem wY {l:List PV} {n:MT} {ps:List PV} {pv:PV} (e:nu l n ps μ₂ = some (pv,μ₃)):MG C sc loc μ₁ μ₂ μ₃ (.lst l) n ps pv:=by
 induction n using MT.casesOn with
 | index =>
  obtain ⟨y,rfl,e⟩:=cL e
  refine au (M.pif e) fun hl e=>?_
  obtain ⟨m4,rfl⟩:=bQ e
  refine AG m4 fun j m5=>?_
  refine .of PySem.F.plainAttrs_list PySem.F.slot_list_index PySem.F.type_list_index (fun x W' s' q' hx=>?_) fun x vs W' s' q' hx hv=>?_
  ·obtain ⟨a,vs,n,rfl,m,rs⟩:=RV.l' hx
   exact kN rfl (q'.fzs _ m) rfl rfl
  ·obtain ⟨v,rfl,hv1⟩:=RVs.one hv
   exact s6 m5 hl hx hv1 q'
 | _=>exact no1 e
theorem AV (g:Good C sc k) {ov:PV} {mk:MK} {n:MT} {ps:List PV} {pv:PV} (ek:d9 ov μ₁ = some (mk,μ')) (e:fk sc mk ov n ps μ₂ = some (pv,μ₃)):μ₁ = μ'∧((∃ i cs ln pu,ov = .ref i∧μ₁[i]? = some (.lex cs ln pu)∧fE i n ps μ₂ = some (pv,μ₃))∨MG C sc loc μ₁ μ₂ μ₃ ov n ps pv):=by
 induction ov using PV.casesOn with
 | ref i =>
  refine cw ek fun ob k2 ek=>?_
  induction ob using MO.casesOn with
  | lst l0=>(refine dF ek fun q1 q2=>?_;subst q1;subst q2);exact ⟨rfl,.inr (zx k2 e)⟩
  | lex cs ln pu=>(refine dF ek fun q1 q2=>?_;subst q1;subst q2);exact ⟨rfl,.inl ⟨i,cs,ln,pu,rfl,k2,e⟩⟩
  | _=>exact no1 ek
 | int a=>(refine dF ek fun q1 q2=>?_;subst q1;subst q2);exact ⟨rfl,.inr (yx e)⟩
 | str a=>(refine dF ek fun q1 q2=>?_;subst q1;subst q2);exact ⟨rfl,.inr (yw g e)⟩
 | dic l=>(refine dF ek fun q1 q2=>?_;subst q1;subst q2);exact ⟨rfl,.inr (xH e)⟩
 | lst l=>(refine dF ek fun q1 q2=>?_;subst q1;subst q2);exact ⟨rfl,.inr (wY e)⟩
 | _=>exact no1 ek
theorem wA (g:Good C sc k) (I:OkR C sc r) {o:CE} {n:MT} {ap p:Pos} {args:List CE} {pv:PV} (hm:cc o ap p args = true) {ov:PV} {mk:MK} {ps:List PV} (e1:r.ev sc loc o μ = some (ov,μ₁)) (ek:d9 ov μ₁ = some (mk,μ')) (e2:evL r sc loc args μ' = some (ps,μ₂)) (e3:fk sc mk ov n ps μ₂ = some (pv,μ₃)) (q:Rep C sc loc μ W s.heap) :
  Giv C sc loc W s (eval ((CE.meth o n ap args p).toE C.nm) C.env) (IsV pv) μ₃:=by
 obtain ⟨rfl,⟨i,cs,ln,pu,rfl,k2,e⟩ | ⟨T,id,h1,h2,h3,hT,hc⟩⟩:=AV (loc:=loc) g ek e3
 ·exact qj g I hm e1 k2 e2 e q
 ·exact vM I hm e1 e2 q T id h1 h2 h3 hT hc
end
end Mine
end
section
namespace Mine
open PySem PySem.W PySem.Spec PySem.Calls PyProof.Rows
section
variable {C:Ctx} {sc:Sc} {loc loc' loc'':Loc} {μ μ' μ'' μ₁ μ₂ μ₃:Mem} {W W':Wd} {s:Shared} {α β:Type} {k:Nat} {r:R}
noncomputable def jw (s:Shared) (x:Value):Prop:=∃ T id,s.TypeIs x T∧typeLookup (.type T) "__getitem__" = pure (some (.builtin id))
theorem uH {p kk v:PV} {x:Value} (e:getM p kk μ = some (v,μ')) (hx:IsV p x W) (q:Rep C sc loc μ W s.heap):jw s x:=by
 by_cases hr:∃ i,p = .ref i
 ·obtain ⟨i,rfl⟩:=hr
  refine cw e fun o e2 e=>?_
  refine RV.kr hx fun a ea=>?_
  induction o using MO.casesOn with
  | lst l =>
   refine x23 (q.lst e2 ea) fun vs n _ rs hg=>?_
   exact ⟨"list",_,⟨_,hg,rfl⟩,list_getitem_lookup⟩
  | dic l =>
   refine x24 (q.dic e2 ea) fun o f _ dq es hg=>?_
   exact ⟨"dict",_,⟨o,hg,dq.1⟩,slot_dict_getitem.lookup⟩
  | _=>exact no1 e
 ·obtain ⟨e1,_⟩:=bQ ((ll hr μ).symm.trans e)
  refine x13 (fb e1) fun j _ _ e4=>?_
  clear e e1 hr
  induction p using PV.casesOn with
  | lst l =>
   refine RV.kl hx fun a vs n m rs=>?_
   exact ⟨"list",_,⟨_,q.fzs _ m,rfl⟩,list_getitem_lookup⟩
  | tup l =>
   refine RV.kt hx fun a o vs n m hc hd rs=>?_
   exact ⟨"tuple",_,⟨o,q.fzs _ m,hc⟩,PySem.F.slot_tuple_getitem.lookup⟩
  | dic l =>
   refine RV.kd hx fun a o f m dq es=>?_
   exact ⟨"dict",_,⟨o,q.fzs _ m,dq.1⟩,slot_dict_getitem.lookup⟩
  | str y =>
   refine RV.kx hx fun t=>?_
   exact ⟨"str",_,typeIs_str _ _ _,PySem.F.slot_str_getitem.lookup⟩
  | _=>exact no1 e4
theorem rZ (slice:PySem.Expr) (x y:Value):∃ vs,subscripted slice false x y = operate vs (getItem x y):=by
 induction slice using PySem.Expr.casesOn with
 | Slice a b c p=>induction c using Option.casesOn with
  | none=>exact ⟨_,rfl⟩
  | some c=>exact ⟨_,rfl⟩
 | _=>exact ⟨_,rfl⟩
theorem iP {slice value:PySem.Expr} {x y:Value} {p:PV} (hg:jw s x) (h:Giv C sc loc W s (getItem x y) (IsV p) μ) :
  Giv C sc loc W s (getitemInPython x >>= fun b=>subscripted slice b x y >>= fun rv=>letTemporaryGo value x rv >>= fun _=>pure rv) (IsV p) μ:=by
 refine x22 hg fun T id hT hl=>?_
 intro Q hQ
 have fin:∀ vs,wpAny (model C.prog C.w) C.A (operate vs (getItem x y)) (fun rv s₃=>wpAny (model C.prog C.w) C.A (letTemporaryGo value x rv >>= fun _=>pure rv) Q NoE s₃) NoE s:=fun vs =>
  wpAny_operating (h _ fun a h' tk W' r l ra=>wpAny_bind (wpAny_letTemporaryGo (wpAny_pure (hQ a h' tk W' r l ra))))
 refine wpAny_bind ?_
 refine rwG (getitemInPython_of_ne hT.not_modules) ?_
 refine wpAny_bind (wpAny_specialOf hT hl ?_)
 refine (?_:wpAny _ _ (pure false) _ _ _)
 refine wpAny_pure (wpAny_bind ?_)
 obtain ⟨us,hu⟩:=rZ slice x y
 refine rwG hu ?_
 exact fin us
theorem y6 (I:OkR C sc r) {v i:CE} {pos:Pos} {x y p:PV} (e1:r.ev sc loc v μ = some (x,μ₁)) (e2:r.ev sc loc i μ₁ = some (y,μ₂)) (e3:getM x y μ₂ = some (p,μ₃)) (q:Rep C sc loc μ W s.heap) :
  Giv C sc loc W s (eval (.Subscript (v.toE C.nm) (i.toE C.nm) pos) C.env) (IsV p) μ₃:=by
 skip
 refine Giv.bind (I.ev e1 q) fun a h' tk W' q' l' ha=>Giv.bind (Giv.hold (I.ev (s:={ s with heap:=h',toks:=tk }) e2 q')) fun b h'' tk' W'' q'' l'' hb=>Giv.skip ?_
 exact iP (uH (s:={ s with heap:=h'',toks:=tk' }) e3 (ha.le l'') q'') (pJ e3 (ha.le l'') hb q'')
noncomputable def IsO (o:Option PV) (v:Value) (W:Wd):Prop:=match o with
 | none=>v = .none
 | some p=>IsV p v W
theorem IsO.le {o:Option PV} {v:Value} (h:IsO o v W) (l:W.le W'):IsO o v W':=by
 induction o using Option.casesOn with
 | none=>exact h
 | some p=>exact RV.le h l
theorem mx (I:OkR C sc r) {o:Option CE} {x:Option PV} (e:evO r sc loc o μ = some (x,μ')) (q:Rep C sc loc μ W s.heap):Giv C sc loc W s (evalPart (CE.toO C.nm o) C.env) (IsO x) μ':=by
 induction o using Option.casesOn with
 | none =>
  obtain ⟨rfl,rfl⟩:=ai e
  skip
  exact Giv.done q rfl
 | some c =>
  refine ag e fun v μ₁ e1 e=>?_
  obtain ⟨rfl,rfl⟩:=ai e
  skip
  exact I.ev e1 q
noncomputable def SlV (l':List PV) (va vb vc:Value) (vs:List Value) (W:Wd):Prop:=∃ lo hi st vs',IsPart va lo∧IsPart vb hi∧IsPart vc st∧st ≠ some 0∧slicePick vs.toArray lo hi st = List.toArray vs'∧aL l' vs' W
theorem p7 {l l':List PV} {a b c:Option PV} {va vb vc:Value} {vs:List Value} (e:nk l a b c = some l') (rs:aL l vs W) (ha:IsO a va W) (hb:IsO b vb W) (hc:IsO c vc W):SlV l' va vb vc vs W:=by
 induction a using Option.casesOn with
 | none =>
  obtain rfl:va = .none:=ha
  induction b using Option.casesOn with
  | none =>
   obtain rfl:vb = .none:=hb
   induction c using Option.casesOn with
   | none=>exact no1 e
   | some p =>
    obtain ⟨n,rfl,e⟩:=bI e
    obtain ⟨t,rfl⟩:=RV.i' (show IsV (.int n) vc W from hc)
    obtain ⟨rfl,e⟩:=oif e
    refine so1m e ?_
    exact ⟨none,none,some (-1),vs.reverse,.none,.none,.int _ _,nofun,by rw [krv_pick],rs.rev⟩
  | some p=>induction c using Option.casesOn with
   | none =>
    obtain rfl:vc = .none:=hc
    obtain ⟨n,rfl,e⟩:=bI e
    obtain ⟨t,rfl⟩:=RV.i' (show IsV (.int n) vb W from hb)
    refine au (oif e) fun _ e=>?_
    by_cases h0:0 ≤ n
    ·rw [if_pos h0] at e
     refine so1m e ?_
     obtain ⟨j,rfl⟩:=Int.eq_ofNat_of_zero_le h0
     exact ⟨none,some (j:Int),none,vs.take j,.none,.int _ _,.none,nofun,by rw [slicePick_upto'],rs.take j⟩
    ·rw [if_neg h0] at e
     refine so1m e ?_
     refine ⟨none,some n,none,vs.take (vs.length - n.natAbs),.none,.int _ _,.none,nofun, ?_,by refine rwH rs.len ?_;exact rs.take _⟩
     have hn:-((n.natAbs:Nat):Int) = n:=by rw [Int.ofNat_natAbs_of_nonpos (Int.le_of_lt (Int.not_le.mp h0)),Int.neg_neg]
     have:=slicePick_butLast vs.toArray n.natAbs (Int.natAbs_pos.mpr fun h=>h0 (h ▸ Int.le_refl _))
     rw [hn,List.size_toArray] at this
     exact this
   | some _=>exact no1 e
 | some p=>induction b using Option.casesOn with
  | none =>
   obtain rfl:vb = .none:=hb
   induction c using Option.casesOn with
   | none =>
    obtain rfl:vc = .none:=hc
    obtain ⟨n,rfl,e⟩:=bI e
    obtain ⟨t,rfl⟩:=RV.i' (show IsV (.int n) va W from ha)
    refine au (oif e) fun h0 e=>?_
    refine so1m e ?_
    obtain ⟨j,rfl⟩:=Int.eq_ofNat_of_zero_le h0.1
    exact ⟨some (j:Int),none,none,vs.drop j,.int _ _,.none,.none,nofun,by rw [slicePick_from'],rs.drop j⟩
   | some _=>exact no1 e
  | some _=>exact no1 e
theorem oq {x p:PV} {a b c:Option PV} (e:fH x a b c = some p):(∃ l l',x = .lst l∧l.length ≤ ah∧nk l a b c = some l'∧p = .lst l') ∨
  ∃ y n,x = .str y∧y.length ≤ ah∧a = none∧b = some (.int n)∧c = none∧p = .str (Txt.slice y none (some n)):=by
 induction x using PV.casesOn with
 | lst l =>
  refine au (oif e) fun h e=>?_
  obtain ⟨l',e',rfl⟩:=Option.map_eq_some_iff.mp e
  exact .inl ⟨l,l',rfl,h,e',rfl⟩
 | str y =>
  refine au (oif e) fun h e=>?_
  induction a using Option.casesOn with
  | some _=>exact no1 e
  | none =>
   induction b using Option.casesOn with
   | none=>exact no1 e
   | some q =>
    induction c using Option.casesOn with
    | some _=>exact no1 e
    | none =>
     obtain ⟨n,rfl,e⟩:=bI e
     refine au (oif e) fun _ e=>?_
     exact .inr ⟨y,n,rfl,h,rfl,rfl,rfl,(so1 e).symm⟩
 | _=>exact no1 e
theorem xt (g:Good C sc k) (I:OkR C sc r) {v:CE} {lo hi st:Option CE} {sp pos:Pos} {x p:PV} {a b c:Option PV} (e1:r.ev sc loc v μ = some (x,μ₁)) (e2:evO r sc loc lo μ₁ = some (a,μ₂)) (e3:evO r sc loc hi μ₂ = some (b,μ₃)) (e4:evO r sc loc st μ₃ = some (c,μ')) (e5:fH x a b c = some p) (q:Rep C sc loc μ W s.heap) :
  Giv C sc loc W s (eval (.Subscript (v.toE C.nm) (.Slice (CE.toO C.nm lo) (CE.toO C.nm hi) (CE.toO C.nm st) sp) pos) C.env) (IsV p) μ':=by
 intro Q hQ
 refine wpAny_bind (I.ev e1 q _ fun xv h1 tk1 W1 q1 l1 hx=>wpAny_bind (wpAny_holding (wpAny_Slice (mx I (s:={ s with heap:=h1,toks:=tk1 }) e2 q1 _ fun va h2 tk2 W2 q2 l2 ha=>mx I (s:={ s with heap:=h2,toks:=tk2 }) e3 q2 _ fun vb h3 tk3 W3 q3 l3 hb =>
  mx I (s:={ s with heap:=h3,toks:=tk3 }) e4 q3 _ fun vc h4 tk4 W4 q4 l4 hc=>wpAny_bind (wpAny_standAt ?_)))))
 have hx4:=((hx.le l2).le l3).le l4
 have q5:Rep C sc loc μ' W4 (h4.push { cls:=.type "slice",data:=.fields #[va,vb,vc] }):=q4.same fun b o e=>Heap.get?_push_of_some _ e
 rcases oq e5 with ⟨l,l',rfl,hl,e6,rfl⟩ | ⟨y,n,rfl,hl,rfl,rfl,rfl,rfl⟩
 ·obtain ⟨ad,vs,n,rfl,m,rs⟩:=RV.l' hx4
  have hg5:=q5.fzs _ m
  obtain ⟨lo',hi',st',vs',p1,p2,p3,h0,hp,rs'⟩:=p7 e6 rs ((ha.le l3).le l4) (hb.le l4) hc
  have G:Giv C sc loc W4 { s with heap:=h4.push { cls:=.type "slice",data:=.fields #[va,vb,vc] },toks:=tk4 } (getItem (.ref ad) (.ref h4.objs.size)) (IsV (.lst l')) μ':=fun Q hQ=>by
   refine wpAny_getItem_list_slice ⟨_,hg5,rfl,n,rfl⟩ (Heap.IsSliceOf.new ..) p1 p2 p3 h0 ?_ (by (refine rwG List.size_toArray ?_;refine rwG rs.len ?_);exact Nat.le_trans hl bB)
   refine rwG hp ?_
   exact hQ _ _ tk4 _ (q5.fro (fun b o e=>Heap.get?_push_of_some _ e) (bf _) (Heap.get?_push_size _ rfl) g.tq) (Wd.le.fro W4 _) (RV.l (.head _) (rs'.le (Wd.le.fro W4 _)))
  have HG:jw { s with heap:=h4.push { cls:=.type "slice",data:=.fields #[va,vb,vc] },toks:=tk4 } (.ref ad):=⟨"list",_,⟨_,hg5,rfl⟩,list_getitem_lookup⟩
  exact iP HG G Q fun a h6 tk6 W6 q6 l6 ha6=>hQ a h6 tk6 W6 q6 (l1.trans (l2.trans (l3.trans (l4.trans l6)))) ha6
 ·obtain ⟨ty,rfl⟩:=RV.x' hx4
  obtain rfl:va = .none:=ha
  obtain ⟨tb,rfl⟩:=RV.i' (show IsV (.int n) vb W3 from hb)
  obtain rfl:vc = .none:=hc
  have G:Giv C sc loc W4 { s with heap:=h4.push { cls:=.type "slice",data:=.fields #[.none,.int n tb,.none] },toks:=tk4 } (getItem (.str y ty) (.ref h4.objs.size)) (IsV (.str (Txt.slice y none (some n)))) μ':=fun Q hQ =>
   wpAny_getItem_str_slice (l:=none) (u:=some (n,tb)) (st:=none) ⟨_,Heap.get?_push_size _ rfl,rfl,rfl⟩ rfl
    (post_val_or_str ⟨Nat.le_trans (Txt.slice_le y _ _) (Nat.le_trans hl bB),fun t' k=>hQ _ _ _ _ q5 (Wd.le.refl _) (RV.x _ _)⟩)
  have HG:jw { s with heap:=h4.push { cls:=.type "slice",data:=.fields #[.none,.int n tb,.none] },toks:=tk4 } (.str y ty):=⟨"str",_,typeIs_str _ _ _,PySem.F.slot_str_getitem.lookup⟩
  exact iP HG G Q fun a h6 tk6 W6 q6 l6 ha6=>hQ a h6 tk6 W6 q6 (l1.trans (l2.trans (l3.trans (l4.trans l6)))) ha6
theorem jx (g:Good C sc k) {ps:List PV} {vs:List Value} (hv:aL ps vs W) (hl:ps.length ≤ 20) (q:Rep C sc loc μ W s.heap) :
  Giv C sc loc W s (newList vs) (IsV (.lst ps)) μ∧Giv C sc loc W s (newList vs) (IsV (.ref μ.length)) (μ ++ [.lst ps]):=by
 have hz:vs.length ≤ sizeLine:=by refine rwG hv.len ?_;exact Nat.le_trans hl (by decide +kernel)
 have hk:∀ b o,s.heap.get? b = some o→(s.heap.push { cls:=.type "list",data:=.seq vs.toArray }).get? b = some o:=fun b o e=>Heap.get?_push_of_some _ e
 have ho:(s.heap.push { cls:=.type "list",data:=.seq vs.toArray }).get? s.heap.objs.size = some { cls:=.type "list",data:=.seq vs.toArray }:=Heap.get?_push_size _ rfl
 constructor
 ·exact fun Q hQ=>wpAny_newList (hQ _ _ s.toks _ (q.fro hk (bf _) ho g.tq) (Wd.le.fro W _) (RV.l (.head _) (hv.le (Wd.le.fro W _)))) hz
 ·refine fun Q hQ=>wpAny_newList (hQ _ _ s.toks _ (q.mut hk (bf _) ho ⟨_,_,vs,rfl,⟨_,rfl⟩,RVs.mono (fun _ h=>h) (Pre.app _ _) hv⟩) (Wd.le.mut W _) ?_) hz
  skip
  refine ⟨_,rfl, ?_⟩
  have hlen:(ads W.led).length = μ.length:=by delta ads;rw [List.length_map,q.mem.len]
  refine (?_:(ads (W.led ++ [[(s.heap.objs.size,_)]]))[μ.length]? = _)
  have e1:ads (W.led ++ [[(s.heap.objs.size,({ cls:=.type "list",data:=.seq vs.toArray }:Obj))]]) = ads W.led ++ [s.heap.objs.size]:=by simp [ads,adr]
  (refine rwG e1 ?_;refine rwH hlen ?_)
  simp
theorem oC (g:Good C sc k) {ps:List PV} {vs:List Value} (hv:aL ps vs W) (hl:ps.length ≤ 20) (q:Rep C sc loc μ W s.heap):Giv C sc loc W s (newTuple vs) (IsV (.tup ps)) μ:=by
 have hz:vs.length ≤ sizeLine:=by refine rwG hv.len ?_;exact Nat.le_trans hl (by decide +kernel)
 exact fun Q hQ=>wpAny_newTuple (hQ _ _ s.toks _ (q.fro (fun b o e=>Heap.get?_push_of_some _ e) (bf _) (Heap.get?_push_size _ rfl) g.tq) (Wd.le.fro W _) (RV.t (.head _) (hv.le (Wd.le.fro W _)))) hz
theorem kA {r:R}:∀ {es:List CE} {μ μ':Mem} {ps:List PV},evL r sc loc es μ = some (ps,μ')→ps.length = es.length
 | [],_,_,_,e=>by obtain ⟨rfl,rfl⟩:=ai e;rfl
 | x :: es,μ,μ',ps,e=>by
  refine ag e fun v μ₁ e1 e=>?_
  refine ag e fun vs μ₂ e2 e=>?_
  obtain ⟨rfl,rfl⟩:=ai e
  (refine rwG List.length_cons ?_;refine rwG List.length_cons ?_;refine rwG (kA e2) rfl)
noncomputable def AM (C:Ctx) (pos:Pos) (ks vs:List CE):List (Sem Value × Sem Value):=pairTrees ((CE.aC C.nm ks).map some) (CE.aC C.nm vs) C.env pos
theorem pairs_len {r:R}:∀ {ks vs:List CE} {μ μ':Mem} {l:List (Int × PV)},evD r sc loc ks vs μ = some (l,μ')→ks.length = vs.length
 | [],[],_,_,_,_=>rfl
 | [],_ :: _,_,_,_,e=>no1 e
 | _ :: _,[],_,_,_,e=>no1 e
 | x :: ks,y :: vs,μ,μ',l,e=>by
  refine ag e fun v μ₁ e1 e=>?_
  refine ag e fun w μ₂ e2 e=>?_
  induction v using PV.casesOn with
  | int i =>
   refine ag e fun l' μ₃ e3 e=>?_
   (refine rwG List.length_cons ?_;refine rwG List.length_cons ?_;refine rwG (pairs_len e3) rfl)
  | _=>exact no1 e
noncomputable def uL (fz:Led) (ad:List Addr):List (Int × PV)→List (Value × Value)→Prop
 | [],vs=>vs = []
 | (i,p) :: r,vs=>∃ t v u,vs = (.int i t,v) :: u∧RV fz ad p v∧uL fz ad r u
theorem sr (I:OkR C sc r) {pos:Pos}:∀ {ks vs:List CE} {μ μ':Mem} {l:List (Int × PV)} {W:Wd} {s:Shared},evD r sc loc ks vs μ = some (l,μ')→Rep C sc loc μ W s.heap→Giv C sc loc W s (evalPairs (AM C pos ks vs)) (fun xs W'=>uL W'.fz (ads W'.led) l xs) μ'
 | [],[],μ,μ',l,W,s,e,q=>by
  obtain ⟨rfl,rfl⟩:=ai e
  exact fun Q hQ=>pairTrees_nil_walk (hQ _ s.heap s.toks W q (Wd.le.refl _) rfl)
 | [],_ :: _,_,_,_,_,_,e,_=>no1 e
 | _ :: _,[],_,_,_,_,_,e,_=>no1 e
 | x :: ks,y :: vs,μ,μ',l,W,s,e,q=>by
  refine ag e fun v μ₁ e1 e=>?_
  refine ag e fun w μ₂ e2 e=>?_
  induction v using PV.casesOn with
  | int i =>
   refine ag e fun l' μ₃ e3 e=>?_
   obtain ⟨rfl,rfl⟩:=ai e
   intro Q hQ
   refine (?_:wpAny _ _ (evalPairs (pairTrees (some (x.toE C.nm) :: (CE.aC C.nm ks).map some) (y.toE C.nm :: CE.aC C.nm vs) C.env pos)) _ _ _)
   refine pairTrees_cons_walk (I.ev e1 q _ fun a h1 tk1 W1 q1 l1 ha=>I.ev (s:={ s with heap:=h1,toks:=tk1 }) e2 q1 _ fun b h2 tk2 W2 q2 l2 hb=>sr I (pos:=pos) (s:={ s with heap:=h2,toks:=tk2 }) e3 q2 _ fun xs h3 tk3 W3 q3 l3 hx=>?_)
   obtain ⟨t,rfl⟩:=RV.i' ha
   exact hQ _ h3 tk3 W3 q3 (l1.trans (l2.trans l3)) ⟨t,b,xs,rfl,hb.le l3,hx⟩
  | _=>exact no1 e
theorem lL {d:Addr}:∀ {ps:List (Int × PV)} {xs:List (Value × Value)} {l:List (Int × PV)} {f:Int→Option Value} {o:Obj} {n:Nat} {s:Shared} (W:Wd),uL W.fz (ads W.led) ps xs→ps.length + n ≤ 20→l.length ≤ n→s.heap.get? d = some o→cM o f l.length→REs W.fz (ads W.led) l f→Rep C sc loc μ { W with hid:=(d,o) :: W.hid } s.heap →
  ∀ Q:PUnit→Shared→Prop,(∀ h' tk o' f',h'.get? d = some o'→cM o' f' (putAll ps l).length→REs W.fz (ads W.led) (putAll ps l) f'→Rep C sc loc μ { W with hid:=(d,o') :: W.hid } h'→Q PUnit.unit { s with heap:=h',toks:=tk })→wpAny (model C.prog C.w) C.A (PySem.storeAll d xs) Q NoE s
 | [],xs,l,f,o,n,s,W,hx,_,_,hg,dq,es,q,Q,hQ=>by
  obtain rfl:xs = []:=hx
  skip
  skip
  exact wpAny_pure (hQ s.heap s.toks o f hg dq es q)
 | (i,p) :: ps,xs,l,f,o,n,s,W,hx,hn,hl,hg,dq,es,q,Q,hQ=>by
  obtain ⟨t,v,u,rfl,hv,hu⟩:=hx
  delta PySem.storeAll
  refine rwG (List.forIn_cons ..) ?_
  rw [List.length_cons] at hn
  refine wpAny_bind (wpAny_bind (nP hg dq (Nat.le_trans (by omega:l.length ≤ 20) (by decide +kernel)) fun h' o' ho' dq' hs=>wpAny_pure ?_))
  have q':=q.nB ho' fun b ob hb e=>hs.extBut b ob hb e
  have hsz:=lF es i p
  have hlen:=iR l i p
  have hle:(dT l i p).length ≤ n + 1:=by
   cases e:lkI l i with
   | none=>rw [hlen.2 e];omega
   | some z =>
    have:∀ (l:List (Int × PV)) (z:PV),lkI l i = some z→(dT l i p).length = l.length:=fun l=>by
     induction l with
     | nil=>intro z e;exact no1 e
     | cons y r ih =>
      intro z e
      obtain ⟨j,w⟩:=y
      rw [lZ] at e
      rw [mN]
      by_cases hj:i = j
      ·rw [if_pos hj];rfl
      ·rw [if_neg hj] at e ⊢;rw [List.length_cons,ih z e];rfl
    rw [this l z e];omega
  exact lL (s:={ s with heap:=h',toks:=s.toks + 1 }) W hu (n:=n + 1) (by omega) hle ho' (dq'.le hsz) (es.put hv) q' Q hQ
theorem Rep.iK {h:Heap} {a:Addr} {o:Obj} {x:MO} (q:Rep C sc loc μ { W with hid:=(a,o) :: W.hid } h) (hm:RM C.LX W.fz (ads W.led ++ [a]) x [(a,o)]):Rep C sc loc (μ ++ [x]) { W with led:=W.led ++ [[(a,o)]] } h:=by
 have ea:ads (W.led ++ [[(a,o)]]) = ads W.led ++ [a]:=by simp [ads,adr]
 have pre:Pre (ads W.led) (ads W.led ++ [a]):=Pre.app _ _
 have perm:({ W with led:=W.led ++ [[(a,o)]] }:Wd).oth.Perm ({ W with hid:=(a,o) :: W.hid }:Wd).oth:=by
  refine (?_:(W.tab ++ (W.hid ++ (W.led ++ [[(a,o)]]).flatten)).Perm (W.tab ++ (((a,o) :: W.hid) ++ W.led.flatten)))
  refine List.Perm.append_left _ ?_
  refine rwG List.flatten_append ?_
  refine (?_:(W.hid ++ (W.led.flatten ++ [(a,o)])).Perm ((a,o) :: (W.hid ++ W.led.flatten)))
  refine rwH (List.append_assoc ..) ?_
  exact List.perm_append_singleton _ _
 have perm2:({ W with led:=W.led ++ [[(a,o)]] }:Wd).own.Perm ({ W with hid:=(a,o) :: W.hid }:Wd).own:=perm.map _
 have mo:∀ b,b∈C.env.locals :: ({ W with led:=W.led ++ [[(a,o)]] }:Wd).own→b∈C.env.locals :: ({ W with hid:=(a,o) :: W.hid }:Wd).own:=fun b hb=>by
  rcases List.mem_cons.mp hb with rfl | hb
  ·exact .head _
  ·exact .tail _ (perm2.mem_iff.mp hb)
 refine x12 q.ns fun m hmn hl=>?_
 refine ⟨⟨m,hmn,fun i p e=>?_⟩,q.keep,q.fzs,fun p hp=>q.all p (perm.mem_iff.mp hp),((List.Perm.cons _ perm2).nodup_iff).mpr q.nd,fun b hb=>q.old b (mo b hb),fun p hp hb=>q.fzo p hp (mo _ hb), ?_,q.tabs,q.kf,fun i id e=>?_⟩
 ·refine x12 (hl i p e) fun v e1 e2=>?_
  exact ⟨v,e1,by refine (?_:RV W.fz (ads (W.led ++ [[(a,o)]])) p v);refine rwG ea ?_;exact RV.mono (fun _ h=>h) pre e2⟩
 ·refine (?_:RMs C.LX W.fz (ads (W.led ++ [[(a,o)]])) _ _)
  refine rwG ea ?_
  exact (RMs.mono (fun _ h=>h) pre q.mem).app ⟨_,[],rfl,hm,rfl⟩
 ·refine x12 (q.cells i id e) fun b e1 e2=>?_
  exact ⟨b,e1,by refine (?_:(ads (W.led ++ [[(a,o)]]))[id]? = some b);refine rwG ea ?_;exact pre _ _ e2⟩
theorem wq (g:Good C sc k) (I:OkR C sc r) {ks vs:List CE} {pos:Pos} {l:List (Int × PV)} (h0:(!ks.isEmpty && Nat.ble ks.length 15) = true) (e:evD r sc loc ks vs μ = some (l,μ')) (q:Rep C sc loc μ W s.heap) :
  Giv C sc loc W s (eval (.Dict ((CE.aC C.nm ks).map some) (CE.aC C.nm vs) pos) C.env) (IsV (.dic (putAll l []))) μ'∧Giv C sc loc W s (eval (.Dict ((CE.aC C.nm ks).map some) (CE.aC C.nm vs) pos) C.env) (IsV (.ref μ'.length)) (μ' ++ [.dic (putAll l [])]):=by
 obtain ⟨h1,h2⟩:=Bool.and_eq_true_iff.mp h0
 have h2:=Nat.le_of_ble_eq_true h2
 have hne:(CE.aC C.nm ks).map some ≠ []:=by
  induction ks using List.casesOn with
  | nil=>exact tf2 h1
  | cons a b=>exact nofun
 have hall:((CE.aC C.nm ks).map some).all (·.isSome) = true:=by simp
 have hlen:((CE.aC C.nm ks).map some).length = (CE.aC C.nm vs).length:=by rw [List.length_map,c0,c0,pairs_len e]
 have hl15:((CE.aC C.nm ks).map some).length ≤ 15:=by rw [List.length_map,c0];exact h2
 have key:∀ Q:Value→Shared→Prop,(∀ d h' tk o f W',h'.get? d = some o→cM o f (putAll l []).length→REs W'.fz (ads W'.led) (putAll l []) f→Rep C sc loc μ' { W' with hid:=(d,o) :: W'.hid } h'→W.le W'→Q (.ref d) { s with heap:=h',toks:=tk })→wpAny (model C.prog C.w) C.A (eval (.Dict ((CE.aC C.nm ks).map some) (CE.aC C.nm vs) pos) C.env) Q NoE s:=fun Q hQ=>by
  have hk:∀ b o,s.heap.get? b = some o→(s.heap.push { cls:=.type "dict",data:=.dict #[] }).get? b = some o:=fun b o e=>Heap.get?_push_of_some _ e
  have hd:(s.heap.push { cls:=.type "dict",data:=.dict #[] }).get? s.heap.objs.size = some { cls:=.type "dict",data:=.dict #[] }:=Heap.get?_push_size _ rfl
  have q1:=q.pg hk (bf _) hd
  refine wpAny_Dict_any hall hlen hne hl15 (sr I (pos:=pos) (s:={ s with heap:=s.heap.push { cls:=.type "dict",data:=.dict #[] } }) e q1 _ fun xs h3 tk3 W3 q3 l3 hx=>?_)
  obtain ⟨fz3,tab3,hid3,led3⟩:=W3
  obtain rfl:hid3 = (s.heap.objs.size,({ cls:=.type "dict",data:=.dict #[] }:Obj)) :: W.hid:=l3.hid
  have hl:∀ {μ:Mem} {ks vs:List CE} {l:List (Int × PV)} {μ':Mem},evD r sc loc ks vs μ = some (l,μ')→l.length = ks.length:=fun {μ} {ks}=>by
   induction ks generalizing μ with
   | nil=>intro vs l μ' e;induction vs using List.casesOn with
    | nil=>obtain ⟨rfl,_⟩:=ai e;rfl
    | cons _ _=>exact no1 e
   | cons x ks ih =>
    intro vs l μ' e
    induction vs using List.casesOn with
    | nil=>exact no1 e
    | cons y vs =>
     refine ag e fun v μ₁ e1 e=>?_
     refine ag e fun w μ₂ e2 e=>?_
     induction v using PV.casesOn with
     | int i =>
      refine ag e fun l' μ₃ e3 e=>?_
      obtain ⟨rfl,rfl⟩:=ai e
      (refine rwG List.length_cons ?_;refine rwG List.length_cons ?_;refine rwG (ih e3) rfl)
     | _=>exact no1 e
  have hd3:h3.get? s.heap.objs.size = some { cls:=.type "dict",data:=.dict #[] }:=q3.all _ (List.mem_append_right _ (List.mem_append_left _ (.head _)))
  refine lL (s:={ s with heap:=h3,toks:=tk3 }) ⟨fz3,tab3,W.hid,led3⟩ (ps:=l) (n:=0) (l:=[]) (f:=fun _=>none) hx (by have:=hl e;lia) (Nat.le_refl _) hd3 ⟨rfl,rfl,rfl,#[],0,rfl,by intro e he;simp at he,by simp,fun i=>by simp [findBy]⟩ (by skip;exact fun _=>rfl) q3 _ fun h4 tk4 o4 f4 ho4 dq4 es4 q4=>?_
  exact hQ _ h4 tk4 o4 f4 ⟨fz3,tab3,W.hid,led3⟩ ho4 dq4 es4 q4 ⟨l3.fz,rfl,l3.ad⟩
 constructor
 ·refine fun Q hQ=>key Q fun d h' tk o f W' ho dq es q' l'=>?_
  have q2:=q'.fO
  have hno:∀ x∈C.env.locals :: W'.own,x ≠ d:=fun x hx hxd=>by
   subst hxd
   have nd:=q'.nd
   rcases List.mem_cons.mp hx with rfl | hx
   ·exact (List.nodup_cons.mp nd).1 (List.mem_map.mpr ⟨(_,o),List.mem_append_right _ (List.mem_append_left _ (.head _)),rfl⟩)
   ·have n2:=(List.nodup_cons.mp nd).2
    have n3:((W'.tab.map (·.1)) ++ (x :: ((W'.hid ++ W'.led.flatten).map (·.1)))).Nodup:=by
     have:((W'.tab ++ (((x,o) :: W'.hid) ++ W'.led.flatten)).map (·.1)).Nodup:=n2
     simpa using this
    have n4:=List.nodup_cons.mp ((List.perm_middle.nodup_iff).mp n3)
    apply n4.1
    have:x∈(W'.tab ++ (W'.hid ++ W'.led.flatten)).map (·.1):=hx
    rwa [List.map_append] at this
  have q3:=q2.grow (h':=h') (fun _ _ e=>e) [(d,o)] (fun p hp=>by
   rcases List.mem_cons.mp hp with rfl | hp
   ·exact ⟨ho,fun hm=>hno _ hm rfl⟩
   ·cases hp) g.tq
  exact hQ _ h' tk _ q3 (l'.trans (Wd.le.fro W' _)) (by skip;exact ⟨d,o,f,rfl,.head _,dq,REs.mono (fun _ h=>.tail _ h) (Pre.refl _) es⟩)
 ·refine fun Q hQ=>key Q fun d h' tk o f W' ho dq es q' l'=>?_
  have q3:=q'.iK (x:=.dic (putAll l [])) ⟨d,o,f,rfl,dq,REs.mono (fun _ h=>h) (Pre.app _ _) es⟩
  refine hQ _ h' tk _ q3 (l'.trans (Wd.le.mut W' _)) ?_
  skip
  refine ⟨d,rfl, ?_⟩
  have hlen:(ads W'.led).length = μ'.length:=by delta ads;rw [List.length_map,q'.mem.len]
  have e1:ads (W'.led ++ [[(d,o)]]) = ads W'.led ++ [d]:=by simp [ads,adr]
  refine (?_:(ads (W'.led ++ [[(d,o)]]))[μ'.length]? = _)
  rw [e1,← hlen]
  simp
end
end Mine
end
section
namespace Mine
open PySem PySem.W PySem.Spec PySem.Calls PyProof.Rows
section
variable {C:Ctx} {sc:Sc} {loc loc' loc'':Loc} {μ μ' μ'' μ₁ μ₂ μ₃:Mem} {W W' W₀:Wd} {s:Shared} {α β:Type} {k:Nat} {r:R} {h h':Heap}
theorem Rep.vI {H H':Led} (q:Rep C sc loc μ { W with hid:=H ++ W.hid } h) (hl:H'.map (·.1) = H.map (·.1)) (hh:∀ p∈H',h'.get? p.1 = some p.2) (hx:∀ b o,b ∉ H.map (·.1)→h.get? b = some o→h'.get? b = some o) :
  Rep C sc loc μ { W with hid:=H' ++ W.hid } h':=by
 have hown:({ W with hid:=H' ++ W.hid }:Wd).own = ({ W with hid:=H ++ W.hid }:Wd).own:=by
  refine (?_:(W.tab ++ ((H' ++ W.hid) ++ W.led.flatten)).map _ = (W.tab ++ ((H ++ W.hid) ++ W.led.flatten)).map _)
  simp only [List.map_append,hl]
 have inO:∀ a∈H.map (·.1),a∈({ W with hid:=H ++ W.hid }:Wd).own:=fun a ha=>by
  refine xn ha fun p hp=>?_
  exact List.mem_map_of_mem (List.mem_append_right _ (List.mem_append_left _ (List.mem_append_left _ hp)))
 have nd:=(List.nodup_cons.mp q.nd).2
 have nd':(W.tab.map (·.1) ++ (H.map (·.1) ++ (W.hid.map (·.1) ++ W.led.flatten.map (·.1)))).Nodup:=by
  have:((W.tab ++ ((H ++ W.hid) ++ W.led.flatten)).map (·.1)).Nodup:=nd
  simpa only [List.map_append,List.append_assoc] using this
 have Lno:C.env.locals ∉ H.map (·.1):=fun ha=>(List.nodup_cons.mp q.nd).1 (inO _ ha)
 have nT:∀ p∈W.tab,p.1 ∉ H.map (·.1):=fun p hp hq=>(List.nodup_append.mp nd').2.2 _ (List.mem_map_of_mem hp) _ (List.mem_append_left _ hq) rfl
 have nR:∀ p∈W.hid ++ W.led.flatten,p.1 ∉ H.map (·.1):=fun p hp hq=>(List.nodup_append.mp (List.nodup_append.mp nd').2.1).2.2 _ hq _ (by refine rwH List.map_append ?_;exact List.mem_map_of_mem hp) rfl
 obtain ⟨m,⟨o,es,ep,a1,a2⟩,hlc⟩:=q.ns
 refine ⟨⟨m,⟨o,es,ep,hx _ _ Lno a1,a2⟩,hlc⟩,fun b ob e=>hx b ob (fun z=>?_) (q.keep b ob e),fun p hp=>hx _ _ (fun z=>q.fzo p hp (.tail _ (inO _ z))) (q.fzs p hp),fun p hp=>?_,by refine rwG hown ?_;exact q.nd,by refine rwG hown ?_;exact q.old,by refine rwG hown ?_;exact q.fzo,q.mem,q.tabs,q.kf,q.cells⟩
 ·rw [q.old _ (.tail _ (inO _ z))] at e;exact no1 e
 ·have hp':p∈W.tab ++ ((H' ++ W.hid) ++ W.led.flatten):=hp
  have all:∀ p,p∈W.tab ++ ((H ++ W.hid) ++ W.led.flatten)→h.get? p.1 = some p.2:=q.all
  simp only [List.mem_append] at hp' all nR
  rcases hp' with h1 | (h1 | h1) | h1
  ·exact hx _ _ (nT p h1) (all p (.inl h1))
  ·exact hh p h1
  ·exact hx _ _ (nR p (.inl h1)) (all p (.inr (.inl (.inr h1))))
  ·exact hx _ _ (nR p (.inr h1)) (all p (.inr (.inr h1)))
theorem Rep.kU:∀ {H:Led} {W:Wd},Rep C sc loc μ { W with hid:=H ++ W.hid } h→Rep C sc loc μ W h
 | [],_,q=>q
 | (a,o) :: H,W,q=>Rep.kU (H:=H) (Rep.fO (W:={ W with hid:=H ++ W.hid }) q)
theorem rh (h:Heap):∀ {wr:List Addr},(∀ b∈wr,∃ o,h.get? b = some o)→∃ H:Led,H.map (·.1) = wr∧∀ p∈H,h.get? p.1 = some p.2
 | [],_=>⟨[],rfl,fun _ hp=>nomatch hp⟩
 | b :: wr,hb=>by
  obtain ⟨o,ho⟩:=hb b (.head _)
  refine x12 (rh h fun b hb'=>hb b (.tail _ hb')) fun H h1 h2=>?_
  refine ⟨(b,o) :: H,by (refine rwG List.map_cons ?_;refine rwG h1 rfl),fun p hp=>?_⟩
  rcases List.mem_cons.mp hp with rfl | hp
  ·exact ho
  ·exact h2 p hp
structure Trn (C:Ctx) (W₀:Wd) (target:PySem.Expr) (I:Addr) (wr:List Addr) (items:List PV) (St:Nat→Heap→Prop):Prop where
 frame:∀ i h h',St i h→(∀ b o,b∈wr∨(b,o)∈W₀.fz→h.get? b = some o→h'.get? b = some o)→St i h'
 ex:∀ i h,St i h→∀ b∈wr,∃ o,h.get? b = some o
 step:∀ i (s:Shared) (Q:Value→Shared→Prop) (p:PV),items[i]? = some p→St i s.heap→(∀ q∈W₀.fz,s.heap.get? q.1 = some q.2)→(∀ q∈W₀.fz,q.1 ∉ wr) →
  (∀ v h' tk new,St (i + 1) h'→(∀ b o,b ∉ wr→s.heap.get? b = some o→h'.get? b = some o)→(∀ q∈new,h'.get? q.1 = some q.2∧s.heap.objs.size ≤ q.1)→RV (new ++ W₀.fz) (ads W₀.led) p v→Q v { s with heap:=h',toks:=tk }) →
  wpAny (model C.prog C.w) C.A (pyNext (.ref I)) (fun r s₁=>∃ v,r = some v∧wpAny (model C.prog C.w) C.A (letOwnedTupleGo target (.ref I) v) (fun _ s₂=>Q v s₂) NoE s₁) NoE s
 done:∀ (s:Shared) (Q:Option Value→Shared→Prop),St items.length s.heap→(∀ q∈W₀.fz,s.heap.get? q.1 = some q.2)→(∀ q∈W₀.fz,q.1 ∉ wr) →
  (∀ h' tk,(∀ b o,b ∉ wr→s.heap.get? b = some o→h'.get? b = some o)→Q none { s with heap:=h',toks:=tk })→wpAny (model C.prog C.w) C.A (pyNext (.ref I)) Q NoE s
 self:∀ i (s:Shared) (Q:Value→Shared→Prop),St i s.heap→Q (.ref I) s→wpAny (model C.prog C.w) C.A (pyIter (.ref I)) Q NoE s
structure At (C:Ctx) (sc:Sc) (loc:Loc) (μ:Mem) (W₀ W:Wd) (wr:List Addr) (St:Nat→Heap→Prop) (i:Nat) (h:Heap):Prop where
 rep:∃ H:Led,H.map (·.1) = wr∧Rep C sc loc μ { W with hid:=H ++ W.hid } h
 st:St i h
 fz:∀ q∈W₀.fz,q∈W.fz
 ad:Pre (ads W₀.led) (ads W.led)
theorem yo {b:Addr} (q:Rep C sc loc μ W h) (hb:b∈C.env.locals :: W.own):b < h.objs.size:=by
 obtain ⟨o,e⟩:=q.bg hb;exact aJ e
theorem At.off {wr:List Addr} {St:Nat→Heap→Prop} {i:Nat} (a:At C sc loc μ W₀ W wr St i h):(∀ q∈W₀.fz,h.get? q.1 = some q.2)∧∀ q∈W₀.fz,q.1 ∉ wr:=by
 refine x12 a.rep fun H hH q=>?_
 refine ⟨fun p hp=>q.fzs p (a.fz p hp),fun p hp hw=>?_⟩
 subst hH
 refine x12 (List.mem_map.mp hw) fun p' hp' e=>?_
 exact q.fzo p (a.fz p hp) (.tail _ (by refine rwH e ?_;exact List.mem_map_of_mem (f:=(·.1)) (List.mem_append_right _ (List.mem_append_left _ (List.mem_append_left _ hp')))))
theorem At.next {target:PySem.Expr} {I:Addr} {wr:List Addr} {items:List PV} {St:Nat→Heap→Prop} (T:Trn C W₀ target I wr items St) (g:Good C sc k) {i:Nat} {p:PV} (hp:items[i]? = some p) (a:At C sc loc μ W₀ W wr St i s.heap) {Q:Value→Shared→Prop}
  (hQ:∀ v h' tk W',At C sc loc μ W₀ W' wr St (i + 1) h'→W.le W'→IsV p v W'→Q v { s with heap:=h',toks:=tk }) :
  wpAny (model C.prog C.w) C.A (pyNext (.ref I)) (fun r s₁=>∃ v,r = some v∧wpAny (model C.prog C.w) C.A (letOwnedTupleGo target (.ref I) v) (fun _ s₂=>Q v s₂) NoE s₁) NoE s:=by
 obtain ⟨o1,o2⟩:=a.off
 refine x12 a.rep fun H hH q=>?_
 refine T.step i s Q p hp a.st o1 o2 fun v h' tk new st hk hn hv=>?_
 refine x12 (rh h' (T.ex _ _ st)) fun H' h1 h2=>?_
 have q':=q.vI (H':=H') (h1.trans hH.symm) h2 (by refine rwG hH ?_;exact hk)
 have q'':=q'.grow (h':=h') (fun _ _ e=>e) new (fun x hx=>⟨(hn x hx).1,fun hm=>by
  have hm':x.1∈C.env.locals :: ({ W with hid:=H ++ W.hid }:Wd).own:=by
   have:({ W with hid:=H' ++ W.hid }:Wd).own = ({ W with hid:=H ++ W.hid }:Wd).own:=by
    refine (?_:(W.tab ++ ((H' ++ W.hid) ++ W.led.flatten)).map _ = (W.tab ++ ((H ++ W.hid) ++ W.led.flatten)).map _)
    simp only [List.map_append,h1,hH]
   rwa [this] at hm
  exact absurd (yo q hm') (Nat.not_lt.mpr (hn x hx).2)⟩) g.tq
 have hle:W.le { W with fz:=new ++ W.fz }:=⟨fun _ h=>List.mem_append_right _ h,rfl,Pre.refl _⟩
 refine hQ v h' tk { W with fz:=new ++ W.fz } ⟨⟨H',h1,q''⟩,st,fun x hx=>List.mem_append_right _ (a.fz x hx),a.ad⟩ hle (RV.mono (fun x hx=>?_) a.ad hv)
 rcases List.mem_append.mp hx with hx | hx
 ·exact List.mem_append_left _ hx
 ·exact List.mem_append_right _ (a.fz x hx)
theorem At.done {target:PySem.Expr} {I:Addr} {wr:List Addr} {items:List PV} {St:Nat→Heap→Prop} (T:Trn C W₀ target I wr items St) (a:At C sc loc μ W₀ W wr St items.length s.heap) {Q:Option Value→Shared→Prop}
  (hQ:∀ h' tk,Rep C sc loc μ W h'→Q none { s with heap:=h',toks:=tk }):wpAny (model C.prog C.w) C.A (pyNext (.ref I)) Q NoE s:=by
 obtain ⟨o1,o2⟩:=a.off
 refine x12 a.rep fun H hH q=>?_
 refine T.done s Q a.st o1 o2 fun h' tk hk=>hQ h' tk ?_
 have nd:(H.map (·.1)).Nodup∧∀ x∈C.env.locals :: W.own,x ∉ H.map (·.1):=by
  have n:=q.nd
  have n2:(C.env.locals :: (W.tab.map (·.1) ++ (H.map (·.1) ++ (W.hid.map (·.1) ++ W.led.flatten.map (·.1))))).Nodup:=by
   have:(C.env.locals :: (W.tab ++ ((H ++ W.hid) ++ W.led.flatten)).map (·.1)).Nodup:=n
   simpa only [List.map_append,List.append_assoc] using this
  obtain ⟨n3,n4⟩:=List.nodup_cons.mp n2
  refine x03 (List.nodup_append.mp n4) fun n5 n6 n7=>?_
  refine x03 (List.nodup_append.mp n6) fun n8 n9 n10=>?_
  refine ⟨n8,fun x hx hm=>?_⟩
  rcases List.mem_cons.mp hx with rfl | hx
  ·exact n3 (List.mem_append_right _ (List.mem_append_left _ hm))
  ·have:x∈W.tab.map (·.1) ++ (W.hid.map (·.1) ++ W.led.flatten.map (·.1)):=by
    have:x∈(W.tab ++ (W.hid ++ W.led.flatten)).map (·.1):=hx
    simpa only [List.map_append] using this
   rcases List.mem_append.mp this with hx | hx
   ·exact n7 _ hx _ (List.mem_append_left _ hm) rfl
   ·exact n10 _ hm _ hx rfl
 rw [← hH] at hk o2
 have q0:=q.kU
 obtain ⟨m,⟨o,es,ep,a1,a2⟩,hlc⟩:=q0.ns
 refine ⟨⟨m,⟨o,es,ep,hk _ _ (nd.2 _ (.head _)) a1,a2⟩,hlc⟩,fun b ob e=>hk b ob (fun z=>?_) (q0.keep b ob e),fun p hp=>hk _ _ (fun z=>?_) (q0.fzs p hp),fun p hp=>hk _ _ (nd.2 _ (.tail _ (List.mem_map_of_mem hp))) (q0.all p hp),q0.nd,q0.old,q0.fzo,q0.mem,q0.tabs,q0.kf,q0.cells⟩
 ·refine x12 (List.mem_map.mp z) fun p' hp' e'=>?_
  have:=q.old b (.tail _ (by refine rwH e' ?_;exact List.mem_map_of_mem (f:=(·.1)) (List.mem_append_right _ (List.mem_append_left _ (List.mem_append_left _ hp')))))
  rw [this] at e;exact no1 e
 ·refine x12 (List.mem_map.mp z) fun p' hp' e'=>?_
  exact q.fzo p hp (.tail _ (by refine rwH e' ?_;exact List.mem_map_of_mem (f:=(·.1)) (List.mem_append_right _ (List.mem_append_left _ (List.mem_append_left _ hp')))))
theorem cF (I:OkR C sc r):∀ {b:List CS} {loc loc':Loc} {μ μ':Mem} {f:Fl} {W:Wd} {s:Shared},ay r sc b loc μ = some ((f,loc'),μ')→Rep C sc loc μ W s.heap→Giv C sc loc' W s (execs (CS.cq C.nm b) C.env) (cb f) μ'
 | [],loc,loc',μ,μ',f,W,s,e,q=>by
  refine cW e fun e1=>?_
  (injection e1 with q1 q2;subst q1;subst q2)
  skip
  exact Giv.done q rfl
 | t :: ts,loc,loc',μ,μ',f,W,s,e,q=>by
  obtain ⟨⟨f1,eM⟩,μ₁,e1,e⟩:=cG e
  skip
  refine Giv.bind (loc:=eM) (I.ex e1 q) fun fl h' tk W' q' l' hf=>?_
  induction f1 using Fl.casesOn with
  | next =>
   obtain rfl:fl = .next:=hf
   exact cF I (s:={ s with heap:=h',toks:=tk }) e q'
  | brk =>
   obtain rfl:fl = .brk:=hf
   refine cW e fun e1=>?_
   (injection e1 with q1 q2;subst q1;subst q2)
   exact Giv.done (s:={ s with heap:=h',toks:=tk }) q' rfl
  | cont =>
   obtain rfl:fl = .cont:=hf
   refine cW e fun e1=>?_
   (injection e1 with q1 q2;subst q1;subst q2)
   exact Giv.done (s:={ s with heap:=h',toks:=tk }) q' rfl
  | ret p =>
   obtain ⟨v,rfl,hv⟩:=hf
   refine cW e fun e1=>?_
   (injection e1 with q1 q2;subst q1;subst q2)
   exact Giv.done (s:={ s with heap:=h',toks:=tk }) q' ⟨v,rfl,hv⟩
end
end Mine
end
section
namespace Mine
open PySem PySem.W PySem.Spec PySem.Calls PyProof.Rows
section
variable {C:Ctx} {sc:Sc} {loc loc' loc'':Loc} {μ μ' μ'' μ₁ μ₂ μ₃:Mem} {W W' W₀:Wd} {s:Shared} {α β:Type} {k:Nat} {r:R} {h h':Heap}
theorem At.after {target:PySem.Expr} {I:Addr} {wr:List Addr} {items:List PV} {St:Nat→Heap→Prop} (T:Trn C W₀ target I wr items St) {i:Nat} {H:Led} {W'':Wd} (hH:H.map (·.1) = wr) (hst:St i h)
  (hfz:∀ q∈W₀.fz,q∈W.fz) (had:Pre (ads W₀.led) (ads W.led)) (q:Rep C sc loc μ { W with hid:=H ++ W.hid } h) (q':Rep C sc loc' μ' W'' h') (l:({ W with hid:=H ++ W.hid }:Wd).le W'') :
  At C sc loc' μ' W₀ { W'' with hid:=W.hid } wr St i h'∧W.le { W'' with hid:=W.hid }:=by
 obtain ⟨fz2,tab2,hid2,led2⟩:=W''
 obtain rfl:hid2 = H ++ W.hid:=l.hid
 refine ⟨⟨⟨H,hH,q'⟩,T.frame i h h' hst fun b o hb e=>?_,fun p hp=>l.fz p (hfz p hp),had.trans l.ad⟩,⟨l.fz,rfl,l.ad⟩⟩
 rcases hb with hb | hb
 ·rw [← hH] at hb
  obtain ⟨p,hp,rfl⟩:=List.mem_map.mp hb
  have e1:=q.all p (List.mem_append_right _ (List.mem_append_left _ (List.mem_append_left _ hp)))
  have e2:=q'.all p (List.mem_append_right _ (List.mem_append_left _ (List.mem_append_left _ hp)))
  rw [e] at e1;refine so1n e1 ?_;exact e2
 ·exact q'.fzs (b,o) (l.fz _ (hfz _ hb))
theorem sF {x:M α} {f:α→M β} {a:α} (e:x μ = some (a,μ')):M.bnd x f μ = f a μ':=by unfold M.bnd;(refine rwG e rfl)
theorem pd {γ:Type} {l:List γ} {i:Nat} (h:i < l.length):∃ p,l[i]? = some p∧l.drop i = p :: l.drop (i + 1) :=
 ⟨l[i],by simp [h],List.drop_eq_getElem_cons h⟩
theorem sE {prog:Program} {w:World} {A:Around} {R:Result→Shared→Prop} {target:PySem.Expr} {it:Value} {body orelse:List Stmt} {env:Env} (I:Nat→Shared→Prop)
  (turn:∀ n s,I n s→wpAny (model prog w) A (pyNext it) (fun r s₁=>match r with
   | none=>wpAny (model prog w) A (execs orelse env) (fun f s₃=>R (.ok f) s₃) NoE s₁
   | some v=>wpAny (model prog w) A (letOwnedTupleGo target it v) (fun _ s₁'=>wpAny (model prog w) A (assign target env v) (fun _ s₂=>wpAny (model prog w) A (execs body env) (fun f s₃=>match f with
      | .next | .cont=>∃ m,m < n∧I m s₃
      | .brk=>R (.ok .next) s₃
      | .ret v=>R (.ok (.ret v)) s₃) NoE s₂) NoE s₁') NoE s₁) NoE s)
  (n:Nat) (h:I n s):codeAny (model prog w) A (.forLoop target it body orelse env) R s:=by
 refine codeAny_forLoop_any I (fun n s h=>wpAny_mono (turn n s h) (fun r s₁ h=>?_) fun _ _ x=>x.elim) n h
 induction r using Option.casesOn with
 | none=>exact wpAny_mono h (fun _ _ h=>h) fun _ _ x=>x.elim
 | some v=>exact wpAny_mono h (fun _ _ h=>wpAny_mono h (fun _ _ h=>wpAny_mono h (fun f _ h=>by cases f <;> exact h) fun _ _ x=>x.elim) fun _ _ x=>x.elim) fun _ _ x=>x.elim
structure Itr (C:Ctx) (sc:Sc) (tg:PySem.Expr) (it:Addr) (A:Nat→Loc→Mem→Wd→Heap→Prop) (Dr:Nat→Mem→PV→Prop) (En:Nat→Mem→Prop):Prop where
 next:∀ {i:Nat} {loc:Loc} {μ:Mem} {W:Wd} {s:Shared} {p:PV} {K:Value→Shared→Prop} {Q:Option Value→Shared→Prop},Dr i μ p→A i loc μ W s.heap →
  (∀ v s₁,wpAny (model C.prog C.w) C.A (letOwnedTupleGo tg (.ref it) v) (fun _ s₂=>K v s₂) NoE s₁→Q (some v) s₁) →
  (∀ v h' tk W',A (i + 1) loc μ W' h'→W.le W'→IsV p v W'→K v { s with heap:=h',toks:=tk })→wpAny (model C.prog C.w) C.A (pyNext (.ref it)) Q NoE s
 done:∀ {i:Nat} {loc:Loc} {μ:Mem} {W:Wd} {s:Shared} {Q:Option Value→Shared→Prop},En i μ→A i loc μ W s.heap→(∀ h' tk,Rep C sc loc μ W h'→Q none { s with heap:=h',toks:=tk })→wpAny (model C.prog C.w) C.A (pyNext (.ref it)) Q NoE s
 out:∀ {i:Nat} {loc:Loc} {μ:Mem} {W:Wd} {h:Heap} {G:Prop},A i loc μ W h→(∀ H:Led,Rep C sc loc μ { W with hid:=H ++ W.hid } h →
  (∀ {loc':Loc} {μ':Mem} {W'':Wd} {h':Heap},Rep C sc loc' μ' W'' h'→({ W with hid:=H ++ W.hid }:Wd).le W''→A i loc' μ' { W'' with hid:=W.hid } h'∧W.le { W'' with hid:=W.hid })→G)→G
 drop:∀ {i:Nat} {loc:Loc} {μ:Mem} {W:Wd} {h:Heap},A i loc μ W h→Rep C sc loc μ W h
inductive vu (C:Ctx) (sc:Sc) (loc':Loc) (μ':Mem) (W:Wd) (f:Fl) (s:Shared):Flow→Shared→Prop
 | mk {fl:Flow} {h:Heap} {tk:Nat} {W':Wd}:Rep C sc loc' μ' W' h→W.le W'→cb f fl W'→vu C sc loc' μ' W f s fl { s with heap:=h,toks:=tk }
noncomputable def jR (C:Ctx) (sc:Sc) (loc':Loc) (μ':Mem) (W:Wd) (f:Fl) (s:Shared):Result→Shared→Prop
 | .ok fl,s'=>vu C sc loc' μ' W f s fl s'
 | .error _,_=>False
inductive uD (A:Nat→Loc→Mem→Wd→Heap→Prop) (Run:Nat→Nat→Loc→Mem→Prop) (W:Wd) (s:Shared):Nat→Shared→Prop
 | mk {kk i:Nat} {loc:Loc} {μ:Mem} {W':Wd} {h:Heap} {tk:Nat}:Run kk i loc μ→A i loc μ W' h→W.le W'→uD A Run W s kk { s with heap:=h,toks:=tk }
noncomputable def rY (Run:Nat→Nat→Loc→Mem→Prop) (f:Fl) (loc':Loc) (μ':Mem) (kk i:Nat) (loc:Loc) (μ:Mem):Fl→Prop
 | .next | .cont=>∃ m,m < kk∧Run m (i + 1) loc μ
 | .brk=>f = .next∧loc' = loc∧μ' = μ
 | .ret p=>f = .ret p∧loc' = loc∧μ' = μ
theorem vw (g:Good C sc k) (I:OkR C sc r) {t:CT} {b o:List CS} {it:Addr} {f:Fl} {A:Nat→Loc→Mem→Wd→Heap→Prop} {Dr:Nat→Mem→PV→Prop} {En:Nat→Mem→Prop} (X:Itr C sc (t.toE C.nm) it A Dr En) {Run:Nat→Nat→Loc→Mem→Prop}
  (hR:∀ {kk i loc μ},Run kk i loc μ→(∃ p f1 aT μ2,Dr i μ p∧aV r sc t b p loc μ = some ((f1,aT),μ2)∧rY Run f loc' μ' kk i aT μ2 f1)∨(En i μ∧ay r sc o loc μ = some ((f,loc'),μ')))
  {kk:Nat} (e:Run kk 0 loc μ) (a:A 0 loc μ W s.heap):codeAny (model C.prog C.w) C.A (.forLoop (t.toE C.nm) (.ref it) (CS.cq C.nm b) (CS.cq C.nm o) C.env) (jR C sc loc' μ' W f s) s:=by
 refine sE (uD A Run W s) (fun kk s' h=>?_) kk (.mk (h:=s.heap) (tk:=s.toks) e a (Wd.le.refl _))
 cases h with | @mk i loc₁ μ₁ W₁ h₁ tk₁ e a hle =>
 rcases hR e with hh | ⟨he,ho⟩
 ·refine x43 hh fun p f1 aT μ2 hd hb hf=>?_
  refine X.next (s:={ s with heap:=h₁,toks:=tk₁ }) hd a (fun _ _ h=>h) fun v h' tk W' a' l' hv=>?_
  refine X.out a' fun H q back=>?_
  refine ag hb fun gT μ4 e8 e9=>?_
  refine ib (s:={ s with heap:=h',toks:=tk }) e8 g q hv _ fun _ h2 tk2 W2 q2 l2 _=>?_
  refine cF I (s:={ s with heap:=h2,toks:=tk2 }) e9 q2 _ fun fl h3 tk3 W3 q3 l3 hfl=>?_
  refine au (back q3 (l2.trans l3)) fun a3 l4=>?_
  have l5:=(hle.trans l').trans l4
  induction f1 using Fl.casesOn with
  | next=>obtain rfl:fl = .next:=hfl;exact hf.imp fun _ h=>⟨h.1,.mk h.2 a3 l5⟩
  | cont=>obtain rfl:fl = .cont:=hfl;exact hf.imp fun _ h=>⟨h.1,.mk h.2 a3 l5⟩
  | brk=>obtain rfl:fl = .brk:=hfl;obtain ⟨rfl,rfl,rfl⟩:=hf;exact .mk (X.drop a3) l5 rfl
  | ret p=>obtain ⟨v,rfl,hv⟩:=hfl;obtain ⟨rfl,rfl,rfl⟩:=hf;exact .mk (X.drop a3) l5 ⟨v,rfl,hv⟩
 ·refine X.done (s:={ s with heap:=h₁,toks:=tk₁ }) he a fun h' tk q=>?_
  exact cF I (s:={ s with heap:=h',toks:=tk }) ho q _ fun fl h3 tk3 W3 q3 l3 hf=>.mk q3 (hle.trans l3) hf
theorem At.itr {tg:PySem.Expr} {it:Addr} {wr:List Addr} {items:List PV} {St:Nat→Heap→Prop} (T:Trn C W₀ tg it wr items St) (g:Good C sc k):Itr C sc tg it (fun i loc μ W h=>At C sc loc μ W₀ W wr St i h) (fun i _ p=>items[i]? = some p) (fun i _=>i = items.length) where
 next hp a hK hQ:=wpAny_mono (At.next T g hp a hQ) (fun r s₁ h=>by obtain ⟨v,rfl,h⟩:=h;exact hK v s₁ h) fun _ _ x=>x
 done e a hQ:=by subst e;exact At.done T a hQ
 out a k:=by obtain ⟨H,hH,q⟩:=a.rep;exact k H q fun q' l=>At.after T hH a.st a.fz a.ad q q' l
 drop a:=by obtain ⟨H,_,q⟩:=a.rep;exact q.kU
theorem kq {Run:Nat→Nat→Loc→Mem→Prop} {m:Loc→M (Fl × Loc)} {f f1:Fl} {kk i:Nat} {aT:Loc} (hm:∃ m',m' < kk∧(M.bnd (m aT) (bK r sc o) μ₂ = some ((f,loc'),μ')→Run m' (i + 1) aT μ₂))
  (e:(match f1 with
   | .brk=>M.ret (Fl.brk,aT)
   | .ret w=>M.ret (Fl.ret w,aT)
   | _=>m aT) μ₂ = some (x,μ₃)) (e3:bK r sc o x μ₃ = some ((f,loc'),μ')):rY Run f loc' μ' kk i aT μ₂ f1:=by
 induction f1 using Fl.casesOn with
 | next=>exact hm.imp fun _ h=>⟨h.1,h.2 ((sF (x:=m aT) e).trans e3)⟩
 | cont=>exact hm.imp fun _ h=>⟨h.1,h.2 ((sF (x:=m aT) e).trans e3)⟩
 | brk =>
  obtain ⟨rfl,rfl⟩:=ai e
  obtain ⟨e4,rfl⟩:=ai (show M.ret (Fl.next,aT) μ₂ = _ from e3)
  (injection e4 with q1 q2;subst q1;subst q2);exact ⟨rfl,rfl,rfl⟩
 | ret w =>
  obtain ⟨rfl,rfl⟩:=ai e
  obtain ⟨e4,rfl⟩:=ai (show M.ret (Fl.ret w,aT) μ₂ = _ from e3)
  (injection e4 with q1 q2;subst q1;subst q2);exact ⟨rfl,rfl,rfl⟩
theorem vU (g:Good C sc k) (I:OkR C sc r) {t:CT} {b o:List CS} {it:Addr} {wr:List Addr} {items:List PV} {St:Nat→Heap→Prop} {f:Fl} (T:Trn C W₀ (t.toE C.nm) it wr items St)
  (e:M.bnd (cz (aV r sc t b) items loc) (bK r sc o) μ = some ((f,loc'),μ')) (a:At C sc loc μ W₀ W wr St 0 s.heap) :
  codeAny (model C.prog C.w) C.A (.forLoop (t.toE C.nm) (.ref it) (CS.cq C.nm b) (CS.cq C.nm o) C.env) (jR C sc loc' μ' W f s) s:=by
 refine vw g I (At.itr T g) (Run:=fun kk i loc μ=>kk + i = items.length∧M.bnd (cz (aV r sc t b) (items.drop i) loc) (bK r sc o) μ = some ((f,loc'),μ')) (fun {kk i loc μ} h=>?_) (kk:=items.length) ⟨rfl,e⟩ a
 obtain ⟨hk,e⟩:=h
 induction kk using Nat.casesOn with
 | succ kk =>
  refine x12 (pd (l:=items) (i:=i) (hk ▸ Nat.lt_add_of_pos_left (Nat.succ_pos kk))) fun p hp hd=>?_
  rw [hd] at e
  refine ag e fun x μ₃ e2 e3=>?_
  refine ag (show M.bnd (aV r sc t b p loc) _ μ = _ from e2) fun y μ₂ e4 e5=>?_
  exact .inl ⟨p,y.1,y.2,μ₂,hp,e4,kq (m:=fun l=>cz (aV r sc t b) (items.drop (i + 1)) l) ⟨kk,Nat.lt_succ_self _,fun h=>⟨(Nat.add_right_comm kk 1 i ▸ hk:kk + i + 1 = items.length),h⟩⟩ e5 e3⟩
 | zero =>
  have hi:i = items.length:=(Nat.zero_add i).symm.trans hk
  subst hi
  rw [List.drop_of_length_le (Nat.le_refl _)] at e
  refine ag e fun x μ₃ e2 e3=>?_
  obtain ⟨rfl,rfl⟩:=ai e2
  exact .inr ⟨rfl,e3⟩
end
end Mine
end
section
namespace Mine
open PySem PySem.W PySem.Spec PySem.Calls PyProof.Rows
section
variable {C:Ctx} {sc:Sc} {loc loc' loc'':Loc} {μ μ' μ'' μ₁ μ₂ μ₃:Mem} {W W' W₀:Wd} {s:Shared} {α β:Type} {k:Nat} {r:R} {h h':Heap}
structure AtL (C:Ctx) (sc:Sc) (loc:Loc) (μ:Mem) (W:Wd) (it ax:Addr) (id i:Nat) (h:Heap):Prop where
 rep:∃ o,Rep C sc loc μ { W with hid:=(it,o) :: W.hid } h
 st:h.IsListIter it ax i
 ad:(ads W.led)[id]? = some ax
theorem AtL.next {it ax:Addr} {id i:Nat} {l:List PV} {p:PV} (e:μ[id]? = some (.lst l)) (hp:l[i]? = some p) (a:AtL C sc loc μ W it ax id i s.heap) {Q:Option Value→Shared→Prop} {E:Value→Shared→Prop}
  (hQ:∀ v h' tk,AtL C sc loc μ W it ax id (i + 1) h'→IsV p v W→Q (some v) { s with heap:=h',toks:=tk }):wpAny (model C.prog C.w) C.A (pyNext (.ref it)) Q E s:=by
 obtain ⟨⟨o,q⟩,st,ad⟩:=a
 refine x23 (q.lst e ad) fun vs n hi rs hg=>?_
 refine x12 (rs.get hp) fun v ev hv=>?_
 refine wpAny_pyNext_list_item st ⟨_,hg,rfl,n,rfl⟩ (x:=v) (by simpa using ev) fun h' hit' hs'=>?_
 have ⟨o',ho',_⟩:=hit'
 exact hQ v h' s.toks ⟨⟨o',q.nB ho' fun b ob hb e=>hs'.extBut b ob hb e⟩,hit',ad⟩ hv
theorem AtL.done {it ax:Addr} {id i:Nat} {l:List PV} (hh:C.A.handled = none) (e:μ[id]? = some (.lst l)) (hp:l.length = i) (a:AtL C sc loc μ W it ax id i s.heap) {Q:Option Value→Shared→Prop} {E:Value→Shared→Prop}
  (hQ:∀ h' tk,Rep C sc loc μ W h'→Q none { s with heap:=h',toks:=tk }):wpAny (model C.prog C.w) C.A (pyNext (.ref it)) Q E s:=by
 obtain ⟨⟨o,q⟩,st,ad⟩:=a
 refine x23 (q.lst e ad) fun vs n hi rs hg=>?_
 refine wpAny_pyNext_list_end hh st ⟨_,hg,rfl,n,rfl⟩ (by simp [rs.len,hp]) fun h' he'=>hQ h' s.toks ?_
 have q0:=q.fO
 have nd:it ∉ C.env.locals :: W.own∧C.h₀.get? it = none∧∀ p∈W.fz,p.1 ≠ it:=by
  have inO:it∈({ W with hid:=(it,o) :: W.hid }:Wd).own:=List.mem_map.mpr ⟨(it,o),List.mem_append_right _ (List.mem_append_left _ (.head _)),rfl⟩
  refine ⟨fun hm=>?_,q.old _ (.tail _ inO),fun p hp e=>q.fzo p hp (by refine rwG e ?_;exact .tail _ inO)⟩
  have n:=q.nd
  rcases List.mem_cons.mp hm with e | hm
  ·exact (List.nodup_cons.mp n).1 (e ▸ inO)
  ·have n2:=(List.nodup_cons.mp n).2
   have n3:((W.tab.map (·.1)) ++ (it :: ((W.hid ++ W.led.flatten).map (·.1)))).Nodup:=by
    have:((W.tab ++ (((it,o) :: W.hid) ++ W.led.flatten)).map (·.1)).Nodup:=n2
    simpa using this
   have n4:=List.nodup_cons.mp ((List.perm_middle.nodup_iff).mp n3)
   apply n4.1
   have:it∈(W.tab ++ (W.hid ++ W.led.flatten)).map (·.1):=hm
   rwa [List.map_append] at this
 obtain ⟨m,⟨o,es,ep,a1,a2⟩,hlc⟩:=q0.ns
 refine ⟨⟨m,⟨o,es,ep,he' _ _ (fun e=>nd.1 (e ▸ .head _)) a1,a2⟩,hlc⟩,fun b ob e=>he' b ob (fun z=>?_) (q0.keep b ob e),fun p hp=>he' _ _ (nd.2.2 p hp) (q0.fzs p hp),fun p hp=>he' _ _ (fun e=>nd.1 (e ▸ .tail _ (List.mem_map_of_mem hp))) (q0.all p hp),q0.nd,q0.old,q0.fzo,q0.mem,q0.tabs,q0.kf,q0.cells⟩
 rw [z,nd.2.1] at e;exact no1 e
theorem AtL.after {it ax:Addr} {id i:Nat} {o:Obj} {W'':Wd} (st:h.IsListIter it ax i) (ad:(ads W.led)[id]? = some ax) (q:Rep C sc loc μ { W with hid:=(it,o) :: W.hid } h) (q':Rep C sc loc' μ' W'' h') (l:({ W with hid:=(it,o) :: W.hid }:Wd).le W'') :
  AtL C sc loc' μ' { W'' with hid:=W.hid } it ax id i h'∧W.le { W'' with hid:=W.hid }:=by
 obtain ⟨fz2,tab2,hid2,led2⟩:=W''
 obtain rfl:hid2 = (it,o) :: W.hid:=l.hid
 refine ⟨⟨⟨o,q'⟩, ?_,l.ad _ _ ad⟩,⟨l.fz,rfl,l.ad⟩⟩
 have e1:=q.all (it,o) (List.mem_append_right _ (List.mem_append_left _ (.head _)))
 have e2:=q'.all (it,o) (List.mem_append_right _ (List.mem_append_left _ (.head _)))
 refine x12 st fun o' ho' z=>?_
 have e1:h.get? it = some o:=e1
 rw [e1] at ho';(have q1:=so1 ho';subst q1)
 exact ⟨o,e2,z⟩
theorem tj {target:PySem.Expr} {it ax:Addr} {i:Nat} {v:Value} {Q:Unit→Shared→Prop} {A:Around} {E:Value→Shared→Prop} {prog:Program} {w:World} (st:s.heap.IsListIter it ax i) (hQ:Q () s):wpAny (model prog w) A (letOwnedTupleGo target (.ref it) v) Q E s:=letGo_listiter st hQ
theorem AtL.itr (g:Good C sc k) {tg:PySem.Expr} {it ax:Addr} {id:Nat}:Itr C sc tg it (fun i loc μ W h=>AtL C sc loc μ W it ax id i h) (fun i μ p=>∃ l,μ[id]? = some (.lst l)∧l[i]? = some p) (fun i μ=>∃ l,μ[id]? = some (.lst l)∧l.length = i) where
 next hp a hK hQ:=by
  refine x12 hp fun l e hp=>?_
  exact AtL.next e hp a fun v h' tk a' hv=>hK v _ (tj a'.st (hQ v h' tk _ a' (Wd.le.refl _) hv))
 done e a hQ:=by refine x12 e fun l e hl=>?_;exact AtL.done g.hnd e hl a hQ
 out a k:=by obtain ⟨⟨o,q⟩,st,ad⟩:=a;exact k [(it,o)] q fun q' l=>AtL.after st ad q q' l
 drop a:=by obtain ⟨⟨o,q⟩,_,_⟩:=a;exact q.fO
theorem tO (g:Good C sc k) (I:OkR C sc r) {t:CT} {b o:List CS} {it ax:Addr} {id n:Nat} {f:Fl}
  (e:M.bnd (fZ (aV r sc t b) id n 0 loc) (bK r sc o) μ = some ((f,loc'),μ')) (a:AtL C sc loc μ W it ax id 0 s.heap) :
  codeAny (model C.prog C.w) C.A (.forLoop (t.toE C.nm) (.ref it) (CS.cq C.nm b) (CS.cq C.nm o) C.env) (jR C sc loc' μ' W f s) s:=by
 refine vw g I (AtL.itr g) (Run:=fun kk i loc μ=>M.bnd (fZ (aV r sc t b) id kk i loc) (bK r sc o) μ = some ((f,loc'),μ')) (fun {kk i loc μ} e=>?_) (kk:=n) e a
 induction kk using Nat.casesOn with
 | succ kk =>
  refine ag e fun x μ₃ e2 e3=>?_
  refine cw e2 fun ob e4' e5=>?_
  induction ob using MO.casesOn with
  | lst l =>
   dsimp only at e5
   cases hp:l[i]? with
   | none=>rw [hp] at e5;exact no1 e5
   | some p =>
    rw [hp] at e5
    refine ag e5 fun y μ₂ e6 e7=>?_
    exact .inl ⟨p,y.1,y.2,μ₂,⟨l,e4',hp⟩,e6,kq (m:=fun loc=>fZ (aV r sc t b) id kk (i + 1) loc) ⟨kk,Nat.lt_succ_self _,fun h=>h⟩ e7 e3⟩
  | _=>exact no1 e5
 | zero =>
  refine ag e fun x μ₃ e2 e3=>?_
  refine cw e2 fun ob e4' e5=>?_
  induction ob using MO.casesOn with
  | lst l =>
   dsimp only at e5
   by_cases hl:l.length = i
   ·rw [if_pos hl] at e5
    obtain ⟨rfl,rfl⟩:=ai e5
    exact .inr ⟨⟨l,e4',hl⟩,e3⟩
   ·rw [if_neg hl] at e5;exact no1 e5
  | _=>exact no1 e5
end
end Mine
end
section
set_option backward.match.sparseCases true
namespace Mine
open PySem PySem.W PySem.Spec PySem.Calls PyProof.Rows
section
variable {C:Ctx} {sc:Sc} {loc loc' loc'':Loc} {μ μ' μ'' μ₁ μ₂ μ₃:Mem} {W W' W₀:Wd} {s:Shared} {α β:Type} {k:Nat} {r:R} {h h':Heap}
noncomputable def rU (n:String):Bool:=["enumerate","zip","dict_itemiterator","dict_reverseitemiterator","odict_iterator","itertools.zip_longest","itertools.pairwise"].contains n
set_option tactic.hygienic true in
theorem oH {prog:Program} {w:World} {A:Around} {E:Value→Shared→Prop} {target:PySem.Expr} {I:Addr} {o:Obj} {n:String} {v:Value} {Q:Unit→Shared→Prop} (ho:s.heap.get? I = some o) (hc:o.cls = .type n) (hn:rU n = false) (hQ:Q () s) :
  wpAny (model prog w) A (letOwnedTupleGo target (.ref I) v) Q E s:=by
 have key:∀ a,wpAny (model prog w) A (load I >>= fun o=>match o.cls,o.data with
  | .type n,.fields vs=>if ["enumerate","zip","dict_itemiterator","dict_reverseitemiterator","odict_iterator","itertools.zip_longest","itertools.pairwise"].contains n && vs[0]? == some (rawInt a) then do
    rule "for.unpacks-the-owned-tuple"
    updateField I 0 .none
   else pure ()
  | _,_=>pure ()) Q E s:=fun a=>by
  refine wpAny_bind (wpAny_load ho ?_)
  refine rwG hc ?_
  split
  ·rename_i n' vs e1 e2
   (injection e1 with q1;subst q1)
   have hn':["enumerate","zip","dict_itemiterator","dict_reverseitemiterator","odict_iterator","itertools.zip_longest","itertools.pairwise"].contains n = false:=hn
   (refine rwG (hn' ..) ?_;refine rwG (Bool.false_and ..) ?_;refine rwG (if_neg (by decide)) ?_)
   exact wpAny_pure hQ
  ·exact wpAny_pure hQ
 skip
 cases target <;> first | exact wpAny_pure hQ | (cases v <;> first | exact wpAny_pure hQ | exact key _)
theorem Trn.ofWalks {tg:PySem.Expr} {it:Addr} {fp:List Addr} {items:List PV} {P:Nat→Value→Prop} {St:Nat→Heap→Prop} (Wk:Walks C.prog C.w C.A it fp [it] items.length P St) (keep:Led) (hkeep:∀ q∈keep,q∈W₀.fz) (hfp:∀ b∈fp,b = it∨∃ o,(b,o)∈keep)
  (hP:∀ i p v,items[i]? = some p→P i v→RV W₀.fz (ads W₀.led) p v) (hgo:∀ i h,St i h→∃ o n,h.get? it = some o∧o.cls = .type n∧rU n = false):Trn C W₀ tg it [it] items (fun i h=>St i h∧∀ q∈keep,h.get? q.1 = some q.2) where
 frame:=fun i h h' st hk=>⟨Wk.frame i h h' st.1 fun b hb o e=>by
   rcases hfp b hb with rfl | ⟨o',m⟩
   ·exact hk b o (.inl (.head _)) e
   ·have:o' = o:=Option.some.inj ((st.2 _ m).symm.trans e)
    subst this
    exact hk b o' (.inr (hkeep _ m)) e,fun q hq=>hk _ _ (.inr (hkeep q hq)) (st.2 q hq)⟩
 ex:=fun i h st b hb=>by
  refine x22 (hgo i h st.1) fun o n e _=>?_
  refine rwG (List.mem_singleton.mp hb) ?_;exact ⟨o,e⟩
 step:=fun i s Q p hp st hf hw hQ=>by
  have hi:i < items.length:=(List.getElem?_eq_some_iff.mp hp).1
  refine Wk.item i s _ NoE hi st.1 fun v h' tk pv st' hk=>⟨v,rfl, ?_⟩
  refine x23 (hgo _ _ st') fun o n e c nn=>?_
  exact oH (s:={ s with heap:=h',toks:=tk }) e c nn (hQ v h' tk [] ⟨st',fun q hq=>hk _ _ (hw q (hkeep q hq)) (st.2 q hq)⟩ hk (fun _ hq=>nomatch hq) (hP i p v hp pv))
 done:=fun s Q st hf hw hQ=>Wk.done s _ NoE st.1 fun h' tk hk=>hQ h' tk hk
 self:=fun i s Q st hQ=>Wk.self i s Q NoE st.1 hQ
theorem Trn.mX {elts:List PySem.Expr} {kk:Nat} {pos:Pos} {it:Addr} {fp wr:List Addr} {items:List PV} {Pt:Nat→Array Value→Prop} {St:Nat→Heap→Prop} {Mid:Nat→Addr→Heap→Prop} (Wk:WalksT C.prog C.w C.A it fp wr items.length Pt St Mid) (keep:Led) (hkeep:∀ q∈keep,q∈W₀.fz)
  (hfp:∀ b∈fp,b∈wr∨∃ o,(b,o)∈keep) (hP:∀ i p vals,items[i]? = some p→Pt i vals→∃ ps,p = .tup ps∧RVs W₀.fz (ads W₀.led) ps vals.toList) (hex:∀ i h,St i h→∀ b∈wr,∃ o,h.get? b = some o) :
  Trn C W₀ (.Tuple elts kk pos) it wr items (fun i h=>St i h∧∀ q∈keep,h.get? q.1 = some q.2) where
 frame:=fun i h h' st hk=>⟨Wk.frame i h h' st.1 fun b hb o e=>by
   rcases hfp b hb with hb | ⟨o',m⟩
   ·exact hk b o (.inl hb) e
   ·have:o' = o:=Option.some.inj ((st.2 _ m).symm.trans e)
    subst this
    exact hk b o' (.inr (hkeep _ m)) e,fun q hq=>hk _ _ (.inr (hkeep q hq)) (st.2 q hq)⟩
 ex:=fun i h st=>hex i h st.1
 step:=fun i s Q p hp st hf hw hQ=>by
  have hi:i < items.length:=(List.getElem?_eq_some_iff.mp hp).1
  refine Wk.item i s _ NoE hi st.1 fun T vals h' tk pv hsz hT hm hk=>⟨.ref T,rfl, ?_⟩
  obtain ⟨o,ho,hc,n,hd⟩:=hT
  obtain ⟨ps,rfl,rs⟩:=hP i p vals hp pv
  refine Wk.go elts kk pos i T { s with heap:=h',toks:=tk } _ NoE hm fun h'' st'' hk2=>?_
  have hk3:∀ b o,b ∉ wr→s.heap.get? b = some o→h''.get? b = some o:=fun b o hb e=>hk2 b o hb (hk b o hb e)
  refine hQ (.ref T) h'' tk [(T,o)] ⟨st'',fun q hq=>hk3 _ _ (hw q (hkeep q hq)) (st.2 q hq)⟩ hk3 (fun q hq=>?_) ?_
  ·refine rwG (List.mem_singleton.mp hq) ?_
   exact ⟨hk2 _ _ (Wk.apart i T _ hm) ho,hsz⟩
  ·skip
   exact ⟨T,o,vals.toList,rfl,.head _,⟨hc,n,hd⟩,RVs.mono (fun _ hx=>.tail _ hx) (Pre.refl _) rs⟩
 done:=fun s Q st hf hw hQ=>Wk.done s _ NoE st.1 fun h' tk hk=>hQ h' tk hk
 self:=fun i s Q st hQ=>Wk.self i s Q NoE st.1 hQ
theorem Rep.hJ (q:Rep C sc loc μ W h) {a:Addr} {o:Obj} (ho:h.get? a = some o) (no:a ∉ C.env.locals :: W.own) (hn₀:C.h₀.get? a = none) (hf:∀ p∈W.fz,p.1 ≠ a):Rep C sc loc μ { W with hid:=(a,o) :: W.hid } h:=by
 have perm:List.Perm ({ W with hid:=(a,o) :: W.hid }:Wd).oth ((a,o) :: W.oth):=List.perm_middle
 have perm2:List.Perm ({ W with hid:=(a,o) :: W.hid }:Wd).own (a :: W.own):=perm.map _
 have mo:∀ x,x∈C.env.locals :: ({ W with hid:=(a,o) :: W.hid }:Wd).own→x = a∨x∈C.env.locals :: W.own:=fun x hx=>by
  rcases List.mem_cons.mp hx with rfl | hx
  ·exact .inr (.head _)
  ·rcases List.mem_cons.mp (perm2.mem_iff.mp hx) with rfl | hx
   ·exact .inl rfl
   ·exact .inr (.tail _ hx)
 refine ⟨q.ns,q.keep,q.fzs,fun p hp=>?_, ?_,fun b hb=>?_,fun p hp hb=>?_,q.mem,q.tabs,q.kf,q.cells⟩
 ·rcases List.mem_cons.mp (perm.mem_iff.mp hp) with rfl | hp
  ·exact ho
  ·exact q.all p hp
 ·refine ((perm2.cons _).trans (List.Perm.swap _ _ _)).nodup_iff.mpr (List.nodup_cons.mpr ⟨no,q.nd⟩)
 ·rcases mo b hb with rfl | hb
  ·exact hn₀
  ·exact q.old b hb
 ·rcases mo _ hb with e | hb
  ·exact hf p hp e
  ·exact q.fzo p hp hb
theorem Rep.mE:∀ {H:Led} {W:Wd} {h₁:Heap},Rep C sc loc μ W h₁→(∀ a∈C.env.locals :: W.own,a ∉ H.map (·.1))→(∀ a∈H.map (·.1),C.h₀.get? a = none)→(∀ p∈W.fz,p.1 ∉ H.map (·.1))→(H.map (·.1)).Nodup→(∀ p∈H,h₁.get? p.1 = some p.2) →
  Rep C sc loc μ { W with hid:=H ++ W.hid } h₁
 | [],_,_,q,_,_,_,_,_=>q
 | (a,o) :: H,W,h₁,q,h1,h2,h3,h4,h5=>by
  obtain ⟨n1,n2⟩:=List.nodup_cons.mp (show (a :: H.map (·.1)).Nodup from h4)
  have q':=Rep.mE (H:=H) q (fun x hx hm=>h1 x hx (.tail _ hm)) (fun x hx=>h2 x (.tail _ hx)) (fun p hp hm=>h3 p hp (.tail _ hm)) n2 fun p hp=>h5 p (.tail _ hp)
  refine Rep.hJ (W:={ W with hid:=H ++ W.hid }) q' (h5 _ (.head _)) (fun hm=>?_) (h2 a (.head _)) fun p hp e=>h3 p hp (e ▸ .head _)
  rcases List.mem_cons.mp hm with e | hm
  ·exact h1 _ (.head _) (e ▸ .head _)
  ·have hm':a∈(W.tab ++ ((H ++ W.hid) ++ W.led.flatten)).map (·.1):=hm
   simp only [List.map_append,List.mem_append] at hm'
   have inO:a∈W.own→False:=fun hx=>h1 a (.tail _ hx) (.head _)
   have own_:a∈W.tab.map (·.1)∨a∈W.hid.map (·.1)∨a∈W.led.flatten.map (·.1)→a∈W.own:=fun hx=>by
    refine (?_:a∈(W.tab ++ (W.hid ++ W.led.flatten)).map (·.1))
    simp only [List.map_append,List.mem_append];exact hx
   rcases hm' with hx | (hx | hx) | hx
   ·exact inO (own_ (.inl hx))
   ·exact n1 hx
   ·exact inO (own_ (.inr (.inl hx)))
   ·exact inO (own_ (.inr (.inr hx)))
noncomputable def bU (C:Ctx) (sc:Sc) (loc:Loc) (μ:Mem) (W:Wd) (s:Shared) (tg:PySem.Expr) (src:Src) (Q:Value→Shared→Prop):Prop:=match src with
 | .items l=>∀ it wr St h' tk W',Trn C W' tg it wr l St→At C sc loc μ W' W' wr St 0 h'→W.le W'→Q (.ref it) { s with heap:=h',toks:=tk }
 | .ref i _=>∀ it ax h' tk W',AtL C sc loc μ W' it ax i 0 h'→W.le W'→Q (.ref it) { s with heap:=h',toks:=tk }
theorem At.start (q:Rep C sc loc μ W h) {H:Led} {St:Nat→Heap→Prop} (hk:∀ b o,h.get? b = some o→h'.get? b = some o) (hlo:∀ a∈H.map (·.1),h.objs.size ≤ a) (hnd:(H.map (·.1)).Nodup) (hH:∀ p∈H,h'.get? p.1 = some p.2) (st:St 0 h') :
  At C sc loc μ W W (H.map (·.1)) St 0 h':=by
 have ge:∀ a o,h.get? a = some o→a ∉ H.map (·.1):=fun a o e hm=>absurd (aJ e) (Nat.not_lt.mpr (hlo a hm))
 refine ⟨⟨H,rfl,Rep.mE (q.same hk) (fun a ha=>?_) (fun a ha=>?_) (fun p hp=>ge _ _ (q.fzs p hp)) hnd hH⟩,st,fun _ h=>h,Pre.refl _⟩
 ·obtain ⟨o,e⟩:=q.bg ha
  exact ge a o e
 ·cases e:C.h₀.get? a with
  | none=>rfl
  | some o=>exact absurd ha (ge a o (q.keep _ _ e))
theorem At.one (q:Rep C sc loc μ W s.heap) {o:Obj} {St:Nat→Heap→Prop} (hfr:o.isFreed = false) (st:St 0 (s.heap.push o)):At C sc loc μ W W [s.heap.objs.size] St 0 (s.heap.push o) :=
 At.start (H:=[(s.heap.objs.size,o)]) q (fun _ _ e=>Heap.get?_push_of_some _ e) (fun a ha=>by simp at ha;lia) (by simp) (fun p hp=>by refine rwG (List.mem_singleton.mp hp) ?_;exact Heap.get?_push_size _ hfr) st
end
end Mine
end
section
namespace Mine
open PySem PySem.W PySem.Spec PySem.Calls PyProof.Rows
section
variable {C:Ctx} {sc:Sc} {loc loc' loc'':Loc} {μ μ' μ'' μ₁ μ₂ μ₃:Mem} {W W' W₀:Wd} {s:Shared} {α β:Type} {k:Nat} {r:R} {h h':Heap} {tg:PySem.Expr} {Q:Value→Shared→Prop}
theorem rx (g:Good C sc k) {l:List PV} {x:Value} (hx:IsV (.lst l) x W) (q:Rep C sc loc μ W s.heap) (hQ:bU C sc loc μ W s tg (.items l) Q):wpAny (model C.prog C.w) C.A (pyIter x) Q NoE s:=by
 obtain ⟨a,vs,n,rfl,m,rs⟩:=RV.l' hx
 have hg:=q.fzs _ m
 have hL:s.heap.IsList a vs.toArray:=⟨_,hg,rfl,n,rfl⟩
 have hsz:vs.toArray.size = l.length:=by simp [rs.len]
 have hne:a ≠ s.heap.objs.size:=Nat.ne_of_lt (aJ hg)
 refine wpAny_pyIter_list hL ?_
 refine hQ _ _ _ _ _ W (Trn.ofWalks (hsz ▸ Walks.list g.hnd s.heap.objs.size a hne vs.toArray) [(a,_)] (fun p hp=>List.mem_singleton.mp hp ▸ m) (fun b hb=>?_) (fun i p v hp hv=>?_) fun i h st=>?_) (At.one q rfl ⟨⟨⟨_,Heap.get?_push_size _ rfl,rfl,rfl⟩,hL.at fun o e=>Heap.get?_push_of_some _ e⟩,fun p hp=>?_⟩) (Wd.le.refl _)
 ·rcases List.mem_cons.mp hb with rfl | hb
  ·exact .inl rfl
  ·obtain rfl:=List.mem_singleton.mp hb;exact .inr ⟨_,.head _⟩
 ·refine x12 (rs.get hp) fun v' e hv'=>?_
  have:v' = v:=by have hv:vs.toArray[i]? = some v:=hv;rw [List.getElem?_toArray,e] at hv;exact Option.some.inj hv
  exact this ▸ hv'
 ·obtain ⟨⟨o,e,c,_⟩,_⟩:=st
  exact ⟨o,_,e,c,rfl⟩
 ·refine rwG (List.mem_singleton.mp hp) ?_;exact Heap.get?_push_of_some _ hg
theorem tA (g:Good C sc k) {l:List PV} {x:Value} (hx:IsV (.tup l) x W) (q:Rep C sc loc μ W s.heap) (hQ:bU C sc loc μ W s tg (.items l) Q):wpAny (model C.prog C.w) C.A (pyIter x) Q NoE s:=by
 obtain ⟨a,ot,vs,n,rfl,m,hc,hd,rs⟩:=RV.t' hx
 have hg:=q.fzs _ m
 have hL:s.heap.IsTuple a vs.toArray:=⟨_,hg,hc,n,hd⟩
 have hsz:vs.toArray.size = l.length:=by simp [rs.len]
 have hne:a ≠ s.heap.objs.size:=Nat.ne_of_lt (aJ hg)
 refine wpAny_pyIter_tuple hL ?_
 refine hQ _ _ _ _ _ W (Trn.ofWalks (hsz ▸ Walks.tuple g.hnd s.heap.objs.size a hne vs.toArray) [(a,_)] (fun p hp=>List.mem_singleton.mp hp ▸ m) (fun b hb=>?_) (fun i p v hp hv=>?_) fun i h st=>?_) (At.one q rfl ⟨⟨⟨_,Heap.get?_push_size _ rfl,rfl,rfl⟩,hL.at fun o e=>Heap.get?_push_of_some _ e⟩,fun p hp=>?_⟩) (Wd.le.refl _)
 ·rcases List.mem_cons.mp hb with rfl | hb
  ·exact .inl rfl
  ·obtain rfl:=List.mem_singleton.mp hb;exact .inr ⟨_,.head _⟩
 ·refine x12 (rs.get hp) fun v' e hv'=>?_
  have:v' = v:=by have hv:vs.toArray[i]? = some v:=hv;rw [List.getElem?_toArray,e] at hv;exact Option.some.inj hv
  exact this ▸ hv'
 ·obtain ⟨⟨o,e,c,_⟩,_⟩:=st
  exact ⟨o,_,e,c,rfl⟩
 ·refine rwG (List.mem_singleton.mp hp) ?_;exact Heap.get?_push_of_some _ hg
theorem lp {x:Str} {i:Nat} {p:PV} {v:Value} {fz:Led} {ad:List Addr} (hp:(chars x)[i]? = some p) (hv:SignAt x i v):RV fz ad p v:=by
 refine Bn hv fun c u e=>?_
 unfold chars at hp
 rw [List.getElem?_map,Array.getElem?_toList,e] at hp
 refine so1m hp ?_
 exact RV.x _ _
theorem lD (x:Str):x.cps.size = (chars x).length:=by simp [chars]
theorem tP (g:Good C sc k) {y:Str} {x:Value} (hx:IsV (.str y) x W) (q:Rep C sc loc μ W s.heap) (hQ:bU C sc loc μ W s tg (.items (chars y)) Q):wpAny (model C.prog C.w) C.A (pyIter x) Q NoE s:=by
 obtain ⟨t,rfl⟩:=RV.x' hx
 cases ha:y.cps.all (· < 128)
 ·refine wpAny_pyIter_wide ha ?_
  refine hQ _ _ _ _ _ W (Trn.ofWalks (lD y ▸ Walks.strWide g.hnd s.heap.objs.size y t) [] (fun _ hp=>nomatch hp) (fun b hb=>.inl (List.mem_singleton.mp hb)) (fun i p v hp hv=>lp hp hv) fun i h st=>?_) (At.one q rfl ⟨⟨_,Heap.get?_push_size _ rfl,rfl,rfl⟩,fun _ hp=>nomatch hp⟩) (Wd.le.refl _)
  refine x13 st fun o e c _=>?_
  exact ⟨o,_,e,c,rfl⟩
 ·refine wpAny_pyIter_ascii ha ?_
  refine hQ _ _ _ _ _ W (Trn.ofWalks (lD y ▸ Walks.strAscii g.hnd s.heap.objs.size y t) [] (fun _ hp=>nomatch hp) (fun b hb=>.inl (List.mem_singleton.mp hb)) (fun i p v hp hv=>lp hp hv) fun i h st=>?_) (At.one q rfl ⟨⟨_,Heap.get?_push_size _ rfl,rfl,rfl⟩,fun _ hp=>nomatch hp⟩) (Wd.le.refl _)
  refine x13 st fun o e c _=>?_
  exact ⟨o,_,e,c,rfl⟩
theorem mT {n:Nat} {a:Int}:bb a (n + 1) = .int a :: bb (a + 1) n:=rfl
theorem jm:∀ (n:Nat) (a:Int) (i:Nat) (p:PV),(bb a n)[i]? = some p→p = .int (a + i)
 | 0,_,_,_,h=>no1 h
 | n + 1,a,0,p,h=>(so1 h).symm.trans (by simp)
 | n + 1,a,i + 1,p,h=>by
  rw [mT,List.getElem?_cons_succ] at h
  refine rwG (jm n (a + 1) i p h) ?_
  congr 1;push_cast;omega
theorem gq:∀ (n:Nat) (a:Int),(bb a n).length = n
 | 0,_=>rfl
 | n + 1,a=>by rw [mT,List.length_cons,gq n]
theorem oG (g:Good C sc k) {R:Addr} {a b:Int} {t u v:Tok} (hr:IsRange s.heap R a b 1 t u v) (ha:aS a = true) (hb:aS b = true) (q:Rep C sc loc μ W s.heap) (hQ:bU C sc loc μ W s tg (.items (bb a (b - a).toNat)) Q) :
  wpAny (model C.prog C.w) C.A (pyIter (.ref R)) Q NoE s:=by
 have ha':a.natAbs < 1073741824:=of_decide_eq_true ha
 have hb':b.natAbs < 1073741824:=of_decide_eq_true hb
 refine wpAny_pyIter_range hr (small_one (by lia) (by lia) (by lia) (by lia)) ?_
 have hsz:Builtin.Range.rangeSize a b 1 = ((b - a).toNat:Int):=by refine rwG (rangeSize_one ..) ?_;split <;> lia
 refine rwG hsz ?_
 refine hQ _ _ _ _ _ W (Trn.ofWalks (by rw [gq];exact Walks.range g.hnd s.heap.objs.size a 1 (b - a).toNat) [] (fun _ hp=>nomatch hp) (fun b hb=>.inl (List.mem_singleton.mp hb)) (fun i p v hp hv=>?_) fun i h st=>?_) (At.one q rfl ⟨?_,fun _ hp=>nomatch hp⟩) (Wd.le.refl _)
 ·refine zp hv fun t=>?_
  rw [jm _ _ _ _ hp,Int.mul_one]
  exact RV.i _ _
 ·exact ⟨_,_,st,rfl,rfl⟩
 ·refine (?_:IsRangeIter _ _ (a + ((0:Nat):Int) * 1) (((b - a).toNat:Int) - ((0:Nat):Int)) 1)
  have e1:a + ((0:Nat):Int) * 1 = a:=by simp
  have e2:((b - a).toNat:Int) - ((0:Nat):Int) = ((b - a).toNat:Int):=by simp
  rw [e1,e2]
  exact Heap.get?_push_size _ rfl
theorem tX (g:Good C sc k) {l:List PV} {x:Value} (hx:IsV (.lst l) x W) (q:Rep C sc loc μ W s.heap) (hQ:bU C sc loc μ W s tg (.items l.reverse) Q):wpAny (model C.prog C.w) C.A (call (.type "reversed") [x]) (fun x s₁=>wpAny (model C.prog C.w) C.A (pyIter x) Q NoE s₁) NoE s:=by
 obtain ⟨a,vs,n,rfl,m,rs⟩:=RV.l' hx
 have hg:=q.fzs _ m
 have hL:s.heap.IsList a vs.toArray:=⟨_,hg,rfl,n,rfl⟩
 have hsz:vs.toArray.size = l.reverse.length:=by simp [rs.len]
 have hne:a ≠ s.heap.objs.size:=Nat.ne_of_lt (aJ hg)
 refine call_reversed_list hL ?_
 have hit:(s.heap.push (revObj a ((vs.toArray.size:Int) - 1))).IsRevIter s.heap.objs.size a ((vs.toArray.size:Int) - 1):=⟨_,Heap.get?_push_size _ rfl,rfl,rfl⟩
 refine wpAny_pyIter_revIter (s:={ s with heap:=_ }) hit ?_
 refine hQ _ _ _ _ _ W (Trn.ofWalks (hsz ▸ Walks.listRev g.hnd s.heap.objs.size a hne vs.toArray) [(a,_)] (fun p hp=>List.mem_singleton.mp hp ▸ m) (fun b hb=>?_) (fun i p v hp hv=>?_) fun i h st=>?_) (At.one q rfl ⟨⟨Nat.zero_le _, ?_,hL.at fun o e=>Heap.get?_push_of_some _ e⟩,fun p hp=>?_⟩) (Wd.le.refl _)
 ·rcases List.mem_cons.mp hb with rfl | hb
  ·exact .inl rfl
  ·obtain rfl:=List.mem_singleton.mp hb;exact .inr ⟨_,.head _⟩
 ·have hi:i < l.reverse.length:=(List.getElem?_eq_some_iff.mp hp).1
  rw [List.length_reverse] at hi
  rw [List.getElem?_reverse hi] at hp
  refine x12 (rs.get hp) fun v' e hv'=>?_
  have:v' = v:=by have hv:vs.toArray[l.reverse.length - 1 - i]? = some v:=hv;rw [List.getElem?_toArray,List.length_reverse,e] at hv;exact Option.some.inj hv
  exact this ▸ hv'
 ·obtain ⟨_,⟨o,e,c,_⟩,_⟩:=st
  exact ⟨o,_,e,c,rfl⟩
 ·refine rwG (List.mem_singleton.mp hp) ?_;exact Heap.get?_push_of_some _ hg
 ·have e:((l.reverse.length:Nat):Int) - 1 - ((0:Nat):Int) = (vs.toArray.size:Int) - 1:=by refine rwG hsz ?_;simp
  refine (?_:Heap.IsRevIter _ _ _ (((l.reverse.length:Nat):Int) - 1 - ((0:Nat):Int)))
  refine rwG e ?_;exact hit
theorem o6 {a:Int} {x:PV} {r:List PV}:bN a (x :: r) = .tup [.int a,x] :: bN (a + 1) r:=rfl
theorem lC:∀ (l:List PV) (a:Int) (i:Nat) (p:PV),(bN a l)[i]? = some p→∃ q,l[i]? = some q∧p = .tup [.int (a + i),q]
 | [],_,_,_,h=>no1 h
 | x :: r,a,0,p,h=>⟨x,rfl,(so1 h).symm.trans (by simp)⟩
 | x :: r,a,i + 1,p,h=>by
  rw [o6,List.getElem?_cons_succ] at h
  refine x12 (lC r (a + 1) i p h) fun q e e2=>?_
  refine ⟨q,by simpa using e, ?_⟩
  refine rwG e2 ?_;congr 3;push_cast;omega
theorem gE:∀ (l:List PV) (a:Int),(bN a l).length = l.length
 | [],_=>rfl
 | _ :: r,a=>by rw [o6,List.length_cons,gE r,List.length_cons]
theorem qS (g:Good C sc k) {elts:List PySem.Expr} {kk:Nat} {pos:Pos} {l:List PV} {x:Value} (hx:IsV (.lst l) x W) (q:Rep C sc loc μ W s.heap) (hQ:bU C sc loc μ W s (.Tuple elts kk pos) (.items (bN 0 l)) Q) :
  wpAny (model C.prog C.w) C.A (call (.type "enumerate") [x]) (fun x s₁=>wpAny (model C.prog C.w) C.A (pyIter x) Q NoE s₁) NoE s:=by
 obtain ⟨a,vs,n,rfl,m,rs⟩:=RV.l' hx
 have hg:=q.fzs _ m
 have hL:s.heap.IsList a vs.toArray:=⟨_,hg,rfl,n,rfl⟩
 have hsz:vs.toArray.size = (bN 0 l).length:=by simp [rs.len,gE]
 have hlt:=aJ hg
 refine call_enumerate_list hL fun h' hE hI hz hk=>?_
 refine wpAny_pyIter_enum (s:={ s with heap:=h' }) hE ?_
 refine x12 (id hI) fun oi hoi _=>?_
 have W1:=WalksT.enumerate (prog:=C.prog) (w:=C.w) g.hnd (s.heap.objs.size + 1) s.heap.objs.size a (Nat.succ_ne_self _) (Nat.ne_of_lt (Nat.lt_succ_of_lt hlt)) (Nat.ne_of_lt hlt) vs.toArray
 rw [hsz] at W1
 obtain ⟨oe,hoe,_⟩:∃ oe,h'.get? (s.heap.objs.size + 1) = some oe∧True:=⟨_,hE,trivial⟩
 refine hQ _ _ _ _ _ W (Trn.mX (elts:=elts) (kk:=kk) (pos:=pos) W1 [(a,_)] (fun p hp=>List.mem_singleton.mp hp ▸ m) (fun b hb=>?_) (fun i p vals hp hv=>?_) fun i h st b hb=>?_) (At.start (H:=[(s.heap.objs.size + 1,oe),(s.heap.objs.size,oi)]) q hk (fun a ha=>?_) ?_ (fun p hp=>?_) ⟨⟨⟨_,hE⟩,hI,hL.at fun o e=>hk _ _ e⟩,fun p hp=>?_⟩) (Wd.le.refl _)
 ·rcases List.mem_cons.mp hb with rfl | hb
  ·exact .inl (.head _)
  ·rcases List.mem_cons.mp hb with rfl | hb
   ·exact .inl (.tail _ (.head _))
   ·obtain rfl:=List.mem_singleton.mp hb;exact .inr ⟨_,.head _⟩
 ·obtain ⟨t,x,ex,rfl⟩:=hv
  obtain ⟨p',ep,rfl⟩:=lC _ _ _ _ hp
  refine x12 (rs.get ep) fun v' e hv'=>?_
  have:v' = x:=by rw [List.getElem?_toArray,e] at ex;exact Option.some.inj ex
  subst this
  refine ⟨_,rfl,RVs.cons ?_ (RVs.cons hv' RVs.nil)⟩
  refine rwG (show (0:Int) + (i:Int) = (i:Int) from Int.zero_add _) ?_
  exact RV.i _ _
 ·obtain ⟨⟨old,he⟩,⟨o,e,_⟩,_⟩:=st
  rcases List.mem_cons.mp hb with rfl | hb
  ·exact ⟨_,he⟩
  ·refine rwG (List.mem_singleton.mp hb) ?_;exact ⟨o,e⟩
 ·simp at ha;lia
 ·simp
 ·rcases List.mem_cons.mp hp with rfl | hp
  ·exact hoe
  ·refine rwG (List.mem_singleton.mp hp) ?_;exact hoi
 ·refine rwG (List.mem_singleton.mp hp) ?_;exact hk _ _ hg
end
end Mine
end
section
namespace Mine
open PySem PySem.W PySem.Spec PySem.Calls PyProof.Rows
structure Nxt (prog:Program) (w:World) (i:Addr) (fp:List Addr) (n:Nat) (val:Nat→Value) (S:Nat→Heap→Prop):Prop where
 at_:∀ k h h',S k h→(∀ b∈i :: fp,∀ o,h.get? b = some o→h'.get? b = some o)→S k h'
 ex:∀ k h,S k h→∃ o,h.get? i = some o
 item:∀ {A:Around} {E:Value→Shared→Prop} k (s:Shared) (Q:Value→Shared→Prop),k < n→S k s.heap→(∀ h',S (k + 1) h'→Heap.SameBut i s.heap h'→Q (val k) { s with heap:=h' })→wpAny (model prog w) A (Builtin.SmallTypes.nextOf (.ref i)) Q E s
 fin:∀ {A:Around} {E:Value→Shared→Prop} (s:Shared) (Q:Value→Shared→Prop),A.handled = none→S n s.heap→(∀ h' e,Heap.ExtBut i s.heap h'→(∃ o,h'.get? e = some o∧o.cls = .type "StopIteration")→E (.ref e) { s with heap:=h' })→wpAny (model prog w) A (Builtin.SmallTypes.nextOf (.ref i)) Q E s
section
variable {prog:Program} {w:World} {A:Around} {E:Value→Shared→Prop} {s:Shared}
theorem Nxt.list (it l:Addr) (hne:l ≠ it) (items:Array Value):Nxt prog w it [l] items.size (fun k=>items.getD k .none) (fun k h=>h.IsListIter it l k∧h.IsList l items) where
 at_:=fun _ _ _ st hk=>⟨st.1.at fun o e=>hk it (by simp) o e,st.2.at fun o e=>hk l (by simp) o e⟩
 ex:=fun _ _ st=>let ⟨o,e,_⟩:=st.1;⟨o,e⟩
 item:=fun k s Q hk st hQ=>wpAny_nextOf_list_item st.1 st.2 (x:=items.getD k .none) (by simp [hk]) fun h' hit' hs'=>hQ h' ⟨hit',st.2.extBut hs'.extBut hne⟩ hs'
 fin:=fun s Q hh st hE=>wpAny_nextOf_list_end hh st.1 st.2 (by simp) fun h' e a b=>hE h' e a b
theorem Nxt.tuple (it l:Addr) (hne:l ≠ it) (items:Array Value):Nxt prog w it [l] items.size (fun k=>items.getD k .none) (fun k h=>h.IsTupleIter it l k∧h.IsTuple l items) where
 at_:=fun _ _ _ st hk=>⟨st.1.at fun o e=>hk it (by simp) o e,st.2.at fun o e=>hk l (by simp) o e⟩
 ex:=fun _ _ st=>let ⟨o,e,_⟩:=st.1;⟨o,e⟩
 item:=fun k s Q hk st hQ=>by
  obtain ⟨hit,ht⟩:=st
  refine x13 (id hit) fun o ho hc hd=>?_
  obtain ⟨ol,hol,_,nl,hdl⟩:=id ht
  skip
  refine wpAny_bind (wpAny_callSpecial?_slot (name:=Str.ofString "__next__") hit.typeIs F.slot_tuple_iterator_next (wpAny_call_entry F.slot_tuple_iterator_next hit.typeIs F.entry_tuple_iterator_next ?_ (F.args_tuple_iterator_next_1 _)))
  refine (?_:wpAny _ _ (field (.ref it) 0 >>= _) _ _ s)
  refine wpAny_bind (wpAny_field ho hd (x:=.ref l) rfl ?_)
  refine (?_:wpAny _ _ (if (Value.ref l == Value.none) = true then _ else _) _ _ s)
  refine rwG (if_neg (show ¬ ((Value.ref l == Value.none) = true) from Bool.false_ne_true)) ?_
  refine (?_:wpAny _ _ (field (.ref it) 1 >>= _) _ _ s)
  refine wpAny_bind (wpAny_field ho hd (x:=.int k 0) rfl ?_)
  refine (?_:wpAny _ _ (seqItems? (.ref l) >>= _) _ _ s)
  refine wpAny_bind (wpAny_seqItems hol hdl ?_)
  have hx:items[k]? = some (items.getD k .none):=by simp [hk]
  simp only [Int.toNat_natCast,hx]
  refine wpAny_bind (wpAny_setField ho hd (by simp) (wpAny_pure ⟨_,rfl,wpAny_pure (hQ _ ⟨?_,ht.extBut (Heap.SameBut.update ..).extBut hne⟩ (Heap.SameBut.update ..))⟩))
  exact ⟨_,Heap.get?_update_self _ ho (Obj.isFreed_of_fields (Obj.data_mapFields hd _)),(Obj.cls_mapFields ..).trans hc,by rw [Obj.data_mapFields hd];simp [rawInt]⟩
 fin:=fun {A E} s Q hh st hE=>by
  obtain ⟨hit,ht⟩:=st
  refine x13 (id hit) fun o ho hc hd=>?_
  obtain ⟨ol,hol,_,nl,hdl⟩:=id ht
  skip
  refine wpAny_bind (wpAny_callSpecial?_slot (name:=Str.ofString "__next__") hit.typeIs F.slot_tuple_iterator_next (wpAny_call_entry F.slot_tuple_iterator_next hit.typeIs F.entry_tuple_iterator_next ?_ (F.args_tuple_iterator_next_1 _)))
  refine (?_:wpAny _ _ (field (.ref it) 0 >>= _) _ _ s)
  refine wpAny_bind (wpAny_field ho hd (x:=.ref l) rfl ?_)
  refine (?_:wpAny _ _ (if (Value.ref l == Value.none) = true then _ else _) _ _ s)
  refine rwG (if_neg (show ¬ ((Value.ref l == Value.none) = true) from Bool.false_ne_true)) ?_
  refine (?_:wpAny _ _ (field (.ref it) 1 >>= _) _ _ s)
  refine wpAny_bind (wpAny_field ho hd (x:=.int items.size 0) rfl ?_)
  refine (?_:wpAny _ _ (seqItems? (.ref l) >>= _) _ _ s)
  refine wpAny_bind (wpAny_seqItems hol hdl ?_)
  have hx:items[items.size]? = none:=by simp
  simp only [Int.toNat_natCast,hx]
  refine wpAny_bind (wpAny_rule (wpAny_bind (wpAny_setField ho hd (by simp) ?_)))
  refine (?_:wpAny _ _ (newExc (.type "StopIteration") [] >>= _) _ _ _)
  refine wpAny_bind ?_
  simp only [newExc,newTuple]
  refine wpAny_bind (wpAny_newObj_type ?_ (by size_fits))
  refine wpAny_bind (m:=firstArgMember _ _) (wpAny_of_eq (a:=Value.none) (by first | rfl | (simp only [firstArgMember];rfl)) ?_)
  refine wpAny_newObj_type ?_ (by size_fits)
  simp only [raiseNew]
  refine wpAny_bind (wpAny_handled ?_)
  first | refine rwG (show A.in1.handled = none from hh) ?_ | skip
  refine wpAny_bind (wpAny_pure (wpAny_throw ?_))
  exact hE _ _ (((Heap.SameBut.update ..).extBut.push _).push _) ⟨_,Heap.get?_push_size _ rfl,rfl⟩
section
variable {z TI TO i1 i2:Addr} {fp1 fp2:List Addr} {n1 n2 k:Nat} {v1 v2:Nat→Value} {S1 S2:Nat→Heap→Prop} {a b:Value}
theorem Nxt.sb {i x:Addr} {fp:List Addr} {n:Nat} {val:Nat→Value} {S:Nat→Heap→Prop} {h h':Heap} (N:Nxt prog w i fp n val S) (st:S k h) (hs:Heap.SameBut x h h') (hx:x ∉ i :: fp):S k h':=N.at_ k h h' st fun b hb o e=>hs.extBut b o (fun q=>hx (q ▸ hb)) e
structure ZAp (z TI TO i1 i2:Addr) (fp1 fp2:List Addr):Prop where
 nd:[z,TI,TO,i1,i2].Nodup
 a1:∀ x∈[z,TO,i2],x ∉ i1 :: fp1
 a2:∀ x∈[z,TO,i1],x ∉ i2 :: fp2
theorem nD (D:ZAp z TI TO i1 i2 fp1 fp2) (N1:Nxt prog w i1 fp1 n1 v1 S1) (N2:Nxt prog w i2 fp2 n2 v2 S2) (hz:IsZip s.heap z TI TO .none) (hTI:IsPair s.heap TI (.ref i1) (.ref i2)) (hTO:IsPair s.heap TO a b) (h1:S1 k s.heap) (h2:S2 k s.heap) (l1:k ≤ n1) (l2:k ≤ n2) (hh:A.handled = none)
  {Q:Fin→Shared→Prop}
  (hQ:k < n1→k < n2→∀ h',IsZip h' z TI TO (rawInt s.heap.objs.size)→IsPair h' TO (v1 k) (v2 k)→S1 (k + 1) h'→S2 (k + 1) h'→IsPair h' s.heap.objs.size (v1 k) (v2 k) →
   (∀ c o,c ≠ z→c ≠ TO→c ≠ i1→c ≠ i2→s.heap.get? c = some o→h'.get? c = some o)→Q (.done (.ret (.ref s.heap.objs.size))) { s with heap:=h' })
  (hE:¬ (k < n1∧k < n2)→∀ h' e,(∀ c o,c ≠ z→c ≠ TO→c ≠ i1→c ≠ i2→s.heap.get? c = some o→h'.get? c = some o)→(∃ o,h'.get? e = some o∧o.cls = .type "StopIteration")→E (.ref e) { s with heap:=h' }) :
  wpAny (model prog w) A (Builtin.«zip.__next__» ⟨[.ref z],[]⟩) Q E s:=by
 have nd:=D.nd
 simp only [List.nodup_cons,List.mem_cons,not_or,List.not_mem_nil,not_false_iff,and_true] at nd
 obtain ⟨⟨zTI,zTO,zi1,zi2⟩,⟨TITO,TIi1,TIi2⟩,⟨TOi1,TOi2⟩,i12,_⟩:=nd
 have stopNe:∀ {h:Heap} {e:Addr} {f:Value},IsZip h z TI TO f→(∃ o,h.get? e = some o∧o.cls = .type "StopIteration")→e ≠ z:=fun hz' he x=>by
  refine x12 he fun o ho hc=>?_
  subst x;rw [hz'] at ho;(have q1:=so1 ho;subst q1);simp at hc
 refine (?_:wpAny _ _ (field (.ref z) 2 >>= _) _ _ _)
 refine wpAny_bind (wpAny_field hz rfl (x:=.bool false) rfl ?_)
 refine (?_:wpAny _ _ (field (.ref z) 3 >>= _) _ _ _)
 refine wpAny_bind (wpAny_field hz rfl (x:=.ref TI) rfl ?_)
 refine wpAny_bind (wpAny_seqItems hTI rfl ?_)
 refine (?_:wpAny _ _ (Builtin.SmallTypes.ownedTupleIsFree (.ref z) >>= _) _ _ _)
 refine wpAny_bind ?_
 skip
 refine wpAny_bind (wpAny_field hz rfl (x:=.none) rfl (wpAny_pure ?_))
 simp only [if_true]
 refine wpAny_bind (wpAny_rule ?_)
 refine wpAny_bind (wpAny_field hz rfl (x:=.ref TO) rfl ?_)
 refine wpAny_bind (wpAny_setField_rec hz (by simp) fun g1 hz1 hs1=>?_)
 replace hz1:IsZip g1 z TI TO .ellipsis:=hz1
 refine wpAny_bind ?_
 simp only [List.zipIdx_cons,List.zipIdx_nil,List.forIn_cons,List.forIn_nil]
 refine wpAny_bind (wpAny_bind (wpAny_onRaise ?_))
 refine (?_:wpAny _ _ (Builtin.SmallTypes.nextOf (.ref i1) >>= _) _ _ _)
 have h1':=N1.sb h1 hs1 (D.a1 z (by simp))
 have h2':=N2.sb h2 hs1 (D.a2 z (by simp))
 have hTO1:IsPair g1 TO a b:=hs1.extBut _ _ (Ne.symm zTO) hTO
 by_cases hk1:k < n1
 rotate_left
 ·obtain rfl:k = n1:=by omega
  refine wpAny_bind (N1.fin _ _ hh h1' fun g2 e hs2 he=>?_)
  have hz2:IsZip g2 z TI TO .ellipsis:=hs2 _ _ zi1 hz1
  have ne:=stopNe hz2 he
  refine x12 he fun oe hoe hce=>?_
  exact wpAny_setField_rec hz2 (by simp) fun g3 _ hs3=>hE (fun c=>hk1 c.1) g3 e (fun c o c1 _ c3 _ x=>hs3.extBut _ _ c1 (hs2 _ _ c3 (hs1.extBut _ _ c1 x))) ⟨oe,hs3.extBut _ _ ne hoe,hce⟩
 refine wpAny_bind (N1.item k _ _ hk1 h1' fun g2 h12 hs2=>wpAny_pure ?_)
 have hTO2:IsPair g2 TO a b:=hs2.extBut _ _ TOi1 hTO1
 refine wpAny_bind (wpAny_seqItems hTO2 rfl ?_)
 refine wpAny_bind (wpAny_updateSeq_pair hTO2 fun g3 hTO3 hs3=>?_)
 replace hTO3:IsPair g3 TO (v1 k) b:=hTO3
 refine wpAny_bind (wpAny_letGo (wpAny_pure ?_))
 refine wpAny_bind (wpAny_bind (wpAny_onRaise ?_))
 refine (?_:wpAny _ _ (Builtin.SmallTypes.nextOf (.ref i2) >>= _) _ _ _)
 have h13:=N1.sb h12 hs3 (D.a1 TO (by simp))
 have h23:=N2.sb (N2.sb h2' hs2 (D.a2 i1 (by simp))) hs3 (D.a2 TO (by simp))
 have hz3:IsZip g3 z TI TO .ellipsis:=hs3.extBut _ _ zTO (hs2.extBut _ _ zi1 hz1)
 by_cases hk2:k < n2
 rotate_left
 ·obtain rfl:k = n2:=by omega
  refine wpAny_bind (N2.fin _ _ hh h23 fun g4 e hs4 he=>?_)
  have hz4:IsZip g4 z TI TO .ellipsis:=hs4 _ _ zi2 hz3
  have ne:=stopNe hz4 he
  refine x12 he fun oe hoe hce=>?_
  exact wpAny_setField_rec hz4 (by simp) fun g5 _ hs5=>hE (fun c=>hk2 c.2) g5 e (fun c o c1 c2 c3 c4 x=>hs5.extBut _ _ c1 (hs4 _ _ c4 (hs3.extBut _ _ c2 (hs2.extBut _ _ c3 (hs1.extBut _ _ c1 x))))) ⟨oe,hs5.extBut _ _ ne hoe,hce⟩
 refine wpAny_bind (N2.item k _ _ hk2 h23 fun g4 h24 hs4=>wpAny_pure ?_)
 have hTO4:IsPair g4 TO (v1 k) b:=hs4.extBut _ _ TOi2 hTO3
 refine wpAny_bind (wpAny_seqItems hTO4 rfl ?_)
 refine wpAny_bind (wpAny_updateSeq_pair hTO4 fun g5 hTO5 hs5=>?_)
 replace hTO5:IsPair g5 TO (v1 k) (v2 k):=hTO5
 refine wpAny_bind (wpAny_letGo (wpAny_pure (wpAny_pure ?_)))
 refine wpAny_bind (wpAny_seqItems hTO5 rfl ?_)
 refine wpAny_bind (wpAny_newTuple ?_)
 have hsz:g5.objs.size = s.heap.objs.size:=by (refine rwG hs5.1 ?_;refine rwG hs4.1 ?_;refine rwG hs3.1 ?_;refine rwG hs2.1 ?_;refine rwG hs1.1 rfl)
 have hz5:IsZip g5 z TI TO .ellipsis:=hs5.extBut _ _ zTO (hs4.extBut _ _ zi2 hz3)
 have h15:=N1.sb (N1.sb h13 hs4 (D.a1 i2 (by simp))) hs5 (D.a1 TO (by simp))
 have h25:=N2.sb h24 hs5 (D.a2 TO (by simp))
 have hzlt:z < g5.objs.size:=Heap.lt_size hz5
 refine (?_:wpAny _ _ (Builtin.SmallTypes.ownedTupleHandOut (.ref z) (.ref g5.objs.size) >>= _) _ _ _)
 refine wpAny_bind ?_
 skip
 have hz6:IsZip (g5.push { cls:=.type "tuple",data:=.seq #[v1 k,v2 k] }) z TI TO .ellipsis:=Heap.get?_push_of_some _ hz5
 refine wpAny_bind (wpAny_setField_rec hz6 (by simp) fun g7 hz7 hs7=>?_)
 replace hz7:IsZip g7 z TI TO (rawInt g5.objs.size):=hz7
 refine wpAny_setField_rec hz7 (by simp) fun g8 hz8 hs8=>?_
 replace hz8:IsZip g8 z TI TO (rawInt g5.objs.size):=hz8
 have up:∀ c o,c ≠ z→g5.get? c = some o→g8.get? c = some o:=fun c o c1 e=>hs8.extBut _ _ c1 (hs7.extBut _ _ c1 (Heap.get?_push_of_some _ e))
 have hT8:IsPair g8 g5.objs.size (v1 k) (v2 k):=hs8.extBut _ _ (Nat.ne_of_gt hzlt) (hs7.extBut _ _ (Nat.ne_of_gt hzlt) (Heap.get?_push_size _ rfl))
 rw [hsz] at hz8 hT8
 refine wpAny_pure ?_
 refine (?_:Q (.done (.ret (.ref g5.objs.size))) _)
 refine rwG hsz ?_
 refine hQ hk1 hk2 g8 hz8 (up _ _ (Ne.symm zTO) hTO5) (N1.at_ _ _ _ h15 fun b hb o e=>up b o (fun q=>D.a1 z (by simp) (q ▸ hb)) e) (N2.at_ _ _ _ h25 fun b hb o e=>up b o (fun q=>D.a2 z (by simp) (q ▸ hb)) e) hT8 fun c o c1 c2 c3 c4 e=>?_
 exact up c o c1 (hs5.extBut _ _ c2 (hs4.extBut _ _ c4 (hs3.extBut _ _ c2 (hs2.extBut _ _ c3 (hs1.extBut _ _ c1 e)))))
inductive ZS (z TI TO i1 i2:Addr) (n1 n2:Nat) (S1 S2:Nat→Heap→Prop) (i:Nat) (h:Heap):Prop
 | mk {a b:Value} (l1:i ≤ n1) (l2:i ≤ n2) (hz:IsZip h z TI TO .none) (hTI:IsPair h TI (.ref i1) (.ref i2)) (hTO:IsPair h TO a b) (h1:S1 i h) (h2:S2 i h)
inductive ZT (z TI TO i1 i2:Addr) (n1 n2:Nat) (S1 S2:Nat→Heap→Prop) (i:Nat) (T:Addr) (h:Heap):Prop
 | mk {a b:Value} (b1:i < n1) (b2:i < n2) (hz:IsZip h z TI TO (rawInt T)) (hTI:IsPair h TI (.ref i1) (.ref i2)) (hTO:IsPair h TO a b) (h1:S1 (i + 1) h) (h2:S2 (i + 1) h) (hm:T ∉ [z,TO,i1,i2])
theorem Bu (hh:A.handled = none) (D:ZAp z TI TO i1 i2 fp1 fp2) (N1:Nxt prog w i1 fp1 n1 v1 S1) (N2:Nxt prog w i2 fp2 n2 v2 S2) :
  WalksT prog w A z (z :: TI :: TO :: i1 :: i2 :: (fp1 ++ fp2)) [z,TO,i1,i2] (min n1 n2) (fun i vals=>i < n1∧i < n2∧vals = #[v1 i,v2 i])
   (ZS z TI TO i1 i2 n1 n2 S1 S2)
   (ZT z TI TO i1 i2 n1 n2 S1 S2):=by
 have nd:=D.nd
 simp only [List.nodup_cons,List.mem_cons,not_or,List.not_mem_nil,not_false_iff,and_true] at nd
 obtain ⟨⟨zTI,zTO,zi1,zi2⟩,⟨TITO,TIi1,TIi2⟩,⟨TOi1,TOi2⟩,i12,_⟩:=nd
 have hT:∀ {s:Shared} {f},IsZip s.heap z TI TO f→s.TypeIs (.ref z) "zip":=fun hz=>⟨_,hz,rfl⟩
 refine ⟨fun c hc=>?_,fun i h h' st hk=>?_,fun i s Q E hi st hQ=>?_,fun elts k pos i T s Q E hm hQ=>?_,fun i T h hm=>by cases hm;assumption,fun s Q E st hQ=>?_,fun i s Q E st hQ=>by cases st with | mk _ _ hz=>exact wpAny_pyIter_zip hz hQ⟩
 ·simp only [List.mem_cons,List.not_mem_nil,or_false] at hc ⊢
  rcases hc with h | h | h | h
  ·exact .inl h
  ·exact .inr (.inr (.inl h))
  ·exact .inr (.inr (.inr (.inl h)))
  ·exact .inr (.inr (.inr (.inr (.inl h))))
 ·obtain @⟨a,b,l1,l2,hz,hTI,hTO,h1,h2⟩:=st
  refine ⟨l1,l2,hk z (by simp) _ hz,hk TI (by simp) _ hTI,hk TO (by simp) _ hTO,N1.at_ _ _ _ h1 fun c hc o e=>hk c ?_ o e,N2.at_ _ _ _ h2 fun c hc o e=>hk c ?_ o e⟩
  ·rcases List.mem_cons.mp hc with rfl | hc <;> simp_all
  ·rcases List.mem_cons.mp hc with rfl | hc <;> simp_all
 ·obtain @⟨a,b,l1,l2,hz,hTI,hTO,h1,h2⟩:=st
  have b1:i < n1:=by omega
  have b2:i < n2:=by omega
  skip
  refine wpAny_bind (wpAny_attempt (wpAny_callSpecial?_slot (name:=Str.ofString "__next__") (hT hz) F.slot_zip_next (wpAny_call_entry F.slot_zip_next (hT hz) F.entry_zip_next ?_ (F.args_zip_next_1 _))))
  refine nD (A:=A.in1) D N1 N2 hz hTI hTO h1 h2 l1 l2 hh (fun _ _ h' a1 a2 a3 a4 a5 a6=>?_) fun c=>absurd ⟨b1,b2⟩ c
  refine ⟨_,rfl,wpAny_pure ?_⟩
  have lt:∀ {c o},s.heap.get? c = some o→s.heap.objs.size ≠ c:=fun e=>Nat.ne_of_gt (Heap.lt_size e)
  obtain ⟨o1,e1⟩:=N1.ex _ _ h1
  obtain ⟨o2,e2⟩:=N2.ex _ _ h2
  refine hQ s.heap.objs.size #[v1 i,v2 i] h' s.toks ⟨b1,b2,rfl⟩ (Nat.le_refl _) ⟨_,a5,rfl,_,rfl⟩ ⟨b1,b2,a1,a6 _ _ (Ne.symm zTI) TITO TIi1 TIi2 hTI,a2,a3,a4,fun hm=>?_⟩ fun c o hc e=>a6 c o (fun x=>hc (by simp [x])) (fun x=>hc (by simp [x])) (fun x=>hc (by simp [x])) (fun x=>hc (by simp [x])) e
  simp only [List.mem_cons,List.not_mem_nil,or_false] at hm
  rcases hm with e | e | e | e
  ·exact lt hz e
  ·exact lt hTO e
  ·exact lt e1 e
  ·exact lt e2 e
 ·obtain @⟨a,b,b1,b2,hz,hTI,hTO,h1,h2,hm⟩:=hm
  exact wpAny_letOwnedTupleGo_zip hz fun h' hz' hs'=>hQ h' ⟨b1,b2,hz',hs'.extBut _ _ (Ne.symm zTI) hTI,hs'.extBut _ _ (Ne.symm zTO) hTO,N1.sb h1 hs' (D.a1 z (by simp)),N2.sb h2 hs' (D.a2 z (by simp))⟩ fun c o hc e=>hs'.extBut _ _ (fun x=>hc (by simp [x])) e
 ·obtain @⟨a,b,l1,l2,hz,hTI,hTO,h1,h2⟩:=st
  skip
  refine wpAny_bind (wpAny_attempt (wpAny_callSpecial?_slot (name:=Str.ofString "__next__") (hT hz) F.slot_zip_next (wpAny_call_entry F.slot_zip_next (hT hz) F.entry_zip_next ?_ (F.args_zip_next_1 _))))
  refine nD (A:=A.in1) D N1 N2 hz hTI hTO h1 h2 l1 l2 hh (fun c1 c2=>absurd (And.intro c1 c2) (by omega)) fun _ h' e hk he=>?_
  refine x12 he fun o ho hc=>?_
  refine wpAny_bind (wpAny_isInstance (T:="StopIteration") (b:=true) ⟨o,ho,hc⟩ isSubtype_stop ?_)
  exact wpAny_pure (hQ _ _ fun c o hc e=>hk c o (fun x=>hc (by simp [x])) (fun x=>hc (by simp [x])) (fun x=>hc (by simp [x])) (fun x=>hc (by simp [x])) e)
end
end
end Mine
end
section
namespace Mine
open PySem PySem.W PySem.Spec PySem.Calls PyProof.Rows
section
variable {C:Ctx} {sc:Sc} {loc loc' loc'':Loc} {μ μ' μ'' μ₁ μ₂ μ₃:Mem} {W W' W₀:Wd} {s:Shared} {α β:Type} {k:Nat} {r:R} {h h':Heap} {tg:PySem.Expr} {Q:Value→Shared→Prop}
theorem rR {x y:PV} {l r:List PV}:dD (x :: l) (y :: r) = .tup [x,y] :: dD l r:=rfl
theorem nC:∀ (l r:List PV) (i:Nat) (p:PV),(dD l r)[i]? = some p→∃ a b,l[i]? = some a∧r[i]? = some b∧p = .tup [a,b]
 | [],_,_,_,h=>no1 h
 | _ :: _,[],_,_,h=>no1 h
 | x :: l,y :: r,0,p,h=>⟨x,y,rfl,rfl,(so1 h).symm⟩
 | x :: l,y :: r,i + 1,p,h=>by
  rw [rR,List.getElem?_cons_succ] at h
  refine x23 (nC l r i p h) fun a b h1 h2 h3=>?_
  exact ⟨a,b,by simpa using h1,by simpa using h2,h3⟩
theorem gk:∀ (l r:List PV),(dD l r).length = min l.length r.length
 | [],_=>(Nat.zero_min _).symm
 | _ :: _,[]=>(Nat.min_zero _).symm
 | x :: l,y :: r=>by rw [rR,List.length_cons,gk l r,List.length_cons,List.length_cons];lia
theorem RVs.getD {fz:Led} {ad:List Addr} {l:List PV} {vs:List Value} (rs:RVs fz ad l vs) {i:Nat} {p:PV} (e:l[i]? = some p):RV fz ad p (vs.toArray.getD i .none):=by
 refine x12 (rs.get e) fun v e2 hv=>?_
 simp [e2,hv]
theorem mQ (g:Good C sc k) {elts:List PySem.Expr} {kk:Nat} {pos:Pos} {la lb:List PV} {va vb:List Value} {a b:Addr} {oa ob:Obj} {S1 S2:Nat→Heap→Prop} (ra:aL la va W) (rb:aL lb vb W) (ma:(a,oa)∈W.fz) (mb:(b,ob)∈W.fz)
  (N1:Nxt C.prog C.w s.heap.objs.size [a] va.toArray.size (fun k=>va.toArray.getD k .none) S1) (N2:Nxt C.prog C.w (s.heap.objs.size + 1) [b] vb.toArray.size (fun k=>vb.toArray.getD k .none) S2)
  (hk:∀ b o,s.heap.get? b = some o→h'.get? b = some o) (hz:IsZip h' (s.heap.objs.size + 4) (s.heap.objs.size + 2) (s.heap.objs.size + 3) .none) (hTI:IsPair h' (s.heap.objs.size + 2) (.ref s.heap.objs.size) (.ref (s.heap.objs.size + 1))) (hTO:IsPair h' (s.heap.objs.size + 3) .none .none) (h1:S1 0 h') (h2:S2 0 h')
  (q:Rep C sc loc μ W s.heap) (hQ:bU C sc loc μ W s (.Tuple elts kk pos) (.items (dD la lb)) Q):wpAny (model C.prog C.w) C.A (pyIter (.ref (s.heap.objs.size + 4))) Q NoE { s with heap:=h' }:=by
 have hga:=q.fzs _ ma
 have hgb:=q.fzs _ mb
 have la':@LT.lt Nat _ a s.heap.objs.size:=aJ hga
 have lb':@LT.lt Nat _ b s.heap.objs.size:=aJ hgb
 have D:ZAp (s.heap.objs.size + 4) (s.heap.objs.size + 2) (s.heap.objs.size + 3) s.heap.objs.size (s.heap.objs.size + 1) [a] [b] :=
  ⟨by simp,fun x hx hm=>by
   simp only [List.mem_cons,List.not_mem_nil,or_false] at hx hm
   rcases hx with rfl | rfl | rfl <;> rcases hm with e | e <;> (have e:_ = (_:Nat):=e;omega),fun x hx hm=>by
   simp only [List.mem_cons,List.not_mem_nil,or_false] at hx hm
   rcases hx with rfl | rfl | rfl <;> rcases hm with e | e <;> (have e:_ = (_:Nat):=e;omega)⟩
 refine wpAny_pyIter_zip (s:={ s with heap:=h' }) hz ?_
 have W1:=Bu g.hnd D N1 N2
 have e:min va.toArray.size vb.toArray.size = (dD la lb).length:=by simp [gk,ra.len,rb.len]
 rw [e] at W1
 obtain ⟨oz,hoz,_⟩:∃ o,h'.get? (s.heap.objs.size + 4) = some o∧True:=⟨_,hz,trivial⟩
 obtain ⟨oI,hoI,_⟩:∃ o,h'.get? (s.heap.objs.size + 2) = some o∧IsPair h' (s.heap.objs.size + 2) (.ref s.heap.objs.size) (.ref (s.heap.objs.size + 1)):=⟨_,hTI,hTI⟩
 obtain ⟨oO,hoO,_⟩:∃ o,h'.get? (s.heap.objs.size + 3) = some o∧True:=⟨_,hTO,trivial⟩
 obtain ⟨o1,ho1⟩:=N1.ex _ _ h1
 obtain ⟨o2,ho2⟩:=N2.ex _ _ h2
 have none_:∀ {x},s.heap.objs.size ≤ x→s.heap.get? x = none:=fun {x} hx=>by
  cases e:s.heap.get? x with
  | none=>rfl
  | some o=>exact absurd (aJ e) (Nat.not_lt.mpr hx)
 have q1:Rep C sc loc μ { W with fz:=(s.heap.objs.size + 2,oI) :: W.fz } h':=q.fro hk (none_ (by lia)) hoI g.tq
 let H:Led:=[(s.heap.objs.size + 4,oz),(s.heap.objs.size + 3,oO),(s.heap.objs.size,o1),(s.heap.objs.size + 1,o2)]
 have hHm:∀ x,x∈H.map (·.1)→s.heap.objs.size ≤ x∧x ≠ s.heap.objs.size + 2:=fun x hx=>by
  simp only [H,List.map_cons,List.map_nil,List.mem_cons,List.not_mem_nil,or_false] at hx;lia
 have ge:∀ x o,s.heap.get? x = some o→x ∉ H.map (·.1):=fun x o e hm=>absurd (aJ e) (Nat.not_lt.mpr (hHm x hm).1)
 have q2:Rep C sc loc μ { ({ W with fz:=(s.heap.objs.size + 2,oI) :: W.fz }:Wd) with hid:=H ++ W.hid } h':=Rep.mE q1 (fun x hx=>by
   obtain ⟨o,e⟩:=q.bg hx
   exact ge x o e) (fun x hx=>by
   cases e:C.h₀.get? x with
   | none=>rfl
   | some o=>exact absurd hx (ge x o (q.keep _ _ e))) (fun p hp=>by
   rcases List.mem_cons.mp hp with rfl | hp
   ·exact fun hm=>(hHm _ hm).2 rfl
   ·exact ge _ _ (q.fzs p hp)) (by simp [H]) fun p hp=>by
   simp only [H,List.mem_cons,List.not_mem_nil,or_false] at hp
   rcases hp with rfl | rfl | rfl | rfl
   ·exact hoz
   ·exact hoO
   ·exact ho1
   ·exact ho2
 refine hQ _ _ _ h' s.toks { W with fz:=(s.heap.objs.size + 2,oI) :: W.fz } (Trn.mX (elts:=elts) (kk:=kk) (pos:=pos) W1 [(s.heap.objs.size + 2,oI),(a,oa),(b,ob)] (fun p hp=>?_) (fun c hc=>?_) (fun i p vals hp hv=>?_) fun i h st c hc=>?_) ⟨⟨H,rfl,q2⟩,⟨⟨Nat.zero_le _,Nat.zero_le _,hz,hTI,hTO,h1,h2⟩,fun p hp=>?_⟩,fun _ h=>h,Pre.refl _⟩ (Wd.le.fro _ _)
 ·simp only [List.mem_cons,List.not_mem_nil,or_false] at hp
  rcases hp with rfl | rfl | rfl
  ·exact .head _
  ·exact .tail _ ma
  ·exact .tail _ mb
 ·simp only [List.mem_cons,List.cons_append,List.nil_append,List.not_mem_nil,or_false] at hc ⊢
  rcases hc with rfl | rfl | rfl | rfl | rfl | rfl | rfl
  ·exact .inl (.inl rfl)
  ·exact .inr ⟨oI,.inl rfl⟩
  ·exact .inl (.inr (.inl rfl))
  ·exact .inl (.inr (.inr (.inl rfl)))
  ·exact .inl (.inr (.inr (.inr rfl)))
  ·exact .inr ⟨oa,.inr (.inl rfl)⟩
  ·exact .inr ⟨ob,.inr (.inr rfl)⟩
 ·obtain ⟨_,_,rfl⟩:=hv
  obtain ⟨x,y,e1,e2,rfl⟩:=nC _ _ _ _ hp
  have sub:∀ p∈W.fz,p∈(s.heap.objs.size + 2,oI) :: W.fz:=fun _ h=>.tail _ h
  exact ⟨_,rfl,RVs.cons (RV.mono sub (Pre.refl _) (ra.getD e1)) (RVs.cons (RV.mono sub (Pre.refl _) (rb.getD e2)) RVs.nil)⟩
 ·obtain @⟨_,_,_,_,z1,z2,z3,z4,z5⟩:=st
  simp only [List.mem_cons,List.not_mem_nil,or_false] at hc
  rcases hc with rfl | rfl | rfl | rfl
  ·exact ⟨_,z1⟩
  ·exact ⟨_,z3⟩
  ·exact N1.ex _ _ z4
  ·exact N2.ex _ _ z5
 ·simp only [List.mem_cons,List.not_mem_nil,or_false] at hp
  rcases hp with rfl | rfl | rfl
  ·exact hoI
  ·exact hk _ _ hga
  ·exact hk _ _ hgb
theorem pZ (g:Good C sc k) {elts:List PySem.Expr} {kk:Nat} {pos:Pos} {la lb:List PV} {x y:Value} (hx:IsV (.lst la) x W) (hy:IsV (.lst lb) y W) (q:Rep C sc loc μ W s.heap) (hQ:bU C sc loc μ W s (.Tuple elts kk pos) (.items (dD la lb)) Q) :
  wpAny (model C.prog C.w) C.A (call (.type "zip") [x,y]) (fun x s₁=>wpAny (model C.prog C.w) C.A (pyIter x) Q NoE s₁) NoE s:=by
 obtain ⟨a,va,n,rfl,ma,ra⟩:=RV.l' hx
 obtain ⟨b,vb,m,rfl,mb,rb⟩:=RV.l' hy
 have hga:=q.fzs _ ma
 have hgb:=q.fzs _ mb
 have hA:s.heap.IsList a va.toArray:=⟨_,hga,rfl,n,rfl⟩
 have hB:s.heap.IsList b vb.toArray:=⟨_,hgb,rfl,m,rfl⟩
 refine call_zip_2 hA hB fun h' hz hTI hTO h1 h2 _ hk=>?_
 exact mQ g ra rb ma mb (Nxt.list _ a (Nat.ne_of_lt (aJ hga)) va.toArray) (Nxt.list _ b (Nat.ne_of_lt (Nat.lt_succ_of_lt (aJ hgb))) vb.toArray) hk hz hTI hTO ⟨h1,hA.at fun o e=>hk _ _ e⟩ ⟨h2,hB.at fun o e=>hk _ _ e⟩ q hQ
noncomputable abbrev zT1 (h:Heap) (l1:Addr):Heap:=h.push { cls:=.type "tuple_iterator",data:=.fields #[.ref l1,.int 0 0] }
noncomputable abbrev zT2 (h:Heap) (l1 l2:Addr):Heap:=(zT1 h l1).push { cls:=.type "list_iterator",data:=.fields #[.ref l2,.int 0 0] }
noncomputable abbrev zT3 (h:Heap) (l1 l2:Addr):Heap:=(zT2 h l1 l2).push { cls:=.type "tuple",data:=.seq #[.ref h.objs.size,.ref (zT1 h l1).objs.size] }
noncomputable abbrev zT4 (h:Heap) (l1 l2:Addr):Heap:=(zT3 h l1 l2).push { cls:=.type "tuple",data:=.seq #[.none,.none] }
noncomputable abbrev zT5 (h:Heap) (l1 l2:Addr):Heap:=(zT4 h l1 l2).push { cls:=.type "zip",data:=.fields #[.none,.bool false,.bool false,.ref (zT2 h l1 l2).objs.size,.ref (zT3 h l1 l2).objs.size] }
theorem nS (l1 l2:Addr) (xs ys:Array Value) :
  Meets (Builtin.«zip.__new__» ⟨[.type "zip",.ref l1,.ref l2],[]⟩) (fun _ R s=>s.heap.IsTuple l1 xs∧s.heap.IsList l2 ys∧R (.ok (.ret (.ref (zT4 s.heap l1 l2).objs.size))) { s with heap:=zT5 s.heap l1 l2 }) :=
 .of_wp fun prog w A R s h=>by
  obtain ⟨hp,g,d,tk,os⟩:=s;refine x03 h fun hl1 hl2 h=>?_
  have hsub:=sub_zip
  have hL1:Heap.IsTuple (Shared.heap ⟨hp,g,d,tk,os⟩) l1 xs:=hl1
  have hL2:Heap.IsList (Shared.heap ⟨hp.push { cls:=.type "tuple_iterator",data:=.fields #[.ref l1,.int 0 0] },g,d,tk,os⟩) l2 ys:=Heap.IsList.push hl2 _
  wp_walk using wpAny_pyIter_tuple hL1,wpAny_pyIter_list hL2
  exact ⟨_,rfl,h⟩
theorem pW (g:Good C sc k) {elts:List PySem.Expr} {kk:Nat} {pos:Pos} {la lb:List PV} {x y:Value} (hx:IsV (.tup la) x W) (hy:IsV (.lst lb) y W) (q:Rep C sc loc μ W s.heap) (hQ:bU C sc loc μ W s (.Tuple elts kk pos) (.items (dD la lb)) Q) :
  wpAny (model C.prog C.w) C.A (call (.type "zip") [x,y]) (fun x s₁=>wpAny (model C.prog C.w) C.A (pyIter x) Q NoE s₁) NoE s:=by
 obtain ⟨a,oa,va,n,rfl,ma,hc,hd,ra⟩:=RV.t' hx
 obtain ⟨b,vb,m,rfl,mb,rb⟩:=RV.l' hy
 have hga:=q.fzs _ ma
 have hgb:=q.fzs _ mb
 have hA:s.heap.IsTuple a va.toArray:=⟨_,hga,hc,n,hd⟩
 have hB:s.heap.IsList b vb.toArray:=⟨_,hgb,rfl,m,rfl⟩
 have z1:(zT1 s.heap a).objs.size = s.heap.objs.size + 1:=Heap.size_push ..
 have z2:(zT2 s.heap a b).objs.size = s.heap.objs.size + 2:=by rw [Heap.size_push,z1]
 have z3:(zT3 s.heap a b).objs.size = s.heap.objs.size + 3:=by rw [Heap.size_push,z2]
 have z4:(zT4 s.heap a b).objs.size = s.heap.objs.size + 4:=by rw [Heap.size_push,z3]
 have up:=@Heap.get?_push_of_some
 have g5:(zT5 s.heap a b).get? (zT4 s.heap a b).objs.size = some _:=Heap.get?_push_size _ rfl
 have g4:(zT5 s.heap a b).get? (zT3 s.heap a b).objs.size = some _:=Heap.get?_push_of_some _ (Heap.get?_push_size _ rfl)
 have g3:(zT5 s.heap a b).get? (zT2 s.heap a b).objs.size = some _:=Heap.get?_push_of_some _ (Heap.get?_push_of_some _ (Heap.get?_push_size _ rfl))
 have g2:(zT5 s.heap a b).get? (zT1 s.heap a).objs.size = some _:=Heap.get?_push_of_some _ (Heap.get?_push_of_some _ (Heap.get?_push_of_some _ (Heap.get?_push_size _ rfl)))
 have g1:(zT5 s.heap a b).get? s.heap.objs.size = some _:=Heap.get?_push_of_some _ (Heap.get?_push_of_some _ (Heap.get?_push_of_some _ (Heap.get?_push_of_some _ (Heap.get?_push_size _ rfl))))
 refine callType_new F.called_zip (by decide) (F.typeCall_zip_2 _ _) (F.newCall_zip_2 _ _) (fun obj=>F.args_object_init_3 obj _ _) F.entry_zip_new (nS a b va.toArray vb.toArray) ⟨hA,hB, ?_⟩
 rw [z2,z3,z4] at g5
 rw [z1,z2] at g3
 rw [z3] at g4
 rw [z1] at g2
 have hk:∀ c o,s.heap.get? c = some o→(zT5 s.heap a b).get? c = some o:=fun c o x=>Heap.get?_push_of_some _ (Heap.get?_push_of_some _ (Heap.get?_push_of_some _ (Heap.get?_push_of_some _ (Heap.get?_push_of_some _ x))))
 show _∧_
 refine rwG z4 ?_
 refine ⟨⟨_,g5,rfl⟩, ?_⟩
 exact mQ g ra rb ma mb (Nxt.tuple _ a (Nat.ne_of_lt (aJ hga)) va.toArray) (Nxt.list _ b (Nat.ne_of_lt (Nat.lt_succ_of_lt (aJ hgb))) vb.toArray) hk g5 g3 g4 ⟨⟨_,g1,rfl,rfl⟩,hA.at fun o e=>hk _ _ e⟩ ⟨⟨_,g2,rfl,rfl⟩,hB.at fun o e=>hk _ _ e⟩ q hQ
end
end Mine
end
section
namespace Mine
open PySem PySem.W PySem.Spec PySem.Calls PyProof.Rows
section
variable {C:Ctx} {sc:Sc} {loc loc' loc'':Loc} {μ μ' μ'' μ₁ μ₂ μ₃:Mem} {W W' W₀:Wd} {s:Shared} {α β:Type} {k:Nat} {r:R} {h h':Heap} {tg:PySem.Expr} {Q:Value→Shared→Prop}
theorem bU.le {src:Src} {tk:Nat} (hQ:bU C sc loc μ W s tg src Q) (l:W.le W'):bU C sc loc μ W' { s with heap:=h,toks:=tk } tg src Q:=by
 induction src using Src.casesOn with
 | items l0=>exact fun it wr St h' tk' W'' T a l'=>hQ it wr St h' tk' W'' T a (l.trans l')
 | ref i n=>exact fun it ax h' tk' W'' a l'=>hQ it ax h' tk' W'' a (l.trans l')
theorem M.mr {c:Prop} [Decidable c] {x y:M α} {z:α × Mem} (e:(if c then x else y) μ = some z):(c∧x μ = some z)∨(¬ c∧y μ = some z):=by
 by_cases h:c
 ·rw [if_pos h] at e;exact .inl ⟨h,e⟩
 ·rw [if_neg h] at e;exact .inr ⟨h,e⟩
theorem mD {v:PV} {src:Src} (e:(M.lift ((gR v).bind fun l=>if l.length ≤ ah then some (Src.items l) else none)) μ = some (src,μ')):μ = μ'∧∃ l,gR v = some l∧l.length ≤ ah∧src = .items l:=by
 obtain ⟨e1,e3⟩:=bQ e
 refine d6 e1 fun l e2 e1=>?_
 refine au (oif e1) fun h e1=>?_
 refine so1m e1 ?_
 exact ⟨e3,l,e2,h,rfl⟩
theorem jf {v:PV} (h:¬ ∃ i,v = .ref i) (μ:Mem):srcOf v μ = M.lift ((gR v).bind fun l=>if l.length ≤ ah then some (Src.items l) else none) μ:=by
 induction v using PV.casesOn with
 | ref i=>exact absurd ⟨i,rfl⟩ h
 | _=>rfl
theorem jD {v:PV} {src:Src} (e:srcOf v μ = some (src,μ')):μ = μ'∧((∃ i l,v = .ref i∧μ[i]? = some (.lst l)∧l.length ≤ ah∧src = .ref i l.length)∨∃ l,gR v = some l∧l.length ≤ ah∧src = .items l):=by
 by_cases hr:∃ i,v = .ref i
 ·obtain ⟨i,rfl⟩:=hr
  refine cw e fun o e3 e2=>?_
  induction o using MO.casesOn with
  | lst l =>
   refine au (M.pif e2) fun h e2=>?_
   refine so2m e2 ?_
   exact ⟨rfl,.inl ⟨i,l,rfl,e3,h,rfl⟩⟩
  | _=>exact no1 e2
 ·exact ⟨(mD ((jf hr μ).symm.trans e)).1,.inr (mD ((jf hr μ).symm.trans e)).2⟩
theorem tE (g:Good C sc k) {v:PV} {x:Value} {src:Src} (e:srcOf v μ = some (src,μ')) (hx:IsV v x W) (q:Rep C sc loc μ W s.heap) (hQ:bU C sc loc μ' W s tg src Q):wpAny (model C.prog C.w) C.A (pyIter x) Q NoE s:=by
 obtain ⟨rfl,⟨i,l,rfl,e3,hl,rfl⟩ | ⟨l,e2,hl,rfl⟩⟩:=jD e
 ·obtain ⟨a,rfl,ea⟩:=RV.r' hx
  refine x23 (q.lst e3 ea) fun vs n hi rs hg=>?_
  exact wpAny_pyIter_list (l:=a) ⟨_,hg,rfl,n,rfl⟩ (hQ s.heap.objs.size a (s.heap.push { cls:=.type "list_iterator",data:=.fields #[.ref a,.int 0 0] }) s.toks W ⟨⟨_,q.pg (a:=s.heap.objs.size) (fun b o e=>Heap.get?_push_of_some { cls:=.type "list_iterator",data:=.fields #[.ref a,.int 0 0] } e) (bf _) (Heap.get?_push_size _ rfl)⟩,⟨_,Heap.get?_push_size _ rfl,rfl,rfl⟩,ea⟩ (Wd.le.refl _))
 ·clear e
  induction v using PV.casesOn with
  | lst l'=>(have q1:=so1 e2;subst q1);exact rx g hx q hQ
  | tup l'=>(have q1:=so1 e2;subst q1);exact tA g hx q hQ
  | str y=>(have q1:=so1 e2;subst q1);exact tP g hx q hQ
  | _=>exact no1 e2
inductive fu:TY→List PV→List PV→Prop where
 | r1 (b:Int):b ≤ 1000→aS b = true→fu .range [.int b] (bb 0 b.toNat)
 | r2 (a b:Int):b - a ≤ 1000→aS a = true→aS b = true→fu .range [.int a,.int b] (bb a (b - a).toNat)
 | en (l:List PV):l.length ≤ ah→fu .enumerate [.lst l] (bN 0 l)
 | rv (l:List PV):l.length ≤ ah→fu .reversed [.lst l] l.reverse
 | z1 (a b:List PV):a.length ≤ ah→fu .zip [.lst a,.lst b] (dD a b)
 | z2 (a b:List PV):a.length ≤ ah→fu .zip [.tup a,.lst b] (dD a b)
theorem lq {x l:List PV} {b:PV} (e:tW x b = some l):∃ y,b = .lst y∧x.length ≤ ah∧l = dD x y:=by
 obtain ⟨y,rfl,e⟩:=bL e
 refine au (oif e) fun h e=>?_
 refine so1m e ?_
 exact ⟨y,rfl,h.1,rfl⟩
theorem rD {n:TY} {args l:List PV} (e:kX n args = some l):fu n args l:=by
 rcases args with _ | ⟨a,_ | ⟨b,_ | ⟨_,_⟩⟩⟩
 ·exact no1 e
 ·induction n using TY.casesOn with
  | range =>
   obtain ⟨b,rfl,e⟩:=bI e
   refine au (oif e) fun h e=>?_
   refine so1m e ?_
   exact .r1 b h.1 h.2
  | enumerate =>
   obtain ⟨b,rfl,e⟩:=bL e
   refine au (oif e) fun h e=>?_
   refine so1m e ?_
   exact .en b h
  | reversed =>
   obtain ⟨b,rfl,e⟩:=bL e
   refine au (oif e) fun h e=>?_
   refine so1m e ?_
   exact .rv b h
  | _=>exact no1 e
 ·induction n using TY.casesOn with
  | range =>
   obtain ⟨i,rfl,e⟩:=bI e
   obtain ⟨j,rfl,e⟩:=bI e
   refine au (oif e) fun h e=>?_
   refine so1m e ?_
   exact .r2 i j h.1 h.2.1 h.2.2
  | zip=>induction a using PV.casesOn with
   | lst x =>
    obtain ⟨y,rfl,h,rfl⟩:=lq e
    exact .z1 x y h
   | tup x =>
    obtain ⟨y,rfl,h,rfl⟩:=lq e
    exact .z2 x y h
   | _=>exact no1 e
  | _=>exact no1 e
 ·exact no1 e
theorem zi (g:Good C sc k) {t:CT} {n:TY} {args:List PV} {vals:List Value} {l:List PV} (ht:nO n t = true) (e:fu n args l) (hv:aL args vals W) (q:Rep C sc loc μ W s.heap) (hQ:bU C sc loc μ W s (t.toE C.nm) (.items l) Q) :
  wpAny (model C.prog C.w) C.A (call (.type n.str) vals) (fun x s₁=>wpAny (model C.prog C.w) C.A (pyIter x) Q NoE s₁) NoE s:=by
 have tup:n ≠ TY.range→n ≠ TY.reversed→∃ es kk pos,t.toE C.nm = .Tuple es kk pos:=fun h1 h2=>by
  induction t using CT.casesOn with
  | tup l k p=>exact ⟨_,_,_,CT.o9 _ _ _ _⟩
  | name i p=>exact ((Bool.or_eq_true_iff.mp ht).elim (fun h=>h1 (beq_iff_eq.mp h)) fun h=>h2 (beq_iff_eq.mp h)).elim
 have fin:∀ {R:Addr} {a b:Int} {t' u v:Tok} {h':Heap} {tk:Nat},Rep C sc loc μ W h'→IsRange h' R a b 1 t' u v→aS a = true→aS b = true→bU C sc loc μ W s (t.toE C.nm) (.items (bb a (b - a).toNat)) Q→wpAny (model C.prog C.w) C.A (pyIter (.ref R)) Q NoE { s with heap:=h',toks:=tk } :=
  fun q' hr ha hb hQ=>oG (s:={ s with heap:=_,toks:=_ }) g hr ha hb q' (hQ.le (Wd.le.refl _))
 cases e with
 | r1 b h1 h2 =>
  obtain ⟨v,rfl,hv1⟩:=RVs.one hv
  obtain ⟨u,rfl⟩:=RV.i' hv1
  refine call_range_1 (fin (q.same fun _ _ e=>Heap.get?_push_of_some _ e) (Heap.get?_push_size _ rfl) rfl h2 ?_)
  refine rwG (Int.sub_zero ..) ?_;exact hQ
 | r2 a b h1 h2 h3 =>
  obtain ⟨v,w,rfl,hv1,hv2⟩:=RVs.two hv
  obtain ⟨u,rfl⟩:=RV.i' hv1
  obtain ⟨u',rfl⟩:=RV.i' hv2
  exact call_range_2 (fin (q.same fun _ _ e=>Heap.get?_push_of_some _ e) (Heap.get?_push_size _ rfl) h2 h3 hQ)
 | en l h =>
  refine x31 (tup nofun nofun) fun es kk pos ht=>?_
  rw [ht] at hQ
  obtain ⟨v,rfl,hv1⟩:=RVs.one hv
  exact qS g hv1 q hQ
 | rv l h =>
  obtain ⟨v,rfl,hv1⟩:=RVs.one hv
  exact tX g hv1 q hQ
 | z1 a b h =>
  refine x31 (tup nofun nofun) fun es kk pos ht=>?_
  rw [ht] at hQ
  obtain ⟨v,w,rfl,hv1,hv2⟩:=RVs.two hv
  exact pZ g hv1 hv2 q hQ
 | z2 a b h =>
  refine x31 (tup nofun nofun) fun es kk pos ht=>?_
  rw [ht] at hQ
  obtain ⟨v,w,rfl,hv1,hv2⟩:=RVs.two hv
  exact pW g hv1 hv2 q hQ
theorem rI {o:Option PV} {n:TY} (h:mJ o = some n):o = some (.ty n):=by
 induction o using Option.casesOn with
 | none=>exact no1 h
 | some v=>induction v using PV.casesOn with
  | ty m=>refine so1m h ?_;rfl
  | _=>exact no1 h
theorem lH {cfg:Cfg} {t:CT} {e:CE} {src:Src} (e1:bH cfg r sc loc t e μ = some (src,μ')):(∃ v μ₁,r.ev sc loc e μ = some (v,μ₁)∧srcOf v μ₁ = some (src,μ')) ∨
  ∃ i p args pos n vs l,e = .call i p args pos∧lk sc.names i = some .globalImplicit∧lk cfg.glob i = some (.ty n)∧nO n t = true∧evL r sc loc args μ = some (vs,μ')∧fu n vs l∧src = .items l:=by
 induction e using CE.casesOn with
 | call i p args pos =>
  have e1:(match lk sc.names i with
   | some .globalImplicit=>(match mJ (lk cfg.glob i) with
    | some n=>if nO n t then M.bnd (evL r sc loc args) fun vs=>M.lift ((kX n vs).map Src.items) else M.no
    | none=>M.bnd (r.ev sc loc (.call i p args pos)) srcOf)
   | _=>M.no) μ = some (src,μ'):=e1
  cases hk:lk sc.names i with
  | none=>rw [hk] at e1;exact no1 e1
  | some kd =>
   rw [hk] at e1
   induction kd using PySem.NameKind.casesOn with
   | globalImplicit =>
    have e1:(match mJ (lk cfg.glob i) with
     | some n=>if nO n t then M.bnd (evL r sc loc args) fun vs=>M.lift ((kX n vs).map Src.items) else M.no
     | none=>M.bnd (r.ev sc loc (.call i p args pos)) srcOf) μ = some (src,μ'):=e1
    cases hg:mJ (lk cfg.glob i) with
    | none=>rw [hg] at e1;exact .inl (cG e1)
    | some n =>
     rw [hg] at e1
     refine au (M.pif e1) fun ht e1=>?_
     refine ag e1 fun vs μ₁ e3 e4=>?_
     obtain ⟨e5,rfl⟩:=bQ e4
     obtain ⟨l,e6,rfl⟩:=Option.map_eq_some_iff.mp e5
     exact .inr ⟨i,p,args,pos,n,vs,l,rfl,hk,rI hg,ht,e3,rD e6,rfl⟩
   | _=>exact no1 e1
 | _ =>
  refine .inl (cG (x:=r.ev sc loc _) (f:=srcOf) ?_)
  exact e1
theorem pf (g:Good C sc k) (I:OkR C sc r) {t:CT} {e:CE} {src:Src} (e1:bH C.cfg r sc loc t e μ = some (src,μ')) (q:Rep C sc loc μ W s.heap) (hQ:bU C sc loc μ' W s (t.toE C.nm) src Q) :
  wpAny (model C.prog C.w) C.A (eval (e.toE C.nm) C.env) (fun x s₁=>wpAny (model C.prog C.w) C.A (pyIter x) Q NoE s₁) NoE s:=by
 rcases lH e1 with ⟨v,μ₁,e2,e3⟩ | ⟨i,p,args,pos,n,vs,l,rfl,hk,hgl,ht,e3,e6,rfl⟩
 ·exact I.ev e2 q _ fun x h' tk W' q' l' hx=>tE (s:={ s with heap:=h',toks:=tk }) g e3 hx q' (hQ.le l')
 ·have hname:a8 C.cfg sc loc i μ = some (.ty n,μ):=by unfold a8;refine rwG hk ?_;refine (?_:M.lift (lk C.cfg.glob i) μ = _);refine rwG hgl ?_;rfl
  skip
  refine wpAny_bind (ik hname g q _ fun f h' tk W' q' l' hf=>?_)
  refine rwG (bq ..) ?_
  obtain rfl:f = .type n.str:=by skip;exact hf
  exact PySem.callWith_type (ed C args) (dK I (s:={ s with heap:=h',toks:=tk }) e3 q' fun as h'' tk' W'' q'' l'' has=>zi (s:={ s with heap:=h'',toks:=tk' }) g ht e6 has q'' (hQ.le (l'.trans l'')))
end
end Mine
end
section
namespace Mine
open PySem PySem.W PySem.Spec PySem.Calls PyProof.Rows
section
variable {C C':Ctx} {sc sc':Sc} {loc loc' loc'':Loc} {μ μ' μ'' μ₁ μ₂ μ₃:Mem} {W W' W'' W₀ W₁:Wd} {s:Shared} {α β:Type} {k:Nat} {r:R} {h h':Heap}
theorem Wd.ck (W:Wd) (p:Addr × Obj):List.Perm ({ W with hid:=p :: W.hid }:Wd).oth (p :: W.oth):=List.perm_middle
theorem Wd.nx (W:Wd) {H H':Led} (hp:List.Perm H H'):List.Perm ({ W with hid:=H }:Wd).oth ({ W with hid:=H' }:Wd).oth:=(hp.append_right _).append_left _
theorem Rep.ia {H H':Led} (q:Rep C sc loc μ { W with hid:=H } h) (hp:List.Perm H H'):Rep C sc loc μ { W with hid:=H' } h:=by
 have P:=Wd.nx W hp
 have P2:List.Perm ({ W with hid:=H }:Wd).own ({ W with hid:=H' }:Wd).own:=P.map _
 have mo:∀ {x},x∈C.env.locals :: ({ W with hid:=H' }:Wd).own→x∈C.env.locals :: ({ W with hid:=H }:Wd).own:=fun hx=>((P2.cons _).mem_iff).mpr hx
 exact ⟨q.ns,q.keep,q.fzs,fun p hp=>q.all p (P.mem_iff.mpr hp),(P2.cons _).nodup_iff.mp q.nd,fun a ha=>q.old a (mo ha),fun p hp ha=>q.fzo p hp (mo ha),q.mem,q.tabs,q.kf,q.cells⟩
theorem Rep.w7 {a:Addr} {o:Obj} (q:Rep C sc loc μ { W with hid:=(a,o) :: W.hid } h) (tq:∀ fz fz' T,(∀ p∈fz,p∈fz')→C.TQ fz T→C.TQ fz' T):Rep C sc loc μ { W with fz:=(a,o) :: W.fz } h:=by
 have q0:=q.fO
 refine q0.grow (fun _ _ e=>e) [(a,o)] (fun p hp=>?_) tq
 obtain rfl:=List.mem_singleton.mp hp
 have P:=Wd.ck W (a,o)
 refine ⟨q.all _ (P.mem_iff.mpr (.head _)),fun hm=>?_⟩
 have P2:List.Perm ({ W with hid:=(a,o) :: W.hid }:Wd).own (a :: W.own):=P.map _
 have n2:(C.env.locals :: a :: W.own).Nodup:=(P2.cons _).nodup_iff.mp q.nd
 rcases List.mem_cons.mp hm with e | hm
 ·exact (List.nodup_cons.mp n2).1 (e ▸ .head _)
 ·exact (List.nodup_cons.mp (List.nodup_cons.mp n2).2).1 hm
noncomputable def Ctx.inn (C:Ctx) (A':Around) (env':Env) (h:Heap) (W:Wd):Ctx:={ C with A:=A',env:=env',h₀:=hideAll h (C.env.locals :: W.own) }
theorem Rep.enter {A':Around} {env':Env} {oL:Obj} (q:Rep C sc loc μ W h) (hL:h.get? C.env.locals = some oL) (hk:∀ b o,h.get? b = some o→h'.get? b = some o) (hn:h.get? env'.locals = none)
  (hfz:W₁.fz = W.fz) (htab:W₁.tab = W.tab) (hoth:List.Perm W₁.oth ((C.env.locals,oL) :: W.oth)) (mem:RMs C.LX W₁.fz (ads W₁.led) μ₁ W₁.led)
  (hns:∃ m,h'.Ns env'.locals m∧∀ i p,lk loc' i = some p→∃ v,m (C.nm i) = some v∧RV W₁.fz (ads W₁.led) p v)
  (hcells:∀ i id,lk sc'.cells i = some id→∃ a,env'.cells.lookup (C.nm i) = some a∧(ads W₁.led)[id]? = some a):Rep (C.inn A' env' h W) sc' loc' μ₁ W₁ h':=by
 have hown:List.Perm W₁.own (C.env.locals :: W.own):=hoth.map _
 have ne:∀ a∈C.env.locals :: W.own,env'.locals ≠ a:=fun a ha e=>by
  obtain ⟨o,eo⟩:=q.bg ha
  rw [← e,hn] at eo;exact no1 eo
 refine ⟨hns,fun b o e=>hk _ _ (of_hideAll _ e),fun p hp=>hk _ _ (q.fzs p (hfz ▸ hp)),fun p hp=>hk _ _ ?_, ?_,fun a ha=>?_,fun p hp hm=>?_,mem,by (refine rwG hfz ?_;refine rwG htab ?_);exact q.tabs,fun p hp=>hfz ▸ q.kf p hp,hcells⟩
 ·rcases List.mem_cons.mp (hoth.mem_iff.mp hp) with rfl | hp
  ·exact hL
  ·exact q.all p hp
 ·exact List.nodup_cons.mpr ⟨fun hm=>ne _ (hown.mem_iff.mp hm) rfl,hown.nodup_iff.mpr q.nd⟩
 ·rcases List.mem_cons.mp ha with rfl | ha
  ·cases e:(hideAll h (C.env.locals :: W.own)).get? env'.locals with
   | none=>exact e
   | some o=>have:=of_hideAll _ e;rw [hn] at this;exact no1 this
  ·exact hideAll_none _ (hown.mem_iff.mp ha)
 ·have hp':p∈W.fz:=hfz ▸ hp
  rcases List.mem_cons.mp hm with e | hm
  ·have:=q.fzs p hp'
   rw [e] at this
   have hn':h.get? env'.locals = none:=hn
   rw [show (C.inn A' env' h W).env.locals = env'.locals from rfl,hn'] at this
   exact no1 this
  ·exact q.fzo p hp' (hown.mem_iff.mp hm)
theorem Rep.back {A':Around} {env':Env} {oL oL':Obj} (q:Rep C sc loc μ W h) (hL:h.get? C.env.locals = some oL) (q':Rep (C.inn A' env' h W) sc' loc' μ' W' h') (hL':h'.get? env'.locals = some oL') (lf:∀ p∈W.fz,p∈W''.fz) (la:Pre (ads W.led) (ads W''.led)) (hLin:(C.env.locals,oL)∈W'.oth)
  (hsub:∀ p∈W''.oth,p = (env'.locals,oL')∨p∈W'.oth) (hnd:(C.env.locals :: W''.own).Nodup) (hfz:∀ p∈W''.fz,p∈W'.fz∨p∈W'.oth) (hfo:∀ p∈W''.fz,p.1 ∉ C.env.locals :: W''.own)
  (mem:RMs C.LX W''.fz (ads W''.led) μ'' W''.led) (tabs:C.TQ W''.fz W''.tab):Rep C sc loc μ'' W'' h':=by
 have hgL:h'.get? C.env.locals = some oL:=q'.all _ hLin
 have up:∀ b o,C.h₀.get? b = some o→(C.inn A' env' h W).h₀.get? b = some o:=fun b o e=>hideAll_get _ (q.keep b o e) fun hm=>by rw [q.old b hm] at e;exact no1 e
 obtain ⟨m,⟨o,es,ep,a1,a2⟩,hlc⟩:=q.ns
 rw [hL] at a1;(have q1:=so1 a1;subst q1)
 refine ⟨⟨m,⟨oL,es,ep,hgL,a2⟩,fun i p e=>?_⟩,fun b o e=>q'.keep _ _ (up b o e),fun p hp=>?_,fun p hp=>?_,hnd,fun a ha=>?_,hfo,mem,tabs,fun p hp=>lf _ (q.kf p hp),fun i id e=>?_⟩
 ·refine x12 (hlc i p e) fun v e1 e2=>?_
  exact ⟨v,e1,RV.mono lf la e2⟩
 ·rcases hfz p hp with hp | hp
  ·exact q'.fzs p hp
  ·exact q'.all p hp
 ·rcases hsub p hp with rfl | hp
  ·exact hL'
  ·exact q'.all p hp
 ·rcases List.mem_cons.mp ha with rfl | ha
  ·exact q.old _ (.head _)
  ·cases e:C.h₀.get? a with
   | none=>rfl
   | some o =>
    obtain ⟨p,hp,rfl⟩:=List.mem_map.mp ha
    have e2:=up _ _ e
    have:(C.inn A' env' h W).h₀.get? p.1 = none:=by
     rcases hsub p hp with rfl | hp
     ·exact q'.old _ (.head _)
     ·exact q'.old _ (.tail _ (List.mem_map_of_mem hp))
    rw [this] at e2;exact no1 e2
 ·refine x12 (q.cells i id e) fun a e1 e2=>?_
  exact ⟨a,e1,la _ _ e2⟩
theorem Rep.leave {A':Around} {env':Env} {oL:Obj} {T:Led} (q:Rep C sc loc μ W h) (hL:h.get? C.env.locals = some oL) (q':Rep (C.inn A' env' h W) sc' loc' μ' { W' with hid:=(C.env.locals,oL) :: T } h') (lf:∀ p∈W.fz,p∈W'.fz) (la:Pre (ads W.led) (ads W'.led)) :
  ∃ oL',h'.get? env'.locals = some oL'∧Rep C sc loc μ' { W' with hid:=(env'.locals,oL') :: T } h':=by
 obtain ⟨fz',tab',hid',led'⟩:=W'
 obtain ⟨oL',hL'⟩:=q'.bg (.head _)
 have P:=Wd.ck ⟨fz',tab',T,led'⟩ (C.env.locals,oL)
 have P2:List.Perm (⟨fz',tab',(C.env.locals,oL) :: T,led'⟩:Wd).own (C.env.locals :: (⟨fz',tab',T,led'⟩:Wd).own):=P.map _
 have n:(env'.locals :: C.env.locals :: (⟨fz',tab',T,led'⟩:Wd).own).Nodup:=(P2.cons _).nodup_iff.mp q'.nd
 refine ⟨oL',hL', ?_⟩
 refine Rep.hJ (W:=⟨fz',tab',T,led'⟩) (Rep.back q hL q' hL' lf la (P.mem_iff.mpr (.head _)) (fun p hp=>.inr (P.mem_iff.mpr (.tail _ hp))) (List.nodup_cons.mp n).2 (fun p hp=>.inl hp) (fun p hp hm=>q'.fzo p hp ?_) q'.mem q'.tabs) hL' (fun hm=>(List.nodup_cons.mp n).1 hm) ?_ fun p hp e=>q'.fzo p hp (by refine rwG e ?_;exact .head _)
 ·exact .tail _ (P2.mem_iff.mpr hm)
 ·cases e:C.h₀.get? env'.locals with
  | none=>rfl
  | some o =>
   have:(C.inn A' env' h W).h₀.get? env'.locals = some o:=hideAll_get _ (q.keep _ o e) fun hm=>by rw [q.old _ hm] at e;exact no1 e
   have:=q'.old env'.locals (.head _)
   simp_all
theorem Rep.pk {a:Addr} {o:Obj} (q:Rep C sc loc μ { W with hid:=(a,o) :: W.hid } h) (hk:∀ b ob,b ≠ a→h.get? b = some ob→h'.get? b = some ob):Rep C sc loc μ W h':=by
 have P2:List.Perm ({ W with hid:=(a,o) :: W.hid }:Wd).own (a :: W.own):=(Wd.ck W (a,o)).map _
 have n:(C.env.locals :: a :: W.own).Nodup:=(P2.cons _).nodup_iff.mp q.nd
 have n1:∀ b∈C.env.locals :: W.own,b ≠ a:=fun b hb e=>by
  subst e
  rcases List.mem_cons.mp hb with e | hb
  ·exact (List.nodup_cons.mp n).1 (e ▸ .head _)
  ·exact (List.nodup_cons.mp (List.nodup_cons.mp n).2).1 hb
 have hin:a∈C.env.locals :: ({ W with hid:=(a,o) :: W.hid }:Wd).own:=.tail _ (P2.mem_iff.mpr (.head _))
 have q0:=q.fO
 obtain ⟨m,⟨oo,es,ep,a1,a2⟩,hlc⟩:=q0.ns
 refine ⟨⟨m,⟨oo,es,ep,hk _ _ (n1 _ (.head _)) a1,a2⟩,hlc⟩,fun b ob e=>hk b ob (fun z=>?_) (q0.keep b ob e),fun p hp=>hk _ _ (fun z=>q.fzo p hp (z ▸ hin)) (q0.fzs p hp),fun p hp=>hk _ _ (n1 _ (.tail _ (List.mem_map_of_mem hp))) (q0.all p hp),q0.nd,q0.old,q0.fzo,q0.mem,q0.tabs,q0.kf,q0.cells⟩
 rw [z,q.old _ hin] at e;exact no1 e
end
end Mine
end
section
namespace Mine
open PySem PySem.W PySem.Spec PySem.Calls PyProof.Rows
section
variable {nm:Nat→Str}
theorem cV {β:Type} {i:Nat} {b:β}:∀ {l:List (Nat × β)},lk l i = some b→(i,b)∈l
 | [],h=>by exact no1 h
 | (j,c) :: r,h=>by
  rw [a7] at h
  by_cases hij:i = j
  ·subst hij;simp at h;subst h;exact .head _
  ·rw [b0 hij] at h;exact .tail _ (cV h)
theorem pL {β:Type} {i:Nat}:∀ {l:List (Nat × β)},i ∉ l.map (·.1)→lk l i = none
 | [],_=>rfl
 | (j,c) :: r,h=>by
  refine rwG a7 ?_
  have hij:i ≠ j:=fun e=>h (by subst e;exact .head _)
  rw [b0 hij]
  exact pL fun hm=>h (.tail _ hm)
theorem lI {β:Type} {i:Nat} {b:β}:∀ {l:List (Nat × β)},(l.map (·.1)).Nodup→(i,b)∈l→lk l i = some b
 | [],_,h=>nomatch h
 | (j,c) :: r,nd,h=>by
  rw [List.map_cons,List.nodup_cons] at nd
  rw [a7]
  rcases List.mem_cons.mp h with e | h'
  ·(injection e with q1 q2;subst q1;subst q2);simp
  ·skip
   have hm:i∈r.map (·.1):=List.mem_map_of_mem (f:=fun x:Nat × β=>x.1) h'
   have hij:i ≠ j:=fun e=>nd.1 (e ▸ hm)
   refine rwG (b0 hij) ?_
   exact lI nd.2 h'
noncomputable def az:Nat→List (Nat × NameKind)→List (Nat × Addr)
 | _,[]=>[]
 | n,(i,k) :: r=>if k == .cell then (i,n) :: az (n + 1) r else az n r
theorem cm {n i:Nat} {k:NameKind} {r:List (Nat × NameKind)}:az n ((i,k) :: r) = if k == .cell then (i,n) :: az (n + 1) r else az n r:=rfl
theorem bX {i:Nat} {a:Addr}:∀ {r:List (Nat × NameKind)} {n:Nat},(i,a)∈az n r→i∈r.map (·.1)
 | [],_,h=>nomatch h
 | (j,k) :: r,n,h=>by
  rw [cm] at h
  split at h
  ·rcases List.mem_cons.mp h with e | h
   ·(injection e with q1;subst q1);exact .head _
   ·exact .tail _ (bX h)
  ·exact .tail _ (bX h)
theorem df (inj:∀ i j,nm i = nm j→i = j) (i:Nat):∀ (r:List (Nat × NameKind)) (n:Nat) (acc:List (Str × Addr)),(r.map (·.1)).Nodup →
  (cellsFrom n (r.map fun x=>(nm x.1,x.2)) acc).lookup (nm i) = match lk (az n r) i with | some a=>some a | none=>acc.lookup (nm i)
 | [],n,acc,_=>rfl
 | (j,k) :: r,n,acc,nd=>by
  rw [List.map_cons,List.nodup_cons] at nd
  rw [List.map_cons,cellsFrom,cm]
  cases hk:k == NameKind.cell with
  | false=>simp only [Bool.false_eq_true,if_false];exact df inj i r n acc nd.2
  | true =>
   simp only [if_true]
   rw [df inj i r (n + 1) _ nd.2,a7]
   by_cases hij:i = j
   ·subst hij
    have:lk (az (n + 1) r) i = none:=pL fun hm=>by
     refine x12 (List.mem_map.mp hm) fun p hp e=>?_
     exact nd.1 (by refine rwH e ?_;exact bX (a:=p.2) hp)
    refine rwG this ?_;simp
   ·rw [b0 hij]
    have hne:(nm i == nm j) = false:=by simpa using fun e=>hij (inj _ _ e)
    dsimp only
    cases lk (az (n + 1) r) i with
    | some a=>rfl
    | none=>simp only [List.lookup_cons,hne]
theorem fR {i:Nat} {a:Addr} {kd:NameKind}:∀ {r:List (Nat × NameKind)} {n:Nat},(r.map (·.1)).Nodup→(i,a)∈az n r→(i,kd)∈r→kd = .cell
 | [],_,_,h,_=>nomatch h
 | (j,k) :: r,n,nd,h,hm=>by
  rw [List.map_cons,List.nodup_cons] at nd
  have key:∀ {m},(i,a)∈az m r→kd = .cell:=fun hx=>by
   rcases List.mem_cons.mp hm with e | hm
   ·(injection e with q1 q2;subst q1)
    exact absurd (bX hx) nd.1
   ·exact fR nd.2 hx hm
  rw [cm] at h
  split at h
  ·rename_i hk
   rcases List.mem_cons.mp h with e | h
   ·(injection e with q1 q2;subst q1)
    rcases List.mem_cons.mp hm with e | hm
    ·(injection e with q1 q2;subst q2);exact beq_iff_eq.mp hk
    ·exact absurd (List.mem_map_of_mem (f:=fun x:Nat × NameKind=>x.1) hm) nd.1
   ·exact key h
  ·exact key h
theorem kj {i:Nat} {k:NameKind} {r:List (Nat × NameKind)}:dI ((i,k) :: r) = match k with | .cell=>(i,k) :: dI r | _=>dI r:=rfl
theorem gL {x:Nat × NameKind}:∀ {l:List (Nat × NameKind)},x∈dI l→x∈l
 | [],h=>nomatch h
 | (i,k) :: r,h=>by
  rw [kj] at h
  split at h
  ·rcases List.mem_cons.mp h with rfl | h
   ·exact .head _
   ·exact .tail _ (gL h)
  ·exact .tail _ (gL h)
theorem bT:∀ {l:List (Nat × NameKind)} {n:Nat},az n (dI l) = az n l
 | [],_=>rfl
 | (i,k) :: r,n=>by
  rw [kj,cm]
  induction k using PySem.NameKind.casesOn with
  | cell=>exact (cm).trans (congrArg (List.cons (i,n)) bT)
  | free=>exact bT
  | «local»=>exact bT
  | globalExplicit=>exact bT
  | globalImplicit=>exact bT
theorem iI:∀ {l:List (Nat × NameKind)},je l = true→(l.map (·.1)).Nodup
 | [],_=>List.nodup_nil
 | (i,k) :: r,h=>by
  replace h:=Bool.and_eq_true_iff.mp h
  refine List.nodup_cons.mpr ⟨fun hm=>?_,iI h.2⟩
  obtain ⟨y,hy,e⟩:=List.mem_map.mp hm
  have h1:(r.any fun x=>Nat.beq x.1 i) = true:=List.any_eq_true.mpr ⟨y,hy,by rw [show y.1 = i from e];exact Nat.beq_refl i⟩
  rw [h1] at h;exact absurd h.1 (by decide)
theorem oK {l:List (Nat × NameKind)} (h:(l.map (·.1)).Nodup):((dI l).map (·.1)).Nodup:=by
 induction l with
 | nil=>exact h
 | cons x r ih =>
  obtain ⟨i,k⟩:=x
  rw [List.map_cons,List.nodup_cons] at h
  rw [kj]
  split
  ·refine List.nodup_cons.mpr ⟨fun hm=>h.1 ?_,ih h.2⟩
   obtain ⟨y,hy,e⟩:=List.mem_map.mp hm
   exact List.mem_map.mpr ⟨y,gL hy,e⟩
  ·exact ih h.2
theorem rg {β:Type} {i:Nat}:∀ {a b:List (Nat × β)},lk (a ++ b) i = match lk a i with | some x=>some x | none=>lk b i
 | [],_=>rfl
 | (j,x) :: a,b=>by
  rw [List.cons_append,a7,a7]
  by_cases h:i = j
  ·subst h;simp
  ·rw [b0 h];exact rg
end
section
variable {C C':Ctx} {sc sc':Sc} {loc loc' loc'':Loc} {μ μ' μ'' μ₁ μ₂ μ₃:Mem} {W W' W'' W₀ W₁:Wd} {s:Shared} {α β:Type} {k:Nat} {r:R} {h h':Heap}
theorem fg {bs:Loc} {cv:Nat→Option Value}:∀ {names:List (Nat × NameKind)} {n:Nat} {μ μ':Mem} {W:Wd} {cs:List (Nat × Nat)},cf bs names μ = some (cs,μ')→Rep C sc loc μ W h→(names.map (·.1)).Nodup →
  (∀ i a,lk (az n names) i = some a→h.IsCell a (cv i))→(∀ i,lk names i = some .cell→match lk bs i with | none=>cv i = none | some p=>∃ v,cv i = some v∧RV W.fz (ads W.led) p v) →
  (∀ a∈C.env.locals :: W.own,@LT.lt Nat _ a n)→(∀ p∈W.fz,@LT.lt Nat _ p.1 n)→(∀ a,n ≤ a→C.h₀.get? a = none) →
  ∃ W',Rep C sc loc μ' W' h∧W.le W'∧W'.fz = W.fz∧∀ i id,lk cs i = some id→∃ a,lk (az n names) i = some a∧(ads W'.led)[id]? = some a
 | [],n,μ,μ',W,cs,e,q,_,_,_,_,_,_=>by
  obtain ⟨rfl,rfl⟩:=ai e
  exact ⟨W,q,Wd.le.refl _,rfl,fun i id h=>by exact no1 h⟩
 | (i,kd) :: names,n,μ,μ',W,cs,e,q,nd,hc,hv,f1,f2,f3=>by
  have nd':=nd
  rw [List.map_cons,List.nodup_cons] at nd
  have lkr:∀ {j x},lk names j = some x→lk ((i,kd) :: names) j = some x:=fun {j x} hj=>by
   rw [a7]
   have:j ≠ i:=fun e=>nd.1 (by rw [← e];exact List.mem_map_of_mem (f:=(·.1)) (cV hj))
   rw [b0 this];exact hj
  have rest:kd ≠ .cell→cf bs names μ = some (cs,μ')→∃ W',Rep C sc loc μ' W' h∧W.le W'∧W'.fz = W.fz∧∀ j id,lk cs j = some id→∃ a,lk (az n ((i,kd) :: names)) j = some a∧(ads W'.led)[id]? = some a:=fun hk e=>by
   have hk':(kd == NameKind.cell) = false:=by simpa using hk
   have e2:az n ((i,kd) :: names) = az n names:=by rw [cm,hk'];rfl
   rw [e2] at hc ⊢
   exact fg e q nd.2 hc (fun j hj=>hv j (lkr hj)) f1 f2 f3
  unfold cf at e
  induction kd using PySem.NameKind.casesOn with
  | cell =>
   refine ag e fun id μ₁ e1 e2=>?_
   obtain ⟨rfl,rfl⟩:=f9 e1
   refine ag e2 fun l μ₂ e3 e4=>?_
   obtain ⟨rfl,rfl⟩:=ai e4
   have ea:az n ((i,NameKind.cell) :: names) = (i,n) :: az (n + 1) names:=by skip;rfl
   rw [ea] at hc ⊢
   have hhit:lk ((i,n) :: az (n + 1) names) i = some n:=by refine rwG a7 ?_;simp
   have hmiss:∀ {j},j ≠ i→lk ((i,n) :: az (n + 1) names) j = lk (az (n + 1) names) j:=fun hj=>by (refine rwG a7 ?_;refine rwG (b0 hj) rfl)
   refine x12 (hc i n hhit) fun o ho hd=>?_
   have hvi:=hv i (by refine rwG a7 ?_;simp)
   have q1:=q.hJ (a:=n) (o:=o) ho (fun hm=>Nat.lt_irrefl _ (f1 n hm)) (f3 n (Nat.le_refl _)) fun p hp e=>Nat.lt_irrefl _ (e ▸ f2 p hp)
   have hm:RM C.LX W.fz (ads W.led ++ [n]) (.cell (lk bs i)) [(n,o)]:=by
    cases hb:lk bs i with
    | none=>rw [hb] at hvi;dsimp only at hvi;exact ⟨n,o,rfl,by rw [hvi] at hd;exact hd⟩
    | some p=>rw [hb] at hvi;refine x12 hvi fun v e5 e6=>?_;exact ⟨n,o,v,rfl,by rw [e5] at hd;exact hd,RV.mono (fun _ h=>h) (Pre.app _ _) e6⟩
   have q2:=q1.iK hm
   have l1:W.le { W with led:=W.led ++ [[(n,o)]] }:=Wd.le.mut W _
   have ow:∀ a,a∈({ W with led:=W.led ++ [[(n,o)]] }:Wd).own→a = n∨a∈W.own:=fun a ha=>by
    have:a∈(W.tab ++ (W.hid ++ (W.led ++ [[(n,o)]]).flatten)).map (·.1):=ha
    simp only [List.flatten_append,List.flatten_cons,List.flatten_nil,List.append_nil,List.map_append,List.mem_append,List.map_cons,List.map_nil,List.mem_singleton] at this
    have own_:a∈W.tab.map (·.1)∨a∈W.hid.map (·.1)∨a∈W.led.flatten.map (·.1)→a∈W.own:=fun hx=>by
     refine (?_:a∈(W.tab ++ (W.hid ++ W.led.flatten)).map (·.1))
     simp only [List.map_append,List.mem_append];exact hx
    rcases this with h | h | h | h
    ·exact .inr (own_ (.inl h))
    ·exact .inr (own_ (.inr (.inl h)))
    ·exact .inr (own_ (.inr (.inr h)))
    ·exact .inl h
   obtain ⟨W',q3,l2,hfz,hcs⟩:=fg (n:=n + 1) (W:={ W with led:=W.led ++ [[(n,o)]] }) e3 q2 nd.2 (fun j a hj=>by
     have hji:j ≠ i:=fun e=>nd.1 (by refine rwH e ?_;exact bX (cV hj))
     exact hc j a (by refine rwG (hmiss hji) ?_;exact hj)) (fun j hj=>by
     have:=hv j (lkr hj)
     cases hb:lk bs j with
     | none=>rw [hb] at this;exact this
     | some p=>rw [hb] at this;refine x12 this fun v e5 e6=>?_;exact ⟨v,e5,e6.le l1⟩) (fun a ha=>by
     rcases List.mem_cons.mp ha with rfl | ha
     ·exact Nat.lt_succ_of_lt (f1 _ (.head _))
     ·rcases ow a ha with rfl | ha
      ·exact Nat.lt_succ_self _
      ·exact Nat.lt_succ_of_lt (f1 a (.tail _ ha))) (fun p hp=>Nat.lt_succ_of_lt (f2 p hp)) (fun a ha=>f3 a (Nat.le_of_succ_le ha))
   refine ⟨W',q3,l1.trans l2,hfz,fun j id hj=>?_⟩
   rw [a7] at hj
   by_cases hji:j = i
   ·subst hji
    simp at hj
    subst hj
    refine ⟨n,hhit,l2.ad _ _ ?_⟩
    have hlen:(ads W.led).length = μ.length:=by unfold ads;rw [List.length_map,q.mem.len]
    refine (?_:(ads (W.led ++ [[(n,o)]]))[μ.length]? = some n)
    have e1:ads (W.led ++ [[(n,o)]]) = ads W.led ++ [n]:=by simp [ads,adr]
    (refine rwG e1 ?_;refine rwH hlen ?_);simp
   ·rw [b0 hji] at hj
    refine x12 (hcs j id hj) fun a h1 h2=>?_
    exact ⟨a,by refine rwG (hmiss hji) ?_;exact h1,h2⟩
  | free=>exact no1 e
  | «local»=>exact rest (fun h=>nomatch h) e
  | globalExplicit=>exact rest (fun h=>nomatch h) e
  | globalImplicit=>exact rest (fun h=>nomatch h) e
end
end Mine
end
section
namespace Mine
open PySem PySem.W PySem.Spec PySem.Calls PyProof.Rows
section
variable {nm:Nat→Str}
theorem fh (inj:∀ i j,nm i = nm j→i = j) {β:Type} (i:Nat):∀ l:List (Nat × β),(l.map fun x=>(nm x.1,x.2)).lookup (nm i) = lk l i
 | []=>rfl
 | (j,b) :: r=>by
  rw [List.map_cons,List.lookup_cons,a7]
  by_cases h:i = j
  ·subst h;simp
  ·have:(nm i == nm j) = false:=by
    cases e:nm i == nm j with
    | false=>rfl
    | true=>exact absurd (inj _ _ (beq_iff_eq.mp e)) h
   rw [this,b0 h]
   exact fh inj i r
set_option tactic.hygienic true in
theorem cK {cells:List (Nat × Nat)}:∀ {names:List (Nat × NameKind)} {cs:List (Nat × Nat)},b7 cells names = some cs→(∀ x∈names,x.2 = .free→∃ id,lk cells x.1 = some id)∧∀ i id,lk cs i = some id→(i,NameKind.free)∈names∧lk cells i = some id
 | [],cs,e=>by
  refine so1m e ?_
  exact ⟨fun _ h=>(nomatch h),fun _ _ h=>by exact no1 h⟩
 | (j,kd) :: r,cs,e=>by
  have rest:∀ {cs},b7 cells r = some cs→kd ≠ .free→_:=fun {cs} e h2=>by
   refine au (cK e) fun b c=>?_
   exact (⟨fun x hx hf=>by
     rcases List.mem_cons.mp hx with rfl | hx
     ·exact absurd hf h2
     ·exact b x hx hf,fun i id h=>⟨.tail _ (c i id h).1,(c i id h).2⟩⟩:(∀ x∈(j,kd) :: r,x.2 = .free→∃ id,lk cells x.1 = some id)∧∀ i id,lk cs i = some id→(i,NameKind.free)∈(j,kd) :: r∧lk cells i = some id)
  unfold b7 at e
  induction kd using PySem.NameKind.casesOn with
  | free =>
   dsimp only at e
   split at e
   ·rename_i id l h1 h2
    refine so1m e ?_
    refine au (cK h2) fun b c=>?_
    refine ⟨fun x hx hf=>?_,fun i id' h=>?_⟩
    ·rcases List.mem_cons.mp hx with rfl | hx
     ·exact ⟨id,h1⟩
     ·exact b x hx hf
    ·rw [a7] at h
     by_cases hij:i = j
     ·subst hij
      simp at h
      subst h
      exact ⟨.head _,h1⟩
     ·rw [b0 hij] at h
      exact ⟨.tail _ (c i id' h).1,(c i id' h).2⟩
   ·exact no1 e
  | cell=>exact rest e (fun h=>nomatch h)
  | «local»=>exact rest e (fun h=>nomatch h)
  | globalExplicit=>exact rest e (fun h=>nomatch h)
  | globalImplicit=>exact rest e (fun h=>nomatch h)
noncomputable def kH (env:Env):List (Str × NameKind)→List (Str × Addr)→List (Str × Addr)
 | [],acc=>acc
 | (n,k) :: r,acc=>kH env r (if k == .free then (n,(env.cells.lookup n).getD 0) :: acc else acc)
theorem qP {env:Env} {n:Str} {k:NameKind} {r:List (Str × NameKind)} {acc:List (Str × Addr)}:kH env ((n,k) :: r) acc = kH env r (if k == .free then (n,(env.cells.lookup n).getD 0) :: acc else acc):=rfl
theorem eO {env:Env}:∀ (names:List (Str × NameKind)) (acc:List (Str × Addr)),(∀ x∈names,x.2 = .free→∃ a,env.cells.lookup x.1 = some a) →
  (forIn names acc (fun (x:Str × NameKind) (cs:List (Str × Addr))=>match x with | (name,kind)=>if kind == .free then cellOf env name >>= fun a=>pure (ForInStep.yield ((name,a) :: cs)) else pure (ForInStep.yield cs)):Sem (List (Str × Addr))) = pure (kH env names acc)
 | [],acc,_=>rfl
 | (n,k) :: r,acc,h=>by
  rw [List.forIn_cons]
  rcases Bool.eq_false_or_eq_true (k == NameKind.free) with hk | hk
  ·obtain ⟨a,ha⟩:=h (n,k) (.head _) (beq_iff_eq.mp hk)
   have hc:cellOf env n = pure a:=by unfold cellOf;rw [ha]
   dsimp only
   rw [if_pos hk,hc,qP,if_pos hk,ha]
   exact eO r _ fun x hx=>h x (.tail _ hx)
  ·dsimp only
   rw [if_neg (ne_true_of_eq_false hk),qP,if_neg (ne_true_of_eq_false hk)]
   exact eO r _ fun x hx=>h x (.tail _ hx)
theorem lg {env:Env} (n:Str):∀ (names:List (Str × NameKind)) (acc:List (Str × Addr)),((n,NameKind.free)∈names∨acc.lookup n = some ((env.cells.lookup n).getD 0))→(kH env names acc).lookup n = some ((env.cells.lookup n).getD 0)
 | [],acc,h=>by
  rcases h with h | h
  ·cases h
  ·exact h
 | (x,k) :: r,acc,h=>by
  skip
  refine lg n r _ ?_
  rcases Bool.eq_false_or_eq_true (k == NameKind.free) with hk | hk
  ·rw [if_pos hk]
   by_cases hx:n = x
   ·subst hx;right;simp
   ·have hb:(n == x) = false:=by simpa using hx
    rcases h with h | h
    ·rcases List.mem_cons.mp h with e | h
     ·(injection e with q1;subst q1);exact absurd rfl hx
     ·exact .inl h
    ·right;rw [List.lookup_cons,hb];exact h
  ·rw [if_neg (ne_true_of_eq_false hk)]
   rcases h with h | h
   ·rcases List.mem_cons.mp h with e | h
    ·(injection e with q1 q2;subst q1;subst q2);simp at hk
    ·exact .inl h
   ·exact .inr h
end
section
variable {C C':Ctx} {sc sc':Sc} {loc loc' loc'':Loc} {μ μ' μ'' μ₁ μ₂ μ₃:Mem} {W W' W'' W₀ W₁:Wd} {s:Shared} {α β:Type} {k:Nat} {r:R} {h h':Heap}
theorem gu (g:Good C sc k) (q:Rep C sc loc μ W h) {cs:CSc} {cells:List (Nat × Nat)} (e:b7 sc.cells cs.names = some cells) :
  ∃ cl,closureFor (cs.aO C.nm) C.env = pure cl∧∀ i id,lk cells i = some id→∃ a,cl.lookup (C.nm i) = some a∧(ads W.led)[id]? = some a:=by
 refine au (cK e) fun h2 h3=>?_
 refine ⟨kH C.env (cs.aO C.nm).names [], ?_,fun i id hi=>?_⟩
 ·have:=eO (env:=C.env) (cs.aO C.nm).names [] fun x hx hf=>by
   obtain ⟨y,hy,rfl⟩:=List.mem_map.mp hx
   obtain ⟨id,e⟩:=h2 y hy hf
   refine x12 (q.cells _ _ e) fun a ha _=>?_
   exact ⟨a,ha⟩
  have e2:closureFor (cs.aO C.nm) C.env = ((forIn (cs.aO C.nm).names [] (fun (x:Str × NameKind) (cs:List (Str × Addr))=>match x with | (name,kind)=>if kind == .free then cellOf C.env name >>= fun a=>pure (ForInStep.yield ((name,a) :: cs)) else pure (ForInStep.yield cs)):Sem (List (Str × Addr))) >>= fun r=>pure r):=rfl
  rw [e2,this];rfl
 ·obtain ⟨m,e1⟩:=h3 i id hi
  refine x12 (q.cells i id e1) fun a ha hb=>?_
  refine ⟨a, ?_,hb⟩
  have:=lg (env:=C.env) (C.nm i) (cs.aO C.nm).names [] (.inl (List.mem_map.mpr ⟨(i,.free),m,rfl⟩))
  rw [this,ha];rfl
noncomputable def compEnv (C:Ctx) (cs:CSc) (cl:List (Str × Addr)) (L:Addr):Env:=compEnvC (cs.aO C.nm) (cellsFrom (L + 1) (cs.aO C.nm).names cl) L C.env
theorem lN (g:Good C sc k) (q:Rep C sc loc μ W h) {cs:CSc} {cells:List (Nat × Nat)} {cl:List (Str × Addr)} {L:Addr} {lim:Nat}:Good (C.inn C.A (compEnv C cs cl L) h W) ⟨cs.names,cells,lim⟩ k where
 base:=g.base
 hb:=fun b o e=>hideAll_get _ (q.keep _ _ (g.hb b o e)) fun hm=>by have:=q.old b hm;rw [g.hb b o e] at this;exact no2 this
 kind:=rfl
 glb:=g.glb
 blt:=g.blt
 names:=fun i x e=>by
  have e1:(cs.aO C.nm).names.lookup (C.nm i) = some x:=(fh g.inj i cs.names).trans e
  refine (?_:List.lookup (C.nm i) (relabel (cs.aO C.nm) C.env).names = some x∨_)
  have key:∀ {l:List (Str × NameKind)} {y:Str},l.lookup y = some x→(l.map fun (n,k)=>if (k == NameKind.free && C.env.scope.kind == .function && C.env.kindOf n == some .cell) then (n,NameKind.cell) else (n,k)).lookup y = some x ∨
    (x = .free∧(l.map fun (n,k)=>if (k == NameKind.free && C.env.scope.kind == .function && C.env.kindOf n == some .cell) then (n,NameKind.cell) else (n,k)).lookup y = some .cell):=fun {l y} hl=>by
   induction l with
   | nil=>exact no1 hl
   | cons z t ih =>
    obtain ⟨n,kd⟩:=z
    rw [List.map_cons]
    dsimp only
    rw [List.lookup_cons] at hl
    by_cases hc:(kd == NameKind.free && C.env.scope.kind == .function && C.env.kindOf n == some .cell) = true
    ·rw [if_pos hc,List.lookup_cons]
     cases hy:y == n with
     | true =>
      rw [hy] at hl
      have hkx:kd = x:=Option.some.inj hl
      have:kd = NameKind.free:=by simp at hc;exact hc.1.1
      exact .inr ⟨hkx ▸ this,rfl⟩
     | false=>rw [hy] at hl;exact ih hl
    ·rw [if_neg hc,List.lookup_cons]
     cases hy:y == n with
     | true=>rw [hy] at hl;exact .inl hl
     | false=>rw [hy] at hl;exact ih hl
  exact key e1
 hnd:=g.hnd
 dep:=g.dep
 uni:=g.uni
theorem jV {all:List (Nat × NameKind)}:∀ {l:List (Nat × NameKind)},mh all l = true→∀ x∈l,x.2 = .local→lk all x.1 = some .local
 | [],_,_,hx,_=>nomatch hx
 | (i,kd) :: r,h,x,hx,e=>by
  replace h:=Bool.and_eq_true_iff.mp h
  rcases List.mem_cons.mp hx with rfl | hx
  ·rcases Bool.or_eq_true_iff.mp h.1 with h1 | h1
   ·simp at h1;exact absurd e h1
   ·exact beq_iff_eq.mp h1
  ·exact jV h.2 x hx e
theorem gg {prog:Program} {w:World} {A:Around} {R:Result→Shared→Prop} {elt target iter:PySem.Expr} {ifs:List PySem.Expr} {scope:Scope} {pos:Pos} {it acc:Value} {env:Env} (I:Nat→Shared→Prop)
  (turn:∀ n s,I n s→wpAny (model prog w) A (pyNext it) (fun r s₁=>match r with
   | none=>R (.ok .next) s₁
   | some v=>wpAny (model prog w) A (letOwnedTupleGo target it v) (fun _ s₁=>wpAny (model prog w) A (assign target env v) (fun _ s₂ =>
     wpAny (model prog w) A (forIn ifs true fun c r=>if r = true then do let ok ← isTrue c env (eval c env);pure (ForInStep.yield ok) else pure (ForInStep.yield r)) (fun ok s₃ =>
      if ok = true then wpAny (model prog w) A (eval elt env) (fun x s₄=>wpAny (model prog w) A (call (.builtin "list.append") [acc,x]) (fun _ s₅=>∃ m,m < n∧I m s₅) NoE s₄) NoE s₃
      else ∃ m,m < n∧I m s₃) NoE s₂) NoE s₁) NoE s₁) NoE s) (n:Nat) (h:I n s) :
  codeAny (model prog w) A (.compLoop (.ListComp elt [⟨target,iter,ifs,0⟩] scope pos) 0 it acc env) R s:=by
 refine codeAny_loop rfl I (fun n s hI=>?_) n h
 refine (?_:wpAny _ A ((compTurn (.ListComp elt [⟨target,iter,ifs,0⟩] scope pos) 0 it acc env).onRaise (fun x=>do noteFrame x env;theTreesLotGoes x)) _ _ s)
 refine wpAny_noted ?_
 rw [compTurn_list]
 refine wpAny_mono (E:=NoE) ?_ (fun _ _ x=>x) fun _ _ x=>x.elim
 refine wpAny_bind (wpAny_standAt (wpAny_bind (wpAny_mono (turn n s hI) (fun r s₁ h₁=>?_) fun _ _ h'=>h')))
 induction r using Option.casesOn with
 | none=>exact wpAny_pure h₁
 | some v =>
  refine wpAny_bind (wpAny_mono h₁ (fun _ s₂ h₂=>wpAny_bind (wpAny_mono h₂ (fun _ s₃ h₃=>wpAny_bind (wpAny_mono h₃ (fun ok s₄ h₄=>?_) fun _ _ h'=>h')) fun _ _ h'=>h')) fun _ _ h'=>h')
  induction ok using Bool.casesOn with
  | false=>exact wpAny_pure ⟨rfl,h₄⟩
  | true=>exact wpAny_bind (wpAny_bind (wpAny_mono h₄ (fun x s₅ h₅=>wpAny_bind (wpAny_mono h₅ (fun _ s₆ h₆=>wpAny_pure (wpAny_pure ⟨rfl,h₆⟩)) fun _ _ h'=>h')) fun _ _ h'=>h'))
end
end Mine
end
section
namespace Mine
open PySem PySem.W PySem.Spec PySem.Calls PyProof.Rows
section
variable {C C':Ctx} {sc sc':Sc} {loc loc' loc'':Loc} {μ μ' μ'' μ₁ μ₂ μ₃:Mem} {W W' W'' W₀ W₁:Wd} {s:Shared} {α β:Type} {k:Nat} {r:R} {h h':Heap}
noncomputable abbrev lo (vs:List Value) (n:Nat):Obj:={ cls:=.type "list",data:=.seq vs.toArray n }
theorem rF (I:OkR C sc r) {fs:List CE} {ok:Bool} (e:gK r sc loc fs μ = some (ok,μ')) (q:Rep C sc loc μ W s.heap) :
  Giv C sc loc W s (forIn (CE.aC C.nm fs) true fun c r=>if r = true then do let ok ← isTrue c C.env (eval c C.env);pure (ForInStep.yield ok) else pure (ForInStep.yield r)) (fun b _=>b = ok) μ':=by
 intro Q hQ
 match fs,e with
 | [],e =>
  obtain ⟨rfl,rfl⟩:=ai e
  skip
  exact wpAny_tests_nil (hQ _ s.heap s.toks W q (Wd.le.refl _) rfl)
 | [x],e =>
  have e:r.ts sc loc x μ = some (ok,μ'):=e
  skip
  exact wpAny_tests_one (I.ts e q Q hQ)
 | _ :: _ :: _,e=>exact (bF (show (M.no:M Bool) μ = some (ok,μ') from e)).elim
theorem mY {D:Addr} {oD:Obj} {H hid0:Led} (q:Rep C sc loc μ { W with hid:=H ++ (D,oD) :: hid0 } h):D ∉ H.map (·.1)∧(∀ p∈W.fz,p.1 ≠ D)∧h.get? D = some oD:=by
 have q1:=q.ia List.perm_middle
 have P:List.Perm ({ W with hid:=(D,oD) :: (H ++ hid0) }:Wd).own (D :: ({ W with hid:=H ++ hid0 }:Wd).own):=(Wd.ck { W with hid:=H ++ hid0 } (D,oD)).map _
 have n:=(P.cons _).nodup_iff.mp q1.nd
 refine ⟨fun hm=>(List.nodup_cons.mp (List.nodup_cons.mp n).2).1 ?_,fun p hp e=>q1.fzo p hp ?_,q1.all (D,oD) ((Wd.ck { W with hid:=H ++ hid0 } (D,oD)).mem_iff.mpr (.head _))⟩
 ·show D∈(W.tab ++ ((H ++ hid0) ++ W.led.flatten)).map (·.1)
  simp only [List.map_append,List.mem_append]
  exact .inr (.inl (.inl hm))
 ·exact ((P.cons _).mem_iff).mpr (by refine rwG e ?_;exact .tail _ (.head _))
theorem Rep.yG {D:Addr} {oD oD':Obj} {H hid0:Led} (q:Rep C sc loc μ { W with hid:=H ++ (D,oD) :: hid0 } h) (ho:h'.get? D = some oD') (hx:Heap.SameBut D h h'):Rep C sc loc μ { W with hid:=H ++ (D,oD') :: hid0 } h' :=
 (Rep.nB (W:={ W with hid:=H ++ hid0 }) (q.ia List.perm_middle) ho fun b ob hb e=>hx.extBut b ob hb e).ia List.perm_middle.symm
theorem At.app {D:Addr} {oD oD':Obj} {hid0:Led} {tg:PySem.Expr} {it:Addr} {wr:List Addr} {items:List PV} {St:Nat→Heap→Prop} {i:Nat} (T:Trn C W₀ tg it wr items St) (a:At C sc loc μ W₀ { W with hid:=(D,oD) :: hid0 } wr St i h) (ho:h'.get? D = some oD') (hx:Heap.SameBut D h h') :
  At C sc loc μ W₀ { W with hid:=(D,oD') :: hid0 } wr St i h':=by
 refine x12 a.rep fun H hH q=>?_
 refine x03 (mY (W:=W) q) fun n1 n2 _=>?_
 refine ⟨⟨H,hH,Rep.yG (W:=W) q ho hx⟩,T.frame i h h' a.st fun b o hb e=>hx.extBut b o (fun x=>?_) e,a.fz,a.ad⟩
 rcases hb with hb | hb
 ·exact n1 (by (refine rwG hH ?_;refine rwH x ?_);exact hb)
 ·exact n2 _ (a.fz _ hb) x
theorem AtL.app {D:Addr} {oD oD':Obj} {hid0:Led} {it ax:Addr} {id i:Nat} (a:AtL C sc loc μ { W with hid:=(D,oD) :: hid0 } it ax id i h) (ho:h'.get? D = some oD') (hx:Heap.SameBut D h h'):AtL C sc loc μ { W with hid:=(D,oD') :: hid0 } it ax id i h':=by
 obtain ⟨⟨o,q⟩,st,ad⟩:=a
 refine x03 (mY (W:=W) (H:=[(it,o)]) q) fun n1 _ _=>?_
 exact ⟨⟨o,Rep.yG (W:=W) (H:=[(it,o)]) q ho hx⟩,st.at fun o e=>hx.extBut _ _ (fun x=>n1 (by simp [x])) e,ad⟩
noncomputable def CompEnd (C:Ctx) (sc:Sc) (μ':Mem) (W:Wd) (D:Addr) (res:List PV) (s:Shared) (rr:Result) (s':Shared):Prop:=match rr with
 | .ok _=>∃ h' tk loc' W' vs n,s' = { s with heap:=h',toks:=tk }∧Rep C sc loc' μ' { W' with hid:=(D,lo vs n) :: W.hid } h'∧W.le { W' with hid:=W.hid }∧aL res vs W'
 | .error _=>False
inductive xA (A:Nat→Loc→Mem→Wd→Heap→Prop) (Run:Nat→Nat→Loc→List PV→Mem→Prop) (D:Addr) (W:Wd) (s:Shared):Nat→Shared→Prop
 | mk {kk i n:Nat} {loc:Loc} {acc:List PV} {μ:Mem} {vs:List Value} {W':Wd} {h:Heap} {tk:Nat}:Run kk i loc acc μ→aL acc vs W'→A i loc μ { W' with hid:=(D,lo vs n) :: W.hid } h→W.le { W' with hid:=W.hid }→xA A Run D W s kk { s with heap:=h,toks:=tk }
noncomputable def y0 (Run:Nat→Nat→Loc→List PV→Mem→Prop) (r:R) (sc:Sc) (elt:CE) (kk i:Nat) (loc:Loc) (acc:List PV) (μ:Mem):Bool→Prop
 | false=>∃ m,m < kk∧Run m (i + 1) loc acc μ
 | true=>∃ x μ' m,r.ev sc loc elt μ = some (x,μ')∧m < kk∧Run m (i + 1) loc (acc ++ [x]) μ'
theorem vq (g:Good C sc k) (I:OkR C sc r) {elt:CE} {tg:CT} {fs:List CE} {it:Addr} {res:List PV} {D:Addr} {n0 kk:Nat} {iter:PySem.Expr} {scope:Scope} {pos:Pos} {A:Nat→Loc→Mem→Wd→Heap→Prop} {Dr:Nat→Mem→PV→Prop} {En:Nat→Mem→Prop} (X:Itr C sc (tg.toE C.nm) it A Dr En)
  (app:∀ {i:Nat} {loc:Loc} {μ:Mem} {W:Wd} {h h':Heap} {oD oD':Obj} {hid0:Led},A i loc μ { W with hid:=(D,oD) :: hid0 } h→h'.get? D = some oD'→Heap.SameBut D h h'→A i loc μ { W with hid:=(D,oD') :: hid0 } h') {Run:Nat→Nat→Loc→List PV→Mem→Prop}
  (hR:∀ {kk i loc acc μ},Run kk i loc acc μ→(∃ p aT μ2 ok μ3,Dr i μ p∧cB sc loc tg p μ = some (aT,μ2)∧gK r sc aT fs μ2 = some (ok,μ3)∧acc.length < ah∧y0 Run r sc elt kk i aT acc μ3 ok)∨(En i μ∧acc = res∧μ = μ'))
  (e:Run kk 0 loc [] μ) (a:A 0 loc μ { W with hid:=(D,lo [] n0) :: W.hid } s.heap) :
  codeAny (model C.prog C.w) C.A (.compLoop (.ListComp (elt.toE C.nm) [⟨tg.toE C.nm,iter,CE.aC C.nm fs,0⟩] scope pos) 0 (.ref it) (.ref D) C.env) (CompEnd C sc μ' W D res s) s:=by
 refine gg (xA A Run D W s) (fun kk s' h=>?_) kk (.mk (h:=s.heap) (tk:=s.toks) e RVs.nil a (Wd.le.refl _))
 cases h with | @mk i n loc₁ acc μ₁ vs W₁ h₁ tk₁ e ra a hle =>
 rcases hR e with hh | ⟨he,rfl,rfl⟩
 ·obtain ⟨p,aT,μ2,ok,μ3,hd,e1,e3,hacc,hf⟩:=hh
  refine X.next (s:={ s with heap:=h₁,toks:=tk₁ }) hd a (fun _ _ h=>h) fun v h' tk W' a' l' hv=>?_
  refine X.out a' fun H q back=>?_
  refine ib (s:={ s with heap:=h',toks:=tk }) e1 g q hv _ fun _ h2 tk2 W2 q2 l2 _=>?_
  refine rF (s:={ s with heap:=h2,toks:=tk2 }) I e3 q2 _ fun b h3 tk3 W3 q3 l3 hb=>?_
  subst hb
  have l23:=l2.trans l3
  induction b using Bool.casesOn with
  | false =>
   refine au (back q3 l23) fun a3 l4=>?_
   have l5:({ W₁ with hid:=W.hid }:Wd).le { W3 with hid:=W.hid }:=⟨fun x hx=>l4.fz x (l'.fz x hx),rfl,l'.ad.trans l4.ad⟩
   have eh:W'.hid = (D,lo vs n) :: W.hid:=l'.hid
   rw [eh] at a3
   exact hf.imp fun m h=>⟨h.1,.mk h.2 (RVs.mono l5.fz l5.ad ra) a3 (hle.trans l5)⟩
  | true =>
   refine x33 hf fun x μ4 m e5 hm hr=>?_
   refine I.ev (s:={ s with heap:=h3,toks:=tk3 }) e5 q3 _ fun xv h4 tk4 W4 q4 l4 hxv=>?_
   have l24:=l23.trans l4
   refine au (back q4 l24) fun a4 l6=>?_
   have eh:W'.hid = (D,lo vs n) :: W.hid:=l'.hid
   have hid4:W4.hid = H ++ W'.hid:=l24.hid
   rw [eh] at a4 hid4
   have l5:({ W₁ with hid:=W.hid }:Wd).le { W4 with hid:=W.hid }:=⟨fun x hx=>l6.fz x (l'.fz x hx),rfl,l'.ad.trans l6.ad⟩
   have ra4:=RVs.mono l5.fz l5.ad ra
   have hD:h4.get? D = some (lo vs n):=q4.all (D,lo vs n) (List.mem_append_right _ (List.mem_append_left _ (by rw [hid4];exact List.mem_append_right _ (.head _))))
   refine wpAny_list_append_plain (s:={ s with heap:=h4,toks:=tk4 }) ⟨n,hD⟩ (fun h5 hp5 hs5=>?_) (by (refine rwG List.size_toArray ?_;refine rwG ra4.len ?_);have:=bB;omega)
   obtain ⟨n5,e7⟩:=hp5
   have e8:h5.get? D = some (lo (vs ++ [xv]) n5):=by refine rwG e7 ?_;simp
   exact ⟨m,hm,.mk hr (RVs.app ra4 (RVs.cons hxv RVs.nil)) (app a4 e8 hs5) (hle.trans l5)⟩
 ·exact X.done (s:={ s with heap:=h₁,toks:=tk₁ }) he a fun h' tk q=>⟨h',tk,loc₁,W₁,vs,n,rfl,q,hle,ra⟩
theorem tL (g:Good C sc k) (I:OkR C sc r) {elt:CE} {tg:CT} {fs:List CE} {it:Addr} {wr:List Addr} {items res:List PV} {St:Nat→Heap→Prop} {D:Addr} {n0:Nat} {iter:PySem.Expr} {scope:Scope} {pos:Pos} (T:Trn C W₀ (tg.toE C.nm) it wr items St) (hlen:items.length ≤ ah)
  (e:dH r sc elt tg fs items loc [] μ = some (res,μ')) (a:At C sc loc μ W₀ { W with hid:=(D,lo [] n0) :: W.hid } wr St 0 s.heap) :
  codeAny (model C.prog C.w) C.A (.compLoop (.ListComp (elt.toE C.nm) [⟨tg.toE C.nm,iter,CE.aC C.nm fs,0⟩] scope pos) 0 (.ref it) (.ref D) C.env) (CompEnd C sc μ' W D res s) s:=by
 refine vq g I (At.itr T g) (fun {i loc μ W h h' oD oD' hid0} a=>At.app T a) (Run:=fun kk i loc acc μ=>kk + i = items.length∧acc.length ≤ i∧dH r sc elt tg fs (items.drop i) loc acc μ = some (res,μ')) (fun {kk i loc acc μ} h=>?_) (kk:=items.length) ⟨rfl,Nat.le_refl _,e⟩ a
 obtain ⟨hk,ha,e⟩:=h
 induction kk using Nat.casesOn with
 | succ kk =>
  have hlt:i < items.length:=hk ▸ Nat.lt_add_of_pos_left (Nat.succ_pos kk)
  have hk':kk + (i + 1) = items.length:=(Nat.add_right_comm kk 1 i ▸ hk:kk + i + 1 = items.length)
  refine x12 (pd hlt) fun p hp hd=>?_
  rw [hd] at e
  refine ag (show M.bnd (cB sc loc tg p) _ μ = _ from e) fun aT μ₂ e1 e2=>?_
  refine ag e2 fun ok μ₃ e3 e4=>?_
  refine .inl ⟨p,aT,μ₂,ok,μ₃,hp,e1,e3,Nat.lt_of_le_of_lt ha (Nat.lt_of_lt_of_le hlt hlen), ?_⟩
  induction ok using Bool.casesOn with
  | false=>exact ⟨kk,Nat.lt_succ_self _,hk',Nat.le_succ_of_le ha,e4⟩
  | true =>
   refine ag (show M.bnd (r.ev sc aT elt) _ μ₃ = _ from e4) fun x μ₄ e5 e6=>?_
   exact ⟨x,μ₄,kk,e5,Nat.lt_succ_self _,hk',by rw [List.length_append];exact Nat.succ_le_succ ha,e6⟩
 | zero =>
  have hi:i = items.length:=(Nat.zero_add i).symm.trans hk
  rw [hi,List.drop_of_length_le (Nat.le_refl _)] at e
  obtain ⟨rfl,rfl⟩:=ai e
  exact .inr ⟨hi,rfl,rfl⟩
end
end Mine
end
section
namespace Mine
open PySem PySem.W PySem.Spec PySem.Calls PyProof.Rows
section
variable {C C':Ctx} {sc sc':Sc} {loc loc' loc'':Loc} {μ μ' μ'' μ₁ μ₂ μ₃:Mem} {W W' W'' W₀ W₁:Wd} {s:Shared} {α β:Type} {k:Nat} {r:R} {h h':Heap}
theorem sT (g:Good C sc k) (I:OkR C sc r) {elt:CE} {tg:CT} {fs:List CE} {it ax:Addr} {id m:Nat} {res:List PV} {D:Addr} {n0:Nat} {iter:PySem.Expr} {scope:Scope} {pos:Pos} (hlen:m ≤ ah)
  (e:eW r sc elt tg fs id m 0 loc [] μ = some (res,μ')) (a:AtL C sc loc μ { W with hid:=(D,lo [] n0) :: W.hid } it ax id 0 s.heap) :
  codeAny (model C.prog C.w) C.A (.compLoop (.ListComp (elt.toE C.nm) [⟨tg.toE C.nm,iter,CE.aC C.nm fs,0⟩] scope pos) 0 (.ref it) (.ref D) C.env) (CompEnd C sc μ' W D res s) s:=by
 refine vq g I (AtL.itr g) (fun {i loc μ W h h' oD oD' hid0} a=>AtL.app a) (Run:=fun kk i loc acc μ=>kk + i = m∧acc.length ≤ i∧eW r sc elt tg fs id kk i loc acc μ = some (res,μ')) (fun {kk i loc acc μ} h=>?_) (kk:=m) ⟨rfl,Nat.le_refl _,e⟩ a
 obtain ⟨hk,ha,e⟩:=h
 induction kk using Nat.casesOn with
 | succ kk =>
  have hlt:i < m:=hk ▸ Nat.lt_add_of_pos_left (Nat.succ_pos kk)
  have hk':kk + (i + 1) = m:=(Nat.add_right_comm kk 1 i ▸ hk:kk + i + 1 = m)
  refine cw (show M.bnd (M.get id) _ μ = _ from e) fun ob e4' e5=>?_
  induction ob using MO.casesOn with
  | lst l =>
   dsimp only at e5
   cases hp:l[i]? with
   | none=>rw [hp] at e5;exact no1 e5
   | some p =>
    rw [hp] at e5
    refine ag e5 fun aT μ₂ e1 e2=>?_
    refine ag e2 fun ok μ₃ e3 e6=>?_
    refine .inl ⟨p,aT,μ₂,ok,μ₃,⟨l,e4',hp⟩,e1,e3,Nat.lt_of_le_of_lt ha (Nat.lt_of_lt_of_le hlt hlen), ?_⟩
    induction ok using Bool.casesOn with
    | false=>exact ⟨kk,Nat.lt_succ_self _,hk',Nat.le_succ_of_le ha,e6⟩
    | true =>
     refine ag (show M.bnd (r.ev sc aT elt) _ μ₃ = _ from e6) fun x μ₄ e7 e8=>?_
     exact ⟨x,μ₄,kk,e7,Nat.lt_succ_self _,hk',by rw [List.length_append];exact Nat.succ_le_succ ha,e8⟩
  | _=>exact no1 e5
 | zero =>
  refine cw (show M.bnd (M.get id) _ μ = _ from e) fun ob e4' e5=>?_
  induction ob using MO.casesOn with
  | lst l =>
   dsimp only at e5
   by_cases hl:l.length = i
   ·rw [if_pos hl] at e5
    obtain ⟨rfl,rfl⟩:=ai e5
    exact .inr ⟨⟨l,e4',hl⟩,rfl,rfl⟩
   ·rw [if_neg hl] at e5;exact no1 e5
  | _=>exact no1 e5
end
end Mine
end
section
namespace Mine
open PySem PySem.W PySem.Spec PySem.Calls PyProof.Rows
section
variable {C C':Ctx} {sc sc':Sc} {loc loc' loc'':Loc} {μ μ' μ'' μ₁ μ₂ μ₃:Mem} {W W' W'' W₀ W₁:Wd} {s:Shared} {α β:Type} {k:Nat} {r:R} {h h':Heap}
theorem gA (nm:Nat→Str) (env:Env) (e:CE) (x:Value):foldedSetIterable (e.toE nm) env x = pure x:=by cases e <;> rfl
theorem lz {a:Int} {n:Nat} (h:n ≤ ah):(bb a n).length ≤ ah:=by refine rwG (gq ..) ?_;exact h
theorem tK {n:TY} {args l:List PV} (e:fu n args l):l.length ≤ ah:=by
 have h1000:1000 ≤ ah:=by decide
 cases e with
 | r1 b h=>exact lz (Nat.le_trans (Int.toNat_le.mpr h) h1000)
 | r2 a b h=>exact lz (Nat.le_trans (Int.toNat_le.mpr h) h1000)
 | en l h=>refine rwG (gE ..) ?_;exact h
 | rv l h=>refine rwG List.length_reverse ?_;exact h
 | z1 a b h=>refine rwG (gk ..) ?_;exact Nat.le_trans (Nat.min_le_left _ _) h
 | z2 a b h=>refine rwG (gk ..) ?_;exact Nat.le_trans (Nat.min_le_left _ _) h
noncomputable def sx:Src→Prop
 | .items l=>l.length ≤ ah
 | .ref _ n=>n ≤ ah
theorem sv {v:PV} {src:Src} (e:srcOf v μ = some (src,μ')):sx src:=by
 obtain ⟨_,⟨i,l,_,_,h,rfl⟩ | ⟨l,_,h,rfl⟩⟩:=jD e
 ·exact h
 ·exact h
theorem uB {cfg:Cfg} {t:CT} {e:CE} {src:Src} (e1:bH cfg r sc loc t e μ = some (src,μ')):sx src:=by
 rcases lH e1 with ⟨v,μ₁,e2,e3⟩ | ⟨i,p,args,pos,n,vs,l,rfl,hk,hgl,ht,e3,e6,rfl⟩
 ·exact sv e3
 ·exact tK e6
theorem uw {M:Model} {A:Around} {E:Value→Shared→Prop} {s:Shared} {scope:Scope} {globals:Addr} {cl:List (Str × Addr)} {qual:Str} {env:Env} {Q:Env→Shared→Prop}
  (hQ:∀ h',(∀ b o,s.heap.get? b = some o→h'.get? b = some o)→h'.Ns s.heap.objs.size (fun _=>none)→(∀ n c,(n,c)∈cellsFrom (s.heap.objs.size + 1) scope.names []→h'.IsCell c none) →
   Q (newEnv scope s.heap.objs.size globals (cellsFrom (s.heap.objs.size + 1) scope.names cl) qual none .none (some env) builtinsNs) { s with heap:=h' }) :
  wpAny M A (newFunctionEnv scope globals cl [] qual none .none (some env)) Q E s:=by
 simp only [newFunctionEnv,Option.isSome_some,if_true]
 refine wpAny_bind (wpAny_alloc ?_)
 refine wpAny_bind (wpAny_layCells _ (fun name kind cells=>by cases hkc:kind == NameKind.cell <;> simp [hkc]) _ _ _ _ ?_)
 have ok:=cellsFrom_ok scope.names (s.heap.push { cls:=.type "dict",data:=.dict #[] }) (s.heap.objs.size + 1) [] ⟨fun _ _ hm=>(nomatch hm),List.Pairwise.nil⟩ (by rw [Heap.size_push];exact Nat.le_refl _)
 rw [Heap.size_push] at ok
 rw [show ({ s with heap:=s.heap.push { cls:=.type "dict",data:=.dict #[] } }:Shared).heap.objs.size = s.heap.objs.size + 1 from Heap.size_push ..]
 rw [List.forIn_nil]
 refine wpAny_bind (wpAny_pure (wpAny_pure ?_))
 exact hQ _ (fun b o e=>pushCells_keeps _ _ b o (Heap.get?_push_of_some _ e)) ((Heap.Ns.new s.heap (.type "dict")).keeps (pushCells_keeps _ _)) fun n c hm=>(ok.empty n c hm).1
theorem jh (g:Good C sc k) {iter elt:PySem.Expr} {tgE:PySem.Expr} {ifs:List PySem.Expr} {cs:CSc} {cells own:List (Nat × Nat)} {cl:List (Str × Addr)} {it:Addr} {H:Led} {oL:Obj} {pos:Pos} {R:Value→Addr→Result→Shared→Prop}
  (q:Rep C sc loc μ { W with hid:=H ++ W.hid } s.heap) (hL:s.heap.get? C.env.locals = some oL) (nnd:(cs.names.map (·.1)).Nodup) (hfree:∀ i id,lk cells i = some id→(i,NameKind.free)∈cs.names)
  (hcl:∀ i id,lk cells i = some id→∃ a,cl.lookup (C.nm i) = some a∧(ads W.led)[id]? = some a) (hown:cf [] (dI cs.names) μ = some (own,μ'))
  (hself:∀ (s':Shared) (Q:Value→Shared→Prop),(∀ b o,s.heap.get? b = some o→s'.heap.get? b = some o)→Q (.ref it) s'→wpAny (model C.prog C.w) C.A (pyIter (.ref it)) Q NoE s')
  (h:∀ D L' n0 h₁ tk W',s.heap.get? D = none→s.heap.get? L' = none→D ≠ L'→(∀ b o,s.heap.get? b = some o→h₁.get? b = some o)→W.le W' →
   Rep (C.inn C.A (compEnv C cs cl L') s.heap { W with hid:=H ++ W.hid }) ⟨cs.names,own ++ cells,sc.lim⟩ [] μ' { W' with hid:=H ++ (D,lo [] n0) :: (C.env.locals,oL) :: W.hid } h₁ →
   codeAny (model C.prog C.w) C.A (.compLoop (.ListComp elt [⟨tgE,iter,ifs,0⟩] (cs.aO C.nm) pos) 0 (.ref it) (.ref D) (compEnv C cs cl L')) (R (.ref D) L') { s with heap:=h₁,toks:=tk }) :
  wpAny (model C.prog C.w) C.A (newList []) (fun acc s₃=>wpAny (model C.prog C.w) C.A (newFunctionEnv (cs.aO C.nm) C.env.globals cl [] C.env.qual none .none (some C.env)) (fun cenv s₄ =>
   codeAny (model C.prog C.w) C.A (.compStart (.ListComp elt [⟨tgE,iter,ifs,0⟩] (cs.aO C.nm) pos) 0 (.ref it) acc { cenv with scope:=relabel (cs.aO C.nm) C.env }) (R acc cenv.locals) s₄) NoE s₃) NoE s:=by
 refine wpAny_newObj_type (uw fun h₁ hk₁ hns₁ hcn=>?_)
 dsimp only at hk₁ hns₁ hcn ⊢
 generalize hH2:s.heap.push { cls:=.type "list",dict:=none,data:=.seq ([]:List Value).toArray } = H2 at hk₁ hns₁ hcn ⊢
 have hC:H2.objs.size = s.heap.objs.size + 1:=by rw [← hH2,Heap.size_push]
 have none_:∀ {x},s.heap.objs.size ≤ x→s.heap.get? x = none:=fun {x} hx=>by
  cases e:s.heap.get? x with
  | none=>rfl
  | some o=>exact absurd (aJ e) (Nat.not_lt.mpr hx)
 have hDn:=none_ (Nat.le_refl s.heap.objs.size)
 have hLn:s.heap.get? H2.objs.size = none:=none_ (by refine rwG hC ?_;exact Nat.le_succ _)
 have hDC:s.heap.objs.size ≠ H2.objs.size:=by refine rwG hC ?_;exact Nat.ne_of_lt (Nat.lt_succ_self _)
 have old:∀ b o,s.heap.get? b = some o→h₁.get? b = some o:=fun b o e=>hk₁ b o (hH2 ▸ Heap.get?_push_of_some _ e)
 have hacc:h₁.get? s.heap.objs.size = some (lo [] 0):=hk₁ _ _ (hH2 ▸ Heap.get?_push_size _ rfl)
 have clk:∀ i,(compEnv C cs cl H2.objs.size).cells.lookup (C.nm i) = match lk (az (H2.objs.size + 1) cs.names) i with | some a=>some a | none=>cl.lookup (C.nm i):=fun i=>df g.inj i cs.names _ cl nnd
 have hcl':∀ i id,lk cells i = some id→∃ a,(compEnv C cs cl H2.objs.size).cells.lookup (C.nm i) = some a∧(ads W.led)[id]? = some a:=fun i id e=>by
  refine x12 (hcl i id e) fun a e1 e2=>?_
  refine ⟨a, ?_,e2⟩
  have hn:lk (az (H2.objs.size + 1) cs.names) i = none:=by
   cases e3:lk (az (H2.objs.size + 1) cs.names) i with
   | none=>rfl
   | some b=>have:=fR nnd (cV e3) (hfree i id e);cases this
  rw [clk,hn];exact e1
 have q1:Rep (C.inn C.A (compEnv C cs cl H2.objs.size) s.heap { W with hid:=H ++ W.hid }) ⟨cs.names,cells,sc.lim⟩ [] μ { W with hid:=(C.env.locals,oL) :: (H ++ W.hid) } h₁ :=
  Rep.enter q hL old hLn rfl rfl (Wd.ck { W with hid:=H ++ W.hid } (C.env.locals,oL)) q.mem ⟨_,hns₁,fun i p e=>by exact no1 e⟩ hcl'
 have P2:List.Perm ({ W with hid:=(C.env.locals,oL) :: (H ++ W.hid) }:Wd).own (C.env.locals :: ({ W with hid:=H ++ W.hid }:Wd).own):=(Wd.ck { W with hid:=H ++ W.hid } (C.env.locals,oL)).map _
 have nn:∀ {a o},s.heap.get? a = some o→a ≠ s.heap.objs.size:=fun e x=>by rw [x,hDn] at e;exact no1 e
 have q2:=Rep.hJ (W:={ W with hid:=(C.env.locals,oL) :: (H ++ W.hid) }) q1 hacc (fun hm=>by
   rcases List.mem_cons.mp hm with e | hm
   ·exact hDC e
   ·obtain ⟨o,e⟩:=q.bg (P2.mem_iff.mp hm)
    exact nn e rfl) (by
   cases e:(C.inn C.A (compEnv C cs cl H2.objs.size) s.heap { W with hid:=H ++ W.hid }).h₀.get? s.heap.objs.size with
   | none=>rfl
   | some o=>exact absurd rfl (nn (of_hideAll _ e))) (fun p hp=>nn (q.fzs p hp))
 have q3:=Rep.ia (W:=W) q2 (show List.Perm ((s.heap.objs.size,lo [] 0) :: (C.env.locals,oL) :: (H ++ W.hid)) (H ++ (s.heap.objs.size,lo [] 0) :: (C.env.locals,oL) :: W.hid) from
  ((List.perm_middle (a:=(C.env.locals,oL)) (l₁:=H) (l₂:=W.hid)).symm.cons _).trans (List.perm_middle (a:=(s.heap.objs.size,lo [] 0)) (l₁:=H) (l₂:=(C.env.locals,oL) :: W.hid)).symm)
 have lt_:∀ {a},(∃ o,s.heap.get? a = some o)→@LT.lt Nat _ a (H2.objs.size + 1):=fun {a} h=>by
  obtain ⟨o,e⟩:=h
  rw [hC];exact Nat.lt_succ_of_lt (Nat.lt_succ_of_lt (aJ e))
 obtain ⟨W₂,q4,l2,hfz2,hcs⟩:=fg (n:=H2.objs.size + 1) (cv:=fun _=>none) hown q3 (oK nnd) (fun i a e=>by
   rw [bT] at e
   refine hcn (C.nm i) a (mem_of_lookup ?_)
   refine (df g.inj i cs.names _ [] nnd).trans ?_
   rw [e]) (fun i _=>rfl) (fun a ha=>by
   rcases List.mem_cons.mp ha with rfl | ha
   ·exact Nat.lt_succ_self _
   ·have ha':a∈(({ W with hid:=(s.heap.objs.size,lo [] 0) :: (C.env.locals,oL) :: (H ++ W.hid) }:Wd)).own:=((Wd.nx W (((List.perm_middle (a:=(C.env.locals,oL)) (l₁:=H) (l₂:=W.hid)).symm.cons _).trans (List.perm_middle (a:=(s.heap.objs.size,lo [] 0)) (l₁:=H) (l₂:=(C.env.locals,oL) :: W.hid)).symm)).map _).mem_iff.mpr ha
    have P3:List.Perm ({ W with hid:=(s.heap.objs.size,lo [] 0) :: (C.env.locals,oL) :: (H ++ W.hid) }:Wd).own (s.heap.objs.size :: ({ W with hid:=(C.env.locals,oL) :: (H ++ W.hid) }:Wd).own):=(Wd.ck { W with hid:=(C.env.locals,oL) :: (H ++ W.hid) } (s.heap.objs.size,lo [] 0)).map _
    rcases List.mem_cons.mp (P3.mem_iff.mp ha') with rfl | ha
    ·rw [hC];exact Nat.lt_succ_of_lt (Nat.lt_succ_self _)
    ·exact lt_ (q.bg (P2.mem_iff.mp ha))) (fun p hp=>lt_ ⟨_,q.fzs p hp⟩) (fun a ha=>by
   cases e:(C.inn C.A (compEnv C cs cl H2.objs.size) s.heap { W with hid:=H ++ W.hid }).h₀.get? a with
   | none=>rfl
   | some o=>exact absurd (lt_ ⟨_,of_hideAll _ e⟩) (Nat.not_lt.mpr ha))
 obtain ⟨fz2,tab2,hid2,led2⟩:=W₂
 obtain rfl:hid2 = H ++ (s.heap.objs.size,lo [] 0) :: (C.env.locals,oL) :: W.hid:=l2.hid
 have q5:Rep (C.inn C.A (compEnv C cs cl H2.objs.size) s.heap { W with hid:=H ++ W.hid }) ⟨cs.names,own ++ cells,sc.lim⟩ [] μ' { (⟨fz2,tab2,W.hid,led2⟩:Wd) with hid:=H ++ (s.heap.objs.size,lo [] 0) :: (C.env.locals,oL) :: W.hid } h₁ :=
  ⟨q4.ns,q4.keep,q4.fzs,q4.all,q4.nd,q4.old,q4.fzo,q4.mem,q4.tabs,q4.kf,fun i id e=>by
   have e:lk (own ++ cells) i = some id:=e
   rw [rg] at e
   cases e1:lk own i with
   | some x =>
    rw [e1] at e
    refine so1m e ?_
    refine x12 (hcs i x e1) fun a h1 h2=>?_
    rw [bT] at h1
    refine ⟨a, ?_,h2⟩
    refine (clk i).trans ?_
    rw [h1]
   | none =>
    rw [e1] at e
    refine x12 (hcl' i id e) fun a h1 h2=>?_
    exact ⟨a,h1,l2.ad _ _ h2⟩⟩
 have loop:=fun tk=>h s.heap.objs.size H2.objs.size 0 h₁ tk ⟨fz2,tab2,W.hid,led2⟩ hDn hLn hDC old ⟨l2.fz,rfl,l2.ad⟩ q5
 refine codeAny_compStart_list (loop _) ?_
 exact wpAny_mono (E:=NoE) (hself _ _ old (loop _)) (fun _ _ x=>x) fun _ _ x=>x.elim
end
end Mine
end
section
namespace Mine
open PySem PySem.W PySem.Spec PySem.Calls PyProof.Rows
section
variable {C C':Ctx} {sc sc':Sc} {loc loc' loc'':Loc} {μ μ' μ'' μ₁ μ₂ μ₃:Mem} {W W' W'' W₀ W₁:Wd} {s:Shared} {α β:Type} {k:Nat} {r:R} {h h':Heap}
theorem Trn.inn {tg:PySem.Expr} {it:Addr} {wr:List Addr} {items:List PV} {St:Nat→Heap→Prop} {env':Env} {hh:Heap} {Wx:Wd} (T:Trn C W₀ tg it wr items St):Trn (C.inn C.A env' hh Wx) W₀ tg it wr items St:=⟨T.frame,T.ex,T.step,T.done,T.self⟩
noncomputable def jH (C:Ctx) (sc:Sc) (loc:Loc) (μ':Mem) (W:Wd) (s:Shared) (p:PV) (Q:Value→Shared→Prop) (use:Option (Value→Sem Unit)):Prop:=match use with
 | none=>∀ v h' tk W',Rep C sc loc μ' W' h'→W.le W'→IsV p v W'→Q v { s with heap:=h',toks:=tk }
 | some u=>∃ loc' μ'',(∀ v W' (s':Shared),IsV p v W'→Rep C sc loc μ' W' s'.heap→Giv C sc loc' W' s' (u v) (fun _ _=>True) μ'')∧∀ h' tk W',Rep C sc loc' μ'' W' h'→W.le W'→Q .none { s with heap:=h',toks:=tk }
theorem jH.le {p:PV} {Q:Value→Shared→Prop} {use:Option (Value→Sem Unit)} {tk:Nat} (hQ:jH C sc loc μ' W s p Q use) (l:W.le W'):jH C sc loc μ' W' { s with heap:=h,toks:=tk } p Q use:=by
 induction use using Option.casesOn with
 | none=>exact fun v h' tk' W'' q l' hv=>hQ v h' tk' W'' q (l.trans l') hv
 | some u =>
  refine x22 hQ fun loc' μ'' a b=>?_
  exact ⟨loc',μ'',a,fun h' tk' W'' q l'=>b h' tk' W'' q (l.trans l')⟩
theorem kY (g:Good C sc k) {cs:CSc} {cl:List (Str × Addr)} {H:Led} {oL:Obj} {D L':Addr} {res vs:_} {n:Nat} {use:Option (Value→Sem Unit)} {Q:Value→Shared→Prop} {f:Flow} {s₀:Shared}
  (q:Rep C sc loc μ { W with hid:=H ++ W.hid } h) (hL:h.get? C.env.locals = some oL)
  (q':Rep (C.inn C.A (compEnv C cs cl L') h { W with hid:=H ++ W.hid }) sc' loc' μ' { W' with hid:=(D,lo vs n) :: (C.env.locals,oL) :: W.hid } s.heap) (hle:({ W with hid:=(C.env.locals,oL) :: W.hid }:Wd).le { W' with hid:=(C.env.locals,oL) :: W.hid }) (hr:aL res vs W')
  (hs:∃ h tk,s = { s₀ with heap:=h,toks:=tk }) (hQ:jH C sc loc μ' W s₀ (.lst res) Q use):compPost (model C.prog C.w) C.A NoE use Q (.ref D) L' (.ok f) s:=by
 have q1:Rep (C.inn C.A (compEnv C cs cl L') h { W with hid:=H ++ W.hid }) sc' loc' μ' { ({ W' with fz:=(D,lo vs n) :: W'.fz }:Wd) with hid:=(C.env.locals,oL) :: W.hid } s.heap:=Rep.w7 (W:={ W' with hid:=(C.env.locals,oL) :: W.hid }) q' g.tq
 refine x12 (Rep.leave (W':={ W' with fz:=(D,lo vs n) :: W'.fz }) (T:=W.hid) q hL q1 (fun p hp=>.tail _ (hle.fz p hp)) hle.ad) fun oL' hL' q2=>?_
 obtain ⟨m,⟨oo,es,ep,a1,a2⟩,_⟩:=q'.ns
 obtain ⟨hh,tk,rfl⟩:=hs
 have a1':hh.get? L' = some oo:=a1
 have hL2:hh.get? L' = some oL':=hL'
 rw [hL2] at a1'
 (have q1:=so1 a1';subst q1)
 have hv:RV ((D,lo vs n) :: W'.fz) (ads W'.led) (.lst res) (.ref D):=RV.l (.head _) (RVs.mono (fun _ h=>.tail _ h) (Pre.refl _) hr)
 have le2:W.le { W' with fz:=(D,lo vs n) :: W'.fz,hid:=W.hid }:=⟨fun p hp=>.tail _ (hle.fz p hp),rfl,hle.ad⟩
 induction use using Option.casesOn with
 | none =>
  refine ⟨m,⟨oL',es,ep,hL2,a2⟩,fun h' hs'=>?_⟩
  exact hQ (.ref D) h' _ { W' with fz:=(D,lo vs n) :: W'.fz,hid:=W.hid } (Rep.pk (W:={ W' with fz:=(D,lo vs n) :: W'.fz,hid:=W.hid }) q2 fun b ob hb e=>hs'.extBut b ob hb e) le2 hv
 | some u =>
  refine x22 hQ fun loc' μ'' hu hQ=>?_
  refine hu (.ref D) { W' with fz:=(D,lo vs n) :: W'.fz,hid:=(L',oL') :: W.hid } _ hv q2 _ fun _ h3 tk3 W3 q3 l3 _=>?_
  obtain ⟨fz3,tab3,hid3,led3⟩:=W3
  obtain rfl:hid3 = (L',oL') :: W.hid:=l3.hid
  have hg3:h3.get? L' = some oL':=q3.all (L',oL') ((Wd.ck ⟨fz3,tab3,W.hid,led3⟩ (L',oL')).mem_iff.mpr (.head _))
  refine ⟨m,⟨oL',es,ep,hg3,a2⟩,fun h' hs'=>?_⟩
  exact hQ h' _ ⟨fz3,tab3,W.hid,led3⟩ (Rep.pk (W:=⟨fz3,tab3,W.hid,led3⟩) q3 fun b ob hb e=>hs'.extBut b ob hb e) (le2.trans ⟨l3.fz,rfl,l3.ad⟩)
theorem u4 {a b:List (Str × Addr)} {t:Sem (List (Str × Addr))} (h1:t = pure a) (h2:t = pure b):a = b:=by
 have:(pure a:Sem (List (Str × Addr))) = pure b:=h1.symm.trans h2
 cases this;rfl
theorem lB (g:Good C sc k) (I:OkR C sc r) (IH:∀ A' env' h W sc',Good (C.inn A' env' h W) sc' k→OkR (C.inn A' env' h W) sc' r) {elt:CE} {tg:CT} {it:CE} {fs:List CE} {cs:CSc} {pos pp:Pos} {p:PV} {use:Option (Value→Sem Unit)} {Q:Value→Shared→Prop}
  (e:iu C.cfg r sc loc (.comp elt tg it fs cs pos) μ = some (p,μ')) (q:Rep C sc loc μ W s.heap) (hQ:jH C sc loc μ' W s p Q use) :
  wpAny (model C.prog C.w) C.A (comprehension (.ListComp (elt.toE C.nm) [⟨tg.toE C.nm,it.toE C.nm,CE.aC C.nm fs,0⟩] (cs.aO C.nm) pos) (cs.aO C.nm) C.env pp (newList []) false (eval (it.toE C.nm) C.env) use) Q NoE s:=by
 refine ag (show M.bnd (bH C.cfg r sc loc tg it) _ μ = _ from e) fun src μ₁ e1 e2=>?_
 cases hlo:(mh cs.names cs.names && je cs.names) with
 | false=>rw [hlo,if_neg Bool.false_ne_true] at e2;exact no1 e2
 | true =>
  rw [hlo,if_pos rfl] at e2
  cases hco:b7 sc.cells cs.names with
  | none=>rw [hco] at e2;exact no1 e2
  | some cells =>
   rw [hco] at e2
   dsimp only at e2
   have hlen:=uB e1
   have hl2:=Bool.and_eq_true_iff.mp hlo
   have nnd:=iI hl2.2
   have hfree:∀ i id,lk cells i = some id→(i,NameKind.free)∈cs.names:=fun i id e=>((cK hco).2 i id e).1
   refine ag e2 fun own μo eo e2=>?_
   refine x12 (gu g q hco) fun cl0 hcl0 _=>?_
   refine wpAny_comprehension_free rfl (gA _ _ it) hcl0 rfl (fun x hx hl=>?_) (pf g I e1 q ?_)
   ·obtain ⟨y,hy,rfl⟩:=List.mem_map.mp hx
    exact (fh g.inj y.1 cs.names).trans (jV hl2.1 y hy hl)
   ·induction src using Src.casesOn with
    | items l =>
     intro itr wr St h1 tk1 W1 T a l1
     refine ag (show M.bnd (dH r ⟨cs.names,own ++ cells,sc.lim⟩ elt tg fs l [] []) _ μo = _ from e2) fun vs μ₂ e3 e4=>?_
     obtain ⟨rfl,rfl⟩:=ai e4
     refine x12 a.rep fun H hH qa=>?_
     obtain ⟨oL,hL⟩:=qa.bg (.head _)
     refine x12 (gu g qa hco) fun cl hcl hcells=>?_
     obtain rfl:cl0 = cl:=u4 hcl0 hcl
     refine jh g (R:=fun acc L=>compPost (model C.prog C.w) C.A NoE use Q acc L) (s:={ s with heap:=h1,toks:=tk1 }) qa hL nnd hfree hcells eo (fun s' Q' hk hQ'=>T.self 0 s' Q' (T.frame 0 h1 s'.heap a.st fun b o _ e=>hk b o e) hQ') fun D L' n0 h₁ tk W2 hDn hLn hDL old lW q3=>?_
     have g':=lN (cs:=cs) (cells:=own ++ cells) (cl:=cl0) (L:=L') (lim:=sc.lim) g qa
     refine codeAny_mono (tL (W:={ W2 with hid:=(C.env.locals,oL) :: W1.hid }) (W₀:=W1) (s:={ s with heap:=h₁,toks:=tk }) g' (IH _ _ _ _ _ g') T.inn hlen e3 ⟨⟨H,hH,q3⟩,T.frame 0 h1 h₁ a.st (fun b o _ e=>old b o e),lW.fz,lW.ad⟩) fun rr s' hr=>?_
     induction rr using Except.casesOn with
     | error _=>exact hr.elim
     | ok f =>
      obtain ⟨h',tk',loc'',W'',vs',n,rfl,q4,l4,r4⟩:=hr
      exact kY g qa hL q4 ((⟨lW.fz,rfl,lW.ad⟩:({ W1 with hid:=(C.env.locals,oL) :: W1.hid }:Wd).le { W2 with hid:=(C.env.locals,oL) :: W1.hid }).trans l4) r4 ⟨h',tk',rfl⟩ (hQ.le l1)
    | ref i n =>
     intro itr ax h1 tk1 W1 a l1
     refine ag (show M.bnd (eW r ⟨cs.names,own ++ cells,sc.lim⟩ elt tg fs i n 0 [] []) _ μo = _ from e2) fun vs μ₂ e3 e4=>?_
     obtain ⟨rfl,rfl⟩:=ai e4
     obtain ⟨⟨o,qa⟩,st,ad⟩:=a
     obtain ⟨oL,hL⟩:=qa.bg (.head _)
     refine x12 (gu g qa hco) fun cl hcl hcells=>?_
     obtain rfl:cl0 = cl:=u4 hcl0 hcl
     refine jh g (R:=fun acc L=>compPost (model C.prog C.w) C.A NoE use Q acc L) (s:={ s with heap:=h1,toks:=tk1 }) (H:=[(itr,o)]) qa hL nnd hfree hcells eo (fun s' Q' hk hQ'=>wpAny_pyIter_listiter (st.at fun o e=>hk _ _ e) hQ') fun D L' n0 h₁ tk W2 hDn hLn hDL old lW q3=>?_
     have g':=lN (cs:=cs) (cells:=own ++ cells) (cl:=cl0) (L:=L') (lim:=sc.lim) g qa
     refine codeAny_mono (sT (W:={ W2 with hid:=(C.env.locals,oL) :: W1.hid }) (s:={ s with heap:=h₁,toks:=tk }) g' (IH _ _ _ _ _ g') hlen e3 ⟨⟨o,q3⟩,st.at fun o e=>old _ _ e,lW.ad _ _ ad⟩) fun rr s' hr=>?_
     induction rr using Except.casesOn with
     | error _=>exact hr.elim
     | ok f =>
      obtain ⟨h',tk',loc'',W'',vs',n,rfl,q4,l4,r4⟩:=hr
      exact kY (H:=[(itr,o)]) g qa hL q4 ((⟨lW.fz,rfl,lW.ad⟩:({ W1 with hid:=(C.env.locals,oL) :: W1.hid }:Wd).le { W2 with hid:=(C.env.locals,oL) :: W1.hid }).trans l4) r4 ⟨h',tk',rfl⟩ (hQ.le l1)
end
end Mine
end
section
namespace Mine
open PySem PySem.W PySem.Spec PySem.Calls PyProof.Rows
section
variable {C C':Ctx} {sc sc':Sc} {loc loc' loc'':Loc} {μ μ' μ'' μ₁ μ₂ μ₃:Mem} {W W' W'' W₀ W₁:Wd} {s:Shared} {α β:Type} {k:Nat} {r:R} {h h':Heap}
theorem gn (nm:Nat→Str):∀ es:List CE,CE.aC nm es = es.map (CE.toE nm)
 | []=>by skip;rfl
 | e :: es=>by refine (?_:e.toE nm :: CE.aC nm es = _);rw [gn nm es];rfl
theorem qG (nm:Nat→Str) {e:CE} (h:qx e = true):foldedForSure 8 (e.toE nm) = true:=by
 cases e <;> first | rfl | (exact tf2 h;done)
theorem c6 (nm:Nat→Str) (dbg:∀ i,(nm i == ("__debug__":Str)) = false):∀ (n:Nat) (e:CE),aY n e = true→constantsAlone n (e.toE nm) = false
 | 0,e,h=>by
  cases e <;> first | (exact tf2 h;done) | rfl | exact dbg _
 | n + 1,e,h=>by
  induction e using CE.casesOn with
  | bin a op b p =>
   have h:(aY n a || aY n b) = true:=h
   refine (?_:(constantsAlone n (a.toE nm) && constantsAlone n (b.toE nm)) = false)
   rcases Bool.or_eq_true_iff.mp h with h | h
   ·rw [c6 nm dbg n a h,Bool.false_and]
   ·rw [c6 nm dbg n b h,Bool.and_false]
  | sub a b p =>
   have h:(aY n a || aY n b) = true:=h
   refine (?_:(constantsAlone n (a.toE nm) && constantsAlone n (b.toE nm)) = false)
   rcases Bool.or_eq_true_iff.mp h with h | h
   ·rw [c6 nm dbg n a h,Bool.false_and]
   ·rw [c6 nm dbg n b h,Bool.and_false]
  | una op a p =>
   have h:aY n a = true:=h
   exact c6 nm dbg n a h
  | name i p=>exact dbg i
  | _=>first | (exact tf2 h;done) | rfl
theorem ql (nm:Nat→Str) {e:CE} (h:aY 8 e = true):foldedForSure 8 (e.toE nm) = false:=by
 induction e using CE.casesOn with
 | una op a p =>
  have h:aY 7 a = true:=h
  cases a <;> first | (exact tf2 h;done) | rfl
 | _=>first | (exact tf2 h;done) | rfl
theorem tH (nm:Nat→Str) {f:CE→Bool} {g:PySem.Expr→Bool} (hf:∀ e,f e = true→g (e.toE nm) = true) {es:List CE} (h:es.all f = true):(CE.aC nm es).all g = true:=by
 rw [gn,List.all_map]
 exact List.all_eq_true.mpr fun e he=>hf e (List.all_eq_true.mp h e he)
theorem mu (nm:Nat→Str) {f:CE→Bool} {g:PySem.Expr→Bool} (hf:∀ e,f e = true→g (e.toE nm) = false) {es:List CE} (h:es.any f = true):(CE.aC nm es).all g = false:=by
 rw [gn,List.all_map]
 refine x12 (List.any_eq_true.mp h) fun e he h1=>?_
 exact List.all_eq_false.mpr ⟨e,he,by simp [hf e h1]⟩
noncomputable def bA (env:Env) (nm:Nat→Str) (line:Nat) (l:List (Nat × Pos)):List Str:=l.filterMap fun x=>if env.kindOf (nm x.1) == some .local && x.2.line == line then some (nm x.1) else none
theorem tU {names:List (Nat × NameKind)} {line i:Nat} {p:Pos} {r:List (Nat × Pos)}:dJ names line ((i,p) :: r) = (lk names i == some .local && p.line == line && dJ names line r):=rfl
theorem iF (g:Good C sc k) {line:Nat}:∀ {l:List (Nat × Pos)},dJ sc.names line l = true→bA C.env C.nm line l = l.map fun x=>C.nm x.1
 | [],_=>rfl
 | (i,p) :: r,h=>by
  obtain ⟨h12,h3⟩:=Bool.and_eq_true_iff.mp h
  obtain ⟨h1,h2⟩:=Bool.and_eq_true_iff.mp h12
  have hk:C.env.kindOf (C.nm i) = some .local:=by
   rcases g.names i .local (beq_iff_eq.mp h1) with h | ⟨h,_⟩
   ·exact h
   ·injection h
  delta bA
  rw [List.filterMap_cons,hk,h2]
  exact congrArg (C.nm i :: ·) (iF g h3)
theorem gY (g:Good C sc k) {line:Nat}:∀ {l:List (Nat × Pos)},(∀ x∈l,∃ kd,lk sc.names x.1 = some kd)→dJ sc.names line l = false→(bA C.env C.nm line l).length < l.length
 | [],_,h=>by exact tf1 h
 | (i,p) :: r,hl,h=>by
  obtain ⟨kd,hkd⟩:=hl (i,p) (.head _)
  have le:(bA C.env C.nm line r).length ≤ r.length:=List.length_filterMap_le ..
  have drop:(C.env.kindOf (C.nm i) == some .local && p.line == line) = false→(bA C.env C.nm line ((i,p) :: r)).length < ((i,p) :: r).length:=fun hf=>by
   delta bA
   rw [List.filterMap_cons,hf]
   exact Nat.lt_succ_of_le le
  rw [tU,hkd] at h
  by_cases hloc:kd = .local
  ·subst hloc
   cases hp:p.line == line with
   | false=>exact drop (by rw [hp,Bool.and_false])
   | true =>
    rw [hp] at h
    have h:dJ sc.names line r = false:=by simpa using h
    have:=gY g (fun x hx=>hl x (.tail _ hx)) h
    cases hk:(C.env.kindOf (C.nm i) == some .local && p.line == line) with
    | false=>exact drop hk
    | true =>
     unfold bA at this ⊢
     rw [List.filterMap_cons,hk]
     exact Nat.succ_lt_succ this
  ·refine drop ?_
   have:(C.env.kindOf (C.nm i) == some NameKind.local) = false:=by
    rcases g.names i kd hkd with h | ⟨_,h⟩
    ·rw [h];simpa using hloc
    ·rw [h];rfl
   rw [this,Bool.false_and]
theorem lR {nm:Nat→Str} (inj:∀ i j,nm i = nm j→i = j) {l:List (Nat × Pos)} (h:c7 l = true) (hl:l.length = 2∨l.length = 3):(l.map fun x=>nm x.1).eraseDups.length = l.length:=by
 have ne:∀ {i j:Nat},Nat.beq j i = false→(nm j == nm i) = false∧(nm i == nm j) = false:=fun {i j} hb=>by
  have hij:j ≠ i:=fun e=>by subst e;simp at hb
  exact ⟨by simpa using fun e=>hij (inj _ _ e),by simpa using fun e=>hij (inj _ _ e).symm⟩
 rcases hl with hl | hl
 ·obtain ⟨⟨i,_⟩,⟨j,_⟩,rfl⟩:=qJ hl
  have h1:Nat.beq j i = false:=by simpa [c7] using h
  simp [List.eraseDups,List.eraseDupsBy,List.eraseDupsBy.loop,(ne h1).1]
 ·obtain ⟨⟨i,_⟩,⟨j,_⟩,⟨m,_⟩,rfl⟩:=qK hl
  have h1:(Nat.beq j i = false∧Nat.beq m i = false)∧Nat.beq m j = false:=by simpa [c7] using h
  simp [List.eraseDups,List.eraseDupsBy,List.eraseDupsBy.loop,(ne h1.1.1).1,(ne h1.1.2).1,(ne h1.2).1]
theorem wB (g:Good C sc k):C.env.blockKind = .function:=by delta Env.blockKind;rw [g.kind];rfl
theorem nQ {env:Env} {nm:Nat→Str} {line:Nat} {l:List (Nat × Pos)} (f:PySem.Expr→Option Str) (hf:∀ id pos,f (.Name id pos) = if env.kindOf id == some .local && pos.line == line then some id else none) :
  (l.map fun x=>PySem.Expr.Name (nm x.1) x.2).filterMap f = bA env nm line l:=by
 skip
 rw [List.filterMap_map]
 exact congrArg (fun g=>List.filterMap g l) (funext fun x=>hf _ _)
theorem wM (nm:Nat→Str) (es:List CE) (f:PySem.Expr→Bool) (hf:∀ e:CE,f (e.toE nm) = false):(CE.aC nm es).any f = false:=by
 rw [gn,List.any_map]
 exact List.any_eq_false.mpr fun e _=>by simp [hf]
theorem qF (n m:Nat):Nat.beq n m = (n == m):=by
 by_cases h:n = m
 ·subst h;simp
 ·rw [b0 h];simp [h]
theorem jA (g:Good C sc k) {l:List (Nat × Pos)} {es:List CE} {kt ke:Nat} {pt pe:Pos} {b:Bool} (hsw:jr sc.names l (.tup es ke pe) = some b) (hl:∀ x∈l,∃ kd,lk sc.names x.1 = some kd) :
  swappedStores [(CT.tup l kt pt).toE C.nm] ((CE.tup es ke pe).toE C.nm) C.env = pure (if b then some (l.map fun x=>C.nm x.1) else none):=by
 rw [CT.o9]
 have e1:(CE.tup es ke pe).toE C.nm = .Tuple (CE.aC C.nm es) ke pe:=rfl
 rw [e1]
 delta swappedStores
 dsimp only
 rw [List.length_map,c0,wB g]
 have hline:(Option.map (fun x:PySem.Expr=>x.pos.line) (List.map (fun x:Nat × Pos=>PySem.Expr.Name (C.nm x.1) x.2) l).head?).getD 0 = (l.head?.map (·.2.line)).getD 0:=by cases l <;> rfl
 rw [wM C.nm es _ (fun e=>by cases e <;> rfl),hline,nQ _ (fun _ _=>rfl)]
 delta jr at hsw
 dsimp only at hsw
 cases hlen:(es.length == l.length) with
 | false =>
  rw [hlen,Bool.false_and,Bool.false_and,if_neg Bool.false_ne_true] at hsw
  refine so1m hsw ?_
  have:(es.length != l.length) = true:=by simpa [bne] using hlen
  simp only [this,Bool.or_true,Bool.true_or,if_true];rfl
 | true =>
  have hne:(es.length != l.length) = false:=by simpa [bne] using hlen
  cases h23:(Nat.beq l.length 2 || Nat.beq l.length 3) with
  | false =>
   rw [hlen,h23,Bool.and_false,Bool.false_and,if_neg Bool.false_ne_true] at hsw
   refine so1m hsw ?_
   have:(!(l.length == 2 || l.length == 3)) = true:=by
    have h1:(l.length == 2 || l.length == 3) = false:=by rw [← qF,← qF];exact h23
    rw [h1];rfl
   simp only [this,Bool.true_or,if_true];rfl
  | true =>
   have h1:(!(l.length == 2 || l.length == 3)) = false:=by
    have h1:(l.length == 2 || l.length == 3) = true:=by rw [← qF,← qF];exact h23
    rw [h1];rfl
   rw [hlen,h23,Bool.true_and,Bool.true_and] at hsw
   have c1:(!(l.length == 2 || l.length == 3) || es.length != l.length || ScopeKind.function != ScopeKind.function) = false:=by rw [h1,hne];rfl
   simp only [c1,Bool.false_eq_true,if_false]
   cases hall:dJ sc.names ((l.head?.map (·.2.line)).getD 0) l with
   | false =>
    rw [hall,if_neg Bool.false_ne_true] at hsw
    refine so1m hsw ?_
    have hlt:=gY g hl hall
    have:((bA C.env C.nm ((l.head?.map (·.2.line)).getD 0) l).length != l.length) = true:=by simp [bne];lia
    simp only [this,Bool.true_or,if_true];rfl
   | true =>
    rw [hall,if_pos rfl] at hsw
    have hln:=iF g hall
    cases hdis:c7 l with
    | false=>rw [hdis,if_neg Bool.false_ne_true] at hsw;exact no1 hsw
    | true =>
     rw [hdis,if_pos rfl] at hsw
     have h2:l.length = 2∨l.length = 3:=by
      rcases Bool.or_eq_true_iff.mp h23 with h | h
      ·exact .inl (Nat.eq_of_beq_eq_true h)
      ·exact .inr (Nat.eq_of_beq_eq_true h)
     have hd:=lR g.inj hdis h2
     have c2:((bA C.env C.nm ((l.head?.map (·.2.line)).getD 0) l).length != l.length || (bA C.env C.nm ((l.head?.map (·.2.line)).getD 0) l).eraseDups.length != (bA C.env C.nm ((l.head?.map (·.2.line)).getD 0) l).length) = false:=by
      rw [hln,hd,List.length_map];simp
     simp only [c2,Bool.false_eq_true,if_false]
     cases hcst:es.all qx with
     | true =>
      rw [hcst,if_pos rfl] at hsw
      refine so1m hsw ?_
      have:=tH C.nm (fun e=>qG C.nm) hcst
      simp only [this,if_true];rfl
     | false =>
      rw [hcst,if_neg Bool.false_ne_true] at hsw
      cases hnc:es.any (aY 8) with
      | false=>rw [hnc,if_neg Bool.false_ne_true] at hsw;exact no1 hsw
      | true =>
       rw [hnc,if_pos rfl] at hsw
       refine so1m hsw ?_
       have f1:=mu C.nm (g:=foldedForSure 8) (fun e=>ql C.nm) hnc
       have f2:=mu C.nm (g:=constantsAlone 8) (fun e=>c6 C.nm g.dbg 8 e) hnc
       simp only [f1,f2,Bool.false_eq_true,if_false,hln];rfl
end
end Mine
end
section
namespace Mine
open PySem PySem.W PySem.Spec PySem.Calls PyProof.Rows
section
variable {C C':Ctx} {sc sc':Sc} {loc loc' loc'':Loc} {μ μ' μ'' μ₁ μ₂ μ₃:Mem} {W W' W'' W₀ W₁:Wd} {s:Shared} {α β:Type} {k:Nat} {r:R} {h h':Heap}
theorem dE:∀ {l:List (Nat × Pos)} {ps:List PV} {loc:Loc} {μ:Mem} {x:Loc × Mem},storeAll sc l ps loc μ = some x→∀ y∈l,∃ kd,lk sc.names y.1 = some kd
 | [],_,_,_,_,_,_,h=>nomatch h
 | (i,p) :: r,[],_,_,_,e,_,_=>(bF (show (M.no:M Loc) _ = some (_,_) from e)).elim
 | (i,p) :: r,v :: t,loc,μ,x,e,y,hy=>by
  refine ag (show M.bnd (cS sc loc i v) _ μ = some (x.1,x.2) from e) fun loc₁ μ₁ e1 e2=>?_
  rcases List.mem_cons.mp hy with rfl | hy
  ·unfold cS at e1
   cases hk:lk sc.names i with
   | none=>rw [hk] at e1;exact no1 e1
   | some kd=>exact ⟨kd,rfl⟩
  ·exact dE (x:=(_,_)) e2 y hy
theorem kJ (t:CT) (nm:Nat→Str) (env:Env):(assignEach [t.toE nm] env).map (·.2) = [assign (t.toE nm) env]:=by cases t <;> rfl
theorem mM {nm:Nat→Str} {e:CE} (h:fF e = false) (t:Option PySem.Expr) (line:Nat) (env:Env):swapsWith (e.toE nm) t line env = pure false:=by
 cases e <;> first | rfl | (exact tf1 h;done)
theorem qU {nm:Nat→Str} {t:CT} {e:CE} (h:∀ l k p es k' p',t = .tup l k p→e = .tup es k' p'→False) (env:Env):swappedStores [t.toE nm] (e.toE nm) env = pure none:=by
 induction t using CT.casesOn with
 | name i p=>cases e <;> rfl
 | tup l k p=>cases e <;> first | rfl | exact (h _ _ _ _ _ _ rfl rfl).elim
theorem rz {e:CE} (h:fF e = true):∃ elt tg it fs cs p,e = .comp elt tg it fs cs p:=by
 cases e <;> first | exact ⟨_,_,_,_,_,_,rfl⟩ | (exact tf2 h;done)
theorem rT {t:CT} {e:CE} {p:PV} (h:∀ l k q es k' p',t = .tup l k q→e = .tup es k' p'→False):gy sc loc t e p = cB sc loc t p:=by
 induction t using CT.casesOn with
 | name i q=>rfl
 | tup l k q=>cases e <;> first | rfl | exact (h _ _ _ _ _ _ rfl rfl).elim
theorem Giv.next {t:Sem Unit} (h:Giv C sc loc W s t (fun _ _=>True) μ):Giv C sc loc W s (t >>= fun _=>(pure .next:Sem Flow)) (cb .next) μ :=
 Giv.bind h fun _ h' tk W' q _ _=>Giv.done (s:={ s with heap:=h',toks:=tk }) q rfl
theorem Giv.pure {t:α→Sem β} {a:α} {R:β→Wd→Prop} (h:Giv C sc loc W s (t a) R μ):Giv C sc loc W s ((pure a:Sem α) >>= t) R μ:=fun Q hQ=>wpAny_bind (wpAny_pure (h Q hQ))
theorem iy (env:Env) (v:Value) (names:List Str) (stores:List (Value→Sem Unit)):assignStores env v (some names) stores = (rule "assign.swapped-stores" >>= fun _=>unpackItems v names.length none >>= fun items=>assignInOrder (names.reverse.map fun n=>bindName env n) items.reverse >>= fun _=>(pure .next:Sem Flow)):=rfl
theorem iz (env:Env) (v:Value) (stores:List (Value→Sem Unit)):assignStores env v none stores = (assignAll v stores >>= fun _=>(pure .next:Sem Flow)):=rfl
theorem xY (g:Good C sc k) (I:OkR C sc r) {t:CT} {e:CE} {p:Pos} {f:Fl} (e1:dc C.cfg r sc loc (.asg t e p) μ = some ((f,loc'),μ')) (q:Rep C sc loc μ W s.heap):Giv C sc loc' W s (exec ((CS.asg t e p).toS C.nm) C.env) (cb f) μ':=by
 refine ag (show M.bnd (r.ev sc loc e) _ μ = _ from e1) fun v μ₁ e2 e3=>?_
 refine ag e3 fun loc₁ μ₂ e4 e5=>?_
 refine cW e5 fun e6=>?_
 cases e6
 skip
 refine Giv.skip ?_
 have one:∀ {x:Value},assignAll x ((assignEach [t.toE C.nm] C.env).map (·.2)) = assign (t.toE C.nm) C.env x:=fun {x}=>by refine rwG (kJ ..) ?_;rfl
 have plain:Giv C sc loc' W s (eval (e.toE C.nm) C.env >>= fun v=>swappedStores [t.toE C.nm] (e.toE C.nm) C.env >>= fun sw=>assignStores C.env v sw ((assignEach [t.toE C.nm] C.env).map (·.2))) (cb .next) μ₂:=by
  refine Giv.bind (I.ev e2 q) fun x h' tk W' q' l' hx=>?_
  have straight:swappedStores [t.toE C.nm] (e.toE C.nm) C.env = pure none→cB sc loc t v μ₁ = some (loc',μ₂)→Giv C sc loc' W' { s with heap:=h',toks:=tk } (swappedStores [t.toE C.nm] (e.toE C.nm) C.env >>= fun sw=>assignStores C.env x sw ((assignEach [t.toE C.nm] C.env).map (·.2))) (cb .next) μ₂:=fun hsw e4=>by
   refine rwG hsw ?_
   refine Giv.pure ?_
   rw [iz,one]
   exact Giv.next (ib (s:={ s with heap:=h',toks:=tk }) e4 g q' hx)
  by_cases ht:∃ l k q es k' p',t = .tup l k q∧e = .tup es k' p'
  ·obtain ⟨l,kt,pt,es,ke,pe,rfl,rfl⟩:=ht
   cases hsw:jr sc.names l (.tup es ke pe) with
   | none=>unfold gy at e4;simp only [hsw] at e4;exact no1 e4
   | some b =>
    induction b using Bool.casesOn with
    | false =>
     have e7:cB sc loc (.tup l kt pt) v μ₁ = some (loc',μ₂):=by unfold gy at e4;simp only [hsw] at e4;exact e4
     refine ag (show M.bnd (M.lift (dy l v)) _ μ₁ = _ from e7) fun ps μ₃ e8 e9=>?_
     exact straight (jA g hsw (dE e9)) e7
    | true =>
     have e7:M.bnd (M.lift (dy l v)) (fun vs=>storeAll sc l.reverse vs.reverse loc) μ₁ = some (loc',μ₂):=by unfold gy at e4;simp only [hsw] at e4;exact e4
     refine mA e7 fun ps e10 e9=>?_
     refine rwG (jA g hsw (fun y hy=>dE e9 y (List.mem_reverse.mpr hy))) ?_
     obtain ⟨hl,hi⟩:=nf (s:={ s with heap:=h',toks:=tk }) e10 g q' hx
     refine rwG (if_pos rfl) ?_
     refine Giv.pure ?_
     refine rwG (iy ..) ?_
     rw [List.length_map]
     refine fun Q hQ=>wpAny_bind (wpAny_rule ?_)
     refine Giv.bind (s:={ s with heap:=h',toks:=tk }) hi (fun items h2 tk2 W2 q2 l2 hit=>?_) Q hQ
     have e11:((l.map fun x=>C.nm x.1).reverse.map fun n=>bindName C.env n) = l.reverse.map fun x=>bindName C.env (C.nm x.1):=by (refine rwH List.map_reverse ?_;refine rwG List.map_map ?_);rfl
     refine rwG e11 ?_
     exact Giv.next (fy g (fun x=>bindName C.env (C.nm x.1)) (fun _ _ _ _ h=>h) (s:={ s with heap:=h2,toks:=tk2 }) e9 q2 hit.rev)
  ·have ht':∀ l k q es k' p',t = .tup l k q→e = .tup es k' p'→False:=fun l k q es k' p' a b=>ht ⟨l,k,q,es,k',p',a,b⟩
   exact straight (qU ht' _) (rT ht' ▸ e4)
 cases hc:fF e with
 | false =>
  have:swapsWithSole [t.toE C.nm] (e.toE C.nm) p.line C.env = pure false:=mM hc _ _ _
  refine rwG this ?_
  exact plain
 | true =>
  obtain ⟨elt,tg,it,fs,cs,pp,rfl⟩:=rz hc
  have hsw:∃ b,swapsWithSole [t.toE C.nm] ((CE.comp elt tg it fs cs pp).toE C.nm) p.line C.env = pure b:=by
   skip
   cases t <;> exact ⟨_,rfl⟩
  obtain ⟨b,hb⟩:=hsw
  refine rwG hb ?_
  induction b using Bool.casesOn with
  | false=>exact plain
  | true =>
   refine Giv.pure ?_
   show Giv _ _ _ _ _ (if true = true then _ else _) _ _
   refine rwG (if_pos rfl) ?_
   refine Giv.next ?_
   refine I.ec e2 q ?_
   intro x W' s' hx q'
   refine rwG one ?_
   have e7:cB sc loc t v μ₁ = some (loc',μ₂):=(congrFun (rT (e:=CE.comp elt tg it fs cs pp) (fun l k q es k' p' _ b=>tf1 (congrArg fF b))) μ₁).symm.trans e4
   exact ib e7 g q' hx
end
end Mine
end
section
namespace Mine
open PySem PySem.W PySem.Spec PySem.Calls PyProof.Rows
section
variable {C C':Ctx} {sc sc':Sc} {loc loc' loc'':Loc} {μ μ' μ'' μ₁ μ₂ μ₃:Mem} {W W' W'' W₀ W₁:Wd} {s:Shared} {α β:Type} {k:Nat} {r:R} {h h':Heap} {f:Fl}
theorem Giv.xS {vs ks:List Value} (q:Rep C sc loc μ W s.heap):Giv C sc loc W s (release vs ks) (fun _ _=>True) μ:=fun Q hQ=>wpAny_release (hQ () s.heap s.toks W q (Wd.le.refl _) trivial)
theorem vL {nm:Nat→Str} {a b:PySem.Expr} {e:CE} {tp:Pos} (line:Nat) (env:Env):swapsWithSole [.Subscript a b tp] (e.toE nm) line env = pure false:=by cases e <;> rfl
theorem wX (I:OkR C sc r) {o i e:CE} {tp p:Pos} (e1:dc C.cfg r sc loc (.asgS o i tp e p) μ = some ((f,loc'),μ')) (q:Rep C sc loc μ W s.heap):Giv C sc loc' W s (exec ((CS.asgS o i tp e p).toS C.nm) C.env) (cb f) μ':=by
 refine ag (show M.bnd (r.ev sc loc e) _ μ = _ from e1) fun v μ₁ e2 e3=>?_
 refine ag e3 fun ov μ₂ e4 e5=>?_
 refine ag e5 fun iv μ₃ e6 e7=>?_
 refine ag e7 fun u μ₄ e8 e9=>?_
 refine cW e9 fun e10=>?_
 (injection e10 with q1 q2;subst q1;subst q2)
 skip
 refine Giv.skip ?_
 refine rwG (vL ..) ?_
 refine Giv.pure ?_
 refine (?_:Giv _ _ _ _ _ (if false = true then _ else _) _ _)
 refine rwG (if_neg Bool.false_ne_true) ?_
 refine Giv.bind (I.ev e2 q) fun x h1 tk1 W1 q1 l1 hx=>?_
 skip
 refine Giv.pure ?_
 skip
 refine Giv.next ?_
 refine (?_:Giv _ _ _ _ _ (assign (.Subscript (o.toE C.nm) (i.toE C.nm) tp) C.env x) _ _)
 skip
 refine Giv.bind (Giv.hold (I.ev (s:={ s with heap:=h1,toks:=tk1 }) e4 q1)) fun y h2 tk2 W2 q2 l2 hy=>?_
 refine Giv.bind (Giv.hold (I.ev (s:={ s with heap:=h2,toks:=tk2 }) e6 q2)) fun z h3 tk3 W3 q3 l3 hz=>Giv.skip ?_
 refine Giv.bind (Giv.hold (oW (s:={ s with heap:=h3,toks:=tk3 }) e8 (hy.le l3) hz ((hx.le l2).le l3) q3)) fun _ h4 tk4 W4 q4 l4 _=>?_
 exact Giv.xS (s:={ s with heap:=h4,toks:=tk4 }) q4
theorem wu (g:Good C sc k) (I:OkR C sc r) {i:Nat} {np p:Pos} {op:Operator} {e:CE} (e1:dc C.cfg r sc loc (.augN i np op e p) μ = some ((f,loc'),μ')) (q:Rep C sc loc μ W s.heap):Giv C sc loc' W s (exec ((CS.augN i np op e p).toS C.nm) C.env) (cb f) μ':=by
 refine ag (show M.bnd (a8 C.cfg sc loc i) _ μ = _ from e1) fun old μ₁ e2 e3=>?_
 refine ag e3 fun v μ₂ e4 e5=>?_
 refine mA e5 fun x e8 e7=>?_
 refine ag e7 fun loc₁ μ₄ e9 e10=>?_
 refine cW e10 fun e11=>?_
 (injection e11 with q1 q2;subst q1;subst q2)
 skip
 refine Giv.skip ?_
 refine Giv.bind (iJ e2 g q) fun y h1 tk1 W1 q1 l1 hy=>?_
 refine Giv.bind (Giv.hold (I.ev (s:={ s with heap:=h1,toks:=tk1 }) e4 q1)) fun z h2 tk2 W2 q2 l2 hz=>Giv.skip ?_
 refine Giv.bind (Giv.kO (oT (s:={ s with heap:=h2,toks:=tk2 }) e8 (hy.le l2) hz q2)) fun w h3 tk3 W3 q3 l3 hw=>Giv.skip ?_
 exact Giv.next (pE (s:={ s with heap:=h3,toks:=tk3 }) e9 g q3 hw)
theorem m9 (nm:Nat→Str) (i:CE) (ov iv new:Value):augStore (i.toE nm) ov iv new = (holding [new,ov,iv] (setItem ov iv new) >>= fun _=>release [new,ov,iv] [] >>= fun _=>(pure .next:Sem Flow)):=by cases i <;> rfl
theorem wo (I:OkR C sc r) {o i e:CE} {tp p:Pos} {op:Operator} (e1:dc C.cfg r sc loc (.augS o i tp op e p) μ = some ((f,loc'),μ')) (q:Rep C sc loc μ W s.heap):Giv C sc loc' W s (exec ((CS.augS o i tp op e p).toS C.nm) C.env) (cb f) μ':=by
 refine ag (show M.bnd (r.ev sc loc o) _ μ = _ from e1) fun ov μ₁ e2 e3=>?_
 refine ag e3 fun iv μ₂ e4 e5=>?_
 refine ag e5 fun old μ₃ e6 e7=>?_
 refine ag e7 fun v μ₄ e8 e9=>?_
 refine mA e9 fun x e12 e11=>?_
 refine ag e11 fun u μ₆ e13 e14=>?_
 refine cW e14 fun e15=>?_
 (injection e15 with q1 q2;subst q1;subst q2)
 skip
 refine Giv.skip ?_
 refine Giv.bind (I.ev e2 q) fun a h1 tk1 W1 q1 l1 ha=>?_
 refine Giv.bind (Giv.hold (I.ev (s:={ s with heap:=h1,toks:=tk1 }) e4 q1)) fun b h2 tk2 W2 q2 l2 hb=>?_
 have inner:Giv C sc loc W2 { s with heap:=h2,toks:=tk2 } (holding [a,b] (do
   standAt tp
   let old ← getItem a b
   let v ← holding [old] (eval (e.toE C.nm) C.env)
   standAt p
   operate [old,v] (inplaceOp op old v))) (IsV x) μ₄:=by
  refine Giv.hold (Giv.skip ?_)
  refine Giv.bind (pJ (s:={ s with heap:=h2,toks:=tk2 }) e6 (ha.le l2) hb q2) fun c h3 tk3 W3 q3 l3 hc=>?_
  refine Giv.bind (Giv.hold (I.ev (s:={ s with heap:=h3,toks:=tk3 }) e8 q3)) fun d h4 tk4 W4 q4 l4 hd=>Giv.skip ?_
  exact Giv.kO (oT (s:={ s with heap:=h4,toks:=tk4 }) e12 (hc.le l4) hd q4)
 refine Giv.bind inner fun w h3 tk3 W3 q3 l3 hw=>Giv.skip ?_
 refine rwG (m9 ..) ?_
 refine Giv.bind (Giv.hold (oW (s:={ s with heap:=h3,toks:=tk3 }) e13 ((ha.le l2).le l3) (hb.le l3) hw q3)) fun _ h4 tk4 W4 q4 l4 _=>?_
 exact Giv.rel (Giv.done (s:={ s with heap:=h4,toks:=tk4 }) q4 rfl)
theorem yE (I:OkR C sc r) {t:CE} {b o:List CS} {p:Pos} (e1:dc C.cfg r sc loc (.iff t b o p) μ = some ((f,loc'),μ')) (q:Rep C sc loc μ W s.heap):Giv C sc loc' W s (exec ((CS.iff t b o p).toS C.nm) C.env) (cb f) μ':=by
 refine ag (show M.bnd (r.ts sc loc t) _ μ = _ from e1) fun c μ₁ e2 e3=>?_
 skip
 refine Giv.skip (Giv.bind (I.ts e2 q) fun b' h1 tk1 W1 q1 l1 hb=>?_)
 subst hb
 induction b' using Bool.casesOn with
 | true =>
  refine (?_:Giv _ _ _ _ _ (if true = true then _ else _) _ _)
  refine rwG (if_pos rfl) ?_
  exact cF I (s:={ s with heap:=h1,toks:=tk1 }) e3 q1
 | false =>
  refine (?_:Giv _ _ _ _ _ (if false = true then _ else _) _ _)
  refine rwG (if_neg Bool.false_ne_true) ?_
  exact cF I (s:={ s with heap:=h1,toks:=tk1 }) e3 q1
theorem yS (g:Good C sc k) (I:OkR C sc r) {t:CT} {it:CE} {b o:List CS} {p:Pos} (e1:dc C.cfg r sc loc (.for t it b o p) μ = some ((f,loc'),μ')) (q:Rep C sc loc μ W s.heap):Giv C sc loc' W s (exec ((CS.for t it b o p).toS C.nm) C.env) (cb f) μ':=by
 refine ag (show M.bnd (bH C.cfg r sc loc t it) _ μ = _ from e1) fun src μ₁ e2 e3=>?_
 skip
 intro Q hQ
 refine wpAny_For (pf g I e2 q ?_) (gA _ _ it)
 induction src using Src.casesOn with
 | items l =>
  intro itr wr St h1 tk1 W1 T a l1
  refine codeAny_mono (vU g I (s:={ s with heap:=h1,toks:=tk1 }) T e3 a) fun rr s' hr=>?_
  induction rr using Except.casesOn with
  | error _=>exact hr.elim
  | ok fl=>cases hr with | mk q' l' hf=>exact hQ fl _ _ _ q' (l1.trans l') hf
 | ref i n =>
  intro itr ax h1 tk1 W1 a l1
  refine codeAny_mono (tO g I (s:={ s with heap:=h1,toks:=tk1 }) e3 a) fun rr s' hr=>?_
  induction rr using Except.casesOn with
  | error _=>exact hr.elim
  | ok fl=>cases hr with | mk q' l' hf=>exact hQ fl _ _ _ q' (l1.trans l') hf
theorem te (I:OkR C sc r) {t:CE} {b o:List CS} {n:Nat} (e:M.bnd (ja r sc t b n loc) (bK r sc o) μ = some ((f,loc'),μ')) (q:Rep C sc loc μ W s.heap) :
  codeAny (model C.prog C.w) C.A (.whileLoop (t.toE C.nm) (CS.cq C.nm b) (CS.cq C.nm o) C.env) (jR C sc loc' μ' W f s) s:=by
 refine codeAny_whileLoop (uD (fun _ loc μ W h=>Rep C sc loc μ W h) (fun kk _ loc μ=>M.bnd (ja r sc t b kk loc) (bK r sc o) μ = some ((f,loc'),μ')) W s) (fun kk s' hh=>?_) n (.mk (i:=0) (h:=s.heap) (tk:=s.toks) e q (Wd.le.refl _))
 cases hh with | @mk i loc₁ μ₁ W₁ h₁ tk₁ e q hle =>
 refine wpAny_mono (E:=NoE) ?_ (fun _ _ x=>x) fun _ _ x=>x.elim
 induction kk using Nat.casesOn with
 | zero=>refine ag e fun x μ₃ e2 e3=>?_;exact no1 e2
 | succ kk =>
  refine ag e fun x μ₃ e2 e3=>?_
  refine ag (show M.bnd (r.ts sc loc₁ t) _ μ₁ = _ from e2) fun c μ₄ e4 e5=>?_
  refine I.ts (s:={ s with heap:=h₁,toks:=tk₁ }) e4 q _ fun c' h2 tk2 W2 q2 l2 hc=>?_
  subst hc
  induction c' using Bool.casesOn with
  | true =>
   refine (?_:if true = true then _ else _)
   refine rwG (if_pos rfl) ?_
   refine ag e5 fun y μ₅ e6 e7=>?_
   obtain ⟨f1,aT⟩:=y
   have hf:=kq (i:=i) (kk:=kk + 1) (Run:=fun kk _ loc μ=>M.bnd (ja r sc t b kk loc) (bK r sc o) μ = some ((f,loc'),μ')) (m:=fun loc=>ja r sc t b kk loc) ⟨kk,Nat.lt_succ_self _,fun h=>h⟩ e7 e3
   refine wpAny_mono (E:=NoE) (cF I (s:={ s with heap:=h2,toks:=tk2 }) e6 q2 _ fun fl h3 tk3 W3 q3 l3 hfl=>?_) (fun _ _ x=>x) fun _ _ x=>x.elim
   have l5:=(hle.trans l2).trans l3
   induction f1 using Fl.casesOn with
   | next=>obtain rfl:fl = .next:=hfl;exact hf.imp fun _ h=>⟨h.1,.mk (i:=i + 1) h.2 q3 l5⟩
   | cont=>obtain rfl:fl = .cont:=hfl;exact hf.imp fun _ h=>⟨h.1,.mk (i:=i + 1) h.2 q3 l5⟩
   | brk=>obtain rfl:fl = .brk:=hfl;obtain ⟨rfl,rfl,rfl⟩:=hf;exact .mk q3 l5 rfl
   | ret p=>obtain ⟨v,rfl,hv⟩:=hfl;obtain ⟨rfl,rfl,rfl⟩:=hf;exact .mk q3 l5 ⟨v,rfl,hv⟩
  | false =>
   refine (?_:if false = true then _ else _)
   refine rwG (if_neg Bool.false_ne_true) ?_
   obtain ⟨rfl,rfl⟩:=ai e5
   exact wpAny_mono (E:=NoE) (cF I (s:={ s with heap:=h2,toks:=tk2 }) (show ay r sc o loc₁ _ = _ from e3) q2 _ fun fl h3 tk3 W3 q3 l3 hf=>.mk q3 ((hle.trans l2).trans l3) hf) (fun _ _ x=>x) fun _ _ x=>x.elim
theorem yH (I:OkR C sc r) {t:CE} {b o:List CS} {p:Pos} (e1:dc C.cfg r sc loc (.whl t b o p) μ = some ((f,loc'),μ')) (q:Rep C sc loc μ W s.heap):Giv C sc loc' W s (exec ((CS.whl t b o p).toS C.nm) C.env) (cb f) μ':=by
 intro Q hQ
 refine wpAny_While (codeAny_mono (te I (n:=64) (show M.bnd (ja r sc t b 64 loc) (bK r sc o) μ = _ from e1) q) fun rr s' hr=>?_)
 induction rr using Except.casesOn with
 | error _=>exact hr.elim
 | ok fl=>cases hr with | mk q' l' hf=>exact hQ fl _ _ _ q' l' hf
theorem qk {e:PySem.Expr} {p:Pos} {v:PV} {x:Value} (h:jQ v = true) (hx:IsV v x W):dropValue e p x = pure .next:=by
 induction v using PV.casesOn with
 | none=>obtain rfl:=RV.n' hx;cases e <;> rfl
 | bool _=>obtain rfl:=RV.b' hx;cases e <;> rfl
 | int _=>obtain ⟨_,rfl⟩:=RV.i' hx;cases e <;> rfl
 | flt _=>obtain ⟨_,rfl⟩:=RV.f' hx;cases e <;> rfl
 | str _=>obtain ⟨_,rfl⟩:=RV.x' hx;cases e <;> rfl
 | _=>exact tf2 h
theorem vE (g:Good C sc k) (I:OkR C sc r) {e:CE} {p:Pos} (e1:dc C.cfg r sc loc (.expr e p) μ = some ((f,loc'),μ')) (q:Rep C sc loc μ W s.heap):Giv C sc loc' W s (exec ((CS.expr e p).toS C.nm) C.env) (cb f) μ':=by
 rcases M.i5 (show (if fF e = true then M.no else M.bnd (r.ev sc loc e) fun v=>if jQ v = true then M.ret (Fl.next,loc) else M.no) μ = some ((f,loc'),μ') from e1) with ⟨_,e2⟩ | ⟨hc,e2⟩
 ·exact no1 e2
 ·refine ag e2 fun v μ₁ e3 e4=>?_
  rcases M.i5 e4 with ⟨hv,e5⟩ | ⟨_,e5⟩
  ·refine cW e5 fun e6=>?_
   (injection e6 with q1 q2;subst q1;subst q2)
   skip
   refine Giv.skip ?_
   have hi:interactive C.env = false:=by unfold interactive;refine rwG g.kind ?_;rfl
   rw [hi,if_neg Bool.false_ne_true,mM hc]
   refine Giv.pure ?_
   refine (?_:Giv _ _ _ _ _ (if false = true then _ else _) _ _)
   refine rwG (if_neg Bool.false_ne_true) ?_
   refine Giv.bind (I.ev e3 q) fun x h1 tk1 W1 q1 l1 hx=>?_
   refine rwG (qk hv hx) ?_
   exact Giv.done (s:={ s with heap:=h1,toks:=tk1 }) q1 rfl
  ·exact no1 e5
theorem yN (I:OkR C sc r) {e:CE} {p:Pos} (e1:dc C.cfg r sc loc (.ret e p) μ = some ((f,loc'),μ')) (q:Rep C sc loc μ W s.heap):Giv C sc loc' W s (exec ((CS.ret e p).toS C.nm) C.env) (cb f) μ':=by
 refine ag (show M.bnd (r.ev sc loc e) _ μ = _ from e1) fun v μ₁ e2 e3=>?_
 refine cW e3 fun e4=>?_
 (injection e4 with q1 q2;subst q1;subst q2)
 have:(CS.ret e p).toS C.nm = .Return (some (e.toE C.nm)) p:=rfl
 skip
 refine Giv.skip ?_
 refine (?_:Giv _ _ _ _ _ (eval (e.toE C.nm) C.env >>= fun x=>(pure (.ret x):Sem Flow)) _ _)
 exact Giv.bind (I.ev e2 q) fun x h1 tk1 W1 q1 l1 hx=>Giv.done (s:={ s with heap:=h1,toks:=tk1 }) q1 ⟨x,rfl,hx⟩
theorem uc (g:Good C sc k) (I:OkR C sc r) {t:CS} (e1:dc C.cfg r sc loc t μ = some ((f,loc'),μ')) (q:Rep C sc loc μ W s.heap):Giv C sc loc' W s (exec (t.toS C.nm) C.env) (cb f) μ':=by
 induction t using CS.casesOn with
 | expr e p=>exact vE g I e1 q
 | brk p =>
  refine cW e1 fun e2=>?_
  (injection e2 with q1 q2;subst q1;subst q2)
  have:(CS.brk p).toS C.nm = .Break p:=rfl
  skip
  exact Giv.skip (Giv.done q rfl)
 | cont p =>
  refine cW e1 fun e2=>?_
  (injection e2 with q1 q2;subst q1;subst q2)
  have:(CS.cont p).toS C.nm = .Continue p:=rfl
  skip
  exact Giv.skip (Giv.done q rfl)
 | ret e p=>exact yN I e1 q
 | asg t e p=>exact xY g I e1 q
 | asgS o i tp e p=>exact wX I e1 q
 | augN i np op e p=>exact wu g I e1 q
 | augS o i sp op e p=>exact wo I e1 q
 | iff t b o p=>exact yE I e1 q
 | whl t b o p=>exact yH I e1 q
 | «for» t it b o p=>exact yS g I e1 q
 | other s=>exact (bF (show (M.no:M (Fl × Loc)) μ = some ((f,loc'),μ') from e1)).elim
end
end Mine
end
section
namespace Mine
open PySem PySem.W PySem.Spec PySem.Calls PyProof.Rows
section
variable {C C':Ctx} {sc sc':Sc} {loc loc' loc'':Loc} {μ μ' μ'' μ₁ μ₂ μ₃:Mem} {W W' W'' W₀ W₁:Wd} {s:Shared} {α β:Type} {k:Nat} {r:R} {h h':Heap} {f:Fl} {p:PV}
theorem jk (I:OkR C sc r) {e:CE} {b:Bool} (hT:isTrue (e.toE C.nm) C.env (eval (e.toE C.nm) C.env) = (eval (e.toE C.nm) C.env >>= fun v=>standAt (e.toE C.nm).pos >>= fun _=>holding [v] (truthy v))) (e1:M.bnd (r.ev sc loc e) ju μ = some (b,μ')) (q:Rep C sc loc μ W s.heap):Giv C sc loc W s (isTrue (e.toE C.nm) C.env (eval (e.toE C.nm) C.env)) (fun c _=>c = b) μ':=by
 refine ag e1 fun v μ₁ e2 e3=>?_
 refine rwG hT ?_
 refine Giv.bind (I.ev e2 q) fun x h1 tk1 W1 q1 l1 hx=>Giv.skip (Giv.hold ?_)
 exact sa (s:={ s with heap:=h1,toks:=tk1 }) e3 hx q1
theorem tC (g:Good C sc k) (I:OkR C sc r) {e:CE} {b:Bool} (e1:stepT r sc loc e μ = some (b,μ')) (q:Rep C sc loc μ W s.heap):Giv C sc loc W s (isTrue (e.toE C.nm) C.env (eval (e.toE C.nm) C.env)) (fun c _=>c = b) μ':=by
 induction e using CE.casesOn with
 | una op x pos =>
  induction op using UnaryOp.casesOn with
  | Not =>
   refine ag (show M.bnd (r.ts sc loc x) _ μ = _ from e1) fun c μ₁ e2 e3=>?_
   obtain ⟨rfl,rfl⟩:=ai e3
   exact Giv.bind (I.ts e2 q) fun c' h1 tk1 W1 q1 l1 hc=>Giv.done (s:={ s with heap:=h1,toks:=tk1 }) q1 (by (refine rwG hc rfl))
  | _=>exact jk I rfl e1 q
 | bool op es pos=>exact pI I e1 q
 | cmp a ops rs pos =>
  refine ag (show M.bnd (r.ev sc loc a) _ μ = _ from e1) fun x μ₁ e2 e3=>?_
  refine Giv.bind (I.ev e2 q) fun v h1 tk1 W1 q1 l1 hv=>?_
  (refine rwG (dm ..) ?_;refine rwG (dW ..) ?_)
  exact (fm g I (s:={ s with heap:=h1,toks:=tk1 }) e3 hv q1).2
 | ife a b c pos=>exact no1 e1
 | _=>exact jk I rfl e1 q
theorem xa (g:Good C sc k) (I:OkR C sc r) (IH:∀ A' env' h W sc',Good (C.inn A' env' h W) sc' k→OkR (C.inn A' env' h W) sc' r) {elt:CE} {tg:CT} {it:CE} {fs:List CE} {cs:CSc} {pos:Pos} (e:iu C.cfg r sc loc (.comp elt tg it fs cs pos) μ = some (p,μ')) (q:Rep C sc loc μ W s.heap) :
  Giv C sc loc W s (eval ((CE.comp elt tg it fs cs pos).toE C.nm) C.env) (IsV p) μ':=by
 skip
 exact fun Q hQ=>lB (use:=none) g I IH e q fun v h' tk W' q' l' hv=>hQ v h' tk W' q' l' hv
theorem uU (g:Good C sc k) (I:OkR C sc r) (IH:∀ A' env' h W sc',Good (C.inn A' env' h W) sc' k→OkR (C.inn A' env' h W) sc' r) {elt:CE} {tg:CT} {it:CE} {fs:List CE} {cs:CSc} {pos:Pos} {u:Value→Sem Unit} (e:iu C.cfg r sc loc (.comp elt tg it fs cs pos) μ = some (p,μ')) (q:Rep C sc loc μ W s.heap)
  (hu:∀ v W' (s':Shared),IsV p v W'→Rep C sc loc μ' W' s'.heap→Giv C sc loc' W' s' (u v) (fun _ _=>True) μ''):Giv C sc loc' W s (evalThenUse ((CE.comp elt tg it fs cs pos).toE C.nm) C.env u) (fun _ _=>True) μ'':=by
 skip
 intro Q hQ
 have:∀ (e:PySem.Expr) (gens:List Comprehension) (scope:Scope) (pos:Pos),evalThenUse (.ListComp e gens scope pos) C.env u = (comprehension (.ListComp e gens scope pos) scope C.env (firstIterPos gens pos) (newList []) (firstAsync gens) (firstIter gens C.env) (some u) >>= fun _=>(pure ():Sem Unit)):=fun _ _ _ _=>rfl
 skip
 exact wpAny_bind (lB (use:=some u) g I IH e q ⟨loc',μ'',hu,fun h' tk W' q' l'=>wpAny_pure (hQ () h' tk W' q' l' trivial)⟩)
theorem vJ (g:Good C sc k) (I:OkR C sc r) {o:CE} {n:MT} {pos:Pos} (e:iu C.cfg r sc loc (.attr o n pos) μ = some (p,μ')) (q:Rep C sc loc μ W s.heap):Giv C sc loc W s (eval ((CE.attr o n pos).toE C.nm) C.env) (IsV p) μ':=by
 have e0:(match isName o with
  | true=>M.bnd (r.ev sc loc o) fun ov=>(match ov with
   | .ref i=>M.bnd (M.get i) fun x=>(match x with
    | .lex _ line _=>if n == MT.lineno then M.ret (PV.int line) else M.no
    | _=>M.no)
   | _=>M.no)
  | false=>M.no) μ = some (p,μ'):=e
 cases hn:isName o with
 | false=>rw [hn] at e0;exact no1 e0
 | true =>
  rw [hn] at e0
  refine ag e0 fun ov μ₁ e1 e2=>?_
  induction ov using PV.casesOn with
  | ref i =>
   refine cw e2 fun x e5 e4=>?_
   induction x using MO.casesOn with
   | lex cs line ps =>
    rcases M.i5 e4 with ⟨hl,e6⟩ | ⟨_,e6⟩
    ·obtain ⟨rfl,rfl⟩:=ai e6
     induction o using CE.casesOn with
     | name j pj =>
      have hE:(CE.attr (.name j pj) n pos).toE C.nm = .Attribute (.Name (C.nm j) pj) n.str pos:=rfl
      skip
      have hb:attributeBase (.Name (C.nm j) pj) n.str C.env (eval (.Name (C.nm j) pj) C.env) = eval (.Name (C.nm j) pj) C.env:=eH C.nm C.env n.str _ (o:=.name j pj) rfl
      skip
      have I1:Giv C sc loc W s (eval (.Name (C.nm j) pj) C.env) (IsV (.ref i)) μ₁:=I.ev (e:=.name j pj) e1 q
      refine Giv.bind I1 fun x h1 tk1 W1 q1 l1 hx=>Giv.skip ?_
      obtain ⟨a,rfl,ea⟩:=RV.r' hx
      obtain ⟨l,c,hi,hl2,rfl,hall,hnd,_,hc⟩:=q1.lex e5 ea
      have G:Giv C sc loc W1 { s with heap:=h1,toks:=tk1 } (getAttr (.ref (adr l)) n.str true) (IsV (.int line)) μ₁:=fun Q hQ =>
       g.base.lexc.line (s:={ s with heap:=h1,toks:=tk1 }) (by obtain rfl:=beq_iff_eq.mp hl;exact beq_self_eq_true _) g.hnd (fun b o e=>q1.keep b o (g.hb b o e)) hl2 hc hall fun t tk2=>hQ _ h1 tk2 W1 q1 (Wd.le.refl _) (RV.i _ _)
      refine Giv.bind (Giv.hold G) fun y h2 tk2 W2 q2 l2 hy=>?_
      exact Giv.done (s:={ s with heap:=h2,toks:=tk2 }) q2 hy
     | _=>exact tf2 hn
    ·exact no1 e6
   | _=>exact no1 e4
  | _=>exact no1 e2
theorem wQ {x y p:PV} {u v:Value} (e:vf x y μ = some (p,μ')) (hx:IsV x u W) (hy:IsV y v W) (q:Rep C sc loc μ W s.heap):Giv C sc loc W s (binaryOp .Add u v) (IsV p) μ':=by
 induction x using PV.casesOn with
 | lst la =>
  induction y using PV.casesOn with
  | lst lb =>
   rcases M.mr (show (if la.length + lb.length ≤ ah then M.bnd (M.new (.lst (la ++ lb))) fun i=>M.ret (PV.ref i) else M.no) μ = some (p,μ') from e) with ⟨hs,e2⟩ | ⟨_,e2⟩
   ·refine ag e2 fun i μ₂ e5 e6=>?_
    obtain ⟨rfl,rfl⟩:=ai e6
    obtain ⟨rfl,rfl⟩:=f9 e5
    obtain ⟨aa,va,na,rfl,ma,ra⟩:=RV.l' hx
    obtain ⟨ab,vb,nb,rfl,mb,rb⟩:=RV.l' hy
    intro Q hQ
    refine x12 q.fr fun m F N=>?_
    refine add_lists F N ⟨_,q.fzs _ ma,rfl,na,rfl⟩ ⟨_,q.fzs _ mb,rfl,nb,rfl⟩ (fun h' F' N'=>?_) (by (refine rwG ra.len ?_;refine rwG rb.len ?_);exact Nat.le_trans hs bB)
    have ha:s.heap.get? s.heap.objs.size = none:=bf _
    have ho:=(N' _ (.head _)).1
    have r':=q.l9 F.ns F'.ns fun b o hb e=>(N' _ (.tail _ (eN hb e))).1
    have q1:=r'.hJ ho (q.gU ha) (by
     cases e:C.h₀.get? s.heap.objs.size with
     | none=>rfl
     | some o=>have:=q.keep _ _ e;rw [ha] at this;exact no1 this) fun p hp e=>by
      have:=q.fzs p hp
      rw [e,ha] at this;exact no1 this
    have hm:RM C.LX W.fz (ads W.led ++ [s.heap.objs.size]) (.lst (la ++ lb)) [(s.heap.objs.size,{ cls:=.type "list",data:=.seq (va ++ vb).toArray })]:=⟨_,_,va ++ vb,rfl,⟨_,rfl⟩,RVs.mono (fun _ h=>h) (Pre.app _ _) (ra.app rb)⟩
    refine hQ _ h' s.toks _ (q1.iK hm) (Wd.le.mut W _) ⟨_,rfl, ?_⟩
    have hlen:(ads W.led).length = μ.length:=by delta ads;rw [List.length_map,q.mem.len]
    refine (?_:(ads (W.led ++ [[(s.heap.objs.size,_)]]))[μ.length]? = _)
    have e1:∀ ob:Obj,ads (W.led ++ [[(s.heap.objs.size,ob)]]) = ads W.led ++ [s.heap.objs.size]:=fun ob=>by simp [ads,adr]
    (refine rwG (e1 _) ?_;refine rwH hlen ?_)
    simp
   ·exact no1 e2
  | _=>exact no1 e
 | _=>exact no1 e
set_option tactic.hygienic true in
theorem uy (g:Good C sc k) (I:OkR C sc r) (IH:∀ A' env' h W sc',Good (C.inn A' env' h W) sc' k→OkR (C.inn A' env' h W) sc' r) {e:CE} (e1:iu C.cfg r sc loc e μ = some (p,μ')) (q:Rep C sc loc μ W s.heap):Giv C sc loc W s (eval (e.toE C.nm) C.env) (IsV p) μ':=by
 induction e using CE.casesOn with
 | cst c kk pos =>
  refine cj (show M.lift (ji c) μ = _ from e1) fun e2=>?_
  exact yL e2 q
 | name i pos=>exact ik e1 g q
 | bool op es pos =>
  refine Giv.of_eq (arm_eval_BoolOp ..) ?_
  refine rwG (dm ..) ?_
  exact nV I e1 q
 | bin a op b pos =>
  refine ag (show M.bnd (r.ev sc loc a) _ μ = _ from e1) fun x μ₁ e2 e3=>?_
  refine ag e3 fun y μ₂ e4 e5=>?_
  refine cj e5 fun e6=>?_
  refine Giv.of_eq (arm_eval_BinOp ..) ?_
  exact Giv.bind (I.ev e2 q) fun u h1 tk1 W1 q1 l1 hu=>Giv.bind (Giv.hold (I.ev (s:={ s with heap:=h1,toks:=tk1 }) e4 q1)) fun v h2 tk2 W2 q2 l2 hv=>Giv.skip (Giv.kO (w9 (s:={ s with heap:=h2,toks:=tk2 }) e6 (hu.le l2) hv q2 g.tq))
 | iW a b pos =>
  refine ag (show M.bnd (r.ev sc loc a) _ μ = _ from e1) fun x μ₁ e2 e3=>?_
  refine ag e3 fun y μ₂ e4 e5=>?_
  refine Giv.of_eq (arm_eval_BinOp ..) ?_
  exact Giv.bind (I.ev e2 q) fun u h1 tk1 W1 q1 l1 hu=>Giv.bind (Giv.hold (I.ev (s:={ s with heap:=h1,toks:=tk1 }) e4 q1)) fun v h2 tk2 W2 q2 l2 hv=>Giv.skip (Giv.kO (wQ (s:={ s with heap:=h2,toks:=tk2 }) e5 (hu.le l2) hv q2))
 | una op a pos =>
  refine ag (show M.bnd (r.ev sc loc a) _ μ = _ from e1) fun x μ₁ e2 e3=>?_
  refine cj e3 fun e6=>?_
  refine Giv.of_eq (arm_eval_UnaryOp ..) ?_
  exact Giv.bind (I.ev e2 q) fun u h1 tk1 W1 q1 l1 hu=>Giv.skip (Giv.hold (vP (s:={ s with heap:=h1,toks:=tk1 }) e6 hu q1))
 | ife t b o pos =>
  refine ag (show M.bnd (r.ts sc loc t) _ μ = _ from e1) fun c μ₁ e2 e3=>?_
  refine Giv.of_eq (arm_eval_IfExp ..) ?_
  refine Giv.bind (I.ts e2 q) fun c' h1 tk1 W1 q1 l1 hc=>?_
  subst hc
  induction c' using Bool.casesOn with
  | true =>
   show Giv _ _ _ _ _ (if true = true then _ else _) _ _
   refine rwG (if_pos rfl) ?_
   exact I.ev (s:={ s with heap:=h1,toks:=tk1 }) e3 q1
  | false =>
   show Giv _ _ _ _ _ (if false = true then _ else _) _ _
   refine rwG (if_neg Bool.false_ne_true) ?_
   exact I.ev (s:={ s with heap:=h1,toks:=tk1 }) e3 q1
 | cmp a ops rs pos =>
  refine ag (show M.bnd (r.ev sc loc a) _ μ = _ from e1) fun x μ₁ e2 e3=>?_
  refine ag e3 fun b μ₂ e4 e5=>?_
  obtain ⟨rfl,rfl⟩:=ai e5
  refine Giv.of_eq (arm_eval_Compare ..) ?_
  refine Giv.bind (I.ev e2 q) fun v h1 tk1 W1 q1 l1 hv=>?_
  (refine rwG (dm ..) ?_;refine rwG (dW ..) ?_)
  exact (fm g I (s:={ s with heap:=h1,toks:=tk1 }) e4 hv q1).1
 | call f fp args pos =>
  refine ag (show M.bnd (a8 C.cfg sc loc f) _ μ = _ from e1) fun fv μ₁ e2 e3=>?_
  refine ag e3 fun vs μ₂ e4 e5=>?_
  skip
  refine Giv.bind (ik e2 g q) fun v h1 tk1 W1 q1 l1 hv=>?_
  refine rwG (bq ..) ?_
  exact tV g I (s:={ s with heap:=h1,toks:=tk1 }) e4 e5 hv q1
 | callS f fp arg sp pos =>
  refine ag (show M.bnd (a8 C.cfg sc loc f) _ μ = _ from e1) fun fv μ₁ e2 e3=>?_
  refine ag e3 fun v μ₂ e4 e5=>?_
  refine Giv.of_eq (arm_eval_Call_Name' ..) ?_
  refine Giv.bind (ik e2 g q) fun x h1 tk1 W1 q1 l1 hx=>?_
  split at e5
  ·rename_i a l
   rcases M.mr e5 with ⟨hl,e6⟩ | ⟨_,e6⟩
   ·exact tm g I (s:={ s with heap:=h1,toks:=tk1 }) e4 hl e6 hx q1
   ·exact no1 e6
  ·exact no1 e5
 | meth o n ap args pos =>
  cases hm:cc o ap pos args with
  | false =>
   have e2:(M.no:M PV) μ = some (p,μ'):=by
    have e3:(match cc o ap pos args with | true=>M.bnd (r.ev sc loc o) fun ov=>M.bnd (d9 ov) fun mk=>M.bnd (evL r sc loc args) fun vs=>fk sc mk ov n vs | false=>M.no) μ = some (p,μ'):=e1
    rw [hm] at e3;exact e3
   exact no1 e2
  | true =>
   have e2:(M.bnd (r.ev sc loc o) fun ov=>M.bnd (d9 ov) fun mk=>M.bnd (evL r sc loc args) fun vs=>fk sc mk ov n vs) μ = some (p,μ'):=by
    have e3:(match cc o ap pos args with | true=>M.bnd (r.ev sc loc o) fun ov=>M.bnd (d9 ov) fun mk=>M.bnd (evL r sc loc args) fun vs=>fk sc mk ov n vs | false=>M.no) μ = some (p,μ'):=e1
    rw [hm] at e3;exact e3
   refine ag e2 fun ov μ₁ e3 e4=>?_
   refine ag e4 fun mk μ₂ e5 e6=>?_
   refine ag e6 fun vs μ₃ e7 e8=>?_
   exact wA g I hm e3 e5 e7 e8 q
 | attr o n pos=>exact vJ g I e1 q
 | sub v s' pos =>
  refine ag (show M.bnd (r.ev sc loc v) _ μ = _ from e1) fun x μ₁ e2 e3=>?_
  refine ag e3 fun y μ₂ e4 e5=>?_
  exact y6 I e2 e4 e5 q
 | slc v lo hi st sp pos =>
  refine ag (show M.bnd (r.ev sc loc v) _ μ = _ from e1) fun x μ₁ e2 e3=>?_
  refine ag e3 fun a μ₂ e4 e5=>?_
  refine ag e5 fun b μ₃ e6 e7=>?_
  refine ag e7 fun c μ₄ e8 e9=>?_
  refine cj e9 fun e10=>?_
  exact xt g I e2 e4 e6 e8 e10 q
 | list m es pos =>
  have e2:(match Nat.ble es.length 20 with
   | true=>M.bnd (evL r sc loc es) fun vs=>(match m with
    | true=>M.bnd (M.new (.lst vs)) fun i=>M.ret (PV.ref i)
    | false=>M.ret (PV.lst vs))
   | false=>M.no) μ = some (p,μ'):=e1
  cases hb:Nat.ble es.length 20 with
  | false=>rw [hb] at e2;exact no1 e2
  | true =>
   rw [hb] at e2
   refine ag e2 fun vs μ₁ e3 e4=>?_
   have hl:vs.length ≤ 20:=by refine rwG (kA e3) ?_;exact Nat.le_of_ble_eq_true hb
   refine Giv.of_eq (arm_eval_List ..) ?_
   refine rwG (bq ..) ?_
   refine Giv.skip (Giv.bind (jJ I e3 q) fun xs h1 tk1 W1 q1 l1 hx=>?_)
   induction m using Bool.casesOn with
   | true =>
    refine ag e4 fun i μ₂ e5 e6=>?_
    obtain ⟨rfl,rfl⟩:=ai e6
    obtain ⟨rfl,rfl⟩:=f9 e5
    exact (jx g (s:={ s with heap:=h1,toks:=tk1 }) hx hl q1).2
   | false =>
    obtain ⟨rfl,rfl⟩:=ai e4
    exact (jx g (s:={ s with heap:=h1,toks:=tk1 }) hx hl q1).1
 | tup es kk pos =>
  have e2:(match Nat.ble es.length 20 with
   | true=>M.bnd (evL r sc loc es) fun vs=>M.ret (PV.tup vs)
   | false=>M.no) μ = some (p,μ'):=e1
  cases hb:Nat.ble es.length 20 with
  | false=>rw [hb] at e2;exact no1 e2
  | true =>
   rw [hb] at e2
   refine ag e2 fun vs μ₁ e3 e4=>?_
   have hl:vs.length ≤ 20:=by refine rwG (kA e3) ?_;exact Nat.le_of_ble_eq_true hb
   obtain ⟨rfl,rfl⟩:=ai e4
   refine Giv.of_eq (arm_eval_Tuple ..) ?_
   refine rwG (bq ..) ?_
   exact Giv.skip (Giv.bind (jJ I e3 q) fun xs h1 tk1 W1 q1 l1 hx=>oC g (s:={ s with heap:=h1,toks:=tk1 }) hx hl q1)
 | dict m ks vs pos =>
  have e2:(match !ks.isEmpty && Nat.ble ks.length 15 with
   | true=>M.bnd (evD r sc loc ks vs) fun l=>(match m with
    | true=>M.bnd (M.new (.dic (putAll l []))) fun i=>M.ret (PV.ref i)
    | false=>M.ret (PV.dic (putAll l [])))
   | false=>M.no) μ = some (p,μ'):=e1
  cases hb:(!ks.isEmpty && Nat.ble ks.length 15) with
  | false=>rw [hb] at e2;exact no1 e2
  | true =>
   rw [hb] at e2
   refine ag e2 fun l μ₁ e3 e4=>?_
   have D:=wq g I (pos:=pos) hb e3 q
   induction m using Bool.casesOn with
   | true =>
    refine ag e4 fun i μ₂ e5 e6=>?_
    obtain ⟨rfl,rfl⟩:=ai e6
    obtain ⟨rfl,rfl⟩:=f9 e5
    exact D.2
   | false =>
    obtain ⟨rfl,rfl⟩:=ai e4
    exact D.1
 | comp elt tg it fs cs pos=>exact xa g I IH e1 q
end
end Mine
end
section
namespace Mine
open PySem PySem.W PySem.Spec PySem.Calls PyProof.Rows
mutual
theorem RV.clo {fz:Led} {ad:List Addr} {n:Nat}:∀ {p:PV} {v:Value},Mine.clo n p = true→RV fz ad p v→RV fz (ad.take n) p v
 | .none,_,_,h=>h
 | .bool _,_,_,h=>h
 | .int _,_,_,h=>h
 | .flt _,_,_,h=>h
 | .str _,_,_,h=>h
 | .tup l,_,c,h=>by
  skip
  refine x34 h fun a o vs e m q r=>?_
  exact ⟨a,o,vs,e,m,q,RVs.clo (show Mine.clo.all n l = true from c) r⟩
 | .lst l,_,c,h=>by
  skip
  refine x34 h fun a o vs e m q r=>?_
  exact ⟨a,o,vs,e,m,q,RVs.clo (show Mine.clo.all n l = true from c) r⟩
 | .dic l,_,c,h=>by
  skip
  refine x34 h fun a o f e m q r=>?_
  exact ⟨a,o,f,e,m,q,REs.clo (show Mine.clo.allD n l = true from c) r⟩
 | .ref i,_,c,h=>by
  skip
  refine x12 h fun a e m=>?_
  have hi:i < n:=by have c:Nat.blt i n = true:=c;simpa using c
  exact ⟨a,e,by refine rwG (List.getElem?_take_of_lt hi) ?_;exact m⟩
 | .fn _,_,_,h=>h
 | .bi _,_,_,h=>h
 | .ty _,_,_,h=>h
theorem RVs.clo {fz:Led} {ad:List Addr} {n:Nat}:∀ {l:List PV} {vs:List Value},Mine.clo.all n l = true→RVs fz ad l vs→RVs fz (ad.take n) l vs
 | [],_,_,h=>h
 | p :: r,_,c,h=>by
  obtain ⟨c1,c2⟩:=Bool.and_eq_true_iff.mp (show (Mine.clo n p && Mine.clo.all n r) = true from c)
  skip
  refine x23 h fun v t e h1 h2=>?_
  exact ⟨v,t,e,RV.clo c1 h1,RVs.clo c2 h2⟩
theorem REs.clo {fz:Led} {ad:List Addr} {n:Nat}:∀ {l:List (Int × PV)} {f:Int→Option Value},Mine.clo.allD n l = true→REs fz ad l f→REs fz (ad.take n) l f
 | [],_,_,h=>h
 | (i,p) :: r,_,c,h=>by
  obtain ⟨c1,c2⟩:=Bool.and_eq_true_iff.mp (show (Mine.clo n p && Mine.clo.allD n r) = true from c)
  skip
  obtain ⟨⟨v,e,h1⟩,h2⟩:=h
  exact ⟨⟨v,e,RV.clo c1 h1⟩,REs.clo c2 h2⟩
end
theorem RVs.free {fz fz':Led} {ad ad':List Addr} {l:List PV} {vs:List Value} (c:Mine.clo.all 0 l = true) (hf:∀ p∈fz,p∈fz') (h:RVs fz ad l vs):RVs fz' ad' l vs:=RVs.mono hf (fun i a e=>by simp at e) (RVs.clo (n:=0) c h)
theorem REs.free {fz fz':Led} {ad ad':List Addr} {l:List (Int × PV)} {f:Int→Option Value} (c:Mine.clo.allD 0 l = true) (hf:∀ p∈fz,p∈fz') (h:REs fz ad l f):REs fz' ad' l f:=REs.mono hf (fun i a e=>by simp at e) (REs.clo (n:=0) c h)
section
variable {LX:Led→List Nat→Int→List Str→Led→Prop} {fz:Led} {μ:Mem} {led:List Led} {n:Nat}
theorem yu {f:PV→Option PV} {v:PV} {r:List PV}:cP f (v :: r) = match f v,cP f r with | some v',some r'=>some (v' :: r') | _,_=>none:=rfl
theorem yg {f:PV→Option PV} {i:Int} {v:PV} {r:List (Int × PV)}:dN f ((i,v) :: r) = match f v,dN f r with | some v',some r'=>some ((i,v') :: r') | _,_=>none:=rfl
set_option tactic.hygienic true in
theorem hY {k:Nat} {ad ad':List Addr} {fz':Led} (IH:∀ {p p':PV} {v:Value},frz n μ k p = some p'→RV fz ad p v→RV fz' ad' p' v):∀ {l l':List PV} {vs:List Value},cP (frz n μ k) l = some l'→RVs fz ad l vs→RVs fz' ad' l' vs
 | [],_,_,e,h=>by
  skip;refine so1m e ?_
  skip;exact h
 | p :: r,l',vs,e,h=>by
  rw [yu] at e
  split at e
  ·rename_i v' r' h1 h2
   refine so1m e ?_
   skip
   refine xR h fun v t ha hb=>?_
   exact RVs.cons (IH h1 ha) (hY IH h2 hb)
  ·exact no1 e
set_option tactic.hygienic true in
theorem iZ {k:Nat} {ad ad':List Addr} {fz':Led} (IH:∀ {p p':PV} {v:Value},frz n μ k p = some p'→RV fz ad p v→RV fz' ad' p' v):∀ {l l':List (Int × PV)} {f:Int→Option Value},dN (frz n μ k) l = some l'→REs fz ad l f→l'.length = l.length∧REs fz' ad' l' f
 | [],_,_,e,h=>by
  skip;refine so1m e ?_
  skip;exact ⟨rfl,h⟩
 | (i,p) :: r,l',f,e,h=>by
  rw [yg] at e
  split at e
  ·rename_i v' r' h1 h2
   refine so1m e ?_
   skip
   obtain ⟨⟨v,ef,ha⟩,hb⟩:=h
   obtain ⟨hl,hr⟩:=iZ IH h2 hb
   refine ⟨by simp [hl], ?_⟩
   skip
   exact ⟨⟨v,ef,IH h1 ha⟩,hr⟩
  ·exact no1 e
theorem og {i:Nat} {l:Led} {p:Addr × Obj} (hi:led[i]? = some l) (hn:¬ i < n) (hp:p∈l):p∈(led.drop n).flatten :=
 List.mem_flatten.mpr ⟨l,List.mem_iff_getElem?.mpr ⟨i - n,by refine rwG (List.getElem?_drop) ?_;refine rwG (show n + (i - n) = i from by omega) ?_;exact hi⟩,hp⟩
theorem nh (hm:RMs LX fz (ads led) μ led):∀ (k:Nat) {p p':PV} {v:Value},frz n μ k p = some p'→RV fz (ads led) p v→RV ((led.drop n).flatten ++ fz) ((ads led).take n) p' v
 | 0,_,_,_,e,_=>by exact no1 e
 | k + 1,p,p',v,e,h=>by
  have sub:∀ q∈fz,q∈(led.drop n).flatten ++ fz:=fun q hq=>List.mem_append_right _ hq
  have IH:∀ {p p':PV} {v:Value},frz n μ k p = some p'→RV fz (ads led) p v→RV ((led.drop n).flatten ++ fz) ((ads led).take n) p' v:=fun e h=>nh hm k e h
  induction p using PV.casesOn with
  | ref i =>
   have e:(if i < n then some (PV.ref i) else (match μ[i]? with
    | some (.lst l)=>(cP (frz n μ k) l).map .lst
    | some (.dic l)=>(dN (frz n μ k) l).map .dic
    | _=>none)) = some p':=e
   refine RV.kr h fun a ea=>?_
   by_cases hi:i < n
   ·rw [if_pos hi] at e
    refine so1m e ?_
    skip
    exact ⟨a,rfl,by refine rwG (List.getElem?_take_of_lt hi) ?_;exact ea⟩
   ·rw [if_neg hi] at e
    split at e
    ·rename_i l hl
     obtain ⟨l',e1,rfl⟩:=Option.map_eq_some_iff.mp e
     obtain ⟨ld,hld,a',o,vs,rfl,q,rs⟩:=hm.get hl
     obtain rfl:=eg hld ea
     skip
     exact ⟨a,o,vs,rfl,List.mem_append_left _ (og hld hi (.head _)),q,hY IH e1 rs⟩
    ·rename_i l hl
     obtain ⟨l',e1,rfl⟩:=Option.map_eq_some_iff.mp e
     obtain ⟨ld,hld,a',o,f,rfl,q,rs⟩:=hm.get hl
     obtain rfl:=eg hld ea
     obtain ⟨hlen,hr⟩:=iZ IH e1 rs
     skip
     exact ⟨a,o,f,rfl,List.mem_append_left _ (og hld hi (.head _)),by refine rwG hlen ?_;exact q,hr⟩
    ·exact no1 e
  | tup l =>
   have e:(cP (frz n μ k) l).map .tup = some p':=e
   obtain ⟨l',e1,rfl⟩:=Option.map_eq_some_iff.mp e
   skip
   obtain ⟨a,o,vs,rfl,m,q,rs⟩:=h
   exact ⟨a,o,vs,rfl,sub _ m,q,hY IH e1 rs⟩
  | lst l =>
   have e:(if Mine.clo.all 0 l = true then some (PV.lst l) else (cP (frz n μ k) l).map .lst) = some p':=e
   cases hc:Mine.clo.all 0 l with
   | true =>
    rw [hc,if_pos rfl] at e
    refine so1m e ?_
    skip
    obtain ⟨a,o,vs,rfl,m,q,rs⟩:=h
    exact ⟨a,o,vs,rfl,sub _ m,q,RVs.free hc sub rs⟩
   | false =>
    rw [hc,if_neg Bool.false_ne_true] at e
    obtain ⟨l',e1,rfl⟩:=Option.map_eq_some_iff.mp e
    skip
    obtain ⟨a,o,vs,rfl,m,q,rs⟩:=h
    exact ⟨a,o,vs,rfl,sub _ m,q,hY IH e1 rs⟩
  | dic l =>
   have e:(if Mine.clo.allD 0 l = true then some (PV.dic l) else (dN (frz n μ k) l).map .dic) = some p':=e
   cases hc:Mine.clo.allD 0 l with
   | true =>
    rw [hc,if_pos rfl] at e
    refine so1m e ?_
    skip
    obtain ⟨a,o,f,rfl,m,q,rs⟩:=h
    exact ⟨a,o,f,rfl,sub _ m,q,REs.free hc sub rs⟩
   | false =>
    rw [hc,if_neg Bool.false_ne_true] at e
    obtain ⟨l',e1,rfl⟩:=Option.map_eq_some_iff.mp e
    skip
    obtain ⟨a,o,f,rfl,m,q,rs⟩:=h
    obtain ⟨hlen,hr⟩:=iZ IH e1 rs
    exact ⟨a,o,f,rfl,sub _ m,by refine rwG hlen ?_;exact q,hr⟩
  | none=>(have q1:=so1 (show some PV.none = some p' from e);subst q1;exact h)
  | bool b=>(have q1:=so1 (show some (PV.bool b) = some p' from e);subst q1;exact h)
  | int b=>(have q1:=so1 (show some (PV.int b) = some p' from e);subst q1;exact h)
  | flt b=>(have q1:=so1 (show some (PV.flt b) = some p' from e);subst q1;exact h)
  | str b=>(have q1:=so1 (show some (PV.str b) = some p' from e);subst q1;exact h)
  | fn b=>(have q1:=so1 (show some (PV.fn b) = some p' from e);subst q1;exact h)
  | bi b=>(have q1:=so1 (show some (PV.bi b) = some p' from e);subst q1;exact h)
  | ty b=>(have q1:=so1 (show some (PV.ty b) = some p' from e);subst q1;exact h)
theorem RM.clo {x:MO} {l:Led} {ad:List Addr} (c:dO n x = true) (h:RM LX fz ad x l):RM LX fz (ad.take n) x l:=by
 induction x using MO.casesOn with
 | lst l=>refine x33 h fun a o vs e q r=>?_;exact ⟨a,o,vs,e,q,RVs.clo c r⟩
 | dic l=>refine x33 h fun a o f e q r=>?_;exact ⟨a,o,f,e,q,REs.clo c r⟩
 | cell v =>
  induction v using Option.casesOn with
  | none=>exact h
  | some p=>refine x33 h fun a o v e q r=>?_;exact ⟨a,o,v,e,q,RV.clo c r⟩
 | lex _ _ _=>exact h
theorem RMs.u0 {ad:List Addr}:∀ (k:Nat) {μ:Mem} {led:List Led},RMs LX fz ad μ led→(μ.take k).all (dO n) = true→RMs LX fz (ad.take n) (μ.take k) (led.take k)
 | 0,_,_,_,_=>rfl
 | k + 1,[],led,h,_=>by subst h;rfl
 | k + 1,x :: μ,led,h,c=>by
  obtain ⟨l,t,rfl,h1,h2⟩:=h
  rw [List.take_succ_cons,List.all_cons,Bool.and_eq_true_iff] at c
  exact ⟨l,t.take k,rfl,h1.clo c.1,h2.u0 k c.2⟩
end
end Mine
end
section
namespace Mine
open PySem PySem.W PySem.Spec PySem.Calls PyProof.Rows
section
variable {nm:Nat→Str} {fz:Led} {ad:List Addr}
noncomputable def BR (nm:Nat→Str) (fz:Led) (ad:List Addr):Loc→List (Str × Value)→Prop
 | [],zs=>zs = []
 | (i,p) :: r,zs=>∃ v t,zs = (nm i,v) :: t∧RV fz ad p v∧BR nm fz ad r t
theorem mO:∀ {params:List (Nat × Pos)} {args:List PV} {bs:Loc} {vs:List Value},jG params args = some bs→RVs fz ad args vs→vs.length = params.length∧BR nm fz ad bs ((params.map fun x=>nm x.1).zip vs)∧bs.map (·.1) = params.map (·.1)
 | [],[],bs,vs,e,h=>by
  skip;refine so1m e ?_
  skip;subst h
  exact ⟨rfl,rfl,rfl⟩
 | (i,q) :: r,p :: t,bs,vs,e,h=>by
  skip
  obtain ⟨bs',e',rfl⟩:=Option.map_eq_some_iff.mp e
  skip
  obtain ⟨v,us,rfl,h1,h2⟩:=h
  refine x03 (mO e' h2) fun a b c=>?_
  exact ⟨by simp [a],⟨v,_,rfl,h1,b⟩,by simp [c]⟩
 | [],_ :: _,_,_,e,_=>no1 e
 | _ :: _,[],_,_,e,_=>no1 e
theorem qD {names:List (Nat × NameKind)} {i:Nat} {v:PV} {r:Loc}:bo names ((i,v) :: r) = match lk names i with | some .local=>(i,v) :: bo names r | _=>bo names r:=rfl
theorem c8 {names:List (Nat × NameKind)}:∀ {bs:Loc} {i:Nat} {p:PV},(i,p)∈bo names bs→(i,p)∈bs∧lk names i = some .local
 | [],_,_,h=>nomatch h
 | (j,v) :: r,i,p,h=>by
  rw [qD] at h
  split at h
  ·rename_i hl
   rcases List.mem_cons.mp h with e | h
   ·(injection e with q1 q2;subst q1;subst q2);exact ⟨.head _,hl⟩
   ·exact ⟨.tail _ (c8 h).1,(c8 h).2⟩
  ·exact ⟨.tail _ (c8 h).1,(c8 h).2⟩
theorem jn {kindOf:Str→Option NameKind} {y:Str}:∀ {zs:List (Str × Value)} {m:Str→Option Value},(∀ z∈zs,z.1 ≠ y)→bindL kindOf zs m y = m y
 | [],_,_=>rfl
 | (n,v) :: r,m,h=>by
  rw [bindL,jn fun z hz=>h z (.tail _ hz)]
  have hn:¬ y = n:=fun e=>h (n,v) (.head _) e.symm
  split
  ·refine (?_:(if y = n then some v else m y) = m y)
   (refine rwG (if_neg hn) rfl)
  ·rfl
theorem f7 {kindOf:Str→Option NameKind} {y:Str}:∀ {zs:List (Str × Value)} {m:Str→Option Value},(∀ z∈zs,z.1 ≠ y)→bindC kindOf zs m y = m y
 | [],_,_=>rfl
 | (n,v) :: r,m,h=>by
  rw [bindC,f7 fun z hz=>h z (.tail _ hz)]
  have hn:¬ y = n:=fun e=>h (n,v) (.head _) e.symm
  split
  ·rfl
  ·refine (?_:(if y = n then some v else m y) = m y)
   (refine rwG (if_neg hn) rfl)
theorem BR.off {i:Nat} (inj:∀ i j,nm i = nm j→i = j):∀ {bs:Loc} {zs:List (Str × Value)},BR nm fz ad bs zs→i ∉ bs.map (·.1)→∀ z∈zs,z.1 ≠ nm i
 | [],_,h,_,z,hz=>by skip;subst h;cases hz
 | (j,p) :: r,_,h,hn,z,hz=>by
  skip
  obtain ⟨v,t,rfl,_,h2⟩:=h
  rcases List.mem_cons.mp hz with rfl | hz
  ·exact fun e=>hn (by refine rwG (inj _ _ e.symm) ?_;exact .head _)
  ·exact h2.off inj (fun hm=>hn (.tail _ hm)) z hz
theorem lx (inj:∀ i j,nm i = nm j→i = j) {kindOf:Str→Option NameKind} {i:Nat} {p:PV} (hk:kindOf (nm i) = some .local):∀ {bs:Loc} {zs:List (Str × Value)} {m:Str→Option Value},BR nm fz ad bs zs→(bs.map (·.1)).Nodup→(i,p)∈bs→∃ v,bindL kindOf zs m (nm i) = some v∧RV fz ad p v
 | [],_,_,_,_,hm=>nomatch hm
 | (j,q) :: r,_,m,h,nd,hm=>by
  skip
  obtain ⟨v,t,rfl,h1,h2⟩:=h
  rw [List.map_cons,List.nodup_cons] at nd
  rw [bindL]
  rcases List.mem_cons.mp hm with e | hm
  ·(injection e with q1 q2;subst q1;subst q2)
   exact ⟨v,by rw [if_pos hk,jn (h2.off inj nd.1)];simp,h1⟩
  ·exact lx inj hk h2 nd.2 hm
theorem lM (inj:∀ i j,nm i = nm j→i = j) {kindOf:Str→Option NameKind} {i:Nat} {p:PV} (hk:kindOf (nm i) = some .cell):∀ {bs:Loc} {zs:List (Str × Value)} {m:Str→Option Value},BR nm fz ad bs zs→(bs.map (·.1)).Nodup→(i,p)∈bs→∃ v,bindC kindOf zs m (nm i) = some v∧RV fz ad p v
 | [],_,_,_,_,hm=>nomatch hm
 | (j,q) :: r,_,m,h,nd,hm=>by
  skip
  obtain ⟨v,t,rfl,h1,h2⟩:=h
  rw [List.map_cons,List.nodup_cons] at nd
  rw [bindC]
  rcases List.mem_cons.mp hm with e | hm
  ·(injection e with q1 q2;subst q1;subst q2)
   refine ⟨v, ?_,h1⟩
   rw [if_neg (by rw [hk];exact fun h=>nomatch h),f7 (h2.off inj nd.1)];simp
  ·exact lM inj hk h2 nd.2 hm
end
section
variable {C C':Ctx} {sc sc':Sc} {loc loc' loc'':Loc} {μ μ' μ'' μ₁ μ₂ μ₃:Mem} {W W' W'' W₀ W₁:Wd} {s:Shared} {α β:Type} {k:Nat} {r:R} {h h':Heap}
end
end Mine
end
section
namespace Mine
open PySem PySem.W PySem.Spec PySem.Calls PyProof.Rows
section
variable {C C':Ctx} {sc sc':Sc} {loc loc' loc'':Loc} {μ μ' μ'' μ₁ μ₂ μ₃:Mem} {W W' W'' W₀ W₁:Wd} {s:Shared} {α β:Type} {k:Nat} {r:R} {h h':Heap} {f:Fl}
set_option backward.match.sparseCases true in
noncomputable def zZ (fl:Flow):Value:=match fl with | .ret v=>v | _=>.none
theorem cb.ret {fl:Flow} (hf:cb f fl W):IsV (iM f) (zZ fl) W:=by
 induction f using Fl.casesOn with
 | ret p=>obtain ⟨v,rfl,hv⟩:=hf;exact hv
 | next=>obtain rfl:fl = .next:=hf;exact RV.n
 | brk=>obtain rfl:fl = .brk:=hf;exact RV.n
 | cont=>obtain rfl:fl = .cont:=hf;exact RV.n
theorem i7 (g:Good C sc (k + 1)) (IH:∀ A' env' h W sc',Good (C.inn A' env' h W) sc' k→OkR (C.inn A' env' h W) sc' r) {a:Nat} {fd:FD} (F:bZ C.toBas a fd) (q:Rep C sc loc μ W s.heap) {oL:Obj} (hL:s.heap.get? C.env.locals = some oL)
  (hfz:W₁.fz = W.fz) (htab:W₁.tab = W.tab) (hoth:List.Perm W₁.oth ((C.env.locals,oL) :: W.oth)) (mem:RMs C.LX W₁.fz (ads W₁.led) μ₁ W₁.led) {args:List PV} {vs:List Value} (ha:aL args vs W₁) {lim:Nat} {v:PV} (e:bV r fd args lim μ₁ = some (v,μ')) {R':Result→Shared→Prop}
  (ret:∀ A' env' x h' tk sc' loc' W',Rep (C.inn A' env' s.heap W) sc' loc' μ' W' h'→W₁.le W'→IsV v x W'→R' (.ok (.ret x)) { s with heap:=h',toks:=tk }):codeAny (model C.prog C.w) C.A (.call (.ref a) ⟨vs,[]⟩) R' s:=by
 obtain ⟨o,fv,h1,h2,h3,h4,h5,h6,h7,h8,h9⟩:=F.ob
 have d:=g.dep
 have u:=g.uni
 have e0:(match jG fd.params args with
  | none=>M.no
  | some bs=>M.bnd (cf bs fd.sc.names) fun cells=>M.bnd (ay r ⟨fd.sc.names,cells,lim⟩ fd.body (bo fd.sc.names bs)) fun x=>M.ret (iM x.1)) μ₁ = some (v,μ'):=e
 clear e
 cases hbs:jG fd.params args with
 | none=>rw [hbs] at e0;exact no1 e0
 | some bs =>
  rw [hbs] at e0
  have e:(M.bnd (cf bs fd.sc.names) fun cells=>M.bnd (ay r ⟨fd.sc.names,cells,lim⟩ fd.body (bo fd.sc.names bs)) fun x=>M.ret (iM x.1)) μ₁ = some (v,μ'):=e0
  clear e0
  refine ag e fun cells μ₂ e1 e2=>?_
  obtain ⟨⟨fl,eM⟩,μ₃,e3,e4⟩:=cG e2
  obtain ⟨rfl,rfl⟩:=ai e4
  refine x03 (mO (nm:=C.nm) hbs ha) fun hlen hbr hkeys=>?_
  have ndb:(bs.map (·.1)).Nodup:=hkeys ▸ F.pnd
  have old:∀ b o,C.h₀.get? b = some o→s.heap.get? b = some o:=q.keep
  have hbs':C.hb.StaysIn s.heap:=fun b o e=>old b o (g.hb b o e)
  refine codeAny_call_function (fd:=fv) (by omega) (hbs' _ _ h1) h2 (by rw [h3];rfl) (by rw [h3];rfl) h4 (h5.keeps hbs') ?_
  refine wpAny_of_eq (h9 vs hlen) ?_
  rw [h7]
  have hnames:fv.scope.names = fd.sc.names.map fun x=>(C.nm x.1,x.2):=by rw [h3];rfl
  have hkn:∀ i,fv.scope.names.lookup (C.nm i) = lk fd.sc.names i:=fun i=>by rw [hnames];exact fh g.inj i _
  refine wpAny_newFunctionEnv_cells (by rw [h3];rfl) (fun x hx=>?_) fun env' he s' xc=>?_
  ·obtain ⟨y,hy,hxy⟩:∃ y∈fd.params,x.1 = C.nm y.1:=by
    have:=(List.of_mem_zip hx).1
    refine x12 (List.mem_map.mp this) fun y hy e=>?_
    exact ⟨y,hy,e.symm⟩
   have hkd:=List.all_eq_true.mp F.kinds y hy
   rw [hxy,hkn]
   rcases Bool.or_eq_true_iff.mp hkd with hk | hk
   ·exact .inl (beq_iff_eq.mp hk)
   ·have hk':lk fd.sc.names y.1 = some .cell:=beq_iff_eq.mp hk
    refine .inr ⟨hk',cellsFrom_some _ _ _ (.inl ?_)⟩
    rw [hkn];exact hk'
  ·rw [h6,h8] at he
   have hloc:env'.locals = s.heap.objs.size:=by rw [he];rfl
   have hcl:env'.cells = cellsFrom (s.heap.objs.size + 1) fv.scope.names []:=by rw [he];rfl
   have hsc:env'.scope = fv.scope:=by rw [he];rfl
   have hko:∀ i,env'.kindOf (C.nm i) = lk fd.sc.names i:=fun i=>by unfold Env.kindOf;rw [hsc];exact hkn i
   obtain ⟨h₁,tk,rfl,hk₁⟩:=xc.done
   have hns:=xc.toInCall.ns
   have hcell:=xc.cell
   have hn:s.heap.get? env'.locals = none:=by rw [hloc];exact bf _
   have bs_at:∀ {i p},lk bs i = some p→(i,p)∈bs:=fun h=>cV h
   have q1:Rep (C.inn (C.A.deeper env') env' s.heap W) ⟨fd.sc.names,[],lim⟩ (bo fd.sc.names bs) μ₁ W₁ h₁:=Rep.enter q hL hk₁ hn hfz htab hoth mem
    ⟨_,hns,fun i p e=>by
     obtain ⟨m1,m2⟩:=c8 (cV e)
     exact lx g.inj (by rw [hko];exact m2) hbr ndb m1⟩ (fun i id e=>by exact no1 e)
   have own_lt:∀ a∈W₁.own,@LT.lt Nat _ a s.heap.objs.size:=fun a ha=>by
    have:a∈C.env.locals :: W.own:=((hoth.map (·.1)).mem_iff).mp ha
    obtain ⟨o,e⟩:=q.bg this
    exact aJ e
   have ncells:∀ i a,lk (az (s.heap.objs.size + 1) fd.sc.names) i = some a→env'.cells.lookup (C.nm i) = some a:=fun i a e=>by
    (refine rwG hcl ?_;refine rwG hnames ?_;refine rwG (df g.inj i _ _ _ F.nnd) ?_;refine rwG e rfl)
   obtain ⟨W₂,q2,l2,hfz2,hcs⟩:=fg (cv:=fun i=>bindC env'.kindOf ((fd.params.map fun x=>C.nm x.1).zip vs) (fun _=>none) (C.nm i)) e1 q1 F.nnd (fun i a e=>hcell _ _ (ncells i a e)) (fun i hi=>by
     cases hb:lk bs i with
     | none =>
      refine f7 (hbr.off g.inj fun hm=>?_)
      obtain ⟨⟨j,pj⟩,hp,e⟩:=List.mem_map.mp hm
      obtain rfl:j = i:=e
      have:=lI ndb hp
      rw [hb] at this;exact no1 this
     | some p=>exact lM g.inj (by rw [hko];exact hi) hbr ndb (cV hb)) (n:=s.heap.objs.size + 1) (fun a ha=>by
     rcases List.mem_cons.mp ha with rfl | ha
     ·refine (?_:@LT.lt Nat _ env'.locals _)
      rw [hloc];exact Nat.lt_succ_self _
     ·exact Nat.lt_succ_of_lt (own_lt a ha)) (fun p hp=>Nat.lt_succ_of_lt (aJ (q.fzs p (hfz ▸ hp)))) (fun a ha=>by
     cases e:(C.inn (C.A.deeper env') env' s.heap W).h₀.get? a with
     | none=>rfl
     | some o=>exact absurd (aJ (of_hideAll _ e)) (Nat.not_lt.mpr (Nat.le_of_succ_le ha)))
   have q3:Rep (C.inn (C.A.deeper env') env' s.heap W) ⟨fd.sc.names,cells,lim⟩ (bo fd.sc.names bs) μ₂ W₂ h₁:=⟨q2.ns,q2.keep,q2.fzs,q2.all,q2.nd,q2.old,q2.fzo,q2.mem,q2.tabs,q2.kf,fun i id e=>by
    refine x12 (hcs i id e) fun a e1 e2=>?_
    exact ⟨a,ncells i a e1,e2⟩⟩
   have g':Good (C.inn (C.A.deeper env') env' s.heap W) ⟨fd.sc.names,cells,lim⟩ k:=by
    refine ⟨g.base,fun b o e=>hideAll_get _ (hbs' b o e) fun hm=>?_, ?_, ?_, ?_,fun i x e=>.inl ?_,g.hnd, ?_, ?_⟩
    ·have:=q.old b hm;rw [g.hb b o e] at this;exact no2 this
    ·refine (?_:env'.scope.kind = _)
     rw [hsc,h3];rfl
    ·refine (?_:env'.globals = _)
     rw [he];rfl
    ·refine (?_:env'.builtins = _)
     rw [he];rfl
    ·exact (hko i).trans e
    ·refine (?_:C.A.depth + 1 + k + 40 < _)
     omega
    ·refine (?_:C.A.units + 3 + 3 * k + 400 < _)
     lia
   refine ⟨(g.lim.keeps q.keep).keeps hk₁,codeAny_func ?_⟩
   refine wpAny_mono (E:=NoE) (cF (C:=C.inn (C.A.deeper env') env' s.heap W) (IH _ _ _ _ _ g') (s:={ s with heap:=h₁,toks:=tk }) e3 q3 (fun fl' s'=>∃ h' tk W',s' = { s with heap:=h',toks:=tk }∧Rep (C.inn (C.A.deeper env') env' s.heap W) ⟨fd.sc.names,cells,lim⟩ eM μ₃ W' h'∧W₂.le W'∧cb fl fl' W') fun fl' h3 tk3 W3 q3 l3 hf=>⟨h3,tk3,W3,rfl,q3,l3,hf⟩) (fun fl' s' hs=>?_) fun _ _ x=>x.elim
   refine A8 hs fun h4 tk4 W4 q4 l4 hf4=>?_
   exact ret _ _ _ h4 tk4 _ _ W4 q4 (l2.trans l4) hf4.ret
theorem Pre.nil (ad:List Addr):Pre [] ad:=fun i a e=>by simp at e
theorem tD {W₁:Wd} (n:Nat) (hn:W.led.length = n) (l:Pre (ads W.led) (ads W₁.led)):Pre (ads W.led) ((ads W₁.led).take n):=fun i a e=>by
 have hi:i < n:=by
  have:=(List.getElem?_eq_some_iff.mp e).1
  unfold ads at this
  rw [List.length_map,hn] at this
  exact this
 refine rwG (List.getElem?_take_of_lt hi) ?_;exact l i a e
theorem i6 (l:List Led) (n:Nat):ads (l.take n) = (ads l).take n:=by unfold ads;(refine rwG List.map_take rfl)
set_option tactic.hygienic true in
theorem uG (g:Good C sc (k + 1)) (IH:∀ A' env' h W sc',Good (C.inn A' env' h W) sc' k→OkR (C.inn A' env' h W) sc' r) {a:Nat} {fd:FD} (hf:lk C.cfg.fns a = some fd) (q:Rep C sc loc μ W s.heap) {args:List PV} {vs:List Value} (ha:aL args vs W) {p:PV} (e:bO r fd args μ = some (p,μ')) :
  Giv C sc loc W s (call (.ref a) vs) (IsV p) μ':=by
 intro Q hQ
 obtain ⟨oL,hL⟩:=q.bg (.head _)
 have nd:=q.nd
 unfold bO at e
 cases hp:fd.pure with
 | true =>
  rw [hp] at e
  dsimp only at e
  cases hc:clo.all 0 args with
  | false=>rw [hc,if_neg Bool.false_ne_true] at e;exact no1 e
  | true =>
   rw [hc,if_pos rfl] at e
   split at e
   ·rename_i v μ₁ hb
    split at e
    ·rename_i v' hfr
     (refine dF e fun q1 q2=>?_;subst q2;cases q1)
     refine wpAny_call (i7 g IH (g.base.fns a fd hf) q hL (W₁:={ fz:=W.fz,tab:=W.tab,hid:=(C.env.locals,oL) :: (W.hid ++ W.led.flatten),led:=[] }) (μ₁:=[]) rfl rfl ?_ rfl (RVs.free hc (fun _ h=>h) ha) hb fun A' env' x h' tk sc' loc' W' q' l' hx=>?_)
     ·refine (?_:List.Perm (W.tab ++ (((C.env.locals,oL) :: (W.hid ++ W.led.flatten)) ++ ([]:List Led).flatten)) ((C.env.locals,oL) :: (W.tab ++ (W.hid ++ W.led.flatten))))
      (refine rwG (List.flatten_nil ..) ?_;refine rwG (List.append_nil ..) ?_)
      exact List.perm_middle
     ·obtain ⟨fz',tab',hid',led'⟩:=W'
      obtain rfl:hid' = (C.env.locals,oL) :: (W.hid ++ W.led.flatten):=l'.hid
      obtain ⟨oL',hL'⟩:=q'.bg (.head _)
      have P:List.Perm (tab' ++ (((C.env.locals,oL) :: (W.hid ++ W.led.flatten)) ++ led'.flatten)) ((C.env.locals,oL) :: ((tab' ++ (W.hid ++ W.led.flatten)) ++ led'.flatten)):=by
       refine rwG (List.append_assoc ..) ?_
       exact List.perm_middle
      have n0:(env'.locals :: (tab' ++ (((C.env.locals,oL) :: (W.hid ++ W.led.flatten)) ++ led'.flatten)).map (·.1)).Nodup:=q'.nd
      have n1:(C.env.locals :: ((tab' ++ (W.hid ++ W.led.flatten)).map (·.1) ++ led'.flatten.map (·.1))).Nodup:=by
       have:=(P.map (·.1)).nodup_iff.mp (List.nodup_cons.mp n0).2
       simpa only [List.map_cons,List.map_append,List.append_assoc] using this
      have n2:=List.nodup_cons.mp n1
      have n3:=List.nodup_append.mp n2.2
      have sub:∀ p∈tab' ++ (W.hid ++ W.led.flatten),p∈tab' ++ (((C.env.locals,oL) :: (W.hid ++ W.led.flatten)) ++ led'.flatten):=fun p hp=>P.mem_iff.mpr (.tail _ (List.mem_append_left _ hp))
      have hv:RV (led'.flatten ++ fz') (ads W.led) p x:=by
       have:=nh (n:=0) q'.mem 8 hfr hx
       skip
       exact RV.mono (fun _ h=>h) (Pre.nil _) this
      have lf:∀ p∈W.fz,p∈led'.flatten ++ fz':=fun p hp=>List.mem_append_right _ (l'.fz p hp)
      refine hQ x h' tk { fz:=led'.flatten ++ fz',tab:=tab',hid:=W.hid,led:=W.led } ?_ ⟨lf,rfl,Pre.refl _⟩ hv
      refine Rep.back q hL q' hL' lf (Pre.refl _) (P.mem_iff.mpr (.head _)) (fun p hp=>.inr (sub p hp)) (List.nodup_cons.mpr ⟨fun hm=>n2.1 (List.mem_append_left _ hm),n3.1⟩) (fun p hp=>?_) (fun p hp hm=>?_) (RMs.mono lf (Pre.refl _) q.mem) (g.tq _ _ _ (fun p hp=>List.mem_append_right _ hp) q'.tabs)
      ·rcases List.mem_append.mp hp with hp | hp
       ·exact .inr (P.mem_iff.mpr (.tail _ (List.mem_append_right _ hp)))
       ·exact .inl hp
      ·rcases List.mem_append.mp hp with hp | hp
       ·have hp1:p.1∈led'.flatten.map (·.1):=List.mem_map_of_mem hp
        rcases List.mem_cons.mp hm with e | hm
        ·exact n2.1 (List.mem_append_right _ (e ▸ hp1))
        ·exact n3.2.2 _ hm _ hp1 rfl
       ·refine q'.fzo p hp (.tail _ ?_)
        refine (?_:p.1∈(tab' ++ (((C.env.locals,oL) :: (W.hid ++ W.led.flatten)) ++ led'.flatten)).map (·.1))
        refine ((P.map (·.1)).mem_iff).mpr ?_
        rcases List.mem_cons.mp hm with e | hm
        ·refine rwG e ?_;exact .head _
        ·(refine rwG List.map_cons ?_;refine rwG List.map_append ?_);exact .tail _ (List.mem_append_left _ hm)
    ·exact no1 e
   ·exact no1 e
 | false =>
  rw [hp] at e
  dsimp only at e
  split at e
  ·rename_i v μ₁ hb
   split at e
   ·rename_i v' hfr
    (refine dF e fun q1 q2=>?_;subst q2;cases q1)
    split at hfr
    ·rename_i hclo
     have hlm:W.led.length = μ.length:=q.mem.len
     refine wpAny_call (i7 g IH (g.base.fns a fd hf) q hL (W₁:={ W with hid:=(C.env.locals,oL) :: W.hid }) (μ₁:=μ) rfl rfl (Wd.ck W (C.env.locals,oL)) q.mem ha hb fun A' env' x h' tk sc' loc' W' q' l' hx=>?_)
     obtain ⟨fz',tab',hid',led'⟩:=W'
     obtain rfl:hid' = (C.env.locals,oL) :: W.hid:=l'.hid
     obtain ⟨oL',hL'⟩:=q'.bg (.head _)
     have hsplit:led'.flatten = (led'.take μ.length).flatten ++ (led'.drop μ.length).flatten:=by rw [← List.flatten_append,List.take_append_drop]
     have P:List.Perm (tab' ++ (((C.env.locals,oL) :: W.hid) ++ led'.flatten)) ((C.env.locals,oL) :: ((tab' ++ (W.hid ++ (led'.take μ.length).flatten)) ++ (led'.drop μ.length).flatten)):=by
      (refine rwG (hsplit ..) ?_;refine rwG (List.append_assoc ..) ?_;refine rwG (List.append_assoc ..) ?_)
      exact List.perm_middle
     have n0:(env'.locals :: (tab' ++ (((C.env.locals,oL) :: W.hid) ++ led'.flatten)).map (·.1)).Nodup:=q'.nd
     have n1:(C.env.locals :: ((tab' ++ (W.hid ++ (led'.take μ.length).flatten)).map (·.1) ++ (led'.drop μ.length).flatten.map (·.1))).Nodup:=by
      have:=(P.map (·.1)).nodup_iff.mp (List.nodup_cons.mp n0).2
      simpa only [List.map_cons,List.map_append,List.append_assoc] using this
     have n2:=List.nodup_cons.mp n1
     have n3:=List.nodup_append.mp n2.2
     have sub:∀ p∈tab' ++ (W.hid ++ (led'.take μ.length).flatten),p∈tab' ++ (((C.env.locals,oL) :: W.hid) ++ led'.flatten):=fun p hp=>P.mem_iff.mpr (.tail _ (List.mem_append_left _ hp))
     have hv:RV ((led'.drop μ.length).flatten ++ fz') (ads (led'.take μ.length)) p x:=by
      refine rwG (i6 ..) ?_
      exact nh (n:=μ.length) q'.mem 8 hfr hx
     have lf:∀ p∈W.fz,p∈(led'.drop μ.length).flatten ++ fz':=fun p hp=>List.mem_append_right _ (l'.fz p hp)
     have la:Pre (ads W.led) (ads (led'.take μ.length)):=by
      refine rwG (i6 ..) ?_
      exact tD (W₁:=⟨fz',tab',[],led'⟩) μ.length hlm l'.ad
     refine hQ x h' tk { fz:=(led'.drop μ.length).flatten ++ fz',tab:=tab',hid:=W.hid,led:=led'.take μ.length } ?_ ⟨lf,rfl,la⟩ hv
     refine Rep.back q hL q' hL' lf la (P.mem_iff.mpr (.head _)) (fun p hp=>.inr (sub p hp)) (List.nodup_cons.mpr ⟨fun hm=>n2.1 (List.mem_append_left _ hm),n3.1⟩) (fun p hp=>?_) (fun p hp hm=>?_) ?_ (g.tq _ _ _ (fun p hp=>List.mem_append_right _ hp) q'.tabs)
     ·rcases List.mem_append.mp hp with hp | hp
      ·exact .inr (P.mem_iff.mpr (.tail _ (List.mem_append_right _ hp)))
      ·exact .inl hp
     ·rcases List.mem_append.mp hp with hp | hp
      ·have hp1:p.1∈(led'.drop μ.length).flatten.map (·.1):=List.mem_map_of_mem hp
       rcases List.mem_cons.mp hm with e | hm
       ·exact n2.1 (List.mem_append_right _ (e ▸ hp1))
       ·exact n3.2.2 _ hm _ hp1 rfl
      ·refine q'.fzo p hp (.tail _ ?_)
       refine (?_:p.1∈(tab' ++ (((C.env.locals,oL) :: W.hid) ++ led'.flatten)).map (·.1))
       refine ((P.map (·.1)).mem_iff).mpr ?_
       rcases List.mem_cons.mp hm with e | hm
       ·refine rwG e ?_;exact .head _
       ·(refine rwG List.map_cons ?_;refine rwG List.map_append ?_);exact .tail _ (List.mem_append_left _ hm)
     ·refine rwG (i6 ..) ?_
      exact RMs.mono (fun p hp=>List.mem_append_right _ hp) (Pre.refl _) (RMs.u0 (n:=μ.length) μ.length q'.mem hclo)
    ·exact no1 hfr
   ·exact no1 e
  ·exact no1 e
end
end Mine
end
section
namespace Mine
open PySem PySem.W PySem.Spec PySem.Calls PyProof.Rows
section
variable {C C':Ctx} {sc sc':Sc} {loc loc' loc'':Loc} {μ μ' μ'' μ₁ μ₂ μ₃:Mem} {W W' W'' W₀ W₁:Wd} {s:Shared} {α β:Type} {k:Nat} {r:R} {h h':Heap} {p:PV}
theorem ff (q:Rep C sc loc μ W h):C.env.locals ∉ W.own∧(W.tab.map (·.1)).Nodup∧(∀ p∈W.hid ++ W.led.flatten,p.1 ∉ W.tab.map (·.1))∧∀ a∈W.tab.map (·.1),a∈W.own:=by
 have n:=List.nodup_cons.mp q.nd
 have n2:(W.tab.map (·.1) ++ (W.hid ++ W.led.flatten).map (·.1)).Nodup:=by
  have:((W.tab ++ (W.hid ++ W.led.flatten)).map (·.1)).Nodup:=n.2
  rwa [List.map_append] at this
 have n3:=List.nodup_append.mp n2
 refine ⟨n.1,n3.1,fun p hp hm=>n3.2.2 _ hm _ (List.mem_map_of_mem hp) rfl,fun a ha=>?_⟩
 refine (?_:a∈(W.tab ++ (W.hid ++ W.led.flatten)).map (·.1))
 refine rwG List.map_append ?_
 exact List.mem_append_left _ ha
theorem Rep.xl (g:Good C sc (k + 1)) (q:Rep C sc loc μ W s.heap):eC C.toBas C.A s W.fz W.tab:=by
 have d:=g.dep
 have u:=g.uni
 refine x04 (ff q) fun p1 p2 p3 p4=>?_
 exact ⟨g.hnd,by omega,by omega,fun b o e=>q.keep b o (g.hb b o e),q.tabs,q.fzs,fun p hp=>q.all p (List.mem_append_left _ hp),p2,fun p hp hm=>q.fzo p hp (.tail _ (p4 _ hm))⟩
theorem Rep.prim (q:Rep C sc loc μ W s.heap) {new T':Led} (pe:dC C.toBas s h' W.fz W.tab new T'):Rep C sc loc μ { W with tab:=T',fz:=new ++ W.fz } h'∧W.le { W with tab:=T',fz:=new ++ W.fz }:=by
 refine x04 (ff q) fun p1 p2 p3 p4=>?_
 have hown:({ W with tab:=T',fz:=new ++ W.fz }:Wd).own = W.own:=by
  refine (?_:(T' ++ (W.hid ++ W.led.flatten)).map (·.1) = (W.tab ++ (W.hid ++ W.led.flatten)).map (·.1))
  simp only [List.map_append,pe.ad]
 have sub:∀ p∈W.fz,p∈new ++ W.fz:=fun p hp=>List.mem_append_right _ hp
 have offT:∀ {b o},C.h₀.get? b = some o→b ∉ W.tab.map (·.1):=fun e hm=>by have:=q.old _ (.tail _ (p4 _ hm));rw [e] at this;exact no2 this
 obtain ⟨m,⟨o,es,ep,a1,a2⟩,hlc⟩:=q.ns
 refine ⟨⟨⟨m,⟨o,es,ep,pe.keep _ _ (fun hm=>p1 (p4 _ hm)) a1,a2⟩,fun i p e=>?_⟩,fun b o e=>pe.keep b o (offT e) (q.keep b o e),fun p hp=>?_,fun p hp=>?_,by refine rwG hown ?_;exact q.nd,by refine rwG hown ?_;exact q.old,fun p hp=>?_,RMs.mono sub (Pre.refl _) q.mem,pe.tq,fun p hp=>sub p (q.kf p hp),q.cells⟩,⟨sub,rfl,Pre.refl _⟩⟩
 ·refine x12 (hlc i p e) fun v e1 e2=>?_
  exact ⟨v,e1,RV.mono sub (Pre.refl _) e2⟩
 ·rcases List.mem_append.mp hp with hp | hp
  ·exact (pe.new p hp).1
  ·exact pe.keep _ _ (fun hm=>q.fzo p hp (.tail _ (p4 _ hm))) (q.fzs p hp)
 ·have hp':p∈T' ++ (W.hid ++ W.led.flatten):=hp
  rcases List.mem_append.mp hp' with hp | hp
  ·exact pe.tab p hp
  ·exact pe.keep _ _ (p3 p hp) (q.all p (List.mem_append_right _ hp))
 ·refine rwG hown ?_
  rcases List.mem_append.mp hp with hp | hp
  ·intro hm
   obtain ⟨o,e⟩:=q.bg hm
   exact absurd (aJ e) (Nat.not_lt.mpr (pe.new p hp).2)
  ·exact q.fzo p hp
theorem Rep.A6 (q:Rep C sc loc μ W h) {l:Led} {x:MO} (hl:∀ p∈l,h.get? p.1 = some p.2) (hnd:(l.map (·.1)).Nodup) (h1:∀ a∈C.env.locals :: W.own,a ∉ l.map (·.1)) (h2:∀ a∈l.map (·.1),C.h₀.get? a = none) (h3:∀ p∈W.fz,p.1 ∉ l.map (·.1))
  (hm:RM C.LX W.fz (ads W.led ++ [adr l]) x l):Rep C sc loc (μ ++ [x]) { W with led:=W.led ++ [l] } h:=by
 have ea:ads (W.led ++ [l]) = ads W.led ++ [adr l]:=by simp [ads]
 have pre:Pre (ads W.led) (ads W.led ++ [adr l]):=Pre.app _ _
 have P:({ W with led:=W.led ++ [l] }:Wd).oth.Perm (W.oth ++ l):=by
  refine (?_:(W.tab ++ (W.hid ++ (W.led ++ [l]).flatten)).Perm ((W.tab ++ (W.hid ++ W.led.flatten)) ++ l))
  refine rwG List.flatten_append ?_
  refine (?_:(W.tab ++ (W.hid ++ (W.led.flatten ++ (l ++ [])))).Perm _)
  rw [List.append_nil,List.append_assoc,List.append_assoc]
 have P2:({ W with led:=W.led ++ [l] }:Wd).own.Perm (W.own ++ l.map (·.1)):=by
  have:({ W with led:=W.led ++ [l] }:Wd).own.Perm ((W.oth ++ l).map (·.1)):=P.map _
  rwa [List.map_append] at this
 have mo:∀ b,b∈C.env.locals :: ({ W with led:=W.led ++ [l] }:Wd).own→b∈C.env.locals :: W.own∨b∈l.map (·.1):=fun b hb=>by
  rcases List.mem_cons.mp hb with rfl | hb
  ·exact .inl (.head _)
  ·rcases List.mem_append.mp (P2.mem_iff.mp hb) with hb | hb
   ·exact .inl (.tail _ hb)
   ·exact .inr hb
 refine x12 q.ns fun m hmn hlc=>?_
 refine ⟨⟨m,hmn,fun i p e=>?_⟩,q.keep,q.fzs,fun p hp=>?_, ?_,fun b hb=>?_,fun p hp hb=>?_, ?_,q.tabs,q.kf,fun i id e=>?_⟩
 ·refine x12 (hlc i p e) fun v e1 e2=>?_
  exact ⟨v,e1,by refine (?_:RV W.fz (ads (W.led ++ [l])) p v);rw [ea];exact RV.mono (fun _ h=>h) pre e2⟩
 ·rcases List.mem_append.mp (P.mem_iff.mp hp) with hp | hp
  ·exact q.all p hp
  ·exact hl p hp
 ·refine ((P2.cons _).nodup_iff).mpr ?_
  rw [← List.cons_append]
  exact List.nodup_append.mpr ⟨q.nd,hnd,fun a ha b hb e=>h1 a ha (e ▸ hb)⟩
 ·rcases mo b hb with hb | hb
  ·exact q.old b hb
  ·exact h2 b hb
 ·rcases mo _ hb with hb | hb
  ·exact q.fzo p hp hb
  ·exact h3 p hp hb
 ·refine (?_:RMs C.LX W.fz (ads (W.led ++ [l])) _ _)
  rw [ea]
  exact (RMs.mono (fun _ h=>h) pre q.mem).app ⟨_,[],rfl,hm,rfl⟩
 ·refine x12 (q.cells i id e) fun b e1 e2=>?_
  exact ⟨b,e1,by refine (?_:(ads (W.led ++ [l]))[id]? = some b);rw [ea];exact pre _ _ e2⟩
theorem iG {fz:Led} {ad:List Addr} {n:Nat}:∀ {l:List PV} {vs:List Value} {x:Int},bw n l = some x→RVs fz ad l vs→RVs [] [] l vs
 | [],_,_,_,h=>by skip;exact h
 | p :: r,vs,x,e,h=>by
  induction p using PV.casesOn with
  | int d =>
   have hd:d.natAbs < 2 ^ 64:=Classical.byContradiction fun hd=>by
    have e:(if d.natAbs < 2 ^ 64 then (bw n r).map (fun x=>d + x * 2 ^ n) else none) = some x:=e
    rw [if_neg hd] at e;exact no1 e
   have e:(if d.natAbs < 2 ^ 64 then (bw n r).map (fun x=>d + x * 2 ^ n) else none) = some x:=e
   rw [if_pos hd] at e
   refine x12 (Option.map_eq_some_iff.mp e) fun y e1 _=>?_
   skip
   refine xR h fun v t h1 h2=>?_
   obtain ⟨u,rfl⟩:=RV.i' h1
   exact RVs.cons (RV.i _ _) (iG e1 h2)
  | _=>exact no1 e
theorem jv {args:List PV} {f:PV→PV→M PV} {z:PV × Mem} (e:qh args f μ = some z):∃ x y,args = [x,y]∧f x y μ = some z:=by
 rcases args with _ | ⟨x,_ | ⟨y,_ | ⟨_,_⟩⟩⟩
 ·exact no1 e
 ·exact no1 e
 ·exact ⟨x,y,rfl,e⟩
 ·exact no1 e
theorem lu {l:List PV} {n:Int} {p:PV} (e:sS l n μ = some (p,μ')):∃ z,0 < n∧n ≤ 64∧l.length ≤ 400∧bw n.toNat l = some z∧p = .int z∧μ = μ':=by
 refine au (M.pif e) fun h e=>?_
 obtain ⟨e,e5⟩:=bQ e
 obtain ⟨z,e4,rfl⟩:=Option.map_eq_some_iff.mp e
 exact ⟨z,h.1,h.2.1,h.2.2,e4,rfl,e5⟩
theorem uJ (g:Good C sc (k + 1)) {a:Nat} {kd:jL} (hk:lk C.cfg.prims a = some kd) {args:List PV} {vs:List Value} (ha:aL args vs W) (e:me kd args μ = some (p,μ')) (q:Rep C sc loc μ W s.heap):Giv C sc loc W s (call (.ref a) vs) (IsV p) μ':=by
 have PC:=g.base.prim
 have at_:=Rep.xl g q
 have dig:∀ {l:List PV} {n r:Int} {D:Addr} {us:List Value} {m:Nat} {x:Value},lk C.cfg.prims a = some .digits2int→s.heap.get? D = some (lo us m)→D ∉ W.tab.map (·.1)→aL l us W→0 < n→n ≤ 64→l.length ≤ 400→IsV (.int n) x W→bw n.toNat l = some r→Giv C sc loc W s (call (.ref a) [.ref D,x]) (IsV (.int r)) μ :=
  fun {l n r D us m x} hk hD hT hl c1 c2 c3 hx hd Q hQ=>by
   obtain ⟨u,rfl⟩:=RV.i' hx
   exact PC.d2i a hk at_ c1 c2 c3 hD hT (iG hd hl) hd fun h' tk new T' t pe=>hQ _ h' tk _ (Rep.prim q pe).1 (Rep.prim q pe).2 (RV.i _ _)
 induction kd using jL.casesOn with
 | int2digits =>
  obtain ⟨x,n,rfl,e⟩:=jv e
  obtain ⟨x,rfl,e⟩:=ee e
  obtain ⟨n,rfl,e⟩:=ee e
  obtain ⟨⟨c1,c2,c3,c4⟩,e⟩:=M.pif e
  refine so2m e ?_
  obtain ⟨v1,v2,rfl,hv1,hv2⟩:=RVs.two ha
  obtain ⟨t,rfl⟩:=RV.i' hv1
  obtain ⟨u,rfl⟩:=RV.i' hv2
  exact fun Q hQ=>PC.i2d a hk at_ c1 c2 c3 c4 fun h' tk new T' D us m pe hD hr=>hQ _ h' tk _ (Rep.prim q pe).1 (Rep.prim q pe).2 (RV.l (List.mem_append_left _ hD) (RVs.mono (fun p h=>by cases h) (Pre.nil _) hr))
 | digits2int =>
  obtain ⟨x,n,rfl,e⟩:=jv e
  obtain ⟨n,rfl,e⟩:=ee e
  obtain ⟨v1,v2,rfl,hv1,hv2⟩:=RVs.two ha
  clear ha
  induction x using PV.casesOn with
  | lst l =>
   obtain ⟨z,c1,c2,c3,e4,rfl,rfl⟩:=lu e
   obtain ⟨D,us,m,rfl,mm,rs⟩:=RV.l' hv1
   exact dig hk (q.fzs _ mm) (fun hm=>q.fzo _ mm (.tail _ ((ff q).2.2.2 _ hm))) rs c1 c2 c3 hv2 e4
  | ref i =>
   refine cw e fun o e3 e=>?_
   induction o using MO.casesOn with
   | lst l =>
    obtain ⟨z,c1,c2,c3,e4,rfl,rfl⟩:=lu e
    obtain ⟨D,rfl,ea⟩:=RV.r' hv1
    refine x23 (q.lst e3 ea) fun us m hi rs hg=>?_
    exact dig hk hg (fun hm=>(ff q).2.2.1 (D,lo us m) (List.mem_append_right _ (List.mem_flatten.mpr ⟨_,List.mem_iff_getElem?.mpr ⟨_,hi⟩,.head _⟩)) hm) rs c1 c2 c3 hv2 e4
   | _=>exact no1 e
  | _=>exact no1 e
 | lexer =>
  obtain ⟨x,rfl,e⟩:=cL e
  obtain ⟨x,rfl,e⟩:=d7 e
  refine au (M.pif e) fun c1 e=>?_
  refine so2m e ?_
  obtain ⟨v1,rfl,hv1⟩:=RVs.one ha
  obtain ⟨t,rfl⟩:=RV.x' hv1
  refine fun Q hQ=>PC.lexer a hk at_ c1 fun h' tk new T' l c pe hc hlx hl hnd=>?_
  obtain ⟨q1,l1⟩:=Rep.prim q pe
  rw [List.map_append] at hnd
  refine x03 (List.nodup_append.mp hnd) fun n1 n2 n3=>?_
  have big:∀ b o,s.heap.get? b = some o→b ∉ l.map (·.1):=fun b o e hm=>by
   obtain ⟨p,hp,rfl⟩:=List.mem_map.mp hm
   exact absurd (aJ e) (Nat.not_lt.mpr (hl p hp).2)
  have hown:({ W with tab:=T',fz:=new ++ W.fz }:Wd).own = W.own:=by
   refine (?_:(T' ++ (W.hid ++ W.led.flatten)).map (·.1) = (W.tab ++ (W.hid ++ W.led.flatten)).map (·.1))
   simp only [List.map_append,pe.ad]
  have q2:=Rep.A6 (x:=.lex x.cps.toList 1 []) q1 (l:=l) (fun p hp=>(hl p hp).1) n1 (fun a ha=>by
    rw [hown] at ha
    obtain ⟨o,e⟩:=q.bg ha
    exact big a o e) (fun a ha=>by
    cases e:C.h₀.get? a with
    | none=>rfl
    | some o=>exact absurd ha (big a o (q.keep _ _ e))) (fun p hp=>by
    rcases List.mem_append.mp hp with hp | hp
    ·exact fun hm=>n3 _ hm _ (List.mem_map_of_mem hp) rfl
    ·exact big _ _ (q.fzs p hp)) ⟨c,hc,hlx⟩
  refine hQ _ h' tk _ q2 (l1.trans (Wd.le.mut _ l)) ?_
  skip
  refine ⟨_,rfl, ?_⟩
  have hlen:(ads W.led).length = μ.length:=by unfold ads;rw [List.length_map,q.mem.len]
  refine (?_:(ads (W.led ++ [l]))[μ.length]? = _)
  have e1:ads (W.led ++ [l]) = ads W.led ++ [adr l]:=by simp [ads]
  (refine rwG e1 ?_;refine rwH hlen ?_);simp
theorem oF {args:List PV} {i:Nat} (e:jj args = some i):args = [.ref i]:=by
 rcases args with _ | ⟨x,_ | ⟨_,_⟩⟩
 ·exact no1 e
 ·induction x using PV.casesOn with
  | ref j=>refine so1m e ?_;rfl
  | _=>exact no1 e
 ·exact no1 e
theorem sP {n:BI} {args:List PV} (e:biM n args μ = some (p,μ')):μ = μ'∧((∃ i l,n = .len∧args = [.ref i]∧μ[i]? = some (.lst l)∧l.length ≤ ah∧p = .int l.length)∨gN n args = some p):=by
 have other:∀ n,M.lift (gN n args) μ = some (p,μ')→μ = μ'∧gN n args = some p:=fun n e=>⟨(bQ e).2,(bQ e).1⟩
 by_cases hn:n = .len
 ·subst hn
  cases h:jj args with
  | none =>
   have e:(match jj args with | some i=>zh i | none=>M.lift (gN .len args)) μ = some (p,μ'):=e
   rw [h] at e
   exact ⟨(other _ e).1,.inr (other _ e).2⟩
  | some i =>
   obtain rfl:=oF h
   refine cw e fun o e3 e=>?_
   induction o using MO.casesOn with
   | lst l =>
    refine au (M.pif e) fun c e=>?_
    refine so2m e ?_
    exact ⟨rfl,.inl ⟨i,l,rfl,rfl,e3,c,rfl⟩⟩
   | _=>exact no1 e
 ·have e:M.lift (gN n args) μ = some (p,μ'):=by cases n <;> first | exact e | exact absurd rfl hn
  exact ⟨(other _ e).1,.inr (other _ e).2⟩
theorem um (g:Good C sc (k + 1)) (IH:∀ A' env' h W sc',Good (C.inn A' env' h W) sc' k→OkR (C.inn A' env' h W) sc' r) {f:PV} {args:List PV} {fv:Value} {vs:List Value} (e:jW C.cfg r f args μ = some (p,μ')) (hf:IsV f fv W) (ha:aL args vs W) (q:Rep C sc loc μ W s.heap):Giv C sc loc W s (call fv vs) (IsV p) μ':=by
 induction f using PV.casesOn with
 | fn a =>
  skip
  subst hf
  have e:(match lk C.cfg.prims a with
   | some k=>me k args
   | none=>match lk C.cfg.fns a with
    | some fd=>bO r fd args
    | none=>M.no) μ = some (p,μ'):=e
  cases hk:lk C.cfg.prims a with
  | some kd=>rw [hk] at e;exact uJ g hk ha e q
  | none =>
   rw [hk] at e
   cases hd:lk C.cfg.fns a with
   | some fd=>rw [hd] at e;exact uG g IH hd q ha e
   | none=>rw [hd] at e;exact no1 e
 | bi n =>
  skip
  subst hf
  obtain ⟨rfl,⟨i,l,rfl,rfl,e3,c,rfl⟩ | e1⟩:=sP e
  ·obtain ⟨v1,rfl,hv1⟩:=RVs.one ha
   obtain ⟨D,rfl,ea⟩:=RV.r' hv1
   refine x23 (q.lst e3 ea) fun us m hi rs hg=>?_
   exact fun Q hQ=>len_list ⟨_,hg,rfl,m,rfl⟩ (by (refine rwG List.size_toArray ?_;refine rwG rs.len ?_);exact hX c) (by (refine rwG List.size_toArray ?_;refine rwG rs.len ?_);exact hQ _ s.heap _ W q (Wd.le.refl _) (RV.i _ _))
  ·exact wR e1 ha q g.hnd g.tq
 | ty n =>
  skip
  subst hf
  refine cj e fun e1=>?_
  exact vG e1 ha q
 | _=>exact no1 e
theorem Good.less (g:Good C sc (k + 1)):Good C sc k:=⟨g.base,g.hb,g.kind,g.glb,g.blt,g.names,g.hnd,by have:=g.dep;lia,by have:=g.uni;lia⟩
theorem kW (B:Bas):∀ (n:Nat) (C:Ctx) (sc:Sc),C.toBas = B→Good C sc n→OkR C sc (ae C.cfg n)
 | 0,C,sc,_,_=>⟨fun {_ _ μ μ' p _ _} e=>(bF (show (M.no:M PV) μ = some (p,μ') from e)).elim,fun {_ _ _ _ _ _ _ _ μ μ' _ p _ _ _} e=>(bF (show (M.no:M PV) μ = some (p,μ') from e)).elim,
   fun {_ _ μ μ' p _ _} e=>(bF (show (M.no:M Bool) μ = some (p,μ') from e)).elim,fun {_ _ loc' μ μ' f _ _} e=>(bF (show (M.no:M (Fl × Loc)) μ = some ((f,loc'),μ') from e)).elim,
   fun {_ _ _ μ μ' p _ _ _ _} e=>(bF (show (M.no:M PV) μ = some (p,μ') from e)).elim,fun {_ _ μ x} e=>(bF (show (M.no:M PV) μ = some (x.1,x.2) from e)).elim,fun {_ _ μ x} e=>(bF (show (M.no:M PV) μ = some (x.1,x.2) from e)).elim⟩
 | n + 1,C,sc,hB,g=>by
  have I:=kW B n C sc hB g.less
  have IH:∀ A' env' h W sc',Good (C.inn A' env' h W) sc' n→OkR (C.inn A' env' h W) sc' (ae C.cfg n):=fun A' env' h W sc' g'=>kW B n (C.inn A' env' h W) sc' hB g'
  refine ⟨fun e q=>uy g.less I IH e q,fun e q hu=>uU g.less I IH e q hu,fun e q=>tC g.less I e q,fun e q=>uc g.less I e q,fun e hf ha q=>um g IH e hf ha q,fun {a args μ x} e=>?_,fun {f args μ x} e=>?_⟩
  ·have e':jW C.cfg (ae C.cfg n) (.fn a) args μ = some x:=e
   unfold jW at e'
   dsimp only at e'
   cases hk:lk C.cfg.prims a with
   | some kd=>exact .inl rfl
   | none =>
    rw [hk] at e'
    cases hd:lk C.cfg.fns a with
    | some fd=>exact .inr rfl
    | none=>rw [hd] at e';exact (bF (show (M.no:M PV) μ = some (x.1,x.2) from e')).elim
  ·have e':jW C.cfg (ae C.cfg n) f args μ = some x:=e
   induction f using PV.casesOn with
   | fn a=>exact .inl ⟨a,rfl⟩
   | bi n=>exact .inr (.inl ⟨n,rfl⟩)
   | ty n=>exact .inr (.inr ⟨n,rfl⟩)
   | _=>exact (bF (show (M.no:M PV) μ = some (x.1,x.2) from e')).elim
end
end Mine
end
section
namespace Mine
noncomputable section
open PySem
noncomputable abbrev pz (l a b:Nat):Pos:=⟨l,a,l,b⟩
noncomputable abbrev fa:Str:=Str.ofString "fast"
noncomputable abbrev nE (i l a b:Nat):CE:=.name i (pz l a b)
noncomputable abbrev nT (i l a b:Nat):CT:=.name i (pz l a b)
noncomputable abbrev iE (i:Int) (l a b:Nat):CE:=.cst (.int i) 0 (pz l a b)
noncomputable def ko:PV:=.dic [(1,.str ⟨#[79,80,84,73,77,73,90,69,68]⟩),(2,.str ⟨#[78,69,87,76,79,67,65,76,83]⟩),(4,.str ⟨#[86,65,82,65,82,71,83]⟩),(8,.str ⟨#[86,65,82,75,69,89,87,79,82,68,83]⟩),(16,.str ⟨#[78,69,83,84,69,68]⟩),(32,.str ⟨#[71,69,78,69,82,65,84,79,82]⟩),(64,.str ⟨#[78,79,70,82,69,69]⟩),(128,.str ⟨#[67,79,82,79,85,84,73,78,69]⟩),(256,.str ⟨#[73,84,69,82,65,66,76,69,95,67,79,82,79,85,84,73,78,69]⟩),(512,.str ⟨#[65,83,89,78,67,95,71,69,78,69,82,65,84,79,82]⟩)]
noncomputable def names:List Str:=[Str.ofString "a",Str.ofString "b",Str.ofString "n",Str.ofString "_DIV_LIMIT",Str.ofString "divmod",Str.ofString "pad",Str.ofString "half_n",Str.ofString "mask",Str.ofString "b1",Str.ofString "b2",Str.ofString "q1",Str.ofString "r",Str.ofString "_div3n2n",Str.ofString "q2",Str.ofString "a_digits",Str.ofString "_int2digits",Str.ofString "q_digits",Str.ofString "a_digit",Str.ofString "reversed",Str.ofString "q_digit",Str.ofString "_div2n1n",Str.ofString "q",Str.ofString "_digits2int",Str.ofString "int_divmod",Str.ofString "_divmod_pos",Str.ofString "ZeroDivisionError",Str.ofString "g",Str.ofString "maxc",Str.ofString "max",Str.ofString "minc",Str.ofString "min",Str.ofString "sumc",Str.ofString "rangec",Str.ofString "l",Str.ofString "s",Str.ofString "rc",Str.ofString "gc",Str.ofString "bc",Str.ofString "h",Str.ofString "m2",Str.ofString "m1",Str.ofString "_v",Str.ofString "ONE_THIRD",Str.ofString "hue",Str.ofString "ONE_SIXTH",Str.ofString "TWO_THIRD",Str.ofString "v",Str.ofString "i",Str.ofString "int",Str.ofString "f",Str.ofString "p",Str.ofString "t",Str.ofString "flags",Str.ofString "names",Str.ofString "range",Str.ofString "flag",Str.ofString "COMPILER_FLAG_NAMES",Str.ofString "hex",Str.ofString "number",Str.ofString "boxes",Str.ofString "rows",Str.ofString "_",Str.ofString "grown",Str.ofString "row",Str.ofString "len",Str.ofString ".0",Str.ofString "one",Str.ofString "enumerate",Str.ofString "column",Str.ofString "length",Str.ofString "line",Str.ofString "count",Str.ofString "words",Str.ofString "word",Str.ofString "loose",Str.ofString "waiting",Str.ofString "lengths",Str.ofString "last",Str.ofString "sum",Str.ofString "sign",Str.ofString "seed",Str.ofString "scale",Str.ofString "shade",Str.ofString "told",Str.ofString "level",Str.ofString "share",Str.ofString "rgb_to_hls",Str.ofString "part",Str.ofString "paint",Str.ofString "hls_to_rgb",Str.ofString "rgb_to_hsv",Str.ofString "hsv_to_rgb",Str.ofString "abs",Str.ofString "rims",Str.ofString "kept",Str.ofString "strip",Str.ofString "below",Str.ofString "cut",Str.ofString "script",Str.ofString "cells",Str.ofString "place",Str.ofString "size",Str.ofString "_law_diagram",Str.ofString "painted",Str.ofString "text",Str.ofString "_law_painted",Str.ofString "kind",Str.ofString "gap",Str.ofString "mark",Str.ofString "needed",Str.ofString "lexer",Str.ofString "_law_lexer",Str.ofString "read",Str.ofString "path",Str.ofString "step",Str.ofString "_law_marks",Str.ofString "hues",Str.ofString "said",Str.ofString "pretty_flags",Str.ofString "_law_changed",Str.ofString "figure",Str.ofString "_law_mirrored",Str.ofString "image",Str.ofString "due",Str.ofString "lines",Str.ofString "_law_rims"]
noncomputable def hU:FD:=⟨[(0,(pz 3 13 14)),(1,(pz 3 16 17)),(2,(pz 3 19 20))],[
 .iff (.cmp (.bin (.meth (nE 0 4 7 8) .bit_length (pz 4 7 19) [] (pz 4 7 21)) .Sub (nE 2 4 24 25) (pz 4 7 25)) [.LtE] [(nE 3 4 29 39)] (pz 4 7 39)) [.ret (.call 4 (pz 5 15 21) [(nE 0 5 22 23),(nE 1 5 25 26)] (pz 5 15 27)) (pz 5 8 27)] [] ⟨4,4,5,27⟩,
 .asg (nT 5 6 4 7) (.bin (nE 2 6 10 11) .BitAnd (iE 1 6 14 15) (pz 6 10 15)) (pz 6 4 15),
 .iff (nE 5 7 7 10) [.augN 0 (pz 8 8 9) .LShift (iE 1 8 14 15) (pz 8 8 15),.augN 1 (pz 9 8 9) .LShift (iE 1 9 14 15) (pz 9 8 15),.augN 2 (pz 10 8 9) .Add (iE 1 10 13 14) (pz 10 8 14)] [] ⟨7,4,10,14⟩,
 .asg (nT 6 11 4 10) (.bin (nE 2 11 13 14) .RShift (iE 1 11 18 19) (pz 11 13 19)) (pz 11 4 19),
 .asg (nT 7 12 4 8) (.bin (.bin (iE 1 12 12 13) .LShift (nE 6 12 17 23) (pz 12 12 23)) .Sub (iE 1 12 27 28) (pz 12 11 28)) (pz 12 4 28),
 .asg (.tup [(8,(pz 13 4 6)),(9,(pz 13 8 10))] 0 (pz 13 4 10)) (.tup [(.bin (nE 1 13 14 15) .RShift (nE 6 13 19 25) (pz 13 14 25)),(.bin (nE 1 13 27 28) .BitAnd (nE 7 13 31 35) (pz 13 27 35))] 0 (pz 13 13 36)) (pz 13 4 36),
 .asg (.tup [(10,(pz 14 4 6)),(11,(pz 14 8 9))] 0 (pz 14 4 9)) (.call 12 (pz 14 12 20) [(.bin (nE 0 14 21 22) .RShift (nE 2 14 26 27) (pz 14 21 27)),(.bin (.bin (nE 0 14 29 30) .RShift (nE 6 14 34 40) (pz 14 29 40)) .BitAnd (nE 7 14 43 47) (pz 14 29 47)),(nE 1 14 49 50),(nE 8 14 52 54),(nE 9 14 56 58),(nE 6 14 60 66)] (pz 14 12 67)) (pz 14 4 67),
 .asg (.tup [(13,(pz 15 4 6)),(11,(pz 15 8 9))] 0 (pz 15 4 9)) (.call 12 (pz 15 12 20) [(nE 11 15 21 22),(.bin (nE 0 15 24 25) .BitAnd (nE 7 15 28 32) (pz 15 24 32)),(nE 1 15 34 35),(nE 8 15 37 39),(nE 9 15 41 43),(nE 6 15 45 51)] (pz 15 12 52)) (pz 15 4 52),
 .iff (nE 5 16 7 10) [.augN 11 (pz 17 8 9) .RShift (iE 1 17 14 15) (pz 17 8 15)] [] ⟨16,4,17,15⟩,
 .ret (.tup [(.bin (.bin (nE 10 18 12 14) .LShift (nE 6 18 18 24) (pz 18 12 24)) .BitOr (nE 13 18 27 29) (pz 18 12 29)),(nE 11 18 31 32)] 0 (pz 18 11 33)) (pz 18 4 33)],⟨[(0,.local),(1,.local),(2,.local),(5,.local),(6,.local),(7,.local),(8,.local),(9,.local),(10,.local),(11,.local),(13,.local),(3,.globalImplicit),(4,.globalImplicit),(12,.globalImplicit)],[]⟩,true⟩
noncomputable def eF:FD:=⟨[(0,(pz 54 16 17)),(1,(pz 54 19 20))],[
 .asg (nT 2 55 4 5) (.meth (nE 1 55 8 9) .bit_length (pz 55 8 20) [] (pz 55 8 22)) (pz 55 4 22),
 .asg (nT 14 56 4 12) (.call 15 (pz 56 15 26) [(nE 0 56 27 28),(nE 2 56 30 31)] (pz 56 15 32)) (pz 56 4 32),
 .asg (nT 11 57 4 5) (iE 0 57 8 9) (pz 57 4 9),
 .asg (nT 16 58 4 12) (.list true [] (pz 58 15 17)) (pz 58 4 17),
 .for (nT 17 59 8 15) (.call 18 (pz 59 19 27) [(nE 14 59 28 36)] (pz 59 19 37)) [.asg (.tup [(19,(pz 60 8 15)),(11,(pz 60 17 18))] 0 (pz 60 8 18)) (.call 20 (pz 60 21 29) [(.bin (.bin (nE 11 60 31 32) .LShift (nE 2 60 36 37) (pz 60 31 37)) .Add (nE 17 60 41 48) (pz 60 30 48)),(nE 1 60 50 51),(nE 2 60 53 54)] (pz 60 21 55)) (pz 60 8 55),.expr (.meth (nE 16 61 8 16) .append (pz 61 8 23) [(nE 19 61 24 31)] (pz 61 8 32)) (pz 61 8 32)] [] ⟨59,4,61,32⟩,
 .expr (.meth (nE 16 62 4 12) .reverse (pz 62 4 20) [] (pz 62 4 22)) (pz 62 4 22),
 .asg (nT 21 63 4 5) (.call 22 (pz 63 8 19) [(nE 16 63 20 28),(nE 2 63 30 31)] (pz 63 8 32)) (pz 63 4 32),
 .ret (.tup [(nE 21 64 12 13),(nE 11 64 15 16)] 0 (pz 64 11 17)) (pz 64 4 17)],⟨[(0,.local),(1,.local),(2,.local),(14,.local),(11,.local),(16,.local),(17,.local),(19,.local),(21,.local),(15,.globalImplicit),(18,.globalImplicit),(20,.globalImplicit),(22,.globalImplicit)],[]⟩,true⟩
noncomputable def dk:FD:=⟨[(0,(pz 65 15 16)),(1,(pz 65 18 19))],[
 .iff (.cmp (nE 1 66 7 8) [.Eq] [(iE 0 66 12 13)] (pz 66 7 13)) [.other (.Raise (some (.Name (Str.ofString "ZeroDivisionError") (pz 67 14 31))) none (pz 67 8 31))] [.iff (.cmp (nE 1 68 9 10) [.Lt] [(iE 0 68 13 14)] (pz 68 9 14)) [.asg (.tup [(21,(pz 69 8 9)),(11,(pz 69 11 12))] 0 (pz 69 8 12)) (.call 23 (pz 69 15 25) [(.una .USub (nE 0 69 27 28) (pz 69 26 28)),(.una .USub (nE 1 69 31 32) (pz 69 30 32))] (pz 69 15 33)) (pz 69 8 33),.ret (.tup [(nE 21 70 16 17),(.una .USub (nE 11 70 20 21) (pz 70 19 21))] 0 (pz 70 15 22)) (pz 70 8 22)] [.iff (.cmp (nE 0 71 9 10) [.Lt] [(iE 0 71 13 14)] (pz 71 9 14)) [.asg (.tup [(21,(pz 72 8 9)),(11,(pz 72 11 12))] 0 (pz 72 8 12)) (.call 23 (pz 72 15 25) [(.una .Invert (nE 0 72 27 28) (pz 72 26 28)),(nE 1 72 30 31)] (pz 72 15 32)) (pz 72 8 32),.ret (.tup [(.una .Invert (nE 21 73 17 18) (pz 73 16 18)),(.bin (nE 1 73 20 21) .Add (.una .Invert (nE 11 73 25 26) (pz 73 24 26)) (pz 73 20 26))] 0 (pz 73 15 27)) (pz 73 8 27)] [.ret (.call 24 (pz 75 15 26) [(nE 0 75 27 28),(nE 1 75 30 31)] (pz 75 15 32)) (pz 75 8 32)] ⟨71,4,75,32⟩] ⟨68,4,75,32⟩] ⟨66,4,75,32⟩],⟨[(0,.local),(1,.local),(21,.local),(11,.local),(25,.globalImplicit),(23,.globalImplicit),(24,.globalImplicit)],[]⟩,true⟩
noncomputable def eD:FD:=⟨[(11,(pz 80 15 16)),(26,(pz 80 18 19)),(1,(pz 80 21 22))],[
 .asg (nT 27 81 4 8) (.call 28 (pz 81 11 14) [(nE 11 81 15 16),(nE 26 81 18 19),(nE 1 81 21 22)] (pz 81 11 23)) (pz 81 4 23),
 .asg (nT 29 82 4 8) (.call 30 (pz 82 11 14) [(nE 11 82 15 16),(nE 26 82 18 19),(nE 1 82 21 22)] (pz 82 11 23)) (pz 82 4 23),
 .asg (nT 31 83 4 8) (.bin (nE 27 83 11 15) .Add (nE 29 83 18 22) (pz 83 11 22)) (pz 83 4 22),
 .asg (nT 32 84 4 10) (.bin (nE 27 84 13 17) .Sub (nE 29 84 20 24) (pz 84 13 24)) (pz 84 4 24),
 .asg (nT 33 85 4 5) (.bin (nE 31 85 8 12) .Div (.cst (.float 4611686018427387904) 0 (pz 85 15 18)) (pz 85 8 18)) (pz 85 4 18),
 .iff (.cmp (nE 29 86 7 11) [.Eq] [(nE 27 86 15 19)] (pz 86 7 19)) [.ret (.tup [(.cst (.float 0) 0 (pz 87 16 19)),(nE 33 87 21 22),(.cst (.float 0) 0 (pz 87 24 27))] 0 (pz 87 15 28)) (pz 87 8 28)] [] ⟨86,4,87,28⟩,
 .iff (.cmp (nE 33 88 7 8) [.LtE] [(.cst (.float 4602678819172646912) 0 (pz 88 12 15))] (pz 88 7 15)) [.asg (nT 34 89 8 9) (.bin (nE 32 89 12 18) .Div (nE 31 89 21 25) (pz 89 12 25)) (pz 89 8 25)] [.asg (nT 34 91 8 9) (.bin (nE 32 91 12 18) .Div (.bin (.bin (.cst (.float 4611686018427387904) 0 (pz 91 22 25)) .Sub (nE 27 91 28 32) (pz 91 22 32)) .Sub (nE 29 91 35 39) (pz 91 22 39)) (pz 91 12 40)) (pz 91 8 40)] ⟨88,4,91,40⟩,
 .asg (nT 35 92 4 6) (.bin (.bin (nE 27 92 10 14) .Sub (nE 11 92 17 18) (pz 92 10 18)) .Div (nE 32 92 22 28) (pz 92 9 28)) (pz 92 4 28),
 .asg (nT 36 93 4 6) (.bin (.bin (nE 27 93 10 14) .Sub (nE 26 93 17 18) (pz 93 10 18)) .Div (nE 32 93 22 28) (pz 93 9 28)) (pz 93 4 28),
 .asg (nT 37 94 4 6) (.bin (.bin (nE 27 94 10 14) .Sub (nE 1 94 17 18) (pz 94 10 18)) .Div (nE 32 94 22 28) (pz 94 9 28)) (pz 94 4 28),
 .iff (.cmp (nE 11 95 7 8) [.Eq] [(nE 27 95 12 16)] (pz 95 7 16)) [.asg (nT 38 96 8 9) (.bin (nE 37 96 12 14) .Sub (nE 36 96 17 19) (pz 96 12 19)) (pz 96 8 19)] [.iff (.cmp (nE 26 97 9 10) [.Eq] [(nE 27 97 14 18)] (pz 97 9 18)) [.asg (nT 38 98 8 9) (.bin (.bin (.cst (.float 4611686018427387904) 0 (pz 98 12 15)) .Add (nE 35 98 18 20) (pz 98 12 20)) .Sub (nE 37 98 23 25) (pz 98 12 25)) (pz 98 8 25)] [.asg (nT 38 100 8 9) (.bin (.bin (.cst (.float 4616189618054758400) 0 (pz 100 12 15)) .Add (nE 36 100 18 20) (pz 100 12 20)) .Sub (nE 35 100 23 25) (pz 100 12 25)) (pz 100 8 25)] ⟨97,4,100,25⟩] ⟨95,4,100,25⟩,
 .asg (nT 38 101 4 5) (.bin (.bin (nE 38 101 8 9) .Div (.cst (.float 4618441417868443648) 0 (pz 101 12 15)) (pz 101 8 15)) .Mod (.cst (.float 4607182418800017408) 0 (pz 101 18 21)) (pz 101 8 21)) (pz 101 4 21),
 .ret (.tup [(nE 38 102 12 13),(nE 33 102 15 16),(nE 34 102 18 19)] 0 (pz 102 11 20)) (pz 102 4 20)],⟨[(11,.local),(26,.local),(1,.local),(27,.local),(29,.local),(31,.local),(32,.local),(33,.local),(34,.local),(35,.local),(36,.local),(37,.local),(38,.local),(28,.globalImplicit),(30,.globalImplicit)],[]⟩,true⟩
noncomputable def eJ:FD:=⟨[(38,(pz 103 15 16)),(33,(pz 103 18 19)),(34,(pz 103 21 22))],[
 .iff (.cmp (nE 34 104 7 8) [.Eq] [(.cst (.float 0) 0 (pz 104 12 15))] (pz 104 7 15)) [.ret (.tup [(nE 33 105 16 17),(nE 33 105 19 20),(nE 33 105 22 23)] 0 (pz 105 15 24)) (pz 105 8 24)] [] ⟨104,4,105,24⟩,
 .iff (.cmp (nE 33 106 7 8) [.LtE] [(.cst (.float 4602678819172646912) 0 (pz 106 12 15))] (pz 106 7 15)) [.asg (nT 39 107 8 10) (.bin (nE 33 107 13 14) .Mult (.bin (.cst (.float 4607182418800017408) 0 (pz 107 18 21)) .Add (nE 34 107 24 25) (pz 107 18 25)) (pz 107 13 26)) (pz 107 8 26)] [.asg (nT 39 109 8 10) (.bin (.bin (nE 33 109 13 14) .Add (nE 34 109 17 18) (pz 109 13 18)) .Sub (.bin (nE 33 109 21 22) .Mult (nE 34 109 25 26) (pz 109 21 26)) (pz 109 13 26)) (pz 109 8 26)] ⟨106,4,109,26⟩,
 .asg (nT 40 110 4 6) (.bin (.bin (.cst (.float 4611686018427387904) 0 (pz 110 9 12)) .Mult (nE 33 110 15 16) (pz 110 9 16)) .Sub (nE 39 110 19 21) (pz 110 9 21)) (pz 110 4 21),
 .ret (.tup [(.call 41 (pz 111 12 14) [(nE 40 111 15 17),(nE 39 111 19 21),(.bin (nE 38 111 23 24) .Add (nE 42 111 27 36) (pz 111 23 36))] (pz 111 12 37)),(.call 41 (pz 111 39 41) [(nE 40 111 42 44),(nE 39 111 46 48),(nE 38 111 50 51)] (pz 111 39 52)),(.call 41 (pz 111 54 56) [(nE 40 111 57 59),(nE 39 111 61 63),(.bin (nE 38 111 65 66) .Sub (nE 42 111 69 78) (pz 111 65 78))] (pz 111 54 79))] 0 (pz 111 11 80)) (pz 111 4 80)],⟨[(38,.local),(33,.local),(34,.local),(39,.local),(40,.local),(41,.globalImplicit),(42,.globalImplicit)],[]⟩,true⟩
noncomputable def f_v:FD:=⟨[(40,(pz 112 7 9)),(39,(pz 112 11 13)),(43,(pz 112 15 18))],[
 .asg (nT 43 113 4 7) (.bin (nE 43 113 10 13) .Mod (.cst (.float 4607182418800017408) 0 (pz 113 16 19)) (pz 113 10 19)) (pz 113 4 19),
 .iff (.cmp (nE 43 114 7 10) [.Lt] [(nE 44 114 13 22)] (pz 114 7 22)) [.ret (.bin (nE 40 115 15 17) .Add (.bin (.bin (.bin (nE 39 115 21 23) .Sub (nE 40 115 26 28) (pz 115 21 28)) .Mult (nE 43 115 32 35) (pz 115 20 35)) .Mult (.cst (.float 4618441417868443648) 0 (pz 115 38 41)) (pz 115 20 41)) (pz 115 15 41)) (pz 115 8 41)] [] ⟨114,4,115,41⟩,
 .iff (.cmp (nE 43 116 7 10) [.Lt] [(.cst (.float 4602678819172646912) 0 (pz 116 13 16))] (pz 116 7 16)) [.ret (nE 39 117 15 17) (pz 117 8 17)] [] ⟨116,4,117,17⟩,
 .iff (.cmp (nE 43 118 7 10) [.Lt] [(nE 45 118 13 22)] (pz 118 7 22)) [.ret (.bin (nE 40 119 15 17) .Add (.bin (.bin (.bin (nE 39 119 21 23) .Sub (nE 40 119 26 28) (pz 119 21 28)) .Mult (.bin (nE 45 119 33 42) .Sub (nE 43 119 45 48) (pz 119 33 48)) (pz 119 20 49)) .Mult (.cst (.float 4618441417868443648) 0 (pz 119 52 55)) (pz 119 20 55)) (pz 119 15 55)) (pz 119 8 55)] [] ⟨118,4,119,55⟩,
 .ret (nE 40 120 11 13) (pz 120 4 13)],⟨[(40,.local),(39,.local),(43,.local),(44,.globalImplicit),(45,.globalImplicit)],[]⟩,true⟩
noncomputable def ez:FD:=⟨[(11,(pz 121 15 16)),(26,(pz 121 18 19)),(1,(pz 121 21 22))],[
 .asg (nT 27 122 4 8) (.call 28 (pz 122 11 14) [(nE 11 122 15 16),(nE 26 122 18 19),(nE 1 122 21 22)] (pz 122 11 23)) (pz 122 4 23),
 .asg (nT 29 123 4 8) (.call 30 (pz 123 11 14) [(nE 11 123 15 16),(nE 26 123 18 19),(nE 1 123 21 22)] (pz 123 11 23)) (pz 123 4 23),
 .asg (nT 32 124 4 10) (.bin (nE 27 124 13 17) .Sub (nE 29 124 20 24) (pz 124 13 24)) (pz 124 4 24),
 .asg (nT 46 125 4 5) (nE 27 125 8 12) (pz 125 4 12),
 .iff (.cmp (nE 29 126 7 11) [.Eq] [(nE 27 126 15 19)] (pz 126 7 19)) [.ret (.tup [(.cst (.float 0) 0 (pz 127 16 19)),(.cst (.float 0) 0 (pz 127 21 24)),(nE 46 127 26 27)] 0 (pz 127 15 28)) (pz 127 8 28)] [] ⟨126,4,127,28⟩,
 .asg (nT 34 128 4 5) (.bin (nE 32 128 8 14) .Div (nE 27 128 17 21) (pz 128 8 21)) (pz 128 4 21),
 .asg (nT 35 129 4 6) (.bin (.bin (nE 27 129 10 14) .Sub (nE 11 129 17 18) (pz 129 10 18)) .Div (nE 32 129 22 28) (pz 129 9 28)) (pz 129 4 28),
 .asg (nT 36 130 4 6) (.bin (.bin (nE 27 130 10 14) .Sub (nE 26 130 17 18) (pz 130 10 18)) .Div (nE 32 130 22 28) (pz 130 9 28)) (pz 130 4 28),
 .asg (nT 37 131 4 6) (.bin (.bin (nE 27 131 10 14) .Sub (nE 1 131 17 18) (pz 131 10 18)) .Div (nE 32 131 22 28) (pz 131 9 28)) (pz 131 4 28),
 .iff (.cmp (nE 11 132 7 8) [.Eq] [(nE 27 132 12 16)] (pz 132 7 16)) [.asg (nT 38 133 8 9) (.bin (nE 37 133 12 14) .Sub (nE 36 133 17 19) (pz 133 12 19)) (pz 133 8 19)] [.iff (.cmp (nE 26 134 9 10) [.Eq] [(nE 27 134 14 18)] (pz 134 9 18)) [.asg (nT 38 135 8 9) (.bin (.bin (.cst (.float 4611686018427387904) 0 (pz 135 12 15)) .Add (nE 35 135 18 20) (pz 135 12 20)) .Sub (nE 37 135 23 25) (pz 135 12 25)) (pz 135 8 25)] [.asg (nT 38 137 8 9) (.bin (.bin (.cst (.float 4616189618054758400) 0 (pz 137 12 15)) .Add (nE 36 137 18 20) (pz 137 12 20)) .Sub (nE 35 137 23 25) (pz 137 12 25)) (pz 137 8 25)] ⟨134,4,137,25⟩] ⟨132,4,137,25⟩,
 .asg (nT 38 138 4 5) (.bin (.bin (nE 38 138 8 9) .Div (.cst (.float 4618441417868443648) 0 (pz 138 12 15)) (pz 138 8 15)) .Mod (.cst (.float 4607182418800017408) 0 (pz 138 18 21)) (pz 138 8 21)) (pz 138 4 21),
 .ret (.tup [(nE 38 139 12 13),(nE 34 139 15 16),(nE 46 139 18 19)] 0 (pz 139 11 20)) (pz 139 4 20)],⟨[(11,.local),(26,.local),(1,.local),(27,.local),(29,.local),(32,.local),(46,.local),(34,.local),(35,.local),(36,.local),(37,.local),(38,.local),(28,.globalImplicit),(30,.globalImplicit)],[]⟩,true⟩
noncomputable def eL:FD:=⟨[(38,(pz 140 15 16)),(34,(pz 140 18 19)),(46,(pz 140 21 22))],[
 .iff (.cmp (nE 34 141 7 8) [.Eq] [(.cst (.float 0) 0 (pz 141 12 15))] (pz 141 7 15)) [.ret (.tup [(nE 46 142 16 17),(nE 46 142 19 20),(nE 46 142 22 23)] 0 (pz 142 15 24)) (pz 142 8 24)] [] ⟨141,4,142,24⟩,
 .asg (nT 47 143 4 5) (.call 48 (pz 143 8 11) [(.bin (nE 38 143 12 13) .Mult (.cst (.float 4618441417868443648) 0 (pz 143 16 19)) (pz 143 12 19))] (pz 143 8 20)) (pz 143 4 20),
 .asg (nT 49 144 4 5) (.bin (.bin (nE 38 144 8 9) .Mult (.cst (.float 4618441417868443648) 0 (pz 144 12 15)) (pz 144 8 15)) .Sub (nE 47 144 18 19) (pz 144 8 19)) (pz 144 4 19),
 .asg (nT 50 145 4 5) (.bin (nE 46 145 8 9) .Mult (.bin (.cst (.float 4607182418800017408) 0 (pz 145 13 16)) .Sub (nE 34 145 19 20) (pz 145 13 20)) (pz 145 8 21)) (pz 145 4 21),
 .asg (nT 21 146 4 5) (.bin (nE 46 146 8 9) .Mult (.bin (.cst (.float 4607182418800017408) 0 (pz 146 13 16)) .Sub (.bin (nE 34 146 19 20) .Mult (nE 49 146 23 24) (pz 146 19 24)) (pz 146 13 24)) (pz 146 8 25)) (pz 146 4 25),
 .asg (nT 51 147 4 5) (.bin (nE 46 147 8 9) .Mult (.bin (.cst (.float 4607182418800017408) 0 (pz 147 13 16)) .Sub (.bin (nE 34 147 19 20) .Mult (.bin (.cst (.float 4607182418800017408) 0 (pz 147 24 27)) .Sub (nE 49 147 30 31) (pz 147 24 31)) (pz 147 19 32)) (pz 147 13 32)) (pz 147 8 33)) (pz 147 4 33),
 .asg (nT 47 148 4 5) (.bin (nE 47 148 8 9) .Mod (iE 6 148 12 13) (pz 148 8 13)) (pz 148 4 13),
 .iff (.cmp (nE 47 149 7 8) [.Eq] [(iE 0 149 12 13)] (pz 149 7 13)) [.ret (.tup [(nE 46 150 16 17),(nE 51 150 19 20),(nE 50 150 22 23)] 0 (pz 150 15 24)) (pz 150 8 24)] [] ⟨149,4,150,24⟩,
 .iff (.cmp (nE 47 151 7 8) [.Eq] [(iE 1 151 12 13)] (pz 151 7 13)) [.ret (.tup [(nE 21 152 16 17),(nE 46 152 19 20),(nE 50 152 22 23)] 0 (pz 152 15 24)) (pz 152 8 24)] [] ⟨151,4,152,24⟩,
 .iff (.cmp (nE 47 153 7 8) [.Eq] [(iE 2 153 12 13)] (pz 153 7 13)) [.ret (.tup [(nE 50 154 16 17),(nE 46 154 19 20),(nE 51 154 22 23)] 0 (pz 154 15 24)) (pz 154 8 24)] [] ⟨153,4,154,24⟩,
 .iff (.cmp (nE 47 155 7 8) [.Eq] [(iE 3 155 12 13)] (pz 155 7 13)) [.ret (.tup [(nE 50 156 16 17),(nE 21 156 19 20),(nE 46 156 22 23)] 0 (pz 156 15 24)) (pz 156 8 24)] [] ⟨155,4,156,24⟩,
 .iff (.cmp (nE 47 157 7 8) [.Eq] [(iE 4 157 12 13)] (pz 157 7 13)) [.ret (.tup [(nE 51 158 16 17),(nE 50 158 19 20),(nE 46 158 22 23)] 0 (pz 158 15 24)) (pz 158 8 24)] [] ⟨157,4,158,24⟩,
 .iff (.cmp (nE 47 159 7 8) [.Eq] [(iE 5 159 12 13)] (pz 159 7 13)) [.ret (.tup [(nE 46 160 16 17),(nE 50 160 19 20),(nE 21 160 22 23)] 0 (pz 160 15 24)) (pz 160 8 24)] [] ⟨159,4,160,24⟩],⟨[(38,.local),(34,.local),(46,.local),(47,.local),(49,.local),(50,.local),(21,.local),(51,.local),(48,.globalImplicit)],[]⟩,true⟩
noncomputable def dw:FD:=⟨[(52,(pz 163 17 22))],[
 .asg (nT 53 164 4 9) (.list true [] (pz 164 12 14)) (pz 164 4 14),
 .for (nT 47 165 8 9) (.call 54 (pz 165 13 18) [(iE 32 165 19 21)] (pz 165 13 22)) [.asg (nT 55 166 8 12) (.bin (iE 1 166 15 16) .LShift (nE 47 166 20 21) (pz 166 15 21)) (pz 166 8 21),.iff (.bin (nE 52 167 11 16) .BitAnd (nE 55 167 19 23) (pz 167 11 23)) [.expr (.meth (nE 53 168 12 17) .append (pz 168 12 24) [(.meth (nE 56 168 25 44) .get (pz 168 25 48) [(nE 55 168 49 53),(.call 57 (pz 168 55 58) [(nE 55 168 59 63)] (pz 168 55 64))] (pz 168 25 65))] (pz 168 12 66)) (pz 168 12 66),.augN 52 (pz 169 12 17) .BitXor (nE 55 169 21 25) (pz 169 12 25),.iff (.una .Not (nE 52 170 19 24) (pz 170 15 24)) [.brk (pz 171 16 21)] [] ⟨170,12,171,21⟩] [] ⟨167,8,171,21⟩] [.expr (.meth (nE 53 173 8 13) .append (pz 173 8 20) [(.call 57 (pz 173 21 24) [(nE 52 173 25 30)] (pz 173 21 31))] (pz 173 8 32)) (pz 173 8 32)] ⟨165,4,173,32⟩,
 .ret (.meth (.cst (.str ⟨#[44,32]⟩) 0 (pz 174 11 15)) .join (pz 174 11 20) [(nE 53 174 21 26)] (pz 174 11 27)) (pz 174 4 27)],⟨[(52,.local),(53,.local),(47,.local),(55,.local),(54,.globalImplicit),(56,.globalImplicit),(57,.globalImplicit)],[]⟩,true⟩
noncomputable def aM:FD:=⟨[(58,(pz 224 17 23)),(59,(pz 224 25 30))],[
 .asg (nT 60 225 4 8) (.list false [] (pz 225 11 13)) (pz 225 4 13),
 .for (nT 61 226 8 9) (.call 54 (pz 226 13 18) [(nE 59 226 19 24)] (pz 226 13 25)) [.asg (nT 62 227 8 13) (.comp (.bin (.bin (.slc (nE 60 227 17 21) .none (some (nE 63 227 23 26)) .none (pz 227 22 26) (pz 227 17 27)) .Add (.list false [(.bin (.sub (.bin (nE 60 227 32 36) .Add (.list false [(iE 0 227 40 41)] (pz 227 39 42)) (pz 227 32 42)) (nE 63 227 44 47) (pz 227 31 48)) .Add (iE 1 227 51 52) (pz 227 31 52))] (pz 227 30 53)) (pz 227 17 53)) .Add (.slc (nE 60 227 56 60) (some (.bin (nE 63 227 61 64) .Add (iE 1 227 67 68) (pz 227 61 68))) .none .none (pz 227 61 69) (pz 227 56 70)) (pz 227 17 70)) (nT 63 227 75 78) (.call 54 (pz 227 82 87) [(.bin (.call 64 (pz 227 88 91) [(nE 60 227 92 96)] (pz 227 88 97)) .Add (iE 1 227 100 101) (pz 227 88 101))] (pz 227 82 102)) [] ⟨[(65,.local),(63,.local),(60,.free)],[]⟩ (pz 227 16 103)) (pz 227 8 103),.asg (nT 62 228 8 13) (.comp (nE 66 228 17 20) (.tup [(63,(pz 228 25 28)),(66,(pz 228 30 33))] 0 (pz 228 25 33)) (.call 67 (pz 228 37 46) [(nE 62 228 47 52)] (pz 228 37 53)) [(.bool .Or [(.cmp (nE 63 228 57 60) [.Eq] [(iE 0 228 64 65)] (pz 228 57 65)),(.cmp (.sub (nE 66 228 69 72) (nE 63 228 73 76) (pz 228 69 77)) [.LtE] [(.sub (nE 66 228 81 84) (.bin (nE 63 228 85 88) .Sub (iE 1 228 91 92) (pz 228 85 92)) (pz 228 81 93))] (pz 228 69 93))] (pz 228 57 93))] ⟨[(65,.local),(63,.local),(66,.local)],[]⟩ (pz 228 16 94)) (pz 228 8 94),.asg (nT 62 229 8 13) (.comp (nE 66 229 17 20) (nT 66 229 25 28) (nE 62 229 32 37) [(.cmp (.comp (nE 63 229 42 45) (nT 63 229 50 53) (.call 54 (pz 229 57 62) [(.bin (.call 64 (pz 229 63 66) [(nE 66 229 67 70)] (pz 229 63 71)) .Sub (iE 2 229 74 75) (pz 229 63 75))] (pz 229 57 76)) [(.cmp (.sub (nE 66 229 80 83) (nE 63 229 84 87) (pz 229 80 88)) [.Eq] [(.sub (nE 66 229 92 95) (.bin (nE 63 229 96 99) .Add (iE 2 229 102 103) (pz 229 96 103)) (pz 229 92 104))] (pz 229 80 104))] ⟨[(65,.local),(63,.local),(66,.free)],[]⟩ (pz 229 41 105)) [.Eq] [(.list false [] (pz 229 109 111))] (pz 229 41 111))] ⟨[(65,.local),(66,.cell),(54,.globalImplicit),(64,.globalImplicit)],[]⟩ (pz 229 16 112)) (pz 229 8 112),.asg (nT 60 230 8 12) (.sub (nE 62 230 15 20) (.bin (nE 58 230 21 27) .Mod (.call 64 (pz 230 30 33) [(nE 62 230 34 39)] (pz 230 30 40)) (pz 230 21 40)) (pz 230 15 41)) (pz 230 8 41),.augN 58 (pz 231 8 14) .FloorDiv (.call 64 (pz 231 19 22) [(nE 62 231 23 28)] (pz 231 19 29)) (pz 231 8 29)] [] ⟨226,4,231,29⟩,
 .ret (nE 60 232 11 15) (pz 232 4 15)],⟨[(58,.local),(59,.local),(60,.cell),(61,.local),(62,.local),(54,.globalImplicit),(64,.globalImplicit),(67,.globalImplicit)],[(fa,(.str ⟨#[110,117,109,98,101,114]⟩)),(fa,(.str ⟨#[98,111,120,101,115]⟩)),(fa,(.str ⟨#[114,111,119,115]⟩)),(fa,(.str ⟨#[95]⟩)),(fa,(.str ⟨#[114,111,119]⟩)),(fa,(.str ⟨#[103,114,111,119,110]⟩)),(fa,(.str ⟨#[111,110,101]⟩))]⟩,true⟩
noncomputable def cg:FD:=⟨[(60,(pz 233 17 21))],[
 .ret (.comp (.meth (.cst (.str ⟨#[]⟩) 0 (pz 234 12 14)) .join (pz 234 12 19) [(.comp (.sub (.cst (.str ⟨#[32,34,92]⟩) 0 (pz 234 21 27)) (.bin (.bin (nE 68 234 29 35) .Sub (nE 63 234 38 41) (pz 234 29 41)) .Mod (iE 3 234 45 46) (pz 234 28 46)) (pz 234 21 47)) (nT 68 234 52 58) (.call 54 (pz 234 62 67) [(nE 69 234 68 74)] (pz 234 62 75)) [] ⟨[(65,.local),(68,.local),(63,.free)],[]⟩ (pz 234 20 76))] (pz 234 12 77)) (.tup [(63,(pz 234 82 85)),(69,(pz 234 87 93))] 0 (pz 234 82 93)) (.call 67 (pz 234 97 106) [(nE 60 234 107 111)] (pz 234 97 112)) [] ⟨[(65,.local),(63,.cell),(69,.local),(54,.globalImplicit)],[]⟩ (pz 234 11 113)) (pz 234 4 113)],⟨[(60,.local),(67,.globalImplicit)],[(fa,(.str ⟨#[114,111,119,115]⟩)),(fa,(.str ⟨#[114,111,119]⟩)),(fa,(.str ⟨#[108,101,110,103,116,104]⟩)),(fa,(.str ⟨#[99,111,108,117,109,110]⟩))]⟩,true⟩
noncomputable def cU:FD:=⟨[(70,(pz 235 15 19)),(71,(pz 235 21 26))],[
 .asg (nT 72 236 4 9) (.comp (.meth (nE 70 236 13 17) .get_token (pz 236 13 27) [] (pz 236 13 29)) (nT 61 236 34 35) (.call 54 (pz 236 39 44) [(nE 71 236 45 50)] (pz 236 39 51)) [] ⟨[(65,.local),(61,.local),(70,.free)],[]⟩ (pz 236 12 52)) (pz 236 4 52),
 .for (nT 73 237 8 12) (nE 72 237 16 21) [.expr (.meth (nE 70 238 8 12) .push_token (pz 238 8 23) [(nE 73 238 24 28)] (pz 238 8 29)) (pz 238 8 29)] [] ⟨237,4,238,29⟩,
 .asg (.tup [(74,(pz 239 4 9)),(75,(pz 239 11 18)),(76,(pz 239 20 27))] 0 (pz 239 4 27)) (.tup [(.dict true [(iE 0 239 32 33),(iE 1 239 38 39),(iE 2 239 44 45)] [(iE 0 239 35 36),(iE 0 239 41 42),(iE 0 239 47 48)] (pz 239 31 49)),(.dict true [(iE 0 239 52 53),(iE 1 239 59 60),(iE 2 239 66 67)] [(.list true [] (pz 239 55 57)),(.list true [] (pz 239 62 64)),(.list true [] (pz 239 69 71))] (pz 239 51 72)),(.bin (.comp (.call 64 (pz 239 75 78) [(nE 73 239 79 83)] (pz 239 75 84)) (nT 73 239 89 93) (nE 72 239 97 102) [] ⟨[(65,.local),(73,.local),(64,.globalImplicit)],[]⟩ (pz 239 74 103)) .Add (.list false [(iE 0 239 107 108),(iE 0 239 110 111)] (pz 239 106 112)) (pz 239 74 112))] 0 (pz 239 30 113)) (pz 239 4 113),
 .for (nT 63 240 8 11) (.call 54 (pz 240 15 20) [(.bin (nE 71 240 21 26) .Add (iE 1 240 29 30) (pz 240 21 30))] (pz 240 15 31)) [.asg (nT 43 241 8 11) (.sub (.call 23 (pz 241 14 24) [(.bin (.sub (nE 76 241 25 32) (nE 63 241 33 36) (pz 241 25 37)) .Sub (nE 63 241 40 43) (pz 241 25 43)),(iE 3 241 45 46)] (pz 241 14 47)) (iE 1 241 48 49) (pz 241 14 50)) (pz 241 8 50),.asg (nT 77 242 8 12) (.bin (.bin (nE 43 242 16 19) .Add (iE 2 242 22 23) (pz 242 16 23)) .Mod (iE 3 242 27 28) (pz 242 15 28)) (pz 242 8 28),.iff (.bool .And [(.cmp (.sub (nE 76 243 11 18) (nE 63 243 19 22) (pz 243 11 23)) [.Gt] [(.sub (nE 76 243 26 33) (.bin (nE 63 243 34 37) .Add (iE 1 243 40 41) (pz 243 34 41)) (pz 243 26 42))] (pz 243 11 42)),(.sub (nE 75 243 47 54) (nE 77 243 55 59) (pz 243 47 60))] (pz 243 11 60)) [.expr (.meth (.sub (nE 75 244 12 19) (nE 77 244 20 24) (pz 244 12 25)) .pop (pz 244 12 29) [] (pz 244 12 31)) (pz 244 12 31)] [.iff (.cmp (.sub (nE 76 245 13 20) (nE 63 245 21 24) (pz 245 13 25)) [.Gt] [(.sub (nE 76 245 28 35) (.bin (nE 63 245 36 39) .Add (iE 1 245 42 43) (pz 245 36 43)) (pz 245 28 44))] (pz 245 13 44)) [.augS (nE 74 246 12 17) (nE 77 246 18 22) (pz 246 12 23) .Add (.bin (iE 1 246 27 28) .LShift (nE 63 246 32 35) (pz 246 27 35)) (pz 246 12 35)] [] ⟨245,8,246,35⟩] ⟨243,8,246,35⟩,.iff (.bool .Or [(.cmp (nE 63 247 11 14) [.Eq] [(iE 0 247 18 19)] (pz 247 11 19)),(.cmp (.sub (nE 76 247 23 30) (.bin (nE 63 247 31 34) .Sub (iE 1 247 37 38) (pz 247 31 38)) (pz 247 23 39)) [.Gt] [(.sub (nE 76 247 42 49) (nE 63 247 50 53) (pz 247 42 54))] (pz 247 23 54))] (pz 247 11 54)) [.expr (.meth (.sub (nE 75 248 12 19) (nE 43 248 20 23) (pz 248 12 24)) .append (pz 248 12 31) [(nE 63 248 32 35)] (pz 248 12 36)) (pz 248 12 36)] [] ⟨247,8,248,36⟩] [] ⟨240,4,248,36⟩,
 .ret (.tup [(nE 74 249 12 17),(.comp (.call 78 (pz 249 20 23) [(.comp (.bin (iE 1 249 25 26) .LShift (nE 63 249 30 33) (pz 249 25 33)) (nT 63 249 38 41) (.sub (nE 75 249 45 52) (nE 43 249 53 56) (pz 249 45 57)) [] ⟨[(65,.local),(63,.local)],[]⟩ (pz 249 24 58))] (pz 249 20 59)) (nT 43 249 64 67) (.call 54 (pz 249 71 76) [(iE 3 249 77 78)] (pz 249 71 79)) [] ⟨[(65,.local),(43,.local),(78,.globalImplicit),(75,.free)],[]⟩ (pz 249 19 80))] 0 (pz 249 11 81)) (pz 249 4 81)],⟨[(70,.cell),(71,.local),(72,.local),(73,.local),(74,.local),(75,.cell),(76,.local),(63,.local),(43,.local),(77,.local),(54,.globalImplicit),(23,.globalImplicit)],[(fa,(.str ⟨#[108,105,110,101]⟩)),(fa,(.str ⟨#[99,111,117,110,116]⟩)),(fa,(.str ⟨#[95]⟩)),(fa,(.str ⟨#[119,111,114,100,115]⟩)),(fa,(.str ⟨#[119,111,114,100]⟩)),(fa,(.str ⟨#[108,111,111,115,101]⟩)),(fa,(.str ⟨#[119,97,105,116,105,110,103]⟩)),(fa,(.str ⟨#[108,101,110,103,116,104,115]⟩)),(fa,(.str ⟨#[114,111,119]⟩)),(fa,(.str ⟨#[104,117,101]⟩)),(fa,(.str ⟨#[108,97,115,116]⟩))]⟩,false⟩
noncomputable def bz:FD:=⟨[(70,(pz 250 17 21)),(71,(pz 250 23 28)),(63,(pz 250 30 33)),(79,(pz 250 35 39))],[
 .asg (nT 72 251 4 9) (.iW (.comp (.meth (nE 70 251 13 17) .get_token (pz 251 13 27) [] (pz 251 13 29)) (nT 61 251 34 35) (.call 54 (pz 251 39 44) [(nE 71 251 45 50)] (pz 251 39 51)) [] ⟨[(65,.local),(61,.local),(70,.free)],[]⟩ (pz 251 12 52)) (.list false [(.cst (.str ⟨#[]⟩) 0 (pz 251 56 58))] (pz 251 55 59)) (pz 251 12 59)) (pz 251 4 59),
 .asgS (nE 72 252 4 9) (nE 63 252 10 13) (pz 252 4 14) (.ife (nE 79 252 38 42) (.bin (.sub (nE 72 252 17 22) (nE 63 252 23 26) (pz 252 17 27)) .Add (nE 79 252 30 34) (pz 252 17 34)) (.slc (.sub (nE 72 252 48 53) (nE 63 252 54 57) (pz 252 48 58)) .none (some (.una .USub (iE 1 252 61 62) (pz 252 60 62))) .none (pz 252 59 62) (pz 252 48 63)) (pz 252 17 63)) (pz 252 4 63),
 .asg (nT 72 253 4 9) (.comp (nE 73 253 13 17) (nT 73 253 22 26) (nE 72 253 30 35) [(nE 73 253 39 43)] ⟨[(65,.local),(73,.local)],[]⟩ (pz 253 12 44)) (pz 253 4 44),
 .for (nT 73 254 8 12) (nE 72 254 16 21) [.expr (.meth (nE 70 255 8 12) .push_token (pz 255 8 23) [(nE 73 255 24 28)] (pz 255 8 29)) (pz 255 8 29)] [] ⟨254,4,255,29⟩,
 .ret (.call 64 (pz 256 11 14) [(nE 72 256 15 20)] (pz 256 11 21)) (pz 256 4 21)],⟨[(70,.cell),(71,.local),(63,.local),(79,.local),(72,.local),(73,.local),(54,.globalImplicit),(64,.globalImplicit)],[(fa,(.str ⟨#[108,105,110,101]⟩)),(fa,(.str ⟨#[99,111,117,110,116]⟩)),(fa,(.str ⟨#[114,111,119]⟩)),(fa,(.str ⟨#[115,105,103,110]⟩)),(fa,(.str ⟨#[95]⟩)),(fa,(.str ⟨#[119,111,114,100,115]⟩)),(fa,(.str ⟨#[119,111,114,100]⟩))]⟩,false⟩
noncomputable def aR:FD:=⟨[(43,(pz 257 18 21)),(80,(pz 257 23 27))],[
 .asg (.tup [(81,(pz 258 4 9)),(82,(pz 258 11 16))] 0 (pz 258 4 16)) (.tup [(.sub (.list false [(iE 8 258 21 22),(iE 9 258 24 25),(iE 16 258 27 29)] (pz 258 20 30)) (.bin (.bin (nE 80 258 31 35) .FloorDiv (iE 2 258 39 40) (pz 258 31 40)) .Mod (iE 3 258 43 44) (pz 258 31 44)) (pz 258 20 45)),(.comp (.ife (.cmp (nE 66 258 53 56) [.Eq] [(nE 43 258 60 63)] (pz 258 53 63)) (iE 8 258 48 49) (.bin (.bin (nE 80 258 70 74) .Add (.bin (iE 3 258 77 78) .Mult (nE 66 258 81 84) (pz 258 77 84)) (pz 258 70 84)) .Mod (iE 8 258 88 89) (pz 258 69 89)) (pz 258 48 89)) (nT 66 258 94 97) (.call 54 (pz 258 101 106) [(iE 3 258 107 108)] (pz 258 101 109)) [] ⟨[(65,.local),(66,.local),(43,.free),(80,.free)],[]⟩ (pz 258 47 110))] 0 (pz 258 19 111)) (pz 258 4 111),
 .iff (.bin (nE 80 259 7 11) .Mod (iE 2 259 14 15) (pz 259 7 15)) [.asg (.tup [(83,(pz 260 8 12)),(84,(pz 260 14 19)),(85,(pz 260 21 26))] 0 (pz 260 8 26)) (.callS 86 (pz 260 29 39) (.comp (.bin (nE 87 260 42 46) .Div (nE 81 260 49 54) (pz 260 42 54)) (nT 87 260 59 63) (nE 82 260 67 72) [] ⟨[(65,.local),(87,.local),(81,.free)],[]⟩ (pz 260 41 73)) (pz 260 40 73) (pz 260 29 74)) (pz 260 8 74),.asg (nT 88 261 8 13) (.call 89 (pz 261 16 26) [(.bin (.bin (iE 1 261 28 29) .Sub (nE 83 261 32 36) (pz 261 28 36)) .Mod (iE 1 261 40 41) (pz 261 27 41)),(nE 84 261 43 48),(nE 85 261 50 55)] (pz 261 16 56)) (pz 261 8 56)] [.asg (.tup [(83,(pz 263 8 12)),(85,(pz 263 14 19)),(84,(pz 263 21 26))] 0 (pz 263 8 26)) (.callS 90 (pz 263 29 39) (.comp (.bin (nE 87 263 42 46) .Div (nE 81 263 49 54) (pz 263 42 54)) (nT 87 263 59 63) (nE 82 263 67 72) [] ⟨[(65,.local),(87,.local),(81,.free)],[]⟩ (pz 263 41 73)) (pz 263 40 73) (pz 263 29 74)) (pz 263 8 74),.asg (nT 88 264 8 13) (.call 91 (pz 264 16 26) [(.bin (.bin (iE 1 264 28 29) .Sub (nE 83 264 32 36) (pz 264 28 36)) .Mod (iE 1 264 40 41) (pz 264 27 41)),(nE 85 264 43 48),(nE 84 264 50 55)] (pz 264 16 56)) (pz 264 8 56)] ⟨259,4,264,56⟩,
 .iff (.cmp (.bin (.call 28 (pz 265 7 10) [(.comp (.call 92 (pz 265 12 15) [(.bin (.bin (.sub (nE 88 265 16 21) (nE 66 265 22 25) (pz 265 16 26)) .Mult (nE 81 265 29 34) (pz 265 16 34)) .Sub (.sub (nE 82 265 37 42) (.una .USub (nE 66 265 44 47) (pz 265 43 47)) (pz 265 37 48)) (pz 265 16 48))] (pz 265 12 49)) (nT 66 265 54 57) (.call 54 (pz 265 61 66) [(iE 3 265 67 68)] (pz 265 61 69)) [] ⟨[(65,.local),(66,.local),(92,.globalImplicit),(88,.free),(81,.free),(82,.free)],[]⟩ (pz 265 11 70))] (pz 265 7 71)) .Mult (.bin (iE 2 265 74 75) .Pow (iE 30 265 79 81) (pz 265 74 81)) (pz 265 7 81)) [.Gt] [(iE 1 265 84 85)] (pz 265 7 85)) [.ret (.una .USub (iE 1 266 16 17) (pz 266 15 17)) (pz 266 8 17)] [] ⟨265,4,266,17⟩,
 .ret (.meth (.comp (.call 48 (pz 267 12 15) [(.cmp (.bin (nE 87 267 16 20) .Mult (nE 81 267 23 28) (pz 267 16 28)) [.Gt] [(.bin (iE 15 267 31 33) .Div (iE 2 267 36 37) (pz 267 31 37))] (pz 267 16 37))] (pz 267 12 38)) (nT 87 267 43 47) (nE 88 267 51 56) [] ⟨[(65,.local),(87,.local),(48,.globalImplicit),(81,.free)],[]⟩ (pz 267 11 57)) .index (pz 267 11 63) [(iE 1 267 64 65)] (pz 267 11 66)) (pz 267 4 66)],⟨[(43,.cell),(80,.cell),(81,.cell),(82,.cell),(83,.local),(84,.local),(85,.local),(88,.cell),(54,.globalImplicit),(86,.globalImplicit),(89,.globalImplicit),(90,.globalImplicit),(91,.globalImplicit),(28,.globalImplicit)],[(fa,(.str ⟨#[104,117,101]⟩)),(fa,(.str ⟨#[115,101,101,100]⟩)),(fa,(.str ⟨#[111,110,101]⟩)),(fa,(.str ⟨#[115,99,97,108,101]⟩)),(fa,(.str ⟨#[115,104,97,100,101]⟩)),(fa,(.str ⟨#[112,97,114,116]⟩)),(fa,(.str ⟨#[116,111,108,100]⟩)),(fa,(.str ⟨#[108,101,118,101,108]⟩)),(fa,(.str ⟨#[115,104,97,114,101]⟩)),(fa,(.str ⟨#[112,97,105,110,116]⟩))]⟩,true⟩
noncomputable def dX:FD:=⟨[(60,(pz 268 14 18))],[
 .asg (nT 93 269 4 8) (.list true [] (pz 269 11 13)) (pz 269 4 13),
 .whl (.bool .And [(nE 60 270 10 14),(.cmp (.call 64 (pz 270 19 22) [(nE 93 270 23 27)] (pz 270 19 28)) [.Lt] [(iE 8 270 31 32)] (pz 270 19 32))] (pz 270 10 32)) [.asg (.tup [(94,(pz 271 8 12)),(95,(pz 271 14 19)),(59,(pz 271 21 26))] 0 (pz 271 8 26)) (.tup [(.list true [] (pz 271 30 32)),(iE 0 271 34 35),(iE 0 271 37 38)] 0 (pz 271 29 39)) (pz 271 8 39),.for (.tup [(63,(pz 272 12 15)),(69,(pz 272 17 23))] 0 (pz 272 12 23)) (.call 67 (pz 272 27 36) [(nE 60 272 37 41)] (pz 272 27 42)) [.asg (nT 96 273 12 17) (.ife (.cmp (.bin (nE 63 273 37 40) .Add (iE 1 273 43 44) (pz 273 37 44)) [.Lt] [(.call 64 (pz 273 47 50) [(nE 60 273 51 55)] (pz 273 47 56))] (pz 273 37 56)) (.sub (nE 60 273 20 24) (.bin (nE 63 273 25 28) .Add (iE 1 273 31 32) (pz 273 25 32)) (pz 273 20 33)) (iE 1 273 62 63) (pz 273 20 63)) (pz 273 12 63),.asg (nT 97 274 12 15) (.call 30 (pz 274 18 21) [(.bin (.bin (nE 69 274 22 28) .Sub (nE 96 274 31 36) (pz 274 22 36)) .Add (iE 1 274 39 40) (pz 274 22 40)),(.bin (iE 3 274 42 43) .Sub (nE 95 274 46 51) (pz 274 42 51))] (pz 274 18 52)) (pz 274 12 52),.asg (.tup [(95,(pz 275 12 17)),(59,(pz 275 19 24))] 0 (pz 275 12 24)) (.tup [(.bin (.bin (nE 95 275 29 34) .Add (nE 97 275 37 40) (pz 275 29 40)) .Mod (iE 3 275 44 45) (pz 275 28 45)),(.bin (nE 59 275 47 52) .Add (nE 97 275 55 58) (pz 275 47 58))] 0 (pz 275 27 59)) (pz 275 12 59),.expr (.meth (nE 94 276 12 16) .append (pz 276 12 23) [(.bin (nE 69 276 24 30) .Sub (nE 97 276 33 36) (pz 276 24 36))] (pz 276 12 37)) (pz 276 12 37)] [] ⟨272,8,276,37⟩,.expr (.meth (nE 93 277 8 12) .append (pz 277 8 19) [(.tup [(nE 59 277 21 26),(.call 64 (pz 277 28 31) [(nE 60 277 32 36)] (pz 277 28 37))] 0 (pz 277 20 38))] (pz 277 8 39)) (pz 277 8 39),.asg (nT 60 278 8 12) (.comp (nE 69 278 16 22) (nT 69 278 27 33) (nE 94 278 37 41) [(nE 69 278 45 51)] ⟨[(65,.local),(69,.local)],[]⟩ (pz 278 15 52)) (pz 278 8 52)] [] ⟨270,4,278,52⟩,
 .ret (nE 93 279 11 15) (pz 279 4 15)],⟨[(60,.local),(93,.local),(94,.local),(95,.local),(59,.local),(63,.local),(69,.local),(96,.local),(97,.local),(64,.globalImplicit),(67,.globalImplicit),(30,.globalImplicit)],[(fa,(.str ⟨#[114,111,119,115]⟩)),(fa,(.str ⟨#[114,105,109,115]⟩)),(fa,(.str ⟨#[107,101,112,116]⟩)),(fa,(.str ⟨#[115,116,114,105,112]⟩)),(fa,(.str ⟨#[98,111,120,101,115]⟩)),(fa,(.str ⟨#[114,111,119]⟩)),(fa,(.str ⟨#[108,101,110,103,116,104]⟩)),(fa,(.str ⟨#[98,101,108,111,119]⟩)),(fa,(.str ⟨#[99,117,116]⟩))]⟩,true⟩
noncomputable def bC:FD:=⟨[(98,(pz 280 8 14))],[
 .asg (nT 99 281 4 9) (.list true [(iE 195 281 13 16),(iE 6 281 18 19),(iE 112 281 21 24)] (pz 281 12 25)) (pz 281 4 25),
 .for (.tup [(100,(pz 282 8 13)),(58,(pz 282 15 21))] 0 (pz 282 8 21)) (.call 67 (pz 282 25 34) [(.slc (nE 98 282 35 41) .none (some (iE 60 282 43 45)) .none (pz 282 42 45) (pz 282 35 46))] (pz 282 25 47)) [.augS (nE 99 283 8 13) (.bin (nE 100 283 14 19) .Mod (iE 3 283 22 23) (pz 283 14 23)) (pz 283 8 24) .Add (.bin (nE 58 283 28 34) .Mod (.bin (iE 10 283 37 39) .Pow (iE 6 283 43 44) (pz 283 37 44)) (pz 283 28 44)) (pz 283 8 44)] [] ⟨282,4,283,44⟩,
 .asg (.tup [(101,(pz 284 4 8)),(53,(pz 284 10 15))] 0 (pz 284 4 15)) (.tup [(.bin (iE 4 284 19 20) .Add (.bin (.sub (nE 99 284 23 28) (iE 0 284 29 30) (pz 284 23 31)) .Mod (iE 4 284 34 35) (pz 284 23 35)) (pz 284 19 35)),(.list false [(.cst (.str ⟨#[79,80,84,73,77,73,90,69,68]⟩) 0 (pz 284 38 49)),(.cst (.str ⟨#[78,69,87,76,79,67,65,76,83]⟩) 0 (pz 284 51 62)),(.cst (.str ⟨#[86,65,82,65,82,71,83]⟩) 0 (pz 284 64 73)),(.cst (.str ⟨#[86,65,82,75,69,89,87,79,82,68,83]⟩) 0 (pz 284 75 88)),(.cst (.str ⟨#[78,69,83,84,69,68]⟩) 0 (pz 284 90 98)),(.cst (.str ⟨#[71,69,78,69,82,65,84,79,82]⟩) 0 (pz 284 100 111)),(.cst (.str ⟨#[78,79,70,82,69,69]⟩) 0 (pz 284 113 121)),(.cst (.str ⟨#[67,79,82,79,85,84,73,78,69]⟩) 0 (pz 284 123 134))] (pz 284 37 135))] 0 (pz 284 18 136)) (pz 284 4 136),
 .asg (nT 60 285 4 8) (.call 102 (pz 285 11 23) [(.bin (.sub (nE 99 285 24 29) (iE 0 285 30 31) (pz 285 24 32)) .FloorDiv (iE 4 285 36 37) (pz 285 24 37)),(nE 101 285 39 43)] (pz 285 11 44)) (pz 285 4 44),
 .asg (.tup [(103,(pz 286 4 11)),(104,(pz 286 13 17))] 0 (pz 286 4 17)) (.tup [(.call 105 (pz 286 21 33) [(nE 60 286 34 38)] (pz 286 21 39)),(.cst (.str ⟨#[]⟩) 0 (pz 286 41 43))] 0 (pz 286 20 44)) (pz 286 4 44),
 .for (.tup [(100,(pz 287 8 13)),(73,(pz 287 15 19))] 0 (pz 287 8 19)) (.call 67 (pz 287 23 32) [(nE 103 287 33 40)] (pz 287 23 41)) [.asg (.tup [(106,(pz 288 8 12)),(107,(pz 288 14 17))] 0 (pz 288 8 17)) (.tup [(.bin (.bin (.sub (nE 99 288 21 26) (iE 1 288 27 28) (pz 288 21 29)) .FloorDiv (.bin (iE 3 288 33 34) .Pow (nE 100 288 38 43) (pz 288 33 43)) (pz 288 21 43)) .Mod (iE 3 288 46 47) (pz 288 21 47)),(.sub (.list false [(.cst (.str ⟨#[10]⟩) 0 (pz 288 50 54)),(.cst (.str ⟨#[32,9]⟩) 0 (pz 288 56 61)),(.cst (.str ⟨#[13,10]⟩) 0 (pz 288 63 69)),(.cst (.str ⟨#[32,32]⟩) 0 (pz 288 71 75))] (pz 288 49 76)) (.bin (.bin (.bin (.sub (nE 99 288 78 83) (iE 1 288 84 85) (pz 288 78 86)) .FloorDiv (iE 729 288 90 93) (pz 288 78 93)) .Add (nE 100 288 96 101) (pz 288 78 101)) .Mod (iE 4 288 105 106) (pz 288 77 106)) (pz 288 49 107))] 0 (pz 288 20 108)) (pz 288 8 108),.asg (.tup [(108,(pz 289 8 12)),(109,(pz 289 14 20))] 0 (pz 289 8 20)) (.tup [(.sub (.list false [(.cst (.str ⟨#[]⟩) 0 (pz 289 25 27)),(.cst (.str ⟨#[34]⟩) 0 (pz 289 29 32)),(.cst (.str ⟨#[34]⟩) 0 (pz 289 34 37))] (pz 289 24 38)) (nE 106 289 39 43) (pz 289 24 44)),(.sub (.list false [(nE 73 289 47 51),(nE 73 289 53 57),(.cst (.str ⟨#[34,92]⟩) 0 (pz 289 59 64))] (pz 289 46 65)) (nE 106 289 66 70) (pz 289 46 71))] 0 (pz 289 23 72)) (pz 289 8 72),.augN 104 (pz 290 8 12) .Add (.bin (.bin (.bin (nE 108 290 16 20) .Add (.meth (.cst (.str ⟨#[]⟩) 0 (pz 290 23 25)) .join (pz 290 23 30) [(.comp (.ife (.cmp (nE 79 290 47 51) [.In] [(nE 109 290 55 61)] (pz 290 47 61)) (.bin (.cst (.str ⟨#[92]⟩) 0 (pz 290 32 36)) .Add (nE 79 290 39 43) (pz 290 32 43)) (nE 79 290 67 71) (pz 290 32 71)) (nT 79 290 76 80) (nE 73 290 84 88) [] ⟨[(65,.local),(79,.local),(109,.free)],[]⟩ (pz 290 31 89))] (pz 290 23 90)) (pz 290 16 90)) .Add (nE 108 290 93 97) (pz 290 16 97)) .Add (nE 107 290 100 103) (pz 290 16 103)) (pz 290 8 103)] [] ⟨287,4,290,103⟩,
 .asg (.tup [(110,(pz 291 4 9)),(70,(pz 291 11 15))] 0 (pz 291 4 15)) (.tup [(.call 111 (pz 291 19 29) [(.bin (nE 104 291 30 34) .Add (.sub (.list false [(.cst (.str ⟨#[101,110,100]⟩) 0 (pz 291 38 43)),(.cst (.str ⟨#[34,101,110,100]⟩) 0 (pz 291 45 51)),(.cst (.str ⟨#[101,92,110,100]⟩) 0 (pz 291 53 60)),(.cst (.str ⟨#[34,101,110,100,34]⟩) 0 (pz 291 62 69))] (pz 291 37 70)) (.bin (.sub (nE 99 291 71 76) (iE 2 291 77 78) (pz 291 71 79)) .Mod (iE 4 291 82 83) (pz 291 71 83)) (pz 291 37 84)) (pz 291 30 84))] (pz 291 19 85)),(.call 111 (pz 291 87 97) [(.cst (.str ⟨#[]⟩) 0 (pz 291 98 100))] (pz 291 87 101))] 0 (pz 291 18 102)) (pz 291 4 102),
 .asg (nT 112 292 4 8) (.comp (.meth (nE 110 292 12 17) .get_token (pz 292 12 27) [] (pz 292 12 29)) (nT 61 292 34 35) (nE 103 292 39 46) [] ⟨[(65,.local),(61,.local),(110,.free)],[]⟩ (pz 292 11 47)) (pz 292 4 47),
 .for (nT 73 293 8 12) (nE 112 293 16 20) [.expr (.meth (nE 70 294 8 12) .push_token (pz 294 8 23) [(nE 73 294 24 28)] (pz 294 8 29)) (pz 294 8 29)] [] ⟨293,4,294,29⟩,
 .iff (.bool .Or [(.cmp (nE 112 295 7 11) [.NotEq] [(nE 103 295 15 22)] (pz 295 7 22)),(.cmp (.list false [(.meth (nE 110 295 27 32) .get_token (pz 295 27 42) [] (pz 295 27 44)),(.meth (nE 110 295 46 51) .get_token (pz 295 46 61) [] (pz 295 46 63))] (pz 295 26 64)) [.NotEq] [(.list false [(.cst (.str ⟨#[101,110,100]⟩) 0 (pz 295 69 74)),(.cst (.str ⟨#[]⟩) 0 (pz 295 76 78))] (pz 295 68 79))] (pz 295 26 79))] (pz 295 7 79)) [.ret (.cst (.bool false) 0 (pz 296 15 20)) (pz 296 8 20)] [] ⟨295,4,296,20⟩,
 .asg (.tup [(71,(pz 297 4 9)),(113,(pz 297 11 15))] 0 (pz 297 4 15)) (.tup [(.call 64 (pz 297 19 22) [(nE 60 297 23 27)] (pz 297 19 28)),(iE 0 297 30 31)] 0 (pz 297 18 32)) (pz 297 4 32),
 .for (nT 114 298 8 12) (.call 54 (pz 298 16 21) [(nE 101 298 22 26)] (pz 298 16 27)) [.asg (.tup [(74,(pz 299 8 13)),(75,(pz 299 15 22))] 0 (pz 299 8 22)) (.call 115 (pz 299 25 35) [(nE 70 299 36 40),(nE 71 299 42 47)] (pz 299 25 48)) (pz 299 8 48),.asg (nT 116 300 8 12) (.comp (nE 43 300 16 19) (nT 43 300 24 27) (.call 54 (pz 300 31 36) [(iE 3 300 37 38)] (pz 300 31 39)) [(.sub (nE 74 300 43 48) (nE 43 300 49 52) (pz 300 43 53))] ⟨[(65,.local),(43,.local),(74,.free)],[]⟩ (pz 300 15 54)) (pz 300 8 54),.iff (.cmp (nE 116 301 11 15) [.Eq] [(.list false [] (pz 301 19 21))] (pz 301 11 21)) [.ret (.cst (.bool false) 0 (pz 302 19 24)) (pz 302 12 24)] [] ⟨301,8,302,24⟩,.asg (nT 43 303 8 11) (.sub (nE 116 303 14 18) (.bin (.bin (.bin (.bin (.sub (nE 99 303 19 24) (iE 2 303 25 26) (pz 303 19 27)) .FloorDiv (iE 4 303 31 32) (pz 303 19 32)) .FloorDiv (.bin (iE 3 303 36 37) .Pow (nE 114 303 41 45) (pz 303 36 45)) (pz 303 19 45)) .Mod (iE 3 303 48 49) (pz 303 19 49)) .Mod (.call 64 (pz 303 52 55) [(nE 116 303 56 60)] (pz 303 52 61)) (pz 303 19 61)) (pz 303 14 62)) (pz 303 8 62),.asg (nT 117 304 8 12) (.comp (.meth (nE 53 304 16 21) .index (pz 304 16 27) [(nE 73 304 28 32)] (pz 304 16 33)) (nT 73 304 38 42) (.meth (.call 118 (pz 304 46 58) [(.sub (nE 74 304 59 64) (nE 43 304 65 68) (pz 304 59 69))] (pz 304 46 70)) .split (pz 304 46 76) [(.cst (.str ⟨#[44,32]⟩) 0 (pz 304 77 81))] (pz 304 46 82)) [] ⟨[(65,.local),(73,.local),(53,.free)],[]⟩ (pz 304 15 83)) (pz 304 8 83),.iff (.cmp (nE 117 305 11 15) [.NotEq] [(.comp (nE 63 305 20 23) (nT 63 305 28 31) (.call 54 (pz 305 35 40) [(nE 71 305 41 46)] (pz 305 35 47)) [(.bin (.bin (.sub (nE 74 305 51 56) (nE 43 305 57 60) (pz 305 51 61)) .RShift (nE 63 305 65 68) (pz 305 51 68)) .BitAnd (iE 1 305 71 72) (pz 305 51 72))] ⟨[(65,.local),(63,.local),(43,.free),(74,.free)],[]⟩ (pz 305 19 73))] (pz 305 11 73)) [.ret (.cst (.bool false) 0 (pz 306 19 24)) (pz 306 12 24)] [] ⟨305,8,306,24⟩,.asg (.tup [(71,(pz 307 8 13)),(113,(pz 307 15 19))] 0 (pz 307 8 19)) (.tup [(.call 119 (pz 307 23 35) [(nE 70 307 36 40),(nE 71 307 42 47),(.sub (nE 117 307 49 53) (.una .USub (iE 1 307 55 56) (pz 307 54 56)) (pz 307 49 57)),(.cst (.str ⟨#[]⟩) 0 (pz 307 59 61))] (pz 307 23 62)),(.bin (.bin (.bin (.una .USub (iE 1000 307 65 69) (pz 307 64 69)) .Mult (nE 113 307 72 76) (pz 307 64 76)) .Sub (nE 43 307 79 82) (pz 307 64 82)) .Sub (iE 1 307 85 86) (pz 307 64 86))] 0 (pz 307 22 87)) (pz 307 8 87)] [] ⟨298,4,307,87⟩,
 .for (nT 114 308 8 12) (.call 54 (pz 308 16 21) [(nE 101 308 22 26)] (pz 308 16 27)) [.asg (.tup [(113,(pz 309 8 12)),(120,(pz 309 14 20))] 0 (pz 309 8 20)) (.call 23 (pz 309 23 33) [(nE 113 309 34 38),(.una .USub (iE 1000 309 41 45) (pz 309 40 45))] (pz 309 23 46)) (pz 309 8 46),.asg (nT 43 310 8 11) (.ife (.cmp (.una .USub (iE 4 310 62 63) (pz 310 61 63)) [.Lt,.Lt] [(nE 120 310 66 72),(iE 0 310 75 76)] (pz 310 61 76)) (.call 121 (pz 310 14 27) [(.bin (.una .USub (nE 120 310 29 35) (pz 310 28 35)) .Sub (iE 1 310 38 39) (pz 310 28 39)),(.bin (.sub (nE 99 310 41 46) (iE 2 310 47 48) (pz 310 41 49)) .Add (nE 114 310 52 56) (pz 310 41 56))] (pz 310 14 57)) (.una .USub (iE 1 310 83 84) (pz 310 82 84)) (pz 310 14 84)) (pz 310 8 84),.asg (.tup [(74,(pz 311 8 13)),(75,(pz 311 15 22))] 0 (pz 311 8 22)) (.call 115 (pz 311 25 35) [(nE 70 311 36 40),(nE 71 311 42 47)] (pz 311 25 48)) (pz 311 8 48),.iff (.bool .Or [(.cmp (nE 43 312 11 14) [.Lt] [(iE 0 312 17 18)] (pz 312 11 18)),(.cmp (.sub (nE 75 312 22 29) (nE 43 312 30 33) (pz 312 22 34)) [.Eq] [(iE 0 312 38 39)] (pz 312 22 39))] (pz 312 11 39)) [.ret (.cst (.bool false) 0 (pz 313 19 24)) (pz 313 12 24)] [] ⟨312,8,313,24⟩,.asg (nT 117 314 8 12) (.comp (.meth (nE 53 314 16 21) .index (pz 314 16 27) [(nE 73 314 28 32)] (pz 314 16 33)) (nT 73 314 38 42) (.meth (.call 118 (pz 314 46 58) [(.sub (nE 75 314 59 66) (nE 43 314 67 70) (pz 314 59 71))] (pz 314 46 72)) .split (pz 314 46 78) [(.cst (.str ⟨#[44,32]⟩) 0 (pz 314 79 83))] (pz 314 46 84)) [] ⟨[(65,.local),(73,.local),(53,.free)],[]⟩ (pz 314 15 85)) (pz 314 8 85),.iff (.cmp (nE 117 315 11 15) [.NotEq] [(.comp (nE 63 315 20 23) (nT 63 315 28 31) (.call 54 (pz 315 35 40) [(.bin (nE 71 315 41 46) .Add (iE 1 315 49 50) (pz 315 41 50))] (pz 315 35 51)) [(.bin (.bin (.sub (nE 75 315 55 62) (nE 43 315 63 66) (pz 315 55 67)) .RShift (nE 63 315 71 74) (pz 315 55 74)) .BitAnd (iE 1 315 77 78) (pz 315 55 78))] ⟨[(65,.local),(63,.local),(43,.free),(75,.free)],[]⟩ (pz 315 19 79))] (pz 315 11 79)) [.ret (.cst (.bool false) 0 (pz 316 19 24)) (pz 316 12 24)] [] ⟨315,8,316,24⟩,.asg (nT 71 317 8 13) (.call 119 (pz 317 16 28) [(nE 70 317 29 33),(nE 71 317 35 40),(.sub (nE 117 317 42 46) (iE 0 317 47 48) (pz 317 42 49)),(.sub (.cst (.str ⟨#[32,34,92]⟩) 0 (pz 317 51 57)) (nE 43 317 58 61) (pz 317 51 62))] (pz 317 16 63)) (pz 317 8 63)] [] ⟨308,4,317,63⟩,
 .asg (nT 72 318 4 9) (.comp (.meth (nE 70 318 13 17) .get_token (pz 318 13 27) [] (pz 318 13 29)) (nT 61 318 34 35) (.call 54 (pz 318 39 44) [(.bin (nE 71 318 45 50) .Add (iE 1 318 53 54) (pz 318 45 54))] (pz 318 39 55)) [] ⟨[(65,.local),(61,.local),(70,.free)],[]⟩ (pz 318 12 56)) (pz 318 4 56),
 .asg (nT 122 319 4 9) (.comp (.call 64 (pz 319 13 16) [(nE 73 319 17 21)] (pz 319 13 22)) (nT 73 319 27 31) (.slc (nE 72 319 35 40) .none (some (nE 71 319 42 47)) .none (pz 319 41 47) (pz 319 35 48)) [] ⟨[(65,.local),(73,.local),(64,.globalImplicit)],[]⟩ (pz 319 12 49)) (pz 319 4 49),
 .asg (nT 123 320 4 7) (.comp (.tup [(nE 59 320 12 17),(.bin (.bin (nE 59 320 19 24) .Add (.call 48 (pz 320 27 30) [(.cmp (.bin (nE 59 320 31 36) .Mod (iE 3 320 39 40) (pz 320 31 40)) [.Gt] [(iE 0 320 43 44)] (pz 320 31 44))] (pz 320 27 45)) (pz 320 19 45)) .Sub (nE 124 320 48 53) (pz 320 19 53))] 0 (pz 320 11 54)) (.tup [(59,(pz 320 59 64)),(124,(pz 320 66 71))] 0 (pz 320 59 71)) (.call 125 (pz 320 75 84) [(nE 60 320 85 89)] (pz 320 75 90)) [] ⟨[(65,.local),(59,.local),(124,.local),(48,.globalImplicit)],[]⟩ (pz 320 10 91)) (pz 320 4 91),
 .ret (.bool .And [(.cmp (nE 113 321 11 15) [.Eq] [(iE 0 321 19 20)] (pz 321 11 20)),(.cmp (nE 123 321 25 28) [.Eq] [(.call 125 (pz 321 32 41) [(nE 122 321 42 47)] (pz 321 32 48))] (pz 321 25 48)),(.cmp (nE 72 321 54 59) [.Eq] [(.bin (.call 105 (pz 321 63 75) [(nE 122 321 76 81)] (pz 321 63 82)) .Add (.list false [(.cst (.str ⟨#[]⟩) 0 (pz 321 86 88))] (pz 321 85 89)) (pz 321 63 89))] (pz 321 54 89)),(.cmp (.attr (nE 110 321 96 101) .lineno (pz 321 96 108)) [.Eq] [(.bin (iE 1 321 112 113) .Add (.meth (nE 104 321 116 120) .count (pz 321 116 126) [(.cst (.str ⟨#[10]⟩) 0 (pz 321 127 131))] (pz 321 116 132)) (pz 321 112 132))] (pz 321 96 132))] (pz 321 11 133)) (pz 321 4 133)],⟨[(98,.local),(99,.local),(100,.local),(58,.local),(101,.local),(53,.cell),(60,.local),(103,.local),(104,.local),(73,.local),(106,.local),(107,.local),(108,.local),(109,.cell),(110,.cell),(70,.cell),(112,.local),(71,.local),(113,.local),(114,.local),(74,.cell),(75,.cell),(43,.cell),(116,.local),(117,.local),(120,.local),(72,.local),(122,.local),(123,.local),(67,.globalImplicit),(102,.globalImplicit),(105,.globalImplicit),(111,.globalImplicit),(64,.globalImplicit),(54,.globalImplicit),(115,.globalImplicit),(118,.globalImplicit),(119,.globalImplicit),(23,.globalImplicit),(121,.globalImplicit),(125,.globalImplicit)],[(fa,(.str ⟨#[115,99,114,105,112,116]⟩)),(fa,(.str ⟨#[99,101,108,108,115]⟩)),(fa,(.str ⟨#[112,108,97,99,101]⟩)),(fa,(.str ⟨#[110,117,109,98,101,114]⟩)),(fa,(.str ⟨#[115,105,122,101]⟩)),(fa,(.str ⟨#[110,97,109,101,115]⟩)),(fa,(.str ⟨#[114,111,119,115]⟩)),(fa,(.str ⟨#[112,97,105,110,116,101,100]⟩)),(fa,(.str ⟨#[116,101,120,116]⟩)),(fa,(.str ⟨#[119,111,114,100]⟩)),(fa,(.str ⟨#[107,105,110,100]⟩)),(fa,(.str ⟨#[103,97,112]⟩)),(fa,(.str ⟨#[109,97,114,107]⟩)),(fa,(.str ⟨#[110,101,101,100,101,100]⟩)),(fa,(.str ⟨#[115,105,103,110]⟩)),(fa,(.str ⟨#[108,101,120,101,114]⟩)),(fa,(.str ⟨#[108,105,110,101]⟩)),(fa,(.str ⟨#[95]⟩)),(fa,(.str ⟨#[114,101,97,100]⟩)),(fa,(.str ⟨#[99,111,117,110,116]⟩)),(fa,(.str ⟨#[112,97,116,104]⟩)),(fa,(.str ⟨#[115,116,101,112]⟩)),(fa,(.str ⟨#[108,111,111,115,101]⟩)),(fa,(.str ⟨#[119,97,105,116,105,110,103]⟩)),(fa,(.str ⟨#[104,117,101]⟩)),(fa,(.str ⟨#[104,117,101,115]⟩)),(fa,(.str ⟨#[115,97,105,100]⟩)),(fa,(.str ⟨#[114,111,119]⟩)),(fa,(.str ⟨#[102,105,103,117,114,101]⟩)),(fa,(.str ⟨#[119,111,114,100,115]⟩)),(fa,(.str ⟨#[105,109,97,103,101]⟩)),(fa,(.str ⟨#[98,111,120,101,115]⟩)),(fa,(.str ⟨#[108,105,110,101,115]⟩)),(fa,(.str ⟨#[100,117,101]⟩))]⟩,false⟩
noncomputable def uX:List (Nat × PV):=[(4,.bi .divmod),(3,.int 4000),(15,.fn 35),(22,.fn 42),(20,.fn 21),(24,.fn 49),(23,.fn 56),(18,.ty .reversed),(28,.bi .max),(30,.bi .min),(41,.fn 77),(42,.flt 4599676419421066581),(44,.flt 4595172819793696085),(45,.flt 4604180019048437077),(48,.ty .int),(54,.ty .range),(57,.bi .hex),(56,ko),(92,.bi .abs),(67,.ty .enumerate),(64,.bi .len),(78,.bi .sum),(86,.fn 63),(89,.fn 70),(90,.fn 84),(91,.fn 91),(118,.fn 99),(111,.fn 148),(102,.fn 153),(105,.fn 158),(115,.fn 163),(119,.fn 168),(121,.fn 173),(125,.fn 178)]
noncomputable def xF:List (Nat × FD):=[(21,hU),(49,eF),(56,dk),(63,eD),(70,eJ),(77,f_v),(84,ez),(91,eL),(99,dw),(153,aM),(158,cg),(163,cU),(168,bz),(173,aR),(178,dX)]
noncomputable def cfg:Cfg:=⟨uX,xF,[(35,.int2digits),(42,.digits2int),(148,.lexer)]⟩
end
end Mine
end
section
namespace Mine
open PySem
theorem af {α β:Type} {x:M α} {f:α→M β} {a:α} {μ μ':Mem} (e:x μ = some (a,μ')):M.bnd x f μ = f a μ':=by delta M.bnd;(refine rwG e rfl)
theorem rd {n:Nat} {sc:Sc} {loc:Loc} {v i:CE} {p:Pos}:(ae cfg (n + 1)).ev sc loc (.sub v i p) = M.bnd ((ae cfg n).ev sc loc v) fun x=>M.bnd ((ae cfg n).ev sc loc i) fun y=>getM x y:=rfl
theorem kT {n:Nat} {sc:Sc} {loc:Loc} {o i e:CE} {sp p:Pos} {op:Operator}:(ae cfg (n + 1)).ex sc loc (.augS o i sp op e p) = M.bnd ((ae cfg n).ev sc loc o) fun ov=>M.bnd ((ae cfg n).ev sc loc i) fun iv=>M.bnd (getM ov iv) fun old=>M.bnd ((ae cfg n).ev sc loc e) fun v=>M.bnd (M.lift (kv op old v)) fun x=>M.bnd (setM sc ov iv x) fun _=>M.ret (.next,loc):=rfl
theorem xV {n:Nat} {sc:Sc} {loc:Loc} {t:CT} {it:CE} {b o:List CS} {p:Pos}:(ae cfg (n + 1)).ex sc loc (.for t it b o p) = M.bnd (bH cfg (ae cfg n) sc loc t it) fun src=>match src with
  | .items l=>M.bnd (cz (aV (ae cfg n) sc t b) l loc) (bK (ae cfg n) sc o)
  | .ref i k=>M.bnd (fZ (aV (ae cfg n) sc t b) i k 0 loc) (bK (ae cfg n) sc o):=rfl
theorem blk {r:R} {sc:Sc} {s:CS} {t:List CS} {loc loc':Loc} {μ μ':Mem} (e:r.ex sc loc s μ = some ((.next,loc'),μ')):ay r sc (s :: t) loc μ = ay r sc t loc' μ':=(af e).trans rfl
noncomputable def CS.fT:CS→CT | .for t _ _ _ _=>t | _=>.name 0 ⟨0,0,0,0⟩
noncomputable def CS.fI:CS→CE | .for _ i _ _ _=>i | _=>.name 0 ⟨0,0,0,0⟩
noncomputable def CS.fB:CS→List CS | .for _ _ b _ _=>b | _=>[]
noncomputable def CS.aI:CS→CE | .augS _ i _ _ _ _=>i | _=>.name 0 ⟨0,0,0,0⟩
noncomputable def CS.aE:CS→CE | .augS _ _ _ _ e _=>e | .asg _ e _=>e | _=>.name 0 ⟨0,0,0,0⟩
noncomputable def st (i:Nat):CS:=bC.body.getD i (.brk ⟨0,0,0,0⟩)
noncomputable def iL (l:List Int):PV:=.lst (l.map .int)
noncomputable def scL:Sc:=⟨bC.sc.names,[(53,0),(109,1),(110,2),(70,3),(74,4),(75,5),(43,6)],0⟩
noncomputable def nc:Mem:=[.cell none,.cell none,.cell none,.cell none,.cell none,.cell none,.cell none]
theorem r6 (s:PV):cf [(98,s)] bC.sc.names [] = some ([(53,0),(109,1),(110,2),(70,3),(74,4),(75,5),(43,6)],nc):=by kernel_rfl
theorem wy (s:PV):bo bC.sc.names [(98,s)] = [(98,s)]:=by kernel_rfl
noncomputable def cs0 (a b c:Int):Mem:=[.cell none,.cell none,.cell none,.cell none,.cell none,.cell none,.cell none,.lst [.int a,.int b,.int c]]
noncomputable abbrev eM (s:PV):Loc:=[(98,s),(99,.ref 7)]
theorem Bj (n:Nat) (s:PV):(ae cfg (n + 60)).ex scL [(98,s)] (st 0) nc = some ((.next,eM s),cs0 195 6 112):=by kernel_rfl
theorem zS (n:Nat) (loc:Loc) (k:Nat) (x a b c:Int) (hc:lk loc 99 = some (.ref 7)) (hl:lk loc 100 = some (.int k)) (hx:lk loc 58 = some (.int x)):∃ a' b' c',ay (ae cfg (n + 59)) scL (st 1).fB loc (cs0 a b c) = some ((.next,loc),cs0 a' b' c'):=by
 have e1:(ae cfg (n + 58)).ev scL loc ((st 1).fB.getD 0 (st 0)).aI (cs0 a b c) = some (.int (Int.fmod k 3),cs0 a b c):=by
  have:(ae cfg (n + 57)).ev scL loc (.name 100 ⟨283,14,283,19⟩) (cs0 a b c) = some (.int k,cs0 a b c):=by
   refine (?_:M.lift (lk loc 100) _ = _)
   refine rwG hl ?_;rfl
  exact (af this).trans rfl
 have e2:(ae cfg (n + 58)).ev scL loc ((st 1).fB.getD 0 (st 0)).aE (cs0 a b c) = some (.int (Int.fmod x (10 ^ 6)),cs0 a b c):=by
  have:(ae cfg (n + 57)).ev scL loc (.name 58 ⟨283,28,283,34⟩) (cs0 a b c) = some (.int x,cs0 a b c):=by
   refine (?_:M.lift (lk loc 58) _ = _)
   refine rwG hx ?_;rfl
  exact (af this).trans rfl
 have e0:(ae cfg (n + 58)).ev scL loc (.name 99 ⟨283,8,283,13⟩) (cs0 a b c) = some (.ref 7,cs0 a b c):=by
  refine (?_:M.lift (lk loc 99) _ = _)
  refine rwG hc ?_;rfl
 have h3:Int.fmod k 3 = 0∨Int.fmod k 3 = 1∨Int.fmod k 3 = 2:=by
  refine rwG (Int.fmod_eq_emod_of_nonneg _ (by decide)) ?_;lia
 rcases h3 with h | h | h <;> rw [h] at e1
 ·exact ⟨a + Int.fmod x (10 ^ 6),b,c,(blk (by refine rwG kT ?_;exact (af e0).trans ((af e1).trans ((af (show getM (.ref 7) (.int 0) (cs0 a b c) = some (.int a,cs0 a b c) from rfl)).trans ((af e2).trans rfl))))).trans rfl⟩
 ·exact ⟨a,b + Int.fmod x (10 ^ 6),c,(blk (by refine rwG kT ?_;exact (af e0).trans ((af e1).trans ((af (show getM (.ref 7) (.int 1) (cs0 a b c) = some (.int b,cs0 a b c) from rfl)).trans ((af e2).trans rfl))))).trans rfl⟩
 ·exact ⟨a,b,c + Int.fmod x (10 ^ 6),(blk (by refine rwG kT ?_;exact (af e0).trans ((af e1).trans ((af (show getM (.ref 7) (.int 2) (cs0 a b c) = some (.int c,cs0 a b c) from rfl)).trans ((af e2).trans rfl))))).trans rfl⟩
noncomputable abbrev full (s:PV) (k x:Int):Loc:=[(98,s),(99,.ref 7),(100,.int k),(58,.int x)]
theorem vv (n:Nat) (s:PV):∀ (l:List Int) (k:Nat) (loc:Loc) (a b c:Int),(∀ k' x',dQ (dQ loc 100 (.int k')) 58 (.int x') = full s k' x')→∃ loc' a' b' c',cz (aV (ae cfg (n + 59)) scL (st 1).fT (st 1).fB) (bN (k:Int) (l.map .int)) loc (cs0 a b c) = some ((.next,loc'),cs0 a' b' c')∧(loc' = loc∧l = []∨∃ k' x',loc' = full s k' x')
 | [],k,loc,a,b,c,_=>⟨loc,a,b,c,rfl,.inl ⟨rfl,rfl⟩⟩
 | x :: l,k,loc,a,b,c,h=>by
  refine x31 (zS n (full s k x) k x a b c rfl rfl rfl) fun a1 b1 c1 e=>?_
  refine x42 (vv n s l (k + 1) (full s k x) a1 b1 c1 fun _ _=>rfl) fun loc' a2 b2 c2 e2 h2=>?_
  refine ⟨loc',a2,b2,c2, ?_, ?_⟩
  ·skip
   have e3:aV (ae cfg (n + 59)) scL (st 1).fT (st 1).fB (.tup [.int k,.int x]) loc (cs0 a b c) = some ((.next,full s k x),cs0 a1 b1 c1):=by
    have:cB scL loc (st 1).fT (.tup [.int k,.int x]) (cs0 a b c) = some (full s k x,cs0 a b c):=by refine rwH (h k x) ?_;rfl
    exact (af this).trans e
   exact (af e3).trans e2
  ·rcases h2 with ⟨rfl,_⟩ | h2
   ·exact .inr ⟨k,x,rfl⟩
   ·exact .inr h2
theorem AW (n:Nat) (script:List Int) (h:script.length ≤ 63) (μ:Mem):bH cfg (ae cfg (n + 59)) scL (eM (iL script)) (st 1).fT (st 1).fI μ = some (.items (bN 0 ((script.take 60).map .int)),μ):=by
 have hl:(script.map PV.int).length ≤ ah:=by rw [List.length_map];exact Nat.le_trans h (by decide)
 have e:(ae cfg (n + 59)).ev scL (eM (iL script)) (.slc (.name 98 ⟨282,35,282,41⟩) .none (some (.cst (.int 60) 0 ⟨282,43,282,45⟩)) .none ⟨282,42,282,45⟩ ⟨282,35,282,46⟩) μ = some (.lst ((script.take 60).map .int),μ):=by
  have:fH (iL script) none (some (.int 60)) none = some (.lst ((script.take 60).map .int)):=by
   delta fH iL
   dsimp only
   refine rwG (if_pos hl) ?_
   refine (?_:some (PV.lst ((script.map PV.int).take 60)) = _)
   (refine rwG List.map_take rfl)
  refine (?_:M.lift (fH (iL script) none (some (.int 60)) none) μ = _)
  rw [this];rfl
 have e2:evL (ae cfg (n + 59)) scL (eM (iL script)) [.slc (.name 98 ⟨282,35,282,41⟩) .none (some (.cst (.int 60) 0 ⟨282,43,282,45⟩)) .none ⟨282,42,282,45⟩ ⟨282,35,282,46⟩] μ = some ([.lst ((script.take 60).map .int)],μ):=(af e).trans rfl
 have hl2:((script.take 60).map PV.int).length ≤ ah:=by rw [List.length_map,List.length_take];exact Nat.le_trans (Nat.min_le_left ..) (by decide)
 refine (af e2).trans ?_
 refine (?_:M.lift ((if ((script.take 60).map PV.int).length ≤ ah then some (bN 0 ((script.take 60).map .int)) else none).map Src.items) μ = _)
 rw [if_pos hl2];rfl
theorem AX (n:Nat) (script:List Int) (h:script.length ≤ 63) (a b c:Int):∃ loc a' b' c',(ae cfg (n + 60)).ex scL (eM (iL script)) (st 1) (cs0 a b c) = some ((.next,loc),cs0 a' b' c')∧(loc = (eM (iL script))∧script = []∨∃ k x,loc = full (iL script) k x):=by
 refine x42 (vv n (iL script) (script.take 60) 0 (eM (iL script)) a b c fun _ _=>rfl) fun loc a' b' c' e h2=>?_
 refine ⟨loc,a',b',c',(af (AW n script h (cs0 a b c))).trans ((af e).trans rfl), ?_⟩
 rcases h2 with ⟨rfl,h2⟩ | h2
 ·exact .inl ⟨rfl,by induction script using List.casesOn with
   | nil=>rfl
   | cons x r=>injection h2⟩
 ·exact .inr h2
end Mine
end
section
namespace Mine
open PySem
theorem cy {α:Type} {o:Option α} {a:α} {μ:Mem} (h:o = some a):M.lift o μ = some (a,μ):=by refine rwG h ?_;rfl
theorem aX {r:R} {sc:Sc} {b:List CS}:∀ {a:List CS} {loc loc':Loc} {μ μ':Mem},ay r sc a loc μ = some ((.next,loc'),μ')→ay r sc (a ++ b) loc μ = ay r sc b loc' μ'
 | [],loc,loc',μ,μ',e=>by
  have:(loc,μ) = (loc',μ'):=by
   have e':some ((Fl.next,loc),μ) = some ((Fl.next,loc'),μ'):=e
   simp only [Option.some.injEq,Prod.mk.injEq,true_and] at e'
   rw [e'.1,e'.2]
  rw [Prod.mk.injEq] at this
  rw [this.1,this.2];rfl
 | s :: a,loc,loc',μ,μ',e=>by
  show M.bnd (r.ex sc loc s) _ μ = _
  have e':M.bnd (r.ex sc loc s) (fun x=>match x.1 with | .next=>ay r sc a x.2 | f=>M.ret (f,x.2)) μ = some ((.next,loc'),μ'):=e
  unfold M.bnd at e' ⊢
  cases h:r.ex sc loc s μ with
  | none=>rw [h] at e';exact no1 e'
  | some y =>
   obtain ⟨⟨f,l⟩,m⟩:=y
   rw [h] at e'
   dsimp only at e' ⊢
   induction f using Fl.casesOn with
   | next=>exact aX e'
   | brk=>(refine dF e' fun q1 q2=>?_;subst q2;cases q1)
   | cont=>(refine dF e' fun q1 q2=>?_;subst q2;cases q1)
   | ret v=>(refine dF e' fun q1 q2=>?_;subst q2;cases q1)
noncomputable def uO {α β:Type} (g:α→β):List α→List β
 | []=>[]
 | x :: r=>g x :: uO g r
theorem map_eq {α β:Type} {f g:α→β}:∀ {l:List α},l.map f = uO g l→∀ x∈l,f x = g x
 | [],_,_,h=>nomatch h
 | y :: l,e,x,h=>by
  rw [List.map_cons] at e
  have e1:f y = g y:=List.head_eq_of_cons_eq e
  have e2:l.map f = uO g l:=List.tail_eq_of_cons_eq e
  rcases List.mem_cons.mp h with rfl | h
  ·exact e1
  ·exact map_eq e2 x h
noncomputable abbrev Rw:=List Nat
noncomputable def av (r:Rw):PV:=.lst (r.map fun i=>.int (i:Nat))
noncomputable def yP (r:Rw):List Rw:=(List.range (r.length + 1)).map fun i=>r.take i ++ [(r ++ [0]).getD i 0 + 1] ++ r.drop (i + 1)
noncomputable def zo (l:List Rw):List Rw:=((List.range l.length).zip l).filterMap fun x=>if x.1 == 0 || Nat.ble (x.2.getD x.1 0) (x.2.getD (x.1 - 1) 0) then some x.2 else none
noncomputable def no3:Rw→Bool
 | a :: b :: c :: r=>!(a == c) && no3 (b :: c :: r)
 | _=>true
noncomputable def nxt (r:Rw):List Rw:=(zo (yP r)).filter no3
noncomputable def aP:Nat→List Rw
 | 0=>[[]]
 | 1=>[[1]]
 | 2=>[[2],[1,1]]
 | 3=>[[3],[2,1]]
 | 4=>[[4],[3,1],[2,2],[2,1,1]]
 | 5=>[[5],[4,1],[3,2],[3,1,1],[2,2,1]]
 | 6=>[[6],[5,1],[4,2],[4,1,1],[3,3],[3,2,1],[2,2,1,1]]
 | 7=>[[7],[6,1],[5,2],[5,1,1],[4,3],[4,2,1],[3,3,1],[3,2,2],[3,2,1,1]]
 | _=>[]
noncomputable def dst (i:Nat):CS:=aM.body.getD i (.brk ⟨0,0,0,0⟩)
noncomputable def dB (i:Nat):CS:=(dst 1).fB.getD i (.brk ⟨0,0,0,0⟩)
noncomputable def scD:Sc:=⟨aM.sc.names,[(60,0)],0⟩
noncomputable def a9 (num b:Int) (sh:Option (Int × PV)):Loc:=match sh with
 | none=>[(58,.int num),(59,.int b)]
 | some y=>[(58,.int num),(59,.int b),(61,.int y.1),(62,y.2)]
noncomputable def uY (num b i:Int) (sh:Option PV):Loc:=match sh with
 | none=>[(58,.int num),(59,.int b),(61,.int i)]
 | some y=>[(58,.int num),(59,.int b),(61,.int i),(62,y)]
noncomputable def gV (l:List Rw):PV:=.lst (l.map av)
noncomputable def aQ (r:Rw) (vs:List (Option PV)):Mem:=.cell (some (av r)) :: vs.map .cell
theorem yb:∀ j < 7,∀ r∈aP j,(∀ x∈nxt r,x∈aP (j + 1))∧0 < (nxt r).length∧(nxt r).length < 5:=by decide +kernel
theorem uK {α:Type _} {l:List α} (h:l.length = 4):∃ a b c d,l = [a,b,c,d]:=by
 rcases l with _ | ⟨a,l⟩
 ·nomatch h
 ·obtain ⟨b,c,d,rfl⟩:=qK (Nat.succ.inj h);exact ⟨a,b,c,d,rfl⟩
theorem ya {α:Type _} {l:List α} (h:l.length = 5):∃ a b c d e,l = [a,b,c,d,e]:=by
 rcases l with _ | ⟨a,l⟩
 ·nomatch h
 ·obtain ⟨b,c,d,e,rfl⟩:=uK (Nat.succ.inj h);exact ⟨a,b,c,d,e,rfl⟩
theorem Bh {α:Type _} {l:List α} (h:l.length = 6):∃ a b c d e f,l = [a,b,c,d,e,f]:=by
 rcases l with _ | ⟨a,l⟩
 ·nomatch h
 ·obtain ⟨b,c,d,e,f,rfl⟩:=ya (Nat.succ.inj h);exact ⟨a,b,c,d,e,f,rfl⟩
theorem rQ {i:Nat} (h:i < 7):i = 0∨i = 1∨i = 2∨i = 3∨i = 4∨i = 5∨i = 6:=by lia
section
variable (n:Nat) (num b i:Int)
noncomputable def eY (j:Nat) (r:Rw) (sh:Option PV) (vs:List (Option PV)):Prop:=∃ v,ay (ae cfg (n + 40)) scD [dB 0,dB 1,dB 2] (uY num b i sh) (aQ r vs) = some ((.next,a9 num b (some (i,gV (nxt r)))),aQ r (vs ++ [v]))
theorem Aw:eY n num b i 0 [] none []:=⟨some (av [1]),by kernel_rfl⟩
theorem AP (g:PV) (v1:Option PV):∀ r∈aP 1,eY n num b i 1 r (some g) [v1] :=
 List.forall_mem_cons.mpr ⟨⟨some (av [1,1]),by kernel_rfl⟩,nofun⟩
theorem zv (g:PV) (v1 v2:Option PV):∀ r∈aP 2,eY n num b i 2 r (some g) [v1,v2] :=
 List.forall_mem_cons.mpr ⟨⟨some (av [2,1]),by kernel_rfl⟩,List.forall_mem_cons.mpr ⟨⟨some (av [1,1,1]),by kernel_rfl⟩,nofun⟩⟩
theorem zA (g:PV) (v1 v2 v3:Option PV):∀ r∈aP 3,eY n num b i 3 r (some g) [v1,v2,v3] :=
 List.forall_mem_cons.mpr ⟨⟨some (av [3,1]),by kernel_rfl⟩,List.forall_mem_cons.mpr ⟨⟨some (av [2,1,1]),by kernel_rfl⟩,nofun⟩⟩
theorem Av (g:PV) (v1 v2 v3 v4:Option PV):∀ r∈aP 4,eY n num b i 4 r (some g) [v1,v2,v3,v4] :=
 List.forall_mem_cons.mpr ⟨⟨some (av [4,1]),by kernel_rfl⟩,List.forall_mem_cons.mpr ⟨⟨some (av [3,1,1]),by kernel_rfl⟩,List.forall_mem_cons.mpr ⟨⟨some (av [2,2,1]),by kernel_rfl⟩,List.forall_mem_cons.mpr ⟨⟨some (av [2,1,1,1]),by kernel_rfl⟩,nofun⟩⟩⟩⟩
theorem zR (g:PV) (v1 v2 v3 v4 v5:Option PV):∀ r∈aP 5,eY n num b i 5 r (some g) [v1,v2,v3,v4,v5] :=
 List.forall_mem_cons.mpr ⟨⟨some (av [5,1]),by kernel_rfl⟩,List.forall_mem_cons.mpr ⟨⟨some (av [4,1,1]),by kernel_rfl⟩,List.forall_mem_cons.mpr ⟨⟨some (av [3,2,1]),by kernel_rfl⟩,List.forall_mem_cons.mpr ⟨⟨some (av [3,1,1,1]),by kernel_rfl⟩,List.forall_mem_cons.mpr ⟨⟨some (av [2,2,1,1]),by kernel_rfl⟩,nofun⟩⟩⟩⟩⟩
theorem Am (g:PV) (v1 v2 v3 v4 v5 v6:Option PV):∀ r∈aP 6,eY n num b i 6 r (some g) [v1,v2,v3,v4,v5,v6] :=
 List.forall_mem_cons.mpr ⟨⟨some (av [6,1]),by kernel_rfl⟩,List.forall_mem_cons.mpr ⟨⟨some (av [5,1,1]),by kernel_rfl⟩,List.forall_mem_cons.mpr ⟨⟨some (av [4,2,1]),by kernel_rfl⟩,List.forall_mem_cons.mpr ⟨⟨some (av [4,1,1,1]),by kernel_rfl⟩,List.forall_mem_cons.mpr ⟨⟨some (av [3,3,1]),by kernel_rfl⟩,List.forall_mem_cons.mpr ⟨⟨some (av [3,2,1,1]),by kernel_rfl⟩,List.forall_mem_cons.mpr ⟨⟨some (av [2,2,1,1,1]),by kernel_rfl⟩,nofun⟩⟩⟩⟩⟩⟩⟩
theorem grow (j:Nat) (hj:j < 7) (r:Rw) (hr:r∈aP j) (sh:Option PV) (hs:sh = none∧j = 0∨∃ g,sh = some g∧j ≠ 0) (vs:List (Option PV)) (hv:vs.length = j):eY n num b i j r sh vs:=by
 rcases hs with ⟨rfl,rfl⟩ | ⟨g,rfl,h0⟩
 ·obtain rfl:=List.length_eq_zero_iff.mp hv
  rcases List.mem_cons.mp hr with rfl | hr
  ·exact Aw n num b i
  ·cases hr
 ·rcases rQ hj with h | h | h | h | h | h | h <;> subst h
  ·exact absurd rfl h0
  ·obtain ⟨v1,rfl⟩:=tN hv;exact AP n num b i g v1 r hr
  ·obtain ⟨v1,v2,rfl⟩:=qJ hv;exact zv n num b i g v1 v2 r hr
  ·obtain ⟨v1,v2,v3,rfl⟩:=qK hv;exact zA n num b i g v1 v2 v3 r hr
  ·obtain ⟨v1,v2,v3,v4,rfl⟩:=uK hv;exact Av n num b i g v1 v2 v3 v4 r hr
  ·obtain ⟨v1,v2,v3,v4,v5,rfl⟩:=ya hv;exact zR n num b i g v1 v2 v3 v4 v5 r hr
  ·obtain ⟨v1,v2,v3,v4,v5,v6,rfl⟩:=Bh hv;exact Am n num b i g v1 v2 v3 v4 v5 v6 r hr
noncomputable def vg (l:List Rw) (r:Rw) (vs:List (Option PV)):Prop:=∃ x∈l,∃ num',ay (ae cfg (n + 40)) scD [dB 3,dB 4] (a9 num b (some (i,gV l))) (aQ r vs) = some ((.next,a9 num' b (some (i,gV l))),aQ x vs)
theorem vh (y:Int):Int.fmod y 1 = 0:=by refine rwG (Int.fmod_eq_emod_of_nonneg _ (by decide)) ?_;lia
theorem two (y:Int):Int.fmod y 2 = 0∨Int.fmod y 2 = 1:=by refine rwG (Int.fmod_eq_emod_of_nonneg _ (by decide)) ?_;lia
theorem three (y:Int):Int.fmod y 3 = 0∨Int.fmod y 3 = 1∨Int.fmod y 3 = 2:=by refine rwG (Int.fmod_eq_emod_of_nonneg _ (by decide)) ?_;lia
theorem four (y:Int):Int.fmod y 4 = 0∨Int.fmod y 4 = 1∨Int.fmod y 4 = 2∨Int.fmod y 4 = 3:=by refine rwG (Int.fmod_eq_emod_of_nonneg _ (by decide)) ?_;lia
noncomputable def gI:CE→CE | .sub v _ _=>v | e=>e
noncomputable def fC:CE→CE | .sub _ i _=>i | e=>e
theorem cp (l:List Rw) (r x:Rw) (vs:List (Option PV)) (k:Int) (e1:(ae cfg (n + 38)).ev scD (a9 num b (some (i,gV l))) (fC (dB 3).aE) (aQ r vs) = some (.int (Int.fmod num k),aQ r vs))
  (e2:getM (gV l) (.int (Int.fmod num k)) (aQ r vs) = some (av x,aQ r vs)) (e3:(ae cfg (n + 40)).ex scD (a9 num b (some (i,gV l))) (dB 4) (aQ x vs) = some ((.next,a9 (Int.fdiv num k) b (some (i,gV l))),aQ x vs)) (hx:x∈l):vg n num b i l r vs:=by
 refine ⟨x,hx,Int.fdiv num k, ?_⟩
 have e4:(ae cfg (n + 39)).ev scD (a9 num b (some (i,gV l))) (.sub (gI (dB 3).aE) (fC (dB 3).aE) ⟨230,15,230,41⟩) (aQ r vs) = some (av x,aQ r vs):=by
  refine rwG rd ?_
  exact (af (show (ae cfg (n + 38)).ev scD (a9 num b (some (i,gV l))) (gI (dB 3).aE) (aQ r vs) = some (gV l,aQ r vs) from by kernel_rfl)).trans ((af e1).trans e2)
 have e5:(ae cfg (n + 40)).ex scD (a9 num b (some (i,gV l))) (dB 3) (aQ r vs) = some ((.next,a9 num b (some (i,gV l))),aQ x vs) :=
  (af (show (ae cfg (n + 39)).ev scD (a9 num b (some (i,gV l))) (dB 3).aE (aQ r vs) = _ from e4)).trans (by kernel_rfl)
 exact (blk e5).trans ((blk e3).trans rfl)
theorem pick (l:List Rw) (r:Rw) (vs:List (Option PV)) (h0:0 < l.length) (h4:l.length < 5):vg n num b i l r vs:=by
 rcases l with _ | ⟨x1,_ | ⟨x2,_ | ⟨x3,_ | ⟨x4,_ | ⟨x5,l⟩⟩⟩⟩⟩
 ·cases h0
 ·exact cp n num b i [x1] r x1 vs 1 (by kernel_rfl) (by rw [vh];kernel_rfl) (by kernel_rfl) (.head _)
 ·rcases two num with h | h
  ·exact cp n num b i [x1,x2] r x1 vs 2 (by kernel_rfl) (by rw [h];kernel_rfl) (by kernel_rfl) (.head _)
  ·exact cp n num b i [x1,x2] r x2 vs 2 (by kernel_rfl) (by rw [h];kernel_rfl) (by kernel_rfl) (.tail _ (.head _))
 ·rcases three num with h | h | h
  ·exact cp n num b i [x1,x2,x3] r x1 vs 3 (by kernel_rfl) (by rw [h];kernel_rfl) (by kernel_rfl) (.head _)
  ·exact cp n num b i [x1,x2,x3] r x2 vs 3 (by kernel_rfl) (by rw [h];kernel_rfl) (by kernel_rfl) (.tail _ (.head _))
  ·exact cp n num b i [x1,x2,x3] r x3 vs 3 (by kernel_rfl) (by rw [h];kernel_rfl) (by kernel_rfl) (.tail _ (.tail _ (.head _)))
 ·rcases four num with h | h | h | h
  ·exact cp n num b i [x1,x2,x3,x4] r x1 vs 4 (by kernel_rfl) (by rw [h];kernel_rfl) (by kernel_rfl) (.head _)
  ·exact cp n num b i [x1,x2,x3,x4] r x2 vs 4 (by kernel_rfl) (by rw [h];kernel_rfl) (by kernel_rfl) (.tail _ (.head _))
  ·exact cp n num b i [x1,x2,x3,x4] r x3 vs 4 (by kernel_rfl) (by rw [h];kernel_rfl) (by kernel_rfl) (.tail _ (.tail _ (.head _)))
  ·exact cp n num b i [x1,x2,x3,x4] r x4 vs 4 (by kernel_rfl) (by rw [h];kernel_rfl) (by kernel_rfl) (.tail _ (.tail _ (.tail _ (.head _))))
 ·exact absurd h4 (by simp only [List.length_cons];lia)
end
theorem AI (n:Nat) (num b i:Int) (j:Nat) (hj:j < 7) (r:Rw) (hr:r∈aP j) (sh:Option (Int × PV)) (hs:sh = none∧j = 0∨∃ g,sh = some g∧j ≠ 0) (vs:List (Option PV)) (hv:vs.length = j) :
  ∃ r'∈aP (j + 1),∃ num' y v,aV (ae cfg (n + 40)) scD (dst 1).fT (dst 1).fB (.int i) (a9 num b sh) (aQ r vs) = some ((.next,a9 num' b (some y)),aQ r' (vs ++ [v])):=by
 have e1:cB scD (a9 num b sh) (dst 1).fT (.int i) (aQ r vs) = some (uY num b i (sh.map (·.2)),aQ r vs):=by
  rcases sh with _ | ⟨a,c⟩ <;> kernel_rfl
 have hs':sh.map (·.2) = none∧j = 0∨∃ g,sh.map (·.2) = some g∧j ≠ 0:=by
  rcases hs with ⟨rfl,h⟩ | ⟨g,rfl,h⟩
  ·exact .inl ⟨rfl,h⟩
  ·exact .inr ⟨_,rfl,h⟩
 obtain ⟨v,e2⟩:=grow n num b i j hj r hr (sh.map (·.2)) hs' vs hv
 obtain ⟨h1,h2,h3⟩:=yb j hj r hr
 obtain ⟨x,hx,num',e3⟩:=pick n num b i (nxt r) r (vs ++ [v]) h2 h3
 refine ⟨x,h1 x hx,num',(i,gV (nxt r)),v,(af e1).trans ?_⟩
 have e4:(dst 1).fB = [dB 0,dB 1,dB 2] ++ [dB 3,dB 4]:=by kernel_rfl
 rw [e4]
 exact (aX e2).trans e3
theorem u2 (n:Nat) (b:Int):∀ (m j:Nat),j + m ≤ 7→∀ (num:Int) (r:Rw),r∈aP j→∀ (sh:Option (Int × PV)),(sh = none∧j = 0∨∃ g,sh = some g∧j ≠ 0)→∀ vs:List (Option PV),vs.length = j →
  ∃ r'∈aP (j + m),∃ num' sh' vs',cz (aV (ae cfg (n + 40)) scD (dst 1).fT (dst 1).fB) (bb j m) (a9 num b sh) (aQ r vs) = some ((.next,a9 num' b sh'),aQ r' vs')
 | 0,j,_,num,r,hr,sh,_,vs,_=>⟨r,hr,num,sh,vs,rfl⟩
 | m + 1,j,hm,num,r,hr,sh,hs,vs,hv=>by
  obtain ⟨r1,h1,num1,y,v,e1⟩:=AI n num b j j (by lia) r hr sh hs vs hv
  obtain ⟨r2,h2,num2,sh2,vs2,e2⟩:=u2 n b m (j + 1) (by lia) num1 r1 h1 (some y) (.inr ⟨y,rfl,by lia⟩) (vs ++ [v]) (by rw [List.length_append,hv];rfl)
  refine ⟨r2,by rw [show j + (m + 1) = j + 1 + m by lia];exact h2,num2,sh2,vs2, ?_⟩
  exact (af e1).trans e2
end Mine
end
section
namespace Mine
open PySem
theorem mw (n:Nat):∀ r:Rw,clo.all n (r.map fun i=>PV.int (i:Nat)) = true
 | []=>rfl
 | _ :: r=>mw n r
theorem uq (r:Rw) (μ:Mem):frz 0 μ 8 (av r) = some (av r):=by
 show (if clo.all 0 (r.map fun i=>PV.int (i:Nat)) = true then some (av r) else _) = _
 rw [if_pos (mw 0 r)]
noncomputable def dR (sz:Nat):Prop:=sz = 4∨sz = 5∨sz = 6∨sz = 7
theorem BB (n:Nat) (num:Int) (sz:Nat) (hz:dR sz) (μ:Mem):bH cfg (ae cfg (n + 40)) scD (a9 num sz none) (dst 1).fT (dst 1).fI μ = some (.items (bb 0 sz),μ):=by
 refine e4 hz ?_ ?_ ?_ ?_ <;> kernel_rfl
theorem v7 (n:Nat) (num:Int) (sz:Nat) (hz:dR sz):∃ r∈aP sz,∀ μ,bO (ae cfg (n + 41)) aM [.int num,.int sz] μ = some (av r,μ):=by
 obtain ⟨r,hr,num',sh',vs',e⟩:=u2 n sz sz 0 (by rcases hz with h | h | h | h <;> lia) num [] (.head _) none (.inl ⟨rfl,rfl⟩) [] rfl
 refine ⟨r,by simpa using hr,fun μ=>?_⟩
 have e0:(ae cfg (n + 41)).ex scD (a9 num sz none) (dst 0) [.cell none] = some ((.next,a9 num sz none),aQ [] []):=by kernel_rfl
 have e1:(ae cfg (n + 41)).ex scD (a9 num sz none) (dst 1) (aQ [] []) = some ((.next,a9 num' sz sh'),aQ r vs'):=by
  refine (show (ae cfg (n + 41)).ex scD (a9 num sz none) (dst 1) (aQ [] []) = M.bnd (bH cfg (ae cfg (n + 40)) scD (a9 num sz none) (dst 1).fT (dst 1).fI) (fun src=>match src with
   | .items l=>M.bnd (cz (aV (ae cfg (n + 40)) scD (dst 1).fT (dst 1).fB) l (a9 num sz none)) (bK (ae cfg (n + 40)) scD [])
   | .ref i k=>M.bnd (fZ (aV (ae cfg (n + 40)) scD (dst 1).fT (dst 1).fB) i k 0 (a9 num sz none)) (bK (ae cfg (n + 40)) scD [])) (aQ [] []) from by kernel_rfl).trans ?_
  exact (af (BB n num sz hz _)).trans ((af e).trans rfl)
 have e2:(ae cfg (n + 41)).ex scD (a9 num' sz sh') (dst 2) (aQ r vs') = some ((.ret (av r),a9 num' sz sh'),aQ r vs'):=by kernel_rfl
 have eb:bV (ae cfg (n + 41)) aM [.int num,.int sz] 0 [] = some (av r,aQ r vs'):=by
  refine (show bV (ae cfg (n + 41)) aM [.int num,.int sz] 0 [] = M.bnd (ay (ae cfg (n + 41)) scD [dst 0,dst 1,dst 2] (a9 num sz none)) (fun x=>M.ret (iM x.1)) [.cell none] from by kernel_rfl).trans ?_
  have e3:ay (ae cfg (n + 41)) scD [dst 2] (a9 num' sz sh') (aQ r vs') = some ((.ret (av r),a9 num' sz sh'),aQ r vs'):=(af e2).trans rfl
  exact (af ((blk e0).trans ((blk e1).trans e3))).trans rfl
 show (match bV (ae cfg (n + 41)) aM [.int num,.int sz] 0 [] with
  | some (v,μ')=>(match frz 0 μ' 8 v with
   | some v'=>some (v',μ)
   | none=>none)
  | none=>none) = _
 rw [eb]
 show (match frz 0 (aQ r vs') 8 (av r) with
  | some v'=>some (v',μ)
  | none=>none) = _
 rw [uq]
noncomputable def S (l:List Nat):Str:=⟨l.toArray⟩
noncomputable def wrd (i len:Nat):List Nat:=(List.range len).map fun j=>[32,34,92].getD ((j + 2 * i) % 3) 0
noncomputable def aw:Nat→Rw→List (List Nat)
 | _,[]=>[]
 | i,l :: r=>wrd i l :: aw (i + 1) r
noncomputable def aD (w:List Nat):PV:=.str (S w)
noncomputable def ao (r:Rw):PV:=.lst ((aw 0 r).map aD)
theorem jq (n:Nat) (μ:Mem) {j:Nat} (hj:dR j):∀ r∈aP j,bO (ae cfg (n + 40)) cg [av r] μ = some (ao r,μ):=by
 refine e4 hj ?_ ?_ ?_ ?_ <;> exact map_eq (by kernel_rfl)
noncomputable def nv:PV:=.lst [.str ⟨#[79,80,84,73,77,73,90,69,68]⟩,.str ⟨#[78,69,87,76,79,67,65,76,83]⟩,.str ⟨#[86,65,82,65,82,71,83]⟩,.str ⟨#[86,65,82,75,69,89,87,79,82,68,83]⟩,.str ⟨#[78,69,83,84,69,68]⟩,.str ⟨#[71,69,78,69,82,65,84,79,82]⟩,.str ⟨#[78,79,70,82,69,69]⟩,.str ⟨#[67,79,82,79,85,84,73,78,69]⟩]
noncomputable def cs2 (a b c:Int) (nd:Option PV):Mem:=[.cell (some nv),.cell nd,.cell none,.cell none,.cell none,.cell none,.cell none,.lst [.int a,.int b,.int c]]
noncomputable def aT (s:PV) (k x sz:Int):Loc:=[(98,s),(99,.ref 7),(100,.int k),(58,.int x),(101,.int sz)]
noncomputable def gT (s:PV) (k x sz:Int) (r:Rw):Loc:=[(98,s),(99,.ref 7),(100,.int k),(58,.int x),(101,.int sz),(60,av r)]
noncomputable def j1 (s:PV) (k x sz:Int) (r:Rw) (T:Str):Loc:=[(98,s),(99,.ref 7),(100,.int k),(58,.int x),(101,.int sz),(60,av r),(104,.str T),(103,ao r)]
theorem Bt (n:Nat) (s:PV) (k x a b c sz:Int) (h:4 + Int.fmod a 4 = sz):(ae cfg (n + 60)).ex scL (full s k x) (st 2) (cs0 a b c) = some ((.next,aT s k x sz),cs2 a b c none):=by
 subst h;kernel_rfl
theorem BA (n:Nat) (s:PV) (k x a b c:Int) (sz:Nat) (hz:dR sz):∃ r∈aP sz,(ae cfg (n + 60)).ex scL (aT s k x sz) (st 3) (cs2 a b c none) = some ((.next,gT s k x sz r),cs2 a b c none):=by
 obtain ⟨r,hr,e⟩:=v7 (n + 16) (Int.fdiv a 4) sz hz
 refine ⟨r,hr, ?_⟩
 have e1:evL (ae cfg (n + 58)) scL (aT s k x sz) [.bin (.sub (.name 99 ⟨285,24,285,29⟩) (.cst (.int 0) 0 ⟨285,30,285,31⟩) ⟨285,24,285,32⟩) .FloorDiv (.cst (.int 4) 0 ⟨285,36,285,37⟩) ⟨285,24,285,37⟩,.name 101 ⟨285,39,285,43⟩] (cs2 a b c none) = some ([.int (Int.fdiv a 4),.int sz],cs2 a b c none):=by kernel_rfl
 have e2:(ae cfg (n + 59)).ev scL (aT s k x sz) (st 3).aE (cs2 a b c none) = some (av r,cs2 a b c none):=by
  refine (show (ae cfg (n + 59)).ev scL (aT s k x sz) (st 3).aE (cs2 a b c none) = M.bnd (evL (ae cfg (n + 58)) scL (aT s k x sz) [.bin (.sub (.name 99 ⟨285,24,285,29⟩) (.cst (.int 0) 0 ⟨285,30,285,31⟩) ⟨285,24,285,32⟩) .FloorDiv (.cst (.int 4) 0 ⟨285,36,285,37⟩) ⟨285,24,285,37⟩,.name 101 ⟨285,39,285,43⟩]) (fun vs=>(ae cfg (n + 58)).cl (.fn 153) vs) (cs2 a b c none) from by kernel_rfl).trans ?_
  refine (af e1).trans ?_
  exact (show (ae cfg (n + 58)).cl (.fn 153) [.int (Int.fdiv a 4),.int sz] (cs2 a b c none) = bO (ae cfg (n + 57)) aM [.int (Int.fdiv a 4),.int sz] (cs2 a b c none) from by kernel_rfl).trans (e _)
 exact (af e2).trans (by kernel_rfl)
theorem BD (n:Nat) (s:PV) (k x a b c:Int) (sz:Nat) (hz:dR sz) (r:Rw) (hr:r∈aP sz):(ae cfg (n + 60)).ex scL (gT s k x sz r) (st 4) (cs2 a b c none) = some ((.next,j1 s k x sz r ⟨#[]⟩),cs2 a b c none):=by
 have e:=jq (n + 16) (cs2 a b c none) hz r hr
 have e2:(ae cfg (n + 58)).ev scL (gT s k x sz r) (.call 105 ⟨286,21,286,33⟩ [.name 60 ⟨286,34,286,38⟩] ⟨286,21,286,39⟩) (cs2 a b c none) = some (ao r,cs2 a b c none):=by
  refine (show _ = M.bnd (evL (ae cfg (n + 57)) scL (gT s k x sz r) [.name 60 ⟨286,34,286,38⟩]) (fun vs=>(ae cfg (n + 57)).cl (.fn 158) vs) (cs2 a b c none) from by kernel_rfl).trans ?_
  refine (af (show evL (ae cfg (n + 57)) scL (gT s k x sz r) [.name 60 ⟨286,34,286,38⟩] (cs2 a b c none) = some ([av r],cs2 a b c none) from by kernel_rfl)).trans ?_
  exact (show (ae cfg (n + 57)).cl (.fn 158) [av r] (cs2 a b c none) = bO (ae cfg (n + 56)) cg [av r] (cs2 a b c none) from by kernel_rfl).trans e
 have e3:evL (ae cfg (n + 58)) scL (gT s k x sz r) [.call 105 ⟨286,21,286,33⟩ [.name 60 ⟨286,34,286,38⟩] ⟨286,21,286,39⟩,.cst (.str ⟨#[]⟩) 0 ⟨286,41,286,43⟩] (cs2 a b c none) = some ([ao r,.str ⟨#[]⟩],cs2 a b c none):=(af e2).trans rfl
 have e4:(ae cfg (n + 59)).ev scL (gT s k x sz r) (st 4).aE (cs2 a b c none) = some (.tup [ao r,.str ⟨#[]⟩],cs2 a b c none):=(af e3).trans rfl
 exact (af e4).trans (by kernel_rfl)
end Mine
end
section
namespace Mine
open PySem
noncomputable def bj (g:Int):List Nat:=if g = 0 then [10] else if g = 1 then [32,9] else if g = 2 then [13,10] else [32,32]
noncomputable def gX (q:Int):List Nat:=if q = 0 then [] else [34]
noncomputable def br (q:Int) (w:List Nat):List Nat:=if q = 2 then [34,92] else w
noncomputable def Ay (q:Int) (c:Nat):List Nat:=if q = 2 then (if c == 34 || c == 92 then [92,c] else [c]) else [92,c]
noncomputable def core (w:List Nat) (q:Int):List Nat:=gX q ++ w.flatMap (Ay q) ++ gX q
noncomputable def bD (w:List Nat) (q g:Int):List Nat:=core w q ++ bj g
noncomputable def cJ (s:PV) (i x sz:Int) (r:Rw) (T:Str) (w:List Nat) (q g:Int):Loc:=[(98,s),(99,.ref 7),(100,.int i),(58,.int x),(101,.int sz),(60,av r),(104,.str T),(103,ao r),(73,aD w),(107,.str (S (bj g))),(106,.int q),(108,.str (S (gX q)))]
noncomputable def ft (s:PV) (i x sz:Int) (r:Rw) (T:Str) (w:List Nat) (sh:Option (Int × Int)):Loc:=match sh with
 | none=>[(98,s),(99,.ref 7),(100,.int i),(58,.int x),(101,.int sz),(60,av r),(104,.str T),(103,ao r),(73,aD w)]
 | some y=>cJ s i x sz r T w y.1 y.2
noncomputable def sW (s:PV) (i x sz:Int) (r:Rw) (T:Str) (w:List Nat) (q g:Int) (sh:Option (Int × Int)):Loc:=match sh with
 | none=>[(98,s),(99,.ref 7),(100,.int i),(58,.int x),(101,.int sz),(60,av r),(104,.str T),(103,ao r),(73,aD w),(107,.str (S (bj g))),(106,.int q)]
 | some y=>[(98,s),(99,.ref 7),(100,.int i),(58,.int x),(101,.int sz),(60,av r),(104,.str T),(103,ao r),(73,aD w),(107,.str (S (bj g))),(106,.int q),(108,.str (S (gX y.1)))]
noncomputable def b5 (i:Nat):CS:=(st 5).fB.getD i (st 0)
noncomputable def aK (b:Int) (i:Nat):Int:=Int.fmod (Int.fdiv b (3 ^ i)) 3
noncomputable def a0 (b:Int) (i:Nat):Int:=Int.fmod (Int.fdiv b 729 + i) 4
noncomputable def cN:CE→CE | .tup (a :: _) _ _=>a | e=>e
noncomputable def gv:CE→CE | .tup (_ :: b :: _) _ _=>b | e=>e
noncomputable def aj:CS→CE | .augN _ _ _ e _=>e | .asg _ e _=>e | _=>.name 0 ⟨0,0,0,0⟩
noncomputable def s7:CE→CE | .bin a _ _ _=>a | e=>e
noncomputable def mV:CE→CE | .bin _ _ b _=>b | e=>e
noncomputable def ws:List (List Nat):=[wrd 0 1,wrd 0 2,wrd 0 3,wrd 0 4,wrd 0 5,wrd 0 6,wrd 0 7,wrd 1 1,wrd 1 2,wrd 1 3,wrd 2 1,wrd 2 2]
theorem z9:∀ j∈[4,5,6,7],∀ r∈aP j,(∀ w∈aw 0 r,w∈ws)∧(aw 0 r).length < 5∧0 < (aw 0 r).length:=by decide +kernel
theorem zb {i:Nat} (h:i < 4):i = 0∨i = 1∨i = 2∨i = 3:=by lia
section
variable (n:Nat) (s:PV) (x sz a b c:Int) (r:Rw) (T:Str) (w:List Nat) (nd:Option PV) (sh:Option (Int × Int))
theorem wJ (i:Nat) (hi:i < 4):(ae cfg (n + 57)).ev scL (ft s i x sz r T w sh) (cN (aj (b5 0))) (cs2 a b c nd) = some (.int (aK b i),cs2 a b c nd):=by
 refine e4 (zb hi) ?_ ?_ ?_ ?_ <;> rcases sh with _ | ⟨q',g'⟩ <;> kernel_rfl
theorem xX (i:Nat):(ae cfg (n + 56)).ev scL (ft s i x sz r T w sh) (fC (gv (aj (b5 0)))) (cs2 a b c nd) = some (.int (a0 b i),cs2 a b c nd):=by
 rcases sh with _ | ⟨q',g'⟩ <;> kernel_rfl
theorem vY (i:Int):(ae cfg (n + 56)).ev scL (ft s i x sz r T w sh) (gI (gv (aj (b5 0)))) (cs2 a b c nd) = some (.lst [.str (S [10]),.str (S [32,9]),.str (S [13,10]),.str (S [32,32])],cs2 a b c nd):=by
 rcases sh with _ | ⟨q',g'⟩ <;> kernel_rfl
theorem vK (b:Int) (i:Nat) (μ:Mem):getM (.lst [.str (S [10]),.str (S [32,9]),.str (S [13,10]),.str (S [32,32])]) (.int (a0 b i)) μ = some (.str (S (bj (a0 b i))),μ):=by
 rcases four (Int.fdiv b 729 + i) with h | h | h | h <;> (have h':a0 b i = _:=h;refine rwG h' ?_;rfl)
theorem y8 (i:Nat) (hi:i < 4):(ae cfg (n + 59)).ex scL (ft s i x sz r T w sh) (b5 0) (cs2 a b c nd) = some ((.next,sW s i x sz r T w (aK b i) (a0 b i) sh),cs2 a b c nd):=by
 have e1:(ae cfg (n + 57)).ev scL (ft s i x sz r T w sh) (gv (aj (b5 0))) (cs2 a b c nd) = some (.str (S (bj (a0 b i))),cs2 a b c nd):=by
  refine (?_:(ae cfg (n + 57)).ev scL _ (.sub (gI (gv (aj (b5 0)))) (fC (gv (aj (b5 0)))) ⟨288,49,288,107⟩) _ = _)
  refine rwG rd ?_
  exact (af (vY n s x sz a b c r T w nd sh i)).trans ((af (xX n s x sz a b c r T w nd sh i)).trans (vK b i _))
 have e2:evL (ae cfg (n + 57)) scL (ft s i x sz r T w sh) [cN (aj (b5 0)),gv (aj (b5 0))] (cs2 a b c nd) = some ([.int (aK b i),.str (S (bj (a0 b i)))],cs2 a b c nd) :=
  (af (wJ n s x sz a b c r T w nd sh i hi)).trans ((af ((af e1).trans rfl)).trans rfl)
 have e3:(ae cfg (n + 58)).ev scL (ft s i x sz r T w sh) (aj (b5 0)) (cs2 a b c nd) = some (.tup [.int (aK b i),.str (S (bj (a0 b i)))],cs2 a b c nd):=(af e2).trans rfl
 have e4:∀ q g,gy scL (ft s i x sz r T w sh) (.tup [(106,⟨288,8,288,12⟩),(107,⟨288,14,288,17⟩)] 0 ⟨288,8,288,17⟩) (aj (b5 0)) (.tup [.int q,.str (S (bj g))]) (cs2 a b c nd) = some (sW s i x sz r T w q g sh,cs2 a b c nd):=fun q g=>by
  rcases sh with _ | ⟨q',g'⟩ <;> kernel_rfl
 exact (af e3).trans ((af (e4 _ _)).trans rfl)
theorem yt (i:Int) (q g:Int) (hq:q = 0∨q = 1∨q = 2):(ae cfg (n + 59)).ex scL (sW s i x sz r T w q g sh) (b5 1) (cs2 a b c nd) = some ((.next,cJ s i x sz r T w q g),cs2 a b c (some (.str (S (br q w))))):=by
 refine e3 hq ?_ ?_ ?_ <;> rcases sh with _ | ⟨q',g'⟩ <;> kernel_rfl
theorem w4 (i:Int) (g:Int):∀ w∈ws,∀ q:Int,(q = 0∨q = 1∨q = 2)→(ae cfg (n + 57)).ev scL (cJ s i x sz r T w q g) (s7 (aj (b5 2))) (cs2 a b c (some (.str (S (br q w))))) = some (.str (S (core w q)),cs2 a b c (some (.str (S (br q w))))):=by
 intro w hw q hq
 refine e3 hq ?_ ?_ ?_ <;> (revert w;exact map_eq (by kernel_rfl))
end
theorem AE (a b:List Nat):S a ++ S b = S (a ++ b):=by
 refine (?_:(⟨(a.toArray ++ b.toArray)⟩:Str) = ⟨(a ++ b).toArray⟩)
 rw [List.append_toArray]
theorem pX (a:List Nat):(S a).length = a.length:=by simp [S,Str.length]
theorem nA:∀ w∈ws,∀ q:Int,(q = 0∨q = 1∨q = 2)→(core w q).length ≤ 16:=by
 intro w hw q hq
 refine e3 hq ?_ ?_ ?_ <;> (revert w;decide +kernel)
theorem oY (g:Int):(bj g).length ≤ 2:=by
 delta bj
 by_cases h0:g = 0
 ·refine rwG (if_pos h0) ?_;decide
 ·refine rwG (if_neg h0) ?_;by_cases h1:g = 1
  ·refine rwG (if_pos h1) ?_;decide
  ·refine rwG (if_neg h1) ?_;by_cases h2:g = 2
   ·refine rwG (if_pos h2) ?_;decide
   ·refine rwG (if_neg h2) ?_;decide
theorem g9 {w:List Nat} (hw:w∈ws) {q:Int} (hq:q = 0∨q = 1∨q = 2) (g:Int):(bD w q g).length ≤ 18:=by
 have h1:=nA w hw q hq
 have h2:=oY g
 delta bD
 rw [List.length_append];lia
theorem qy (l m:List Nat) (h:l.length + m.length ≤ 1000000):iO .Add (.str (S l)) (.str (S m)) = some (.str (S (l ++ m))):=by
 have h20:ah = 1048576:=rfl
 refine (?_:(if (S l).length + (S m).length ≤ ah then some (PV.str (S l ++ S m)) else none) = _)
 rw [pX,pX,if_pos (by lia),AE]
theorem z8 (l m:List Nat) (h:l.length + m.length ≤ 1000000):kv .Add (.str (S l)) (.str (S m)) = some (.str (S (l ++ m))):=qy l m h
section
variable (n:Nat) (s:PV) (x sz a b c:Int) (r:Rw) (w:List Nat) (nd:Option PV) (sh:Option (Int × Int))
theorem uR (i:Int) (T:Str) (q g:Int) (hw:w∈ws) (hq:q = 0∨q = 1∨q = 2):(ae cfg (n + 58)).ev scL (cJ s i x sz r T w q g) (aj (b5 2)) (cs2 a b c (some (.str (S (br q w))))) = some (.str (S (bD w q g)),cs2 a b c (some (.str (S (br q w))))):=by
 refine (show (ae cfg (n + 58)).ev scL (cJ s i x sz r T w q g) (aj (b5 2)) (cs2 a b c (some (.str (S (br q w))))) = M.bnd ((ae cfg (n + 57)).ev scL (cJ s i x sz r T w q g) (s7 (aj (b5 2)))) (fun u=>M.bnd ((ae cfg (n + 57)).ev scL (cJ s i x sz r T w q g) (mV (aj (b5 2)))) fun v=>M.lift (iO .Add u v)) (cs2 a b c (some (.str (S (br q w))))) from by kernel_rfl).trans ?_
 refine (af (w4 n s x sz a b c r T i g w hw q hq)).trans ?_
 refine (af (show (ae cfg (n + 57)).ev scL (cJ s i x sz r T w q g) (mV (aj (b5 2))) (cs2 a b c (some (.str (S (br q w))))) = some (.str (S (bj g)),cs2 a b c (some (.str (S (br q w))))) from by kernel_rfl)).trans ?_
 have h1:=nA w hw q hq
 have h2:=oY g
 exact cy (qy _ _ (by lia))
theorem zg (i:Int) (t:List Nat) (ht:t.length ≤ 1000) (q g:Int) (hw:w∈ws) (hq:q = 0∨q = 1∨q = 2) :
  (ae cfg (n + 59)).ex scL (cJ s i x sz r (S t) w q g) (b5 2) (cs2 a b c (some (.str (S (br q w))))) = some ((.next,cJ s i x sz r (S (t ++ bD w q g)) w q g),cs2 a b c (some (.str (S (br q w))))):=by
 refine (show (ae cfg (n + 59)).ex scL (cJ s i x sz r (S t) w q g) (b5 2) (cs2 a b c (some (.str (S (br q w))))) = M.bnd (a8 cfg scL (cJ s i x sz r (S t) w q g) 104) (fun old=>M.bnd ((ae cfg (n + 58)).ev scL (cJ s i x sz r (S t) w q g) (aj (b5 2))) fun v=>M.bnd (M.lift (kv .Add old v)) fun y=>M.bnd (cS scL (cJ s i x sz r (S t) w q g) 104 y) fun loc'=>M.ret (.next,loc')) (cs2 a b c (some (.str (S (br q w))))) from by kernel_rfl).trans ?_
 have e1:a8 cfg scL (cJ s i x sz r (S t) w q g) 104 (cs2 a b c (some (.str (S (br q w))))) = some (.str (S t),cs2 a b c (some (.str (S (br q w))))):=rfl
 have hp:=g9 hw hq g
 exact (af e1).trans ((af (uR n s x sz a b c r w i (S t) q g hw hq)).trans ((af (cy (z8 _ _ (by lia)))).trans rfl))
theorem Ak (i:Nat) (hi:i < 4) (t:List Nat) (ht:t.length ≤ 1000) (hw:w∈ws):ay (ae cfg (n + 59)) scL (st 5).fB (ft s i x sz r (S t) w sh) (cs2 a b c nd) =
  some ((.next,cJ s i x sz r (S (t ++ bD w (aK b i) (a0 b i))) w (aK b i) (a0 b i)),cs2 a b c (some (.str (S (br (aK b i) w))))):=by
 refine (?_:ay (ae cfg (n + 59)) scL [b5 0,b5 1,b5 2] _ _ = _)
 have hq:aK b i = 0∨aK b i = 1∨aK b i = 2:=three _
 exact (blk (y8 n s x sz a b c r (S t) w nd sh i hi)).trans ((blk (yt n s x sz a b c r (S t) w nd sh i _ _ hq)).trans ((blk (zg n s x sz a b c r w i t ht _ _ hw hq)).trans rfl))
end
noncomputable def bh (b:Int):Nat→List (List Nat)→List Nat
 | _,[]=>[]
 | i,w :: l=>bD w (aK b i) (a0 b i) ++ bh b (i + 1) l
theorem ka {b:Int} {i:Nat}:bh b i [] = []:=rfl
theorem iw {b:Int} {w:List Nat} {i:Nat} {l:List (List Nat)}:bh b i (w :: l) = bD w (aK b i) (a0 b i) ++ bh b (i + 1) l:=rfl
noncomputable def ug (s:PV) (i x sz:Int) (r:Rw) (T:Str) (sh:Option (List Nat × Int × Int)):Loc:=match sh with
 | none=>j1 s i x sz r T
 | some y=>cJ s i x sz r T y.1 y.2.1 y.2.2
theorem qs (k:Nat) (x:List Nat) (l:List (List Nat)):bN (k:Int) ((x :: l).map aD) = .tup [.int k,aD x] :: bN ((k + 1:Nat):Int) (l.map aD):=by
 skip;norm_cast
theorem vr (n:Nat) (s:PV) (x sz a b c:Int) (r:Rw):∀ (l:List (List Nat)) (i:Nat) (k:Int) (t:List Nat) (nd:Option PV) (sh:Option (List Nat × Int × Int)),(∀ w∈l,w∈ws)→i + l.length ≤ 4→t.length ≤ 18 * i →
  ∃ k' nd' sh',cz (aV (ae cfg (n + 59)) scL (st 5).fT (st 5).fB) (bN (i:Int) (l.map aD)) (ug s k x sz r (S t) sh) (cs2 a b c nd) = some ((.next,ug s k' x sz r (S (t ++ bh b i l)) sh'),cs2 a b c nd')∧(l ≠ []→(∃ y,sh' = some y)∧∃ z,nd' = some (.str z))∧(l = []→sh' = sh∧nd' = nd)
 | [],i,k,t,nd,sh,_,_,_=>⟨k,nd,sh,by rw [ka,List.append_nil];rfl,fun h=>absurd rfl h,fun _=>⟨rfl,rfl⟩⟩
 | w :: l,i,k,t,nd,sh,hd,hi,ht=>by
  have hw:w∈ws:=hd w (.head _)
  have hlen:=g9 hw (three (Int.fdiv b (3 ^ i))) (a0 b i)
  have hi':i + (l.length + 1) ≤ 4:=hi
  obtain ⟨k',nd',sh',e,h1,h2⟩:=vr n s x sz a b c r l (i + 1) i (t ++ bD w (aK b i) (a0 b i)) (some (.str (S (br (aK b i) w)))) (some (w,aK b i,a0 b i)) (fun e he=>hd e (.tail _ he)) (by lia) (by refine rwG List.length_append ?_;have:(bD w (aK b i) (a0 b i)).length ≤ 18:=hlen;lia)
  refine ⟨k',nd',sh', ?_,fun _=>?_,fun h=>(by injection h)⟩
  ·rw [qs,iw,← List.append_assoc]
   have e1:cB scL (ug s k x sz r (S t) sh) (st 5).fT (.tup [.int i,aD w]) (cs2 a b c nd) = some (ft s i x sz r (S t) w (sh.map (·.2)),cs2 a b c nd):=by
    rcases sh with _ | ⟨y1,y2,y3⟩ <;> rfl
   have e3:=(af e1).trans (Ak n s x sz a b c r w nd (sh.map (·.2)) i (by lia) t (by lia) hw)
   exact (af e3).trans e
  ·rcases l with _ | ⟨d',l⟩
   ·exact ⟨⟨_,(h2 rfl).1⟩,⟨_,(h2 rfl).2⟩⟩
   ·exact h1 (fun h=>by injection h)
end Mine
end
section
namespace Mine
open PySem
section
variable {n:Nat} {sc:Sc} {loc:Loc}
noncomputable def Aq:CE→Bool | .sub ..=>true | _=>false
theorem j2 (e:CE) (h:Aq e = true):(ae cfg (n + 1)).ev sc loc e = M.bnd ((ae cfg n).ev sc loc (gI e)) fun x=>M.bnd ((ae cfg n).ev sc loc (fC e)) fun y=>getM x y:=by
 cases e <;> first | rfl | exact tf2 h
noncomputable def zC:CE→Bool | .bin ..=>true | _=>false
noncomputable def ij:CE→CE | .bin a _ _ _=>a | e=>e
noncomputable def ix:CE→CE | .bin _ _ b _=>b | e=>e
noncomputable def Bv:CE→Operator | .bin _ p _ _=>p | _=>.Add
theorem hW (e:CE) (h:zC e = true):(ae cfg (n + 1)).ev sc loc e = M.bnd ((ae cfg n).ev sc loc (ij e)) fun x=>M.bnd ((ae cfg n).ev sc loc (ix e)) fun y=>M.lift (iO (Bv e) x y):=by
 cases e <;> first | rfl | exact tf2 h
noncomputable def isCall:CE→Bool | .call ..=>true | _=>false
noncomputable def d8:CE→Nat | .call f _ _ _=>f | _=>0
noncomputable def bY:CE→List CE | .call _ _ l _=>l | _=>[]
theorem b9 (e:CE) (h:isCall e = true):(ae cfg (n + 1)).ev sc loc e = M.bnd (a8 cfg sc loc (d8 e)) fun fv=>M.bnd (evL (ae cfg n) sc loc (bY e)) fun vs=>(ae cfg n).cl fv vs:=by
 cases e <;> first | rfl | exact tf2 h
noncomputable def xp:CE→Bool | .meth o _ ap l p=>cc o ap p l | _=>false
noncomputable def ng:CE→CE | .meth o _ _ _ _=>o | e=>e
noncomputable def Ac:CE→MT | .meth _ n _ _ _=>n | _=>.append
noncomputable def mZ:CE→List CE | .meth _ _ _ l _=>l | _=>[]
theorem mI (e:CE) (h:xp e = true):(ae cfg (n + 1)).ev sc loc e = M.bnd ((ae cfg n).ev sc loc (ng e)) fun ov=>M.bnd (d9 ov) fun mk=>M.bnd (evL (ae cfg n) sc loc (mZ e)) fun vs=>fk sc mk ov (Ac e) vs:=by
 induction e using CE.casesOn with
 | meth o m ap l p =>
  refine (?_:(match cc o ap p l with | true=>_ | false=>_) = _)
  have:cc o ap p l = true:=h
  refine rwG this ?_;rfl
 | _=>exact tf2 h
noncomputable def vz:CS→Bool | .asg ..=>true | _=>false
noncomputable def qu:CS→CT | .asg t _ _=>t | _=>.name 0 ⟨0,0,0,0⟩
theorem b6 (s:CS) (h:vz s = true):(ae cfg (n + 1)).ex sc loc s = M.bnd ((ae cfg n).ev sc loc (aj s)) fun v=>M.bnd (gy sc loc (qu s) (aj s) v) fun loc'=>M.ret (.next,loc'):=by
 cases s <;> first | rfl | exact tf2 h
theorem kb {e:CE} {μ μ':Mem} {v:PV} (h:(ae cfg n).ev sc loc e μ = some (v,μ')):evL (ae cfg n) sc loc [e] μ = some ([v],μ'):=(af h).trans rfl
theorem o5 {e:CE} {es:List CE} {μ μ' μ'':Mem} {v:PV} {vs:List PV} (h:(ae cfg n).ev sc loc e μ = some (v,μ')) (h2:evL (ae cfg n) sc loc es μ' = some (vs,μ'')):evL (ae cfg n) sc loc (e :: es) μ = some (v :: vs,μ''):=(af h).trans ((af h2).trans rfl)
theorem sR (x:Str) (h:x.length ≤ 1000) (μ:Mem):(ae cfg (n + 1)).cl (.fn 148) [.str x] μ = some (PV.ref μ.length,μ ++ [.lex x.cps.toList 1 []]):=by
 refine (?_:me .lexer [.str x] μ = _)
 refine (?_:(if x.length ≤ 1000 then M.bnd (M.new (.lex x.cps.toList 1 [])) (fun i=>M.ret (PV.ref i)) else M.no) μ = _)
 refine rwG (if_pos h) ?_;rfl
end
noncomputable def AH:CS→Bool | .for _ _ _ [] _=>true | _=>false
theorem ig {n:Nat} {sc:Sc} {loc loc':Loc} (s:CS) (h:AH s = true) {μ μ' μ'':Mem} {l:List PV} (e1:bH cfg (ae cfg n) sc loc s.fT s.fI μ = some (.items l,μ')) (e2:cz (aV (ae cfg n) sc s.fT s.fB) l loc μ' = some ((.next,loc'),μ'')):(ae cfg (n + 1)).ex sc loc s μ = some ((.next,loc'),μ''):=by
 induction s using CS.casesOn with
 | «for» t it b o p =>
  induction o using List.casesOn with
  | nil =>
   rw [xV]
   exact (af (show bH cfg (ae cfg n) sc loc t it μ = _ from e1)).trans ((af e2).trans rfl)
  | cons _ _=>exact tf2 h
 | _=>exact tf2 h
noncomputable def wL:CE→Bool | .call ..=>true | _=>false
theorem r7 {r:R} {sc:Sc} {loc:Loc} {t:CT} (e:CE) (h:wL e = false):bH cfg r sc loc t e = M.bnd (r.ev sc loc e) srcOf:=by
 cases e <;> first | rfl | exact tf1 h
structure Gh where
 s:PV
 k:Int
 x:Int
 sz:Int
 r:Rw
 T:Str
 g:PV
 q:PV
 m:PV
 z:Str
 a:Int
 b:Int
 c:Int
noncomputable abbrev ar (j:Gh) (w:PV) (r:Loc):Loc:=(98,j.s) :: (99,.ref 7) :: (100,.int j.k) :: (58,.int j.x) :: (101,.int j.sz) :: (60,av j.r) :: (104,.str j.T) :: (103,ao j.r) :: (73,w) :: (107,j.g) :: (106,j.q) :: (108,j.m) :: r
noncomputable abbrev csJ (j:Gh) (lo wa hu:Option PV) (cs:List Nat) (ln:Int) (push:List Str) (r:Mem):Mem:=.cell (some nv) :: .cell (some (.str j.z)) :: .cell (some (.ref 8)) :: .cell (some (.ref 9)) :: .cell lo :: .cell wa :: .cell hu :: .lst [.int j.a,.int j.b,.int j.c] :: .lex cs ln [] :: .lex [] 1 push :: r
noncomputable def bG (j:Gh):Mem:=[.cell (some nv),.cell (some (.str j.z)),.cell none,.cell none,.cell none,.cell none,.cell none,.lst [.int j.a,.int j.b,.int j.c]]
noncomputable def jX:CE→CE | .call _ _ (a :: _) _=>a | e=>e
noncomputable def aG (y:Int):List Nat:=if y = 0 then [101,110,100] else if y = 1 then [34,101,110,100] else if y = 2 then [101,92,110,100] else [34,101,110,100,34]
noncomputable def vn:PV:=.lst [.str (S [101,110,100]),.str (S [34,101,110,100]),.str (S [101,92,110,100]),.str (S [34,101,110,100,34])]
theorem uj (y:Int) (μ:Mem):getM vn (.int (Int.fmod y 4)) μ = some (.str (S (aG (Int.fmod y 4))),μ):=by
 rcases four y with h | h | h | h <;> refine rwG h ?_ <;> rfl
theorem tF (y:Int):(aG y).length ≤ 5:=by
 delta aG
 by_cases h0:y = 0
 ·refine rwG (if_pos h0) ?_;decide
 ·refine rwG (if_neg h0) ?_;by_cases h1:y = 1
  ·refine rwG (if_pos h1) ?_;decide
  ·refine rwG (if_neg h1) ?_;by_cases h2:y = 2
   ·refine rwG (if_pos h2) ?_;decide
   ·refine rwG (if_neg h2) ?_;decide
theorem Br (n:Nat) (s:PV) (k x sz a b c:Int) (r:Rw) (hw:(∀ w∈aw 0 r,w∈ws)∧(aw 0 r).length < 5∧0 < (aw 0 r).length) :
  ∃ (j:Gh) (w:PV),j.s = s∧j.sz = sz∧j.r = r∧j.T = S (bh b 0 (aw 0 r))∧j.a = a∧j.b = b∧j.c = c∧(ae cfg (n + 60)).ex scL (j1 s k x sz r (S [])) (st 5) (cs2 a b c none) = some ((.next,ar j w []),bG j):=by
 obtain ⟨k',nd',sh',e,h1,_⟩:=vr n s x sz a b c r (aw 0 r) 0 k [] none none hw.1 (by lia) (by simp)
 have hne:aw 0 r ≠ []:=fun h=>by rw [h] at hw;exact absurd hw.2.2 (by decide)
 obtain ⟨⟨⟨w,q,g⟩,rfl⟩,z,rfl⟩:=h1 hne
 refine ⟨⟨s,k',x,sz,r,S (bh b 0 (aw 0 r)),.str (S (bj g)),.int q,.str (S (gX q)),z,a,b,c⟩,aD w,rfl,rfl,rfl,rfl,rfl,rfl,rfl, ?_⟩
 refine ig _ (by kernel_rfl) (μ':=cs2 a b c none) (l:=bN 0 ((aw 0 r).map aD)) ?_ e
 have hl:((aw 0 r).map aD).length ≤ ah:=by
  have h20:ah = 1048576:=rfl
  rw [List.length_map];lia
 have e1:evL (ae cfg (n + 59)) scL (j1 s k x sz r (S [])) (bY (st 5).fI) (cs2 a b c none) = some ([ao r],cs2 a b c none):=by kernel_rfl
 refine (show bH cfg (ae cfg (n + 59)) scL (j1 s k x sz r (S [])) (st 5).fT (st 5).fI (cs2 a b c none) = M.bnd (evL (ae cfg (n + 59)) scL (j1 s k x sz r (S [])) (bY (st 5).fI)) (fun vs=>M.lift ((kX .enumerate vs).map .items)) (cs2 a b c none) from by kernel_rfl).trans ((af e1).trans (cy ?_))
 show (if ((aw 0 r).map aD).length ≤ ah then some (bN 0 ((aw 0 r).map aD)) else none).map Src.items = _
 rw [if_pos hl];rfl
theorem Bp (n:Nat) (j:Gh) (w:PV) (t:List Nat) (hT:j.T = S t) (ht:t.length ≤ 900) :
  (ae cfg (n + 60)).ex scL (ar j w []) (st 6) (bG j) = some ((.next,ar j w []),csJ j none none none (t ++ aG (Int.fmod j.c 4)) 1 [] []):=by
 have e1:(ae cfg (n + 55)).ev scL (ar j w []) (gI (mV (jX (cN (aj (st 6)))))) (bG j) = some (vn,bG j):=by kernel_rfl
 have e2:(ae cfg (n + 55)).ev scL (ar j w []) (fC (mV (jX (cN (aj (st 6)))))) (bG j) = some (.int (Int.fmod j.c 4),bG j):=by kernel_rfl
 have e3:(ae cfg (n + 56)).ev scL (ar j w []) (mV (jX (cN (aj (st 6))))) (bG j) = some (.str (S (aG (Int.fmod j.c 4))),bG j):=by
  rw [j2 _ rfl]
  exact (af e1).trans ((af e2).trans (uj _ _))
 have e4:(ae cfg (n + 56)).ev scL (ar j w []) (s7 (jX (cN (aj (st 6))))) (bG j) = some (.str (S t),bG j):=by
  rw [← hT];rfl
 have hl:=tF (Int.fmod j.c 4)
 have e6:(ae cfg (n + 57)).ev scL (ar j w []) (jX (cN (aj (st 6)))) (bG j) = some (.str (S (t ++ aG (Int.fmod j.c 4))),bG j):=by
  rw [hW _ rfl]
  exact (af e4).trans ((af e3).trans (cy (qy _ _ (by lia))))
 have hlen:(S (t ++ aG (Int.fmod j.c 4))).length ≤ 1000:=by rw [pX,List.length_append];lia
 have e7:(ae cfg (n + 57)).cl (.fn 148) [.str (S (t ++ aG (Int.fmod j.c 4)))] (bG j) = some (.ref 8,bG j ++ [.lex (t ++ aG (Int.fmod j.c 4)) 1 []]):=sR _ hlen _
 have e8:(ae cfg (n + 58)).ev scL (ar j w []) (cN (aj (st 6))) (bG j) = some (.ref 8,bG j ++ [.lex (t ++ aG (Int.fmod j.c 4)) 1 []]):=by
  rw [b9 _ rfl]
  exact (af (show a8 cfg scL (ar j w []) 111 (bG j) = some (.fn 148,bG j) from rfl)).trans ((af (kb e6)).trans e7)
 have e9a:evL (ae cfg (n + 58)) scL (ar j w []) [gv (aj (st 6))] (bG j ++ [.lex (t ++ aG (Int.fmod j.c 4)) 1 []]) = some ([.ref 9],bG j ++ [.lex (t ++ aG (Int.fmod j.c 4)) 1 [],.lex [] 1 []]):=by
  generalize t ++ aG (Int.fmod j.c 4) = u
  kernel_rfl
 have e9:(ae cfg (n + 59)).ev scL (ar j w []) (aj (st 6)) (bG j) = some (.tup [.ref 8,.ref 9],bG j ++ [.lex (t ++ aG (Int.fmod j.c 4)) 1 [],.lex [] 1 []]):=(af (o5 e8 e9a)).trans rfl
 have e10:gy scL (ar j w []) (qu (st 6)) (aj (st 6)) (.tup [.ref 8,.ref 9]) (bG j ++ [.lex (t ++ aG (Int.fmod j.c 4)) 1 [],.lex [] 1 []]) = some (ar j w [],csJ j none none none (t ++ aG (Int.fmod j.c 4)) 1 [] []):=by
  generalize t ++ aG (Int.fmod j.c 4) = u
  kernel_rfl
 rw [b6 _ rfl]
 exact (af e9).trans ((af e10).trans rfl)
end Mine
end
section
namespace Mine
open PySem
noncomputable def nlc:List Nat→Nat
 | []=>0
 | c :: r=>nl c + nlc r
theorem mi {c:Nat} {r:List Nat}:nlc (c :: r) = nl c + nlc r:=rfl
theorem pH (a b:List Nat):nlc (a ++ b) = nlc a + nlc b:=by
 induction a with
 | nil=>exact (Nat.zero_add _).symm
 | cons c r ih=>rw [List.cons_append,mi,mi,ih,Nat.add_assoc]
noncomputable def wsA (u:List Nat):Prop:=∀ c∈u,isWs c = true
theorem jY:∀ (u l:List Nat) (n:Nat),wsA u→aA (u ++ l) n = aA l (n + nlc u)
 | [],_,_,_=>rfl
 | c :: u,l,n,h=>by
  have hc:isWs c = true:=h c (.head _)
  rw [List.cons_append]
  refine (?_:(if isWs c = true then aA (u ++ l) (n + nl c) else _) = _)
  rw [if_pos hc,jY u l _ (fun x hx=>h x (.tail _ hx)),mi]
  congr 1;lia
noncomputable def gS (q g:Int):List Nat:=if q = 0 then (bj g).tail else bj g
noncomputable def md (q g:Int):Nat:=if q = 0 then nl ((bj g).headD 0) else 0
theorem rq (rest:List Nat) (n:Nat):∀ w∈ws,aA (core w 0 ++ rest) n = bJ rest w.reverse n:=map_eq (by kernel_rfl)
theorem lA (rest:List Nat) (n:Nat):∀ w∈ws,aA (core w 1 ++ rest) n = (w.reverse,rest,n)∧aA (core w 2 ++ rest) n = (w.reverse,rest,n):=by
 intro w hw
 constructor <;> (revert w;exact map_eq (by kernel_rfl))
theorem vR:∀ w∈ws,nlc (core w 0) = 0∧nlc (core w 1) = 0∧nlc (core w 2) = 0:=by decide +kernel
theorem vN (rest t:List Nat) (n:Nat) {g:Int} (hg:g = 0∨g = 1∨g = 2∨g = 3):bJ (bj g ++ rest) t n = (t,(bj g).tail ++ rest,n + nl ((bj g).headD 0)):=by
 refine e4 hg ?_ ?_ ?_ ?_ <;> kernel_rfl
theorem rA (rest:List Nat) (n:Nat) {w:List Nat} (hw:w∈ws) {q g:Int} (hq:q = 0∨q = 1∨q = 2) (hg:g = 0∨g = 1∨g = 2∨g = 3):aA (bD w q g ++ rest) n = (w.reverse,gS q g ++ rest,n + md q g):=by
 delta bD
 rw [List.append_assoc]
 refine e3 hq ?_ ?_ ?_
 ·exact (rq _ n w hw).trans (vN rest _ n hg)
 ·exact (lA _ n w hw).1
 ·exact (lA _ n w hw).2
theorem xB {g:Int} (hg:g = 0∨g = 1∨g = 2∨g = 3):nlc (bj g) = nl ((bj g).headD 0) + nlc (bj g).tail:=by
 refine e4 hg ?_ ?_ ?_ ?_ <;> rfl
theorem tJ {w:List Nat} (hw:w∈ws) {q g:Int} (hq:q = 0∨q = 1∨q = 2) (hg:g = 0∨g = 1∨g = 2∨g = 3):nlc (bD w q g) = md q g + nlc (gS q g):=by
 obtain ⟨h0,h1,h2⟩:=vR w hw
 delta bD
 rw [pH]
 refine e3 hq ?_ ?_ ?_
 ·rw [h0,xB hg,Nat.zero_add];rfl
 ·rw [h1];rfl
 ·rw [h2];rfl
theorem wj {q g:Int} (hq:q = 0∨q = 1∨q = 2) (hg:g = 0∨g = 1∨g = 2∨g = 3):wsA (gS q g):=by
 refine e3 hq ?_ ?_ ?_ <;> refine e4 hg ?_ ?_ ?_ ?_ <;> (delta wsA;decide)
theorem uV (y:Int) (m:Nat) (hy:y = 0∨y = 1∨y = 2∨y = 3):aA (aG y) m = ([100,110,101],[],m):=by
 refine e4 hy ?_ ?_ ?_ ?_ <;> kernel_rfl
theorem vZ (l:List Nat):(nlc l:Int) = (PyProof.Rows.cnt 10 l):=by
 induction l with
 | nil=>rfl
 | cons c r ih =>
  rw [PyProof.Rows.cnt_cons,mi,← ih]
  unfold nl
  by_cases h:c = 10
  ·subst h;simp
  ·rw [if_neg h,if_neg (by simpa using h)];simp
noncomputable def cpE:CE→CE | .comp e _ _ _ _ _=>e | e=>e
noncomputable def cpT:CE→CT | .comp _ t _ _ _ _=>t | _=>.name 0 ⟨0,0,0,0⟩
noncomputable def cpI:CE→CE | .comp _ _ i _ _ _=>i | e=>e
noncomputable def cpS:CE→CSc | .comp _ _ _ _ s _=>s | _=>⟨[],[]⟩
noncomputable def sc7:Sc:=⟨(cpS (aj (st 7))).names,[(110,2)],0⟩
section
variable (n:Nat) (j:Gh)
theorem zu (lo wa hu:Option PV) (loc:Loc) (cs:List Nat) (ln:Int) (p:List Str) (r:Mem):(ae cfg (n + 58)).ev sc7 loc (cpE (aj (st 7))) (csJ j lo wa hu cs ln p r) = some (.str ⟨(aA cs 0).1.reverse.toArray⟩,csJ j lo wa hu (aA cs 0).2.1 (ln + ((aA cs 0).2.2:Nat)) p r):=by kernel_rfl
theorem rev_rev (w:List Nat):(⟨w.reverse.reverse.toArray⟩:Str) = S w:=by rw [List.reverse_reverse];rfl
theorem vA (tl:List Nat):∀ (l:List (List Nat)) (i:Nat) (u:List Nat) (ln:Int) (loc:Loc) (acc:List PV),(∀ w∈l,w∈ws)→wsA u →
  ∃ u' ln',dH (ae cfg (n + 58)) sc7 (cpE (aj (st 7))) (cpT (aj (st 7))) [] (l.map aD) loc acc (csJ j none none none (u ++ (bh j.b i l ++ tl)) ln [] []) = some (acc ++ l.map aD,csJ j none none none (u' ++ tl) ln' [] [])∧wsA u'∧ln' + nlc u' = ln + nlc u + nlc (bh j.b i l)
 | [],i,u,ln,loc,acc,_,hu=>⟨u,ln,by rw [ka,List.nil_append,List.map_nil,List.append_nil];rfl,hu,by rw [ka];exact (Int.add_zero _).symm⟩
 | w :: l,i,u,ln,loc,acc,hd,hu=>by
  have hw:=hd w (.head _)
  have hq:aK j.b i = 0∨aK j.b i = 1∨aK j.b i = 2:=three _
  have hg:a0 j.b i = 0∨a0 j.b i = 1∨a0 j.b i = 2∨a0 j.b i = 3:=four _
  have hx:aA (u ++ (bD w (aK j.b i) (a0 j.b i) ++ (bh j.b (i + 1) l ++ tl))) 0 = (w.reverse,gS (aK j.b i) (a0 j.b i) ++ (bh j.b (i + 1) l ++ tl),nlc u + md (aK j.b i) (a0 j.b i)):=by
   rw [jY _ _ _ hu,rA _ _ hw hq hg,Nat.zero_add]
  obtain ⟨u',ln',e,h1,h2⟩:=vA tl l (i + 1) (gS (aK j.b i) (a0 j.b i)) (ln + ((nlc u + md (aK j.b i) (a0 j.b i):Nat):Int)) (dQ loc 61 (aD w)) (acc ++ [aD w]) (fun x hx=>hd x (.tail _ hx)) (wj hq hg)
  refine ⟨u',ln', ?_,h1, ?_⟩
  ·have e0:=zu n j none none none (dQ loc 61 (aD w)) (u ++ (bD w (aK j.b i) (a0 j.b i) ++ (bh j.b (i + 1) l ++ tl))) ln [] []
   rw [hx] at e0
   dsimp only at e0
   rw [rev_rev] at e0
   rw [iw,List.map_cons,List.append_assoc]
   have e1:cB sc7 loc (cpT (aj (st 7))) (aD w) (csJ j none none none (u ++ (bD w (aK j.b i) (a0 j.b i) ++ (bh j.b (i + 1) l ++ tl))) ln [] []) = some (dQ loc 61 (aD w),csJ j none none none (u ++ (bD w (aK j.b i) (a0 j.b i) ++ (bh j.b (i + 1) l ++ tl))) ln [] []):=rfl
   refine (af e1).trans ?_
   generalize u ++ (bD w (aK j.b i) (a0 j.b i) ++ (bh j.b (i + 1) l ++ tl)) = z at e0 ⊢
   refine (af (show gK (ae cfg (n + 58)) sc7 (dQ loc 61 (aD w)) [] (csJ j none none none z ln [] []) = some (true,csJ j none none none z ln [] []) from rfl)).trans ?_
   refine (af e0).trans ?_
   rw [show acc ++ aD w :: l.map aD = acc ++ [aD w] ++ l.map aD by simp]
   exact e
  ·rw [h2,iw,pH,tJ hw hq hg]
   push_cast
   lia
theorem By (w:PV) (tl:List Nat) (hw:(∀ w∈aw 0 j.r,w∈ws)∧(aw 0 j.r).length < 5) :
  ∃ u ln,(ae cfg (n + 60)).ex scL (ar j w []) (st 7) (csJ j none none none (bh j.b 0 (aw 0 j.r) ++ tl) 1 [] []) = some ((.next,ar j w [(112,ao j.r)]),csJ j none none none (u ++ tl) ln [] [])∧wsA u∧ln + nlc u = 1 + nlc (bh j.b 0 (aw 0 j.r)):=by
 obtain ⟨u,ln,e,h1,h2⟩:=vA n j tl (aw 0 j.r) 0 [] 1 [] [] hw.1 (fun _ h=>nomatch h)
 refine ⟨u,ln, ?_,h1,by rw [h2];simp [nlc]⟩
 have hl:((aw 0 j.r).map aD).length ≤ ah:=by
  have h20:ah = 1048576:=rfl
  rw [List.length_map];lia
 have es:∀ μ:Mem,bH cfg (ae cfg (n + 58)) scL (ar j w []) (cpT (aj (st 7))) (cpI (aj (st 7))) μ = some (.items ((aw 0 j.r).map aD),μ):=fun μ=>by
  rw [r7 _ (by kernel_rfl)]
  refine (af (show (ae cfg (n + 58)).ev scL (ar j w []) (cpI (aj (st 7))) μ = some (ao j.r,μ) from by kernel_rfl)).trans ?_
  refine cy ?_
  refine (?_:(if ((aw 0 j.r).map aD).length ≤ ah then some (Src.items ((aw 0 j.r).map aD)) else none) = _)
  rw [if_pos hl]
 have e2:(ae cfg (n + 59)).ev scL (ar j w []) (aj (st 7)) (csJ j none none none (bh j.b 0 (aw 0 j.r) ++ tl) 1 [] []) = some (ao j.r,csJ j none none none (u ++ tl) ln [] []):=by
  generalize bh j.b 0 (aw 0 j.r) ++ tl = z at e ⊢
  refine (show (ae cfg (n + 59)).ev scL (ar j w []) (aj (st 7)) (csJ j none none none z 1 [] []) = M.bnd (bH cfg (ae cfg (n + 58)) scL (ar j w []) (cpT (aj (st 7))) (cpI (aj (st 7)))) (fun src=>match src with
   | .items l=>M.bnd (dH (ae cfg (n + 58)) sc7 (cpE (aj (st 7))) (cpT (aj (st 7))) [] l [] []) fun vs=>M.ret (.lst vs)
   | .ref i k=>M.bnd (eW (ae cfg (n + 58)) sc7 (cpE (aj (st 7))) (cpT (aj (st 7))) [] i k 0 [] []) fun vs=>M.ret (.lst vs)) (csJ j none none none z 1 [] []) from by kernel_rfl).trans ?_
  exact (af (es _)).trans ((af e).trans rfl)
 rw [b6 _ rfl]
 refine (af e2).trans ?_
 generalize u ++ tl = z
 kernel_rfl
end
end Mine
end
section
namespace Mine
open PySem
theorem rt (j:Gh) (lo wa hu:Option PV) (cs:List Nat) (ln:Int) (p:List Str) (x:Str) (h:p.length ≤ 1000):fk scL .lex (.ref 9) .push_token [.str x] (csJ j lo wa hu cs ln p []) = some (.none,csJ j lo wa hu cs ln (p ++ [x]) []):=by
 have e:M.get 9 (csJ j lo wa hu cs ln p []) = some (.lex [] 1 p,csJ j lo wa hu cs ln p []):=rfl
 have e2:(if p.length ≤ 1000 then M.bnd (M.set 9 (.lex [] 1 (p ++ [x]))) (fun _=>M.ret PV.none) else M.no) (csJ j lo wa hu cs ln p []) = some (.none,csJ j lo wa hu cs ln (p ++ [x]) []):=by
  rw [if_pos h];rfl
 exact (af (f:=fun o=>match o with | .lex cs line push=>qm 9 cs line push x | _=>M.no) e).trans e2
noncomputable def b8:CS:=(st 8).fB.getD 0 (st 0)
noncomputable def ml:CS→CE | .expr e _=>e | _=>.name 0 ⟨0,0,0,0⟩
section
variable (n:Nat) (j:Gh)
theorem AU (lo wa hu:Option PV) (cs:List Nat) (ln:Int) (p:List Str) (w:List Nat) (R:Loc) (h:p.length ≤ 1000):(ae cfg (n + 59)).ex scL (ar j (aD w) R) b8 (csJ j lo wa hu cs ln p []) = some ((.next,ar j (aD w) R),csJ j lo wa hu cs ln (p ++ [S w]) []):=by
 have e0:(ae cfg (n + 58)).ev scL (ar j (aD w) R) (ml b8) (csJ j lo wa hu cs ln p []) = some (.none,csJ j lo wa hu cs ln (p ++ [S w]) []):=by
  rw [mI _ (by kernel_rfl)]
  exact (af (show (ae cfg (n + 57)).ev scL (ar j (aD w) R) (ng (ml b8)) (csJ j lo wa hu cs ln p []) = some (.ref 9,csJ j lo wa hu cs ln p []) from by kernel_rfl)).trans
   ((af (show d9 (.ref 9) (csJ j lo wa hu cs ln p []) = some (.lex,csJ j lo wa hu cs ln p []) from rfl)).trans
   ((af (show evL (ae cfg (n + 57)) scL (ar j (aD w) R) (mZ (ml b8)) (csJ j lo wa hu cs ln p []) = some ([.str (S w)],csJ j lo wa hu cs ln p []) from by kernel_rfl)).trans (rt j lo wa hu cs ln p (S w) h)))
 refine (show (ae cfg (n + 59)).ex scL (ar j (aD w) R) b8 (csJ j lo wa hu cs ln p []) = M.bnd ((ae cfg (n + 58)).ev scL (ar j (aD w) R) (ml b8)) (fun v=>if jQ v = true then M.ret (Fl.next,ar j (aD w) R) else M.no) (csJ j lo wa hu cs ln p []) from by kernel_rfl).trans ?_
 exact (af e0).trans rfl
theorem u9 (lo wa hu:Option PV) (cs:List Nat) (ln:Int) (R:Loc):∀ (l:List (List Nat)) (p:List Str) (w0:PV),p.length + l.length ≤ 1000 →
  ∃ w',cz (aV (ae cfg (n + 59)) scL (st 8).fT (st 8).fB) (l.map aD) (ar j w0 R) (csJ j lo wa hu cs ln p []) = some ((.next,ar j w' R),csJ j lo wa hu cs ln (p ++ l.map S) [])
 | [],p,w0,_=>⟨w0,by rw [List.map_nil,List.map_nil,List.append_nil];rfl⟩
 | w :: l,p,w0,h=>by
  have h':p.length + (l.length + 1) ≤ 1000:=h
  obtain ⟨w',e⟩:=u9 lo wa hu cs ln R l (p ++ [S w]) (aD w) (by rw [List.length_append];show p.length + 1 + l.length ≤ 1000;lia)
  refine ⟨w', ?_⟩
  have e1:aV (ae cfg (n + 59)) scL (st 8).fT (st 8).fB (aD w) (ar j w0 R) (csJ j lo wa hu cs ln p []) = some ((.next,ar j (aD w) R),csJ j lo wa hu cs ln (p ++ [S w]) []):=by
   refine (af (show cB scL (ar j w0 R) (st 8).fT (aD w) (csJ j lo wa hu cs ln p []) = some (ar j (aD w) R,csJ j lo wa hu cs ln p []) from rfl)).trans ?_
   refine (?_:ay (ae cfg (n + 59)) scL [b8] _ _ = _)
   exact (blk (AU n j lo wa hu cs ln p w R (by lia))).trans rfl
  rw [List.map_cons,List.map_cons,show p ++ S w :: l.map S = p ++ [S w] ++ l.map S by simp]
  exact (af e1).trans e
theorem A7 (w:PV) (cs:List Nat) (ln:Int) (hw:(aw 0 j.r).length < 5) :
  ∃ w',(ae cfg (n + 60)).ex scL (ar j w [(112,ao j.r)]) (st 8) (csJ j none none none cs ln [] []) = some ((.next,ar j w' [(112,ao j.r)]),csJ j none none none cs ln ((aw 0 j.r).map S) []):=by
 obtain ⟨w',e⟩:=u9 n j none none none cs ln [(112,ao j.r)] (aw 0 j.r) [] w (by simp only [List.length_nil];lia)
 refine ⟨w', ?_⟩
 have hl:((aw 0 j.r).map aD).length ≤ ah:=by
  have h20:ah = 1048576:=rfl
  rw [List.length_map];lia
 refine ig _ (by kernel_rfl) (μ':=csJ j none none none cs ln [] []) (l:=(aw 0 j.r).map aD) ?_ e
 rw [r7 _ (by kernel_rfl)]
 refine (af (show (ae cfg (n + 59)).ev scL (ar j w [(112,ao j.r)]) (st 8).fI (csJ j none none none cs ln [] []) = some (ao j.r,csJ j none none none cs ln [] []) from by kernel_rfl)).trans ?_
 refine cy ?_
 refine (?_:(if ((aw 0 j.r).map aD).length ≤ ah then some (Src.items ((aw 0 j.r).map aD)) else none) = _)
 rw [if_pos hl]
theorem ux {sz:Nat} (hz:dR sz):∀ r∈aP sz,eK .NotEq (ao r) (ao r) = some false:=by
 refine e4 hz ?_ ?_ ?_ ?_ <;> simp only [aP,List.forall_mem_cons] <;> repeat' apply And.intro
 all_goals first | kernel_rfl | exact nofun
noncomputable def cO:CS→CE | .iff t _ _ _=>t | _=>.name 0 ⟨0,0,0,0⟩
noncomputable def qc:CE→CE | .bool _ (a :: _) _=>a | e=>e
noncomputable def dh:CE→CE | .bool _ (_ :: b :: _) _=>b | e=>e
noncomputable def i4:CE→CE | .cmp a _ _ _=>a | e=>e
noncomputable def Ba:CE→CE | .cmp _ _ (b :: _) _=>b | e=>e
noncomputable def yi:CE→CE | .list _ (a :: _) _=>a | e=>e
noncomputable def yW:CE→CE | .list _ (_ :: b :: _) _=>b | e=>e
theorem vO (w:PV) (R:Loc) (cs:List Nat) (ln:Int) (p:List Str):(ae cfg (n + 56)).ev scL (ar j w R) (yi (i4 (dh (cO (st 9))))) (csJ j none none none cs ln p []) = some (.str ⟨(aA cs 0).1.reverse.toArray⟩,csJ j none none none (aA cs 0).2.1 (ln + ((aA cs 0).2.2:Nat)) p []):=by kernel_rfl
theorem wH (w:PV) (R:Loc) (cs:List Nat) (ln:Int) (p:List Str):(ae cfg (n + 56)).ev scL (ar j w R) (yW (i4 (dh (cO (st 9))))) (csJ j none none none cs ln p []) = some (.str ⟨(aA cs 0).1.reverse.toArray⟩,csJ j none none none (aA cs 0).2.1 (ln + ((aA cs 0).2.2:Nat)) p []):=by kernel_rfl
theorem Bx (w:PV) {sz:Nat} (hz:dR sz) (hr:j.r∈aP sz) (u:List Nat) (hu:wsA u) (y:Int) (hy:y = 0∨y = 1∨y = 2∨y = 3) (ln:Int) (p:List Str) :
  (ae cfg (n + 60)).ex scL (ar j w [(112,ao j.r)]) (st 9) (csJ j none none none (u ++ aG y) ln p []) = some ((.next,ar j w [(112,ao j.r)]),csJ j none none none [] (ln + (nlc u:Int) + 0) p []):=by
 have hx:aA (u ++ aG y) 0 = ([100,110,101],[],nlc u):=by rw [jY _ _ _ hu,uV _ _ hy,Nat.zero_add]
 have e1:(ae cfg (n + 58)).ts scL (ar j w [(112,ao j.r)]) (qc (cO (st 9))) (csJ j none none none (u ++ aG y) ln p []) = some (false,csJ j none none none (u ++ aG y) ln p []):=by
  generalize u ++ aG y = z
  refine (show (ae cfg (n + 58)).ts scL (ar j w [(112,ao j.r)]) (qc (cO (st 9))) (csJ j none none none z ln p []) = M.lift (eK .NotEq (ao j.r) (ao j.r)) (csJ j none none none z ln p []) from by kernel_rfl).trans ?_
  exact cy (ux hz _ hr)
 have a1:=vO n j w [(112,ao j.r)] (u ++ aG y) ln p
 rw [hx] at a1
 have e2:(ae cfg (n + 57)).ev scL (ar j w [(112,ao j.r)]) (i4 (dh (cO (st 9)))) (csJ j none none none (u ++ aG y) ln p []) = some (.lst [.str (S [101,110,100]),.str (S [])],csJ j none none none [] (ln + (nlc u:Int) + 0) p []):=by
  generalize u ++ aG y = z at a1 ⊢
  refine (show (ae cfg (n + 57)).ev scL (ar j w [(112,ao j.r)]) (i4 (dh (cO (st 9)))) (csJ j none none none z ln p []) = M.bnd (M.bnd ((ae cfg (n + 56)).ev scL (ar j w [(112,ao j.r)]) (yi (i4 (dh (cO (st 9)))))) fun v=>M.bnd (evL (ae cfg (n + 56)) scL (ar j w [(112,ao j.r)]) [yW (i4 (dh (cO (st 9))))]) fun vs=>M.ret (v :: vs)) (fun vs=>M.ret (PV.lst vs)) (csJ j none none none z ln p []) from by kernel_rfl).trans ?_
  exact (af ((af a1).trans ((af (kb (wH n j w [(112,ao j.r)] [] (ln + (nlc u:Int)) p))).trans rfl))).trans rfl
 have e3:(ae cfg (n + 58)).ts scL (ar j w [(112,ao j.r)]) (dh (cO (st 9))) (csJ j none none none (u ++ aG y) ln p []) = some (false,csJ j none none none [] (ln + (nlc u:Int) + 0) p []):=by
  generalize u ++ aG y = z at e2 ⊢
  refine (show (ae cfg (n + 58)).ts scL (ar j w [(112,ao j.r)]) (dh (cO (st 9))) (csJ j none none none z ln p []) = M.bnd ((ae cfg (n + 57)).ev scL (ar j w [(112,ao j.r)]) (i4 (dh (cO (st 9))))) (fun x=>gZ (ae cfg (n + 57)) scL (ar j w [(112,ao j.r)]) x [.NotEq] [Ba (dh (cO (st 9)))]) (csJ j none none none z ln p []) from by kernel_rfl).trans ?_
  refine (af e2).trans ?_
  kernel_rfl
 generalize u ++ aG y = z at e1 e3 ⊢
 refine (show (ae cfg (n + 60)).ex scL (ar j w [(112,ao j.r)]) (st 9) (csJ j none none none z ln p []) = M.bnd (M.bnd ((ae cfg (n + 58)).ts scL (ar j w [(112,ao j.r)]) (qc (cO (st 9)))) fun t=>match BoolOp.Or,t with
  | .And,false=>M.ret false
  | .Or,true=>M.ret true
  | _,_=>M.bnd ((ae cfg (n + 58)).ts scL (ar j w [(112,ao j.r)]) (dh (cO (st 9)))) fun t=>match BoolOp.Or,t with
   | .And,false=>M.ret false
   | .Or,true=>M.ret true
   | _,_=>M.ret false) (fun c=>match c with
  | true=>ay (ae cfg (n + 59)) scL [.ret (.cst (.bool false) 0 ⟨296,15,296,20⟩) ⟨296,8,296,20⟩] (ar j w [(112,ao j.r)])
  | false=>ay (ae cfg (n + 59)) scL [] (ar j w [(112,ao j.r)])) (csJ j none none none z ln p []) from by kernel_rfl).trans ?_
 exact (af ((af e1).trans ((af e3).trans rfl))).trans rfl
theorem AQ (w:PV) (cs:List Nat) (ln:Int) (p:List Str) (h:j.r.length < 100) :
  (ae cfg (n + 60)).ex scL (ar j w [(112,ao j.r)]) (st 10) (csJ j none none none cs ln p []) = some ((.next,ar j w [(112,ao j.r),(113,.int 0),(71,.int j.r.length)]),csJ j none none none cs ln p []):=by
 have h20:ah = 1048576:=rfl
 have hl:(j.r.map fun i=>PV.int (i:Nat)).length ≤ ah:=by rw [List.length_map];lia
 have e1:qB (av j.r) = some (.int j.r.length):=by
  refine (?_:(if (j.r.map fun i=>PV.int (i:Nat)).length ≤ ah then some (PV.int ((j.r.map fun i=>PV.int (i:Nat)).length:Nat)) else none) = _)
  rw [if_pos hl,List.length_map]
 have e2:(ae cfg (n + 58)).ev scL (ar j w [(112,ao j.r)]) (cN (aj (st 10))) (csJ j none none none cs ln p []) = some (.int j.r.length,csJ j none none none cs ln p []) :=
  (show (ae cfg (n + 58)).ev scL (ar j w [(112,ao j.r)]) (cN (aj (st 10))) (csJ j none none none cs ln p []) = M.lift (qB (av j.r)) (csJ j none none none cs ln p []) from by kernel_rfl).trans (cy e1)
 have e3:(ae cfg (n + 59)).ev scL (ar j w [(112,ao j.r)]) (aj (st 10)) (csJ j none none none cs ln p []) = some (.tup [.int j.r.length,.int 0],csJ j none none none cs ln p []):=(af ((af e2).trans rfl)).trans rfl
 rw [b6 _ rfl]
 exact (af e3).trans (by kernel_rfl)
end
end Mine
end
section
namespace Mine
open PySem
noncomputable def callC (r:R) (fd:FD) (args:List PV) (k:Nat):M PV:=fun μ=>match bV r fd args k μ with
 | some (v,μ')=>(match frz k μ' 8 v with
  | some v'=>some (v',μ'.take k)
  | none=>none)
 | none=>none
theorem i9 {r:R} {fd:FD} {args:List PV} {μ M0:Mem} {v:PV} (hp:fd.pure = false) (h:callC r fd args μ.length μ = some (v,M0)) (hc:M0.all (dO μ.length) = true):bO r fd args μ = some (v,M0):=by
 refine (show (match fd.pure with
  | true=>_
  | false=>(match bV r fd args μ.length μ with
   | some (v,μ')=>(match if (μ'.take μ.length).all (dO μ.length) then frz μ.length μ' 8 v else none with
    | some v'=>some (v',μ'.take μ.length)
    | none=>none)
   | none=>none)) = _ from ?_)
 rw [hp]
 delta callC at h
 dsimp only
 cases e:bV r fd args μ.length μ with
 | none=>rw [e] at h;exact no1 h
 | some x =>
  obtain ⟨w,μ'⟩:=x
  rw [e] at h
  dsimp only at h ⊢
  cases e2:frz μ.length μ' 8 w with
  | none=>rw [e2] at h;exact no1 h
  | some y =>
   rw [e2] at h
   dsimp only at h
   refine dF h fun q1 q2=>?_
   subst q1;subst q2
   rw [if_pos hc]
structure MkE where
 r:Rw
 l0:Int
 l1:Int
 l2:Int
 w0:Int
 w1:Int
 w2:Int
 deriving DecidableEq
noncomputable def bP (e:MkE):PV:=.dic [(0,.int e.l0),(1,.int e.l1),(2,.int e.l2)]
noncomputable def cA (e:MkE):PV:=.lst [.int e.w0,.int e.w1,.int e.w2]
noncomputable def ak (r:Rw):List Str:=(aw 0 r).map S
noncomputable def mkT:List MkE:=[⟨[],0,0,0,1,0,0⟩,⟨[1],1,0,0,0,1,2⟩,⟨[2],0,1,0,0,0,3⟩,⟨[1,1],0,0,2,0,5,0⟩,⟨[3],0,0,1,1,0,2⟩,⟨[2,1],0,1,0,2,4,0⟩,⟨[4],1,0,0,0,1,2⟩,⟨[3,1],0,0,3,3,4,0⟩,⟨[2,2],2,0,0,0,4,1⟩,⟨[2,1,1],0,5,0,10,0,1⟩,⟨[5],0,1,0,0,0,3⟩,⟨[4,1],1,0,2,2,5,0⟩,⟨[3,2],0,0,1,0,6,0⟩,⟨[3,1,1],0,4,1,11,0,0⟩,⟨[2,2,1],2,4,0,8,0,5⟩,⟨[6],0,0,1,1,0,2⟩,⟨[5,1],0,1,0,2,4,0⟩,⟨[4,2],3,0,0,0,7,0⟩,⟨[4,1,1],1,0,0,10,0,0⟩,⟨[3,3],0,2,0,1,4,0⟩,⟨[3,2,1],0,0,1,8,0,4⟩,⟨[2,2,1,1],10,0,0,0,0,21⟩,⟨[7],1,0,0,0,1,2⟩,⟨[6,1],0,0,3,3,4,0⟩,⟨[5,2],2,1,0,0,6,1⟩,⟨[5,1,1],0,5,0,10,0,1⟩,⟨[4,3],1,0,0,0,4,2⟩,⟨[4,2,1],3,0,0,8,1,4⟩,⟨[3,3,1],0,6,0,9,0,4⟩,⟨[3,2,2],0,0,5,9,2,0⟩,⟨[3,2,1,1],8,0,1,0,2,20⟩]
theorem tu (n:Nat) (j:Gh) (lo wa hu:Option PV) (ln:Int):∀ e∈mkT,callC (ae cfg (n + 40)) cU [.ref 9,.int e.r.length] 10 (csJ j lo wa hu [] ln (ak e.r) []) = some (.tup [bP e,cA e],csJ j lo wa hu [] ln (ak e.r) []):=map_eq (by kernel_rfl)
end Mine
end
section
namespace Mine
open PySem
structure TrE where
 r:Rw
 h:Nat
 row:Nat
 t:Rw
noncomputable def trF:List TrE:=[⟨[1],0,0,[]⟩,⟨[2],1,0,[1]⟩,⟨[1,1],2,1,[1]⟩,⟨[3],2,0,[2]⟩,⟨[2,1],1,0,[1,1]⟩,⟨[4],0,0,[3]⟩,⟨[3,1],2,1,[3]⟩,⟨[2,2],0,1,[2,1]⟩,⟨[2,1,1],1,2,[2,1]⟩,⟨[5],1,0,[4]⟩,⟨[4,1],0,0,[3,1]⟩,⟨[4,1],2,1,[4]⟩,⟨[3,2],2,0,[2,2]⟩,⟨[3,1,1],1,2,[3,1]⟩,⟨[3,1,1],2,0,[2,1,1]⟩,⟨[2,2,1],0,1,[2,1,1]⟩,⟨[2,2,1],1,2,[2,2]⟩,⟨[6],2,0,[5]⟩,⟨[5,1],1,0,[4,1]⟩,⟨[4,2],0,1,[4,1]⟩,⟨[4,1,1],0,0,[3,1,1]⟩,⟨[3,3],1,1,[3,2]⟩,⟨[3,2,1],2,0,[2,2,1]⟩,⟨[2,2,1,1],0,3,[2,2,1]⟩,⟨[7],0,0,[6]⟩,⟨[6,1],2,1,[6]⟩,⟨[5,2],0,1,[5,1]⟩,⟨[5,2],1,0,[4,2]⟩,⟨[5,1,1],1,2,[5,1]⟩,⟨[4,3],0,0,[3,3]⟩,⟨[4,2,1],0,1,[4,1,1]⟩,⟨[3,3,1],1,2,[3,3]⟩,⟨[3,2,2],2,2,[3,2,1]⟩,⟨[3,2,1,1],0,3,[3,2,1]⟩,⟨[3,2,1,1],2,0,[2,2,1,1]⟩]
noncomputable def trG:List TrE:=[⟨[],0,0,[1]⟩,⟨[1],2,1,[1,1]⟩,⟨[1],1,0,[2]⟩,⟨[1,1],1,0,[2,1]⟩,⟨[2],2,0,[3]⟩,⟨[2,1],0,1,[2,2]⟩,⟨[2,1],1,2,[2,1,1]⟩,⟨[3],0,0,[4]⟩,⟨[3],2,1,[3,1]⟩,⟨[2,2],2,0,[3,2]⟩,⟨[2,1,1],0,1,[2,2,1]⟩,⟨[2,2],1,2,[2,2,1]⟩,⟨[4],1,0,[5]⟩,⟨[2,1,1],2,0,[3,1,1]⟩,⟨[3,1],1,2,[3,1,1]⟩,⟨[3,1],0,0,[4,1]⟩,⟨[4],2,1,[4,1]⟩,⟨[3,2],1,1,[3,3]⟩,⟨[2,2,1],2,0,[3,2,1]⟩,⟨[2,2,1],0,3,[2,2,1,1]⟩,⟨[3,1,1],0,0,[4,1,1]⟩,⟨[5],2,0,[6]⟩,⟨[4,1],1,0,[5,1]⟩,⟨[4,1],0,1,[4,2]⟩,⟨[3,3],0,0,[4,3]⟩,⟨[3,3],1,2,[3,3,1]⟩,⟨[3,2,1],0,3,[3,2,1,1]⟩,⟨[2,2,1,1],2,0,[3,2,1,1]⟩,⟨[3,2,1],2,2,[3,2,2]⟩,⟨[6],0,0,[7]⟩,⟨[4,1,1],0,1,[4,2,1]⟩,⟨[6],2,1,[6,1]⟩,⟨[5,1],1,2,[5,1,1]⟩,⟨[5,1],0,1,[5,2]⟩,⟨[4,2],1,0,[5,2]⟩]
noncomputable def dz:List (Rw × Rw):=[([],[]),([1],[1]),([2],[1,1]),([1,1],[2]),([3],[2,1]),([2,1],[3]),([4],[2,2]),([3,1],[2,1,1]),([2,2],[4]),([2,1,1],[3,1]),([5],[3,2]),([4,1],[2,2,1]),([3,2],[5]),([3,1,1],[3,1,1]),([2,2,1],[4,1]),([6],[3,3]),([5,1],[3,2,1]),([4,2],[2,2,1,1]),([4,1,1],[4,1,1]),([3,3],[6]),([3,2,1],[5,1]),([2,2,1,1],[4,2]),([7],[4,3]),([6,1],[3,3,1]),([5,2],[3,2,1,1]),([5,1,1],[3,2,2]),([4,3],[7]),([4,2,1],[4,2,1]),([3,3,1],[6,1]),([3,2,2],[5,1,1]),([3,2,1,1],[5,2])]
noncomputable def signOf (h:Nat):List Nat:=[[32,34,92].getD h 0]
theorem wm (n:Nat) (j:Gh) (lo wa hu:Option PV) (ln:Int):∀ e∈trF,callC (ae cfg (n + 40)) bz [.ref 9,.int e.r.length,.int e.row,.str ⟨#[]⟩] 10 (csJ j lo wa hu [] ln (ak e.r) []) = some (.int e.t.length,csJ j lo wa hu [] ln (ak e.t) []):=map_eq (by kernel_rfl)
theorem uo (n:Nat) (j:Gh) (lo wa hu:Option PV) (ln:Int):∀ e∈trG,callC (ae cfg (n + 40)) bz [.ref 9,.int e.r.length,.int e.row,.str (S (signOf e.h))] 10 (csJ j lo wa hu [] ln (ak e.r) []) = some (.int e.t.length,csJ j lo wa hu [] ln (ak e.t) []):=map_eq (by kernel_rfl)
end Mine
end
section
namespace Mine
open PySem
noncomputable def mst (i:Nat):CS:=aR.body.getD i (.brk ⟨0,0,0,0⟩)
noncomputable def scM:Sc:=⟨aR.sc.names,[(43,0),(80,1),(81,2),(82,3),(88,4)],0⟩
noncomputable def cY (h s:Int):Mem:=[.cell (some (.int h)),.cell (some (.int s)),.cell none,.cell none,.cell none]
noncomputable def gz (h s sc:Int) (sh:List PV):Mem:=[.cell (some (.int h)),.cell (some (.int s)),.cell (some (.int sc)),.cell (some (.lst sh)),.cell none]
noncomputable def yJ:CS→List CS | .iff _ b _ _=>b | _=>[]
noncomputable def zr:CS→List CS | .iff _ _ o _=>o | _=>[]
noncomputable def scN (r:Nat):Int:=if r / 2 % 3 = 0 then 8 else if r / 2 % 3 = 1 then 9 else 16
noncomputable def shS (h s:Int):List PV:=[(0:Int),1,2].map fun i=>if i = h then PV.int 8 else PV.int (Int.fmod (s + 3 * i) 8)
noncomputable def shN (h:Int) (r:Nat):List PV:=[if (0:Int) = h then PV.int 8 else PV.int ((r % 8:Nat):Int),if (1:Int) = h then PV.int 8 else PV.int (((r + 3) % 8:Nat):Int),if (2:Int) = h then PV.int 8 else PV.int (((r + 6) % 8:Nat):Int)]
noncomputable def r24:List Nat:=[0,1,2,3,4,5,6,7,8,9,10,11,12,13,14,15,16,17,18,19,20,21,22,23]
noncomputable def brM (r:Nat):List CS:=if r % 2 = 1 then yJ (mst 1) else zr (mst 1)
theorem fm8 (t:Int) (r i:Nat):Int.fmod ((r:Int) + 24 * t + (i:Int)) 8 = (((r + i) % 8:Nat):Int):=by
 rw [Int.fmod_eq_emod_of_nonneg _ (by decide),show (r:Int) + 24 * t + (i:Int) = ((r + i:Nat):Int) + 8 * (3 * t) by rw [← Int.mul_assoc,Int.add_right_comm];rfl,Int.add_mul_emod_self_left]
 rfl
theorem AB (s:Int):∃ r:Nat,r < 24∧Int.fmod (Int.fdiv s 2) 3 = ((r / 2 % 3:Nat):Int)∧Int.fmod (s + 3 * 0) 8 = ((r % 8:Nat):Int)∧Int.fmod (s + 3 * 1) 8 = (((r + 3) % 8:Nat):Int)∧Int.fmod (s + 3 * 2) 8 = (((r + 6) % 8:Nat):Int)∧Int.fmod s 2 = ((r % 2:Nat):Int):=by
 obtain ⟨r,t,hr,rfl⟩:∃ (r:Nat) (t:Int),r < 24∧s = (r:Int) + 24 * t:=⟨(s % 24).toNat,s / 24,by lia,by lia⟩
 refine ⟨r,hr, ?_,fm8 t r 0,fm8 t r 3,fm8 t r 6, ?_⟩
 ·rw [Int.fmod_eq_emod_of_nonneg _ (by decide),Int.fdiv_eq_ediv_of_nonneg _ (by decide),show (r:Int) + 24 * t = (r:Int) + 2 * (12 * t) by rw [← Int.mul_assoc];rfl,Int.add_mul_ediv_left _ _ (by decide),show (12:Int) * t = 3 * (4 * t) by rw [← Int.mul_assoc];rfl,Int.add_mul_emod_self_left]
  rfl
 ·rw [Int.fmod_eq_emod_of_nonneg _ (by decide),show (r:Int) + 24 * t = (r:Int) + 2 * (12 * t) by rw [← Int.mul_assoc];rfl,Int.add_mul_emod_self_left]
  rfl
theorem Ah (h s:Int) (r:Nat) (h0:Int.fmod (s + 3 * 0) 8 = ((r % 8:Nat):Int)) (h1:Int.fmod (s + 3 * 1) 8 = (((r + 3) % 8:Nat):Int)) (h2:Int.fmod (s + 3 * 2) 8 = (((r + 6) % 8:Nat):Int)):shS h s = shN h r:=by
 delta shS shN
 simp only [List.map_cons,List.map_nil,h0,h1,h2]
section
variable (n:Nat) (s:Int)
theorem zD (h:Int) (hh:h = 0∨h = 1∨h = 2) (r:Nat) (hr:Int.fmod (Int.fdiv s 2) 3 = ((r / 2 % 3:Nat):Int)):(ae cfg (n + 41)).ex scM [] (mst 0) (cY h s) = some ((.next,[]),gz h s (scN r) (shS h s)):=by
 have e1:(ae cfg (n + 39)).ev scM [] (cN (aj (mst 0))) (cY h s) = some (.int (scN r),cY h s):=by
  rw [j2 _ rfl]
  refine (af (show (ae cfg (n + 38)).ev scM [] (gI (cN (aj (mst 0)))) (cY h s) = some (.lst [.int 8,.int 9,.int 16],cY h s) from by kernel_rfl)).trans ?_
  refine (af (show (ae cfg (n + 38)).ev scM [] (fC (cN (aj (mst 0)))) (cY h s) = some (.int (Int.fmod (Int.fdiv s 2) 3),cY h s) from by kernel_rfl)).trans ?_
  rw [hr]
  have h3:r / 2 % 3 = 0∨r / 2 % 3 = 1∨r / 2 % 3 = 2:=by lia
  delta scN
  rcases h3 with e | e | e <;> rw [e] <;> rfl
 have e2:(ae cfg (n + 39)).ev scM [] (gv (aj (mst 0))) (cY h s) = some (.lst (shS h s),cY h s):=by
  refine e3 hh ?_ ?_ ?_ <;> kernel_rfl
 have e4:(ae cfg (n + 40)).ev scM [] (aj (mst 0)) (cY h s) = some (.tup [.int (scN r),.lst (shS h s)],cY h s):=(af ((af e1).trans ((af ((af e2).trans rfl)).trans rfl))).trans rfl
 rw [b6 _ rfl]
 refine (af e4).trans ?_
 generalize scN r = a
 generalize shS h s = b
 kernel_rfl
noncomputable def qb (h:Int) (r:Nat):Option Fl:=(M.bnd (ay (ae cfg (n + 40)) scM (brM r) []) (fun x=>match x.1 with
 | .next=>ay (ae cfg (n + 41)) scM [mst 2,mst 3] x.2
 | f=>M.ret (f,x.2)) (gz h s (scN r) (shN h r))).map fun x=>x.1.1
theorem xe:∀ r∈r24,qb n s 0 r = some (.ret (.int 0)):=map_eq (by kernel_rfl)
theorem s8:∀ r∈r24,qb n s 1 r = some (.ret (.int 2)):=map_eq (by kernel_rfl)
theorem uk:∀ r∈r24,qb n s 2 r = some (.ret (.int 1)):=map_eq (by kernel_rfl)
theorem qY {α β:Type} {x y:M α} {f:α→M β} {μ:Mem} (e:x μ = y μ):M.bnd x f μ = M.bnd y f μ:=by delta M.bnd;(refine rwG e ?_);rfl
theorem zM (h sc:Int) (sh:List PV) (r:Nat) (hr:Int.fmod s 2 = ((r % 2:Nat):Int)):(ae cfg (n + 41)).ex scM [] (mst 1) (gz h s sc sh) = ay (ae cfg (n + 40)) scM (brM r) [] (gz h s sc sh):=by
 have et:(ae cfg (n + 40)).ts scM [] (cO (mst 1)) (gz h s sc sh) = some (Int.fmod s 2 != 0,gz h s sc sh):=by kernel_rfl
 refine (show (ae cfg (n + 41)).ex scM [] (mst 1) (gz h s sc sh) = M.bnd ((ae cfg (n + 40)).ts scM [] (cO (mst 1))) (fun c=>match c with
  | true=>ay (ae cfg (n + 40)) scM (yJ (mst 1)) []
  | false=>ay (ae cfg (n + 40)) scM (zr (mst 1)) []) (gz h s sc sh) from by kernel_rfl).trans ?_
 refine (af et).trans ?_
 rw [hr]
 have h2:r % 2 = 0∨r % 2 = 1:=by lia
 delta brM
 rcases h2 with e | e <;> rw [e] <;> rfl
theorem r9 (h:Nat) (hh:h = 0∨h = 1∨h = 2) (μ:Mem):bO (ae cfg (n + 41)) aR [.int h,.int s] μ = some (.int (((3 - h) % 3:Nat):Int),μ):=by
 obtain ⟨r,h24,r1,r2,r3,r4,r5⟩:=AB s
 have hm:r∈r24:=List.mem_range.mpr h24
 have e0:=zD n s h (by rcases hh with rfl | rfl | rfl <;> simp) r r1
 rw [Ah h s r r2 r3 r4] at e0
 have hx:qb n s h r = some (.ret (.int (((3 - h) % 3:Nat):Int))):=by
  rcases hh with rfl | rfl | rfl
  ·exact xe n s r hm
  ·exact s8 n s r hm
  ·exact uk n s r hm
 obtain ⟨⟨⟨fl,loc⟩,μ'⟩,e2,e3⟩:=Option.map_eq_some_iff.mp hx
 have e3:fl = .ret (.int (((3 - h) % 3:Nat):Int)):=e3
 subst e3
 have eb:bV (ae cfg (n + 41)) aR [.int h,.int s] 0 [] = some (.int (((3 - h) % 3:Nat):Int),μ'):=by
  refine (show bV (ae cfg (n + 41)) aR [.int h,.int s] 0 [] = M.bnd (ay (ae cfg (n + 41)) scM [mst 0,mst 1,mst 2,mst 3] []) (fun x=>M.ret (iM x.1)) (cY h s) from by kernel_rfl).trans ?_
  have e5:ay (ae cfg (n + 41)) scM [mst 1,mst 2,mst 3] [] (gz h s (scN r) (shN h r)) = some ((.ret (.int (((3 - h) % 3:Nat):Int)),loc),μ'):=(qY (zM n s h (scN r) (shN h r) r r5)).trans e2
  exact (af ((blk e0).trans e5)).trans rfl
 show (match bV (ae cfg (n + 41)) aR [.int h,.int s] 0 [] with
  | some (v,μ')=>(match frz 0 μ' 8 v with
   | some v'=>some (v',μ)
   | none=>none)
  | none=>none) = _
 rw [eb];rfl
end
end Mine
end
section
namespace Mine
open PySem
noncomputable def z7 (l:List (Rw × Int)):List (Rw × Int):=l.flatMap fun x=>(trF.filter fun e=>e.r == x.1).map fun e=>(e.t,-1000 * x.2 - e.h - 1)
noncomputable def yd:Nat→List (Rw × Int)→List (Rw × Int)
 | 0,_=>[]
 | n + 1,l=>l ++ yd n (z7 l)
noncomputable def kK:List (Rw × Int):=(yd 8 (([4,5,6,7]:List Nat).flatMap fun k=>(aP k).map fun r=>(r,0))).eraseDups
noncomputable def dvP:List Int:=((kK.map (·.2)).filter fun p=>p != 0).eraseDups
theorem zV (n:Nat) (μ:Mem):∀ p∈dvP,bO (ae cfg (n + 40)) dk [.int p,.int (-1000)] μ = some (.tup [.int (Int.fdiv p (-1000)),.int (Int.fmod p (-1000))],μ):=map_eq (by kernel_rfl)
theorem sy:∀ k∈[4,5,6,7],∀ r∈aP k,(r,(0:Int))∈kK:=by decide +kernel
theorem zy:∀ x∈kK,∀ e∈trF,e.r = x.1→(e.t,-1000 * x.2 - e.h - 1)∈kK:=by decide +kernel
theorem yq:∀ x∈kK,x.2 ≠ 0→x.2∈dvP:=by decide +kernel
end Mine
end
section
namespace Mine
open PySem
noncomputable def aF (r:Rw):MkE:=(mkT.find? fun m=>m.r == r).getD ⟨[],0,0,0,0,0,0⟩
noncomputable def eV (m:MkE):List Int:=(if m.l0 = 0 then [] else [0]) ++ ((if m.l1 = 0 then [] else [1]) ++ (if m.l2 = 0 then [] else [2]))
noncomputable def aU (l:List Int):PV:=.lst (l.map .int)
noncomputable def cX (x:Int):List Int:=(List.range 5).filterMap fun i:Nat=>if x.toNat / 2 ^ i % 2 = 1 then some (Int.ofNat i) else none
noncomputable def fQ (m:MkE) (h:Nat):Int:=if h = 0 then m.l0 else if h = 1 then m.l1 else m.l2
noncomputable def fBd (i:Nat):CS:=(st 11).fB.getD i (st 0)
noncomputable def i8 (j:Gh) (w:PV) (p cnt:Int) (sh:Option (Int × PV × PV)):Loc:=match sh with
 | none=>ar j w [(112,ao j.r),(113,.int p),(71,.int cnt)]
 | some y=>ar j w [(112,ao j.r),(113,.int p),(71,.int cnt),(114,.int y.1),(116,y.2.1),(117,y.2.2)]
noncomputable def jt (j:Gh) (w:PV) (p cnt t:Int) (sh:Option (PV × PV)):Loc:=match sh with
 | none=>ar j w [(112,ao j.r),(113,.int p),(71,.int cnt),(114,.int t)]
 | some y=>ar j w [(112,ao j.r),(113,.int p),(71,.int cnt),(114,.int t),(116,y.1),(117,y.2)]
noncomputable def dU (j:Gh) (w:PV) (p cnt t:Int) (hs:PV) (sh:Option PV):Loc:=match sh with
 | none=>ar j w [(112,ao j.r),(113,.int p),(71,.int cnt),(114,.int t),(116,hs)]
 | some y=>ar j w [(112,ao j.r),(113,.int p),(71,.int cnt),(114,.int t),(116,hs),(117,y)]
noncomputable def okC (o:Option PV):Prop:=dO 10 (.cell o) = true
theorem chk (j:Gh) {lo wa hu:Option PV} (h1:okC lo) (h2:okC wa) (h3:okC hu) (cs:List Nat) (ln:Int) (p:List Str):(csJ j lo wa hu cs ln p []).all (dO 10) = true:=by
 show (true && (true && (true && (true && (dO 10 (.cell lo) && (dO 10 (.cell wa) && (dO 10 (.cell hu) && true))))))) = true
 rw [h1,h2,h3];rfl
theorem gi (m:MkE):okC (some (bP m)):=rfl
theorem ir (m:MkE):okC (some (cA m)):=rfl
theorem hV (i:Int):okC (some (.int i)):=rfl
section
variable (n:Nat) (j:Gh) (w:PV) (p:Int) (ln:Int)
theorem nH (s:CS) (hs:vz s = true) (hc:isCall (aj s) = true) (hf:d8 (aj s) = 115) (loc:Loc) (m:MkE) (hm:m∈mkT) {lo wa hu:Option PV} (h1:okC lo) (h2:okC wa) (h3:okC hu)
  (e1:evL (ae cfg (n + 57)) scL loc (bY (aj s)) (csJ j lo wa hu [] ln (ak m.r) []) = some ([.ref 9,.int m.r.length],csJ j lo wa hu [] ln (ak m.r) []))
  (e3:∀ a b:PV,gy scL loc (qu s) (aj s) (.tup [a,b]) (csJ j lo wa hu [] ln (ak m.r) []) = some (loc,csJ j (some a) (some b) hu [] ln (ak m.r) [])) :
  (ae cfg (n + 59)).ex scL loc s (csJ j lo wa hu [] ln (ak m.r) []) = some ((.next,loc),csJ j (some (bP m)) (some (cA m)) hu [] ln (ak m.r) []):=by
 have e2:bO (ae cfg (n + 56)) cU [.ref 9,.int m.r.length] (csJ j lo wa hu [] ln (ak m.r) []) = some (.tup [bP m,cA m],csJ j lo wa hu [] ln (ak m.r) []) :=
  i9 rfl (tu (n + 16) j lo wa hu ln m hm) (chk j h1 h2 h3 _ _ _)
 have e4:(ae cfg (n + 58)).ev scL loc (aj s) (csJ j lo wa hu [] ln (ak m.r) []) = some (.tup [bP m,cA m],csJ j lo wa hu [] ln (ak m.r) []):=by
  rw [b9 _ hc,hf]
  exact (af (show a8 cfg scL loc 115 (csJ j lo wa hu [] ln (ak m.r) []) = some (.fn 163,csJ j lo wa hu [] ln (ak m.r) []) from rfl)).trans ((af e1).trans e2)
 rw [b6 _ hs]
 exact (af e4).trans ((af (e3 _ _)).trans rfl)
theorem wg (cnt t:Int) (hu:Option PV) (P:List Str) (sh:Option (PV × PV)):∀ m∈mkT.tail,ay (ae cfg (n + 59)) scL [fBd 1,fBd 2] (jt j w p cnt t sh) (csJ j (some (bP m)) (some (cA m)) hu [] ln P []) = some ((.next,dU j w p cnt t (aU (eV m)) (sh.map (·.2))),csJ j (some (bP m)) (some (cA m)) hu [] ln P []):=by
 rcases sh with _ | ⟨a,b⟩
 ·exact map_eq (by kernel_rfl)
 ·exact map_eq (by kernel_rfl)
end
end Mine
end
section
namespace Mine
open PySem
theorem vT:∀ k < 8,∀ r∈aP k,aF r∈mkT∧(aF r).r = r∧(k ≠ 0→aF r∈mkT.tail):=by decide +kernel
theorem tS:∀ m∈mkT.tail,0 < (eV m).length∧(eV m).length < 4:=by decide +kernel
theorem yT:∀ k < 8,∀ r∈aP (k + 1),∀ x∈eV (aF r),∃ e∈trF,e.r = r∧(e.h:Int) = x∧e.t∈aP k:=by decide +kernel
noncomputable def eU (j:Gh) (w:PV) (p cnt t:Int) (hs sd:PV):Loc:=ar j w [(112,ao j.r),(113,.int p),(71,.int cnt),(114,.int t),(116,hs),(117,sd)]
section
variable (n:Nat) (j:Gh) (w:PV) (p:Int) (ln:Int)
theorem w3 (cnt:Int) (t:Nat) (ht:t < 7) (hs:PV) (sh:Option PV) (μ:Mem) (a b d:Option PV) (P:List Str):(ae cfg (n + 56)).ev scL (dU j w p cnt t hs sh) (ij (fC (aj (fBd 3)))) (csJ j a b d [] ln P []) = some (.int (Int.fmod (Int.fdiv (Int.fdiv j.c 4) (3 ^ t)) 3),csJ j a b d [] ln P []):=by
 rcases rQ ht with h | h | h | h | h | h | h <;> subst h <;> rcases sh with _ | y <;> kernel_rfl
theorem vD (cnt t:Int) (l:List Int) (h0:0 < l.length) (h4:l.length < 4) (sh:Option PV) (a b d:Option PV) (P:List Str):(ae cfg (n + 56)).ev scL (dU j w p cnt t (aU l) sh) (ix (fC (aj (fBd 3)))) (csJ j a b d [] ln P []) = some (.int l.length,csJ j a b d [] ln P []):=by
 rcases l with _ | ⟨x1,_ | ⟨x2,_ | ⟨x3,_ | ⟨x4,l⟩⟩⟩⟩
 ·cases h0
 ·rcases sh with _ | y <;> kernel_rfl
 ·rcases sh with _ | y <;> kernel_rfl
 ·rcases sh with _ | y <;> kernel_rfl
 ·exact absurd h4 (by simp only [List.length_cons];lia)
theorem zI (l:List Int) (h0:0 < l.length) (h4:l.length < 4) (y:Int) (μ:Mem):∃ x∈l,getM (aU l) (.int (Int.fmod y l.length)) μ = some (.int x,μ):=by
 rcases l with _ | ⟨x1,_ | ⟨x2,_ | ⟨x3,_ | ⟨x4,l⟩⟩⟩⟩
 ·cases h0
 ·refine ⟨x1,.head _, ?_⟩
  rw [show ((([x1]:List Int).length:Nat):Int) = 1 from rfl,vh];rfl
 ·rcases two y with h | h
  ·exact ⟨x1,.head _,by rw [show ((([x1,x2]:List Int).length:Nat):Int) = 2 from rfl,h];rfl⟩
  ·exact ⟨x2,.tail _ (.head _),by rw [show ((([x1,x2]:List Int).length:Nat):Int) = 2 from rfl,h];rfl⟩
 ·rcases three y with h | h | h
  ·exact ⟨x1,.head _,by rw [show ((([x1,x2,x3]:List Int).length:Nat):Int) = 3 from rfl,h];rfl⟩
  ·exact ⟨x2,.tail _ (.head _),by rw [show ((([x1,x2,x3]:List Int).length:Nat):Int) = 3 from rfl,h];rfl⟩
  ·exact ⟨x3,.tail _ (.tail _ (.head _)),by rw [show ((([x1,x2,x3]:List Int).length:Nat):Int) = 3 from rfl,h];rfl⟩
 ·exact absurd h4 (by simp only [List.length_cons];lia)
theorem AA (cnt:Int) (t:Nat) (ht:t < 7) (l:List Int) (h0:0 < l.length) (h4:l.length < 4) (sh:Option PV) (a b d:Option PV) (P:List Str) :
  ∃ x∈l,(ae cfg (n + 59)).ex scL (dU j w p cnt t (aU l) sh) (fBd 3) (csJ j a b d [] ln P []) = some ((.next,dU j w p cnt t (aU l) sh),csJ j a b (some (.int x)) [] ln P []):=by
 obtain ⟨x,hx,e⟩:=zI l h0 h4 (Int.fmod (Int.fdiv (Int.fdiv j.c 4) (3 ^ t)) 3) (csJ j a b d [] ln P [])
 refine ⟨x,hx, ?_⟩
 have hk:iO .Mod (.int (Int.fmod (Int.fdiv (Int.fdiv j.c 4) (3 ^ t)) 3)) (.int l.length) = some (.int (Int.fmod (Int.fmod (Int.fdiv (Int.fdiv j.c 4) (3 ^ t)) 3) l.length)):=by
  refine (?_:(if ((l.length:Nat):Int) ≠ 0 then some (PV.int (Int.fmod (Int.fmod (Int.fdiv (Int.fdiv j.c 4) (3 ^ t)) 3) l.length)) else none) = _)
  rw [if_pos (by lia)]
 have e1:(ae cfg (n + 57)).ev scL (dU j w p cnt t (aU l) sh) (fC (aj (fBd 3))) (csJ j a b d [] ln P []) = some (.int (Int.fmod (Int.fmod (Int.fdiv (Int.fdiv j.c 4) (3 ^ t)) 3) l.length),csJ j a b d [] ln P []):=by
  rw [hW _ rfl]
  exact (af (w3 n j w p ln cnt t ht (aU l) sh [] a b d P)).trans ((af (vD n j w p ln cnt t l h0 h4 sh a b d P)).trans (cy hk))
 have e2:(ae cfg (n + 58)).ev scL (dU j w p cnt t (aU l) sh) (aj (fBd 3)) (csJ j a b d [] ln P []) = some (.int x,csJ j a b d [] ln P []):=by
  rw [j2 _ rfl]
  exact (af (show (ae cfg (n + 57)).ev scL (dU j w p cnt t (aU l) sh) (gI (aj (fBd 3))) (csJ j a b d [] ln P []) = some (aU l,csJ j a b d [] ln P []) from by rcases sh with _ | y <;> kernel_rfl)).trans ((af e1).trans e)
 rw [b6 _ rfl]
 refine (af e2).trans ?_
 generalize aU l = v
 kernel_rfl
theorem yF (t:Int) (hs:PV) (P:List Str) (sh:Option PV):∀ e∈trF,ay (ae cfg (n + 59)) scL [fBd 4,fBd 5] (dU j w p e.r.length t hs sh) (csJ j (some (bP (aF e.r))) (some (cA (aF e.r))) (some (.int e.h)) [] ln P []) = some ((.next,eU j w p e.r.length t hs (aU (cX (fQ (aF e.r) e.h)))),csJ j (some (bP (aF e.r))) (some (cA (aF e.r))) (some (.int e.h)) [] ln P []):=by
 rcases sh with _ | y
 ·exact map_eq (by kernel_rfl)
 ·exact map_eq (by kernel_rfl)
theorem xP (t:Int) (hs:PV) (a b d:Option PV) (P:List Str):∀ e∈trF,evL (ae cfg (n + 56)) scL (eU j w p e.r.length t hs (aU (cX (fQ (aF e.r) e.h)))) (bY (cN (aj (fBd 6)))) (csJ j a b d [] ln P []) = some ([.ref 9,.int e.r.length,.int e.row,.str ⟨#[]⟩],csJ j a b d [] ln P []):=map_eq (by kernel_rfl)
theorem AO (t:Int) (hs:PV) {a b:Option PV} (h1:okC a) (h2:okC b):∀ e∈trF,(ae cfg (n + 59)).ex scL (eU j w p e.r.length t hs (aU (cX (fQ (aF e.r) e.h)))) (fBd 6) (csJ j a b (some (.int e.h)) [] ln (ak e.r) []) = some ((.next,eU j w (-1000 * p - e.h - 1) e.t.length t hs (aU (cX (fQ (aF e.r) e.h)))),csJ j a b (some (.int e.h)) [] ln (ak e.t) []):=by
 intro e he
 have e1:=xP n j w p ln t hs a b (some (.int e.h)) (ak e.r) e he
 have e2:bO (ae cfg (n + 55)) bz [.ref 9,.int e.r.length,.int e.row,.str ⟨#[]⟩] (csJ j a b (some (.int e.h)) [] ln (ak e.r) []) = some (.int e.t.length,csJ j a b (some (.int e.h)) [] ln (ak e.t) []) :=
  i9 rfl (wm (n + 15) j a b (some (.int e.h)) ln e he) (chk j h1 h2 (hV _) _ _ _)
 generalize aU (cX (fQ (aF e.r) e.h)) = sd at e1 ⊢
 generalize ak e.r = P1 at e1 e2 ⊢
 generalize ak e.t = P2 at e2 ⊢
 have e3:(ae cfg (n + 57)).ev scL (eU j w p e.r.length t hs sd) (cN (aj (fBd 6))) (csJ j a b (some (.int e.h)) [] ln P1 []) = some (.int e.t.length,csJ j a b (some (.int e.h)) [] ln P2 []):=by
  rw [b9 _ rfl]
  exact (af (show a8 cfg scL (eU j w p e.r.length t hs sd) (d8 (cN (aj (fBd 6)))) (csJ j a b (some (.int e.h)) [] ln P1 []) = some (.fn 168,csJ j a b (some (.int e.h)) [] ln P1 []) from rfl)).trans ((af e1).trans e2)
 generalize ((e.h:Nat):Int) = h at e3 ⊢
 generalize ((e.r.length:Nat):Int) = c at e3 ⊢
 generalize ((e.t.length:Nat):Int) = c' at e3 ⊢
 have e4:(ae cfg (n + 57)).ev scL (eU j w p c t hs sd) (gv (aj (fBd 6))) (csJ j a b (some (.int h)) [] ln P2 []) = some (.int (-1000 * p - h - 1),csJ j a b (some (.int h)) [] ln P2 []):=by kernel_rfl
 have e5:(ae cfg (n + 58)).ev scL (eU j w p c t hs sd) (aj (fBd 6)) (csJ j a b (some (.int h)) [] ln P1 []) = some (.tup [.int c',.int (-1000 * p - h - 1)],csJ j a b (some (.int h)) [] ln P2 []):=(af (o5 e3 (kb e4))).trans rfl
 rw [b6 _ rfl]
 refine (af e5).trans ?_
 kernel_rfl
end
end Mine
end
section
namespace Mine
open PySem
noncomputable def chainOk:Rw→List TrE→Prop
 | r,[]=>r = []
 | r,e :: es=>e∈trF∧e.r = r∧chainOk e.t es
noncomputable def gP:Int→List TrE→Int
 | p,[]=>p
 | p,e :: es=>gP (-1000 * p - e.h - 1) es
theorem ui:(st 11).fB = [fBd 0] ++ ([fBd 1,fBd 2] ++ ([fBd 3] ++ ([fBd 4,fBd 5] ++ [fBd 6]))):=by kernel_rfl
section
variable (n:Nat) (j:Gh) (w:PV) (ln:Int)
theorem AJ (p:Int) (t k:Nat) (ht:t < 7) (hk:k < 7) (r:Rw) (hr:r∈aP (k + 1)) (sh:Option (Int × PV × PV)) {lo wa hu:Option PV} (h1:okC lo) (h2:okC wa) (h3:okC hu) :
  ∃ e∈trF,e.r = r∧e.t∈aP k∧∃ y lo' wa' hu',okC lo'∧okC wa'∧okC hu'∧aV (ae cfg (n + 59)) scL (st 11).fT (st 11).fB (.int t) (i8 j w p r.length sh) (csJ j lo wa hu [] ln (ak r) []) =
   some ((.next,i8 j w (-1000 * p - e.h - 1) e.t.length (some y)),csJ j lo' wa' hu' [] ln (ak e.t) []):=by
 obtain ⟨m1,m2,m3⟩:=vT (k + 1) (by lia) r hr
 have m4:=m3 (Nat.succ_ne_zero k)
 obtain ⟨l0,l4⟩:=tS _ m4
 have e0:cB scL (i8 j w p r.length sh) (st 11).fT (.int t) (csJ j lo wa hu [] ln (ak r) []) = some (jt j w p r.length t (sh.map (·.2)),csJ j lo wa hu [] ln (ak r) []):=by
  rcases sh with _ | ⟨a,b,c⟩ <;> rfl
 have q0:(ae cfg (n + 59)).ex scL (jt j w p r.length t (sh.map (·.2))) (fBd 0) (csJ j lo wa hu [] ln (ak r) []) = some ((.next,jt j w p r.length t (sh.map (·.2))),csJ j (some (bP (aF r))) (some (cA (aF r))) hu [] ln (ak r) []):=by
  have:=nH n j ln (fBd 0) (by kernel_rfl) (by kernel_rfl) (by kernel_rfl) (jt j w p r.length t (sh.map (·.2))) (aF r) m1 h1 h2 h3 (by
   rw [m2]
   generalize ak r = P
   generalize ((r.length:Nat):Int) = c
   rcases sh with _ | ⟨a,b,d⟩ <;> kernel_rfl) (fun a b=>by
   generalize ak (aF r).r = P
   generalize ((r.length:Nat):Int) = c
   rcases sh with _ | ⟨a',b',d⟩ <;> kernel_rfl)
  rw [m2] at this
  exact this
 have q1:=wg n j w p ln r.length t hu (ak r) (sh.map (·.2)) _ m4
 obtain ⟨x,hx,q3⟩:=AA n j w p ln r.length t ht (eV (aF r)) l0 l4 ((sh.map (·.2)).map (·.2)) (some (bP (aF r))) (some (cA (aF r))) hu (ak r)
 obtain ⟨e,he,rfl,rfl,het⟩:=yT k (by lia) r hr x hx
 have q4:=yF n j w p ln t (aU (eV (aF e.r))) (ak e.r) ((sh.map (·.2)).map (·.2)) e he
 have q6:=AO n j w p ln t (aU (eV (aF e.r))) (gi (aF e.r)) (ir (aF e.r)) e he
 refine ⟨e,he,rfl,het,⟨t,aU (eV (aF e.r)),aU (cX (fQ (aF e.r) e.h))⟩,_,_,_,gi (aF e.r),ir (aF e.r),hV e.h,(af e0).trans ?_⟩
 rw [ui]
 exact (aX ((blk q0).trans rfl)).trans ((aX q1).trans ((aX ((blk q3).trans rfl)).trans ((aX q4).trans ((blk q6).trans rfl))))
noncomputable def yY (m t:Nat) (p:Int) (r:Rw) (sh:Option (Int × PV × PV)) (lo wa hu:Option PV):Prop :=
  ∃ es:List TrE,es.length = m∧chainOk r es∧∃ sh' lo' wa' hu',okC lo'∧okC wa'∧okC hu'∧(m = 0→sh' = sh)∧(m ≠ 0→∃ y,sh' = some y)∧cz (aV (ae cfg (n + 59)) scL (st 11).fT (st 11).fB) (bb t m) (i8 j w p r.length sh) (csJ j lo wa hu [] ln (ak r) []) =
   some ((.next,i8 j w (gP p es) 0 sh'),csJ j lo' wa' hu' [] ln [] [])
theorem Ae (m:Nat):∀ t:Nat,t + m ≤ 7→∀ (p:Int) (r:Rw),r∈aP m→∀ (sh:Option (Int × PV × PV)) (lo wa hu:Option PV),okC lo→okC wa→okC hu→yY n j w ln m t p r sh lo wa hu:=by
 induction m with
 | zero =>
  intro t _ p r hr sh lo wa hu h1 h2 h3
  rcases List.mem_cons.mp hr with rfl | hr
  ·exact ⟨[],rfl,rfl,sh,lo,wa,hu,h1,h2,h3,fun _=>rfl,fun h=>absurd rfl h,rfl⟩
  ·cases hr
 | succ m ih =>
  intro t hm p r hr sh lo wa hu h1 h2 h3
  obtain ⟨e,he,rfl,het,y,lo1,wa1,hu1,g1,g2,g3,q⟩:=AJ n j w ln p t m (by lia) (by lia) r hr sh h1 h2 h3
  obtain ⟨es,hl,hc,sh',lo',wa',hu',k1,k2,k3,k0,k4,q2⟩:=ih (t + 1) (by lia) (-1000 * p - e.h - 1) e.t het (some y) lo1 wa1 hu1 g1 g2 g3
  refine ⟨e :: es,by rw [List.length_cons,hl],⟨he,rfl,hc⟩,sh',lo',wa',hu',k1,k2,k3,fun h=>absurd h (Nat.succ_ne_zero m),fun _=>?_,(af q).trans q2⟩
  by_cases h:m = 0
  ·exact ⟨y,k0 h⟩
  ·exact k4 h
theorem pO (loc:Loc) (t:CT) (e:CE) (μ:Mem) {sz:Nat} (hz:dR sz) (h:bH cfg (ae cfg (n + 59)) scL loc t e μ = M.bnd (evL (ae cfg (n + 59)) scL loc (bY e)) (fun vs=>M.lift ((kX .range vs).map .items)) μ)
  (h2:evL (ae cfg (n + 59)) scL loc (bY e) μ = some ([.int sz],μ)):bH cfg (ae cfg (n + 59)) scL loc t e μ = some (.items (bb 0 sz),μ):=by
 rw [h]
 refine (af h2).trans (cy ?_)
 refine e4 hz ?_ ?_ ?_ ?_ <;> kernel_rfl
theorem zH {sz:Nat} (hz:dR sz) (hj:j.sz = sz) (hr:j.r∈aP sz) :
  ∃ es:List TrE,es.length = sz∧chainOk j.r es∧∃ y lo' wa' hu',okC lo'∧okC wa'∧okC hu'∧(ae cfg (n + 60)).ex scL (i8 j w 0 j.r.length none) (st 11) (csJ j none none none [] ln (ak j.r) []) =
   some ((.next,i8 j w (gP 0 es) 0 (some y)),csJ j lo' wa' hu' [] ln [] []):=by
 obtain ⟨es,hl,hc,sh',lo',wa',hu',k1,k2,k3,_,k4,q⟩:=Ae n j w ln sz 0 (by rcases hz with h | h | h | h <;> lia) 0 j.r hr none none none none rfl rfl rfl
 obtain ⟨y,rfl⟩:=k4 (by rcases hz with h | h | h | h <;> lia)
 refine ⟨es,hl,hc,y,lo',wa',hu',k1,k2,k3, ?_⟩
 refine ig _ (by kernel_rfl) (μ':=csJ j none none none [] ln (ak j.r) []) (l:=bb 0 sz) ?_ q
 refine pO n _ _ _ _ hz ?_ ?_
 ·generalize ak j.r = P
  generalize ((j.r.length:Nat):Int) = c
  kernel_rfl
 ·rw [← hj]
  generalize ak j.r = P
  generalize ((j.r.length:Nat):Int) = c
  kernel_rfl
end
end Mine
end
section
namespace Mine
open PySem
noncomputable def hF (r0:Rw):Rw→Int→List TrE→Prop
 | r,p,[]=>p = 0∧r = r0
 | r,p,e :: rs=>e∈trF∧e.t = r∧p∈dvP∧∃ q,p = -1000 * q - e.h - 1∧hF r0 e.r q rs
theorem vp:∀ e∈trF,e.h = 0∨e.h = 1∨e.h = 2:=by decide +kernel
theorem pA (r0:Rw):∀ (es:List TrE) (r:Rw) (p:Int) (rs:List TrE),chainOk r es→(r,p)∈kK→hF r0 r p rs→hF r0 [] (gP p es) (es.reverse ++ rs)
 | [],r,p,rs,h,_,hb=>by
  have h:r = []:=h
  subst h;exact hb
 | e :: es,r,p,rs,h,hw,hb=>by
  obtain ⟨he,rfl,hc⟩:=h
  have h1:=zy _ hw e he rfl
  have h3:=vp e he
  have h2:-1000 * p - e.h - 1 ≠ 0:=by lia
  have:=pA r0 es e.t (-1000 * p - e.h - 1) (e :: rs) hc h1 ⟨he,rfl,yq _ h1 h2,p,rfl,hb⟩
  rw [List.reverse_cons,List.append_assoc]
  exact this
theorem Au:∀ p∈dvP,p = -1000 * Int.fdiv p (-1000) + Int.fmod p (-1000)∧-1000 < Int.fmod p (-1000)∧Int.fmod p (-1000) ≤ 0:=by decide +kernel
theorem zz {p q:Int} {h:Nat} (hp:p∈dvP) (h3:h = 0∨h = 1∨h = 2) (e:p = -1000 * q - h - 1):Int.fdiv p (-1000) = q∧Int.fmod p (-1000) = -(h:Int) - 1:=by
 obtain ⟨a,b,c⟩:=Au p hp
 generalize Int.fdiv p (-1000) = x at a ⊢
 generalize Int.fmod p (-1000) = y at a b c ⊢
 clear hp
 subst a
 rcases h3 with rfl | rfl | rfl <;> constructor <;> omega
theorem za:∀ x∈trG,aF x.r∈mkT∧(aF x.r).r = x.r:=by decide +kernel
noncomputable def fG (m:MkE) (h:Nat):Int:=if h = 0 then m.w0 else if h = 1 then m.w1 else m.w2
noncomputable def gB (i:Nat):CS:=(st 12).fB.getD i (st 0)
theorem we:(st 12).fB = [gB 0] ++ ([gB 1] ++ ([gB 2] ++ ([gB 3,gB 4,gB 5] ++ [gB 6]))):=by kernel_rfl
noncomputable def aZ (j:Gh) (w:PV) (p cnt t:Int) (hs sd:PV) (f:Option Int):Loc:=match f with
 | none=>ar j w [(112,ao j.r),(113,.int p),(71,.int cnt),(114,.int t),(116,hs),(117,sd)]
 | some f=>ar j w [(112,ao j.r),(113,.int p),(71,.int cnt),(114,.int t),(116,hs),(117,sd),(120,.int f)]
noncomputable def A5:CE→CE | .ife t _ _ _=>t | e=>e
noncomputable def uP:CE→CE | .ife _ b _ _=>b | e=>e
section
variable (n:Nat) (j:Gh) (w:PV) (ln:Int)
theorem Ar (p cnt t:Int) (hs sd:PV) (f:Option Int) (a b d:Option PV) (P:List Str) (hp:p∈dvP):(ae cfg (n + 59)).ex scL (aZ j w p cnt t hs sd f) (gB 0) (csJ j a b d [] ln P []) = some ((.next,aZ j w (Int.fdiv p (-1000)) cnt t hs sd (some (Int.fmod p (-1000)))),csJ j a b d [] ln P []):=by
 have e1:=zV (n + 16) (csJ j a b d [] ln P []) p hp
 have e2:evL (ae cfg (n + 57)) scL (aZ j w p cnt t hs sd f) (bY (aj (gB 0))) (csJ j a b d [] ln P []) = some ([.int p,.int (-1000)],csJ j a b d [] ln P []):=by
  rcases f with _ | f <;> kernel_rfl
 have e3:(ae cfg (n + 58)).ev scL (aZ j w p cnt t hs sd f) (aj (gB 0)) (csJ j a b d [] ln P []) = some (.tup [.int (Int.fdiv p (-1000)),.int (Int.fmod p (-1000))],csJ j a b d [] ln P []):=by
  rw [b9 _ rfl]
  exact (af (show a8 cfg scL (aZ j w p cnt t hs sd f) (d8 (aj (gB 0))) (csJ j a b d [] ln P []) = some (.fn 56,csJ j a b d [] ln P []) from rfl)).trans ((af e2).trans e1)
 rw [b6 _ rfl]
 refine (af e3).trans ?_
 generalize Int.fdiv p (-1000) = x
 generalize Int.fmod p (-1000) = y
 rcases f with _ | f <;> kernel_rfl
theorem Ax (p cnt t:Int) (hs sd:PV) (h:Nat) (h3:h = 0∨h = 1∨h = 2) (a b d:Option PV) (P:List Str):(ae cfg (n + 59)).ex scL (aZ j w p cnt t hs sd (some (-(h:Int) - 1))) (gB 1) (csJ j a b d [] ln P []) = some ((.next,aZ j w p cnt t hs sd (some (-(h:Int) - 1))),csJ j a b (some (.int (((3 - h) % 3:Nat):Int))) [] ln P []):=by
 have e1:=r9 (n + 14) (j.c + t) h h3 (csJ j a b d [] ln P [])
 have e2:evL (ae cfg (n + 56)) scL (aZ j w p cnt t hs sd (some (-(h:Int) - 1))) (bY (uP (aj (gB 1)))) (csJ j a b d [] ln P []) = some ([.int h,.int (j.c + t)],csJ j a b d [] ln P []):=by
  refine e3 h3 ?_ ?_ ?_ <;> kernel_rfl
 have e3':(ae cfg (n + 57)).ev scL (aZ j w p cnt t hs sd (some (-(h:Int) - 1))) (uP (aj (gB 1))) (csJ j a b d [] ln P []) = some (.int (((3 - h) % 3:Nat):Int),csJ j a b d [] ln P []):=by
  rw [b9 _ rfl]
  exact (af (show a8 cfg scL (aZ j w p cnt t hs sd (some (-(h:Int) - 1))) (d8 (uP (aj (gB 1)))) (csJ j a b d [] ln P []) = some (.fn 173,csJ j a b d [] ln P []) from rfl)).trans ((af e2).trans e1)
 have e4:(ae cfg (n + 57)).ts scL (aZ j w p cnt t hs sd (some (-(h:Int) - 1))) (A5 (aj (gB 1))) (csJ j a b d [] ln P []) = some (true,csJ j a b d [] ln P []):=by
  refine e3 h3 ?_ ?_ ?_ <;> kernel_rfl
 have e5:(ae cfg (n + 58)).ev scL (aZ j w p cnt t hs sd (some (-(h:Int) - 1))) (aj (gB 1)) (csJ j a b d [] ln P []) = some (.int (((3 - h) % 3:Nat):Int),csJ j a b d [] ln P []):=(af e4).trans e3'
 rw [b6 _ rfl]
 refine (af e5).trans ?_
 generalize (((3 - h) % 3:Nat):Int) = x
 kernel_rfl
theorem vB (p t f:Int) (hs sd:PV) (P:List Str):∀ x∈trG,ay (ae cfg (n + 59)) scL [gB 3,gB 4,gB 5] (aZ j w p x.r.length t hs sd (some f)) (csJ j (some (bP (aF x.r))) (some (cA (aF x.r))) (some (.int x.h)) [] ln P []) = some ((.next,aZ j w p x.r.length t hs (aU (cX (fG (aF x.r) x.h))) (some f)),csJ j (some (bP (aF x.r))) (some (cA (aF x.r))) (some (.int x.h)) [] ln P []):=map_eq (by kernel_rfl)
theorem xu (p t f:Int) (hs:PV) (a b:Option PV) (P:List Str):∀ x∈trG,evL (ae cfg (n + 57)) scL (aZ j w p x.r.length t hs (aU (cX (fG (aF x.r) x.h))) (some f)) (bY (aj (gB 6))) (csJ j a b (some (.int x.h)) [] ln P []) = some ([.ref 9,.int x.r.length,.int x.row,.str (S (signOf x.h))],csJ j a b (some (.int x.h)) [] ln P []):=map_eq (by kernel_rfl)
theorem zW (p t f:Int) (hs:PV) {a b:Option PV} (h1:okC a) (h2:okC b):∀ x∈trG,(ae cfg (n + 59)).ex scL (aZ j w p x.r.length t hs (aU (cX (fG (aF x.r) x.h))) (some f)) (gB 6) (csJ j a b (some (.int x.h)) [] ln (ak x.r) []) = some ((.next,aZ j w p x.t.length t hs (aU (cX (fG (aF x.r) x.h))) (some f)),csJ j a b (some (.int x.h)) [] ln (ak x.t) []):=by
 intro x hx
 have e1:=xu n j w ln p t f hs a b (ak x.r) x hx
 have e2:bO (ae cfg (n + 56)) bz [.ref 9,.int x.r.length,.int x.row,.str (S (signOf x.h))] (csJ j a b (some (.int x.h)) [] ln (ak x.r) []) = some (.int x.t.length,csJ j a b (some (.int x.h)) [] ln (ak x.t) []) :=
  i9 rfl (uo (n + 16) j a b (some (.int x.h)) ln x hx) (chk j h1 h2 (hV _) _ _ _)
 generalize aU (cX (fG (aF x.r) x.h)) = sd at e1 ⊢
 generalize ak x.r = P1 at e1 e2 ⊢
 generalize ak x.t = P2 at e2 ⊢
 have e3:(ae cfg (n + 58)).ev scL (aZ j w p x.r.length t hs sd (some f)) (aj (gB 6)) (csJ j a b (some (.int x.h)) [] ln P1 []) = some (.int x.t.length,csJ j a b (some (.int x.h)) [] ln P2 []):=by
  rw [b9 _ rfl]
  exact (af (show a8 cfg scL (aZ j w p x.r.length t hs sd (some f)) (d8 (aj (gB 6))) (csJ j a b (some (.int x.h)) [] ln P1 []) = some (.fn 168,csJ j a b (some (.int x.h)) [] ln P1 []) from rfl)).trans ((af e1).trans e2)
 rw [b6 _ rfl]
 refine (af e3).trans ?_
 generalize ((x.h:Nat):Int) = h
 generalize ((x.r.length:Nat):Int) = c
 generalize ((x.t.length:Nat):Int) = c'
 kernel_rfl
end
end Mine
end
section
namespace Mine
open PySem
theorem xQ:∀ e∈trF,∀ a∈dz,a.1 = e.t→∃ x∈trG,x.r = a.2∧x.h = (3 - e.h) % 3∧(e.r,x.t)∈dz:=by decide +kernel
section
variable (n:Nat) (j:Gh) (w:PV) (ln:Int)
theorem AR (p t0:Int) (t:Nat) (hs sd:PV) (f:Option Int) {a b d:Option PV} (h1:okC a) (h2:okC b) (h3:okC d) (e:TrE) (he:e∈trF) (hp:p∈dvP) (q:Int) (hq:p = -1000 * q - e.h - 1) (M:Rw) (hM:(e.t,M)∈dz) :
  ∃ M',(e.r,M')∈dz∧∃ sd' f' a' b' d',okC a'∧okC b'∧okC d'∧aV (ae cfg (n + 59)) scL (st 12).fT (st 12).fB (.int t) (aZ j w p M.length t0 hs sd f) (csJ j a b d [] ln (ak M) []) =
   some ((.next,aZ j w q M'.length t hs sd' (some f')),csJ j a' b' d' [] ln (ak M') []):=by
 have hh:=vp e he
 obtain ⟨d1,d2⟩:=zz hp hh hq
 obtain ⟨x,hx,rfl,x2,x3⟩:=xQ e he _ hM rfl
 obtain ⟨m1,m2⟩:=za x hx
 have e0:cB scL (aZ j w p x.r.length t0 hs sd f) (st 12).fT (.int t) (csJ j a b d [] ln (ak x.r) []) = some (aZ j w p x.r.length t hs sd f,csJ j a b d [] ln (ak x.r) []):=by
  rcases f with _ | f <;> rfl
 have q0:=Ar n j w ln p x.r.length t hs sd f a b d (ak x.r) hp
 rw [d1,d2] at q0
 have q1:=Ax n j w ln q x.r.length t hs sd e.h hh a b d (ak x.r)
 rw [← x2] at q1
 have q2:(ae cfg (n + 59)).ex scL (aZ j w q x.r.length t hs sd (some (-(e.h:Int) - 1))) (gB 2) (csJ j a b (some (.int x.h)) [] ln (ak x.r) []) = some ((.next,aZ j w q x.r.length t hs sd (some (-(e.h:Int) - 1))),csJ j (some (bP (aF x.r))) (some (cA (aF x.r))) (some (.int x.h)) [] ln (ak x.r) []):=by
  have:=nH n j ln (gB 2) (by kernel_rfl) (by kernel_rfl) (by kernel_rfl) (aZ j w q x.r.length t hs sd (some (-(e.h:Int) - 1))) (aF x.r) m1 h1 h2 (hV x.h) (by
   rw [m2]
   generalize ak x.r = P
   generalize ((x.r.length:Nat):Int) = c
   generalize -(e.h:Int) - 1 = y
   kernel_rfl) (fun a b=>by
   generalize ak (aF x.r).r = P
   generalize ((x.r.length:Nat):Int) = c
   generalize -(e.h:Int) - 1 = y
   kernel_rfl)
  rw [m2] at this
  exact this
 have q3:=vB n j w ln q t (-(e.h:Int) - 1) hs sd (ak x.r) x hx
 have q6:=zW n j w ln q t (-(e.h:Int) - 1) hs (gi (aF x.r)) (ir (aF x.r)) x hx
 refine ⟨x.t,x3,aU (cX (fG (aF x.r) x.h)),-(e.h:Int) - 1,_,_,_,gi (aF x.r),ir (aF x.r),hV x.h,(af e0).trans ?_⟩
 rw [we]
 exact (aX ((blk q0).trans rfl)).trans ((aX ((blk q1).trans rfl)).trans ((aX ((blk q2).trans rfl)).trans ((aX q3).trans ((blk q6).trans rfl))))
noncomputable def zd (r0:Rw) (rs:List TrE) (t:Nat) (t0 p:Int) (M:Rw) (hs sd:PV) (f:Option Int) (a b d:Option PV):Prop :=
  ∃ M',(r0,M')∈dz∧∃ t' sd' f' a' b' d',(rs = []→f' = f)∧(rs ≠ []→∃ y,f' = some y)∧cz (aV (ae cfg (n + 59)) scL (st 12).fT (st 12).fB) (bb t rs.length) (aZ j w p M.length t0 hs sd f) (csJ j a b d [] ln (ak M) []) =
   some ((.next,aZ j w 0 M'.length t' hs sd' f'),csJ j a' b' d' [] ln (ak M') [])
theorem yj (r0:Rw) (rs:List TrE):∀ (t:Nat) (t0 p:Int) (r M:Rw) (hs sd:PV) (f:Option Int) (a b d:Option PV),hF r0 r p rs→(r,M)∈dz→okC a→okC b→okC d→zd n j w ln r0 rs t t0 p M hs sd f a b d:=by
 induction rs with
 | nil =>
  intro t t0 p r M hs sd f a b d hb hM _ _ _
  obtain ⟨rfl,rfl⟩:=hb
  exact ⟨M,hM,t0,sd,f,a,b,d,fun _=>rfl,fun h=>absurd rfl h,rfl⟩
 | cons e rs ih =>
  intro t t0 p r M hs sd f a b d hb hM h1 h2 h3
  obtain ⟨he,rfl,hp,q,hq,hb'⟩:=hb
  obtain ⟨M1,hM1,sd1,f1,a1,b1,d1,k1,k2,k3,e1⟩:=AR n j w ln p t0 t hs sd f h1 h2 h3 e he hp q hq M hM
  obtain ⟨M',hM',t',sd',f',a',b',d',h4,h5,e2⟩:=ih (t + 1) t q e.r M1 hs sd1 (some f1) a1 b1 d1 hb' hM1 k1 k2 k3
  refine ⟨M',hM',t',sd',f',a',b',d',fun h=>(List.cons_ne_nil _ _ h).elim,fun _=>?_,(af e1).trans e2⟩
  by_cases h:rs = []
  ·exact ⟨_,h4 h⟩
  ·exact h5 h
theorem zP {sz:Nat} (hz:dR sz) (hj:j.sz = sz) (p t0:Int) (hs sd:PV) {a b d:Option PV} (h1:okC a) (h2:okC b) (h3:okC d) (rs:List TrE) (hl:rs.length = sz) (hb:hF j.r [] p rs) :
  ∃ M',(j.r,M')∈dz∧∃ t' sd' f' a' b' d',(ae cfg (n + 60)).ex scL (aZ j w p 0 t0 hs sd none) (st 12) (csJ j a b d [] ln [] []) =
   some ((.next,aZ j w 0 M'.length t' hs sd' (some f')),csJ j a' b' d' [] ln (ak M') []):=by
 obtain ⟨M',hM',t',sd',f',a',b',d',_,h4,e⟩:=yj n j w ln j.r rs 0 t0 p [] [] hs sd none a b d hb (.head _) h1 h2 h3
 obtain ⟨y,rfl⟩:=h4 (fun h=>by rw [h] at hl;rcases hz with h | h | h | h <;> (rw [h] at hl;cases hl))
 refine ⟨M',hM',t',sd',y,a',b',d', ?_⟩
 rw [hl] at e
 refine ig _ (by kernel_rfl) (μ':=csJ j a b d [] ln [] []) (l:=bb 0 sz) ?_ e
 refine pO n _ _ _ _ hz ?_ ?_
 ·kernel_rfl
 ·rw [← hj];kernel_rfl
end
end Mine
end
section
namespace Mine
open PySem
noncomputable def zm:CE→Bool | .cmp _ [_] [_] _=>true | _=>false
noncomputable def Az:CE→CmpOp | .cmp _ (o :: _) _ _=>o | _=>.Eq
noncomputable def isBool:CE→Bool | .bool ..=>true | _=>false
noncomputable def AL:CE→BoolOp | .bool o _ _=>o | _=>.And
noncomputable def bp:CE→List CE | .bool _ l _=>l | _=>[]
noncomputable def qI:CE→CE | .cmp a _ _ _=>a | e=>e
noncomputable def de:CE→CE | .cmp _ _ (b :: _) _=>b | e=>e
noncomputable def ex? (l:List CE) (i:Nat):CE:=l.getD i (.name 0 ⟨0,0,0,0⟩)
noncomputable def bR:CS→CE | .ret e _=>e | _=>.name 0 ⟨0,0,0,0⟩
noncomputable def Ai:CS→Bool | .ret ..=>true | _=>false
theorem wh (a:Int):eK .Eq (.int a) (.int a) = some true:=by
 show some (a == a) = _
 simp
section
variable {n:Nat} {sc:Sc} {loc:Loc}
theorem kR (e:CE) (h:zm e = true) {a b:PV} {μ μ' μ'':Mem} {c:Bool} (e1:(ae cfg n).ev sc loc (qI e) μ = some (a,μ')) (e2:(ae cfg n).ev sc loc (de e) μ' = some (b,μ'')) (e3:jc (Az e) a b μ'' = some (c,μ'')):(ae cfg (n + 1)).ev sc loc e μ = some (.bool c,μ''):=by
 induction e using CE.casesOn with
 | cmp x ops rs p =>
  rcases ops with _ | ⟨o,_ | ⟨_,_⟩⟩
  ·exact tf2 h
  ·rcases rs with _ | ⟨y,_ | ⟨_,_⟩⟩
   ·exact tf2 h
   ·exact (af e1).trans ((af ((af e2).trans e3)).trans rfl)
   ·exact tf2 h
  ·exact tf2 h
 | _=>exact tf2 h
theorem xd (s:CS) (h:Ai s = true) {μ μ':Mem} {v:PV} (e:(ae cfg n).ev sc loc (bR s) μ = some (v,μ')):(ae cfg (n + 1)).ex sc loc s μ = some ((.ret v,loc),μ'):=by
 induction s using CS.casesOn with
 | ret x p=>exact (af (show (ae cfg n).ev sc loc x μ = _ from e)).trans rfl
 | _=>exact tf2 h
end
noncomputable def gD:List (Rw × List (Int × Int)):=[([],[]),([1],[(1,1)]),([2],[(2,1)]),([1,1],[(2,2)]),([3],[(3,1)]),([2,1],[(3,2)]),([4],[(3,1),(1,1)]),([3,1],[(4,2)]),([2,2],[(3,2),(1,1)]),([2,1,1],[(4,3)]),([5],[(3,1),(2,1)]),([4,1],[(4,2),(1,1)]),([3,2],[(3,2),(2,2)]),([3,1,1],[(5,3)]),([2,2,1],[(4,3),(1,1)]),([6],[(3,1),(3,1)]),([5,1],[(4,2),(2,1)]),([4,2],[(5,2),(1,1)]),([4,1,1],[(5,3),(1,1)]),([3,3],[(3,2),(3,2)]),([3,2,1],[(4,3),(2,2)]),([2,2,1,1],[(5,4),(1,1)]),([7],[(3,1),(3,1),(1,1)]),([6,1],[(4,2),(3,1)]),([5,2],[(5,2),(2,1)]),([5,1,1],[(5,3),(2,1)]),([4,3],[(3,2),(3,2),(1,1)]),([4,2,1],[(6,3),(1,1)]),([3,3,1],[(4,3),(3,2)]),([3,2,2],[(5,3),(2,2)]),([3,2,1,1],[(5,4),(2,2)])]
noncomputable def cE (l:List (Int × Int)):List PV:=l.map fun y=>.tup [.int y.1,.int y.2]
noncomputable def cI (l:List (Int × Int)):List PV:=l.map fun y=>.tup [.int y.1,.int (y.1 + (if y.1 % 3 = 0 then 0 else 1) - y.2)]
noncomputable def eS (M:Rw):PV:=.lst ((aw 0 M).map aD ++ [.str ⟨#[]⟩])
theorem px (n:Nat) (μ:Mem):∀ x∈gD,bO (ae cfg (n + 40)) dX [av x.1] μ = some (.lst (cE x.2),μ):=map_eq (by kernel_rfl)
theorem t7 (μ:Mem):∀ x∈gD,srcOf (.lst (cE x.2)) μ = some (.items (cE x.2),μ):=map_eq (by kernel_rfl)
noncomputable def uv:Sc:=⟨(cpS (aj (st 15))).names,[],0⟩
theorem xK (n:Nat) (μ:Mem):∀ x∈gD,dH (ae cfg (n + 58)) uv (cpE (aj (st 15))) (cpT (aj (st 15))) [] (cE x.2) [] [] μ = some (cI x.2,μ):=map_eq (by kernel_rfl)
theorem zw:∀ x∈gD,∀ y∈gD,(x.1,y.1)∈dz→eK .Eq (.lst (cI x.2)) (.lst (cE y.2)) = some true:=by decide +kernel
theorem rS:∀ x∈dz,iO .Add (ao x.2) (.lst [.str ⟨#[]⟩]) = some (eS x.2):=map_eq (by kernel_rfl)
theorem uQ:∀ x∈dz,eK .Eq (eS x.2) (eS x.2) = some true:=map_eq (by kernel_rfl)
theorem wt:∀ k∈[4,5,6,7],∀ r∈aP k,∀ x∈dz,x.1 = r→x.2∈aP k:=by decide +kernel
theorem oX:∀ k∈[4,5,6,7],∀ r∈aP k,∃ x∈gD,x.1 = r:=by decide +kernel
noncomputable def eB (j:Gh) (w:PV) (t:Int) (hs sd:PV) (f:Int) (M:Rw):Loc:=ar j w [(112,ao j.r),(113,.int 0),(71,.int M.length),(114,.int t),(116,hs),(117,sd),(120,.int f),(72,eS M),(122,av M)]
noncomputable def qq (j:Gh) (w:PV) (t:Int) (hs sd:PV) (f:Int) (M:Rw) (due:PV):Loc:=ar j w [(112,ao j.r),(113,.int 0),(71,.int M.length),(114,.int t),(116,hs),(117,sd),(120,.int f),(72,eS M),(122,av M),(123,due)]
section
variable (n:Nat) (j:Gh) (w:PV) (ln:Int) (t f:Int) (hs sd:PV) (a b d:Option PV)
theorem wZ:∀ x∈dz,ay (ae cfg (n + 60)) scL [st 13,st 14] (aZ j w 0 x.2.length t hs sd (some f)) (csJ j a b d [] ln (ak x.2) []) = some ((.next,eB j w t hs sd f x.2),csJ j a b d [] ln [] []):=map_eq (by kernel_rfl)
theorem Ad (Mr:Rw) {x:Rw × List (Int × Int)} (hx:x∈gD) (hr:x.1 = j.r):(ae cfg (n + 60)).ex scL (eB j w t hs sd f Mr) (st 15) (csJ j a b d [] ln [] []) = some ((.next,qq j w t hs sd f Mr (.lst (cI x.2))),csJ j a b d [] ln [] []):=by
 have e1:=px (n + 16) (csJ j a b d [] ln [] []) x hx
 rw [hr] at e1
 have e2:(ae cfg (n + 58)).ev scL (eB j w t hs sd f Mr) (cpI (aj (st 15))) (csJ j a b d [] ln [] []) = some (.lst (cE x.2),csJ j a b d [] ln [] []):=by
  rw [b9 _ rfl]
  exact (af (show a8 cfg scL (eB j w t hs sd f Mr) (d8 (cpI (aj (st 15)))) (csJ j a b d [] ln [] []) = some (.fn 178,csJ j a b d [] ln [] []) from rfl)).trans
   ((af (show evL (ae cfg (n + 57)) scL (eB j w t hs sd f Mr) (bY (cpI (aj (st 15)))) (csJ j a b d [] ln [] []) = some ([av j.r],csJ j a b d [] ln [] []) from by kernel_rfl)).trans e1)
 have e3:bH cfg (ae cfg (n + 58)) scL (eB j w t hs sd f Mr) (cpT (aj (st 15))) (cpI (aj (st 15))) (csJ j a b d [] ln [] []) = some (.items (cE x.2),csJ j a b d [] ln [] []) :=
  (show bH cfg (ae cfg (n + 58)) scL (eB j w t hs sd f Mr) (cpT (aj (st 15))) (cpI (aj (st 15))) (csJ j a b d [] ln [] []) = M.bnd ((ae cfg (n + 58)).ev scL (eB j w t hs sd f Mr) (cpI (aj (st 15)))) srcOf (csJ j a b d [] ln [] []) from by kernel_rfl).trans ((af e2).trans (t7 _ x hx))
 have e4:(ae cfg (n + 59)).ev scL (eB j w t hs sd f Mr) (aj (st 15)) (csJ j a b d [] ln [] []) = some (.lst (cI x.2),csJ j a b d [] ln [] []):=by
  refine (show (ae cfg (n + 59)).ev scL (eB j w t hs sd f Mr) (aj (st 15)) (csJ j a b d [] ln [] []) = M.bnd (bH cfg (ae cfg (n + 58)) scL (eB j w t hs sd f Mr) (cpT (aj (st 15))) (cpI (aj (st 15)))) (fun src=>match src with
   | .items l=>M.bnd (dH (ae cfg (n + 58)) uv (cpE (aj (st 15))) (cpT (aj (st 15))) [] l [] []) fun vs=>M.ret (PV.lst vs)
   | .ref i k=>M.bnd (eW (ae cfg (n + 58)) uv (cpE (aj (st 15))) (cpT (aj (st 15))) [] i k 0 [] []) fun vs=>M.ret (PV.lst vs)) (csJ j a b d [] ln [] []) from by kernel_rfl).trans ?_
  exact (af e3).trans ((af (xK n _ x hx)).trans rfl)
 rw [b6 _ rfl]
 refine (af e4).trans ?_
 generalize cI x.2 = v
 kernel_rfl
theorem wd {n:Nat} {sc:Sc} {loc:Loc} (e:CE) (h:isBool e = true) (ho:AL e = .And) {a b c d:CE} (hl:bp e = [a,b,c,d]) {μ:Mem} {v:PV} (e1:(ae cfg n).ev sc loc a μ = some (.bool true,μ)) (e2:(ae cfg n).ev sc loc b μ = some (.bool true,μ)) (e3:(ae cfg n).ev sc loc c μ = some (.bool true,μ)) (e4:(ae cfg n).ev sc loc d μ = some (v,μ)):(ae cfg (n + 1)).ev sc loc e μ = some (v,μ):=by
 induction e using CE.casesOn with
 | bool op es p =>
  have ho':op = .And:=ho
  have hl':es = [a,b,c,d]:=hl
  subst ho';subst hl'
  exact (af e1).trans ((af (show M.lift (trO (.bool true)) μ = some (true,μ) from rfl)).trans ((af e2).trans ((af (show M.lift (trO (.bool true)) μ = some (true,μ) from rfl)).trans ((af e3).trans ((af (show M.lift (trO (.bool true)) μ = some (true,μ) from rfl)).trans e4)))))
 | _=>exact tf2 h
theorem zF {sz:Nat} (hz:dR sz) {x:Rw × List (Int × Int)} (hx:x∈gD) (hr:x.1 = j.r) (hj:j.r∈aP sz) (Mr:Rw) (hM:(j.r,Mr)∈dz) (tx:List Nat) (hT:j.T = S tx) (hln:ln = 1 + (nlc tx:Int)) :
  (ae cfg (n + 60)).ex scL (qq j w t hs sd f Mr (.lst (cI x.2))) (st 16) (csJ j a b d [] ln [] []) = some ((.ret (.bool true),qq j w t hs sd f Mr (.lst (cI x.2))),csJ j a b d [] ln [] []):=by
 have hk:sz∈[4,5,6,7]:=by rcases hz with rfl | rfl | rfl | rfl <;> decide
 have hMr:=wt sz hk _ hj _ hM rfl
 obtain ⟨y,hy,hy1⟩:=oX sz hk _ hMr
 have hy1:y.1 = Mr:=hy1
 have q2:=px (n + 15) (csJ j a b d [] ln [] []) y hy
 rw [hy1] at q2
 have q3:=zw x hx y hy (by rw [hr,hy1];exact hM)
 have q4:=jq (n + 14) (csJ j a b d [] ln [] []) hz Mr hMr
 have q5:=rS _ hM
 have q6:=uQ _ hM
 dsimp only at q5 q6
 generalize PV.lst (cI x.2) = du at q3 ⊢
 generalize PV.lst (cE y.2) = ri at q2 q3
 generalize hμ:csJ j a b d [] ln [] [] = μ at q2 q4 ⊢
 generalize hL:qq j w t hs sd f Mr du = L
 have c1:(ae cfg (n + 58)).ev scL L (ex? (bp (bR (st 16))) 0) μ = some (.bool true,μ):=by subst hL;kernel_rfl
 have c2:(ae cfg (n + 58)).ev scL L (ex? (bp (bR (st 16))) 1) μ = some (.bool true,μ):=by
  have d1:(ae cfg (n + 57)).ev scL L (qI (ex? (bp (bR (st 16))) 1)) μ = some (du,μ):=by subst hL;kernel_rfl
  have d2:(ae cfg (n + 57)).ev scL L (de (ex? (bp (bR (st 16))) 1)) μ = some (ri,μ):=by
   rw [b9 _ rfl]
   exact (af (show a8 cfg scL L (d8 (de (ex? (bp (bR (st 16))) 1))) μ = some (.fn 178,μ) from by subst hL;rfl)).trans
    ((af (show evL (ae cfg (n + 56)) scL L (bY (de (ex? (bp (bR (st 16))) 1))) μ = some ([av Mr],μ) from by subst hL;kernel_rfl)).trans q2)
  exact kR _ (by kernel_rfl) d1 d2 (cy q3)
 have c3:(ae cfg (n + 58)).ev scL L (ex? (bp (bR (st 16))) 2) μ = some (.bool true,μ):=by
  have d1:(ae cfg (n + 57)).ev scL L (qI (ex? (bp (bR (st 16))) 2)) μ = some (eS Mr,μ):=by subst hL;kernel_rfl
  have d2:(ae cfg (n + 56)).ev scL L (ij (de (ex? (bp (bR (st 16))) 2))) μ = some (ao Mr,μ):=by
   rw [b9 _ rfl]
   exact (af (show a8 cfg scL L (d8 (ij (de (ex? (bp (bR (st 16))) 2)))) μ = some (.fn 158,μ) from by subst hL;rfl)).trans
    ((af (show evL (ae cfg (n + 55)) scL L (bY (ij (de (ex? (bp (bR (st 16))) 2)))) μ = some ([av Mr],μ) from by subst hL;kernel_rfl)).trans q4)
  have d3:(ae cfg (n + 57)).ev scL L (de (ex? (bp (bR (st 16))) 2)) μ = some (eS Mr,μ):=by
   rw [hW _ rfl]
   exact (af d2).trans ((af (show (ae cfg (n + 56)).ev scL L (ix (de (ex? (bp (bR (st 16))) 2))) μ = some (.lst [.str ⟨#[]⟩],μ) from by subst hL;kernel_rfl)).trans (cy q5))
  exact kR _ (by kernel_rfl) d1 d3 (cy q6)
 have c4:(ae cfg (n + 58)).ev scL L (ex? (bp (bR (st 16))) 3) μ = some (.bool true,μ):=by
  have d1:(ae cfg (n + 57)).ev scL L (qI (ex? (bp (bR (st 16))) 3)) μ = some (.int ln,μ):=by subst hL;subst hμ;kernel_rfl
  have d2:(ae cfg (n + 56)).ev scL L (ix (de (ex? (bp (bR (st 16))) 3))) μ = some (.int (Txt.count j.T ⟨#[10]⟩),μ):=by
   rw [mI _ (by kernel_rfl)]
   refine (af (show (ae cfg (n + 55)).ev scL L (ng (ix (de (ex? (bp (bR (st 16))) 3)))) μ = some (.str j.T,μ) from by subst hL;kernel_rfl)).trans ?_
   exact (af (show d9 (.str j.T) μ = some (.str,μ) from rfl)).trans ((af (show evL (ae cfg (n + 55)) scL L (mZ (ix (de (ex? (bp (bR (st 16))) 3)))) μ = some ([.str ⟨#[10]⟩],μ) from by subst hL;kernel_rfl)).trans (by rfl))
  have d3:(ae cfg (n + 57)).ev scL L (de (ex? (bp (bR (st 16))) 3)) μ = some (.int (1 + Txt.count j.T ⟨#[10]⟩),μ):=by
   rw [hW _ (by kernel_rfl)]
   exact (af (show (ae cfg (n + 56)).ev scL L (ij (de (ex? (bp (bR (st 16))) 3))) μ = some (.int 1,μ) from by subst hL;kernel_rfl)).trans ((af d2).trans (by rfl))
  have hc:1 + Txt.count j.T ⟨#[10]⟩ = ln:=by
   rw [hln,PyProof.Rows.count_cnt,vZ,hT];rfl
  rw [hc] at d3
  exact kR _ (by kernel_rfl) d1 d3 (cy (wh ln))
 exact xd _ (by kernel_rfl) (wd _ (by kernel_rfl) (by kernel_rfl) (by kernel_rfl) c1 c2 c3 c4)
end
end Mine
end
section
namespace Mine
open PySem
theorem qH:bC.body = [st 0,st 1,st 2,st 3,st 4,st 5,st 6,st 7,st 8,st 9,st 10,st 11,st 12] ++ ([st 13,st 14] ++ [st 15,st 16]):=by kernel_rfl
theorem text_len (b:Int):∀ (l:List (List Nat)) (i:Nat),(∀ w∈l,w∈ws)→(bh b i l).length ≤ 18 * l.length
 | [],_,_=>Nat.zero_le _
 | w :: l,i,h=>by
  have h1:=g9 (h w (.head _)) (three (Int.fdiv b (3 ^ i))) (a0 b i)
  have h1:(bD w (aK b i) (a0 b i)).length ≤ 18:=h1
  have h2:=text_len b l (i + 1) fun x hx=>h x (.tail _ hx)
  rw [iw,List.length_append,List.length_cons];lia
theorem rK (n:Nat) (script:List Int) (h:script.length ≤ 63) (hne:script ≠ []):∃ loc μ,ay (ae cfg (n + 60)) scL bC.body [(98,iL script)] nc = some ((.ret (.bool true),loc),μ):=by
 generalize hs:iL script = s
 rw [qH]
 obtain ⟨loc1',a,b,c,q1,h1⟩:=AX n script h 195 6 112
 rw [hs] at q1 h1
 obtain ⟨k,x,rfl⟩:∃ k x,loc1' = full s k x:=by
  rcases h1 with ⟨_,h1⟩ | h1
  ·exact absurd h1 hne
  ·exact h1
 obtain ⟨sz,hsz,hz⟩:∃ sz:Nat,4 + Int.fmod a 4 = sz∧dR sz:=by
  rcases four a with h | h | h | h <;> rw [h]
  ·exact ⟨4,rfl,.inl rfl⟩
  ·exact ⟨5,rfl,.inr (.inl rfl)⟩
  ·exact ⟨6,rfl,.inr (.inr (.inl rfl))⟩
  ·exact ⟨7,rfl,.inr (.inr (.inr rfl))⟩
 have hk:sz∈[4,5,6,7]:=by rcases hz with rfl | rfl | rfl | rfl <;> decide
 have q2:=Bt n s k x a b c sz hsz
 obtain ⟨r,hr,q3⟩:=BA n s k x a b c sz hz
 have q4:=BD n s k x a b c sz hz r hr
 have hw:=z9 sz hk r hr
 obtain ⟨j,w,_,jz,rfl,jT,_,jb,_,q5⟩:=Br n s k x sz a b c r hw
 have ht:=text_len b (aw 0 j.r) 0 hw.1
 have q6:=Bp n j w (bh b 0 (aw 0 j.r)) jT (by lia)
 obtain ⟨u,ln,q7,hu,hln⟩:=By n j w (aG (Int.fmod j.c 4)) ⟨hw.1,hw.2.1⟩
 rw [jb] at q7 hln
 obtain ⟨w8,q8⟩:=A7 n j w (u ++ aG (Int.fmod j.c 4)) ln hw.2.1
 have q9:=Bx n j w8 hz hr u hu (Int.fmod j.c 4) (four _) ln ((aw 0 j.r).map S)
 have hrl:j.r.length < 100:=by
  have:∀ (i:Nat) (l:Rw),(aw i l).length = l.length:=fun i l=>by
   induction l generalizing i with
   | nil=>rfl
   | cons y l ih=>exact congrArg (· + 1) (ih (i + 1))
  have h2:=this 0 j.r
  lia
 have q10:=AQ n j w8 [] (ln + (nlc u:Int) + 0) ((aw 0 j.r).map S) hrl
 obtain ⟨es,hl,hc,⟨t0,hs1,sd1⟩,lo,wa,hu1,k1,k2,k3,q11⟩:=zH n j w8 (ln + (nlc u:Int) + 0) hz jz hr
 have hb:=pA j.r es j.r 0 [] hc (sy sz hk j.r hr) ⟨rfl,rfl⟩
 rw [List.append_nil] at hb
 obtain ⟨Mr,hM,t1,sd2,f,a1,b1,d1,q12⟩:=zP n j w8 (ln + (nlc u:Int) + 0) hz jz (gP 0 es) t0 hs1 sd1 k1 k2 k3 es.reverse (by rw [List.length_reverse,hl]) hb
 have q13:=wZ n j w8 (ln + (nlc u:Int) + 0) t1 f hs1 sd2 a1 b1 d1 _ hM
 obtain ⟨y,hy,hy1⟩:=oX sz hk _ hr
 have q15:=Ad n j w8 (ln + (nlc u:Int) + 0) t1 f hs1 sd2 a1 b1 d1 Mr hy hy1
 have q16:=zF n j w8 (ln + (nlc u:Int) + 0) t1 f hs1 sd2 a1 b1 d1 hz hy hy1 hr Mr hM (bh b 0 (aw 0 j.r)) jT (by rw [Int.add_zero];exact hln)
 refine ⟨_,_,(aX ?_).trans ((aX q13).trans ((blk q15).trans ((af q16).trans rfl)))⟩
 exact (blk (Bj n s)).trans ((blk q1).trans ((blk q2).trans ((blk q3).trans ((blk q4).trans ((blk q5).trans ((blk q6).trans ((blk q7).trans ((blk q8).trans ((blk q9).trans ((blk q10).trans ((blk q11).trans ((blk q12).trans rfl))))))))))))
theorem rN (n:Nat):bO (ae cfg (n + 60)) bC [iL []] [] = some (.bool true,[]):=by kernel_rfl
theorem rP (n:Nat) (script:List Int) (h:script.length ≤ 63):bO (ae cfg (n + 60)) bC [iL script] [] = some (.bool true,[]):=by
 by_cases hne:script = []
 ·subst hne;exact rN n
 ·refine x21 (rK n script h hne) fun loc μ e=>?_
  have e2:bV (ae cfg (n + 60)) bC [iL script] 0 [] = some (.bool true,μ):=by
   show M.bnd (cf [(98,iL script)] bC.sc.names) (fun cells=>M.bnd (ay (ae cfg (n + 60)) ⟨bC.sc.names,cells,0⟩ bC.body (bo bC.sc.names [(98,iL script)])) fun x=>M.ret (iM x.1)) [] = _
   refine (af (r6 (iL script))).trans ?_
   rw [wy]
   exact (af e).trans rfl
  show (match bV (ae cfg (n + 60)) bC [iL script] 0 [] with
   | some (v,μ')=>(match if (μ'.take 0).all (dO 0) then frz 0 μ' 8 v else none with
    | some v'=>some (v',μ'.take 0)
    | none=>none)
   | none=>none) = _
  rw [e2];rfl
end Mine
end
section
open PySem PySem.W PySem.Spec PySem.Calls PyProof.Rows
namespace Mine
section
variable {hb:Heap} {w:World}
inductive LXd (hb:Heap) (w:World):Led→List Nat→Int→List Str→Led→Prop
 | mk {a:Lx} {cs:List Nat} {n:Int} {ps:List Str} (tl:Tok) (pvs:List Value) (pe:Nat) (vs:List Value) (ep:Nat) (ok:a.Ok) (h1:StrsAre pvs ps) (h2:StrsAre vs (sgs cs).reverse) (h3:cs.length ≤ 1000) (h4:ps.length ≤ 2000) (h5:∀ y∈a.addrs,hb.get? y = none):LXd hb w [(a.c2,a.oc2)] cs n ps (a.L w n tl pvs pe vs ep)
theorem j9 {s:Shared} {as:List Addr} (h:hb.StaysIn s.heap) (n:∀ y∈as,hb.get? y = none):hb.StaysIn (hideAll s.heap as):=fun b o e=>hideAll_get _ (h b o e) fun q=>by rw [n b q] at e;exact no1 e
theorem Aj {α:Type} (e0 e1 e2 e3 e4 e5 e6 e7 e8:α):∀ p∈[e0,e1,e2,e3,e4,e5,e7,e8],p∈[e0,e1,e2,e3,e4,e5,e6,e7,e8] :=
 List.forall_mem_cons.mpr ⟨List.mem_of_getElem? (i:=0) rfl,List.forall_mem_cons.mpr ⟨List.mem_of_getElem? (i:=1) rfl,List.forall_mem_cons.mpr ⟨List.mem_of_getElem? (i:=2) rfl,List.forall_mem_cons.mpr ⟨List.mem_of_getElem? (i:=3) rfl,List.forall_mem_cons.mpr ⟨List.mem_of_getElem? (i:=4) rfl,List.forall_mem_cons.mpr ⟨List.mem_of_getElem? (i:=5) rfl,List.forall_mem_cons.mpr ⟨List.mem_of_getElem? (i:=7) rfl,List.forall_mem_cons.mpr ⟨List.mem_of_getElem? (i:=8) rfl,nofun⟩⟩⟩⟩⟩⟩⟩⟩
theorem Lx.qL (a:Lx) {w:World} {n:Int} {tl:Tok} {pvs:List Value} {pe:Nat} {vs:List Value} {ep:Nat}:∀ p∈a.L w n tl pvs pe vs ep,p∈a.N w n tl pvs pe vs ep:=fun p hp=>Aj _ _ _ _ _ _ _ _ _ p hp
theorem AD {α:Type} (e0 e1 e2 e3 e4 e5 e6 e7 e8:α):∀ p∈[e0,e1,e2,e3,e4,e5,e6,e7,e8],p = e6∨p∈[e0,e1,e2,e3,e4,e5,e7,e8] :=
 List.forall_mem_cons.mpr ⟨.inr (List.mem_of_getElem? (i:=0) rfl),List.forall_mem_cons.mpr ⟨.inr (List.mem_of_getElem? (i:=1) rfl),List.forall_mem_cons.mpr ⟨.inr (List.mem_of_getElem? (i:=2) rfl),List.forall_mem_cons.mpr ⟨.inr (List.mem_of_getElem? (i:=3) rfl),List.forall_mem_cons.mpr ⟨.inr (List.mem_of_getElem? (i:=4) rfl),List.forall_mem_cons.mpr ⟨.inr (List.mem_of_getElem? (i:=5) rfl),List.forall_mem_cons.mpr ⟨.inl rfl,List.forall_mem_cons.mpr ⟨.inr (List.mem_of_getElem? (i:=6) rfl),List.forall_mem_cons.mpr ⟨.inr (List.mem_of_getElem? (i:=7) rfl),nofun⟩⟩⟩⟩⟩⟩⟩⟩⟩
theorem Lx.js (a:Lx) {w:World} {n:Int} {tl:Tok} {pvs:List Value} {pe:Nat} {vs:List Value} {ep:Nat}:∀ p∈a.N w n tl pvs pe vs ep,p = (a.c2,a.oc2)∨p∈a.L w n tl pvs pe vs ep:=fun p hp=>AD _ _ _ _ _ _ _ _ _ p hp
theorem iX:∀ (cs t:List Nat) (n:Nat),(cD cs t n).2.1.length ≤ cs.length
 | [],t,n=>Nat.le_refl _
 | c :: r,t,n=>by
  cases h:c == 34 with
  | true=>rw [si r t n h];exact Nat.le_succ _
  | false =>
   cases h2:c == 92 with
   | true =>
    rcases r with _ | ⟨d,r'⟩
    ·rw [pR t n h h2];exact Nat.zero_le _
    ·rw [ro d r' t n h h2];exact Nat.le_trans (iX r' _ _) (Nat.le_trans (Nat.le_succ _) (Nat.le_succ _))
   | false=>rw [sq r t n h h2];exact Nat.le_trans (iX r _ _) (Nat.le_succ _)
theorem gx:∀ (cs t:List Nat) (n:Nat),(bJ cs t n).2.1.length ≤ cs.length
 | [],t,n=>Nat.le_refl _
 | c :: r,t,n=>by
  cases h:isWs c with
  | true=>rw [rM r t n h];exact Nat.le_succ _
  | false =>
   cases h2:c == 92 with
   | true =>
    rcases r with _ | ⟨d,r'⟩
    ·rw [ph t n h h2];exact Nat.zero_le _
    ·rw [sH d r' t n h h2];exact Nat.le_trans (gx r' _ _) (Nat.le_trans (Nat.le_succ _) (Nat.le_succ _))
   | false=>rw [rE r t n h h2];exact Nat.le_trans (gx r _ _) (Nat.le_succ _)
theorem nJ:∀ (cs:List Nat) (n:Nat),(aA cs n).2.1.length ≤ cs.length
 | [],n=>Nat.le_refl _
 | c :: r,n=>by
  cases h:isWs c with
  | true=>rw [qN r n h];exact Nat.le_trans (nJ r _) (Nat.le_succ _)
  | false =>
   cases h2:c == 34 with
   | true=>rw [qQ r n h h2];exact Nat.le_trans (iX r _ _) (Nat.le_succ _)
   | false =>
    cases h3:c == 92 with
    | true =>
     rcases r with _ | ⟨d,r'⟩
     ·rw [pF n h h2 h3];exact Nat.zero_le _
     ·rw [qO d r' n h h2 h3];exact Nat.le_trans (gx r' _ _) (Nat.le_trans (Nat.le_succ _) (Nat.le_succ _))
    | false=>rw [sM r n h h2 h3];exact Nat.le_trans (gx r _ _) (Nat.le_succ _)
noncomputable def iU (hb:Heap) (full:Addr→Obj→Prop) (q:Str) (fz:Led) (t:Obj):Prop :=
 t = tabObj #[]∨∃ c oc,(c,oc)∈fz∧cT oc q∧hb.get? c = none∧full c t
noncomputable def TQd (hb:Heap) (fz T:Led):Prop :=
 ∃ t1 t2 t3,T = [(30,t1),(37,t2),(143,t3)]∧iU hb (fun c t=>t = bM c) eA fz t1∧iU hb (fun c t=>t = cx c) dnQ fz t2∧iU hb (fun c t=>∃ c1,t = cR c1 c) kM fz t3
theorem iU.mono {full:Addr→Obj→Prop} {q:Str} {fz fz':Led} {t:Obj} (h:∀ p∈fz,p∈fz') (x:iU hb full q fz t):iU hb full q fz' t:=by
 rcases x with x | ⟨c,oc,m,r⟩
 ·exact .inl x
 ·exact .inr ⟨c,oc,h _ m,r⟩
theorem TQd.mono {fz fz' T:Led} (h:∀ p∈fz,p∈fz') (x:TQd hb fz T):TQd hb fz' T:=by
 refine x34 x fun t1 t2 t3 e a b c=>?_
 exact ⟨t1,t2,t3,e,a.mono h,b.mono h,c.mono h⟩
structure Gnd (w:World) (hb:Heap):Prop where
 X:(kf w.params).In hb
 Y:(kg w.params).In hb
 T:∃ loose mean mg mb,Top topProg loose mean mg mb hb
 h30:hb.get? 30 = none
 h37:hb.get? 37 = none
 h143:hb.get? 143 = none
theorem j8 {s:Shared} {a:Lx} {n:Int} {tl:Tok} {pvs:List Value} {pe:Nat} {vs:List Value} {ep:Nat} (h:∀ p∈a.L w n tl pvs pe vs ep,s.heap.get? p.1 = some p.2) :
  InstAt s.heap a.x (instObj 137 a.d) 137 (some (bu w n tl a.k1 a.k2 a.k3 a.tw a.k4 a.st a.pb)):=⟨h _ (.head _),rfl,rfl,h _ (.tail _ (.head _))⟩
set_option tactic.hygienic true in
theorem qz {K:Frag} {h:Heap} {f:Addr} (X:K.In h) (e:fnIn K f = true):∃ o fd,h.get? f = some o∧o.data = .func fd:=by
 unfold fnIn at e
 split at e
 ·rename_i fd _ q;exact ⟨_,_,X _ _ q,rfl⟩
 ·exact tf2 e
noncomputable abbrev yO (w:World) (hb:Heap) (B:Bas):Prop:=B.prog = pw∧B.w = w∧B.hb = hb∧B.LX = LXd hb w∧B.fT = 127∧B.fP = 134
set_option maxHeartbeats 4000000 in
theorem xg (g:Gnd w hb) {B:Bas} (e:yO w hb B):zc B:=by
 refine x06 e fun e1 e2 e3 e4 e5 e6=>?_
 obtain ⟨prog,w',nm,cfg,hb',mg,mb,kfz,LX,TQ,fT,fP⟩:=B
 dsimp only at e1 e2 e3 e4 e5 e6
 subst e1;subst e2;subst e3;subst e4;subst e5;subst e6
 refine x41 g.T fun loose mean mg0 mb0 T=>?_
 refine ⟨?_, ?_, ?_, ?_, ?_, ?_, ?_⟩
 ·rintro c cs n ps l @⟨a,cs,n,ps,tl,pvs,pe,vs,ep,ok,_,_,_,_,_⟩ e
  injection e
 ·exact qz g.X (by kernel_rfl)
 ·exact qz g.X (by kernel_rfl)
 ·rintro A s E Q pl c cs n ps l f x hx hh hs @⟨a,cs,n,ps,tl,pvs,pe,vs,ep,ok,h1,h2,h3,h4,h5⟩ hc hl hq
  have X:(kf w'.params).In s.heap:=g.X.keeps hs
  rcases hx with ⟨hx,rfl⟩ | ⟨hx,rfl⟩
  ·obtain rfl:=beq_iff_eq.mp hx
   exact method_fn X (j8 hl) (by kernel_rfl) (by kernel_rfl) (f:=127) (by kernel_rfl) (by kernel_rfl) (by kernel_rfl) hq
  ·obtain rfl:=beq_iff_eq.mp hx
   exact method_fn X (j8 hl) (by kernel_rfl) (by kernel_rfl) (f:=134) (by kernel_rfl) (by kernel_rfl) (by kernel_rfl) hq
 ·rintro A s E Q c cs n ps l x hx hh hs @⟨a,cs,n,ps,tl,pvs,pe,vs,ep,ok,h1,h2,h3,h4,h5⟩ hc hl hq
  have X:(kf w'.params).In s.heap:=g.X.keeps hs
  obtain rfl:=beq_iff_eq.mp hx
  refine get_value X (j8 hl) (by kernel_rfl) (v:=.int n tl) (findObj_own (attr:=none) (by kernel_rfl) (by kernel_rfl) (by kernel_rfl) (by kernel_rfl)) rfl ?_
  exact hq tl _
 ·rintro A s E Q c cs n ps l hh hd hu hs @⟨a,cs,n,ps,tl,pvs,pe,vs,ep,ok,h1,h2,h3,h4,h5⟩ hc hl hnd hq
  have st:=j9 (as:=a.addrs) hs h5
  refine wpAny_call (xb w' a ok n tl pvs pe cs vs ep ps h2 h3 h1 h4 topProg loose mean mg0 mb0 A s _ hh (g.X.keeps st) (fun p hp=>?_) (T.keeps st) (by omega) (by omega) fun v nw h' tk hk hn r=>?_)
  ·rcases a.js p hp with rfl | hp
   ·exact (hc _ (.head _)).1
   ·exact hl p hp
  ·have keep:∀ (w0:World) (n':Int) (tl':Tok) (pvs':List Value) (pe':Nat) (vs':List Value) (ep':Nat),nw = a.N w' n' tl' pvs' pe' vs' ep'→∀ b o,b ∉ (a.L w' n tl pvs pe vs ep).map (·.1)→s.heap.get? b = some o→h'.get? b = some o:=fun _ n' tl' pvs' pe' vs' ep' e b o hb hbo=>by
    by_cases hb2:b = a.c2
    ·subst hb2
     have h1:=(hc _ (.head _)).1
     rw [hbo] at h1
     have h2:=(hn (a.c2,a.oc2) (by rw [e];exact List.mem_of_getElem? (i:=6) rfl)).1
     rw [h2];exact h1.symm
    ·refine hk b o (fun hm=>?_) hbo
     refine x12 (List.mem_map.mp hm) fun p hp e2=>?_
     rcases a.js p hp with rfl | hp
     ·exact hb2 e2.symm
     ·exact hb (e2 ▸ List.mem_map_of_mem hp)
   induction ps using List.casesOn with
   | nil =>
    obtain ⟨t,tl',pe',vs',ep',rfl,rfl,hvs'⟩:=r
    exact hq h' tk (a.L w' (n + ((aA cs 0).2.2:Nat)) tl' [] pe' vs' ep') t ⟨tl',[],pe',vs',ep',ok,.nil,hvs',Nat.le_trans (nJ _ _) h3,Nat.zero_le _,h5⟩ rfl (fun p hp=>(hn p (a.qL p hp)).1) (keep w' _ _ _ _ _ _ rfl)
   | cons x xs =>
    obtain ⟨t,tl',pvs',pe',rfl,rfl,hps'⟩:=r
    exact hq h' tk (a.L w' n tl' pvs' pe' vs ep) t ⟨tl',pvs',pe',vs,ep,ok,hps',h2,h3,Nat.le_of_succ_le h4,h5⟩ rfl (fun p hp=>(hn p (a.qL p hp)).1) (keep w' _ _ _ _ _ _ rfl)
 ·rintro A s E Q c cs n ps l x t hh hd hu hs @⟨a,cs,n,ps,tl,pvs,pe,vs,ep,ok,h1,h2,h3,h4,h5⟩ hc hp0 hl hnd hq
  have st:=j9 (as:=a.addrs) hs h5
  refine wpAny_call (xo w' a ok.nd n tl pvs pe vs ep x t (by rw [List.size_toArray,gj h1,sizeLine_eq];exact Nat.le_trans hp0 (by decide)) topProg loose mean mg0 mb0 A s _ hh (g.X.keeps st) (fun p hp=>?_) (T.keeps st) (by omega) (by omega) fun v nw h' tk hk hn r=>?_)
  ·rcases a.js p hp with rfl | hp
   ·exact (hc _ (.head _)).1
   ·exact hl p hp
  ·obtain ⟨rfl,tl',pe',rfl⟩:=r
   refine hq h' tk (a.L w' n tl' (pvs ++ [.str x t]) pe' vs ep) ⟨tl',pvs ++ [.str x t],pe',vs,ep,ok,sU h1,h2,h3,by rw [List.length_append,List.length_singleton];lia,h5⟩ rfl (fun p hp=>(hn p (a.qL p hp)).1) fun b o hb hbo=>?_
   by_cases hb2:b = a.c2
   ·subst hb2
    have h1:=(hc _ (.head _)).1
    rw [hbo] at h1
    have h2:=(hn (a.c2,a.oc2) (List.mem_of_getElem? (i:=6) rfl)).1
    rw [h2];exact h1.symm
   ·refine hk b o (fun hm=>?_) hbo
    refine x12 (List.mem_map.mp hm) fun p hp e2=>?_
    rcases a.js p hp with rfl | hp
    ·exact hb2 e2.symm
    ·exact hb (e2 ▸ List.mem_map_of_mem hp)
end
end Mine
end
section
open PySem PySem.W PySem.Spec PySem.Calls PyProof.Rows
set_option backward.match.sparseCases true
namespace Mine
section
variable {hb:Heap} {w:World}
theorem nU {loose:List Str} {mean:ExcName→Option Value} {mg mb:Str→Option Value} (T:Top topProg loose mean mg mb hb) {D:Addr} (hD:∀ o,hb.get? D = some o→o.cls ≠ .type "module"∧∀ es n,o.data = .dict es n→D ≠ mainGlobals∧D ≠ builtinsNs∧D ≠ cStatics) :
  Top topProg loose mean mg mb (hideAll hb [D]):=by
 have ns:∀ {a:Addr} {mm:Str→Option Value},(a = mainGlobals∨a = builtinsNs∨a = cStatics)→hb.Ns a mm→(hideAll hb [D]).Ns a mm:=fun ha ⟨o,es,ep,e,hd,r⟩ =>
  ⟨o,es,ep,hideAll_get _ e fun q=>by
   rw [List.mem_singleton] at q
   have z:=(hD o (q ▸ e)).2 es ep hd
   rcases ha with ha | ha | ha
   ·exact z.1 (q.symm.trans ha)
   ·exact z.2.1 (q.symm.trans ha)
   ·exact z.2.2 (q.symm.trans ha),hd,r⟩
 exact {
  g:=ns (.inl rfl) T.g
  b:=ns (.inr (.inl rfl)) T.b
  nolimit:=let ⟨mc,a,r⟩:=T.nolimit;⟨mc,ns (.inr (.inr rfl)) a,r⟩
  nodigits:=let ⟨mc,a,r⟩:=T.nodigits;⟨mc,ns (.inr (.inr rfl)) a,r⟩
  fn:=fun d hd=>absurd (show d∈([]:List DefRec) from hd) List.not_mem_nil
  own:=fun o ho=>absurd (show o∈([]:List OwnSpec) from ho) List.not_mem_nil
  const:=fun x d e=>by cases (show (none:Option PyData) = some d from e)
  free:=T.free
  builtins:=T.builtins
  tab:=fun d hd=>absurd (show d∈([]:List DefRec) from hd) List.not_mem_nil
  bmain:=let ⟨bm,ob,a1,a2,a3,a4,r⟩:=T.bmain;⟨bm,ob,a1,a2,hideAll_get _ a3 (fun q=>by rw [List.mem_singleton] at q;exact (hD ob (q ▸ a3)).1 a4),a4,r⟩
  seer:=fun e=>absurd (show false = true from e) Bool.false_ne_true }
noncomputable def xx (K:Frag) (c P:Addr):Bool:=match K.lookup c with
 | some ⟨.type T,_,.fields vs,_⟩=>T == "code" && (match (vs[11]?:Option Value) with | some (.ref Q)=>Nat.beq Q P | _=>false) && (match (vs.getD 11 .none:Value) with | .ref Q=>Nat.beq Q P | _=>false) && (match (vs.getD 18 .none:Value) with | .str _ _=>true | _=>false) &&
   (match (vs.getD 7 .none:Value) with | .int _ _=>true | _=>false) && (match (vs.getD 9 .none:Value) with | .bool _=>true | _=>false) && (match (vs.getD 10 .none:Value) with | .int _ _=>true | _=>false) && !Nat.beq c P
 | _=>false
set_option tactic.hygienic true in
theorem kC {K:Frag} {c P:Addr} (e:xx K c P = true) {h:Heap} (X:K.In h):CodeHd h c P:=by
 unfold xx at e
 split at e
 ·rename_i T _ vs _ hl
  simp only [Bool.and_eq_true] at e
  obtain ⟨⟨⟨⟨⟨⟨⟨e0,e1⟩,e2⟩,e3⟩,e4⟩,e5⟩,e6⟩,e7⟩:=e
  obtain rfl:=beq_iff_eq.mp e0
  have hv1:vs[11]? = some (.ref P):=by
   split at e1
   ·rename_i Q q;rw [q,Nat.eq_of_beq_eq_true e1]
   ·exact tf2 e1
  have hv2:vs.getD 11 .none = .ref P:=by
   split at e2
   ·rename_i Q q;rw [q,Nat.eq_of_beq_eq_true e2]
   ·exact tf2 e2
  have hv3:∃ f t,vs.getD 18 .none = .str f t:=by
   split at e3
   ·rename_i f t q;exact ⟨f,t,q⟩
   ·exact tf2 e3
  have hv4:∃ f t,vs.getD 7 .none = .int f t:=by
   split at e4
   ·rename_i f t q;exact ⟨f,t,q⟩
   ·exact tf2 e4
  have hv5:∃ f,vs.getD 9 .none = .bool f:=by
   split at e5
   ·rename_i f q;exact ⟨f,q⟩
   ·exact tf2 e5
  have hv6:∃ f t,vs.getD 10 .none = .int f t:=by
   split at e6
   ·rename_i f t q;exact ⟨f,t,q⟩
   ·exact tf2 e6
  refine x21 hv3 fun f3 t3 hv3=>?_
  refine x21 hv4 fun f4 t4 hv4=>?_
  obtain ⟨f5,hv5⟩:=hv5
  refine x21 hv6 fun f6 t6 hv6=>?_
  exact ⟨_,vs,f3,t3,f4,t4,f5,f6,t6,X _ _ hl,rfl,rfl,hv1,hv2,hv3,hv4,hv5,hv6,fun q=>by subst q;rw [Nat.beq_refl] at e7;exact tf2 e7⟩
 ·exact tf2 e
theorem tT (g:Heap) (X:(kf w.params).In g):CodeHd g 34 30:=kC (by kernel_rfl) X
theorem uE (g:Heap) (X:(kf w.params).In g):CodeHd g 41 37:=kC (by kernel_rfl) X
theorem p9 (g:Heap) (X:(kf w.params).In g):CodeHd g 147 143:=kC (by kernel_rfl) X
theorem iQ {n:Nat}:∀ {k x:Nat} {vs:List Value},ie n k x vs→RVs [] [] (fK n k x) vs
 | 0,x,vs,h=>by
  obtain rfl:=List.length_eq_zero_iff.mp h.1
  exact RVs.nil
 | k + 1,x,vs,h=>by
  obtain ⟨h1,h2⟩:=h
  induction vs using List.casesOn with
  | nil=>injection h1
  | cons v t =>
   obtain ⟨u,e⟩:=h2 0 (Nat.succ_pos _)
   rw [List.getElem?_cons_zero,Nat.mul_zero,Nat.pow_zero,Nat.div_one] at e
   refine so1n e ?_
   refine RVs.cons (RV.i _ _) (iQ ⟨Nat.succ.inj h1,fun i hi=>?_⟩)
   obtain ⟨u',e'⟩:=h2 (i + 1) (Nat.succ_lt_succ hi)
   rw [List.getElem?_cons_succ] at e'
   refine ⟨u', ?_⟩
   rw [e',Nat.div_div_eq_div_mul,← Nat.pow_add,Nat.mul_succ,Nat.add_comm]
noncomputable def dS (l:List PV) (i:Nat):Int:=match l[i]? with
 | some (.int d)=>if d.natAbs < 2 ^ 64 then d else 0
 | _=>0
theorem pD (l:List PV) (i:Nat):(dS l i).natAbs < 2 ^ 64:=by
 unfold dS
 split
 ·split
  ·assumption
  ·decide
 ·decide
theorem lJ {n:Nat} {p:PV} {r:List PV} {x:Int} (e:bw n (p :: r) = some x):∃ d y,p = .int d∧d.natAbs < 2 ^ 64∧bw n r = some y∧x = d + y * 2 ^ n:=by
 induction p using PV.casesOn with
 | int d =>
  have e:(if d.natAbs < 2 ^ 64 then (bw n r).map (fun x=>d + x * 2 ^ n) else none) = some x:=e
  by_cases hd:d.natAbs < 2 ^ 64
  ·rw [if_pos hd] at e
   refine x12 (Option.map_eq_some_iff.mp e) fun y e1 e2=>?_
   exact ⟨d,y,rfl,hd,e1,e2.symm⟩
  ·rw [if_neg hd] at e;exact no1 e
 | _=>exact no1 e
theorem mU {n:Nat} {f g:Nat→Int}:∀ {k a b:Nat},(∀ i,i < k→f (a + i) = g (b + i))→dv n f a k = dv n g b k
 | 0,_,_,_=>rfl
 | k + 1,a,b,h=>by
  refine (?_:f a + dv n f (a + 1) k * 2 ^ n = g b + dv n g (b + 1) k * 2 ^ n)
  rw [mU (k:=k) (a:=a + 1) (b:=b + 1) fun i hi=>?_,show f a = g b from h 0 (Nat.succ_pos _)]
  have:=h (i + 1) (Nat.succ_lt_succ hi)
  rw [show a + 1 + i = a + (i + 1) from by lia,show b + 1 + i = b + (i + 1) from by lia];exact this
theorem lG {n:Nat}:∀ {l:List PV} {x:Int},bw n l = some x→dv n (dS l) 0 l.length = x
 | [],x,e=>by refine so1m e ?_;rfl
 | p :: r,x,e=>by
  obtain ⟨d,y,rfl,hd,e1,rfl⟩:=lJ e
  refine (?_:dS (.int d :: r) 0 + dv n (dS (.int d :: r)) 1 r.length * 2 ^ n = _)
  rw [mU (g:=dS r) (b:=0) fun i _=>?_,lG e1,show dS (.int d :: r) 0 = d from if_pos hd]
  rw [Nat.add_comm,Nat.zero_add];rfl
theorem gm {n:Nat}:∀ {l:List PV} {vs:List Value} {x:Int},bw n l = some x→RVs [] [] l vs→∀ i,i < vs.length→∃ t,vs[i]? = some (.int (dS l i) t)
 | [],vs,x,e,h,i,hi=>by have h:vs = []:=h;subst h;exact absurd hi (Nat.not_lt_zero i)
 | p :: r,vs,x,e,h,i,hi=>by
  obtain ⟨d,y,rfl,hd,e1,rfl⟩:=lJ e
  obtain ⟨v,t,rfl,h1,h2⟩:=h
  obtain ⟨u,rfl⟩:=RV.i' h1
  induction i using Nat.casesOn with
  | zero=>exact ⟨u,by rw [List.getElem?_cons_zero,show dS (.int d :: r) 0 = d from if_pos hd]⟩
  | succ i =>
   obtain ⟨u',e'⟩:=gm e1 h2 i (Nat.lt_of_succ_lt_succ hi)
   exact ⟨u',by rw [List.getElem?_cons_succ,e'];rfl⟩
theorem fD {s:Shared} {b:Addr} (hs:hb.StaysIn s.heap) (h:s.heap.objs.size ≤ b):hb.get? b = none:=by
 cases e:hb.get? b with
 | none=>rfl
 | some o=>exact absurd (Heap.lt_size (hs _ _ e)) (Nat.not_lt.mpr h)
end
end Mine
end
section
open PySem PySem.W PySem.Spec PySem.Calls PyProof.Rows
namespace Mine
section
variable {hb:Heap} {w:World}
theorem er {A:Around} {s:Shared} {E:Value→Shared→Prop} {Q:Value→Shared→Prop} {f:Addr} {vs:List Value} {news:Led} {d u:Nat} {R:Addr→Value→Led→Prop} (g:Gnd w hb) (C:gF pw w (kf w.params) (.ref f) ⟨vs,[]⟩ news d u R) (hh:A.handled = none) (hd:A.depth + d < recursionLimit) (hu:A.units + u < cLine) (hs:hb.StaysIn s.heap)
  (D:Option Addr) (hD:∀ y∈news.map (·.1),some y = D∨hb.get? y = none) (hl:∀ y,D = some y→∃ vs n,s.heap.get? y = some { cls:=.type "list",data:=.seq vs n }) (hn:∀ p∈news,s.heap.get? p.1 = some p.2)
  (h:∀ v news' h' tk',(∀ b o,b ∉ news.map (·.1)→s.heap.get? b = some o→h'.get? b = some o)→(∀ p∈news',h'.get? p.1 = some p.2)→R s.heap.objs.size v news'→Q v { s with heap:=h',toks:=tk' }):wpAny (model pw w) A (call (.ref f) vs) Q E s:=by
 obtain ⟨loose,mean,mg,mb,T⟩:=g.T
 have go:∀ hb':Heap,(kf w.params).In hb'→Top topProg loose mean mg mb hb'→hb'.StaysIn s.heap→(∀ y∈news.map (·.1),hb'.get? y = none)→wpAny (model pw w) A (call (.ref f) vs) Q E s:=fun hb' X T st no=>by
  have st':=j9 st no
  exact wpAny_call (C topProg loose mean mg mb A s _ hh (X.keeps st') hn (T.keeps st') hd hu fun v nw h' tk hk hn' r=>h v nw h' tk hk (fun p hp=>(hn' p hp).1) r)
 induction D using Option.casesOn with
 | none=>exact go hb g.X T hs fun y hy=>by rcases hD y hy with e | e;exact no2 e;exact e
 | some y =>
  obtain ⟨us,n,hy⟩:=hl y rfl
  have hyo:∀ o,hb.get? y = some o→o = { cls:=.type "list",data:=.seq us n }:=fun o e=>by have:=hs _ _ e;rw [hy] at this;exact (Option.some.inj this).symm
  refine go (hideAll hb [y]) (fun b o e=>hideAll_get _ (g.X b o e) fun q=>?_) (nU T fun o e=>?_) (fun b o e=>hs b o (of_hideAll _ e)) fun z hz=>?_
  ·rw [List.mem_singleton] at q
   subst q
   have h1:=hyo o (g.X _ _ e)
   have h2:((kf w.params).all fun p=>match p.2.cls,p.2.data with | .type "list",.seq _ _=>false | _,_=>true) = true:=by kernel_rfl
   have:=List.all_eq_true.mp h2 _ (mem_of_lookupK e)
   rw [h1] at this
   exact absurd this Bool.false_ne_true
  ·rw [hyo o e]
   exact ⟨fun q=>by injection q with q;exact absurd q (by decide),fun es n e=>by injection e⟩
  ·by_cases hzy:z = y
   ·subst hzy;exact hideAll_none _ (.head _)
   ·rcases hD z hz with e | e
    ·(have q1:=so1 e;subst q1);exact absurd rfl hzy
    ·cases q:(hideAll hb [y]).get? z with
     | none=>rfl
     | some o=>have:=of_hideAll _ q;rw [e] at this;exact no1 this
noncomputable def pB (w:World) (hb:Heap) (B:Bas):Bas:={ B with prog:=pw,w:=w,hb:=hb,LX:=LXd hb w,TQ:=TQd hb }
theorem nd3 {t1 t2 t3:Obj} {x:Addr} (h:x ∉ [(30,t1),(37,t2),(143,t3)].map (·.1)):@Ne Nat x 30∧@Ne Nat x 37∧@Ne Nat x 143:=by
 simpa using h
theorem uF (g:Gnd w hb) {B:Bas} {A:Around} {s:Shared} {E:Value→Shared→Prop} {Q:Value→Shared→Prop} {x n:Int} {t u:Tok} {fz T:Led} (P:eC (pB w hb B) A s fz T) (c1:0 ≤ x) (c2:0 < n) (c3:n ≤ 64) (c4:x.natAbs < 2 ^ 400)
  (hq:∀ h' tk new T' D vs m,dC (pB w hb B) s h' fz T new T'→(D,({ cls:=.type "list",data:=.seq vs.toArray m }:Obj))∈new→RVs [] [] (fK n.toNat ((Builtin.Int.intBits x + n.toNat - 1) / n.toNat) x.toNat) vs→Q (.ref D) { s with heap:=h',toks:=tk }) :
  wpAny (model pw w) A (call (.ref 35) [.int x t,.int n u]) Q E s:=by
 obtain ⟨x,rfl⟩:=Int.eq_ofNat_of_zero_le c1
 obtain ⟨n,rfl⟩:=Int.eq_ofNat_of_zero_le (Int.le_of_lt c2)
 have n1:0 < n:=by omega
 have n2:n ≤ 64:=by omega
 have x1:x < 2 ^ 400:=c4
 rw [Int.toNat_natCast,Int.toNat_natCast] at hq
 have hsb:hb.StaysIn s.heap:=P.hb
 obtain ⟨t1,t2,t3,rfl,q1,q2,q3⟩:=P.tq
 have k37:s.heap.get? 37 = some t2:=P.tab _ (.tail _ (.head _))
 have k143:s.heap.get? 143 = some t3:=P.tab _ (.tail _ (.tail _ (.head _)))
 have k30:s.heap.get? 30 = some t1:=P.tab _ (.head _)
 have dep:=P.dep
 have uni:=P.uni
 rcases q1 with rfl | ⟨c,oc,m,hc,hcn,rfl⟩
 ·refine er g (xI w x n t u n1 n2 x1 tT) P.hnd (by omega) (by omega) hsb none (fun y hy=>.inr (by rw [List.mem_singleton.mp hy];exact g.h30)) nofun (fun p hp=>by rw [List.mem_singleton.mp hp];exact k30) fun v nw h' tk hk hn r=>?_
  obtain ⟨D,vs,m,c,oc,t,rfl,rfl,hbD,hcD,dg,hbc,hco,rfl⟩:=r
  have kp:∀ b o,b ≠ 30→s.heap.get? b = some o→h'.get? b = some o:=fun b o hb=>hk b o fun hm=>hb (List.mem_singleton.mp hm)
  refine hq h' tk [(D,listOf vs.toArray m),(c,oc)] [(30,bM c),(37,t2),(143,t3)] D vs m ⟨⟨_,_,_,rfl,.inr ⟨c,oc,.tail _ (.head _),hco,fD hsb hbc,rfl⟩,q2.mono fun p hp=>List.mem_append_right _ hp,q3.mono fun p hp=>List.mem_append_right _ hp⟩,rfl,fun p hp=>?_,fun p hp=>?_,fun b o hb=>kp b o fun e=>hb (e ▸ .head _)⟩ (.head _) (iQ dg)
  ·rcases List.mem_cons.mp hp with rfl | hp
   ·exact hn _ (.tail _ (.tail _ (.head _)))
   ·rcases List.mem_cons.mp hp with rfl | hp
    ·exact kp 37 _ (by decide) k37
    ·rw [List.mem_singleton.mp hp];exact kp 143 _ (by decide) k143
  ·rcases List.mem_cons.mp hp with rfl | hp
   ·exact ⟨hn _ (.head _),hbD⟩
   ·rw [List.mem_singleton.mp hp];exact ⟨hn _ (.tail _ (.head _)),hbc⟩
 ·have off:=nd3 (P.off _ m)
  have kc:=P.fzs _ m
  refine er g (ze w x n t u n1 n2 x1 hc off.1 tT) P.hnd (by omega) (by omega) hsb none (fun y hy=>.inr ?_) nofun (fun p hp=>?_) fun v nw h' tk hk hn r=>?_
  ·rcases List.mem_cons.mp hy with rfl | hy
   ·exact g.h30
   ·rw [List.mem_singleton.mp hy];exact hcn
  ·rcases List.mem_cons.mp hp with rfl | hp
   ·exact k30
   ·rw [List.mem_singleton.mp hp];exact kc
  obtain ⟨D,vs,m',c',oc',t,rfl,rfl,hbD,hcD,dg,rfl,rfl,rfl⟩:=r
  have kp:∀ b o,b ≠ 30→s.heap.get? b = some o→h'.get? b = some o:=fun b o hb e=>by
   by_cases hbc:b = c'
   ·subst hbc
    rw [kc] at e;refine so1m e ?_
    exact hn _ (.tail _ (.head _))
   ·exact hk b o (fun hm=>by
     rcases List.mem_cons.mp hm with rfl | hm
     ·exact hb rfl
     ·exact hbc (List.mem_singleton.mp hm)) e
  refine hq h' tk [(D,listOf vs.toArray m')] [(30,bM c'),(37,t2),(143,t3)] D vs m' ⟨⟨_,_,_,rfl,.inr ⟨c',oc',.tail _ m,hc,hcn,rfl⟩,q2.mono fun p hp=>List.mem_append_right _ hp,q3.mono fun p hp=>List.mem_append_right _ hp⟩,rfl,fun p hp=>?_,fun p hp=>?_,fun b o hb=>kp b o fun e=>hb (e ▸ .head _)⟩ (.head _) (iQ dg)
  ·rcases List.mem_cons.mp hp with rfl | hp
   ·exact hn _ (.tail _ (.tail _ (.head _)))
   ·rcases List.mem_cons.mp hp with rfl | hp
    ·exact kp 37 _ (by decide) k37
    ·rw [List.mem_singleton.mp hp];exact kp 143 _ (by decide) k143
  ·rw [List.mem_singleton.mp hp];exact ⟨hn _ (.head _),hbD⟩
end
end Mine
end
section
open PySem PySem.W PySem.Spec PySem.Calls PyProof.Rows
namespace Mine
section
variable {hb:Heap} {w:World}
theorem sV (g:Gnd w hb) {B:Bas} {A:Around} {s:Shared} {E:Value→Shared→Prop} {Q:Value→Shared→Prop} {n r:Int} {u:Tok} {fz T:Led} {D:Addr} {vs:List Value} {m:Nat} {l:List PV} (P:eC (pB w hb B) A s fz T) (c2:0 < n) (c3:n ≤ 64) (c4:l.length ≤ 400)
  (hD:s.heap.get? D = some { cls:=.type "list",data:=.seq vs.toArray m }) (hDT:D ∉ T.map (·.1)) (hl:RVs [] [] l vs) (hr:bw n.toNat l = some r)
  (hq:∀ h' tk new T' t,dC (pB w hb B) s h' fz T new T'→Q (.int r t) { s with heap:=h',toks:=tk }):wpAny (model pw w) A (call (.ref 42) [.ref D,.int n u]) Q E s:=by
 obtain ⟨n,rfl⟩:=Int.eq_ofNat_of_zero_le (Int.le_of_lt c2)
 have n2:n ≤ 64:=by lia
 rw [Int.toNat_natCast] at hr
 have hsb:hb.StaysIn s.heap:=P.hb
 obtain ⟨t1,t2,t3,rfl,q1,q2,q3⟩:=P.tq
 have k37:s.heap.get? 37 = some t2:=P.tab _ (.tail _ (.head _))
 have k143:s.heap.get? 143 = some t3:=P.tab _ (.tail _ (.tail _ (.head _)))
 have k30:s.heap.get? 30 = some t1:=P.tab _ (.head _)
 have dep:=P.dep
 have uni:=P.uni
 have offD:=nd3 hDT
 have hv:vs.length ≤ 400:=by rw [hl.len];exact c4
 have hz:dv n (dS l) 0 vs.length = r:=by rw [hl.len];exact lG hr
 rcases q2 with rfl | ⟨c,oc,mc,hc,hcn,rfl⟩
 ·refine er g (xw w n u D (dS l) (pD l) vs hv (gm hr hl) m offD.2.1 n2 uE) P.hnd (by omega) (by omega) hsb (some D) (fun y hy=>?_) (fun y e=>by refine so1m e ?_;exact ⟨_,_,hD⟩) (fun p hp=>?_) fun v nw h' tk hk hn r=>?_
  ·rcases List.mem_cons.mp hy with rfl | hy
   ·exact .inr g.h37
   ·rw [List.mem_singleton.mp hy];exact .inl rfl
  ·rcases List.mem_cons.mp hp with rfl | hp
   ·exact k37
   ·rw [List.mem_singleton.mp hp];exact hD
  obtain ⟨t,c,oc,tb,rfl,rfl,hbc,hco,rfl,hc37⟩:=r
  rw [hz]
  have kp:∀ b o,b ≠ 37→s.heap.get? b = some o→h'.get? b = some o:=fun b o hb e=>by
   by_cases hbD:b = D
   ·subst hbD
    rw [hD] at e;refine so1m e ?_
    exact hn _ (.tail _ (.tail _ (.head _)))
   ·exact hk b o (fun hm=>by
     rcases List.mem_cons.mp hm with rfl | hm
     ·exact hb rfl
     ·exact hbD (List.mem_singleton.mp hm)) e
  refine hq h' tk [(c,oc)] [(30,t1),(37,cx c),(143,t3)] t ⟨⟨_,_,_,rfl,q1.mono fun p hp=>List.mem_append_right _ hp,.inr ⟨c,oc,.head _,hco,fD hsb hbc,rfl⟩,q3.mono fun p hp=>List.mem_append_right _ hp⟩,rfl,fun p hp=>?_,fun p hp=>?_,fun b o hb=>kp b o fun e=>hb (e ▸ .tail _ (.head _))⟩
  ·rcases List.mem_cons.mp hp with rfl | hp
   ·exact kp 30 _ (by decide) k30
   ·rcases List.mem_cons.mp hp with rfl | hp
    ·exact hn _ (.tail _ (.head _))
    ·rw [List.mem_singleton.mp hp];exact kp 143 _ (by decide) k143
  ·rw [List.mem_singleton.mp hp];exact ⟨hn _ (.head _),hbc⟩
 ·have off:=nd3 (P.off _ mc)
  have kc:=P.fzs _ mc
  refine er g (xT w n u D (dS l) (pD l) vs hv (gm hr hl) m offD.2.1 n2 hc off.2.1 uE) P.hnd (by omega) (by omega) hsb (some D) (fun y hy=>?_) (fun y e=>by refine so1m e ?_;exact ⟨_,_,hD⟩) (fun p hp=>?_) fun v nw h' tk hk hn r=>?_
  ·rcases List.mem_cons.mp hy with rfl | hy
   ·exact .inr g.h37
   ·rcases List.mem_cons.mp hy with rfl | hy
    ·exact .inl rfl
    ·rw [List.mem_singleton.mp hy];exact .inr hcn
  ·rcases List.mem_cons.mp hp with rfl | hp
   ·exact k37
   ·rcases List.mem_cons.mp hp with rfl | hp
    ·exact hD
    ·rw [List.mem_singleton.mp hp];exact kc
  obtain ⟨t,c',oc',tb,rfl,rfl,rfl,rfl,rfl⟩:=r
  rw [hz]
  have kp:∀ b o,b ≠ 37→s.heap.get? b = some o→h'.get? b = some o:=fun b o hb e=>by
   by_cases hbD:b = D
   ·subst hbD
    rw [hD] at e;refine so1m e ?_
    exact hn _ (.tail _ (.tail _ (.head _)))
   ·by_cases hbc:b = c'
    ·subst hbc
     rw [kc] at e;refine so1m e ?_
     exact hn _ (.head _)
    ·exact hk b o (fun hm=>by
      rcases List.mem_cons.mp hm with rfl | hm
      ·exact hb rfl
      ·rcases List.mem_cons.mp hm with rfl | hm
       ·exact hbD rfl
       ·exact hbc (List.mem_singleton.mp hm)) e
  refine hq h' tk [] [(30,t1),(37,cx c'),(143,t3)] t ⟨⟨_,_,_,rfl,q1.mono fun p hp=>List.mem_append_right _ hp,.inr ⟨c',oc',List.mem_append_right _ mc,hc,hcn,rfl⟩,q3.mono fun p hp=>List.mem_append_right _ hp⟩,rfl,fun p hp=>?_,fun p hp=>(nomatch hp),fun b o hb=>kp b o fun e=>hb (e ▸ .tail _ (.head _))⟩
  rcases List.mem_cons.mp hp with rfl | hp
  ·exact kp 30 _ (by decide) k30
  ·rcases List.mem_cons.mp hp with rfl | hp
   ·exact hn _ (.tail _ (.head _))
   ·rw [List.mem_singleton.mp hp];exact kp 143 _ (by decide) k143
theorem vk {a:Lx} (ok:a.Ok) {w:World} {n:Int} {tl:Tok} {pvs:List Value} {pe:Nat} {vs:List Value} {ep:Nat}:(((a.L w n tl pvs pe vs ep) ++ [(a.c2,a.oc2)]).map (·.1)).Nodup:=by
 have h:[a.x,a.d,a.pb,a.st,a.dx,a.rf,a.c2,a.cell,a.sg].Nodup:=ok.nd
 refine (?_:[a.x,a.d,a.pb,a.st,a.dx,a.rf,a.cell,a.sg,a.c2].Nodup)
 refine (List.Perm.nodup_iff ?_).mp h
 refine .cons _ (.cons _ (.cons _ (.cons _ (.cons _ (.cons _ ?_)))))
 exact (List.Perm.swap _ _ _).trans (.cons _ (List.Perm.swap _ _ _))
theorem nY {a:Lx} {P:Addr→Prop} {w:World} {n:Int} {tl:Tok} {pvs:List Value} {pe:Nat} {vs:List Value} {ep:Nat} (h:∀ y∈a.L w n tl pvs pe vs ep,P y.1) (h2:P a.c2):∀ y∈a.addrs,P y:=fun y hy=>by
 have:y∈(a.N w n tl pvs pe vs ep).map (·.1):=hy
 refine xn this fun p hp=>?_
 rcases a.js p hp with rfl | hp
 ·exact h2
 ·exact h p hp
theorem p6 (g:Gnd w hb) {B:Bas} {A:Around} {s:Shared} {E:Value→Shared→Prop} {Q:Value→Shared→Prop} {x:Str} {t:Tok} {fz T:Led} (P:eC (pB w hb B) A s fz T) (c1:x.length ≤ 1000)
  (hq:∀ h' tk new T' l c,dC (pB w hb B) s h' fz T new T'→(∀ p∈c,p∈new ++ fz)→LXd hb w c x.cps.toList 1 [] l→(∀ p∈l,h'.get? p.1 = some p.2∧s.heap.objs.size ≤ p.1)→((l ++ new).map (·.1)).Nodup→Q (.ref (adr l)) { s with heap:=h',toks:=tk }) :
  wpAny (model pw w) A (call (.ref 148) [.str x t]) Q E s:=by
 have hsb:hb.StaysIn s.heap:=P.hb
 obtain ⟨t1,t2,t3,rfl,q1,q2,q3⟩:=P.tq
 have k37:s.heap.get? 37 = some t2:=P.tab _ (.tail _ (.head _))
 have k143:s.heap.get? 143 = some t3:=P.tab _ (.tail _ (.tail _ (.head _)))
 have k30:s.heap.get? 30 = some t1:=P.tab _ (.head _)
 have dep:=P.dep
 have uni:=P.uni
 have hx:x.cps.size ≤ 1000:=c1
 have hxl:x.cps.toList.length ≤ 1000:=by rw [Array.length_toList];exact hx
 rcases q3 with rfl | ⟨c,oc,mc,hc,hcn,c1,rfl⟩
 ·refine er g (t9 w x t hx p9) P.hnd (by omega) (by omega) hsb none (fun y hy=>.inr (by rw [List.mem_singleton.mp hy];exact g.h143)) nofun (fun p hp=>by rw [List.mem_singleton.mp hp];exact k143) fun v nw h' tk hk hn r=>?_
  obtain ⟨a,tl,vs,ep,tb,rfl,rfl,ok,hvs,hge,c1,rfl,hbc⟩:=r
  have kp:∀ b o,b ≠ 143→s.heap.get? b = some o→h'.get? b = some o:=fun b o hb=>hk b o fun hm=>hb (List.mem_singleton.mp hm)
  refine hq h' tk [(a.c2,a.oc2)] [(30,t1),(37,t2),(143,cR c1 a.c2)] (a.L w 1 tl [] 0 vs ep) [(a.c2,a.oc2)] ⟨⟨_,_,_,rfl,q1.mono fun p hp=>List.mem_append_right _ hp,q2.mono fun p hp=>List.mem_append_right _ hp,.inr ⟨a.c2,a.oc2,.head _,ok.code,fD hsb hbc,c1,rfl⟩⟩,rfl,fun p hp=>?_,fun p hp=>?_,fun b o hb=>kp b o fun e=>hb (e ▸ .tail _ (.tail _ (.head _)))⟩
   (fun p hp=>List.mem_append_left _ hp) ⟨tl,[],0,vs,ep,ok,.nil,hvs,hxl,Nat.zero_le _,nY (fun y hy=>fD hsb (hge y hy)) (fD hsb hbc)⟩ (fun p hp=>⟨hn p (List.mem_append_left _ hp),hge p hp⟩) (vk ok)
  ·rcases List.mem_cons.mp hp with rfl | hp
   ·exact kp 30 _ (by decide) k30
   ·rcases List.mem_cons.mp hp with rfl | hp
    ·exact kp 37 _ (by decide) k37
    ·rw [List.mem_singleton.mp hp];exact hn _ (List.mem_append_right _ (.tail _ (.head _)))
  ·rw [List.mem_singleton.mp hp];exact ⟨hn _ (List.mem_append_right _ (.head _)),hbc⟩
 ·have off:=nd3 (P.off _ mc)
  have kc:=P.fzs _ mc
  refine er g (t8 (c1:=c1) (c2:=c) w x t hx hc p9) P.hnd (by omega) (by omega) hsb none (fun y hy=>.inr ?_) nofun (fun p hp=>?_) fun v nw h' tk hk hn r=>?_
  ·rcases List.mem_cons.mp hy with rfl | hy
   ·exact g.h143
   ·rw [List.mem_singleton.mp hy];exact hcn
  ·rcases List.mem_cons.mp hp with rfl | hp
   ·exact k143
   ·rw [List.mem_singleton.mp hp];exact kc
  obtain ⟨a,tl,vs,ep,tb,rfl,rfl,ok,hvs,hge,rfl,rfl,rfl⟩:=r
  have kp:∀ b o,b ≠ 143→s.heap.get? b = some o→h'.get? b = some o:=fun b o hb e=>by
   by_cases hbc:b = a.c2
   ·subst hbc
    rw [kc] at e;refine so1m e ?_
    exact hn _ (List.mem_append_right _ (.head _))
   ·exact hk b o (fun hm=>by
     rcases List.mem_cons.mp hm with rfl | hm
     ·exact hb rfl
     ·exact hbc (List.mem_singleton.mp hm)) e
  have nd:=vk ok (w:=w) (n:=1) (tl:=tl) (pvs:=[]) (pe:=0) (vs:=vs) (ep:=ep)
  refine hq h' tk [] [(30,t1),(37,t2),(143,cR c1 a.c2)] (a.L w 1 tl [] 0 vs ep) [(a.c2,a.oc2)] ⟨⟨_,_,_,rfl,q1.mono fun p hp=>List.mem_append_right _ hp,q2.mono fun p hp=>List.mem_append_right _ hp,.inr ⟨a.c2,a.oc2,List.mem_append_right _ mc,hc,hcn,c1,rfl⟩⟩,rfl,fun p hp=>?_,fun p hp=>(nomatch hp),fun b o hb=>kp b o fun e=>hb (e ▸ .tail _ (.tail _ (.head _)))⟩
   (fun p hp=>by rw [List.mem_singleton.mp hp];exact List.mem_append_right _ mc) ⟨tl,[],0,vs,ep,ok,.nil,hvs,hxl,Nat.zero_le _,nY (fun y hy=>fD hsb (hge y hy)) hcn⟩ (fun p hp=>⟨hn p (List.mem_append_left _ hp),hge p hp⟩) (by rw [List.append_nil];rw [List.map_append] at nd;exact (List.nodup_append.mp nd).1)
  rcases List.mem_cons.mp hp with rfl | hp
  ·exact kp 30 _ (by decide) k30
  ·rcases List.mem_cons.mp hp with rfl | hp
   ·exact kp 37 _ (by decide) k37
   ·rw [List.mem_singleton.mp hp];exact hn _ (List.mem_append_right _ (.tail _ (.head _)))
theorem gb {a:Nat} {k:jL} (e:lk cfg.prims a = some k):(a = 35∧k = .int2digits)∨(a = 42∧k = .digits2int)∨(a = 148∧k = .lexer):=by
 have m:=cV e
 rcases List.mem_cons.mp m with e | m
 ·(injection e with q1 q2;subst q1;subst q2);exact .inl ⟨rfl,rfl⟩
 ·rcases List.mem_cons.mp m with e | m
  ·(injection e with q1 q2;subst q1;subst q2);exact .inr (.inl ⟨rfl,rfl⟩)
  ·cases List.mem_singleton.mp m;exact .inr (.inr ⟨rfl,rfl⟩)
theorem wG (g:Gnd w hb) {B:Bas} (e6:(pB w hb B).cfg.prims = cfg.prims):ve (pB w hb B):=by
 refine ⟨fun a h=>?_,fun a h=>?_,fun a h=>?_,fun a h=>?_⟩
 ·obtain ⟨k,h⟩:=Option.isSome_iff_exists.mp h
  rw [e6] at h
  rcases gb h with ⟨rfl,_⟩ | ⟨rfl,_⟩ | ⟨rfl,_⟩ <;> exact qz g.X (by kernel_rfl)
 ·rw [e6] at h
  rcases gb h with ⟨rfl,_⟩ | ⟨_,q⟩ | ⟨_,q⟩
  ·exact fun P c1 c2 c3 c4 hq=>uF g P c1 c2 c3 c4 hq
  ·injection q
  ·injection q
 ·rw [e6] at h
  rcases gb h with ⟨_,q⟩ | ⟨rfl,_⟩ | ⟨_,q⟩
  ·injection q
  ·exact fun P c2 c3 c4 hD hT hl hr hq=>sV g P c2 c3 c4 hD hT hl hr hq
  ·injection q
 ·rw [e6] at h
  rcases gb h with ⟨_,q⟩ | ⟨_,q⟩ | ⟨rfl,_⟩
  ·injection q
  ·injection q
  ·exact fun P c1 hq=>p6 g P c1 hq
end
end Mine
end
section
open PySem PySem.W PySem.Spec PySem.Calls PyProof.Rows
namespace Mine
noncomputable def nmF (i:Nat):Str:=match names[i]? with
 | some s=>s
 | none=>⟨#[0,i]⟩
noncomputable def jg:List (List Nat):=[[97],[98],[110],[95,68,73,86,95,76,73,77,73,84],[100,105,118,109,111,100],[112,97,100],[104,97,108,102,95,110],[109,97,115,107],[98,49],[98,50],[113,49],[114],[95,100,105,118,51,110,50,110],[113,50],[97,95,100,105,103,105,116,115],[95,105,110,116,50,100,105,103,105,116,115],[113,95,100,105,103,105,116,115],[97,95,100,105,103,105,116],[114,101,118,101,114,115,101,100],[113,95,100,105,103,105,116],[95,100,105,118,50,110,49,110],[113],[95,100,105,103,105,116,115,50,105,110,116],[105,110,116,95,100,105,118,109,111,100],[95,100,105,118,109,111,100,95,112,111,115],[90,101,114,111,68,105,118,105,115,105,111,110,69,114,114,111,114],[103],[109,97,120,99],[109,97,120],[109,105,110,99],[109,105,110],[115,117,109,99],[114,97,110,103,101,99],[108],[115],[114,99],[103,99],[98,99],[104],[109,50],[109,49],[95,118],[79,78,69,95,84,72,73,82,68],[104,117,101],[79,78,69,95,83,73,88,84,72],[84,87,79,95,84,72,73,82,68],[118],[105],[105,110,116],[102],[112],[116],[102,108,97,103,115],[110,97,109,101,115],[114,97,110,103,101],[102,108,97,103],[67,79,77,80,73,76,69,82,95,70,76,65,71,95,78,65,77,69,83],[104,101,120],[110,117,109,98,101,114],[98,111,120,101,115],[114,111,119,115],[95],[103,114,111,119,110],[114,111,119],[108,101,110],[46,48],[111,110,101],[101,110,117,109,101,114,97,116,101],[99,111,108,117,109,110],[108,101,110,103,116,104],[108,105,110,101],[99,111,117,110,116],[119,111,114,100,115],[119,111,114,100],[108,111,111,115,101],[119,97,105,116,105,110,103],[108,101,110,103,116,104,115],[108,97,115,116],[115,117,109],[115,105,103,110],[115,101,101,100],[115,99,97,108,101],[115,104,97,100,101],[116,111,108,100],[108,101,118,101,108],[115,104,97,114,101],[114,103,98,95,116,111,95,104,108,115],[112,97,114,116],[112,97,105,110,116],[104,108,115,95,116,111,95,114,103,98],[114,103,98,95,116,111,95,104,115,118],[104,115,118,95,116,111,95,114,103,98],[97,98,115],[114,105,109,115],[107,101,112,116],[115,116,114,105,112],[98,101,108,111,119],[99,117,116],[115,99,114,105,112,116],[99,101,108,108,115],[112,108,97,99,101],[115,105,122,101],[95,108,97,119,95,100,105,97,103,114,97,109],[112,97,105,110,116,101,100],[116,101,120,116],[95,108,97,119,95,112,97,105,110,116,101,100],[107,105,110,100],[103,97,112],[109,97,114,107],[110,101,101,100,101,100],[108,101,120,101,114],[95,108,97,119,95,108,101,120,101,114],[114,101,97,100],[112,97,116,104],[115,116,101,112],[95,108,97,119,95,109,97,114,107,115],[104,117,101,115],[115,97,105,100],[112,114,101,116,116,121,95,102,108,97,103,115],[95,108,97,119,95,99,104,97,110,103,101,100],[102,105,103,117,114,101],[95,108,97,119,95,109,105,114,114,111,114,101,100],[105,109,97,103,101],[100,117,101],[108,105,110,101,115],[95,108,97,119,95,114,105,109,115]]
theorem sk:names.map (fun s=>s.cps.toList) = jg:=by kernel_rfl
theorem uS:jg.Nodup:=by decide +kernel
theorem v9:(jg.all fun l=>l.head? != some 0) = true:=by decide +kernel
theorem wb (i j:Nat) (h:nmF i = nmF j):i = j:=by
 have key:∀ {i:Nat} {s:Str},names[i]? = some s→jg[i]? = some s.cps.toList:=fun {i s} e=>by rw [← sk,List.getElem?_map,e];rfl
 have z:∀ {i j:Nat} {s:Str},names[i]? = some s→s ≠ ⟨#[0,j]⟩:=fun {i j s} e q=>by
  have:=List.all_eq_true.mp v9 _ (List.mem_of_getElem? (key e))
  rw [q] at this
  cases this
 unfold nmF at h
 cases ei:names[i]? with
 | none =>
  rw [ei] at h
  cases ej:names[j]? with
  | none=>rw [ej] at h;injection h with h;injection h with h;injection h with _ h;injection h
  | some s=>rw [ej] at h;exact absurd h.symm (z ej)
 | some s =>
  rw [ei] at h
  cases ej:names[j]? with
  | none=>rw [ej] at h;exact absurd h (z ei)
  | some s' =>
   rw [ej] at h
   have h:s = s':=h
   subst h
   have hi:=key ei
   have hj:=key ej
   obtain ⟨hi1,hi2⟩:=List.getElem?_eq_some_iff.mp hi
   obtain ⟨hj1,hj2⟩:=List.getElem?_eq_some_iff.mp hj
   exact (List.getElem_inj uS).mp (hi2.trans hj2.symm)
set_option tactic.hygienic true in
theorem rJ (x:Str) (h:(names.all fun s=>!(s == x)) = true) (h2:∀ i,x ≠ ⟨#[0,i]⟩) (i:Nat):(nmF i == x) = false:=by
 unfold nmF
 split
 ·rename_i s e
  have:=List.all_eq_true.mp h _ (List.mem_of_getElem? e)
  simpa using this
 ·exact beq_eq_false_iff_ne.mpr fun q=>h2 i q.symm
theorem nI {x:Str} (h:(x.cps.toList.head? != some 0) = true) (i:Nat):x ≠ ⟨#[0,i]⟩:=fun q=>by rw [q] at h;cases h
noncomputable abbrev Fl4:=Int × Str × Tok × Tok
noncomputable abbrev mkE (e:Fl4):DictEntry:=⟨hashInt e.1,.int e.1 e.2.2.1,.str e.2.1 e.2.2.2⟩
theorem ki (e:Fl4) (i:Int):Value.isInt i (mkE e).key = (e.1 == i):=rfl
theorem oh (i:Int):∀ (l:List Fl4),(∀ e∈l,e.1 ≠ i)→(l.map mkE).find? (fun e=>Value.isInt i e.key) = none
 | [],_=>rfl
 | e :: r,h=>by
  rw [List.map_cons,List.find?_cons,ki,beq_eq_false_iff_ne.mpr (h e (.head _))]
  exact oh i r fun e' he=>h e' (.tail _ he)
theorem sI {fz:Led} {ad:List Addr}:∀ (l:List Fl4),(l.map (·.1)).Nodup→REs fz ad (l.map fun e=>(e.1,PV.str e.2.1)) fun i=>((l.map mkE).find? fun e=>Value.isInt i e.key).map (·.val)
 | [],_=>fun _=>rfl
 | e :: r,nd=>by
  rw [List.map_cons,List.nodup_cons] at nd
  have hx:∀ e'∈r,e'.1 ≠ e.1:=fun e' he q=>nd.1 (q ▸ List.mem_map_of_mem (f:=(·.1)) he)
  rw [List.map_cons]
  refine And.intro (Exists.intro (.str e.2.1 e.2.2.2) (And.intro (by dsimp only;rw [List.map_cons,List.find?_cons,ki,beq_self_eq_true];rfl) (Exists.intro _ rfl))) ((sI r nd.2).congr fun j=>?_)
  dsimp only
  by_cases hj:j = e.1
  ·rw [if_pos hj,hj,oh e.1 r hx];rfl
  ·rw [if_neg hj,List.map_cons,List.find?_cons,ki,beq_eq_false_iff_ne.mpr (Ne.symm hj)]
noncomputable def jU:List Fl4:=[(1,"OPTIMIZED",356,357),(2,"NEWLOCALS",358,359),(4,"VARARGS",360,361),(8,"VARKEYWORDS",362,363),(16,"NESTED",364,365),(32,"GENERATOR",366,367),(64,"NOFREE",368,369),(128,"COROUTINE",370,371),(256,"ITERABLE_COROUTINE",372,373),(512,"ASYNC_GENERATOR",374,375)]
noncomputable abbrev gJ:Obj:={ cls:=.type "dict",data:=.dict (jU.map mkE).toArray 10 }
theorem tB:(jU.map (·.1)).Nodup:=by decide +kernel
theorem tR (P:Params):(kg P).lookup 92 = some gJ:=by kernel_rfl
theorem tf:ko = .dic (jU.map fun e=>(e.1,PV.str e.2.1)):=by kernel_rfl
theorem tY {fz:Led} {ad:List Addr} (m:(92,gJ)∈fz):RV fz ad ko (.ref 92):=by
 rw [tf]
 refine Exists.intro 92 ⟨gJ,_,rfl,m,⟨rfl,rfl,rfl,_,_,rfl,fun e he=>?_, ?_,fun i=>rfl⟩,(sI jU tB).congr fun i=>?_⟩
 ·rw [List.mem_toArray] at he
  obtain ⟨x,_,rfl⟩:=List.mem_map.mp he
  exact ⟨_,_,rfl,rfl⟩
 ·rw [List.size_toArray,List.length_map,List.length_map];exact Nat.le_refl _
 ·unfold findBy;rw [List.find?_toArray]
structure GlC (w:World) (hb:Heap) (mg mb:Str→Option Value):Prop where
 X:(kf w.params).In hb
 g:hb.Ns mainGlobals mg
 b:∀ x:Str,x ≠ "__name__"→mb x = bootBuiltins x
noncomputable abbrev jZ:Led:=[(92,gJ)]
noncomputable def GlE (mg mb:Str→Option Value) (e:Nat × PV):Prop:=∃ v,(mg (nmF e.1) = some v∨(mg (nmF e.1) = none∧mb (nmF e.1) = some v))∧∀ ad,RV jZ ad e.2 v
section
variable {w:World} {hb:Heap} {mg mb:Str→Option Value}
theorem kP (c:GlC w hb mg mb) {i:Nat} {p:PV} {v:Value} (e:nsIn (kf w.params) mainGlobals (nmF i) = some (some v)) (h:∀ ad,RV jZ ad p v):GlE mg mb (i,p):=⟨v,.inl (mg_of c.X c.g e),h⟩
theorem xy (c:GlC w hb mg mb) {i:Nat} {p:PV} {v:Value} (e:nsIn (kf w.params) mainGlobals (nmF i) = some none) (n:(nmF i == ("__name__":Str)) = false) (q:bootBuiltins (nmF i) = some v) (h:∀ ad,RV jZ ad p v):GlE mg mb (i,p) :=
 ⟨v,.inr ⟨mg_none_of c.X c.g e,(c.b _ (beq_eq_false_iff_ne.mp n)).trans q⟩,h⟩
theorem cu (c:GlC w hb mg mb) {i a:Nat} (e:nsIn (kf w.params) mainGlobals (nmF i) = some (some (.ref a))):GlE mg mb (i,.fn a):=kP c e fun ad=>rfl
theorem gf (c:GlC w hb mg mb) {i:Nat} {n:BI} (e:nsIn (kf w.params) mainGlobals (nmF i) = some none) (z:(nmF i == ("__name__":Str)) = false) (q:bootBuiltins (nmF i) = some (.builtin n.str)):GlE mg mb (i,.bi n):=xy c e z q fun ad=>rfl
theorem l7 (c:GlC w hb mg mb) {i:Nat} {n:TY} (e:nsIn (kf w.params) mainGlobals (nmF i) = some none) (z:(nmF i == ("__name__":Str)) = false) (q:bootBuiltins (nmF i) = some (.type n.str)):GlE mg mb (i,.ty n):=xy c e z q fun ad=>rfl
theorem aB {P:Nat × PV→Prop} {e:Nat × PV} {l:List (Nat × PV)} (h:P e) (t:∀ x∈l,P x):∀ x∈e :: l,P x:=List.forall_mem_cons.mpr ⟨h,t⟩
theorem tv (c:GlC w hb mg mb):∀ e∈uX,GlE mg mb e:=aB (gf c (by kernel_rfl) (by kernel_rfl) (by kernel_rfl)) (aB (kP c (v:=.int 4000 189) (by kernel_rfl) (fun ad=>RV.i _ _)) (aB (cu c (by kernel_rfl)) (aB (cu c (by kernel_rfl)) (aB (cu c (by kernel_rfl)) (aB (cu c (by kernel_rfl)) (aB (cu c (by kernel_rfl)) (aB (l7 c (by kernel_rfl) (by kernel_rfl) (by kernel_rfl)) (aB (gf c (by kernel_rfl) (by kernel_rfl) (by kernel_rfl)) (aB (gf c (by kernel_rfl) (by kernel_rfl) (by kernel_rfl)) (aB (cu c (by kernel_rfl)) (aB (kP c (v:=.float 4599676419421066581 273) (by kernel_rfl) (fun ad=>Exists.intro _ rfl)) (aB (kP c (v:=.float 4595172819793696085 277) (by kernel_rfl) (fun ad=>Exists.intro _ rfl)) (aB (kP c (v:=.float 4604180019048437077 281) (by kernel_rfl) (fun ad=>Exists.intro _ rfl)) (aB (l7 c (by kernel_rfl) (by kernel_rfl) (by kernel_rfl)) (aB (l7 c (by kernel_rfl) (by kernel_rfl) (by kernel_rfl)) (aB (gf c (by kernel_rfl) (by kernel_rfl) (by kernel_rfl)) (aB (kP c (v:=.ref 92) (by kernel_rfl) (fun ad=>tY (.head _))) (aB (gf c (by kernel_rfl) (by kernel_rfl) (by kernel_rfl)) (aB (l7 c (by kernel_rfl) (by kernel_rfl) (by kernel_rfl)) (aB (gf c (by kernel_rfl) (by kernel_rfl) (by kernel_rfl)) (aB (gf c (by kernel_rfl) (by kernel_rfl) (by kernel_rfl)) (aB (cu c (by kernel_rfl)) (aB (cu c (by kernel_rfl)) (aB (cu c (by kernel_rfl)) (aB (cu c (by kernel_rfl)) (aB (cu c (by kernel_rfl)) (aB (cu c (by kernel_rfl)) (aB (cu c (by kernel_rfl)) (aB (cu c (by kernel_rfl)) (aB (cu c (by kernel_rfl)) (aB (cu c (by kernel_rfl)) (aB (cu c (by kernel_rfl)) (aB (cu c (by kernel_rfl)) (nofun))))))))))))))))))))))))))))))))))
end
end Mine
end
section
open PySem PySem.W PySem.Spec PySem.Calls PyProof.Rows
namespace Mine
noncomputable abbrev fnO (n:Str) (s:Stmt) (pm:Value) (c:Addr):Obj:={ cls:=.type "function",data:=.func (fnX n n (fA s) (fBL s) (fS s) [] .none .none .none pm none (.ref c) .none) }
noncomputable def bas (w:World) (hb:Heap) (mg mb:Str→Option Value):Bas:={ prog:=pw,w:=w,nm:=nmF,cfg:=cfg,hb:=hb,mg:=mg,mb:=mb,kfz:=jZ,LX:=LXd hb w,TQ:=TQd hb,fT:=127,fP:=134 }
section
variable {w:World} {hb:Heap} {mg mb:Str→Option Value}
noncomputable def Bnd (n:Str) (s:Stmt) (pm:Value) (c:Addr) (ps:List Str):Prop:=∀ vs:List Value,vs.length = ps.length→bindArgs (fnX n n (fA s) (fBL s) (fS s) [] .none .none .none pm none (.ref c) .none) ⟨vs,[]⟩ = pure (ps.zip vs)
theorem p0 {n:Str} {s:Stmt} {pm:Value} {c:Addr} {x:Str} (h:∀ a,bindArgs (fnX n n (fA s) (fBL s) (fS s) [] .none .none .none pm none (.ref c) .none) ⟨[a],[]⟩ = pure [(x,a)]):Bnd n s pm c [x]:=fun vs hv=>by
 obtain ⟨a,rfl⟩:=tN hv
 exact h a
theorem nr {n:Str} {s:Stmt} {pm:Value} {c:Addr} {x y:Str} (h:∀ a b,bindArgs (fnX n n (fA s) (fBL s) (fS s) [] .none .none .none pm none (.ref c) .none) ⟨[a,b],[]⟩ = pure [(x,a),(y,b)]):Bnd n s pm c [x,y]:=fun vs hv=>by
 obtain ⟨a,b,rfl⟩:=qJ hv
 exact h a b
theorem ky {n:Str} {s:Stmt} {pm:Value} {c:Addr} {x y z:Str} (h:∀ a b d,bindArgs (fnX n n (fA s) (fBL s) (fS s) [] .none .none .none pm none (.ref c) .none) ⟨[a,b,d],[]⟩ = pure [(x,a),(y,b),(z,d)]):Bnd n s pm c [x,y,z]:=fun vs hv=>by
 obtain ⟨a,b,d,rfl⟩:=qK hv
 exact h a b d
theorem Bz {n:Str} {s:Stmt} {pm:Value} {c:Addr} {x y z u:Str} (h:∀ a b d e,bindArgs (fnX n n (fA s) (fBL s) (fS s) [] .none .none .none pm none (.ref c) .none) ⟨[a,b,d,e],[]⟩ = pure [(x,a),(y,b),(z,d),(u,e)]):Bnd n s pm c [x,y,z,u]:=fun vs hv=>by
 obtain ⟨a,b,d,e,rfl⟩:=uK hv
 exact h a b d e
structure FdC (fd:FD) (s:Stmt):Prop where
 sc:fS s = fd.sc.aO nmF
 body:fBL s = CS.cq nmF fd.body
 kinds:(fd.params.all fun x=>lk fd.sc.names x.1 == some .local || lk fd.sc.names x.1 == some .cell) = true
 pnd:(fd.params.map (·.1)).Nodup
 nnd:(fd.sc.names.map (·.1)).Nodup
theorem bW (Y:(kg w.params).In hb) {a c:Addr} {fd:FD} {s:Stmt} {n:Str} {pm:Value} (ho:(kg w.params).lookup a = some (fnO n s pm c)) (hc:codeIn (kg w.params) (.ref c) n = true) (d:FdC fd s) (hbd:Bnd n s pm c (fd.params.map fun x=>nmF x.1)):bZ (bas w hb mg mb) a fd:=by
 obtain ⟨d1,d2,d3,d4,d5⟩:=d
 refine ⟨⟨_,_,Y _ _ ho,rfl,d1,congrArg FuncBody.stmts d2,codeRec_of Y hc,rfl,rfl,rfl,fun vs hv=>hbd vs (by rw [List.length_map];exact hv)⟩,d3,d4,d5⟩
theorem rn:FdC hU (stm 2):=⟨by kernel_rfl,by kernel_rfl,by kernel_rfl,by decide +kernel,by decide +kernel⟩
theorem mK:FdC eF (stm 6):=⟨by kernel_rfl,by kernel_rfl,by kernel_rfl,by decide +kernel,by decide +kernel⟩
theorem ny:FdC dk (stm 7):=⟨by kernel_rfl,by kernel_rfl,by kernel_rfl,by decide +kernel,by decide +kernel⟩
theorem nj:FdC eD (stm 12):=⟨by kernel_rfl,by kernel_rfl,by kernel_rfl,by decide +kernel,by decide +kernel⟩
theorem nX:FdC eJ (stm 13):=⟨by kernel_rfl,by kernel_rfl,by kernel_rfl,by decide +kernel,by decide +kernel⟩
theorem d_v:FdC f_v (stm 14):=⟨by kernel_rfl,by kernel_rfl,by kernel_rfl,by decide +kernel,by decide +kernel⟩
theorem mF:FdC ez (stm 15):=⟨by kernel_rfl,by kernel_rfl,by kernel_rfl,by decide +kernel,by decide +kernel⟩
theorem nN:FdC eL (stm 16):=⟨by kernel_rfl,by kernel_rfl,by kernel_rfl,by decide +kernel,by decide +kernel⟩
theorem j5:FdC dw (stm 19):=⟨by kernel_rfl,by kernel_rfl,by kernel_rfl,by decide +kernel,by decide +kernel⟩
theorem sJ (Y:(kg w.params).In hb):bZ (bas w hb mg mb) 21 hU:=bW (n:="_div2n1n") (pm:=.str "cpy313._pylong" 187) (c:=20) (s:=stm 2) Y (by kernel_rfl) (by kernel_rfl) rn (ky fun _ _ _=>by kernel_rfl)
theorem mS (Y:(kg w.params).In hb):bZ (bas w hb mg mb) 49 eF:=bW (n:="_divmod_pos") (pm:=.str "cpy313._pylong" 187) (c:=48) (s:=stm 6) Y (by kernel_rfl) (by kernel_rfl) mK (nr fun _ _=>by kernel_rfl)
theorem mB (Y:(kg w.params).In hb):bZ (bas w hb mg mb) 56 dk:=bW (n:="int_divmod") (pm:=.str "cpy313._pylong" 187) (c:=55) (s:=stm 7) Y (by kernel_rfl) (by kernel_rfl) ny (nr fun _ _=>by kernel_rfl)
theorem my (Y:(kg w.params).In hb):bZ (bas w hb mg mb) 63 eD:=bW (n:="rgb_to_hls") (pm:=.str "cpy313.colorsys" 269) (c:=62) (s:=stm 12) Y (by kernel_rfl) (by kernel_rfl) nj (ky fun _ _ _=>by kernel_rfl)
theorem nZ (Y:(kg w.params).In hb):bZ (bas w hb mg mb) 70 eJ:=bW (n:="hls_to_rgb") (pm:=.str "cpy313.colorsys" 269) (c:=69) (s:=stm 13) Y (by kernel_rfl) (by kernel_rfl) nX (ky fun _ _ _=>by kernel_rfl)
theorem o_v (Y:(kg w.params).In hb):bZ (bas w hb mg mb) 77 f_v:=bW (n:="_v") (pm:=.str "cpy313.colorsys" 269) (c:=76) (s:=stm 14) Y (by kernel_rfl) (by kernel_rfl) d_v (ky fun _ _ _=>by kernel_rfl)
theorem nq (Y:(kg w.params).In hb):bZ (bas w hb mg mb) 84 ez:=bW (n:="rgb_to_hsv") (pm:=.str "cpy313.colorsys" 269) (c:=83) (s:=stm 15) Y (by kernel_rfl) (by kernel_rfl) mF (ky fun _ _ _=>by kernel_rfl)
theorem m8 (Y:(kg w.params).In hb):bZ (bas w hb mg mb) 91 eL:=bW (n:="hsv_to_rgb") (pm:=.str "cpy313.colorsys" 269) (c:=90) (s:=stm 16) Y (by kernel_rfl) (by kernel_rfl) nN (ky fun _ _ _=>by kernel_rfl)
theorem kI (Y:(kg w.params).In hb):bZ (bas w hb mg mb) 99 dw:=bW (n:="pretty_flags") (pm:=.str "cpy313.dis" 354) (c:=98) (s:=stm 19) Y (by kernel_rfl) (by kernel_rfl) j5 (p0 fun _=>by kernel_rfl)
theorem lY:FdC aM (stm 24):=⟨by kernel_rfl,by kernel_rfl,by kernel_rfl,by decide +kernel,by decide +kernel⟩
theorem lX:FdC cg (stm 25):=⟨by kernel_rfl,by kernel_rfl,by kernel_rfl,by decide +kernel,by decide +kernel⟩
theorem oy:FdC cU (stm 26):=⟨by kernel_rfl,by kernel_rfl,by kernel_rfl,by decide +kernel,by decide +kernel⟩
theorem lP:FdC bz (stm 27):=⟨by kernel_rfl,by kernel_rfl,by kernel_rfl,by decide +kernel,by decide +kernel⟩
theorem km:FdC aR (stm 28):=⟨by kernel_rfl,by kernel_rfl,by kernel_rfl,by decide +kernel,by decide +kernel⟩
theorem qe:FdC dX (stm 29):=⟨by kernel_rfl,by kernel_rfl,by kernel_rfl,by decide +kernel,by decide +kernel⟩
theorem Al:FdC bC (stm 30):=⟨by kernel_rfl,by kernel_rfl,by kernel_rfl,by decide +kernel,by decide +kernel⟩
theorem lU (Y:(kg w.params).In hb):bZ (bas w hb mg mb) 153 aM:=bW (n:="_law_diagram") (pm:=.str "law_wc0018_02" 457) (c:=152) (s:=stm 24) Y (by kernel_rfl) (by kernel_rfl) lY (nr fun _ _=>by kernel_rfl)
theorem lQ (Y:(kg w.params).In hb):bZ (bas w hb mg mb) 158 cg:=bW (n:="_law_painted") (pm:=.str "law_wc0018_02" 457) (c:=157) (s:=stm 25) Y (by kernel_rfl) (by kernel_rfl) lX (p0 fun _=>by kernel_rfl)
theorem oN (Y:(kg w.params).In hb):bZ (bas w hb mg mb) 163 cU:=bW (n:="_law_marks") (pm:=.str "law_wc0018_02" 457) (c:=162) (s:=stm 26) Y (by kernel_rfl) (by kernel_rfl) oy (nr fun _ _=>by kernel_rfl)
theorem lO (Y:(kg w.params).In hb):bZ (bas w hb mg mb) 168 bz:=bW (n:="_law_changed") (pm:=.str "law_wc0018_02" 457) (c:=167) (s:=stm 27) Y (by kernel_rfl) (by kernel_rfl) lP (Bz fun _ _ _ _=>by kernel_rfl)
theorem j0 (Y:(kg w.params).In hb):bZ (bas w hb mg mb) 173 aR:=bW (n:="_law_mirrored") (pm:=.str "law_wc0018_02" 457) (c:=172) (s:=stm 28) Y (by kernel_rfl) (by kernel_rfl) km (nr fun _ _=>by kernel_rfl)
theorem qf (Y:(kg w.params).In hb):bZ (bas w hb mg mb) 178 dX:=bW (n:="_law_rims") (pm:=.str "law_wc0018_02" 457) (c:=177) (s:=stm 29) Y (by kernel_rfl) (by kernel_rfl) qe (p0 fun _=>by kernel_rfl)
theorem AN (Y:(kg w.params).In hb):bZ (bas w hb mg mb) 183 bC:=bW (n:="law") (pm:=.str "law_wc0018_02" 457) (c:=182) (s:=stm 30) Y (by kernel_rfl) (by kernel_rfl) Al (p0 fun _=>by kernel_rfl)
theorem xC (Y:(kg w.params).In hb):∀ e∈xF,bZ (bas w hb mg mb) e.1 e.2:=List.forall_mem_cons.mpr ⟨sJ Y,List.forall_mem_cons.mpr ⟨mS Y,List.forall_mem_cons.mpr ⟨mB Y,List.forall_mem_cons.mpr ⟨my Y,List.forall_mem_cons.mpr ⟨nZ Y,List.forall_mem_cons.mpr ⟨o_v Y,List.forall_mem_cons.mpr ⟨nq Y,List.forall_mem_cons.mpr ⟨m8 Y,List.forall_mem_cons.mpr ⟨kI Y,List.forall_mem_cons.mpr ⟨lU Y,List.forall_mem_cons.mpr ⟨lQ Y,List.forall_mem_cons.mpr ⟨oN Y,List.forall_mem_cons.mpr ⟨lO Y,List.forall_mem_cons.mpr ⟨j0 Y,List.forall_mem_cons.mpr ⟨qf Y,nofun⟩⟩⟩⟩⟩⟩⟩⟩⟩⟩⟩⟩⟩⟩⟩
theorem wF:(kg w.params).lookup sysModules = some ((Obj.mk (Value.type "dict") none (Data.dict #[(DictEntry.mk (PyData.keyHash w.params (Str.ofString "builtins")) (Value.str (Str.ofString "builtins") 162) (Value.ref 4)),(DictEntry.mk (PyData.keyHash w.params (Str.ofString "__main__")) (Value.str (Str.ofString "__main__") 163) (Value.ref 5))] 2) #[])):=by kernel_rfl
theorem wN (g:Gnd w hb) (T:∃ loose mean,Top topProg loose mean mg mb hb):Base (bas w hb mg mb):=by
 refine x21 T fun loose mean T=>?_
 exact {
  fns:=fun a fd h=>xC g.Y (a,fd) (cV h)
  prim:=wG (B:=bas w hb mg mb) g rfl
  inj:=wb
  dbg:=rJ _ (by kernel_rfl) (nI (by kernel_rfl))
  cld:=rJ _ (by kernel_rfl) (nI (by kernel_rfl))
  g:=T.g
  b:=T.b
  lim:=T.nolimit
  mods:=⟨_,g.Y sysModules _ wF⟩
  glob:=fun i p h=>tv ⟨g.X,T.g,T.builtins⟩ (i,p) (cV h)
  tq:=fun fz fz' T h x=>TQd.mono h x
  lexc:=xg g ⟨rfl,rfl,rfl,rfl,rfl,rfl⟩ }
end
end Mine
end
section
open PySem PySem.W PySem.Spec PySem.Calls PyProof.Rows
namespace Mine
set_option tactic.hygienic true in
theorem sY (script:List Int) (h:script.length ≤ 63):∃ μ,bV (ae cfg 60) bC [iL script] 0 [] = some (.bool true,μ):=by
 have e:(match bV (ae cfg 60) bC [iL script] 0 [] with
   | some (v,μ')=>(match if (μ'.take 0).all (dO 0) then frz 0 μ' 8 v else none with
    | some v'=>some (v',μ'.take 0)
    | none=>none)
   | none=>none) = some (PV.bool true,[]):=rP 0 script h
 split at e
 ·rename_i v μ' hb
  refine ⟨μ', ?_⟩
  rw [hb]
  split at e
  ·rename_i v' hf
   cases e
   have hf:frz 0 μ' 8 v = some (.bool true):=hf
   have:v = .bool true:=by
    induction v using PV.casesOn with
    | bool b=>cases hf;rfl
    | tup l =>
     have hf:(cP (frz 0 μ' 7) l).map PV.tup = some (.bool true):=hf
     cases q:cP (frz 0 μ' 7) l <;> rw [q] at hf <;> cases hf
    | lst l =>
     have hf:(if clo.all 0 l then some (PV.lst l) else (cP (frz 0 μ' 7) l).map PV.lst) = some (.bool true):=hf
     split at hf
     ·cases hf
     ·cases q:cP (frz 0 μ' 7) l <;> rw [q] at hf <;> cases hf
    | dic l =>
     have hf:(if clo.allD 0 l then some (PV.dic l) else (dN (frz 0 μ' 7) l).map PV.dic) = some (.bool true):=hf
     split at hf
     ·cases hf
     ·cases q:dN (frz 0 μ' 7) l <;> rw [q] at hf <;> cases hf
    | ref i =>
     have hf:(match μ'[i]? with
      | some (.lst l)=>(cP (frz 0 μ' 7) l).map PV.lst
      | some (.dic l)=>(dN (frz 0 μ' 7) l).map PV.dic
      | _=>none) = some (.bool true):=hf
     split at hf
     ·rename_i l _
      cases q:cP (frz 0 μ' 7) l <;> rw [q] at hf <;> cases hf
     ·rename_i l _
      cases q:dN (frz 0 μ' 7) l <;> rw [q] at hf <;> cases hf
     ·cases hf
    | _=>cases hf
   rw [this]
  ·cases e
 ·cases e
theorem mq:∀ {xs:List WData},WShape.hasItems [] xs .int = true→∃ l:List Int,xs = l.map .int
 | [],_=>⟨[],rfl⟩
 | x :: xs,h=>by
  obtain ⟨h1,h2⟩:=Bool.and_eq_true_iff.mp (show (WShape.has [] x .int && WShape.hasItems [] xs .int) = true from h)
  obtain ⟨l,rfl⟩:=mq h2
  induction x using PySem.W.WData.casesOn with
  | int i=>exact ⟨i :: l,rfl⟩
  | _=>cases h1
noncomputable abbrev rw1:OpenLaw:=PySem.Challenge.rw_wc0018_02
set_option backward.match.sparseCases true in
theorem sD {args:List WData} (h:rw1.row.claim.pre args = true):∃ l:List Int,args = [.list (l.map .int)]∧l.length ≤ 63:=by
 obtain ⟨h1,h2⟩:=pre_splitW h
 obtain ⟨d,r,rfl,h3,h4⟩:=hasAllW_cons h1
 obtain rfl:=hasAllW_nil h4
 induction d using PySem.W.WData.casesOn with
 | list xs =>
  have h3:(WShape.hasItems [] xs .int || false) = true:=h3
  rw [Bool.or_false] at h3
  obtain ⟨l,rfl⟩:=mq h3
  refine ⟨l,rfl,Nat.le_of_not_lt fun hl=>?_⟩
  have e1:WTm.value [] (.len (.arg 0)) { args:=[.list (l.map .int)] } = some (.int (l.length:Int)):=by
   refine (?_:some (WData.int (((l.map WData.int).length:Nat):Int)) = _)
   rw [List.length_map]
  have e2:WTm.value [] (.lt (.lit (.int 63)) (.len (.arg 0))) { args:=[.list (l.map .int)] } = some (.bool true):=by
   unfold WTm.value
   rw [e1]
   refine (?_:some (WData.bool (decide ((63:Int) < (l.length:Int)))) = _)
   rw [decide_eq_true (by lia)]
  have e3:WTm.value [] (.and (.not (.lt (.lit (.int 63)) (.len (.arg 0)))) (.lit (.bool true))) { args:=[.list (l.map .int)] } = some (.bool false):=by
   unfold WTm.value
   rw [show WTm.value [] (.not (.lt (.lit (.int 63)) (.len (.arg 0)))) { args:=[.list (l.map .int)] } = some (.bool false) from by unfold WTm.value;rw [e2];rfl]
  have h2:(match WTm.value [] (.and (.not (.lt (.lit (.int 63)) (.len (.arg 0)))) (.lit (.bool true))) { args:=[.list (l.map .int)] } with
   | some (.bool true)=>true
   | _=>false) = true:=h2
  rw [e3] at h2
  cases h2
 | _=>cases h3
theorem pq {P:Params} {h:Heap}:∀ {l:List Int} {vs:List Value} {fz:Led} {ad:List Addr},WellAll P h vs (l.map .int)→RVs fz ad (l.map .int) vs
 | [],_,_,_,w=>by cases w;exact RVs.nil
 | i :: l,_,_,_,w=>by
  cases w with
  | cons a b =>
   cases a with
   | int _ t=>exact RVs.cons (RV.i _ _) (pq b)
noncomputable abbrev qp:List (Addr × Addr):=[(34,30),(41,37),(147,143)]
noncomputable def hbF (h:Heap):Heap:=hideAll (ghostOf h qp) [6]
section
variable {w:World} {h:Heap}
theorem w5 (h:Heap) {b:Addr} {o:Obj} (e:h.get? b = some o) (n:b ∉ [6,30,37,143]):(hbF h).get? b = some o:=by
 simp only [List.mem_cons,List.not_mem_nil,or_false,not_or] at n
 refine hideAll_get _ (hideAll_get _ e fun q=>?_) fun q=>n.1 (List.mem_singleton.mp q)
 have q:b∈[30,37,143]:=q
 simp only [List.mem_cons,List.not_mem_nil,or_false] at q
 rcases q with q | q | q
 ·exact n.2.1 q
 ·exact n.2.2.1 q
 ·exact n.2.2.2 q
theorem wC {b:Addr} {o:Obj} (e:(hbF h).get? b = some o):h.get? b = some o:=of_hideAll _ (of_hideAll _ e)
theorem jC {b:Addr} (m:b∈[6,30,37,143]):(hbF h).get? b = none:=by
 rcases List.mem_cons.mp m with rfl | m
 ·exact hideAll_none _ (.head _)
 ·cases q:(hbF h).get? b with
  | none=>rfl
  | some o=>have:=of_hideAll _ q;rw [show (ghostOf h qp).get? b = none from hideAll_none _ m] at this;cases this
theorem o8 {K:Frag} (X:K.In h) (d:((K.map (·.1)).all fun x=>![6,30,37,143].contains x) = true):K.In (hbF h):=fun a o e=>w5 h (X a o e) fun m=>by
 have:=List.all_eq_true.mp d a (List.mem_map_of_mem (f:=(·.1)) (mem_of_lookupK e))
 rw [List.contains_iff_mem.mpr m] at this
 cases this
theorem wz (X:(kf w.params).In h) (Z:kt.In h):TabsAt qp h:=fun q hq=>by
 rcases List.mem_cons.mp hq with rfl | hq
 ·exact ⟨tT h X,Z 30 _ rfl⟩
 ·rcases List.mem_cons.mp hq with rfl | hq
  ·exact ⟨uE h X,Z 37 _ rfl⟩
  ·rw [List.mem_singleton.mp hq];exact ⟨p9 h X,Z 143 _ rfl⟩
end
theorem nF {w:World} {h:Heap} (X:(kh w.params).In h):(kf w.params).In h∧(kg w.params).In h∧kt.In h :=
 have Y:(kg w.params ++ kt:Frag).In h:=nK X (by kernel_rfl)
 ⟨pC X,pC Y,nK Y (by kernel_rfl)⟩
noncomputable def Bf:Env:=envX "law" (fS (stm 30)) 6 183 (.ref 182) []
noncomputable def yR (B:Bas):Ctx:={ toBas:=B,A:=callerA,env:=Bf,h₀:=B.hb }
theorem mP {hb:Heap} {full:Addr→Obj→Prop} {q:Str} {fz:Led} {t:Obj} (hf:∀ c t,full c t→∃ ps,t = tabObj ps) (x:iU hb full q fz t):∃ ps,t = tabObj ps:=by
 rcases x with rfl | ⟨c,_,_,_,_,f⟩
 ·exact ⟨_,rfl⟩
 ·exact hf c t f
set_option maxHeartbeats 4000000 in
theorem ua (w:World) (s₀ s₁:Shared) (mg mb:Str→Option Value) (X:(kh w.params).In s₁.heap) {p:Program} {loose:List Str} {mean:ExcName→Option Value} (T:Top p loose mean mg mb s₁.heap) (hg:s₁.gens = #[]) (l:List Int) (hl:l.length ≤ 63) (vals:List Value) (hw:WellAll w.params s₁.heap vals [.list (l.map .int)]) :
  codeAny (model pw w) callerA (.call (.ref 183) ⟨vals,[]⟩) (GoodWG rw1.row.claim (classAt s₀.heap) (ExcName.means s₀.heap) [.list (l.map .int)] s₁) s₁:=by
 refine x03 (nF X) fun X1 X2 X3=>?_
 have hT:=wz X1 X3
 have k6:=X3 6 _ rfl
 have T':=nU (ghost_top hT T) (D:=6) fun o e=>by
  have:=of_hideAll _ e
  rw [k6] at this;cases this
  exact ⟨fun q=>by injection q with q;exact absurd q (by decide),fun es n e=>⟨by decide,by decide,by decide⟩⟩
 have T':Top topProg _ mean mg mb (hbF s₁.heap):=T'
 have G:Gnd w (hbF s₁.heap):=⟨o8 X1 (by kernel_rfl),o8 X2 (by kernel_rfl),⟨_,_,_,_,T'⟩,jC (.tail _ (.head _)),jC (.tail _ (.tail _ (.head _))),jC (.tail _ (.tail _ (.tail _ (.head _))))⟩
 have Bs:Base (bas w (hbF s₁.heap) mg mb):=wN G ⟨_,_,T'⟩
 cases hw with
 | cons hw0 hw1 =>
 cases hw1
 cases hw0 with
 | @list a vs _ ha hvs =>
 have g:Good (yR (bas w (hbF s₁.heap) mg mb)) ⟨[],[],0⟩ 61:=⟨Bs,fun _ _ e=>e,rfl,rfl,rfl,fun i x e=>(by cases e),rfl,(by refine (?_:callerA.depth + 61 + 40 < _);decide),(by refine (?_:callerA.units + 3 * 61 + 400 < _);decide)⟩
 have n6:∀ {b o},s₁.heap.get? b = some o→(o.cls ≠ .type "dict"∧o.cls ≠ .none)→b ∉ [6,30,37,143]:=fun {b o} e hc m=>by
  rcases List.mem_cons.mp m with rfl | m
  ·rw [k6] at e;cases e;exact hc.1 rfl
  ·rcases List.mem_cons.mp m with rfl | m
   ·rw [X3 30 _ rfl] at e;cases e;exact hc.2 rfl
   ·rcases List.mem_cons.mp m with rfl | m
    ·rw [X3 37 _ rfl] at e;cases e;exact hc.2 rfl
    ·obtain rfl:=List.mem_singleton.mp m
     rw [X3 143 _ rfl] at e;cases e;exact hc.2 rfl
 have h92:s₁.heap.get? 92 = some gJ:=X2 92 _ (tR _)
 have q:Rep (yR (bas w (hbF s₁.heap) mg mb)) ⟨[],[],0⟩ [] [] { fz:=(a,{ cls:=.type "list",data:=.seq vs.toArray }) :: jZ,tab:=[(30,tabObj #[]),(37,tabObj #[]),(143,tabObj #[])],hid:=[],led:=[] } s₁.heap:=by
  refine ⟨⟨fun _=>none,⟨_,_,_,k6,rfl,fun e he=>absurd he (by simp),fun _=>rfl⟩,fun i p e=>by cases e⟩,fun b o e=>wC e,fun p hp=>?_,fun p hp=>?_, ?_,fun b hb=>jC hb,fun p hp=>?_,rfl,⟨_,_,_,rfl,.inl rfl,.inl rfl,.inl rfl⟩,fun p hp=>.tail _ hp,fun i id e=>by cases e⟩
  ·rcases List.mem_cons.mp hp with rfl | hp
   ·exact ha
   ·rw [List.mem_singleton.mp hp];exact h92
  ·have hp:p∈[(30,tabObj #[]),(37,tabObj #[]),(143,tabObj #[])]:=hp
   rcases List.mem_cons.mp hp with rfl | hp
   ·exact X3 30 _ rfl
   ·rcases List.mem_cons.mp hp with rfl | hp
    ·exact X3 37 _ rfl
    ·rw [List.mem_singleton.mp hp];exact X3 143 _ rfl
  ·refine (?_:[6,30,37,143].Nodup)
   decide
  ·refine (?_:p.1 ∉ [6,30,37,143])
   rcases List.mem_cons.mp hp with rfl | hp
   ·exact n6 ha ⟨fun q=>by injection q with q;exact absurd q (by decide),nofun⟩
   ·rw [List.mem_singleton.mp hp];decide
 obtain ⟨μ,hb⟩:=sY l hl
 refine i7 (k:=60) (r:=ae cfg 60) (μ₁:=[]) (lim:=0) g (fun A' env' h' W sc' g'=>kW _ 60 _ sc' rfl g') (fd:=bC) (AN G.Y) q k6 (W₁:={ fz:=(a,{ cls:=.type "list",data:=.seq vs.toArray }) :: jZ,tab:=[(30,tabObj #[]),(37,tabObj #[]),(143,tabObj #[])],hid:=[(6,{ cls:=.type "dict",data:=.dict #[] 0 })],led:=[] }) rfl rfl ?_ rfl (args:=[iL l]) ?_ hb fun A' env' x h' tk sc' loc' W' q' l' hx=>?_
 ·exact List.perm_middle
 ·exact RVs.cons (Exists.intro a ⟨ _,vs,rfl,.head _,⟨0,rfl⟩,pq hvs⟩) RVs.nil
 ·have hx:x = .bool true:=hx
  subst hx
  refine x34 q'.tabs fun t1 t2 t3 ht a1 a2 a3=>?_
  have all:=q'.all
  obtain ⟨p1,e1⟩:=mP (fun c t e=>⟨_,e⟩) a1
  obtain ⟨p2,e2⟩:=mP (fun c t e=>⟨_,e⟩) a2
  obtain ⟨p3,e3⟩:=mP (fun c t e=>let ⟨_,e⟩:=e;⟨_,e⟩) a3
  subst e1;subst e2;subst e3
  have at30:h'.get? 30 = some (tabObj p1):=all (30,tabObj p1) (List.mem_append_left _ (by rw [ht];exact .head _))
  have at37:h'.get? 37 = some (tabObj p2):=all (37,tabObj p2) (List.mem_append_left _ (by rw [ht];exact .tail _ (.head _)))
  have at143:h'.get? 143 = some (tabObj p3):=all (143,tabObj p3) (List.mem_append_left _ (by rw [ht];exact .tail _ (.tail _ (.head _))))
  have at6:h'.get? 6 = some { cls:=.type "dict",data:=.dict #[] 0 }:=all (6,_) (List.mem_append_right _ (List.mem_append_left _ (by rw [l'.hid];exact .head _)))
  have tabs:∀ {c b:Addr} {ps:Array Value},CodeHd s₁.heap c b∧s₁.heap.get? b = some (tabObj #[])→h'.get? b = some (tabObj ps)→∀ o,s₁.heap.get? b = some o→asItWas s₁.heap h' b o:=fun ⟨c1,c2⟩ e o eo=>by
   rw [c2] at eo;cases eo
   exact .inr (.inl ⟨(c1.tab c2).isCodeTable,rfl,#[],_,rfl,by rw [Array.empty_append];exact e⟩)
  have rest:∀ b o,b ∉ [6,30,37,143]→s₁.heap.get? b = some o→h'.get? b = some o:=fun b o hn e=>q'.keep b o (hideAll_get _ e hn)
  have old:∀ b o,s₁.heap.get? b = some o→asItWas s₁.heap h' b o∧∃ o',h'.get? b = some o':=fun b o e=>by
   by_cases hn:b∈[6,30,37,143]
   ·rcases List.mem_cons.mp hn with rfl | hn
    ·rw [k6] at e;cases e;exact ⟨.inl at6,_,at6⟩
    ·rcases List.mem_cons.mp hn with rfl | hn
     ·exact ⟨tabs (hT _ (.head _)) at30 o e,_,at30⟩
     ·rcases List.mem_cons.mp hn with rfl | hn
      ·exact ⟨tabs (hT _ (.tail _ (.head _))) at37 o e,_,at37⟩
      ·obtain rfl:=List.mem_singleton.mp hn
       exact ⟨tabs (hT _ (.tail _ (.tail _ (.head _)))) at143 o e,_,at143⟩
   ·exact ⟨.inl (rest b o hn e),_,rest b o hn e⟩
  exact ⟨.inl ⟨.bool true,.bool true,[],rfl,fun _=>rfl,.bool true,(by kernel_rfl),fun _=>⟨List.nodup_nil,nofun⟩⟩,⟨fun b o e=>(old b o e).1,fun b o e=>(old b o e).2⟩,rfl,.of_eq hg⟩
end Mine
end
section
open PySem PySem.W PySem.Spec PySem.Calls PyProof.Rows
namespace Mine
end Mine
set_option maxHeartbeats 0 in
theorem PySem.Challenge.cw_wc0018_02_holds : PySem.Challenge.rw_wc0018_02.Holds := by
 refine holds_law Mine.zJ fun said=>?_
 refine PySem.W.holds_open (q:=Mine.q1) (loose:=Mine.sN) (Xt:=fun _=>true) (XP:=fun _ _=>True) (Yf:=Mine.hk1.obs) (Ya:=Mine.hk1.val) (YP:=Mine.hk1.says) (N:=2540) Mine.zK Mine.hk1.of Mine.hk1.keeps (fun _ _=>trivial) (fun _ _ _ _ _=>trivial) (by rfl) (by rfl) (by rfl) (fun s _=>recFacts_nil rfl) (by rfl) said (by decide +kernel) ⟨rfl,rfl,rfl,rfl,rfl,by decide +kernel⟩ ?_ ?_
 ·w_witness2
 ·intro w s₀ s₁ mg mb G Y fa o pm cd doc dV kV ho hd hcd hD hmg hg args vals as hpre hlay hrd hwl hlo
  have X:=kIn_of Y
  obtain ⟨l,rfl,hl⟩:=Mine.sD hpre
  have e:mg "law" = some (.ref 183):=mg_of (Mine.nF X).1 G.T.g (by kernel_rfl)
  have e2:mg "law" = some (.ref fa):=hmg
  refine Mine.rwH (Value.ref.inj (Mine.so1 (e.symm.trans e2))) ?_
  exact enter_call (Mine.ua w s₀ s₁ mg mb X G.T hg l hl vals hwl)
end
