/- What the bounds of the laws say, as data. -/
import Derived.Test.YtdofgamahjmohaaLvI
namespace Go.Proofs.Ytdofgamahjmohaa
open Go.RowKit

/-- What a plan looks at. -/
structure Op where
  lv : Int
  lt : Int
  tt : Int
  zt : Int
  bl : Int
  bt : Int
  mt : Int
  di : Int
abbrev opA (lv lt tt zt bl bt mt di : Int) : Array Value := #[.int .i64 lv, .int .i64 lt, .int .i64 tt, .int .i64 zt, .int .i64 bl, .int .i64 bt, .int .i64 mt, .int .u64 di]
abbrev opV (o : Op) : Value := .agg (opA o.lv o.lt o.tt o.zt o.bl o.bt o.mt o.di)

structure OpOk (n : Nat) (o : Op) : Prop where
  n2 : 2 ≤ n
  n7 : n ≤ 7
  lv : o.lv = n
  lt1 : 1 ≤ o.lt
  lt2 : o.lt ≤ 100
  tt1 : 1 ≤ o.tt
  tt2 : o.tt ≤ 4
  zt1 : 1 ≤ o.zt
  zt2 : o.zt ≤ 100
  bl1 : 1 ≤ o.bl
  bl2 : o.bl ≤ 1099511627776
  bt1 : 1 ≤ o.bt
  bt2 : o.bt ≤ 1099511627776
  mt1 : 1 ≤ o.mt
  mt2 : o.mt ≤ 1099511627776

def Tb.fine (t : Tb) : Prop := 1 ≤ t.bytes ∧ t.bytes ≤ 1099511627776 ∧ 0 ≤ t.age ∧ t.age ≤ 1073741824

structure Valid (LL : List (List Tb)) (o : Op) : Prop where
  op : OpOk LL.length o
  few : ∀ ts ∈ LL, ts.length ≤ 30
  fine : ∀ ts ∈ LL, ∀ t ∈ ts, t.fine
  ord : Ordered LL LL.length

end Go.Proofs.Ytdofgamahjmohaa
