import Derived.Test.YbulkekysT7
namespace Go.Proofs.Ybulkekys
open Go.RowKit

structure S0 (a : Act) (x0 : Option Addr) (l0 : Nat) (c0 : Nat) (x1 : Option Addr) (l1 : Nat) (c1 : Nat) (x2 : Option Addr) (l2 : Nat) (c2 : Nat) (x3 : Option Addr) (l3 : Nat) (c3 : Nat) (x4 : Option Addr) (l4 : Nat) (c4 : Nat) (x5 : Option Addr) (l5 : Nat) (c5 : Nat) (mq : Nat) : Prop where
  sz : a.tmps.size = 632
  df : a.defers = []
  s0 : a.tmps.getD 0 undef = .slice x0 l0 c0
  s1 : a.tmps.getD 1 undef = .slice x1 l1 c1
  s2 : a.tmps.getD 2 undef = .slice x2 l2 c2
  s3 : a.tmps.getD 3 undef = .slice x3 l3 c3
  s4 : a.tmps.getD 4 undef = .slice x4 l4 c4
  s5 : a.tmps.getD 5 undef = .slice x5 l5 c5
  s6 : a.tmps.getD 6 undef = .int .u16 (mq : Int)

structure S8 (a : Act) (x0 : Option Addr) (l0 : Nat) (c0 : Nat) (x1 : Option Addr) (l1 : Nat) (c1 : Nat) (x2 : Option Addr) (l2 : Nat) (c2 : Nat) (x3 : Option Addr) (l3 : Nat) (c3 : Nat) (x4 : Option Addr) (l4 : Nat) (c4 : Nat) (x5 : Option Addr) (l5 : Nat) (c5 : Nat) (mq : Nat) (n : Nat) (gO : Nat) (gOc : Nat) : Prop where
  sz : a.tmps.size = 632
  df : a.defers = []
  s0 : a.tmps.getD 0 undef = .slice x0 l0 c0
  s1 : a.tmps.getD 1 undef = .slice x1 l1 c1
  s2 : a.tmps.getD 2 undef = .slice x2 l2 c2
  s3 : a.tmps.getD 3 undef = .slice x3 l3 c3
  s4 : a.tmps.getD 4 undef = .slice x4 l4 c4
  s5 : a.tmps.getD 5 undef = .slice x5 l5 c5
  s6 : a.tmps.getD 6 undef = .int .u16 (mq : Int)
  s18 : a.tmps.getD 18 undef = .int .i64 (n : Int)
  s19 : a.tmps.getD 19 undef = .slice (some ⟨gO, 0, none⟩) n n
  s20 : a.tmps.getD 20 undef = .slice (some ⟨gOc, 0, none⟩) n n

structure S9 (a : Act) (x1 : Option Addr) (l1 : Nat) (c1 : Nat) (x2 : Option Addr) (l2 : Nat) (c2 : Nat) (x3 : Option Addr) (l3 : Nat) (c3 : Nat) (x4 : Option Addr) (l4 : Nat) (c4 : Nat) (x5 : Option Addr) (l5 : Nat) (c5 : Nat) (mq : Nat) (n : Nat) (gO : Nat) (gOc : Nat) : Prop where
  sz : a.tmps.size = 632
  df : a.defers = []
  s1 : a.tmps.getD 1 undef = .slice x1 l1 c1
  s2 : a.tmps.getD 2 undef = .slice x2 l2 c2
  s3 : a.tmps.getD 3 undef = .slice x3 l3 c3
  s4 : a.tmps.getD 4 undef = .slice x4 l4 c4
  s5 : a.tmps.getD 5 undef = .slice x5 l5 c5
  s6 : a.tmps.getD 6 undef = .int .u16 (mq : Int)
  s18 : a.tmps.getD 18 undef = .int .i64 (n : Int)
  s19 : a.tmps.getD 19 undef = .slice (some ⟨gO, 0, none⟩) n n
  s20 : a.tmps.getD 20 undef = .slice (some ⟨gOc, 0, none⟩) n n

structure S11 (a : Act) (x1 : Option Addr) (l1 : Nat) (c1 : Nat) (x2 : Option Addr) (l2 : Nat) (c2 : Nat) (x3 : Option Addr) (l3 : Nat) (c3 : Nat) (x4 : Option Addr) (l4 : Nat) (c4 : Nat) (x5 : Option Addr) (l5 : Nat) (c5 : Nat) (n : Nat) (gO : Nat) (gOc : Nat) (mm : Nat) (gE : Nat) : Prop where
  sz : a.tmps.size = 632
  df : a.defers = []
  s1 : a.tmps.getD 1 undef = .slice x1 l1 c1
  s2 : a.tmps.getD 2 undef = .slice x2 l2 c2
  s3 : a.tmps.getD 3 undef = .slice x3 l3 c3
  s4 : a.tmps.getD 4 undef = .slice x4 l4 c4
  s5 : a.tmps.getD 5 undef = .slice x5 l5 c5
  s18 : a.tmps.getD 18 undef = .int .i64 (n : Int)
  s19 : a.tmps.getD 19 undef = .slice (some ⟨gO, 0, none⟩) n n
  s20 : a.tmps.getD 20 undef = .slice (some ⟨gOc, 0, none⟩) n n
  s26 : a.tmps.getD 26 undef = .int .i64 (mm : Int)
  s27 : a.tmps.getD 27 undef = .slice (some ⟨gE, 0, none⟩) n n

structure S13 (a : Act) (x1 : Option Addr) (l1 : Nat) (c1 : Nat) (x3 : Option Addr) (l3 : Nat) (c3 : Nat) (x4 : Option Addr) (l4 : Nat) (c4 : Nat) (x5 : Option Addr) (l5 : Nat) (c5 : Nat) (n : Nat) (gO : Nat) (gOc : Nat) (mm : Nat) (gE : Nat) (gEc : Nat) (cEc : Nat) : Prop where
  sz : a.tmps.size = 632
  df : a.defers = []
  s1 : a.tmps.getD 1 undef = .slice x1 l1 c1
  s3 : a.tmps.getD 3 undef = .slice x3 l3 c3
  s4 : a.tmps.getD 4 undef = .slice x4 l4 c4
  s5 : a.tmps.getD 5 undef = .slice x5 l5 c5
  s18 : a.tmps.getD 18 undef = .int .i64 (n : Int)
  s19 : a.tmps.getD 19 undef = .slice (some ⟨gO, 0, none⟩) n n
  s20 : a.tmps.getD 20 undef = .slice (some ⟨gOc, 0, none⟩) n n
  s26 : a.tmps.getD 26 undef = .int .i64 (mm : Int)
  s27 : a.tmps.getD 27 undef = .slice (some ⟨gE, 0, none⟩) n n
  s29 : a.tmps.getD 29 undef = .slice (some ⟨gEc, 0, none⟩) n cEc

structure S18 (a : Act) (x1 : Option Addr) (l1 : Nat) (c1 : Nat) (x3 : Option Addr) (l3 : Nat) (c3 : Nat) (x4 : Option Addr) (l4 : Nat) (c4 : Nat) (x5 : Option Addr) (l5 : Nat) (c5 : Nat) (n : Nat) (gO : Nat) (gOc : Nat) (mm : Nat) (gE : Nat) (gEc : Nat) (cEc : Nat) (gB : Nat) (gI : Nat) (gA : Nat) (gL : Nat) (gK : Nat) : Prop where
  sz : a.tmps.size = 632
  df : a.defers = []
  s1 : a.tmps.getD 1 undef = .slice x1 l1 c1
  s3 : a.tmps.getD 3 undef = .slice x3 l3 c3
  s4 : a.tmps.getD 4 undef = .slice x4 l4 c4
  s5 : a.tmps.getD 5 undef = .slice x5 l5 c5
  s18 : a.tmps.getD 18 undef = .int .i64 (n : Int)
  s19 : a.tmps.getD 19 undef = .slice (some ⟨gO, 0, none⟩) n n
  s20 : a.tmps.getD 20 undef = .slice (some ⟨gOc, 0, none⟩) n n
  s26 : a.tmps.getD 26 undef = .int .i64 (mm : Int)
  s27 : a.tmps.getD 27 undef = .slice (some ⟨gE, 0, none⟩) n n
  s29 : a.tmps.getD 29 undef = .slice (some ⟨gEc, 0, none⟩) n cEc
  s30 : a.tmps.getD 30 undef = .slice (some ⟨gB, 0, none⟩) mm mm
  s31 : a.tmps.getD 31 undef = .slice (some ⟨gI, 0, none⟩) mm mm
  s32 : a.tmps.getD 32 undef = .slice (some ⟨gA, 0, none⟩) mm mm
  s33 : a.tmps.getD 33 undef = .slice (some ⟨gL, 0, none⟩) n n
  s34 : a.tmps.getD 34 undef = .slice (some ⟨gK, 0, none⟩) n n

structure S19 (a : Act) (x5 : Option Addr) (l5 : Nat) (c5 : Nat) (n : Nat) (gO : Nat) (gOc : Nat) (mm : Nat) (gE : Nat) (gEc : Nat) (cEc : Nat) (gB : Nat) (gI : Nat) (gA : Nat) (gL : Nat) (gK : Nat) : Prop where
  sz : a.tmps.size = 632
  df : a.defers = []
  s5 : a.tmps.getD 5 undef = .slice x5 l5 c5
  s18 : a.tmps.getD 18 undef = .int .i64 (n : Int)
  s19 : a.tmps.getD 19 undef = .slice (some ⟨gO, 0, none⟩) n n
  s20 : a.tmps.getD 20 undef = .slice (some ⟨gOc, 0, none⟩) n n
  s26 : a.tmps.getD 26 undef = .int .i64 (mm : Int)
  s27 : a.tmps.getD 27 undef = .slice (some ⟨gE, 0, none⟩) n n
  s29 : a.tmps.getD 29 undef = .slice (some ⟨gEc, 0, none⟩) n cEc
  s30 : a.tmps.getD 30 undef = .slice (some ⟨gB, 0, none⟩) mm mm
  s31 : a.tmps.getD 31 undef = .slice (some ⟨gI, 0, none⟩) mm mm
  s32 : a.tmps.getD 32 undef = .slice (some ⟨gA, 0, none⟩) mm mm
  s33 : a.tmps.getD 33 undef = .slice (some ⟨gL, 0, none⟩) n n
  s34 : a.tmps.getD 34 undef = .slice (some ⟨gK, 0, none⟩) n n

structure S20 (a : Act) (x5 : Option Addr) (l5 : Nat) (c5 : Nat) (n : Nat) (gO : Nat) (gOc : Nat) (mm : Nat) (gE : Nat) (gEc : Nat) (cEc : Nat) (gB : Nat) (gI : Nat) (gA : Nat) (gL : Nat) (gK : Nat) (gV : Nat) (lv : Nat) : Prop where
  sz : a.tmps.size = 632
  df : a.defers = []
  s5 : a.tmps.getD 5 undef = .slice x5 l5 c5
  s18 : a.tmps.getD 18 undef = .int .i64 (n : Int)
  s19 : a.tmps.getD 19 undef = .slice (some ⟨gO, 0, none⟩) n n
  s20 : a.tmps.getD 20 undef = .slice (some ⟨gOc, 0, none⟩) n n
  s26 : a.tmps.getD 26 undef = .int .i64 (mm : Int)
  s27 : a.tmps.getD 27 undef = .slice (some ⟨gE, 0, none⟩) n n
  s29 : a.tmps.getD 29 undef = .slice (some ⟨gEc, 0, none⟩) n cEc
  s30 : a.tmps.getD 30 undef = .slice (some ⟨gB, 0, none⟩) mm mm
  s31 : a.tmps.getD 31 undef = .slice (some ⟨gI, 0, none⟩) mm mm
  s32 : a.tmps.getD 32 undef = .slice (some ⟨gA, 0, none⟩) mm mm
  s33 : a.tmps.getD 33 undef = .slice (some ⟨gL, 0, none⟩) n n
  s34 : a.tmps.getD 34 undef = .slice (some ⟨gK, 0, none⟩) n n
  s39 : a.tmps.getD 39 undef = .slice (some ⟨gV, 0, none⟩) lv lv

structure S23 (a : Act) (n : Nat) (gO : Nat) (gOc : Nat) (mm : Nat) (gE : Nat) (gEc : Nat) (cEc : Nat) (gB : Nat) (gI : Nat) (gA : Nat) (gL : Nat) (gK : Nat) (gV : Nat) (lv : Nat) (gVc : Nat) (cVc : Nat) (gBc : Nat) (cBc : Nat) : Prop where
  sz : a.tmps.size = 632
  df : a.defers = []
  s18 : a.tmps.getD 18 undef = .int .i64 (n : Int)
  s19 : a.tmps.getD 19 undef = .slice (some ⟨gO, 0, none⟩) n n
  s20 : a.tmps.getD 20 undef = .slice (some ⟨gOc, 0, none⟩) n n
  s26 : a.tmps.getD 26 undef = .int .i64 (mm : Int)
  s27 : a.tmps.getD 27 undef = .slice (some ⟨gE, 0, none⟩) n n
  s29 : a.tmps.getD 29 undef = .slice (some ⟨gEc, 0, none⟩) n cEc
  s30 : a.tmps.getD 30 undef = .slice (some ⟨gB, 0, none⟩) mm mm
  s31 : a.tmps.getD 31 undef = .slice (some ⟨gI, 0, none⟩) mm mm
  s32 : a.tmps.getD 32 undef = .slice (some ⟨gA, 0, none⟩) mm mm
  s33 : a.tmps.getD 33 undef = .slice (some ⟨gL, 0, none⟩) n n
  s34 : a.tmps.getD 34 undef = .slice (some ⟨gK, 0, none⟩) n n
  s39 : a.tmps.getD 39 undef = .slice (some ⟨gV, 0, none⟩) lv lv
  s42 : a.tmps.getD 42 undef = .slice (some ⟨gVc, 0, none⟩) lv cVc
  s43 : a.tmps.getD 43 undef = .slice (some ⟨gBc, 0, none⟩) mm cBc

structure S25 (a : Act) (n : Nat) (gO : Nat) (gOc : Nat) (mm : Nat) (gE : Nat) (gEc : Nat) (cEc : Nat) (gB : Nat) (gI : Nat) (gA : Nat) (gL : Nat) (gK : Nat) (gV : Nat) (lv : Nat) (gVc : Nat) (cVc : Nat) (gBc : Nat) (cBc : Nat) (gP : Nat) (gQ : Nat) (lq : Nat) (cq : Nat) : Prop where
  sz : a.tmps.size = 632
  df : a.defers = []
  s18 : a.tmps.getD 18 undef = .int .i64 (n : Int)
  s19 : a.tmps.getD 19 undef = .slice (some ⟨gO, 0, none⟩) n n
  s20 : a.tmps.getD 20 undef = .slice (some ⟨gOc, 0, none⟩) n n
  s26 : a.tmps.getD 26 undef = .int .i64 (mm : Int)
  s27 : a.tmps.getD 27 undef = .slice (some ⟨gE, 0, none⟩) n n
  s29 : a.tmps.getD 29 undef = .slice (some ⟨gEc, 0, none⟩) n cEc
  s30 : a.tmps.getD 30 undef = .slice (some ⟨gB, 0, none⟩) mm mm
  s31 : a.tmps.getD 31 undef = .slice (some ⟨gI, 0, none⟩) mm mm
  s32 : a.tmps.getD 32 undef = .slice (some ⟨gA, 0, none⟩) mm mm
  s33 : a.tmps.getD 33 undef = .slice (some ⟨gL, 0, none⟩) n n
  s34 : a.tmps.getD 34 undef = .slice (some ⟨gK, 0, none⟩) n n
  s39 : a.tmps.getD 39 undef = .slice (some ⟨gV, 0, none⟩) lv lv
  s42 : a.tmps.getD 42 undef = .slice (some ⟨gVc, 0, none⟩) lv cVc
  s43 : a.tmps.getD 43 undef = .slice (some ⟨gBc, 0, none⟩) mm cBc
  s44 : a.tmps.getD 44 undef = .slice (some ⟨gP, 0, none⟩) n n
  s45 : a.tmps.getD 45 undef = .slice (some ⟨gQ, 0, none⟩) lq cq

structure S27 (a : Act) (n : Nat) (gO : Nat) (gOc : Nat) (mm : Nat) (gE : Nat) (gEc : Nat) (cEc : Nat) (gB : Nat) (gI : Nat) (gA : Nat) (gL : Nat) (gK : Nat) (gV : Nat) (lv : Nat) (gVc : Nat) (cVc : Nat) (gBc : Nat) (cBc : Nat) (gP : Nat) : Prop where
  sz : a.tmps.size = 632
  df : a.defers = []
  s18 : a.tmps.getD 18 undef = .int .i64 (n : Int)
  s19 : a.tmps.getD 19 undef = .slice (some ⟨gO, 0, none⟩) n n
  s20 : a.tmps.getD 20 undef = .slice (some ⟨gOc, 0, none⟩) n n
  s26 : a.tmps.getD 26 undef = .int .i64 (mm : Int)
  s27 : a.tmps.getD 27 undef = .slice (some ⟨gE, 0, none⟩) n n
  s29 : a.tmps.getD 29 undef = .slice (some ⟨gEc, 0, none⟩) n cEc
  s30 : a.tmps.getD 30 undef = .slice (some ⟨gB, 0, none⟩) mm mm
  s31 : a.tmps.getD 31 undef = .slice (some ⟨gI, 0, none⟩) mm mm
  s32 : a.tmps.getD 32 undef = .slice (some ⟨gA, 0, none⟩) mm mm
  s33 : a.tmps.getD 33 undef = .slice (some ⟨gL, 0, none⟩) n n
  s34 : a.tmps.getD 34 undef = .slice (some ⟨gK, 0, none⟩) n n
  s39 : a.tmps.getD 39 undef = .slice (some ⟨gV, 0, none⟩) lv lv
  s42 : a.tmps.getD 42 undef = .slice (some ⟨gVc, 0, none⟩) lv cVc
  s43 : a.tmps.getD 43 undef = .slice (some ⟨gBc, 0, none⟩) mm cBc
  s44 : a.tmps.getD 44 undef = .slice (some ⟨gP, 0, none⟩) n n

structure S28 (a : Act) (n : Nat) (gO : Nat) (gOc : Nat) (mm : Nat) (gE : Nat) (gEc : Nat) (cEc : Nat) (gB : Nat) (gI : Nat) (gA : Nat) (gL : Nat) (gK : Nat) (gV : Nat) (lv : Nat) (gVc : Nat) (cVc : Nat) (gBc : Nat) (cBc : Nat) (gP : Nat) (FL : Nat) : Prop where
  sz : a.tmps.size = 632
  df : a.defers = []
  s18 : a.tmps.getD 18 undef = .int .i64 (n : Int)
  s19 : a.tmps.getD 19 undef = .slice (some ⟨gO, 0, none⟩) n n
  s20 : a.tmps.getD 20 undef = .slice (some ⟨gOc, 0, none⟩) n n
  s26 : a.tmps.getD 26 undef = .int .i64 (mm : Int)
  s27 : a.tmps.getD 27 undef = .slice (some ⟨gE, 0, none⟩) n n
  s29 : a.tmps.getD 29 undef = .slice (some ⟨gEc, 0, none⟩) n cEc
  s30 : a.tmps.getD 30 undef = .slice (some ⟨gB, 0, none⟩) mm mm
  s31 : a.tmps.getD 31 undef = .slice (some ⟨gI, 0, none⟩) mm mm
  s32 : a.tmps.getD 32 undef = .slice (some ⟨gA, 0, none⟩) mm mm
  s33 : a.tmps.getD 33 undef = .slice (some ⟨gL, 0, none⟩) n n
  s34 : a.tmps.getD 34 undef = .slice (some ⟨gK, 0, none⟩) n n
  s39 : a.tmps.getD 39 undef = .slice (some ⟨gV, 0, none⟩) lv lv
  s42 : a.tmps.getD 42 undef = .slice (some ⟨gVc, 0, none⟩) lv cVc
  s43 : a.tmps.getD 43 undef = .slice (some ⟨gBc, 0, none⟩) mm cBc
  s44 : a.tmps.getD 44 undef = .slice (some ⟨gP, 0, none⟩) n n
  s52 : a.tmps.getD 52 undef = .int .i64 (FL : Int)

structure S32 (a : Act) (n : Nat) (gO : Nat) (gOc : Nat) (mm : Nat) (gE : Nat) (gEc : Nat) (cEc : Nat) (gB : Nat) (gI : Nat) (gA : Nat) (gL : Nat) (gK : Nat) (gV : Nat) (lv : Nat) (gVc : Nat) (cVc : Nat) (gBc : Nat) (cBc : Nat) (gP : Nat) (FL : Nat) (gN : Nat) (gC : Nat) : Prop where
  sz : a.tmps.size = 632
  df : a.defers = []
  s18 : a.tmps.getD 18 undef = .int .i64 (n : Int)
  s19 : a.tmps.getD 19 undef = .slice (some ⟨gO, 0, none⟩) n n
  s20 : a.tmps.getD 20 undef = .slice (some ⟨gOc, 0, none⟩) n n
  s26 : a.tmps.getD 26 undef = .int .i64 (mm : Int)
  s27 : a.tmps.getD 27 undef = .slice (some ⟨gE, 0, none⟩) n n
  s29 : a.tmps.getD 29 undef = .slice (some ⟨gEc, 0, none⟩) n cEc
  s30 : a.tmps.getD 30 undef = .slice (some ⟨gB, 0, none⟩) mm mm
  s31 : a.tmps.getD 31 undef = .slice (some ⟨gI, 0, none⟩) mm mm
  s32 : a.tmps.getD 32 undef = .slice (some ⟨gA, 0, none⟩) mm mm
  s33 : a.tmps.getD 33 undef = .slice (some ⟨gL, 0, none⟩) n n
  s34 : a.tmps.getD 34 undef = .slice (some ⟨gK, 0, none⟩) n n
  s39 : a.tmps.getD 39 undef = .slice (some ⟨gV, 0, none⟩) lv lv
  s42 : a.tmps.getD 42 undef = .slice (some ⟨gVc, 0, none⟩) lv cVc
  s43 : a.tmps.getD 43 undef = .slice (some ⟨gBc, 0, none⟩) mm cBc
  s44 : a.tmps.getD 44 undef = .slice (some ⟨gP, 0, none⟩) n n
  s52 : a.tmps.getD 52 undef = .int .i64 (FL : Int)
  s54 : a.tmps.getD 54 undef = .slice (some ⟨gN, 0, none⟩) n n
  s55 : a.tmps.getD 55 undef = .slice (some ⟨gC, 0, none⟩) n n

end Go.Proofs.Ybulkekys
