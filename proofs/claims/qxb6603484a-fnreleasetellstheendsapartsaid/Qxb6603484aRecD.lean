/-
  A Rec, a Msg, a calls.Record, a call, a message: their cells.
-/
import Derived.Test.Qxb6603484aKit
namespace Go.Proofs.Qxb6603484a
open Go.RowKit
set_option linter.unusedVariables false

structure RecD where
  st : Int
  opc : Int
  dpc : Int
  cic : Int
  calling : ByteArray
  called : ByteArray
  ans : Int
  rel : Int
  party : ByteArray
  cause : Int
  hc : Bool
  cl : Bool
  msgs : Int
  la : Option Addr
  ln : Nat
  lc : Nat

/-- A law's Rec. -/
def RecD.cells (c : RecD) : Array Value := #[.int .i64 c.st, .int .u32 c.opc, .int .u32 c.dpc, .int .u16 c.cic, .string c.calling, .string c.called, .int .i64 c.ans, .int .i64 c.rel, .string c.party, .int .u8 c.cause, .bool c.hc, .bool c.cl, .int .i64 c.msgs, .slice c.la c.ln c.lc]
/-- calls.Record with the same content. -/
def RecD.rc (c : RecD) : Array Value := #[.int .u64 (c.st % 1000000000), .int .i64 (c.st / 1000000000), .pointer none, .int .u32 c.opc, .int .u32 c.dpc, .int .u16 c.cic, .string c.calling, .string c.called,
  .int .u64 (c.ans % 1000000000), .int .i64 (c.ans / 1000000000), .pointer none, .int .u64 (c.rel % 1000000000), .int .i64 (c.rel / 1000000000), .pointer none, .string c.party, .int .u8 c.cause, .bool c.hc, .bool c.cl, .int .i64 c.msgs, .slice c.la c.ln c.lc]

structure RecD.Ok (c : RecD) : Prop where
  st1 : -9223372036854775808 ≤ c.st
  st2 : c.st ≤ 9223372036854775807
  an1 : -9223372036854775808 ≤ c.ans
  an2 : c.ans ≤ 9223372036854775807
  re1 : -9223372036854775808 ≤ c.rel
  re2 : c.rel ≤ 9223372036854775807

theorem built38 (c : RecD) : Try.prog.built 38 [(0, tT c.st), (1, .int .u32 c.opc), (2, .int .u32 c.dpc), (3, .int .u16 c.cic), (4, .string c.calling), (5, .string c.called), (6, tT c.ans), (7, tT c.rel), (8, .string c.party), (9, .int .u8 c.cause), (10, .bool c.hc), (11, .bool c.cl), (12, .int .i64 c.msgs), (13, .slice c.la c.ln c.lc)] = some c.rc := by kernel_rfl

theorem RecD.rc_size (c : RecD) : c.rc.size = 20 := rfl
theorem RecD.rc_one (c : RecD) : c.rc.all (·.oneCell') = true := by simp [RecD.rc, Value.oneCell']
theorem RecD.cells_size (c : RecD) : c.cells.size = 14 := rfl
theorem RecD.cells_one (c : RecD) : c.cells.all (·.oneCell') = true := by simp [RecD.cells, Value.oneCell']

structure MsgD where
  tm : Int
  link : ByteArray
  opc : Int
  dpc : Int
  cic : Int
  typ : Int
  calling : ByteArray
  called : ByteArray
  cause : Int
  hc : Bool

/-- A law's Msg. -/
def MsgD.cells (m : MsgD) : Array Value := #[.int .i64 m.tm, .string m.link, .int .u32 m.opc, .int .u32 m.dpc, .int .u16 m.cic, .int .u8 m.typ, .string m.calling, .string m.called, .int .u8 m.cause, .bool m.hc]
/-- The package's message with the same content. -/
def MsgD.ms (m : MsgD) : Array Value := #[.int .u64 (m.tm % 1000000000), .int .i64 (m.tm / 1000000000), .pointer none, .string m.link, .int .u32 m.opc, .int .u32 m.dpc, .int .u16 m.cic, .int .u8 m.typ, .string m.calling, .string m.called, .int .u8 m.cause, .bool m.hc]
theorem MsgD.cells_size (m : MsgD) : m.cells.size = 10 := rfl
theorem MsgD.cells_one (m : MsgD) : m.cells.all (·.oneCell') = true := by simp [MsgD.cells, Value.oneCell']
theorem MsgD.ms_size (m : MsgD) : m.ms.size = 12 := rfl

/-- A call with record c on circuit (k, lo, hi). -/
def callC (c : RecD) (k lo hi : Int) (e : Bool) : Array Value := #[.int .u64 (c.st % 1000000000), .int .i64 (c.st / 1000000000), .pointer none, .int .u32 c.opc, .int .u32 c.dpc, .int .u16 c.cic, .string c.calling, .string c.called,
  .int .u64 (c.ans % 1000000000), .int .i64 (c.ans / 1000000000), .pointer none, .int .u64 (c.rel % 1000000000), .int .i64 (c.rel / 1000000000), .pointer none, .string c.party, .int .u8 c.cause, .bool c.hc, .bool c.cl, .int .i64 c.msgs, .slice c.la c.ln c.lc,
  .int .u16 k, .int .u32 lo, .int .u32 hi, .bool e]
theorem callC_size (c : RecD) (k lo hi : Int) (e : Bool) : (callC c k lo hi e).size = 24 := rfl

theorem built62 (c : RecD) (k lo hi : Int) (e : Bool) : Try.prog.built 62 [(0, .agg c.rc), (1, .agg #[.int .u16 k, .int .u32 lo, .int .u32 hi]), (2, .bool e)] = some (callC c k lo hi e) := by kernel_rfl
theorem built65 (m : MsgD) : Try.prog.built 65 [(0, tT m.tm), (1, .string m.link), (2, .int .u32 m.opc), (3, .int .u32 m.dpc), (4, .int .u16 m.cic), (5, .int .u8 m.typ), (6, .string m.calling), (7, .string m.called), (8, .int .u8 m.cause), (9, .bool m.hc)] = some m.ms := by kernel_rfl

def bCalled : ByteArray := ⟨#[99, 97, 108, 108, 101, 100]⟩
def bCalling : ByteArray := ⟨#[99, 97, 108, 108, 105, 110, 103]⟩

/-- The record behind a release. -/
def RecD.released (c : RecD) (m : MsgD) : RecD := { c with rel := m.tm, party := if m.opc = c.opc then bCalling else bCalled, cause := m.cause, hc := m.hc }

end Go.Proofs.Qxb6603484a
