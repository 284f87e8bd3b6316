/-
  SEAT b0748aF, package runtimetest: '(*Timed).Receive' (6) for every message of the law's, in one contract; an append from a source that may be nil.
-/
import Derived.Test.YbulkoluFmtB4
import Derived.Test.YbulkoluFmtRecvPing
import Derived.Test.YbulkoluFmtRecvPing1
import Derived.Test.YbulkoluFmtRecvPong
import Derived.Test.YbulkoluFmtRecvWord
import Derived.Test.YbulkoluFmtRecvInt
import Derived.Test.YbulkoluFmtRecvInt10
import Derived.Test.YbulkoluFmtRecvStr
import Derived.Test.YbulkoluFmtRecvBool
import Derived.Laws.AppendOwnNone
namespace Go

/-- 'append(out, src...)', out of the call's own, src whatever: nil too. -/
theorem wpList_append_own_src {P : Program} (w : World) {ops : Array Oper} {rest : List Oper} {o : Oper} {a : Act} {Q : Exit → Act → World → Prop}
    (hg : o.guard = none) (s x : Operand) (t : TypeId) (hop : o.op = Op.call { callee := Callee.builtin Builtin.append, args := #[s, x], argTypes := #[t, t] })
    (base : Nat) (e : TypeId) (i : TypeInfo) (z : Value) (size bytes : Nat) (h1 : P.underlying t = some (.slice e)) (h2 : P.info? e = some i) (h3 : i.zero = some z) (h4 : i.size = size) (h5 : i.bytes = bytes) (h6 : z.cells.size = size) (h7 : 0 < size)
    (v : Value) (n : Nat) (xs : List Value) (hs : a.eval s = v) (hown : w.ownsRow base e size v n xs)
    (ao : Option Addr) (m c : Nat) (news : List Value) (hx : a.eval x = .slice ao m c) (hnone : ao = none → m = 0 ∧ c = 0) (hn : news.length = m * size) (hc : ∀ ad, ao = some ad → ∀ j u, news[j]? = some u → w.cell? (ad.add j) = some u) (h1c : ∀ u ∈ news, u.oneCell' = true)
    (b1 : n + m ≤ maxLen) (b2 : (n + m) * bytes ≤ 140737488355328) (hbase : base ≤ w.heap.size)
    (hK : ∀ v' w', w'.ownsRow base e size v' (n + m) (xs ++ news) → w.grownBy w' v.ownBlock → wpList P ops Q rest (a.put o.dst v') w') :
    wpList P ops Q (o :: rest) a w := by
  cases ao with
  | some ad => exact wpList_append_own w hg s x t hop base e i z size bytes h1 h2 h3 h4 h5 h6 h7 v n xs hs hown ad m c news hx hn (hc ad rfl) h1c b1 b2 hbase (fun v' w' r1 r2 _ => hK v' w' r1 r2)
  | none =>
    obtain ⟨rfl, rfl⟩ := hnone rfl
    have hnews : news = [] := List.eq_nil_of_length_eq_zero (by simpa using hn)
    subst hnews
    exact wpList_append_own_none hg s x t hop base e i size h1 h2 v n xs hs hown hx (hK v w (by simpa using hown) (World.grownBy.refl w _))
end Go
namespace Go.Proofs.YbulkoluFmt
open Go.RowKit Go.Extern.Stop Go.Stop Go.Extern

/-- One call on the Env: after, to, ticks, the message. -/
abbrev Call : Type := Bool × ByteArray × Int × Value
def flat : List Call → List Value
  | [] => []
  | (a, t, k, m) :: r => .bool a :: .string t :: .int .i64 k :: m :: flat r
def firstS : ByteArray := ⟨#[102, 105, 114, 115, 116]⟩
def secondS : ByteArray := ⟨#[115, 101, 99, 111, 110, 100]⟩

/-- Which calls a message asks for, and whether it is noted. -/
def Asks (peer : ByteArray) (m : Value) (L : List Call) (g : Bool) : Prop :=
  (∃ i : Int, (i == 1) = false ∧ m = .iface 31 (.agg #[.int .i64 i]) ∧ L = [(false, peer, 0, .iface 32 (.agg #[.int .i64 i]))] ∧ g = true) ∨
  (m = .iface 31 (.agg #[.int .i64 1]) ∧ L = [(false, peer, 0, .iface 32 (.agg #[.int .i64 1])), (true, ByteArray.empty, 1, .iface 9 (.string firstS)), (true, ByteArray.empty, 2, .iface 9 (.string secondS))] ∧ g = true) ∨
  (∃ i : Int, m = .iface 32 (.agg #[.int .i64 i]) ∧ L = [] ∧ g = true) ∨
  (∃ s : ByteArray, m = .iface 36 (.agg #[.string s]) ∧ L = [] ∧ g = true) ∨
  (∃ i : Int, (i == 10) = false ∧ m = .iface 3 (.int .i64 i) ∧ L = [] ∧ g = true) ∨
  (m = .iface 3 (.int .i64 10) ∧ L = [(false, peer, 0, .iface 31 (.agg #[.int .i64 1]))] ∧ g = true) ∨
  (∃ s : ByteArray, m = .iface 9 (.string s) ∧ L = [(false, peer, 0, .iface 36 (.agg #[.string s]))] ∧ g = true) ∨
  (m = .iface 4 (.bool true) ∧ L = [] ∧ g = false)

theorem Asks.ok {peer : ByteArray} {m : Value} {L : List Call} {g : Bool} (h : Asks peer m L g) : (∀ c ∈ L, okM c.2.2.2) ∧ L.length ≤ 3 := by
  rcases h with ⟨i, _, _, rfl, _⟩ | ⟨_, rfl, _⟩ | ⟨i, _, rfl, _⟩ | ⟨i, _, rfl, _⟩ | ⟨i, _, _, rfl, _⟩ | ⟨_, rfl, _⟩ | ⟨i, _, rfl, _⟩ | ⟨_, rfl, _⟩
  · refine ⟨?_, by simp⟩; intro c hc; simp at hc; subst hc; exact .inr (.inl ⟨_, rfl⟩)
  · refine ⟨?_, by simp⟩; intro c hc; simp at hc; rcases hc with rfl | rfl | rfl
    · exact .inr (.inl ⟨_, rfl⟩)
    · exact .inr (.inr (.inr ⟨_, rfl⟩))
    · exact .inr (.inr (.inr ⟨_, rfl⟩))
  · exact ⟨by simp, by simp⟩
  · exact ⟨by simp, by simp⟩
  · exact ⟨by simp, by simp⟩
  · refine ⟨?_, by simp⟩; intro c hc; simp at hc; subst hc; exact .inl ⟨_, rfl⟩
  · refine ⟨?_, by simp⟩; intro c hc; simp at hc; subst hc; exact .inr (.inr (.inl ⟨_, rfl⟩))
  · exact ⟨by simp, by simp⟩

theorem Asks.shape {peer : ByteArray} {m : Value} {L : List Call} {g : Bool} (h : Asks peer m L g) : ∃ mt mv, m = .iface mt mv := by
  rcases h with ⟨i, _, h, _⟩ | ⟨h, _⟩ | ⟨i, h, _⟩ | ⟨i, h, _⟩ | ⟨i, _, h, _⟩ | ⟨h, _⟩ | ⟨i, h, _⟩ | ⟨h, _⟩ <;> exact ⟨_, _, h⟩

/-- Receive, whatever the law's message. -/
theorem recv_all (W : World) (bT T E N : Nat) (name peer frm : ByteArray) (tv : Value) (ts : List ByteArray) (m : Value) (L : List Call) (g : Bool) (h : RIn W bT T E N name peer tv ts) (ha : Asks peer m L g) :
    Calls Ybaf.prog 6 #[.pointer (some ⟨T, 0, none⟩), .iface 26 (.pointer (some ⟨E, 0, none⟩)), .string frm, m] W fun e w' => e = .returned (.tuple #[]) ∧
      ∃ ts' tv' ev, ROut W w' bT T E N name tv tv' ts' ev L.length (flat L) ∧ ts'.length = ts.length + (if g then 1 else 0) ∧ ∀ k, k < ts.length → ts'[k]? = ts[k]? := by
  have grow : ∀ (L : List Call) (e : Ending) (w' : World), (e = .returned (.tuple #[]) ∧ ∃ s tv' ev, ROut W w' bT T E N name tv tv' (ts ++ [s]) ev L.length (flat L)) →
      e = .returned (.tuple #[]) ∧ ∃ ts' tv' ev, ROut W w' bT T E N name tv tv' ts' ev L.length (flat L) ∧ ts'.length = ts.length + (if true then 1 else 0) ∧ ∀ k, k < ts.length → ts'[k]? = ts[k]? := by
    rintro L e w' ⟨he, s, tv', ev, R⟩
    exact ⟨he, ts ++ [s], tv', ev, R, by simp, fun k hk => List.getElem?_append_left hk⟩
  rcases ha with ⟨i, hi, rfl, rfl, rfl⟩ | ⟨rfl, rfl, rfl⟩ | ⟨i, rfl, rfl, rfl⟩ | ⟨i, rfl, rfl, rfl⟩ | ⟨i, hi, rfl, rfl, rfl⟩ | ⟨rfl, rfl, rfl⟩ | ⟨i, rfl, rfl, rfl⟩ | ⟨rfl, rfl, rfl⟩
  · exact (recv_ping W bT T E N name peer frm tv ts i h hi).mono (grow [(false, peer, 0, .iface 32 (.agg #[.int .i64 i]))])
  · exact (recv_ping1 W bT T E N name peer frm tv ts h).mono (grow [(false, peer, 0, .iface 32 (.agg #[.int .i64 1])), (true, ByteArray.empty, 1, .iface 9 (.string firstS)), (true, ByteArray.empty, 2, .iface 9 (.string secondS))])
  · exact (recv_pong W bT T E N name peer frm tv ts i h).mono (grow [])
  · exact (recv_word W bT T E N name peer frm tv ts i h).mono (grow [])
  · exact (recv_int W bT T E N name peer frm tv ts i h hi).mono (grow [])
  · exact (recv_int10 W bT T E N name peer frm tv ts h).mono (grow [(false, peer, 0, .iface 31 (.agg #[.int .i64 1]))])
  · exact (recv_str W bT T E N name peer frm tv ts i h).mono (grow [(false, peer, 0, .iface 36 (.agg #[.string i]))])
  · refine (recv_bool W bT T E N name peer frm tv ts h).mono ?_
    rintro e w' ⟨rfl, rfl⟩
    exact ⟨rfl, ts, tv, .slice none 0 0, ⟨h.t, h.own, ⟨h.e, World.ownsRow_nil _ _ _ _⟩, rfl, rfl, rfl, Nat.le_refl _, fun _ _ _ => rfl⟩, by simp, fun _ _ => rfl⟩
end Go.Proofs.YbulkoluFmt
