import Derived.Test.Qxb6601067aWke
import Derived.OwnWalk
import Derived.Laws.OwnMore
import Derived.Laws.IdiomStrings
import Derived.Laws.BytesArg
import Derived.Deep.AppendLies
namespace Go.Proofs.Qxb6601067a
open Go.RowKit

theorem Try.info5 : (Try.prog.info? 5).map (fun i => (i.zero, i.size, i.bytes)) = some (some (.int .u8 0), 1, 1) := by kernel_rfl

def bv (l : List UInt8) : List Value := l.map fun b => Value.int .u8 (b.toNat : Int)
theorem bv_append (a b : List UInt8) : bv (a ++ b) = bv a ++ bv b := by simp [bv]

/-- v holds the bytes l, in memory of the call's own. -/
def Row (B : Nat) (w : World) (v : Value) (l : List UInt8) : Prop := w.ownsRow B 5 1 v l.length (bv l)

theorem row_snoc {B n : Nat} {w : World} {v : Value} {l : List UInt8} {c : UInt8} {x : Int} (hx : x = (c.toNat : Int)) (hn : n = l.length + 1) (h : w.ownsRow B 5 1 v n (bv l ++ [.int .u8 x])) : Row B w v (l ++ [c]) := by
  subst hx hn
  unfold Row
  rw [bv_append, show (l ++ [c]).length = l.length + 1 by simp]
  exact h

/-- string(b). -/
theorem row_string {B : Nat} {w : World} {v : Value} {l : List UInt8} (h : Row B w v l) : (convert 30 9 v).run Try.prog w = .ok (.string (tx l)) w := by
  rcases h.2 with ⟨rfl, h0⟩ | ⟨g, cap, cur, rfl, hg⟩
  · have e : l = [] := List.length_eq_zero_iff.1 h0
    subst e
    exact run_convert_bytes_nil w 30 5 Try.underlying30 Try.underlying5 0 0 9 Try.underlying9
  · refine run_convert_bytes_back w 30 9 5 ⟨g, 0, none⟩ cap l Try.underlying30 Try.underlying5 Try.underlying9 (fun j hj => ?_)
    refine h.cells (g := g) rfl j _ ?_
    unfold bv
    rw [List.getElem?_map, List.getElem?_eq_getElem hj]
    rfl

theorem grow_step {w wr w1 : World} {o : Obj} {v u : Value} (hg : w.grownBy wr v.ownBlock) (hl : ∀ k, u.ownBlock = some k → v.ownBlock = some k ∨ w.heap.size ≤ k) (h : (wr.alloc o).grownBy w1 u.ownBlock) : w.grownBy w1 v.ownBlock := by
  refine ⟨h.os.trans hg.os, h.tape.trans hg.tape, h.output.trans hg.output, ?_, fun k hk hne => ?_⟩
  · have := h.size; have := hg.size; simp at *; omega
  · have hk2 : k < wr.heap.size := Nat.lt_of_lt_of_le hk hg.size
    rw [h.block k (by simp; omega) (fun e => by rcases hl k e.symm with h' | h'; exact hne h'.symm; omega), Below.heap_alloc wr o k hk2]
    exact hg.block k hk hne

def AsSaid (B : Nat) (v : Value) (l : List UInt8) (w : World) (e : Ending) (w' : World) : Prop :=
  ∃ v', e = .returned v' ∧ Row B w' v' l ∧ w.grownBy w' v.ownBlock ∧ (∀ k, v'.ownBlock = some k → v.ownBlock = some k ∨ w.heap.size ≤ k)

theorem take_next (s : ByteArray) (i : Nat) (h : i < s.size) : s.data.toList.take (i + 1) = s.data.toList.take i ++ [s[i]] := by
  have hlt : i < s.data.toList.length := h
  rw [List.take_add_one, List.getElem?_eq_getElem hlt]
  rfl
theorem take_all (s : ByteArray) : s.data.toList.take s.size = s.data.toList := List.take_length
theorem take_len (s : ByteArray) (i : Nat) (h : i ≤ s.size) : (s.data.toList.take i).length = i := by
  have : s.data.toList.length = s.size := rfl
  rw [List.length_take]; omega

set_option maxRecDepth 100000 in
set_option maxHeartbeats 2000000 in
theorem append21 (B : Nat) (v : Value) (l : List UInt8) (s : ByteArray) (w : World) (hrow : Row B w v l) (hB : B ≤ w.heap.size) (hs : s.size ≤ 1000000) (hl : l.length ≤ 10000000000) :
    Calls Try.prog 21 #[v, .string s] w (AsSaid B v (l ++ s.data.toList) w) := by
  obtain ⟨i0, hi0, hz0, hz1, hz2⟩ := info_parts Try.info5
  have HR0 := hide hrow
  clear hrow
  go_enter Try.func21, Try.ntmps21
  go_wp2
  go_loopw [0, 5] (fun u x wr => ∃ i : Nat, i ≤ s.size ∧ x = .int .i64 (i : Int) ∧ Row B wr u (l ++ s.data.toList.take i) ∧ w.grownBy wr v.ownBlock ∧ (∀ k, u.ownBlock = some k → v.ownBlock = some k ∨ w.heap.size ≤ k)) (fun _ x _ => s.size - (intOf x).toNat)
  case atStart => exact ⟨0, Nat.zero_le _, rfl, by rw [List.take_zero, List.append_nil]; exact HR0.out, World.grownBy.refl _ _, fun k hk => Or.inl hk⟩
  case round =>
    obtain ⟨i, hi, rfl, hrow, hgr, hlie⟩ := hrel
    have HO := hide hrow
    have HG := hide hgr
    have HL := hide hlie
    have hwr := hgr.size
    clear hrow hgr hlie HR0
    by_cases hlt : i < s.size
    · have l1 : (i : Int) < (s.size : Int) := by omega
      have HT := hide (take_next s i hlt)
      have htl := take_len s i hi
      have hln : (l ++ s.data.toList.take i).length ≤ 10001000000 := by rw [List.length_append, htl]; omega
      generalize hla : l ++ s.data.toList.take i = la at *
      have HLa := hide hla
      clear hla htl
      go_wp2_with (at_builtin; refine wpList_append_lies _ rfl _ _ 30 rfl B 5 i0 (.int .u8 0) 1 1 Try.underlying30 hi0 hz0 hz1 hz2 rfl (by decide) _ _ _ rfl (HO.out.alloc _) ⟨_, 0, none⟩ 1 1 [.int .u8 (s[i].toNat : Int)] rfl rfl ?c1 ?c2 (by decide) ?c3 ?c4 ?c5 _ rfl ?_)
      case c1 =>
        intro j u hj
        match j, hj with
        | 0, hj => simp at hj; subst hj; simp [Addr.add]
      case c2 => intro u hu; simp at hu; subst hu; rfl
      case c3 => unfold maxLen; omega
      case c4 => omega
      case c5 => simp; omega
      intro g cap w2 hown hgrow hat _
      have HO2 := hide (row_snoc (l := la) (c := s[i]) rfl rfl hown)
      have HG2 := hide (grow_step HG.out HL.out hgrow)
      have HL2 : Hid (∀ k, some g = some k → v.ownBlock = some k ∨ w.heap.size ≤ k) := by
        intro k hk
        cases hk
        rcases hat with h | h
        · exact HL.out _ h
        · right; rw [h]; first | omega | (simp; omega)
      clear hown hgrow hat
      go_wp2
      go_roundw
      case rel => exact ⟨i + 1, by omega, by go_num, by rw [HT.out, ← List.append_assoc, HLa.out]; exact HO2.out, HG2.out, HL2.out⟩
      case measure => simp [intOf]; omega
    · have l1 : ¬ ((i : Int) < (s.size : Int)) := by omega
      have ei : i = s.size := by omega
      have HO2 : Hid (Row B wr u0 (l ++ s.data.toList)) := by
        show Row _ _ _ _
        have := HO.out
        rw [ei, take_all] at this
        exact this
      clear ei
      go_wp2
      go_ret
      exact ⟨_, rfl, HO2.out, HG.out, HL.out⟩
end Go.Proofs.Qxb6601067a
