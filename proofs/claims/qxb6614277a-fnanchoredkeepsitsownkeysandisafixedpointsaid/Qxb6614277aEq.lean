import Derived.Test.Qxb6614277aCmp
import Derived.Laws.BytesArg
import Derived.Lib.Bytes
import Derived.Laws.IdiomStrings
namespace Go.Proofs.Qxb6614277a
open Go.RowKit

/-- The string of the bytes l. -/
def strb (l : List Nat) : ByteArray := strOfNums (l.map fun x : Nat => (x : Int))

theorem strb_inj {l m : List Nat} (hl : ∀ x ∈ l, x < 256) (hm : ∀ x ∈ m, x < 256) (h : strb l = strb m) : l = m := by
  unfold strb strOfNums at h
  have h' : (l.map fun x : Nat => (x : Int)).map (fun n => UInt8.ofNat n.toNat) = (m.map fun x : Nat => (x : Int)).map (fun n => UInt8.ofNat n.toNat) := by
    have := congrArg (fun b : ByteArray => b.data.toList) h
    simpa using this
  rw [List.map_map, List.map_map] at h'
  clear h
  induction l generalizing m with
  | nil =>
    cases m with
    | nil => rfl
    | cons y m => simp at h'
  | cons x l ih =>
    cases m with
    | nil => simp at h'
    | cons y m =>
      rw [List.map_cons, List.map_cons, List.cons.injEq] at h'
      have hx := hl x (by simp)
      have hy := hm y (by simp)
      have e : x = y := by
        have := congrArg UInt8.toNat h'.1
        simp at this
        omega
      rw [e, ih (fun z hz => hl z (by simp [hz])) (fun z hz => hm z (by simp [hz])) h'.2]

theorem strb_nil : strb [] = ByteArray.empty := rfl

theorem conv_zero (w : World) (p : Option Addr) (c : Nat) : (convert 23 9 (.slice p 0 c)).run Try.prog w = .ok (.string ByteArray.empty) w := by
  rw [run_convert_bytes_string w 23 9 5 _ 0 c Try.underlying23 Try.underlying5 Try.underlying9]
  cases p <;> simp [Conv.bytesToString, loadCells]
  all_goals rfl

theorem conv_any {W : World} {B : Nat} {v : Value} {l : List Nat} (h : BytesAt W B v l) : (convert 23 9 v).run Try.prog W = .ok (.string (strb l)) W := by
  rcases h with (⟨rfl, rfl⟩ | ⟨a, cap, rfl, rfl⟩) | ⟨b, off, cap, rfl, _, h⟩
  · rw [strb_nil]; exact conv_zero W _ _
  · rw [strb_nil]; exact conv_zero W _ _
  · refine run_convert_bytes_arg (P := Try.prog) W 23 5 Try.underlying23 Try.underlying5 b off l.length cap (l.map fun x : Nat => (x : Int)) (by simp) (fun i hi => ?_) 9 Try.underlying9
    rw [h i (.int .u8 ((l.getD i 0 : Nat) : Int)) (by unfold u8s; rw [List.getElem?_map, List.getElem?_eq_getElem hi, List.getD_eq_getElem?_getD, List.getElem?_eq_getElem hi]; rfl)]
    rw [List.getD_eq_getElem?_getD, List.getD_eq_getElem?_getD, List.getElem?_map, List.getElem?_eq_getElem hi]
    rfl

theorem strb_eq {l m : List Nat} (hl : ∀ x ∈ l, x < 256) (hm : ∀ x ∈ m, x < 256) : ((strb l).toList == (strb m).toList) = decide (l = m) := by
  by_cases e : l = m
  · subst e; simp
  · have : ¬ (strb l).toList = (strb m).toList := by
      intro h
      apply e
      apply strb_inj hl hm
      unfold strb at *
      rw [Lib.strOfNums_toList, Lib.strOfNums_toList] at h
      unfold Lib.bytesOf at h
      unfold strOfNums
      rw [h]
    simp [e, this]

set_option maxRecDepth 100000 in
theorem equal_any (v1 v2 : Value) (l1 l2 : List Nat) (B : Nat) (W : World) (h1 : BytesAt W B v1 l1) (h2 : BytesAt W B v2 l2) (o1 : ∀ x ∈ l1, x < 256) (o2 : ∀ x ∈ l2, x < 256) :
    Calls Try.prog 56 #[v1, v2] W fun e W' => e = .returned (.bool (decide (l1 = l2))) ∧ W' = W := by
  have c1 := conv_any h1
  have c2 := conv_any h2
  have HI := Lib.hid (strb_eq o1 o2)
  generalize strb l1 = s1 at *
  generalize strb l2 = s2 at *
  clear h1 h2 o1 o2
  go_enter Try.func56, Try.ntmps56
  go_wp2
  go_ret
  exact ⟨by rw [← HI.out]; rfl, rfl⟩

def lowCap (w : World) : Nat := grownCap w 0 0 5
def lowObj (w : World) : Obj := .cells (bytesRow ByteArray.empty (lowCap w)) 5 ((bytesRow ByteArray.empty (lowCap w)).size, (bytesRow ByteArray.empty (lowCap w)).size + 1)
theorem conv_low (w : World) : (convert 9 23 (.string ByteArray.empty)).run Try.prog w = .ok (.slice (some ⟨w.heap.size, 0, none⟩) 0 (lowCap w)) (w.drew.alloc (lowObj w)) :=
  run_bytes_of_string w 9 23 5 ByteArray.empty Try.underlying9 Try.underlying23 Try.underlying5

set_option maxRecDepth 100000 in
theorem lower_any (W : World) : Calls Try.prog 55 #[.agg #[.string ByteArray.empty]] W fun e W' => e = .returned (.agg #[.string ByteArray.empty]) ∧ Below W.heap.size W W' := by
  have c0 := fun w p c => conv_zero w p c
  have c1 := conv_low
  go_enter Try.func55, Try.ntmps55
  go_wp2
  refine wp_loop_rounds 1 ?_
  rw [rounds_succ]
  go_wp2
  (try simp only [Exit.inBlock, Exit.then])
  refine bodyPost_ret (v := .agg #[.string ByteArray.empty]) ?_ rfl ⟨rfl, ?_⟩
  · simp [results, Try.results55, go_sem]
  · exact ((((Below.refl _ _).alloc (Nat.le_refl _) _).alloc (by simp) _).alloc (by simp; omega) _).drew
end Go.Proofs.Qxb6614277a
