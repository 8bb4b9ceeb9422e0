/-
  Strings as lists of bytes; a string made of bytes in memory.
-/
import Derived.Test.Qxb6600333aScanner
import Derived.Laws.BytesString
import Derived.Laws.Cells
namespace Go.Proofs.Qxb6600333a
open Go.RowKit
set_option linter.unusedVariables false

theorem bt_list (s : ByteArray) (k : Nat) : bt s k = (s.data.toList[k]?.map (fun c => (c.toNat : Int))).getD 0 := by
  unfold bt
  split
  · rename_i h
    have h' : k < s.data.toList.length := by simpa using h
    rw [List.getElem?_eq_getElem h']
    rfl
  · rename_i h
    have h' : s.data.toList.length ≤ k := by simpa using h
    rw [List.getElem?_eq_none h']
    rfl

theorem size_list (s : ByteArray) : s.data.toList.length = s.size := by simp

theorem list_append (a b : ByteArray) : (a ++ b).data.toList = a.data.toList ++ b.data.toList := by
  rw [ByteArray.data_append, Array.toList_append]

theorem list_extract (s : ByteArray) (i j : Nat) : (s.extract i j).data.toList = (s.data.toList.drop i).take (j - i) := by
  rw [ByteArray.data_extract, Array.toList_extract, List.extract_eq_take_drop]

theorem ext_list {a b : ByteArray} (h : a.data.toList = b.data.toList) : a = b := Go.WideShapes.bytes_inj h

theorem bt_append_left (a b : ByteArray) (k : Nat) (h : k < a.size) : bt (a ++ b) k = bt a k := by
  rw [bt_list, bt_list, list_append, List.getElem?_append_left (by rw [size_list]; exact h)]

theorem bt_append_right (a b : ByteArray) (k : Nat) (h : a.size ≤ k) : bt (a ++ b) k = bt b (k - a.size) := by
  rw [bt_list, bt_list, list_append, List.getElem?_append_right (by rw [size_list]; exact h), size_list]

theorem size_append (a b : ByteArray) : (a ++ b).size = a.size + b.size := by
  rw [← size_list, list_append, List.length_append, size_list, size_list]

theorem extract_append_right (a b : ByteArray) : (a ++ b).extract a.size (a ++ b).size = b := by
  apply ext_list
  rw [list_extract, list_append, size_append, ← size_list a, List.drop_left]
  rw [List.take_of_length_le]
  rw [size_list, size_list]
  omega

/-- The string of these bytes. -/
def ofInts (ns : List Int) : ByteArray := ns.foldl (fun r n => r.push (UInt8.ofNat n.toNat)) ByteArray.empty

theorem fold_list (ns : List Int) : ∀ s : ByteArray, (ns.foldl (fun r n => r.push (UInt8.ofNat n.toNat)) s).data.toList = s.data.toList ++ ns.map fun n => UInt8.ofNat n.toNat := by
  induction ns with
  | nil => intro s; simp
  | cons n ns ih =>
    intro s
    rw [List.foldl_cons, ih, ByteArray.data_push]
    simp

theorem list_ofInts (ns : List Int) : (ofInts ns).data.toList = ns.map fun n => UInt8.ofNat n.toNat := by
  unfold ofInts
  rw [fold_list]
  rfl

theorem size_ofInts (ns : List Int) : (ofInts ns).size = ns.length := by
  rw [← size_list, list_ofInts, List.length_map]

theorem bt_ofInts (ns : List Int) (k : Nat) (h : k < ns.length) (h0 : 0 ≤ ns[k]) (h1 : ns[k] ≤ 255) : bt (ofInts ns) k = ns[k] := by
  rw [bt_list, list_ofInts, List.getElem?_map, List.getElem?_eq_getElem h]
  show ((UInt8.ofNat (ns[k]).toNat).toNat : Int) = ns[k]
  rw [UInt8.toNat_ofNat']
  omega

/-- string(b) of a slice of bytes whose cells are known. -/
theorem conv_bytes (w : World) (a : Addr) (n cap : Nat) (ns : List Int) (hn : ns.length = n) (h : ∀ j, j < n → w.cell? (a.add j) = some (.int .u8 (ns.getD j 0))) :
    (convert 30 9 (.slice (some a) n cap)).run Try.prog w = .ok (.string (ofInts ns)) w := by
  rw [run_convert_bytes_string w 30 9 5 (some a) n cap Try.underlying30 Try.underlying5 Try.underlying9]
  refine run_bytesToString w a n cap ns ?_
  have h1 := run_loadCells_list (P := Try.prog) w a (ns.map (Value.int .u8)) ?_
  · rw [List.length_map, hn] at h1
    exact h1
  · intro j v hj
    rw [List.getElem?_map] at hj
    obtain ⟨x, hx, rfl⟩ := Option.map_eq_some_iff.1 hj
    obtain ⟨hlt, hx'⟩ := List.getElem?_eq_some_iff.1 hx
    rw [h j (by omega), List.getD_eq_getElem?_getD, hx]
    rfl
end Go.Proofs.Qxb6600333a
