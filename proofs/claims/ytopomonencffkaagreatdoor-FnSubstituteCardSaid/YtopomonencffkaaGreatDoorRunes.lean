/-
A text of bytes below 128 as runes, and back.
-/
import Derived.Test.YtopomonencffkaaGreatDoorTexts
import Derived.Laws.IdiomStrings
import Derived.Laws.Cover4
import Derived.Laws.RangeString
namespace Go.Proofs.YtopomonencffkaaGreatDoor
open Go.RowKit

theorem plain_lt {s : ByteArray} (ha : asciiB s = true) : ∀ b ∈ s.data.toList, b.toNat < 128 := by
  intro b hb
  have := List.all_eq_true.1 ha b hb
  simp [plainB] at this
  omega

/-- Bytes as runes. -/
def rns (l : List UInt8) : List Value := l.map fun b => Value.int .i32 (b.toNat : Int)

theorem runesFrom_ascii (s : ByteArray) (ha : ∀ b ∈ s.data.toList, b.toNat < 128) : ∀ (bound i : Nat) (acc : Array Value), i + bound = s.size → Conv.runesFrom s bound i acc = acc ++ (rns (s.data.toList.drop i)).toArray := by
  intro bound
  have hlen : s.data.toList.length = s.size := Array.length_toList
  induction bound with
  | zero =>
    intro i acc h
    have : s.data.toList.drop i = [] := List.drop_eq_nil_of_le (by omega)
    simp [Conv.runesFrom, this, rns]
  | succ n ih =>
    intro i acc h
    have hi : i < s.size := by omega
    have hil : i < s.data.toList.length := by omega
    have hsi : s[i] = s.data.toList[i] := by rw [Array.getElem_toList]; rfl
    have hd := decode_ascii s i hi (by rw [hsi]; exact ha _ (List.getElem_mem hil))
    unfold Conv.runesFrom
    rw [if_pos hi, hd]
    show Conv.runesFrom s n (i + 1) (acc.push (.int .i32 (Int.ofNat (s[i]).toNat))) = _
    rw [ih (i + 1) _ (by omega), List.drop_eq_getElem_cons hil, hsi]
    simp [rns]

theorem runes_ascii (s : ByteArray) (ha : asciiB s = true) : Conv.runesFrom s s.size 0 #[] = (rns s.data.toList).toArray := by
  rw [runesFrom_ascii s (plain_lt ha) s.size 0 #[] (by omega)]
  simp

theorem encode_lt (b : UInt8) (h : b.toNat < 128) : Utf8.encode (b.toNat : Int) = ⟨#[b]⟩ := by
  have hv : Utf8.valid (b.toNat : Int) = true := by simp [Utf8.valid]; omega
  unfold Utf8.encode
  simp [hv, h]

theorem fold_runes (l : List UInt8) (h : ∀ b ∈ l, b.toNat < 128) : ∀ r : ByteArray, (l.map fun b => (b.toNat : Int)).foldl (fun r n => r ++ Utf8.encode n) r = r ++ ⟨l.toArray⟩ := by
  induction l with
  | nil => intro r; apply ByteArray.ext; simp
  | cons b l ih =>
    intro r
    rw [List.map_cons, List.foldl_cons, ih (fun x hx => h x (by simp [hx])), encode_lt b (h b (by simp))]
    apply ByteArray.ext
    simp

theorem runesBytes_ascii (l : List UInt8) (h : ∀ b ∈ l, b.toNat < 128) : runesBytes (l.map fun b => (b.toNat : Int)) = ⟨l.toArray⟩ := by
  unfold runesBytes
  rw [fold_runes l h]
  apply ByteArray.ext
  simp

/-- Runes that lie in memory, as a text. -/
theorem conv_runes (W : World) (g o k c : Nat) (l : List UInt8) (hk : l.length = k) (h : ∀ b ∈ l, b.toNat < 128) (hc : ∀ j b, l[j]? = some b → W.cell? ⟨g, o + j, none⟩ = some (.int .i32 (b.toNat : Int))) :
    (convert 132 9 (.slice (some ⟨g, o, none⟩) k c)).run Tryz.prog W = .ok (.string ⟨l.toArray⟩) W := by
  subst hk
  have hl : (l.map fun b => (b.toNat : Int)).length = l.length := List.length_map ..
  have := run_convert_runes (P := Tryz.prog) W 132 9 21 ⟨g, o, none⟩ l.length c (l.map fun b => (b.toNat : Int)) (by omega) Tryz.underlying132 Tryz.underlying21 Tryz.underlying9 (fun j hj => by
    rw [hl] at hj
    have hb := hc j l[j] (List.getElem?_eq_getElem hj)
    have ha : (⟨g, o, none⟩ : Addr).add j = ⟨g, o + j, none⟩ := by unfold Addr.add; split <;> simp_all
    rw [ha, hb]
    simp [List.getD, List.getElem?_eq_getElem hj])
  rw [this, ← hl, List.take_length, runesBytes_ascii l h]

/-- A text of such bytes, as runes in memory. -/
theorem runes_conv (W : World) (s : ByteArray) (ha : asciiB s = true) (hs : s.size ≤ 1000000000) :
    ∃ W' c, (convert 9 132 (.string s)).run Tryz.prog W = .ok (.slice (some ⟨W.heap.size, 0, none⟩) s.size c) W' ∧ s.size ≤ c ∧ Below W.heap.size W W' ∧ W.heap.size < W'.heap.size ∧
      ∀ j b, s.data.toList[j]? = some b → W'.cell? ⟨W.heap.size, j, none⟩ = some (.int .i32 (b.toNat : Int)) := by
  have hz : (Conv.runesFrom s s.size 0 #[]).size = s.size := by rw [runes_ascii s ha]; simp [rns]
  have := run_runes_of_string (P := Tryz.prog) W 9 132 21 s Tryz.underlying9 Tryz.underlying132 Tryz.underlying21 (by omega)
  rw [hz] at this
  refine ⟨_, _, this, grownCap_ge W s.size 0 _, (Below.refl _ _).drew.alloc (Nat.le_refl _) _, by simp, fun j b hj => ?_⟩
  rw [runes_ascii s ha]
  have hjl : j < s.data.toList.length := (List.getElem?_eq_some_iff.1 hj).1
  rw [show (⟨W.heap.size, j, none⟩ : Addr) = ⟨W.drew.heap.size, j, none⟩ from rfl, cell_of_row _ _ _ _ _ _ (heap_alloc_new W.drew _)]
  have hjr : (rns s.data.toList)[j]? = some (.int .i32 (b.toNat : Int)) := by unfold rns; rw [List.getElem?_map, hj]; rfl
  rw [Array.getElem?_append_left (by simpa [rns] using hjl)]
  simpa using hjr

theorem extract_list (s : ByteArray) (i j : Nat) : (⟨((s.data.toList.take j).drop i).toArray⟩ : ByteArray) = s.extract i j := by
  apply ByteArray.ext
  rw [ByteArray.data_extract]
  apply Array.ext'
  simp [Array.toList_extract, List.extract_eq_take_drop, List.drop_take]

end Go.Proofs.YtopomonencffkaaGreatDoor
