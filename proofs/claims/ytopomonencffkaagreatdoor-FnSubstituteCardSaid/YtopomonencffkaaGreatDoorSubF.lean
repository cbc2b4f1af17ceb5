/-
The package's search in texts: zzIndex and zzReplaceAll.
-/
import Derived.Test.YtopomonencffkaaGreatDoorSubP
import Derived.Test.YtopomonencffkaaGreatDoorRow
import Derived.Lib.AppendStr
import Derived.Laws.IdiomStrings
namespace Go.Proofs.YtopomonencffkaaGreatDoor
open Go.RowKit

/-- Bytes in a slice of the call's own. -/
def OwnB (w : World) (base : Nat) (e : TypeId) (v : Value) (O : ByteArray) : Prop := w.ownsRow base e 1 v O.size (Lib.strCells O)
theorem OwnB.nil_ (w : World) (base : Nat) (e : TypeId) : OwnB w base e (.slice none 0 0) ⟨#[]⟩ := World.ownsRow_nil w base e 1
theorem OwnB.below {w w' : World} {base : Nat} {e : TypeId} {v : Value} {O : ByteArray} (h : OwnB w base e v O) (hb : Below w.heap.size w w') : OwnB w' base e v O :=
  World.ownsRow.kept (row := none) h ⟨hb.os, hb.tape, hb.output, hb.size, fun i hi _ => hb.block i hi⟩ (by cases v.ownBlock <;> simp)
theorem strCells_append (O s : ByteArray) : Lib.strCells (O ++ s) = Lib.strCells O ++ Lib.strCells s := by
  simp [Lib.strCells]
section
variable {P : Program} {ops : Array Oper} {rest : List Oper} {o : Oper} {a : Act} {Q : Exit → Act → World → Prop}
/-- append(v, s...), s a string: behind 'at_builtin'. -/
theorem app_str {w0 W : World} (base : Nat) (hgd : o.guard = none) (sl x : Operand) (t u e : TypeId)
    (ho : o.op = .call { callee := .builtin .append, args := #[sl, x], argTypes := #[t, u] })
    (ht : P.underlying t = some (.slice e)) (hu : P.underlying u = some .string) (hinfo : (P.info? e).map (fun i => (i.zero, i.size, i.bytes)) = some (some (.int .u8 0), 1, 1))
    (v : Value) (O s : ByteArray) (hs : a.eval sl = v) (hx : a.eval x = .string s)
    (HO : OwnB W base e v O) (HB : Below base w0 W) (hbase : base ≤ W.heap.size) (hl : O.size + s.size ≤ 140737488355328)
    (h : ∀ v1 w1, OwnB w1 base e v1 (O ++ s) → Below base w0 w1 → wpList P ops Q rest (a.put o.dst v1) w1) :
    wpList P ops Q (o :: rest) a W := by
  obtain ⟨i0, hi, hzz⟩ := Option.map_eq_some_iff.1 hinfo
  simp only [Prod.mk.injEq] at hzz
  obtain ⟨hz0, hz1, hz2⟩ := hzz
  refine Lib.wpList_append_own_string W hgd sl x t u ho base e i0 ht hu hi hz0 hz1 hz2 v O.size (Lib.strCells O) hs HO s hx (by simp only [maxLen]; omega) hl hbase ?_
  intro v1 w1 hown hg _
  refine h v1 w1 ?_ (HB.grown hg hbase (own_base HO))
  unfold OwnB
  rw [strCells_append, ByteArray.size_append]
  exact hown
end
/-- string(v). -/
theorem conv_own {P : Program} {w : World} {base : Nat} {t u e : TypeId} {v : Value} {O : ByteArray} (ht : P.underlying t = some (.slice e)) (he : P.underlying e = some (.int .u8)) (hu : P.underlying u = some .string)
    (h : OwnB w base e v O) : (convert t u v).run P w = .ok (.string O) w := by
  have hl : O.data.toList.length = O.size := Array.length_toList
  rcases h.2 with ⟨rfl, h0⟩ | ⟨g, cap, cur, rfl, _⟩
  · have e0 : O = ⟨#[]⟩ := by
      have : O.data = #[] := Array.eq_empty_of_size_eq_zero h0
      cases O
      simp at this
      rw [this]
    rw [run_convert_bytes_string w t u e none 0 0 ht he hu, e0]
    simp [Conv.bytesToString, Sem.run_pure]
    try rfl
  · have hc : ∀ j (hj : j < O.data.toList.length), w.cell? ((⟨g, 0, none⟩ : Addr).add j) = some (.int .u8 (O.data.toList[j].toNat : Int)) := by
      intro j hj
      refine h.cells (g := g) rfl j _ ?_
      unfold Lib.strCells
      rw [List.getElem?_map, List.getElem?_eq_getElem hj]
      rfl
    have := run_convert_bytes_back w t u e ⟨g, 0, none⟩ cap O.data.toList ht he hu hc
    rw [hl] at this
    exact this

/-- The text in a value. -/
def strOf : Value → ByteArray
  | .string b => b
  | _ => ⟨#[]⟩
theorem byteInfo : (Tryz.prog.info? 5).map (fun i => (i.zero, i.size, i.bytes)) = some (some (.int .u8 0), 1, 1) := by kernel_rfl

set_option maxRecDepth 100000 in
set_option maxHeartbeats 1000000 in
theorem index_any (p s : ByteArray) (w : World) (hp : p.size ≤ 1000000000) (hs : s.size ≤ 1000000000) :
    Calls Tryz.prog 66 #[.string s, .string p] w fun e w' => e = .returned (.int .i64 (idxI (idx p s 0))) ∧ w = w' := by
  obtain ⟨R, hR⟩ : ∃ R, R = idx p s 0 := ⟨_, rfl⟩
  rw [← hR]
  have HR0 := Lib.hid hR
  clear hR
  go_enter Tryz.func66, Tryz.ntmps66
  go_wp2
  go_loop [5] (fun x => ∃ k : Nat, k ≤ s.size + 1 ∧ x = .int .i64 k ∧ idx p s k = R) (fun x => s.size + 1 - (intOf x).toNat)
  case atStart => exact ⟨0, by omega, rfl, HR0.out.symm⟩
  case round =>
    obtain ⟨k, hk2, rfl, hidx⟩ := hrel
    by_cases hle : k + p.size ≤ s.size
    · rw [idx_step hle] at hidx
      have h1 : (k : Int) + (p.size : Int) ≤ (s.size : Int) := by omega
      have h2 : (0 : Int) ≤ (k : Int) := by omega
      have h3 : (k : Int) ≤ (k : Int) + (p.size : Int) := by omega
      have hw : wrap64 ((k : Int) + (p.size : Int)) = (k : Int) + (p.size : Int) := by unfold wrap64; omega
      have HL : Hid (k + p.size ≤ s.size) := hle
      have HX : Hid (∀ n : Nat, (k : Int) + (p.size : Int) = (n : Int) → n = k + p.size) := fun n h => by omega
      by_cases he : s.extract k (k + p.size) = p
      · rw [if_pos he] at hidx
        have HI := Lib.hid hidx
        clear hidx
        go_wp2
        go_ret
        exact ⟨by rw [← HI.out]; rfl, rfl⟩
      · rw [if_neg he] at hidx
        have HI := Lib.hid hidx
        have he2 := bytes_ne he
        clear hidx
        go_wp2
        have hle := HL.out
        go_round
        case rel => exact ⟨k + 1, by omega, by go_num, HI.out⟩
        case measure => simp [intOf]; omega
    · rw [idx_end hle] at hidx
      have h1 : ¬ (k : Int) + (p.size : Int) ≤ (s.size : Int) := by omega
      have hw : wrap64 ((k : Int) + (p.size : Int)) = (k : Int) + (p.size : Int) := by unfold wrap64; omega
      have HI := Lib.hid hidx
      clear hidx hle
      go_wp2
      go_ret
      exact ⟨by rw [← HI.out]; rfl, rfl⟩

/-- What is left behind a place. -/
theorem rest_facts {p s T : ByteArray} {last j : Nat} (hl : last ≤ s.size) (h : idx p s last = some (last + j)) (hp0 : 0 < p.size) (hs : s.size ≤ 1000000) (hT : T = s.extract last s.size) :
    (0 : Int) ≤ (j : Int) ∧ (j : Int) ≤ (T.size : Int) ∧ (j : Int) + (p.size : Int) ≤ (T.size : Int) ∧ (0 : Int) ≤ (j : Int) + (p.size : Int) ∧ ¬ (j : Int) < 0 ∧ wrap64 ((j : Int) + (p.size : Int)) = ((j + p.size : Nat) : Int)
    ∧ T.extract 0 j = s.extract last (last + j) ∧ T.extract (j + p.size) T.size = s.extract (last + j + p.size) s.size ∧ last + j + p.size ≤ s.size ∧ (s.extract (last + j + p.size) s.size).size < T.size := by
  have hTs : T.size = s.size - last := by rw [hT]; simp
  have hk := (idx_some h).2.1
  have hw : wrap64 ((j : Int) + (p.size : Int)) = ((j + p.size : Nat) : Int) := by unfold wrap64; omega
  refine ⟨by omega, by omega, by omega, by omega, by omega, hw, ?_, ?_, hk, ?_⟩
  · rw [hT, ByteArray.extract_extract]
    congr 1
    omega
  · rw [hTs, hT, ByteArray.extract_extract]
    congr 1 <;> omega
  · rw [ByteArray.size_extract, hTs]
    omega
theorem add_le {a b c n : Nat} (h : a + b + c ≤ n) : a + b ≤ n ∧ a + b + c ≤ n := ⟨by omega, h⟩

set_option maxRecDepth 100000 in
set_option maxHeartbeats 1000000 in
theorem replaceAll_any (s p q : ByteArray) (w : World) (hp0 : 0 < p.size) (hp : p.size ≤ 1000000) (hs : s.size ≤ 1000000) (hR : (sub s p q 0).size ≤ 1000000) :
    Calls Tryz.prog 63 #[.string s, .string p, .string q] w fun e w' => e = .returned (.string (sub s p q 0)) ∧ Below w.heap.size w w' := by
  obtain ⟨R, hRR⟩ : ∃ R, R = sub s p q 0 := ⟨_, rfl⟩
  rw [← hRR] at hR ⊢
  have HRR := Lib.hid hRR
  clear hRR
  go_enter Tryz.func63, Tryz.ntmps63
  go_wp2
  go_loopw [0, 7] (fun x o wr => ∃ (last many : Nat) (O : ByteArray), last ≤ s.size ∧ x = .string (s.extract last s.size) ∧ OwnB wr w.heap.size 5 o O ∧ Below w.heap.size w wr ∧ subF s p q 0 O last many = R) (fun x _ _ => (strOf x).size)
  case atStart => exact ⟨0, 0, ⟨#[]⟩, Nat.zero_le _, by rw [ByteArray.extract_zero_size], OwnB.nil_ _ _ _, Below.refl _ _, HRR.out.symm⟩
  case round =>
    obtain ⟨last, many, O, hl, rfl, hown, hb, hsub⟩ := hrel
    have hrest := idx_rest p s last hl _ 0 rfl
    rw [Nat.add_zero] at hrest
    obtain ⟨T, hT⟩ : ∃ T, T = s.extract last s.size := ⟨_, rfl⟩
    have hTs : T.size = s.size - last := by rw [hT]; simp
    have hOR := subF_size s p q 0 O last many
    rw [hsub] at hOR
    rw [← hT] at hrest ⊢
    have HIN : Hid (∀ W : World, _) := fun W => index_any p T W (by omega) (by omega)
    cases hi : idx p s last with
    | none =>
      rw [hi] at hrest
      rw [hrest] at HIN
      have HE : Hid (O ++ T = R) := by rw [Hid, hT, ← hsub, subF_none hi]
      have hlen : O.size + T.size ≤ 140737488355328 := by
        have h := subF_size s p q 0 O last many
        rw [hsub, ← HE.out, ByteArray.size_append] at h
        rw [← HE.out, ByteArray.size_append] at hR
        exact Nat.le_trans hR (by decide)
      have HLen := Lib.hid hlen
      have HB := Lib.hid hb
      have HO := Lib.hid hown
      clear hsub hrest hT hTs hOR hi hb hown hlen
      go_wp2_with (first
        | (go_at_call 66; refine (HIN.out _).mono ?_; rintro e w1 ⟨rfl, rfl⟩; simp only [Option.map_none, idxI])
        | (at_builtin; refine app_str (w0 := w) w.heap.size rfl (.tmp 14) (.tmp 15) 128 9 5 rfl Tryz.underlying128 Tryz.underlying9 byteInfo _ O T rfl rfl HO.out HB.out HB.out.size HLen.out ?_; intro v2 w2 hown2 hb2))
      rw [conv_own Tryz.underlying128 Tryz.underlying5 Tryz.underlying9 hown2, HE.out]
      go_wp2
      go_ret
      exact ⟨rfl, hb2⟩
    | some k =>
      have hk := idx_some hi
      rw [hi] at hrest
      rw [hrest] at HIN
      obtain ⟨j, rfl⟩ : ∃ j, k = last + j := ⟨k - last, by omega⟩
      have HIN2 : Hid (∀ W, Calls Tryz.prog 66 #[.string T, .string p] W fun e w' => e = .returned (.int .i64 (j : Int)) ∧ W = w') := fun W => by
        have := HIN.out W
        rwa [show idxI (Option.map (fun x => x - last) (some (last + j))) = (j : Int) by simp [idxI]] at this
      obtain ⟨h1, h2, h3, h4, h5, hw, ht0, ht1, hle, hlt⟩ := rest_facts hl hi hp0 hs hT
      have HT0 := Lib.hid ht0
      have HT1 := Lib.hid ht1
      have HLE := Lib.hid hle
      have HLT := Lib.hid hlt
      have hsub2 := hsub
      rw [subF_some hp0 hi, if_pos (.inl rfl)] at hsub2
      have hO2 := subF_size s p q 0 (O ++ s.extract last (last + j) ++ q) (last + j + p.size) (many + 1)
      rw [hsub2, ByteArray.size_append, ByteArray.size_append] at hO2
      obtain ⟨l1, l2⟩ := add_le (Nat.le_trans hO2 hR)
      have HL1 : Hid (O.size + (s.extract last (last + j)).size ≤ 140737488355328) := Nat.le_trans l1 (by decide)
      have HL2 : Hid ((O ++ s.extract last (last + j)).size + q.size ≤ 140737488355328) := by
        rw [Hid, ByteArray.size_append]
        exact Nat.le_trans l2 (by decide)
      have HSUB := Lib.hid hsub2
      have HB := Lib.hid hb
      have HO := Lib.hid hown
      clear hsub hsub2 hrest hT hTs hOR hO2 hi hb hown hk HIN hl hp0 hp hs hR ht0 ht1 hle hlt l1 l2
      go_wp2_with (first
        | (go_at_call 66; refine (HIN2.out _).mono ?_; rintro e w1 ⟨rfl, rfl⟩)
        | (at_builtin; rw [HT0.out]; refine app_str (w0 := w) w.heap.size rfl (.tmp 18) (.tmp 21) 128 9 5 rfl Tryz.underlying128 Tryz.underlying9 byteInfo _ O _ rfl rfl HO.out HB.out HB.out.size HL1.out ?_; intro v2 w2 hown2 hb2)
        | (at_builtin; refine app_str (w0 := w) w.heap.size rfl (.tmp 22) (.tmp 23) 128 9 5 rfl Tryz.underlying128 Tryz.underlying9 byteInfo _ _ q rfl rfl hown2 hb2 hb2.size HL2.out ?_; intro v3 w3 hown3 hb3))
      rw [HT1.out]
      go_roundw
      case rel => exact ⟨last + j + p.size, many + 1, _, HLE.out, rfl, hown3, hb3, HSUB.out⟩
      case measure => exact HLT.out

end Go.Proofs.YtopomonencffkaaGreatDoor
