/-
'Flat' and 'doubtful' of the reference, at values that are no matrices, and at one matrix of these.
-/
import Derived.Test.YtkglbccdiofnkaaGreatDoorRow
namespace Go.Proofs.YtkglbccdiofnkaaGreatDoor
open Go.RowKit

abbrev FV.list (v : FV) : List Value := [.int .i64 v.kind, .int .i64 v.num, .int .i64 v.den, .string v.text, .slice none 0 0]

theorem valInfo : (Tryz.prog.info? 31).map (fun i => (i.zero, i.size, i.bytes)) = some (some (.agg #[.int .i64 0, .int .i64 0, .int .i64 0, .string ⟨#[]⟩, .slice none 0 0]), 5, 64) := by kernel_rfl

set_option maxRecDepth 100000 in
set_option maxHeartbeats 400000 in
theorem flat_flat (vs : List FV) (v : Value) (w : World) (hr : Row w w.heap.size 5 v (vs.map FV.list)) (hk : ∀ x ∈ vs, x.kind ≠ 5) (hn : vs.length ≤ 1000000) :
    Calls Tryz.prog 40 #[v] w fun e w' => ∃ v', e = .returned v' ∧ Row w' w'.heap.size 5 v' (vs.map FV.list) ∧ Below w.heap.size w w' := by
  obtain ⟨A, c, rfl, hc1, hc2, hc3⟩ := hr
  rw [List.length_map] at hc1 hc3 ⊢
  go_enter Tryz.func40, Tryz.ntmps40
  go_wp2
  go_loopw [3, 4] (fun s i wr => ∃ k : Nat, k ≤ vs.length ∧ i = .int .i64 k ∧ Own wr w.heap.size 31 5 s ((vs.take k).map FV.list) ∧ Below w.heap.size w wr) (fun _ i _ => vs.length - (intOf i).toNat)
  case atStart => exact ⟨0, Nat.zero_le _, rfl, Own.nil_ _ _ _ _, Below.refl _ _⟩
  case round =>
    obtain ⟨k, hk1, rfl, hown, hb⟩ := hrel
    by_cases hlt : k < vs.length
    · obtain ⟨g, o, rfl, hg, hcell⟩ := hc3 (by omega)
      obtain ⟨x, hxk⟩ : ∃ x, vs[k]? = some x := ⟨_, List.getElem?_eq_getElem hlt⟩
      have hkx : (x.kind != 5) = true := by simpa using hk x (List.mem_of_getElem? hxk)
      have hx : (vs.map FV.list)[k]? = some (FV.list x) := by rw [List.getElem?_map, hxk]; rfl
      have q : ∀ j u, (FV.list x)[j]? = some u → wr.cell? ⟨g, o + k * 5 + j, none⟩ = some u := fun j u hu => (hb.cell (p := ⟨g, o + k * 5 + j, none⟩) hg).trans (hcell k _ hx j u hu)
      have q0 := q 0 _ rfl
      have q1 := q 1 _ rfl
      have q2 := q 2 _ rfl
      have q3 := q 3 _ rfl
      have q4 := q 4 _ rfl
      have hu26 := Tryz.underlying31
      have HX : Hid (((vs.take (k + 1)).map FV.list) = (vs.take k).map FV.list ++ [FV.list x]) := by
        rw [Hid, List.take_add_one, hxk]; simp
      have hl : ((vs.take k).map FV.list).length = k := by rw [List.length_map, List.length_take]; omega
      have HL := Lib.hid hl
      clear q hx hxk hcell hc3 hk hc2 hl
      simp only [Nat.add_zero] at q0
      go_wp2_with (at_builtin; refine app_one (w0 := w) w.heap.size rfl (.tmp 18) (.tmp 23) 26 31 _ 5 64 rfl Tryz.underlying26 valInfo rfl (by omega) (by omega) _ _ (FV.list x) rfl rfl rfl (by simp [FV.list, Value.oneCell']) (by simp) hown hb hb.size (by rw [HL.out]; omega) ?_; intro v1 w1 hown1 hb1 _)
      go_roundw
      case rel => exact ⟨k + 1, by omega, by go_num, by rw [HX.out]; exact hown1, hb1⟩
      case measure => simp [intOf]; omega
    · obtain rfl : k = vs.length := by omega
      rw [List.take_length] at hown
      go_wp2
      go_ret
      exact ⟨_, rfl, hown.row, hb⟩

/-- An argument: a single value, or a matrix of single values. -/
inductive Arg where
  | one (v : FV)
  | tbl (rows : List (List FV))
def Arg.flat : Arg → List FV
  | .one v => [v]
  | .tbl rows => rows.flatten
def Arg.fits : Arg → Prop
  | .one v => v.kind ≠ 5
  | .tbl rows => rows.length ≤ 1000000 ∧ ∀ r ∈ rows, ∀ v ∈ r, v.kind ≠ 5

/-- The slice value rv reads al rows of single values. -/
def TRow (w : World) (B : Nat) (rv : Value) (rows : List (List FV)) : Prop :=
  ∃ rs : List Value, Row w B 1 rv (rs.map fun r => [r]) ∧ rs.length = rows.length ∧ ∀ (i : Nat) (r : Value) (row : List FV), rs[i]? = some r → rows[i]? = some row → Row w B 5 r (row.map FV.list)
def ACell (w : World) (B : Nat) (c : List Value) : Arg → Prop
  | .one v => c = FV.list v
  | .tbl rows => ∃ rv, c = [.int .i64 5, .int .i64 0, .int .i64 0, .string ⟨#[]⟩, rv] ∧ TRow w B rv rows
def ARow (w : World) (B : Nat) (v : Value) (al : List Arg) : Prop :=
  ∃ cs : List (List Value), Row w B 5 v cs ∧ cs.length = al.length ∧ ∀ (i : Nat) (c : List Value) (a : Arg), cs[i]? = some c → al[i]? = some a → ACell w B c a

theorem TRow.below {w w' : World} {B : Nat} {rv : Value} {rows : List (List FV)} (h : TRow w B rv rows) (hb : Below B w w') : TRow w' B rv rows := by
  obtain ⟨rs, h1, h2, h3⟩ := h
  exact ⟨rs, h1.below hb, h2, fun i r row hr hrow => (h3 i r row hr hrow).below hb⟩
theorem TRow.more {w : World} {B B' : Nat} {rv : Value} {rows : List (List FV)} (h : TRow w B rv rows) (hB : B ≤ B') : TRow w B' rv rows := by
  obtain ⟨rs, h1, h2, h3⟩ := h
  exact ⟨rs, h1.more hB, h2, fun i r row hr hrow => (h3 i r row hr hrow).more hB⟩
theorem ACell.below {w w' : World} {B : Nat} {c : List Value} {a : Arg} (h : ACell w B c a) (hb : Below B w w') : ACell w' B c a := by
  cases a with
  | one v => exact h
  | tbl rows => obtain ⟨rv, h1, h2⟩ := h; exact ⟨rv, h1, h2.below hb⟩
theorem ACell.more {w : World} {B B' : Nat} {c : List Value} {a : Arg} (h : ACell w B c a) (hB : B ≤ B') : ACell w B' c a := by
  cases a with
  | one v => exact h
  | tbl rows => obtain ⟨rv, h1, h2⟩ := h; exact ⟨rv, h1, h2.more hB⟩
theorem ARow.below {w w' : World} {B : Nat} {v : Value} {al : List Arg} (h : ARow w B v al) (hb : Below B w w') : ARow w' B v al := by
  obtain ⟨cs, h1, h2, h3⟩ := h
  exact ⟨cs, h1.below hb, h2, fun i c a hc ha => (h3 i c a hc ha).below hb⟩
theorem ARow.more {w : World} {B B' : Nat} {v : Value} {al : List Arg} (h : ARow w B v al) (hB : B ≤ B') : ARow w B' v al := by
  obtain ⟨cs, h1, h2, h3⟩ := h
  exact ⟨cs, h1.more hB, h2, fun i c a hc ha => (h3 i c a hc ha).more hB⟩

def flats (al : List Arg) : List FV := al.flatMap Arg.flat
theorem flats_take (al : List Arg) (k : Nat) (a : Arg) (h : al[k]? = some a) : flats (al.take (k + 1)) = flats (al.take k) ++ a.flat := by
  unfold flats
  rw [List.take_add_one, h]
  simp
theorem flats_len (al : List Arg) (k : Nat) : (flats (al.take k)).length ≤ (flats al).length := by
  conv => rhs; rw [← List.take_append_drop k al]
  unfold flats
  rw [List.flatMap_append, List.length_append]
  omega
theorem flatten_take {α : Type} (rows : List (List α)) (j : Nat) (r : List α) (h : rows[j]? = some r) : (rows.take (j + 1)).flatten = (rows.take j).flatten ++ r := by
  rw [List.take_add_one, h]
  simp
theorem flatten_take_len {α : Type} (rows : List (List α)) (j : Nat) : (rows.take j).flatten.length ≤ rows.flatten.length := by
  conv => rhs; rw [← List.take_append_drop j rows]
  rw [List.flatten_append, List.length_append]
  omega

set_option maxRecDepth 100000 in
set_option maxHeartbeats 1000000 in
theorem flat_args (al : List Arg) (v : Value) (w : World) (hr : ARow w w.heap.size v al) (hk : ∀ a ∈ al, a.fits) (hn : al.length ≤ 1000000) (hn2 : (flats al).length ≤ 1000000) :
    Calls Tryz.prog 40 #[v] w fun e w' => ∃ v', e = .returned v' ∧ Row w' w'.heap.size 5 v' ((flats al).map FV.list) ∧ Below w.heap.size w w' := by
  obtain ⟨cs, hcs, hlen, hcell0⟩ := hr
  obtain ⟨A, c, rfl, hc1, hc2, hc3⟩ := hcs
  rw [hlen] at hc1 hc3 ⊢
  go_enter Tryz.func40, Tryz.ntmps40
  go_wp2
  go_loopw [3, 4, 5] (fun s i u5 wr => ∃ k : Nat, k ≤ al.length ∧ i = .int .i64 k ∧ Own wr w.heap.size 31 5 s ((flats (al.take k)).map FV.list) ∧ Below w.heap.size w wr) (fun _ i _ _ => al.length - (intOf i).toNat)
  case atStart => exact ⟨0, Nat.zero_le _, rfl, Own.nil_ _ _ _ _, Below.refl _ _⟩
  case round =>
    obtain ⟨k, hk1, rfl, hown, hb⟩ := hrel
    by_cases hlt : k < al.length
    · obtain ⟨g, o, rfl, hg, hcell⟩ := hc3 (by omega)
      obtain ⟨a, hak⟩ : ∃ a, al[k]? = some a := ⟨_, List.getElem?_eq_getElem hlt⟩
      obtain ⟨x, hxk⟩ : ∃ x, cs[k]? = some x := ⟨_, List.getElem?_eq_getElem (by omega)⟩
      have hac := hcell0 k x a hxk hak
      have hfit := hk a (List.mem_of_getElem? hak)
      have q : ∀ j u, x[j]? = some u → wr.cell? ⟨g, o + k * 5 + j, none⟩ = some u := fun j u hu => (hb.cell (p := ⟨g, o + k * 5 + j, none⟩) hg).trans (hcell k _ hxk j u hu)
      have hft := flats_take al k a hak
      have hfl := flats_len al (k + 1)
      rw [hft, List.length_append] at hfl
      have HL : Hid (((flats (al.take k)).map FV.list).length = (flats (al.take k)).length) := List.length_map ..
      have HX : Hid ((flats (al.take (k + 1))).map FV.list = (flats (al.take k)).map FV.list ++ a.flat.map FV.list) := by rw [Hid, hft, List.map_append]
      have hu26 := Tryz.underlying31
      clear hxk hak hcell hcell0 hc3 hk hc2 hft
      cases a with
      | one f =>
        have hkx : (f.kind != 5) = true := by simpa [Arg.fits] using hfit
        have hx : x = FV.list f := hac
        subst hx
        have q0 := q 0 _ rfl
        have q1 := q 1 _ rfl
        have q2 := q 2 _ rfl
        have q3 := q 3 _ rfl
        have q4 := q 4 _ rfl
        simp only [Nat.add_zero] at q0
        simp only [Arg.flat, List.length_singleton] at hfl
        clear q hfit hac
        go_wp2_with (at_builtin; refine app_one (w0 := w) w.heap.size rfl (.tmp 18) (.tmp 23) 26 31 _ 5 64 rfl Tryz.underlying26 valInfo rfl (by omega) (by omega) _ _ (FV.list f) rfl rfl rfl (by simp [FV.list, Value.oneCell']) (by simp) hown hb hb.size (by rw [HL.out]; omega) ?_; intro v1 w1 hown1 hb1 _)
        go_roundw
        case rel => exact ⟨k + 1, by omega, by go_num, by rw [HX.out]; exact hown1, hb1⟩
        case measure => simp [intOf]; omega
      | tbl rows =>
        obtain ⟨rv, rfl, hT⟩ := hac
        obtain ⟨rs, ⟨A2, c2, rfl, hd1, hd2, hd3⟩, hrl, hrow⟩ := hT
        rw [List.length_map] at hd1 hd3
        have q0 := q 0 _ rfl
        have q4w : Hid (w.cell? ⟨g, o + k * 5 + 4, none⟩ = some (.slice A2 (rs.map fun r => [r]).length c2)) := (hb.cell (p := ⟨g, o + k * 5 + 4, none⟩) hg).symm.trans (q 4 _ rfl)
        rw [List.length_map] at q4w
        have HO : Hid (Own wr w.heap.size 31 5 u3 ((flats (al.take k)).map FV.list)) := hown
        have hrl6 := hfit.1
        have HFIT := Lib.hid hfit.2
        have HROW := Lib.hid hrow
        simp only [Nat.add_zero] at q0
        simp only [Arg.flat] at hfl
        rw [hrl] at hd1 hd3 q4w
        have hd3' := Lib.hid hd3
        have HK : Hid (k < al.length) := hlt
        obtain ⟨wo, rfl⟩ : ∃ wo : World, wo = wr := ⟨_, rfl⟩
        clear q hown hfit hrow hd2 hd3
        go_wp2_with fail
        go_loopw [3, 5] (fun s i wr => ∃ j : Nat, j ≤ rows.length ∧ i = .int .i64 j ∧ Own wr w.heap.size 31 5 s ((flats (al.take k) ++ (rows.take j).flatten).map FV.list) ∧ Below w.heap.size w wr) (fun _ i _ => rows.length - (intOf i).toNat)
        case atStart => exact ⟨0, Nat.zero_le _, rfl, by simpa using HO.out, hb⟩
        case round =>
          obtain ⟨j, hj1, rfl, hown, hb'⟩ := hrel
          have q4 := (hb'.cell (p := ⟨g, o + k * 5 + 4, none⟩) hg).trans q4w.out
          by_cases hltj : j < rows.length
          · obtain ⟨g2, o2, rfl, hg2, hcell2⟩ := hd3'.out (by omega)
            obtain ⟨row, hrj⟩ : ∃ row, rows[j]? = some row := ⟨_, List.getElem?_eq_getElem hltj⟩
            obtain ⟨r, hrr⟩ : ∃ r, rs[j]? = some r := ⟨_, List.getElem?_eq_getElem (by omega)⟩
            have HR : Row wr wr.heap.size 5 r (row.map FV.list) := ((HROW.out j r row hrr hrj).below hb').more hb'.size
            have hr0 := (hb'.cell (p := ⟨g2, o2 + j * 1 + 0, none⟩) hg2).trans (hcell2 j [r] (by rw [List.getElem?_map, hrr]; rfl) 0 r rfl)
            simp only [Nat.add_zero, Nat.mul_one] at hr0
            have hkr : ∀ x ∈ row, x.kind ≠ 5 := HFIT.out row (List.mem_of_getElem? hrj)
            have hft := flatten_take rows j row hrj
            have hfl2 := flatten_take_len rows (j + 1)
            rw [hft, List.length_append] at hfl2
            have HL2 : Hid (((flats (al.take k) ++ (rows.take j).flatten).map FV.list).length = (flats (al.take k)).length + (rows.take j).flatten.length) := by rw [Hid, List.length_map, List.length_append]
            have HL3 : Hid ((row.map FV.list).length = row.length) := List.length_map ..
            have HX2 : Hid ((flats (al.take k) ++ (rows.take (j + 1)).flatten).map FV.list = (flats (al.take k) ++ (rows.take j).flatten).map FV.list ++ row.map FV.list) := by rw [Hid, hft, ← List.append_assoc, List.map_append]
            have HJ : Hid (j < rows.length) := hltj
            clear hft hrj hrr hcell2
            go_wp2_with (first
              | (go_at_call 40; refine (flat_flat row r _ HR hkr (by omega)).mono ?_; rintro e w2 ⟨v2, rfl, hR2, hb2⟩)
              | (at_builtin; refine app_row (w0 := w) w.heap.size rfl (.tmp 35) (.tmp 44) 26 31 _ 5 64 rfl Tryz.underlying26 valInfo rfl (by omega) (by omega) _ v2 _ (row.map FV.list) _ rfl rfl hR2 (by simp [FV.list, Value.oneCell']) (hown.below hb2) (hb'.trans (hb2.mono hb'.size)) (Nat.le_trans hb'.size hb2.size) (by rw [HL2.out, HL3.out]; omega) ?_; intro v3 w3 hown3 hb3 _))
            have hltj := HJ.out
            go_roundw
            case rel => exact ⟨j + 1, by omega, by go_num, by rw [HX2.out]; exact hown3, hb3⟩
            case measure => simp [intOf]; omega
          · obtain rfl : j = rows.length := by omega
            rw [List.take_length] at hown
            go_wp2
            have hlt := HK.out
            go_roundw
            case rel => exact ⟨k + 1, by omega, by go_num, by rw [HX.out]; simpa [Arg.flat] using hown, hb'⟩
            case measure => simp [intOf]; omega
    · obtain rfl : k = al.length := by omega
      rw [List.take_length] at hown
      go_wp2
      go_ret
      exact ⟨_, rfl, hown.row, hb⟩

/-- One row, known: its only element. -/
theorem Row.single {w : World} {B sz : Nat} {v : Value} {x : List Value} (h : Row w B sz v [x]) :
    ∃ g o c, v = .slice (some ⟨g, o, none⟩) 1 c ∧ 1 ≤ c ∧ g < B ∧ ∀ j u, x[j]? = some u → w.cell? ⟨g, o + j, none⟩ = some u := by
  obtain ⟨A, c, h1, h2, h3, h4⟩ := h
  obtain ⟨g, o, rfl, hg, hc⟩ := h4 (by simp)
  exact ⟨g, o, c, h1, h2, hg, fun j u hu => by have := hc 0 x rfl j u hu; simpa using this⟩

set_option maxRecDepth 100000 in
set_option maxHeartbeats 1000000 in
theorem flat_wrap (al : List Arg) (v rv av : Value) (w : World) (hv : Row w w.heap.size 5 v [[.int .i64 5, .int .i64 0, .int .i64 0, .string ⟨#[]⟩, rv]]) (hrv : Row w w.heap.size 1 rv [[av]])
    (hr : ARow w w.heap.size av al) (hk : ∀ a ∈ al, a.fits) (hn : al.length ≤ 1000000) (hn2 : (flats al).length ≤ 1000000) :
    Calls Tryz.prog 40 #[v] w fun e w' => ∃ v', e = .returned v' ∧ Row w' w'.heap.size 5 v' ((flats al).map FV.list) ∧ Below w.heap.size w w' := by
  obtain ⟨g, o, c, rfl, hc1, hg, hcell⟩ := hv.single
  obtain ⟨g2, o2, c2, rfl, hc2, hg2, hcell2⟩ := hrv.single
  have q0w : Hid (w.cell? ⟨g, o, none⟩ = some (.int .i64 5)) := hcell 0 _ rfl
  have q4w : Hid (w.cell? ⟨g, o + 4, none⟩ = some (.slice (some ⟨g2, o2, none⟩) 1 c2)) := hcell 4 _ rfl
  have r0w : Hid (w.cell? ⟨g2, o2, none⟩ = some av) := hcell2 0 _ rfl
  have HA := Lib.hid hr
  clear hv hrv hcell hcell2 hr
  go_enter Tryz.func40, Tryz.ntmps40
  go_wp2
  go_loopw [3, 4, 5] (fun s i u5 wr => Below w.heap.size w wr ∧ ((i = .int .i64 0 ∧ Own wr w.heap.size 31 5 s []) ∨ (i = .int .i64 1 ∧ Own wr w.heap.size 31 5 s ((flats al).map FV.list)))) (fun _ i _ _ => 1 - (intOf i).toNat)
  case atStart => exact ⟨Below.refl _ _, .inl ⟨rfl, Own.nil_ _ _ _ _⟩⟩
  case round =>
    obtain ⟨hb, ⟨rfl, hown⟩ | ⟨rfl, hown⟩⟩ := hrel
    · have q0 := (hb.cell (p := ⟨g, o, none⟩) hg).trans q0w.out
      have q4 := (hb.cell (p := ⟨g, o + 4, none⟩) hg).trans q4w.out
      have HO := Lib.hid hown
      obtain ⟨wo, rfl⟩ : ∃ wo : World, wo = wr := ⟨_, rfl⟩
      clear hown
      go_wp2_with fail
      go_loopw [3, 5] (fun s i wr => Below w.heap.size w wr ∧ ((i = .int .i64 0 ∧ Own wr w.heap.size 31 5 s []) ∨ (i = .int .i64 1 ∧ Own wr w.heap.size 31 5 s ((flats al).map FV.list)))) (fun _ i _ => 1 - (intOf i).toNat)
      case atStart => exact ⟨hb, .inl ⟨rfl, HO.out⟩⟩
      case round =>
        obtain ⟨hb', ⟨rfl, hown⟩ | ⟨rfl, hown⟩⟩ := hrel
        all_goals
          have q0 := (hb'.cell (p := ⟨g, o, none⟩) hg).trans q0w.out
          have q4 := (hb'.cell (p := ⟨g, o + 4, none⟩) hg).trans q4w.out
          have r0 := (hb'.cell (p := ⟨g2, o2, none⟩) hg2).trans r0w.out
        · have HR : ARow wr wr.heap.size av al := (HA.out.below hb').more hb'.size
          go_wp2_with (first
            | (go_at_call 40; refine (flat_args al av _ HR hk hn hn2).mono ?_; rintro e w2 ⟨v2, rfl, hR2, hb2⟩)
            | (at_builtin; refine app_row (w0 := w) w.heap.size rfl (.tmp 35) (.tmp 44) 26 31 _ 5 64 rfl Tryz.underlying26 valInfo rfl (by omega) (by omega) _ v2 _ ((flats al).map FV.list) _ rfl rfl hR2 (by simp [FV.list, Value.oneCell']) (hown.below hb2) (hb'.trans (hb2.mono hb'.size)) (Nat.le_trans hb'.size hb2.size) (by rw [List.length_nil, List.length_map]; omega) ?_; intro v3 w3 hown3 hb3 _))
          go_roundw
          case rel => exact ⟨hb3, .inr ⟨rfl, by simpa using hown3⟩⟩
          case measure => simp [intOf]
        · go_wp2
          go_roundw
          case rel => exact ⟨hb', .inr ⟨rfl, hown⟩⟩
          case measure => simp [intOf]
    · go_wp2
      go_ret
      exact ⟨_, rfl, hown.row, hb⟩

/-- Whether nothing is said of one of these. -/
def anyUnsure (vs : List FV) : Bool := vs.any fun v => decide (v.kind = 6)

theorem anyUnsure_take (vs : List FV) (k : Nat) (x : FV) (h : vs[k]? = some x) : anyUnsure (vs.take (k + 1)) = (anyUnsure (vs.take k) || decide (x.kind = 6)) := by
  unfold anyUnsure
  rw [List.take_add_one, h]
  simp
theorem anyUnsure_of (vs : List FV) (k : Nat) (x : FV) (h : vs[k]? = some x) (hx : x.kind = 6) : anyUnsure vs = true := by
  unfold anyUnsure
  rw [List.any_eq_true]
  exact ⟨x, List.mem_of_getElem? h, by simpa using hx⟩

set_option maxRecDepth 100000 in
set_option maxHeartbeats 1000000 in
theorem doubtful_any (k n d : Int) (t : ByteArray) (A : Option Addr) (l c : Nat) (vs : List FV) (w : World) (hn : vs.length ≤ 1000000)
    (hF : ∀ (W : World) (v : Value), Below w.heap.size w W → Row W W.heap.size 5 v [[.int .i64 k, .int .i64 n, .int .i64 d, .string t, .slice A l c]] →
      Calls Tryz.prog 40 #[v] W fun e w' => ∃ v', e = .returned v' ∧ Row w' w'.heap.size 5 v' (vs.map FV.list) ∧ Below W.heap.size W w') :
    Calls Tryz.prog 24 #[.agg #[.int .i64 k, .int .i64 n, .int .i64 d, .string t, .slice A l c]] w fun e w' => e = .returned (.bool (anyUnsure vs)) ∧ Below w.heap.size w w' := by
  have HF := Lib.hid hF
  clear hF
  have hu26 := Tryz.underlying31
  go_enter Tryz.func24, Tryz.ntmps24
  go_wp2_with (go_at_call 40; refine (HF.out _ _ (((Below.refl _ _).alloc (Nat.le_refl _) _).alloc (by simp) _) (Row.lit1 _ _ [_, _, _, _, _] _ (by simp))).mono ?_; rintro e w2 ⟨v2, rfl, hR2, hb2⟩)
  have hb3 : Below w.heap.size w w2 := (((Below.refl w.heap.size w).alloc (Nat.le_refl _) _).alloc (by simp) _).trans (hb2.mono (by simp; omega))
  clear hb2 HF
  obtain ⟨A2, c2, rfl, hc1, hc2, hc3⟩ := hR2
  rw [List.length_map] at hc1 hc3 ⊢
  have HC := Lib.hid hc3
  clear hc2 hc3
  go_loop [4] (fun i => ∃ k : Nat, k ≤ vs.length ∧ i = .int .i64 k ∧ anyUnsure (vs.take k) = false) (fun i => vs.length - (intOf i).toNat)
  case atStart => exact ⟨0, Nat.zero_le _, rfl, rfl⟩
  case round =>
    obtain ⟨k, hk1, rfl, hu⟩ := hrel
    have HU := Lib.hid hu
    clear hu
    by_cases hlt : k < vs.length
    · obtain ⟨g, o, rfl, hg, hcell⟩ := HC.out (by omega)
      obtain ⟨x, hxk⟩ : ∃ x, vs[k]? = some x := ⟨_, List.getElem?_eq_getElem hlt⟩
      have q0 := hcell k (FV.list x) (by rw [List.getElem?_map, hxk]; rfl) 0 _ rfl
      simp only [Nat.add_zero] at q0
      have HX : Hid (vs[k]? = some x) := hxk
      have HK : Hid (k < vs.length) := hlt
      clear hcell hxk
      by_cases h6 : x.kind = 6
      · have t6 : (x.kind == 6) = true := by simpa using h6
        have HR := Lib.hid (anyUnsure_of vs k x HX.out h6)
        clear h6
        go_wp2
        go_ret
        exact ⟨by rw [HR.out]; rfl, hb3⟩
      · have t6 : (x.kind == 6) = false := by simpa using h6
        have HR := Lib.hid (anyUnsure_take vs k x HX.out)
        have H6 := Lib.hid h6
        clear h6
        go_wp2
        have hlt := HK.out
        go_round
        case rel => exact ⟨k + 1, by omega, by go_num, by rw [HR.out, HU.out]; simpa using H6.out⟩
        case measure => simp [intOf]; omega
    · obtain rfl : k = vs.length := by omega
      have HV : Hid (anyUnsure vs = false) := by have := HU.out; rwa [List.take_length] at this
      go_wp2
      go_ret
      exact ⟨by rw [HV.out]; rfl, hb3⟩

end Go.Proofs.YtkglbccdiofnkaaGreatDoor
