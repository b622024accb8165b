/-
  (*timeReader).number and ZZNumber: their contracts.
-/
import Derived.Test.Qxb6605287aNumPlain
import Derived.Test.Qxb6605287aRows
import Derived.WalkKit
import Derived.WalkLawsBesides
import Derived.WalkSpells
import Derived.Lib.ConvBytes
import Derived.Deep.DeepCutAuto
import Derived.Deep.QuietTactic
import Derived.BigQuiet
namespace Go.Proofs.Qxb6605287a
open Go.RowKit

/-- The reader in block B: its rest, its ok; both may be written. -/
def Rd (w : World) (B : Nat) (s : ByteArray) (ok : Bool) : Prop :=
  w.cell? ⟨B, 0, none⟩ = some (.string s) ∧ w.cell? ⟨B, 1, none⟩ = some (.bool ok) ∧ w.frozen? ⟨B, 0, none⟩ = false ∧ w.frozen? ⟨B, 1, none⟩ = false
theorem bel_set {B : Nat} {w wx : World} (h : Below B w wx) (j : Nat) (u : Value) : Below B w (wx.setCell ⟨B, j, none⟩ u) := h.setCell (Nat.le_refl B) u
theorem Rd.of {w wx : World} {B : Nat} {s : ByteArray} {ok : Bool} (h : Rd w B s ok) {N : Nat} (hb : Below N w wx) (hB : B < N) : Rd wx B s ok :=
  ⟨(hb.cell (p := ⟨B, 0, none⟩) hB).trans h.1, (hb.cell (p := ⟨B, 1, none⟩) hB).trans h.2.1, (hb.frozen (p := ⟨B, 0, none⟩) hB).trans h.2.2.1, (hb.frozen (p := ⟨B, 1, none⟩) hB).trans h.2.2.2⟩
theorem Rd.setOk {w : World} {B : Nat} {s : ByteArray} {ok : Bool} (h : Rd w B s ok) (b : Bool) : Rd (w.setCell ⟨B, 1, none⟩ (.bool b)) B s b := by
  obtain ⟨h1, h2, h3, h4⟩ := h
  refine ⟨?_, ?_, ?_, ?_⟩ <;> go_simp
theorem Rd.setRest {w : World} {B : Nat} {s : ByteArray} {ok : Bool} (h : Rd w B s ok) (t : ByteArray) : Rd (w.setCell ⟨B, 0, none⟩ (.string t)) B t ok := by
  obtain ⟨h1, h2, h3, h4⟩ := h
  refine ⟨?_, ?_, ?_, ?_⟩ <;> go_simp

set_option maxHeartbeats 1000000 in
theorem num_bad (B : Nat) (s : ByteArray) (ok : Bool) (m lo hi : Int) (w : World) (hr : Rd w B s ok) (_hs : s.size ≤ 9223372036854775807) (h : ok = false ∨ ok = true ∧ (s.size : Int) < m) :
    Calls Try.prog 18 #[.pointer (some ⟨B, 0, none⟩), .int .i64 m, .int .i64 lo, .int .i64 hi] w fun e w' => e = .returned (.int .i64 0) ∧ Rd w' B s false ∧ Below B w w' := by
  have HR : Hid (Rd w B s ok) := hr
  obtain ⟨h1, h2, h3, h4⟩ := hr
  rcases h with rfl | ⟨rfl, h⟩
  · go_enter Try.func18, Try.ntmps18
    go_wp2
    go_ret
    exact ⟨rfl, HR.out.setOk false, bel_set (Below.refl _ _) _ _⟩
  · go_enter Try.func18, Try.ntmps18
    go_wp2
    go_ret
    exact ⟨rfl, HR.out.setOk false, bel_set (Below.refl _ _) _ _⟩

theorem below_bytes (w : World) (e : TypeId) (t : ByteArray) : Below w.heap.size w (Lib.bytesWorld w e t) :=
  ⟨rfl, rfl, rfl, by rw [Lib.bytesWorld_size]; omega, fun k hk => Lib.bytesWorld_at_old w e t k hk⟩
theorem byt_data {s : ByteArray} {i : Nat} (h : i < s.size) : (s.data.toList.getD i 0).toNat = byt s i := by
  rw [byt_in h]
  have h' : i < s.data.toList.length := by simpa using h
  simp only [List.getD, List.getElem?_eq_getElem h', Option.getD_some]
  rfl
theorem byt_head {s : ByteArray} {m i : Nat} (hm : m ≤ s.size) (hi : i < m) : byt (s.extract 0 m) i = byt s i := by
  have hz : i < (s.extract 0 m).size := by rw [ByteArray.size_extract]; omega
  rw [byt_in hz, byt_in (show i < s.size by omega), ByteArray.getElem_extract]
  simp
/-- lo ≤ n ≤ hi. -/
def inB (lo hi n : Int) : Bool := decide (lo ≤ n ∧ n ≤ hi)
theorem okB (lo hi n : Int) (h1 : ¬ n < lo) (h2 : ¬ hi < n) : inB lo hi n = true := decide_eq_true (by omega)
theorem noB (lo hi n : Int) (h : n < lo ∨ hi < n) : inB lo hi n = false := decide_eq_false (by omega)

/-- What number leaves where the reader is ok and there are m bytes. -/
def NumPost (B : Nat) (s : ByteArray) (m : Nat) (lo hi : Int) (w : World) (e : Ending) (w' : World) : Prop :=
  ((∀ i, i < m → digAt s i) → e = .returned (.int .i64 (wrap64 (hor s m))) ∧ Rd w' B (s.extract m s.size) (inB lo hi (wrap64 (hor s m)))) ∧
  ((∃ i, i < m ∧ ¬ digAt s i) → e = .returned (.int .i64 0) ∧ Rd w' B s false) ∧ Below B w w'
theorem post_bad {B : Nat} {s : ByteArray} {m : Nat} {lo hi : Int} {w w' : World} {k : Nat} (hk : k < m) (h : ¬ digAt s k) (hr : Rd w' B s false) (hb : Below B w w') : NumPost B s m lo hi w (.returned (.int .i64 0)) w' :=
  ⟨fun g => absurd (g k hk) h, fun _ => ⟨rfl, hr⟩, hb⟩
theorem post_good {B : Nat} {s : ByteArray} {m : Nat} {lo hi n : Int} {w w' : World} (h : ∀ i, i < m → digAt s i) (hn : n = wrap64 (hor s m)) (hr : Rd w' B (s.extract m s.size) (inB lo hi n)) (hb : Below B w w') : NumPost B s m lo hi w (.returned (.int .i64 n)) w' := by
  subst hn
  exact ⟨fun _ => ⟨rfl, hr⟩, fun ⟨i, h1, h2⟩ => absurd (h i h1) h2, hb⟩

set_option maxHeartbeats 2000000 in
theorem num_good (B : Nat) (s : ByteArray) (m : Nat) (lo hi : Int) (w : World) (hr : Rd w B s true) (hs : s.size ≤ 9223372036854775807) (hm : m ≤ s.size) (hB : B < w.heap.size) :
    Calls Try.prog 18 #[.pointer (some ⟨B, 0, none⟩), .int .i64 m, .int .i64 lo, .int .i64 hi] w fun e w' => NumPost B s m lo hi w e w' := by
  have HR : Hid (Rd w B s true) := hr
  have hcv := fun w s => Lib.run_convert_string_bytes (P := Try.prog) w 9 22 5 s Try.underlying9 Try.underlying22 Try.underlying5
  obtain ⟨h1, h2, h3, h4⟩ := hr
  go_enter Try.func18, Try.ntmps18
  go_upto_region 5 with fail
  go_cut [35, 36, 37] (fun v l i wx => ∃ cap : Nat, v = .slice (some ⟨w.heap.size, 0, none⟩) m cap ∧ l = .int .i64 m ∧ i = .int .i64 0 ∧ (∀ i, i < m → wx.cell? ⟨w.heap.size, i, none⟩ = some (.int .u8 (byt s i))) ∧ Below w.heap.size w wx)
  case first =>
    go_wp2
    go_meet
    case rel =>
      have hsz : (s.extract 0 m).size = m := by rw [ByteArray.size_extract]; omega
      refine ⟨grownCap w m 0 5, by rfl, by rfl, by rfl, fun i hi => ?_, below_bytes _ _ _⟩
      rw [Lib.bytesWorld_cell w 5 _ i (by omega), byt_data (by omega), byt_head hm hi]
  case rest =>
    obtain ⟨cap, rfl, rfl, rfl, hcl, hbel⟩ := hcut
    have HRC : Hid (Rd wc B s true) := HR.out.of hbel hB
    have HBL : Hid (Below B w wc) := hbel.mono (by omega)
    obtain ⟨k1, k2, k3, k4⟩ := HRC.out
    clear hbel h1 h2 h3 h4 hcv HR
    go_wp2
    go_loop [9, 37] (fun n i => ∃ k : Nat, k ≤ m ∧ i = .int .i64 k ∧ n = .int .i64 (wrap64 (hor s k)) ∧ ∀ i, i < k → digAt s i) (fun _ i => m - (intOf i).toNat)
    case atStart => exact ⟨0, Nat.zero_le _, rfl, (show Value.int .i64 0 = .int .i64 (wrap64 0) by rw [wrap64_id (by omega) (by omega)]), fun i h => by omega⟩
    case round =>
      obtain ⟨k, hk, rfl, rfl, hall⟩ := hrel
      have HALL : Hid (∀ i, i < k → digAt s i) := hall
      clear hall
      by_cases hlt : k < m
      · have hck := hcl k hlt
        obtain ⟨x, hx⟩ : ∃ x, x = byt s k := ⟨_, rfl⟩
        rw [← hx] at hck
        have HX : Hid (x = byt s k) := hx
        have hxb : x ≤ 255 := by rw [hx, byt_in (show k < s.size by omega)]; have := (s[k]'(by omega)).toNat_lt; omega
        have HCL : Hid (∀ i, i < m → wc.cell? ⟨w.heap.size, i, none⟩ = some (.int .u8 (byt s i))) := hcl
        obtain ⟨r, hr⟩ : ∃ r, r = hor s k := ⟨_, rfl⟩
        have HRR : Hid (r = hor s k) := hr
        rw [← hr]
        clear hx hcl hr
        by_cases c1 : (x : Int) < 48
        · go_wp2
          go_ret
          exact post_bad hlt (by rw [digAt, ← HX.out]; omega) (HRC.out.setOk false) (bel_set HBL.out _ _)
        · by_cases c2 : 57 < (x : Int)
          · go_wp2
            go_ret
            exact post_bad hlt (by rw [digAt, ← HX.out]; omega) (HRC.out.setOk false) (bel_set HBL.out _ _)
          · go_wp2
            go_round
            case rel =>
              refine ⟨k + 1, by omega, by go_num, ?_, fun i hi => ?_⟩
              · rw [wrap64_step, hor, ← HRR.out, ← HX.out]
              · by_cases e : i = k
                · rw [e, digAt, ← HX.out]; omega
                · exact HALL.out i (by omega)
            case measure => simp [intOf]; omega
      · obtain rfl : k = m := by omega
        obtain ⟨n, hn⟩ : ∃ n, n = wrap64 (hor s k) := ⟨_, rfl⟩
        have HNN : Hid (n = wrap64 (hor s k)) := hn
        rw [← hn]
        clear hn hcl
        have HR2 : Hid (Rd (wc.setCell ⟨B, 0, none⟩ (.string (s.extract k s.size))) B (s.extract k s.size) true) := HRC.out.setRest _
        obtain ⟨j1, j2, j3, j4⟩ := HR2.out
        by_cases c1 : n < lo
        · go_wp2
          go_ret
          exact post_good HALL.out HNN.out (by rw [noB lo hi n (.inl c1)]; exact HR2.out.setOk false) (bel_set (bel_set HBL.out _ _) _ _)
        · by_cases c2 : hi < n
          · go_wp2
            go_ret
            exact post_good HALL.out HNN.out (by rw [noB lo hi n (.inr c2)]; exact HR2.out.setOk false) (bel_set (bel_set HBL.out _ _) _ _)
          · go_wp2
            go_ret
            exact post_good HALL.out HNN.out (by rw [okB lo hi n (by omega) (by omega)]; exact HR2.out) (bel_set HBL.out _ _)

theorem rd_new (w : World) (s : ByteArray) (ok : Bool) : Rd (w.alloc (.cells #[.string s, .bool ok] 38)) w.heap.size s ok := by
  refine ⟨?_, ?_, ?_, ?_⟩ <;> go_simp

set_option maxHeartbeats 1000000 in
theorem zzNum_bad (s : ByteArray) (ok : Bool) (m lo hi : Int) (w : World) (hs : s.size ≤ 9223372036854775807) (h : ok = false ∨ ok = true ∧ (s.size : Int) < m) :
    Calls Try.prog 13 #[.string s, .bool ok, .int .i64 m, .int .i64 lo, .int .i64 hi] w fun e w' => e = .returned (.tuple #[.string s, .bool false, .int .i64 0]) ∧ Below w.heap.size w w' := by
  go_enter Try.func13, Try.ntmps13
  go_wp2_with fail
  refine (num_bad w.heap.size s ok m lo hi _ (rd_new w s ok) hs h).mono ?_
  rintro e w1 ⟨rfl, ⟨c0, c1, _, _⟩, hb⟩
  have HB : Hid (Below w.heap.size w w1) := ((Below.refl _ _).alloc (Nat.le_refl _) _).trans hb
  clear hb h
  go_wp2
  go_quiet (fail)
  go_wp2
  go_ret3
  exact ⟨rfl, below_drewN HB.out _⟩

set_option maxHeartbeats 1000000 in
theorem zzNum_nodig (s : ByteArray) (m k : Nat) (lo hi : Int) (w : World) (hs : s.size ≤ 9223372036854775807) (hm : m ≤ s.size) (hk : k < m) (h : ¬ digAt s k) :
    Calls Try.prog 13 #[.string s, .bool true, .int .i64 m, .int .i64 lo, .int .i64 hi] w fun e w' => e = .returned (.tuple #[.string s, .bool false, .int .i64 0]) ∧ Below w.heap.size w w' := by
  go_enter Try.func13, Try.ntmps13
  go_wp2_with fail
  refine (num_good w.heap.size s m lo hi _ (rd_new w s true) hs hm (by simp)).mono ?_
  rintro e w1 ⟨_, h2, hb⟩
  obtain ⟨rfl, c0, c1, _, _⟩ := h2 ⟨k, hk, h⟩
  have HB : Hid (Below w.heap.size w w1) := ((Below.refl _ _).alloc (Nat.le_refl _) _).trans hb
  clear hb h h2
  go_wp2
  go_quiet (fail)
  go_wp2
  go_ret3
  exact ⟨rfl, below_drewN HB.out _⟩

set_option maxHeartbeats 1000000 in
theorem zzNum_digs (s : ByteArray) (m : Nat) (lo hi : Int) (w : World) (hs : s.size ≤ 9223372036854775807) (hm : m ≤ s.size) (h : ∀ i, i < m → digAt s i) :
    Calls Try.prog 13 #[.string s, .bool true, .int .i64 m, .int .i64 lo, .int .i64 hi] w fun e w' => e = .returned (.tuple #[.string (s.extract m s.size), .bool (inB lo hi (wrap64 (hor s m))), .int .i64 (wrap64 (hor s m))]) ∧ Below w.heap.size w w' := by
  go_enter Try.func13, Try.ntmps13
  go_wp2_with fail
  refine (num_good w.heap.size s m lo hi _ (rd_new w s true) hs hm (by simp)).mono ?_
  rintro e w1 ⟨h1, _, hb⟩
  obtain ⟨rfl, c0, c1, _, _⟩ := h1 h
  have HB : Hid (Below w.heap.size w w1) := ((Below.refl _ _).alloc (Nat.le_refl _) _).trans hb
  clear hb h h1
  go_wp2
  go_quiet (fail)
  go_wp2
  go_ret3
  exact ⟨rfl, below_drewN HB.out _⟩
end Go.Proofs.Qxb6605287a
