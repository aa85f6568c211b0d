/-
  THE WALK of LawS2465ABuilt.
-/
import Derived.Test.YbulkayaiFmtAspa
namespace Go.Proofs.YbulkayaiFmt.A
open Go.RowKit Go.Extern.Stop Go.Stop Go.Extern
set_option linter.unusedVariables false

theorem azero (w : World) :
    Calls Ybaf.prog 10 #[.agg #[.string ⟨#[]⟩, .slice none 0 0, .slice none 0 0, .int .u8 0, .slice none 0 0, .slice none 0 0, .slice none 0 0, .bool false, .slice none 0 0]] w fun e w' => e = .returned (.bool true) ∧ Below w.heap.size w w' := by
  have h22 := fun (w : World) => Lib.run_eql_slice_nil (P := Ybaf.prog) w 22 5 none 0 0 0 0 Ybaf.underlying22
  have h24 := fun (w : World) => Lib.run_eql_slice_nil (P := Ybaf.prog) w 24 22 none 0 0 0 0 Ybaf.underlying24
  go_enter Ybaf.func10, Ybaf.ntmps10
  go_wp2
  go_ret
  exact ⟨rfl, (Below.refl _ _).alloc (Nat.le_refl _) _⟩

theorem bytesIn {B : Nat} {w : World} {p : Option Addr} {n : Nat} {zs : List Int} (h : Bytes B w p n zs) : Lib.BytesIn w p n zs := by
  intro hn
  obtain ⟨h1, h2 | ⟨g, o, rfl, _, h2⟩⟩ := h
  · omega
  · exact ⟨g, o, rfl, h2⟩

theorem law_long (pick : Int) (p : Option Addr) (n c : Nat) (w : World) (hn : 1024 < n) :
    Calls Ybaf.prog 4 #[.int .u8 pick, .slice p n c] w fun e w' => e = .returned (.bool true) ∧ Below w.heap.size w w' := by
  have h : (1024 : Int) < (n : Int) := by omega
  go_enter Ybaf.func4, Ybaf.ntmps4
  go_wp2
  go_ret
  exact ⟨rfl, Below.refl _ _⟩

set_option maxRecDepth 20000 in
set_option maxHeartbeats 2000000 in
theorem law_yes (pick : Int) (p : Option Addr) (n c : Nat) (zs : List Int) (w : World) (h0 : 0 ≤ pick) (h1 : pick ≤ 255) (hr : pick % 3 = 0) (hn : n ≤ 1024) (hp : p = none → n = 0 ∧ c = 0) (hz : Bytes w.heap.size w p n zs) (htab : Tab w) (hw0 : 0 < w.heap.size) :
    Calls Ybaf.prog 4 #[.int .u8 pick, .slice p n c] w fun e w' => e = .returned (.bool true) ∧ Below w.heap.size w w' := by
  have hn' : (n : Int) ≤ 1024 := by omega
  have HP := hid hp
  clear hp
  go_enter Ybaf.func4, Ybaf.ntmps4
  go_wp2_with fail
  refine (abuild_0 pick p n c zs _ h0 h1 hr hn HP.out hz).mono ?_
  rintro e w1 ⟨g, cap, rfl, hown, hb1⟩
  have hby := own_bytes hown
  have hle := own_le hown
  have T1 := htab.below (B := w.heap.size) hw0 hb1
  have hzl := hz.1
  obtain ⟨D, hD⟩ : ∃ D, D = dataB (oidB 49) zs := ⟨_, rfl⟩
  rw [← hD] at hby hle ⊢
  have HD := hid hD
  clear hown hD
  go_wp2_with fail
  refine (aspa_yes w1.heap.size D.length cap (some ⟨g, 0, none⟩) zs _ (Nat.le_refl _) (by omega) (by omega) T1 (by rw [← HD.out]; exact hby) hle.1 hle.2.1).mono ?_
  rintro e w2 ⟨⟨q1, pv, kv, pw, rfl, bq⟩, hb2⟩
  rw [text_aspa]
  have F2 := nxt hb1 hb2
  have hzw := (hz.on hb1).on hb2
  have hA := on_alloc w2 (Obj.cells #[.string ⟨#[49, 46, 50, 46, 56, 52, 48, 46, 49, 49, 51, 53, 52, 57, 46, 49, 46, 57, 46, 49, 54, 46, 49, 46, 52, 57]⟩, .slice q1 zs.length zs.length, .slice none 0 0, .int .u8 2, .slice pv 1 1, .slice pw kv kv, .slice none 0 0, .bool false, .slice none 0 0] 30)
  have HZL := hid hzl
  clear hzl
  go_wp2_with fail
  refine (Ybaf.bytes_Equal_all q1 p zs.length zs.length n c zs zs _ rfl HZL.out (bytesIn (bq.on hA)) (bytesIn (hzw.on hA))).mono ?_
  rintro e w3 ⟨rfl, rfl⟩
  rw [show (Lib.bytesOf zs == Lib.bytesOf zs) = true from by simp]
  go_wp2
  go_ret
  exact ⟨rfl, nxt F2 hA⟩

set_option maxRecDepth 20000 in
set_option maxHeartbeats 2000000 in
theorem law_no_1 (F : Interp) (pick : Int) (p : Option Addr) (n c : Nat) (zs : List Int) (w : World) (hF : F.answers w.tape) (h0 : 0 ≤ pick) (h1 : pick ≤ 255) (hr : pick % 3 = 1) (hn : n ≤ 1024) (hp : p = none → n = 0 ∧ c = 0) (hz : Bytes w.heap.size w p n zs) (htab : Tab w) (hw0 : 0 < w.heap.size) :
    Calls Ybaf.prog 4 #[.int .u8 pick, .slice p n c] w fun e w' => e = .returned (.bool true) ∧ Below w.heap.size w w' := by
  have hn' : (n : Int) ≤ 1024 := by omega
  have HP := hid hp
  clear hp
  go_enter Ybaf.func4, Ybaf.ntmps4
  go_wp2_with fail
  refine (abuild_1 pick p n c zs _ h0 h1 hr hn HP.out hz).mono ?_
  rintro e w1 ⟨g, cap, rfl, hown, hb1⟩
  have hby := own_bytes hown
  have hle := own_le hown
  have T1 := htab.below (B := w.heap.size) hw0 hb1
  have hzl := hz.1
  have hF1 : F.answers w1.tape := by rw [hb1.tape]; exact hF
  obtain ⟨D, hD⟩ : ∃ D, D = dataB (oidB 24) zs := ⟨_, rfl⟩
  rw [← hD] at hby hle ⊢
  have HD := hid hD
  have HF := hid hF1
  clear hown hD hF hF1
  go_wp2_with fail
  refine (aspa_no_24 F w1.heap.size D.length cap (some ⟨g, 0, none⟩) zs _ HF.out (Nat.le_refl _) (by omega) (by omega) T1 (by rw [← HD.out]; exact hby) hle.1 hle.2.1).mono ?_
  rintro e w2 ⟨a, rfl, hb2⟩
  have F2 := nxt hb1 hb2
  have hA := on_alloc w2 (Obj.cells #[.string ⟨#[]⟩, .slice none 0 0, .slice none 0 0, .int .u8 0, .slice none 0 0, .slice none 0 0, .slice none 0 0, .bool false, .slice none 0 0] 30)
  go_wp2_with fail
  refine (azero _).mono ?_
  rintro e w3 ⟨rfl, hb3⟩
  go_wp2
  go_ret
  exact ⟨rfl, nxt (nxt F2 hA) hb3⟩

set_option maxRecDepth 20000 in
set_option maxHeartbeats 2000000 in
theorem law_no_2 (F : Interp) (pick : Int) (p : Option Addr) (n c : Nat) (zs : List Int) (w : World) (hF : F.answers w.tape) (h0 : 0 ≤ pick) (h1 : pick ≤ 255) (hr : pick % 3 = 2) (hn : n ≤ 1024) (hp : p = none → n = 0 ∧ c = 0) (hz : Bytes w.heap.size w p n zs) (htab : Tab w) (hw0 : 0 < w.heap.size) :
    Calls Ybaf.prog 4 #[.int .u8 pick, .slice p n c] w fun e w' => e = .returned (.bool true) ∧ Below w.heap.size w w' := by
  have hn' : (n : Int) ≤ 1024 := by omega
  have HP := hid hp
  clear hp
  go_enter Ybaf.func4, Ybaf.ntmps4
  go_wp2_with fail
  refine (abuild_2 pick p n c zs _ h0 h1 hr hn HP.out hz).mono ?_
  rintro e w1 ⟨g, cap, rfl, hown, hb1⟩
  have hby := own_bytes hown
  have hle := own_le hown
  have T1 := htab.below (B := w.heap.size) hw0 hb1
  have hzl := hz.1
  have hF1 : F.answers w1.tape := by rw [hb1.tape]; exact hF
  obtain ⟨D, hD⟩ : ∃ D, D = dataB (oidB 26) zs := ⟨_, rfl⟩
  rw [← hD] at hby hle ⊢
  have HD := hid hD
  have HF := hid hF1
  clear hown hD hF hF1
  go_wp2_with fail
  refine (aspa_no_26 F w1.heap.size D.length cap (some ⟨g, 0, none⟩) zs _ HF.out (Nat.le_refl _) (by omega) (by omega) T1 (by rw [← HD.out]; exact hby) hle.1 hle.2.1).mono ?_
  rintro e w2 ⟨a, rfl, hb2⟩
  have F2 := nxt hb1 hb2
  have hA := on_alloc w2 (Obj.cells #[.string ⟨#[]⟩, .slice none 0 0, .slice none 0 0, .int .u8 0, .slice none 0 0, .slice none 0 0, .slice none 0 0, .bool false, .slice none 0 0] 30)
  go_wp2_with fail
  refine (azero _).mono ?_
  rintro e w3 ⟨rfl, hb3⟩
  go_wp2
  go_ret
  exact ⟨rfl, nxt (nxt F2 hA) hb3⟩

end Go.Proofs.YbulkayaiFmt.A
