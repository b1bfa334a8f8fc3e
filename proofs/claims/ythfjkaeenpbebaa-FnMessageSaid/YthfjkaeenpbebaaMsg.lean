/- Contracts: spec.Message, the Bytes of a message, impl.MessageWritten. -/
import Derived.Test.YthfjkaeenpbebaaProg
import Derived.Test.YthfjkaeenpbebaaStep
namespace Go.Proofs.Ythfjkaeenpbebaa
open Go.RowKit
set_option linter.unusedVariables false
set_option linter.unusedSimpArgs false
set_option maxRecDepth 100000

/-- The head of a message: its length and two more by four bytes, its kind by two. -/
def hd6 (h l kh kl : Nat) : ByteArray := ⟨#[0, 0, UInt8.ofNat h, UInt8.ofNat l, UInt8.ofNat kh, UInt8.ofNat kl]⟩
theorem size_hd6 (h l kh kl : Nat) : (hd6 h l kh kl).size = 6 := rfl
theorem nums_hd6 {h l kh kl : Nat} (h1 : h < 256) (h2 : l < 256) (h3 : kh < 256) (h4 : kl < 256) : nums (hd6 h l kh kl) = [0, 0, (h : Int), (l : Int), (kh : Int), (kl : Int)] := by
  simp only [nums, hd6, List.map_cons, List.map_nil, UInt8.toNat_ofNat']
  have e1 : h % 2 ^ 8 = h := Nat.mod_eq_of_lt (by omega)
  have e2 : l % 2 ^ 8 = l := Nat.mod_eq_of_lt (by omega)
  have e3 : kh % 2 ^ 8 = kh := Nat.mod_eq_of_lt (by omega)
  have e4 : kl % 2 ^ 8 = kl := Nat.mod_eq_of_lt (by omega)
  rw [e1, e2, e3, e4]
  rfl
/-- A number of a message is parted into its two bytes. -/
structure Parted (n h l : Nat) : Prop where
  eq : n = h * 256 + l
  lt : l < 256
theorem parted (n : Nat) : Parted n (n / 256) (n % 256) := ⟨by omega, by omega⟩
theorem hd6_own (w : World) (t : TypeId) {h l kh kl : Nat} (h1 : h < 256) (h2 : l < 256) (h3 : kh < 256) (h4 : kl < 256) :
    COwn (w.alloc (.cells #[.int .u8 0, .int .u8 0, .int .u8 h, .int .u8 l, .int .u8 kh, .int .u8 kl] t)) w.heap.size .u8 (hd6 h l kh kl).size (gi (nums (hd6 h l kh kl))) := by
  intro j hj
  rw [nums_hd6 h1 h2 h3 h4]
  rw [size_hd6] at hj
  refine ⟨?_, ?_⟩
  · rw [World.cell?_alloc_mark w _ t (0, 0) j]
    match j, hj with
    | 0, _ => rfl
    | 1, _ => rfl
    | 2, _ => rfl
    | 3, _ => rfl
    | 4, _ => rfl
    | 5, _ => rfl
  · rw [World.frozen?_alloc_mark w _ t 0 0 j]
    simp

theorem specMessage_any (n h l k kh kl : Nat) (d : ByteArray) (w : World) (hn : Parted n h l) (hk : Parted k kh kl) (hkh : kh < 128) (hd : n = d.size + 2) (hd1 : d.size ≤ 1000) :
    Calls Try.prog 16 #[.int .i64 k, .string d] w fun e w' => e = .returned (.string (hd6 h l kh kl ++ d)) ∧ Old w w' := by
  obtain ⟨hn1, hn2⟩ := hn
  obtain ⟨hk1, hk2⟩ := hk
  have hh : h < 256 := by omega
  have s1 : ((d.size : Int) + 2) / 16777216 = 0 := by omega
  have s2 : ((d.size : Int) + 2) / 65536 = 0 := by omega
  have s3 : ((d.size : Int) + 2) / 256 = h := by omega
  have s4 : (k : Int) / 256 = kh := by omega
  have u1 : ((d.size : Int) + 2) % 256 = l := by omega
  have u2 : (k : Int) % 256 = kl := by omega
  have hbk : (convert 46 9 (.slice (some ⟨w.heap.size, 0, none⟩) 6 6)).run Try.prog (w.alloc (.cells #[.int .u8 0, .int .u8 0, .int .u8 h, .int .u8 l, .int .u8 kh, .int .u8 kl] 5)) = .ok (.string (hd6 h l kh kl)) (w.alloc (.cells #[.int .u8 0, .int .u8 0, .int .u8 h, .int .u8 l, .int .u8 kh, .int .u8 kl] 5)) :=
    bytes_back (P := Try.prog) _ 46 9 5 w.heap.size 6 (hd6 h l kh kl) (by kernel_rfl) (by kernel_rfl) (by kernel_rfl) (hd6_own w 5 hh hn2 (by omega) hk2)
  clear hk1 hn1
  have hz : (hd6 h l kh kl).size = 6 := rfl
  go_enter Try.func16, Try.ntmps16
  go_wp2_with fail

  go_ret
  exact ⟨rfl, Old.alloc _ _⟩

/-- Block m is a message of kind k, whose data lie in block db. -/
def MsgAt (w : World) (m db dc k : Nat) (d : ByteArray) : Prop :=
  w.cell? ⟨m, 0, none⟩ = some (.int .i16 k) ∧ w.cell? ⟨m, 1, none⟩ = some (.slice (some ⟨db, 0, none⟩) d.size dc) ∧ COwn w db .u8 d.size (gi (nums d)) ∧ db < w.heap.size

theorem info_b : (Try.prog.info? 5).map (fun i => (i.zero, i.size, i.bytes)) = some (some (.int .u8 0), 1, 1) := by kernel_rfl
theorem nums_append (a b : ByteArray) : nums (a ++ b) = nums a ++ nums b := by
  unfold nums
  rw [ByteArray.data_append, Array.toList_append, List.map_append]

set_option maxHeartbeats 1000000 in
theorem bytes_any (m db dc n h l k kh kl : Nat) (d : ByteArray) (w : World) (hm : MsgAt w m db dc k d) (hn : Parted n h l) (hk : Parted k kh kl) (hkh : kh < 128) (hd : n = d.size + 2) (hd1 : d.size ≤ 1000) :
    Calls Try.prog 26 #[.pointer (some ⟨m, 0, none⟩)] w fun e w' => ∃ b c, e = .returned (.slice (some ⟨b, 0, none⟩) (6 + d.size) c) ∧ Old w w' ∧ COwn w' b .u8 (6 + d.size) (gi (nums (hd6 h l kh kl ++ d))) := by
  obtain ⟨hn1, hn2⟩ := hn
  obtain ⟨hk1, hk2⟩ := hk
  obtain ⟨m0, m1, m2, m3⟩ := hm
  have M2 := Lib.hid m2
  have hh : h < 256 := by omega
  have s1 : ((d.size : Int) + 2) / 16777216 = 0 := by omega
  have s2 : ((d.size : Int) + 2) / 65536 = 0 := by omega
  have s3 : ((d.size : Int) + 2) / 256 = h := by omega
  have s4 : (k : Int) / 256 = kh := by omega
  have u1 : IntKind.u8.wrap ((d.size : Int) + 2) = l := by rw [IntKind.wrap_u8]; omega
  have u2 : IntKind.u8.wrap (k : Int) = kl := by rw [IntKind.wrap_u8]; omega
  have u3 : IntKind.u8.wrap (h : Int) = h := IntWalk.u8_in _ (by omega)
  have u4 : IntKind.u8.wrap (kh : Int) = kh := IntWalk.u8_in _ (by omega)
  have u5 : IntKind.u16.wrap (k : Int) = k := IntWalk.u16_in _ (by omega)
  have u6 : IntKind.u8.wrap 0 = 0 := by decide
  have HN : Hid (nums (hd6 h l kh kl ++ d) = [0, 0, (h : Int), (l : Int), (kh : Int), (kl : Int)] ++ nums d) := by
    unfold Hid; rw [nums_append, nums_hd6 hh hn2 (by omega) hk2]
  have hmlt := World.block_lt_of_cell? w _ m0
  simp only [] at hmlt
  have HB : Hid ((w.alloc (.cells #[.int .u8 0, .int .u8 0, .int .u8 h, .int .u8 l, .int .u8 kh, .int .u8 kl] 5)).drew.ownsRow w.heap.size 5 1 (.slice (some ⟨w.heap.size, 0, none⟩) 6 6) 6 ([0, 0, (h : Int), (l : Int), (kh : Int), (kl : Int)].map (Value.int .u8))) :=
    own_built (k := .u8) (l := [0, 0, (h : Int), (l : Int), (kh : Int), (kl : Int)]) (heap_alloc_new w _) rfl (show 6 ≤ maxLen by decide) (Nat.le_refl _)
  have H02 : d.size = 0 → h = 0 ∧ l = 2 := fun h => by omega
  clear hk1 hn1
  by_cases h0 : d.size = 0
  · obtain ⟨hz0, hl2⟩ := H02 h0
    subst hz0
    subst hl2
    rw [h0] at m1
    have HB0 : Hid ((w.alloc (.cells #[.int .u8 0, .int .u8 0, .int .u8 0, .int .u8 2, .int .u8 kh, .int .u8 kl] 5)).drew.ownsRow w.heap.size 5 1 (.slice (some ⟨w.heap.size, 0, none⟩) 6 6) 6 ([0, 0, (0 : Int), (2 : Int), (kh : Int), (kl : Int)].map (Value.int .u8))) :=
      own_built (k := .u8) (l := [0, 0, (0 : Int), (2 : Int), (kh : Int), (kl : Int)]) (heap_alloc_new w _) rfl (show 6 ≤ maxLen by decide) (Nat.le_refl _)
    have u7 : IntKind.u8.wrap 2 = 2 := by decide
    have HD : Hid (d.size = 0) := h0
    have HN2 : Hid (nums d = []) := by unfold Hid; exact List.eq_nil_of_length_eq_zero (by rw [length_nums]; exact h0)
    clear h0 hd hd1 s1 s2 s3 u1 m2 M2 H02
    go_enter Try.func26, Try.ntmps26
    go_wp2_with fail
    go_region_held3 (fun w' => w'.cell? ⟨m, 0, none⟩ = some (.int .i16 k) ∧ w'.cell? ⟨m, 1, none⟩ = some (.slice (some ⟨db, 0, none⟩) 0 dc))
      (first | go_keep | assumption)
      ((refine step_append_zero rfl (.tmp 34) (.tmp 38) 46 5 (.int .u8 0) 1 rfl Try.underlying46 info_b w.heap.size 6 6 rfl ⟨db, 0, none⟩ dc rfl (by omega) ?_))
    go_wp2_with fail
    go_ret
    have hO : Old w (w.alloc (.cells #[.int .u8 0, .int .u8 0, .int .u8 0, .int .u8 2, .int .u8 kh, .int .u8 kl] 5)).drew := (Old.alloc w _).then_drew
    refine ⟨w.heap.size, 6, by rw [HD.out]; rfl, hO, ?_⟩
    rw [HN.out, HN2.out, HD.out, List.append_nil]
    exact own_cown HB0.out
  · clear H02
    go_enter Try.func26, Try.ntmps26
    go_wp2_with fail
    go_region_held3 (fun w' => w'.cell? ⟨m, 0, none⟩ = some (.int .i16 k) ∧ w'.cell? ⟨m, 1, none⟩ = some (.slice (some ⟨db, 0, none⟩) d.size dc))
      (first | exact ⟨keep0, keep1⟩ | go_keep | assumption)
      ((refine step_append_ints rfl (.tmp 34) (.tmp 38) 46 5 .u8 (.int .u8 0) 1 rfl Try.underlying46 info_b rfl (by omega) w.heap.size (.slice (some ⟨w.heap.size, 0, none⟩) 6 6) 6 ([0, 0, (h : Int), (l : Int), (kh : Int), (kl : Int)].map (Value.int .u8)) rfl HB.out db 0 dc d.size (nums d) (length_nums d) rfl (fun j hj => by
          rw [Nat.zero_add]; rw [length_nums] at hj
          exact (World.cell?_alloc_past (w := w) (.cells #[.int .u8 0, .int .u8 0, .int .u8 h, .int .u8 l, .int .u8 kh, .int .u8 kl] 5) db j m3).trans (M2.out j hj).1) (by omega) (by omega) (by simp) ?_; intro g cap w4 hown4 hg4 hb4; have keep0 := (hg4.cell_far ⟨m, 0, none⟩ (by simp; omega) (by simp [Value.ownBlock]; omega)).trans ((World.cell?_alloc_past (w := w) (.cells #[.int .u8 0, .int .u8 0, .int .u8 h, .int .u8 l, .int .u8 kh, .int .u8 kl] 5) m 0 hmlt).trans m0); have keep1 := (hg4.cell_far ⟨m, 1, none⟩ (by simp; omega) (by simp [Value.ownBlock]; omega)).trans ((World.cell?_alloc_past (w := w) (.cells #[.int .u8 0, .int .u8 0, .int .u8 h, .int .u8 l, .int .u8 kh, .int .u8 kl] 5) m 1 hmlt).trans m1); have O4 := Lib.hid hown4; have G4 := Lib.hid hg4; clear hown4 hg4 hb4))
    clear keep0 keep1
    go_wp2_with fail
    go_ret
    have hO : Old w w4 := ((Old.alloc w _).then_drew).grown G4.out (by simp [Value.ownBlock])
    refine ⟨g, cap, rfl, hO, ?_⟩
    rw [HN.out]
    have := O4.out
    rw [← List.map_append] at this
    exact own_cown this

theorem written_any (n h l k kh kl : Nat) (d : ByteArray) (w : World) (hn : Parted n h l) (hk : Parted k kh kl) (hkh : kh < 128) (hd : n = d.size + 2) (hd1 : d.size ≤ 1000) :
    Calls Try.prog 14 #[.int .i64 k, .string d] w fun e w' => e = .returned (.string (hd6 h l kh kl ++ d)) ∧ Old w w' := by
  have HN := Lib.hid hn
  have HK := Lib.hid hk
  obtain ⟨hn1, hn2⟩ := hn
  obtain ⟨hk1, hk2⟩ := hk
  have u1 : IntKind.i16.wrap (k : Int) = k := IntWalk.i16_in _ (by omega)
  have hz : (hd6 h l kh kl ++ d).size = 6 + d.size := by rw [ByteArray.size_append]; rfl
  have HZ := Lib.hid hz
  clear hn1 hk1 hz
  go_enter Try.func14, Try.ntmps14
  go_wp2_with (first
    | (refine wpList_bytes rfl 9 46 5 _ d rfl rfl Try.underlying9 Try.underlying46 Try.underlying5 (by omega) ?_; intro c w1 o1 hc1 hc2 hsz hown; have O1 := Lib.hid o1; have C1 := Lib.hid hown; have S1 := Lib.hid hsz; clear o1 hown hsz)
    | (go_at_call 26; refine (bytes_any w1.heap.size w.heap.size c n h l k kh kl d _ ⟨(World.cell?_alloc_mark w1 _ _ (0, 0) 0).trans rfl, (World.cell?_alloc_mark w1 _ _ (0, 0) 1).trans rfl, C1.out.later (by have := S1.out; omega) (Old.alloc _ _), by have := S1.out; simp; omega⟩ HN.out HK.out hkh hd hd1).mono ?_
       rintro e w2 ⟨b2, c2, rfl, o2, hown2⟩
       have hbk := bytes_back (P := Try.prog) w2 46 9 5 b2 c2 (hd6 h l kh kl ++ d) Try.underlying46 Try.underlying5 Try.underlying9 (by rw [HZ.out]; exact hown2)
       rw [HZ.out] at hbk
       have O2 := Lib.hid o2
       clear hown2 o2))
  go_ret
  exact ⟨rfl, (O1.out.then_alloc _).trans O2.out⟩
end Go.Proofs.Ythfjkaeenpbebaa
