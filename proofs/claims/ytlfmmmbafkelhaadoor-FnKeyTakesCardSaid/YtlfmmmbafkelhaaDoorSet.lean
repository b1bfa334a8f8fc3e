/- impl.keyed's step that sets a line; RuneBuffer.Runes, Pos. -/
import Derived.Test.YtlfmmmbafkelhaaDoorDisp
import Derived.Test.YtlfmmmbafkelhaaDoorLine9
namespace Go.Proofs.YtlfmmmbafkelhaaDoor
open Go.RowKit
set_option linter.unusedVariables false
set_option linter.unusedSimpArgs false
set_option maxRecDepth 100000

theorem pos_any (p b : Nat) (st : St) (w : World) (h : RB w p b st) :
    Calls Tryd.prog 53 #[.pointer (some ⟨p, 0, none⟩)] w fun e w' => e = .returned (.int .i64 st.at_) ∧ w' = w := by
  obtain ⟨c, kv, hp, hown, hat, hl, hkl, hne, hk, ht⟩ := h
  have c1 := hp.c1
  clear hp hown hk ht
  go_enter Tryd.func53, Tryd.ntmps53
  go_wp2_with fail
  go_ret
  exact ⟨rfl, rfl⟩

set_option maxHeartbeats 1000000 in
theorem runesm_any (p b : Nat) (st : St) (w : World) (h : RB w p b st) :
    Calls Tryd.prog 52 #[.pointer (some ⟨p, 0, none⟩)] w fun e w' => ∃ v, e = .returned v ∧ Old w w' ∧ RunesAt w' v st.l := by
  obtain ⟨c, kv, hp, hown, hat, hl, hkl, hne, hk, ht⟩ := h
  have HP := Lib.hid hp
  have HL := Lib.hid hown
  have c0 := hp.c0
  have hc := hown.cap
  obtain ⟨hc1, hc2⟩ := hc
  unfold maxLen at hc2
  clear hp hown hk ht
  go_enter Tryd.func52, Tryd.ntmps52
  go_wp2_with (first
    | (at_make; refine wpList_make_runes rfl _ _ 54 21 rfl (by kernel_rfl) (by kernel_rfl) _ _ _ _ st.l.length rfl rfl rfl rfl (by omega) ?_; intro w1 z1 o1; have O1 := Lib.hid o1; have c10 := (o1.cell HP.out.lt).trans c0; clear o1 c0)
    | (refine wpList_copy_splice rfl _ _ 54 54 rfl 21 Tryd.underlying54 (by kernel_rfl) (some ⟨w.heap.size, 0, none⟩) (some ⟨b, 0, none⟩) st.l.length st.l.length st.l.length c rfl rfl w.heap.size 0 _ 21 z1.out (st.l.map (Value.int .i32)) (by rw [List.length_map]; simp) (fun _ => ⟨rfl, _, rfl, (fun j v hj => by
        obtain ⟨h1, rfl⟩ := getElem_map_int hj
        have hadd : (⟨b, 0, none⟩ : Addr).add j = ⟨b, j, none⟩ := by unfold Addr.add; split <;> simp_all
        rw [hadd]; exact (HL.out.old O1.out).cell j h1)⟩) (by simp) (one_map _) w.heap.size w O1.out (Nat.le_refl _) ?_; intro w3 h3 b3; clear z1))
  go_ret
  exact ⟨_, rfl, b3, runes_of_row h3.out rfl (by omega)⟩

set_option maxHeartbeats 1000000 in
theorem keyed_set (p t : Nat) (s : ByteArray) (k : Nat) (w : World) (hp : PB w p (.slice none 0 0) (.int .i64 0) (.slice none 0 0)) (hs : s.size ≤ 1000) (hk : k ≤ (runes s).length) (hl : (runes s).length ≤ 1000) (ht : t < w.heap.size) (hpt : p ≠ t) :
    Calls Tryd.prog 51 #[.pointer (some ⟨p, 0, none⟩), (setk s k).v] w fun e w' => e = .returned (.tuple #[.int .i64 (-1), .bool true]) ∧ ∃ b, RB w' p b ⟨runes s, k, [], t⟩ ∧ Mod p b w w' ∧ w.heap.size ≤ b := by
  have HP := Lib.hid hp
  have d1 : decide ((k : Int) < 0) = false := by simp
  have d2 : decide ((k : Int) > (runes s).length) = false := by simp; omega
  clear hp
  unfold KeyS.v setk
  go_enter Tryd.func51, Tryd.ntmps51
  go_wp2_with (first
    | (refine wpList_runes rfl 9 54 21 _ s rfl rfl (by kernel_rfl) (by kernel_rfl) (by kernel_rfl) (by omega) ?_; intro v w1 o1 r1 hv1 own1
       have g1 : w1.cell? ⟨w.heap.size, 2, none⟩ = some (.int .i64 k) := (o1.cell (by simp)).trans ((World.cell?_alloc_mark w #[.int .i64 20, .string s, .int .i64 k, .bool false, .bool false] _ (0, 0) 2).trans rfl)
       have hl1 : w.heap.size < w1.heap.size := by have := o1.size; simp at this; omega
       have O1 := Lib.hid ((Old.alloc w _).trans o1); have W1 := Lib.hid own1; clear o1 r1 own1; obtain ⟨vb, vc, rfl⟩ := hv1
       have hvb := Lib.hid (own_lt W1.out)
       have N1 := Lib.hid (HP.out.old O1.out))
    | (go_at_call 62; refine (swi_any p _ _ _ _ w1 N1.out.c0 N1.out.c1 (N1.out.free 0) (N1.out.free 1) ⟨vb, _, vc, rfl⟩).mono ?_; rintro e w4 ⟨rfl, w3, o3, hw4⟩
       have hpl := HP.out.lt
       have hvb2 := hvb.out.1
       have hpb : p ≠ vb := by simp at hvb2; omega
       have PS : Hid (PB w4 p (.slice (some ⟨vb, 0, none⟩) (runes s).length vc) (.int .i64 k) (.slice none 0 0) ∧ LB w4 vb vc (runes s)) := by
         rw [hw4]; exact set_pb N1.out (own_zero W1.out) hpb o3
       have M4 : Hid (Mod p vb w w4) := by
         rw [hw4]; exact (((Mod.of_old O1.out).then_old o3).stored p 0 _ (Or.inl rfl)).stored p 1 _ (Or.inl rfl)
       clear hw4 o3 g1))
  go_ret2
  have hvb2 := hvb.out.1
  have hb : w.heap.size ≤ vb := by simp at hvb2; omega
  refine ⟨rfl, vb, ⟨vc, .slice none 0 0, PS.out.1, PS.out.2, hk, hl, by simp, hpb, .inl ⟨rfl, rfl⟩, Nat.lt_of_lt_of_le ht M4.out.size, by show vb ≠ t; omega, hpt⟩, M4.out, hb⟩
end Go.Proofs.YtlfmmmbafkelhaaDoor
