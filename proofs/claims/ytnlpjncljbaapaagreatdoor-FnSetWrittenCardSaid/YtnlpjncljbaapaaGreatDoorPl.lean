/- ParseLines and ParseOption where there is an error. -/
import Derived.Test.YtnlpjncljbaapaaGreatDoorTsx
import Derived.Test.YtnlpjncljbaapaaGreatDoorLs
namespace Go.Proofs.YtnlpjncljbaapaaGreatDoor
open Go.RowKit

/-- The function answers with the zero value and no. -/
def GivesNone (z : Array Value) (w : World) (e : Ending) (w' : World) : Prop := e = .returned (.tuple #[.agg z, .bool false]) ∧ Below w.heap.size w w'
def zSet : Array Value := #[.int .i64 0, .bool false, .int .u8 0, .bool false, .int .i64 0, .int .i64 0, .int .i64 0, .int .i64 0, .bool false, .int .i64 0, .slice none 0 0, .slice none 0 0, .slice none 0 0, .slice none 0 0, .slice none 0 0, .slice none 0 0, .slice none 0 0, .slice none 0 0, .slice none 0 0, .slice none 0 0, .slice none 0 0, .slice none 0 0]
def zRule : Array Value := #[.int .u8 0, .bool false, .int .i64 0, .int .i64 0, .int .i64 0, .int .i64 0, .bool false, .int .i64 0, .slice none 0 0, .slice none 0 0, .slice none 0 0, .slice none 0 0, .slice none 0 0, .slice none 0 0, .slice none 0 0, .slice none 0 0, .slice none 0 0, .slice none 0 0]
def zSetF (i : Nat) : Value := zSet[i]?.getD undef
def zRuleF (i : Nat) : Value := zRule[i]?.getD undef
theorem zRule_row : rowA 18 zRuleF = zRule := rfl
theorem u38 : ∃ d, Tryz.prog.underlying 38 = some d ∧ d.isRow = true := ⟨_, Tryz.underlying38, rfl⟩
theorem info38s : (Tryz.prog.info? 38).map (·.size) = some 22 := by kernel_rfl
theorem u36 : ∃ d, Tryz.prog.underlying 36 = some d ∧ d.isRow = true := ⟨_, Tryz.underlying36, rfl⟩
theorem info36s : (Tryz.prog.info? 36).map (·.size) = some 18 := by kernel_rfl
theorem zSet_at (w : World) : (w.alloc (.cells zSet 38)).rowIs w.heap.size 38 22 zSetF :=
  World.rowIs_alloc w zSet 38 _ fun i hi => by
    have h : zSet[i]? = some (zSet[i]) := Array.getElem?_eq_getElem hi
    simp only [zSetF, h, Option.getD_some]
theorem zRule_at (w : World) : (w.alloc (.cells zRule 36)).rowIs w.heap.size 36 18 zRuleF :=
  World.rowIs_alloc w zRule 36 _ fun i hi => by
    have h : zRule[i]? = some (zRule[i]) := Array.getElem?_eq_getElem hi
    simp only [zRuleF, h, Option.getD_some]
theorem updR_all {n : Nat} (f g : Nat → Value) : rowA n (updR g 0 (rowA n f)) = rowA n f := rowA_congr fun k hk => by
  unfold updR
  rw [if_pos ⟨Nat.zero_le _, by rw [rowA_size]; omega⟩, Nat.sub_zero, rowA_get hk]
  rfl
set_option maxRecDepth 100000 in
set_option maxHeartbeats 4000000 in
theorem option53_bad (s : ByteArray) (w : World) (h : ∀ W, Below w.heap.size w W → Calls Tryz.prog 93 #[.string s, .agg #[]] W fun e w' => GivesErr W e w') :
    Calls Tryz.prog 53 #[.string s] w fun e w' => GivesErr w e w' := by
  have HH := Lib.hid h
  clear h
  go_enter Tryz.func53, Tryz.ntmps53
  go_wp2_with fail
  refine (utc_any _).mono ?_; rintro e w1 ⟨rfl, hb1⟩
  go_wp2_with fail
  refine (HH.out _ hb1).mono ?_; rintro e w2 ⟨⟨p, rfl⟩, hb⟩
  go_wp2_with fail
  go_ret2
  exact ⟨⟨p, rfl⟩, hb1.trans (hb.mono hb1.size)⟩
theorem zRule_one : zRule.all (·.oneCell') = true := by simp [zRule, Value.oneCell']
set_option maxRecDepth 100000 in
set_option maxHeartbeats 4000000 in
theorem parseOption_bad (s : ByteArray) (w : World) (h : ∀ W, Below w.heap.size w W → Calls Tryz.prog 93 #[.string s, .agg #[]] W fun e w' => GivesErr W e w') :
    Calls Tryz.prog 32 #[.string s] w fun e w' => GivesNone zRule w e w' := by
  have hB := below_a1 (w := w) (o := .cells zRule 36)
  have hR := zRule_at w
  have H33 := Lib.hid fun (W : World) (hW : Below w.heap.size w W) => option53_bad s W fun W2 h2 => h W2 (hW.trans (h2.mono hW.size))
  obtain ⟨d, hd⟩ := u36
  have HU := Lib.hid hd
  clear h hd
  go_enter Tryz.func32, Tryz.ntmps32
  unfold zRule at *
  go_upto_region 1 with fail
  generalize hw1 : w.alloc (.cells #[_, _, _, _, _, _, _, _, _, _, _, _, _, _, _, _, _, _] 36) = w1 at *
  have HB := Lib.hid hB
  have HR := Lib.hid hR
  clear hw1 hB hR
  go_wp2_with fail
  refine (H33.out _ HB.out).mono ?_; rintro e w2 ⟨⟨p, rfl⟩, hb⟩
  have HB2 := Lib.hid (HB.out.trans (hb.mono HB.out.size))
  have HR2 := Lib.hid (below_row HR.out hb HR.out.lt)
  clear hb
  go_wp2_with ((with_reducible refine gd_store 36 ?_); refine wpl_store_row rfl 36 _ _ rfl w.heap.size 0 36 18 _ (rowA 18 zRuleF) rfl rfl HR2.out (by simp [rowA_size]) (by rw [info36s, rowA_size]) (by rw [zRule_row]; exact zRule_one) ?_; intro w3 hR3 hg3)
  refine bodyPost_ret (results_row2 rfl _ w.heap.size 36 18 _ (by rfl) hR3 d HU.out.1 HU.out.2 info36s) rfl ?_
  rw [updR_all, zRule_row]
  exact ⟨rfl, HB2.out.grown hg3 HB2.out.size (fun k hk => by cases hk; exact Nat.le_refl _)⟩
/-- The text that is no rule. -/
theorem never_any (w : World) (hG : Glob w) : Calls Tryz.prog 32 #[.string ⟨neverL.toArray⟩] w fun e w' => GivesNone zRule w e w' :=
  parseOption_bad _ w fun W hW => opt_never W (hG.on hW)
end Go.Proofs.YtnlpjncljbaapaaGreatDoor
