/- '(*decoder).posting', case by case. -/
import Derived.Test.YbulkwmsPost
import Derived.Test.YbulkwmsPlain
namespace Go.Proofs.Ybulkwms
open Go.RowKit Go.Shelf
set_option linter.unusedVariables false

/-- What 'posting' hands back, and how it leaves the decoder. -/
def Posts (w : World) (d : Nat) (h c n k : Int) (o : Option (List UInt8)) : Prop :=
  Calls Yba.prog 7 #[.pointer (some ⟨d, 0, none⟩)] w fun e w' => e = .returned (.tuple #[.agg #[.int .u64 h, .int .i32 c, .int .i32 n], .int .i64 k]) ∧ St w' d o ∧ w.grownBy w' (some d)

theorem uvarint_dead {w : World} {d : Nat} (h : Dead w d) :
    Calls Yba.prog 21 #[.pointer (some ⟨d, 0, none⟩)] w fun e w' => e = .returned (.int .u64 0) ∧ Dead w' d ∧ w.grownBy w' (some d) :=
  uvarint_bad d 0 0 none true [] w h (Hs.nil w) 0 0 rfl (Int.le_refl _)

theorem wrap32_0 : wrap32 0 = 0 := by unfold wrap32; omega

theorem post_A {w : World} {d : Nat} {bs : List UInt8} (h : Dc w d bs) (h8 : bs.length < 8) : Posts w d 0 0 0 0 none := by
  have := posting_zero d (some bs) none none none 0 0 0 w h (fun w h => uint64_short d w (short_of_len h h8)) (fun w h => uint32_short d w (short_of_dead h (by decide))) (fun w h => uvarint_dead h) rfl
  rw [wrap32_0] at this
  exact this

theorem post_B {w : World} {d : Nat} {bs b1 : List UInt8} (h : Dc w d bs) (hn : bs.length ≤ 2048) (h8 : 8 ≤ bs.length) (e1 : b1 = bs.drop 8) (h4 : b1.length < 4) : Posts w d (Lib.beNat (bs.take 8)) 0 0 0 none := by
  subst e1
  have := posting_zero d (some bs) (some (bs.drop 8)) none none (Lib.beNat (bs.take 8)) 0 0 w h (fun w h => uint64_ok d bs w h h8 hn) (fun w h => uint32_short d w (short_of_len h h4)) (fun w h => uvarint_dead h) rfl
  rw [wrap32_0] at this
  exact this

theorem post_C {w : World} {d : Nat} {bs b1 b2 : List UInt8} {v : Nat} {m : Int} (h : Dc w d bs) (hn : bs.length ≤ 2048) (h8 : 8 ≤ bs.length) (e1 : b1 = bs.drop 8) (h4 : 4 ≤ b1.length) (e2 : b2 = b1.drop 4)
    (hv : Lib.uvarintDec b2 = (v, m)) (hm : m ≤ 0) : Posts w d (Lib.beNat (bs.take 8)) (wrap32 (Lib.beNat (b1.take 4))) 0 0 none := by
  subst e1
  subst e2
  have := posting_zero d (some bs) (some (bs.drop 8)) (some ((bs.drop 8).drop 4)) none (Lib.beNat (bs.take 8)) (Lib.beNat ((bs.drop 8).take 4)) 0 w h (fun w h => uint64_ok d bs w h h8 hn) (fun w h => uint32_ok d _ w h h4 (by simp; omega))
    (fun w h => by obtain ⟨p, c, hd, hs⟩ := h; exact uvarint_bad d _ c p false _ w hd hs m v hv hm) rfl
  rw [wrap32_0] at this
  exact this

theorem post_D {w : World} {d m : Nat} {bs b1 b2 : List UInt8} {v : Nat} (h : Dc w d bs) (hn : bs.length ≤ 2048) (h8 : 8 ≤ bs.length) (e1 : b1 = bs.drop 8) (h4 : 4 ≤ b1.length) (e2 : b2 = b1.drop 4)
    (hv : Lib.uvarintDec b2 = (v, (m : Int))) (hm : 0 < m) (e3 : b2.drop m = []) : Posts w d (Lib.beNat (bs.take 8)) (wrap32 (Lib.beNat (b1.take 4))) (wrap32 v) 0 (some []) := by
  have hml : m ≤ b2.length := by have := uvarintDec_le b2; rw [hv] at this; simp at this; omega
  subst e1
  subst e2
  have := posting_zero d (some bs) (some (bs.drop 8)) (some ((bs.drop 8).drop 4)) (some (((bs.drop 8).drop 4).drop m)) (Lib.beNat (bs.take 8)) (Lib.beNat ((bs.drop 8).take 4)) v w h (fun w h => uint64_ok d bs w h h8 hn) (fun w h => uint32_ok d _ w h h4 (by simp; omega))
    (fun w h => uvarint_ok d m _ w h (by simp; omega) v hv hm hml) (by rw [e3]; rfl)
  rw [e3] at this
  exact this

theorem post_E {w : World} {d m : Nat} {bs b1 b2 b3 : List UInt8} {v : Nat} {k m2 : Int} (h : Dc w d bs) (hn : bs.length ≤ 2048) (h8 : 8 ≤ bs.length) (e1 : b1 = bs.drop 8) (h4 : 4 ≤ b1.length) (e2 : b2 = b1.drop 4)
    (hv : Lib.uvarintDec b2 = (v, (m : Int))) (hm : 0 < m) (e3 : b3 = b2.drop m) (h3 : 0 < b3.length) (hk : Lib.varintDec b3 = (k, m2)) (hm2 : m2 ≤ 0) :
    Posts w d (Lib.beNat (bs.take 8)) (wrap32 (Lib.beNat (b1.take 4))) (wrap32 v) 0 none := by
  have hml : m ≤ b2.length := by have := uvarintDec_le b2; rw [hv] at this; simp at this; omega
  subst e1
  subst e2
  subst e3
  exact posting_one d (some bs) (some (bs.drop 8)) (some ((bs.drop 8).drop 4)) (some (((bs.drop 8).drop 4).drop m)) none (Lib.beNat (bs.take 8)) (Lib.beNat ((bs.drop 8).take 4)) v 0 w h (fun w h => uint64_ok d bs w h h8 hn) (fun w h => uint32_ok d _ w h h4 (by simp; omega))
    (fun w h => uvarint_ok d m _ w h (by simp; omega) v hv hm hml) (fun w h => by obtain ⟨p, c, hd, hs⟩ := h; exact varint_bad d _ c p false _ w hd hs m2 k hk hm2) h3 (by simp [left]; omega)

theorem post_F {w : World} {d m m2 : Nat} {bs b1 b2 b3 : List UInt8} {v : Nat} {k : Int} (h : Dc w d bs) (hn : bs.length ≤ 2048) (h8 : 8 ≤ bs.length) (e1 : b1 = bs.drop 8) (h4 : 4 ≤ b1.length) (e2 : b2 = b1.drop 4)
    (hv : Lib.uvarintDec b2 = (v, (m : Int))) (hm : 0 < m) (e3 : b3 = b2.drop m) (h3 : 0 < b3.length) (hk : Lib.varintDec b3 = (k, (m2 : Int))) (hm2 : 0 < m2) :
    Posts w d (Lib.beNat (bs.take 8)) (wrap32 (Lib.beNat (b1.take 4))) (wrap32 v) k (some (b3.drop m2)) := by
  have hml : m ≤ b2.length := by have := uvarintDec_le b2; rw [hv] at this; simp at this; omega
  have hml2 : m2 ≤ b3.length := by have := uvarintDec_le b3; rw [← varintDec_snd, hk] at this; simp at this; omega
  subst e1
  subst e2
  subst e3
  exact posting_one d (some bs) (some (bs.drop 8)) (some ((bs.drop 8).drop 4)) (some (((bs.drop 8).drop 4).drop m)) _ (Lib.beNat (bs.take 8)) (Lib.beNat ((bs.drop 8).take 4)) v k w h (fun w h => uint64_ok d bs w h h8 hn) (fun w h => uint32_ok d _ w h h4 (by simp; omega))
    (fun w h => uvarint_ok d m _ w h (by simp; omega) v hv hm hml) (fun w h => varint_ok d m2 _ w h (by simp; omega) k hk hm2 hml2) h3 (by simp [left]; omega)

end Go.Proofs.Ybulkwms
