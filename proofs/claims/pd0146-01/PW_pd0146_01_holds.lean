import PyProof.Rows.All
import Wide.All
import OpenK.AllK
import Wide.FinOn
import Lean
import PySem.Challenge.RW_pd0146_01
set_option Elab.async false
set_option compiler.extract_closed false
namespace Mine
-- Hd
section
open PySem PySem.W PyProof.Rows
-- The head's own copies of its constants (some 24 MB of the compiled file) are not used by the proof that comes out: their names are taken beforehand by the library's own command, so that the head does without them.
theorem qk : @PySem.Manifest.find? = @PySem.Manifest.find? := rfl
name_quick tw8075568018651887793 for Manifest.find? by qk
name_quick tw17681737266400452711 for Manifest.find? by qk
name_quick tw14979626087600564940 for Manifest.find? by qk
name_quick tw6383152717251471909 for Manifest.find? by qk
name_quick tw970078002132370370 for Manifest.find? by qk
name_quick tw4294528693025177343 for Manifest.find? by qk
name_quick tw13896205201685373497 for Manifest.find? by qk
name_quick tw13606957523739123596 for Manifest.find? by qk
name_quick tw14530364306720264245 for Manifest.find? by qk
name_quick tw2661695276494613449 for Manifest.find? by qk
name_quick tw7250012664060256230 for Manifest.find? by qk
name_quick tw17111948838632640456 for Manifest.find? by qk
name_quick tw9380709410254546024 for Manifest.find? by qk
name_quick tw11588390666370768167 for Manifest.find? by qk
name_quick tw13512673800721320934 for Manifest.find? by qk
name_quick tw18211773271919218964 for Manifest.find? by qk
name_quick tw14204384831589138817 for Manifest.find? by qk
name_quick tw14311459727803291754 for Manifest.find? by qk
name_quick tw15490439104401381959 for Manifest.find? by qk
name_quick tw7232422423428716515 for Manifest.find? by qk
name_quick tw2478078296215019888 for Manifest.find? by qk
name_quick tw10029231156530900338 for Manifest.find? by qk
name_quick tw8860024209350480642 for Manifest.find? by qk
name_quick tw9697512110049397445 for Manifest.find? by qk
name_quick tw10942035263794033107 for Manifest.find? by qk
name_quick tw1414301608579184545 for Manifest.find? by qk
name_quick tw1377046205977697930 for Manifest.find? by qk
name_quick tw5268983451555188008 for Manifest.find? by qk
name_quick tw7269565832213808900 for Manifest.find? by qk
name_quick tw1355338860687761863 for Manifest.find? by qk
name_quick tw11317593695737139937 for Manifest.find? by qk
name_quick tw7745614565497352828 for Manifest.find? by qk
name_quick tw11853533878840232495 for Manifest.find? by qk
name_quick tw14326252917377295143 for Manifest.find? by qk
name_quick tw13900631225919944168 for Manifest.find? by qk
name_quick tw17164873540382356111 for Manifest.find? by qk
name_quick tw11543547407058413889 for Manifest.find? by qk
name_quick tw14386061602966655976 for Manifest.find? by qk
name_quick tw10833955939284561965 for Manifest.find? by qk
name_quick tw5396446701170858492 for Manifest.find? by qk
name_quick tw8727135674562949291 for Manifest.find? by qk
name_quick tw682011567655089306 for Manifest.find? by qk
name_quick tw3766158894648301139 for Manifest.find? by qk
name_quick tw5189142188285759775 for Manifest.find? by qk
name_quick tw18345786424863182364 for Manifest.find? by qk
name_quick tw15278061642289888581 for Manifest.find? by qk
name_quick tw6654550962395885724 for Manifest.find? by qk
name_quick tw7299303143086499733 for Manifest.find? by qk
name_quick tw15980859228951719591 for Manifest.find? by qk
name_quick tw6589095468515690095 for Manifest.find? by qk
name_quick tw16018607276475445134 for Manifest.find? by qk
name_quick tw460243522976405022 for Manifest.find? by qk
name_quick tw11270796479367742343 for Manifest.find? by qk
name_quick tw8376441433122354887 for Manifest.find? by qk
name_quick tw14553827428707814869 for Manifest.find? by qk
name_quick tw1333364371103165705 for Manifest.find? by qk
name_quick tw8753696776887207221 for Manifest.find? by qk
name_quick tw13981391230805400906 for Manifest.find? by qk
name_quick tw8603108125212654177 for Manifest.find? by qk
name_quick tw12945451867199242903 for Manifest.find? by qk
name_quick tw10887116778572429059 for Manifest.find? by qk
name_quick tw1218959903707654005 for Manifest.find? by qk
name_quick tw14714103240675001986 for Manifest.find? by qk
name_quick tw17497748084772794779 for Manifest.find? by qk
name_quick tw5032809538720368765 for Manifest.find? by qk
name_quick tw8537084889766193716 for Manifest.find? by qk
name_quick tw13678640442995254988 for Manifest.find? by qk
name_quick tw3764465048917985505 for Manifest.find? by qk
name_quick tw15112985482279097393 for Manifest.find? by qk
name_quick tw5770868932273138760 for Manifest.find? by qk
name_quick tw3891137856419664920 for Manifest.find? by qk
name_quick tw151948405760981731 for Manifest.find? by qk
name_quick tw15742981410569661332 for Manifest.find? by qk
name_quick tw6245536207120538393 for Manifest.find? by qk
name_quick tw17476080006546285661 for Manifest.find? by qk
name_quick tw9564595351457756722 for Manifest.find? by qk
name_quick tw13335737130258781183 for Manifest.find? by qk
name_quick tw11333186260410459676 for Manifest.find? by qk
name_quick tw13016732220969518872 for Manifest.find? by qk
name_quick tw1702518465993881591 for Manifest.find? by qk
name_quick tw13317431791736044220 for Manifest.find? by qk
name_quick tw9467589175468403638 for Manifest.find? by qk
name_quick tw12233582284571471492 for Manifest.find? by qk
name_quick tw16241802466949684156 for Manifest.find? by qk
name_quick tw2408619945344806742 for Manifest.find? by qk
name_quick tw3282434896037501709 for Manifest.find? by qk
name_quick tw5200128776193632040 for Manifest.find? by qk
name_quick tw4558998842232669794 for Manifest.find? by qk
name_quick tw13607416678640721797 for Manifest.find? by qk
name_quick tw2039238271031011813 for Manifest.find? by qk
name_quick tw5902227825499142635 for Manifest.find? by qk
name_quick tw392140993173905013 for Manifest.find? by qk
name_quick tw5978237884098788730 for Manifest.find? by qk
name_quick tw4552823106982906706 for Manifest.find? by qk
name_quick tw3362959441861295915 for Manifest.find? by qk
name_quick tw16643706677886111943 for Manifest.find? by qk
name_quick tw1829445100760108279 for Manifest.find? by qk
name_quick tw16414604833108395602 for Manifest.find? by qk
name_quick tw1402947280878808549 for Manifest.find? by qk
name_quick tw5529568453561195837 for Manifest.find? by qk
name_quick tw3577408171920636059 for Manifest.find? by qk
name_quick tw16593013826814733010 for Manifest.find? by qk
name_quick tw6004533443673955352 for Manifest.find? by qk
name_quick tw15066959818950650227 for Manifest.find? by qk
name_quick tw11445135464325071761 for Manifest.find? by qk
name_quick tw900395245841561262 for Manifest.find? by qk
name_quick tw14537914154153760125 for Manifest.find? by qk
name_quick tw18056578402003937789 for Manifest.find? by qk
name_quick tw4011157648589011858 for Manifest.find? by qk
name_quick tw13180171748994924942 for Manifest.find? by qk
name_quick tw18350330562280901221 for Manifest.find? by qk
name_quick tw16741492637210864865 for Manifest.find? by qk
name_quick tw8424611434330503625 for Manifest.find? by qk
name_quick tw14834023430324568649 for Manifest.find? by qk
name_quick tw8693227569615203950 for Manifest.find? by qk
name_quick tw117213463901210413 for Manifest.find? by qk
name_quick tw17964007177503468958 for Manifest.find? by qk
name_quick tw1537898542681612871 for Manifest.find? by qk
name_quick tw18260038339965228139 for Manifest.find? by qk
name_quick tw3976722010076183465 for Manifest.find? by qk
set_option maxRecDepth 100000
set_option maxHeartbeats 8000000
open_top hd for PySem.Challenge.rw_pd0146_01
example : True := by w_top off; trivial
end
-- Ar
section
theorem ar1 {n i : Nat} (h : i < n) : n - (i+1) < n - i := Nat.sub_succ_lt_self _ _ h
theorem ar2 {n i k : Nat} (h : n - i = k + 1) : n - (i+1) = k := congrArg Nat.pred h
theorem arP {n k : Nat} (h : n = k + 1) : n - 1 = k := congrArg Nat.pred h
theorem ar4 {n i : Nat} (h : i < n) : n - i = n - i - 1 + 1 := (Nat.succ_pred_eq_of_pos (Nat.sub_pos_of_lt h)).symm
theorem ar3 {n i : Nat} (h : i < n) : n - i = n - (i+1) + 1 := ar4 h
theorem ar5 {n i k : Nat} (h : n - i = k + 1) : i < n := Nat.lt_of_sub_pos (h ▸ Nat.succ_pos k)
theorem ar6 {n i : Nat} (h : n - i = 0) (h' : i ≤ n) : i = n := Nat.le_antisymm h' (Nat.le_of_sub_eq_zero h)
theorem ar7 {n i : Nat} (h : ¬ i < n) : n - i = 0 := Nat.sub_eq_zero_of_le (Nat.le_of_not_lt h)
theorem ar8 {l q : Int} (h : 0 ≤ q) (h' : q ≤ l) : l.toNat = (l - q).toNat + q.toNat :=
  (congrArg Int.toNat (Int.sub_add_cancel l q)).symm.trans (Int.toNat_add (Int.sub_nonneg_of_le h') h)
theorem ar9 {l k : Int} (h0 : 0 ≤ l) (h : 0 ≤ k) : l.toNat - k.toNat = (l - k).toNat := (Int.toNat_sub'' h0 h).symm
theorem ar11 {A B R c : Nat} (hp : 0 < c) (ih : A = R - (c - 1) ∧ B = c - 1 - R) : A = R + 1 - c ∧ B = c - (R + 1) := by
  cases c with
  | zero => exact absurd hp (Nat.lt_irrefl 0)
  | succ c => rw [Nat.add_sub_add_right, Nat.add_sub_add_right]; exact ih
theorem ar12 {A B R c : Nat} (h : c = 0) (ih : A = R - c ∧ B = c - R) : A + 1 = R + 1 - c ∧ B = c - (R + 1) := by
  subst h; exact ⟨congrArg Nat.succ ih.1, ih.2.trans ((Nat.zero_sub _).trans (Nat.zero_sub _).symm)⟩
theorem ar13 {hi lo m f : Nat} (h : hi - lo ≤ f + 1) (hm : lo ≤ m) : hi - (m + 1) ≤ f := Nat.pred_le_pred (Nat.le_trans (Nat.sub_le_sub_left hm hi) h)
theorem ar14 {hi lo m f : Nat} (h : hi - lo ≤ f + 1) (hm : lo ≤ m) (q : m < hi) : m - lo ≤ f := Nat.le_of_lt_succ (Nat.lt_of_lt_of_le (Nat.sub_lt_sub_right hm q) h)
theorem ar15 {n : Nat} {q : Int} (hq : 0 ≤ q) : max 0 (min (-q + n) n) = ((n - q.toNat : Nat) : Int) := by
  rw [Int.min_eq_left (Int.add_le_of_le_sub_right (by rw [Int.sub_self]; exact Int.neg_nonpos_of_nonneg hq)), Int.max_comm, Int.add_comm, ← Int.sub_eq_add_neg, ← Int.toNat_eq_max, Int.toNat_sub'' (Int.natCast_nonneg n) hq, Int.toNat_natCast]
theorem ar16 {f : Int} (h : 0 ≤ f ∧ f < 3) : 1 ≤ 1 + f ∧ 1 + f ≤ 3 := ⟨Int.le_add_of_nonneg_right h.1, Int.add_le_add_left (Int.le_of_lt_add_one (b := 2) h.2) 1⟩
theorem arT {x : Int} {n : Nat} (h : x ≤ n) : x.toNat ≤ n := Int.toNat_le.mpr h
theorem arL {x : Int} {n : Nat} (h : (n : Int) ≤ x) : n ≤ x.toNat := (Int.le_toNat (Int.le_trans (Int.natCast_nonneg n) h)).mpr h
theorem ar17 {a b : Int} (ha : 0 ≤ a) (hb : 0 ≤ b) : a.toNat < b.toNat ↔ a < b := by
  obtain ⟨m, rfl⟩ := Int.eq_ofNat_of_zero_le ha; obtain ⟨n, rfl⟩ := Int.eq_ofNat_of_zero_le hb; exact Int.ofNat_lt.symm
theorem ar18 {a b : Int} (ha : 0 ≤ a) (hb : 0 ≤ b) : a.toNat = b.toNat ↔ a = b := by
  obtain ⟨m, rfl⟩ := Int.eq_ofNat_of_zero_le ha; obtain ⟨n, rfl⟩ := Int.eq_ofNat_of_zero_le hb; exact Int.ofNat_inj.symm
theorem ar20 {O j m : Nat} (h : O - j = m + 1) : j = O - 1 - m := by
  have e : O = m + 1 + j := Nat.eq_add_of_sub_eq (Nat.le_of_lt (ar5 h)) h
  subst e; rw [Nat.add_right_comm, Nat.add_sub_cancel, Nat.add_sub_cancel_left]
theorem ar21 {n : Nat} : (-1 + (n : Int)).toNat = n - 1 := (congrArg Int.toNat (Int.add_comm _ _)).trans (Int.toNat_sub n 1)
theorem ar22 {k i j X Y i' j' : Nat} (h : k + i + j = X + Y) (h1 : i < X) (h2 : j ≤ Y) (h3 : i + j < i' + j') : X + Y - i' - j' < k := by
  rw [Nat.add_assoc] at h
  have e := Nat.add_lt_add_of_lt_of_le h1 h2
  rw [Nat.sub_sub, ← h]
  rw [← h] at e
  refine Nat.lt_of_le_of_lt (Nat.sub_le_sub_left h3 _) ?_
  rw [Nat.succ_eq_add_one, Nat.add_comm _ 1, Nat.add_sub_add_right]
  exact Nat.sub_lt (Nat.pos_of_lt_add_left e) Nat.one_pos
theorem ar23 {X Y i' j' : Nat} (h : i' ≤ X) (h' : j' ≤ Y) : X + Y - i' - j' + i' + j' = X + Y := by
  rw [Nat.add_assoc, Nat.sub_sub, Nat.sub_add_cancel (Nat.add_le_add h h')]
theorem ar24 {P Q R : Nat} (h : P ≤ R) : min Q P ≤ R := Nat.le_trans (Nat.min_le_right _ _) h
theorem ar25 {P Q R : Nat} (h : P ≤ R) : P - Q ≤ R := Nat.le_trans (Nat.sub_le _ _) h
theorem ar26 {lo hi : Nat} (h : lo < hi) : (lo + hi) / 2 < hi := Nat.div_lt_of_lt_mul (by rw [Nat.two_mul]; exact Nat.add_lt_add_right h hi)
theorem ar27 {lo hi : Nat} (h : lo < hi) : lo ≤ (lo + hi) / 2 := (Nat.le_div_iff_mul_le (by decide)).mpr (by rw [Nat.mul_two]; exact Nat.add_le_add_left (Nat.le_of_lt h) lo)
theorem ar28 {a n : Nat} (h : (a : Int) ≤ n) : max 0 (min (a : Int) n) = a := by rw [Int.min_eq_left h, Int.max_eq_right (Int.natCast_nonneg a)]
theorem ar29 {a b n : Nat} (h1 : a ≤ b) (h2 : b ≤ n) (h : b - a = n) : a = 0 := by
  subst h
  exact Nat.le_zero.mp (Nat.le_of_add_le_add_left (a := b - a) (by rw [Nat.sub_add_cancel h1]; exact h2))
theorem ar30 {n : Nat} {k : Int} (h0 : 0 ≤ k) (h1 : k ≤ n) : max 0 (min (if k < 0 then k + n else k) (n : Int)) = (k.toNat : Int) := by
  rw [if_neg (Int.not_lt.mpr h0), Int.min_eq_left h1, Int.max_eq_right h0, Int.toNat_of_nonneg h0]
theorem ar31 {x y x' y' : Nat} (h1 : ¬ (y < y' ∨ (y = y' ∧ x < x'))) (h2 : ¬ (y' < y ∨ (y' = y ∧ x' < x))) : y = y' ∧ x = x' := by
  have e : y = y' := Nat.le_antisymm (Nat.not_lt.mp fun z => h2 (.inl z)) (Nat.not_lt.mp fun z => h1 (.inl z))
  subst e
  exact ⟨rfl, Nat.le_antisymm (Nat.not_lt.mp fun z => h2 (.inr ⟨rfl, z⟩)) (Nat.not_lt.mp fun z => h1 (.inr ⟨rfl, z⟩))⟩
theorem ar32 {w s low : Int} {n : Nat} (h : w + s = low) (h2 : (n : Int) ≤ s) : w ≤ low := h ▸ Int.le_add_of_nonneg_right (Int.le_trans (Int.natCast_nonneg n) h2)
theorem ar34 {X i : Nat} (h : i < X) : X - (i + 1) + (i + 1) = X := Nat.sub_add_cancel h
theorem ar35 {k i X : Nat} (h : k + i = X) (h2 : i < X) : k - 1 + (i + 1) = X := by
  cases k with
  | zero => rw [Nat.zero_add] at h; exact absurd h (Nat.ne_of_lt h2)
  | succ k => rw [Nat.add_sub_cancel, ← h, Nat.add_assoc, Nat.add_comm 1 i]
theorem ar36 {c : Int} {d X : Nat} (h : 0 ≤ c) (e : c.toNat + (1 + d) = X) : (c + 1).toNat + d = X := by
  rw [Int.toNat_add h (by decide), Nat.add_assoc]; exact e
theorem ar37 {O j m z : Nat} (h0 : z ≤ j) (h : O - j = m + 1) : z ≤ O - 1 - m := Nat.le_trans h0 (Nat.le_of_eq (ar20 h))
theorem ar38 {O j m : Nat} (h : O - j = m + 1) : j = O - 1 - (m + 1 - 1) := ar20 h
theorem arS {O j m : Nat} (h : O - j = m + 1) : O - 1 - m = j := (ar20 h).symm
theorem ar40 {w y i : Nat} {q f : Int} (h : i < (1 + q.fmod 7).toNat) (hy : y ≤ 2 * i) (hw : w = y) (hf : 0 ≤ f ∧ f < 2) : w + (1 + f).toNat ≤ 1000 := by
  have a : (1 + q.fmod 7).toNat ≤ 7 := arT (Int.add_le_add_left (Int.le_of_lt_add_one (b := 6) (Int.fmod_lt_of_pos q (by decide))) 1)
  have b : (1 + f).toNat ≤ 2 := arT (Int.add_le_add_left (Int.le_of_lt_add_one (b := 1) hf.2) 1)
  have c : w ≤ 2 * 7 := hw ▸ Nat.le_trans hy (Nat.mul_le_mul_left 2 (Nat.le_of_lt (Nat.lt_of_lt_of_le h a)))
  exact Nat.le_trans (Nat.add_le_add c b) (by decide)
theorem ar43 {a f : Int} (h : 0 ≤ f) : a + 1 + f = a + ((1 + f).toNat : Int) := by
  rw [Int.toNat_of_nonneg (Int.add_nonneg (by decide) h), Int.add_assoc]
theorem ar45 {n i : Nat} (h : i < n) : n - i - 1 < n := Nat.lt_of_lt_of_le (Nat.sub_lt (Nat.sub_pos_of_lt h) Nat.one_pos) (Nat.sub_le _ _)
theorem ar46 {n i : Nat} (h : i < n) : n - i - 1 + 1 = n - i := (ar4 h).symm
theorem ar33 {n k : Nat} (h : n = k + 1) : k < n := h ▸ Nat.lt_succ_self k
theorem alC {α : Type _} {P : α → Prop} {a : α} {l : List α} (h : P a) (t : ∀ x, x ∈ l → P x) : ∀ x, x ∈ a :: l → P x := List.forall_mem_cons.mpr ⟨h, t⟩
-- obtain (ob.py)
theorem qE0A2 {p0 p1 : Prop} {G : Prop} (h : p0 ∧ p1) (k : p0 → p1 → G) : G := k h.1 h.2
theorem qE0A3 {p0 p1 p2 : Prop} {G : Prop} (h : p0 ∧ p1 ∧ p2) (k : p0 → p1 → p2 → G) : G := k h.1 h.2.1 h.2.2
theorem qE0A4 {p0 p1 p2 p3 : Prop} {G : Prop} (h : p0 ∧ p1 ∧ p2 ∧ p3) (k : p0 → p1 → p2 → p3 → G) : G := k h.1 h.2.1 h.2.2.1 h.2.2.2
theorem qE0A5 {p0 p1 p2 p3 p4 : Prop} {G : Prop} (h : p0 ∧ p1 ∧ p2 ∧ p3 ∧ p4) (k : p0 → p1 → p2 → p3 → p4 → G) : G := k h.1 h.2.1 h.2.2.1 h.2.2.2.1 h.2.2.2.2
theorem qE0A6 {p0 p1 p2 p3 p4 p5 : Prop} {G : Prop} (h : p0 ∧ p1 ∧ p2 ∧ p3 ∧ p4 ∧ p5) (k : p0 → p1 → p2 → p3 → p4 → p5 → G) : G := k h.1 h.2.1 h.2.2.1 h.2.2.2.1 h.2.2.2.2.1 h.2.2.2.2.2
theorem qE0A7 {p0 p1 p2 p3 p4 p5 p6 : Prop} {G : Prop} (h : p0 ∧ p1 ∧ p2 ∧ p3 ∧ p4 ∧ p5 ∧ p6) (k : p0 → p1 → p2 → p3 → p4 → p5 → p6 → G) : G := k h.1 h.2.1 h.2.2.1 h.2.2.2.1 h.2.2.2.2.1 h.2.2.2.2.2.1 h.2.2.2.2.2.2
theorem qE0A8 {p0 p1 p2 p3 p4 p5 p6 p7 : Prop} {G : Prop} (h : p0 ∧ p1 ∧ p2 ∧ p3 ∧ p4 ∧ p5 ∧ p6 ∧ p7) (k : p0 → p1 → p2 → p3 → p4 → p5 → p6 → p7 → G) : G := k h.1 h.2.1 h.2.2.1 h.2.2.2.1 h.2.2.2.2.1 h.2.2.2.2.2.1 h.2.2.2.2.2.2.1 h.2.2.2.2.2.2.2
theorem qE1A1 {α : Sort _} {p0 : α → Prop} {G : Prop} (h : ∃ x0, p0 x0) (k : ∀ x0, p0 x0 → G) : G := h.elim fun x0 h => k x0 h
theorem qE1A2 {α : Sort _} {p0 p1 : α → Prop} {G : Prop} (h : ∃ x0, p0 x0 ∧ p1 x0) (k : ∀ x0, p0 x0 → p1 x0 → G) : G := h.elim fun x0 h => k x0 h.1 h.2
theorem qE1A3 {α : Sort _} {p0 p1 p2 : α → Prop} {G : Prop} (h : ∃ x0, p0 x0 ∧ p1 x0 ∧ p2 x0) (k : ∀ x0, p0 x0 → p1 x0 → p2 x0 → G) : G := h.elim fun x0 h => k x0 h.1 h.2.1 h.2.2
theorem qE1A4 {α : Sort _} {p0 p1 p2 p3 : α → Prop} {G : Prop} (h : ∃ x0, p0 x0 ∧ p1 x0 ∧ p2 x0 ∧ p3 x0) (k : ∀ x0, p0 x0 → p1 x0 → p2 x0 → p3 x0 → G) : G := h.elim fun x0 h => k x0 h.1 h.2.1 h.2.2.1 h.2.2.2
theorem qE1A5 {α : Sort _} {p0 p1 p2 p3 p4 : α → Prop} {G : Prop} (h : ∃ x0, p0 x0 ∧ p1 x0 ∧ p2 x0 ∧ p3 x0 ∧ p4 x0) (k : ∀ x0, p0 x0 → p1 x0 → p2 x0 → p3 x0 → p4 x0 → G) : G := h.elim fun x0 h => k x0 h.1 h.2.1 h.2.2.1 h.2.2.2.1 h.2.2.2.2
theorem qE1A6 {α : Sort _} {p0 p1 p2 p3 p4 p5 : α → Prop} {G : Prop} (h : ∃ x0, p0 x0 ∧ p1 x0 ∧ p2 x0 ∧ p3 x0 ∧ p4 x0 ∧ p5 x0) (k : ∀ x0, p0 x0 → p1 x0 → p2 x0 → p3 x0 → p4 x0 → p5 x0 → G) : G := h.elim fun x0 h => k x0 h.1 h.2.1 h.2.2.1 h.2.2.2.1 h.2.2.2.2.1 h.2.2.2.2.2
theorem qE1A7 {α : Sort _} {p0 p1 p2 p3 p4 p5 p6 : α → Prop} {G : Prop} (h : ∃ x0, p0 x0 ∧ p1 x0 ∧ p2 x0 ∧ p3 x0 ∧ p4 x0 ∧ p5 x0 ∧ p6 x0) (k : ∀ x0, p0 x0 → p1 x0 → p2 x0 → p3 x0 → p4 x0 → p5 x0 → p6 x0 → G) : G := h.elim fun x0 h => k x0 h.1 h.2.1 h.2.2.1 h.2.2.2.1 h.2.2.2.2.1 h.2.2.2.2.2.1 h.2.2.2.2.2.2
theorem qE1A8 {α : Sort _} {p0 p1 p2 p3 p4 p5 p6 p7 : α → Prop} {G : Prop} (h : ∃ x0, p0 x0 ∧ p1 x0 ∧ p2 x0 ∧ p3 x0 ∧ p4 x0 ∧ p5 x0 ∧ p6 x0 ∧ p7 x0) (k : ∀ x0, p0 x0 → p1 x0 → p2 x0 → p3 x0 → p4 x0 → p5 x0 → p6 x0 → p7 x0 → G) : G := h.elim fun x0 h => k x0 h.1 h.2.1 h.2.2.1 h.2.2.2.1 h.2.2.2.2.1 h.2.2.2.2.2.1 h.2.2.2.2.2.2.1 h.2.2.2.2.2.2.2
theorem qE2A1 {α : Sort _} {β : Sort _} {p0 : α → β → Prop} {G : Prop} (h : ∃ x0, ∃ x1, p0 x0 x1) (k : ∀ x0 x1, p0 x0 x1 → G) : G := h.elim fun x0 h => h.elim fun x1 h => k x0 x1 h
theorem qE2A2 {α : Sort _} {β : Sort _} {p0 p1 : α → β → Prop} {G : Prop} (h : ∃ x0, ∃ x1, p0 x0 x1 ∧ p1 x0 x1) (k : ∀ x0 x1, p0 x0 x1 → p1 x0 x1 → G) : G := h.elim fun x0 h => h.elim fun x1 h => k x0 x1 h.1 h.2
theorem qE2A3 {α : Sort _} {β : Sort _} {p0 p1 p2 : α → β → Prop} {G : Prop} (h : ∃ x0, ∃ x1, p0 x0 x1 ∧ p1 x0 x1 ∧ p2 x0 x1) (k : ∀ x0 x1, p0 x0 x1 → p1 x0 x1 → p2 x0 x1 → G) : G := h.elim fun x0 h => h.elim fun x1 h => k x0 x1 h.1 h.2.1 h.2.2
theorem qE2A4 {α : Sort _} {β : Sort _} {p0 p1 p2 p3 : α → β → Prop} {G : Prop} (h : ∃ x0, ∃ x1, p0 x0 x1 ∧ p1 x0 x1 ∧ p2 x0 x1 ∧ p3 x0 x1) (k : ∀ x0 x1, p0 x0 x1 → p1 x0 x1 → p2 x0 x1 → p3 x0 x1 → G) : G := h.elim fun x0 h => h.elim fun x1 h => k x0 x1 h.1 h.2.1 h.2.2.1 h.2.2.2
theorem qE2A5 {α : Sort _} {β : Sort _} {p0 p1 p2 p3 p4 : α → β → Prop} {G : Prop} (h : ∃ x0, ∃ x1, p0 x0 x1 ∧ p1 x0 x1 ∧ p2 x0 x1 ∧ p3 x0 x1 ∧ p4 x0 x1) (k : ∀ x0 x1, p0 x0 x1 → p1 x0 x1 → p2 x0 x1 → p3 x0 x1 → p4 x0 x1 → G) : G := h.elim fun x0 h => h.elim fun x1 h => k x0 x1 h.1 h.2.1 h.2.2.1 h.2.2.2.1 h.2.2.2.2
theorem qE2A6 {α : Sort _} {β : Sort _} {p0 p1 p2 p3 p4 p5 : α → β → Prop} {G : Prop} (h : ∃ x0, ∃ x1, p0 x0 x1 ∧ p1 x0 x1 ∧ p2 x0 x1 ∧ p3 x0 x1 ∧ p4 x0 x1 ∧ p5 x0 x1) (k : ∀ x0 x1, p0 x0 x1 → p1 x0 x1 → p2 x0 x1 → p3 x0 x1 → p4 x0 x1 → p5 x0 x1 → G) : G := h.elim fun x0 h => h.elim fun x1 h => k x0 x1 h.1 h.2.1 h.2.2.1 h.2.2.2.1 h.2.2.2.2.1 h.2.2.2.2.2
theorem qE2A7 {α : Sort _} {β : Sort _} {p0 p1 p2 p3 p4 p5 p6 : α → β → Prop} {G : Prop} (h : ∃ x0, ∃ x1, p0 x0 x1 ∧ p1 x0 x1 ∧ p2 x0 x1 ∧ p3 x0 x1 ∧ p4 x0 x1 ∧ p5 x0 x1 ∧ p6 x0 x1) (k : ∀ x0 x1, p0 x0 x1 → p1 x0 x1 → p2 x0 x1 → p3 x0 x1 → p4 x0 x1 → p5 x0 x1 → p6 x0 x1 → G) : G := h.elim fun x0 h => h.elim fun x1 h => k x0 x1 h.1 h.2.1 h.2.2.1 h.2.2.2.1 h.2.2.2.2.1 h.2.2.2.2.2.1 h.2.2.2.2.2.2
theorem qE2A8 {α : Sort _} {β : Sort _} {p0 p1 p2 p3 p4 p5 p6 p7 : α → β → Prop} {G : Prop} (h : ∃ x0, ∃ x1, p0 x0 x1 ∧ p1 x0 x1 ∧ p2 x0 x1 ∧ p3 x0 x1 ∧ p4 x0 x1 ∧ p5 x0 x1 ∧ p6 x0 x1 ∧ p7 x0 x1) (k : ∀ x0 x1, p0 x0 x1 → p1 x0 x1 → p2 x0 x1 → p3 x0 x1 → p4 x0 x1 → p5 x0 x1 → p6 x0 x1 → p7 x0 x1 → G) : G := h.elim fun x0 h => h.elim fun x1 h => k x0 x1 h.1 h.2.1 h.2.2.1 h.2.2.2.1 h.2.2.2.2.1 h.2.2.2.2.2.1 h.2.2.2.2.2.2.1 h.2.2.2.2.2.2.2
theorem qE3A1 {α : Sort _} {β : Sort _} {γ : Sort _} {p0 : α → β → γ → Prop} {G : Prop} (h : ∃ x0, ∃ x1, ∃ x2, p0 x0 x1 x2) (k : ∀ x0 x1 x2, p0 x0 x1 x2 → G) : G := h.elim fun x0 h => h.elim fun x1 h => h.elim fun x2 h => k x0 x1 x2 h
theorem qE3A2 {α : Sort _} {β : Sort _} {γ : Sort _} {p0 p1 : α → β → γ → Prop} {G : Prop} (h : ∃ x0, ∃ x1, ∃ x2, p0 x0 x1 x2 ∧ p1 x0 x1 x2) (k : ∀ x0 x1 x2, p0 x0 x1 x2 → p1 x0 x1 x2 → G) : G := h.elim fun x0 h => h.elim fun x1 h => h.elim fun x2 h => k x0 x1 x2 h.1 h.2
theorem qE3A3 {α : Sort _} {β : Sort _} {γ : Sort _} {p0 p1 p2 : α → β → γ → Prop} {G : Prop} (h : ∃ x0, ∃ x1, ∃ x2, p0 x0 x1 x2 ∧ p1 x0 x1 x2 ∧ p2 x0 x1 x2) (k : ∀ x0 x1 x2, p0 x0 x1 x2 → p1 x0 x1 x2 → p2 x0 x1 x2 → G) : G := h.elim fun x0 h => h.elim fun x1 h => h.elim fun x2 h => k x0 x1 x2 h.1 h.2.1 h.2.2
theorem qE3A4 {α : Sort _} {β : Sort _} {γ : Sort _} {p0 p1 p2 p3 : α → β → γ → Prop} {G : Prop} (h : ∃ x0, ∃ x1, ∃ x2, p0 x0 x1 x2 ∧ p1 x0 x1 x2 ∧ p2 x0 x1 x2 ∧ p3 x0 x1 x2) (k : ∀ x0 x1 x2, p0 x0 x1 x2 → p1 x0 x1 x2 → p2 x0 x1 x2 → p3 x0 x1 x2 → G) : G := h.elim fun x0 h => h.elim fun x1 h => h.elim fun x2 h => k x0 x1 x2 h.1 h.2.1 h.2.2.1 h.2.2.2
theorem qE3A5 {α : Sort _} {β : Sort _} {γ : Sort _} {p0 p1 p2 p3 p4 : α → β → γ → Prop} {G : Prop} (h : ∃ x0, ∃ x1, ∃ x2, p0 x0 x1 x2 ∧ p1 x0 x1 x2 ∧ p2 x0 x1 x2 ∧ p3 x0 x1 x2 ∧ p4 x0 x1 x2) (k : ∀ x0 x1 x2, p0 x0 x1 x2 → p1 x0 x1 x2 → p2 x0 x1 x2 → p3 x0 x1 x2 → p4 x0 x1 x2 → G) : G := h.elim fun x0 h => h.elim fun x1 h => h.elim fun x2 h => k x0 x1 x2 h.1 h.2.1 h.2.2.1 h.2.2.2.1 h.2.2.2.2
theorem qE3A6 {α : Sort _} {β : Sort _} {γ : Sort _} {p0 p1 p2 p3 p4 p5 : α → β → γ → Prop} {G : Prop} (h : ∃ x0, ∃ x1, ∃ x2, p0 x0 x1 x2 ∧ p1 x0 x1 x2 ∧ p2 x0 x1 x2 ∧ p3 x0 x1 x2 ∧ p4 x0 x1 x2 ∧ p5 x0 x1 x2) (k : ∀ x0 x1 x2, p0 x0 x1 x2 → p1 x0 x1 x2 → p2 x0 x1 x2 → p3 x0 x1 x2 → p4 x0 x1 x2 → p5 x0 x1 x2 → G) : G := h.elim fun x0 h => h.elim fun x1 h => h.elim fun x2 h => k x0 x1 x2 h.1 h.2.1 h.2.2.1 h.2.2.2.1 h.2.2.2.2.1 h.2.2.2.2.2
theorem qE3A7 {α : Sort _} {β : Sort _} {γ : Sort _} {p0 p1 p2 p3 p4 p5 p6 : α → β → γ → Prop} {G : Prop} (h : ∃ x0, ∃ x1, ∃ x2, p0 x0 x1 x2 ∧ p1 x0 x1 x2 ∧ p2 x0 x1 x2 ∧ p3 x0 x1 x2 ∧ p4 x0 x1 x2 ∧ p5 x0 x1 x2 ∧ p6 x0 x1 x2) (k : ∀ x0 x1 x2, p0 x0 x1 x2 → p1 x0 x1 x2 → p2 x0 x1 x2 → p3 x0 x1 x2 → p4 x0 x1 x2 → p5 x0 x1 x2 → p6 x0 x1 x2 → G) : G := h.elim fun x0 h => h.elim fun x1 h => h.elim fun x2 h => k x0 x1 x2 h.1 h.2.1 h.2.2.1 h.2.2.2.1 h.2.2.2.2.1 h.2.2.2.2.2.1 h.2.2.2.2.2.2
theorem qE3A8 {α : Sort _} {β : Sort _} {γ : Sort _} {p0 p1 p2 p3 p4 p5 p6 p7 : α → β → γ → Prop} {G : Prop} (h : ∃ x0, ∃ x1, ∃ x2, p0 x0 x1 x2 ∧ p1 x0 x1 x2 ∧ p2 x0 x1 x2 ∧ p3 x0 x1 x2 ∧ p4 x0 x1 x2 ∧ p5 x0 x1 x2 ∧ p6 x0 x1 x2 ∧ p7 x0 x1 x2) (k : ∀ x0 x1 x2, p0 x0 x1 x2 → p1 x0 x1 x2 → p2 x0 x1 x2 → p3 x0 x1 x2 → p4 x0 x1 x2 → p5 x0 x1 x2 → p6 x0 x1 x2 → p7 x0 x1 x2 → G) : G := h.elim fun x0 h => h.elim fun x1 h => h.elim fun x2 h => k x0 x1 x2 h.1 h.2.1 h.2.2.1 h.2.2.2.1 h.2.2.2.2.1 h.2.2.2.2.2.1 h.2.2.2.2.2.2.1 h.2.2.2.2.2.2.2
theorem qE4A1 {α : Sort _} {β : Sort _} {γ : Sort _} {δ : Sort _} {p0 : α → β → γ → δ → Prop} {G : Prop} (h : ∃ x0, ∃ x1, ∃ x2, ∃ x3, p0 x0 x1 x2 x3) (k : ∀ x0 x1 x2 x3, p0 x0 x1 x2 x3 → G) : G := h.elim fun x0 h => h.elim fun x1 h => h.elim fun x2 h => h.elim fun x3 h => k x0 x1 x2 x3 h
theorem qE4A2 {α : Sort _} {β : Sort _} {γ : Sort _} {δ : Sort _} {p0 p1 : α → β → γ → δ → Prop} {G : Prop} (h : ∃ x0, ∃ x1, ∃ x2, ∃ x3, p0 x0 x1 x2 x3 ∧ p1 x0 x1 x2 x3) (k : ∀ x0 x1 x2 x3, p0 x0 x1 x2 x3 → p1 x0 x1 x2 x3 → G) : G := h.elim fun x0 h => h.elim fun x1 h => h.elim fun x2 h => h.elim fun x3 h => k x0 x1 x2 x3 h.1 h.2
theorem qE4A3 {α : Sort _} {β : Sort _} {γ : Sort _} {δ : Sort _} {p0 p1 p2 : α → β → γ → δ → Prop} {G : Prop} (h : ∃ x0, ∃ x1, ∃ x2, ∃ x3, p0 x0 x1 x2 x3 ∧ p1 x0 x1 x2 x3 ∧ p2 x0 x1 x2 x3) (k : ∀ x0 x1 x2 x3, p0 x0 x1 x2 x3 → p1 x0 x1 x2 x3 → p2 x0 x1 x2 x3 → G) : G := h.elim fun x0 h => h.elim fun x1 h => h.elim fun x2 h => h.elim fun x3 h => k x0 x1 x2 x3 h.1 h.2.1 h.2.2
theorem qE4A4 {α : Sort _} {β : Sort _} {γ : Sort _} {δ : Sort _} {p0 p1 p2 p3 : α → β → γ → δ → Prop} {G : Prop} (h : ∃ x0, ∃ x1, ∃ x2, ∃ x3, p0 x0 x1 x2 x3 ∧ p1 x0 x1 x2 x3 ∧ p2 x0 x1 x2 x3 ∧ p3 x0 x1 x2 x3) (k : ∀ x0 x1 x2 x3, p0 x0 x1 x2 x3 → p1 x0 x1 x2 x3 → p2 x0 x1 x2 x3 → p3 x0 x1 x2 x3 → G) : G := h.elim fun x0 h => h.elim fun x1 h => h.elim fun x2 h => h.elim fun x3 h => k x0 x1 x2 x3 h.1 h.2.1 h.2.2.1 h.2.2.2
theorem qE4A5 {α : Sort _} {β : Sort _} {γ : Sort _} {δ : Sort _} {p0 p1 p2 p3 p4 : α → β → γ → δ → Prop} {G : Prop} (h : ∃ x0, ∃ x1, ∃ x2, ∃ x3, p0 x0 x1 x2 x3 ∧ p1 x0 x1 x2 x3 ∧ p2 x0 x1 x2 x3 ∧ p3 x0 x1 x2 x3 ∧ p4 x0 x1 x2 x3) (k : ∀ x0 x1 x2 x3, p0 x0 x1 x2 x3 → p1 x0 x1 x2 x3 → p2 x0 x1 x2 x3 → p3 x0 x1 x2 x3 → p4 x0 x1 x2 x3 → G) : G := h.elim fun x0 h => h.elim fun x1 h => h.elim fun x2 h => h.elim fun x3 h => k x0 x1 x2 x3 h.1 h.2.1 h.2.2.1 h.2.2.2.1 h.2.2.2.2
theorem qE4A6 {α : Sort _} {β : Sort _} {γ : Sort _} {δ : Sort _} {p0 p1 p2 p3 p4 p5 : α → β → γ → δ → Prop} {G : Prop} (h : ∃ x0, ∃ x1, ∃ x2, ∃ x3, p0 x0 x1 x2 x3 ∧ p1 x0 x1 x2 x3 ∧ p2 x0 x1 x2 x3 ∧ p3 x0 x1 x2 x3 ∧ p4 x0 x1 x2 x3 ∧ p5 x0 x1 x2 x3) (k : ∀ x0 x1 x2 x3, p0 x0 x1 x2 x3 → p1 x0 x1 x2 x3 → p2 x0 x1 x2 x3 → p3 x0 x1 x2 x3 → p4 x0 x1 x2 x3 → p5 x0 x1 x2 x3 → G) : G := h.elim fun x0 h => h.elim fun x1 h => h.elim fun x2 h => h.elim fun x3 h => k x0 x1 x2 x3 h.1 h.2.1 h.2.2.1 h.2.2.2.1 h.2.2.2.2.1 h.2.2.2.2.2
theorem qE4A7 {α : Sort _} {β : Sort _} {γ : Sort _} {δ : Sort _} {p0 p1 p2 p3 p4 p5 p6 : α → β → γ → δ → Prop} {G : Prop} (h : ∃ x0, ∃ x1, ∃ x2, ∃ x3, p0 x0 x1 x2 x3 ∧ p1 x0 x1 x2 x3 ∧ p2 x0 x1 x2 x3 ∧ p3 x0 x1 x2 x3 ∧ p4 x0 x1 x2 x3 ∧ p5 x0 x1 x2 x3 ∧ p6 x0 x1 x2 x3) (k : ∀ x0 x1 x2 x3, p0 x0 x1 x2 x3 → p1 x0 x1 x2 x3 → p2 x0 x1 x2 x3 → p3 x0 x1 x2 x3 → p4 x0 x1 x2 x3 → p5 x0 x1 x2 x3 → p6 x0 x1 x2 x3 → G) : G := h.elim fun x0 h => h.elim fun x1 h => h.elim fun x2 h => h.elim fun x3 h => k x0 x1 x2 x3 h.1 h.2.1 h.2.2.1 h.2.2.2.1 h.2.2.2.2.1 h.2.2.2.2.2.1 h.2.2.2.2.2.2
theorem qE4A8 {α : Sort _} {β : Sort _} {γ : Sort _} {δ : Sort _} {p0 p1 p2 p3 p4 p5 p6 p7 : α → β → γ → δ → Prop} {G : Prop} (h : ∃ x0, ∃ x1, ∃ x2, ∃ x3, p0 x0 x1 x2 x3 ∧ p1 x0 x1 x2 x3 ∧ p2 x0 x1 x2 x3 ∧ p3 x0 x1 x2 x3 ∧ p4 x0 x1 x2 x3 ∧ p5 x0 x1 x2 x3 ∧ p6 x0 x1 x2 x3 ∧ p7 x0 x1 x2 x3) (k : ∀ x0 x1 x2 x3, p0 x0 x1 x2 x3 → p1 x0 x1 x2 x3 → p2 x0 x1 x2 x3 → p3 x0 x1 x2 x3 → p4 x0 x1 x2 x3 → p5 x0 x1 x2 x3 → p6 x0 x1 x2 x3 → p7 x0 x1 x2 x3 → G) : G := h.elim fun x0 h => h.elim fun x1 h => h.elim fun x2 h => h.elim fun x3 h => k x0 x1 x2 x3 h.1 h.2.1 h.2.2.1 h.2.2.2.1 h.2.2.2.2.1 h.2.2.2.2.2.1 h.2.2.2.2.2.2.1 h.2.2.2.2.2.2.2
theorem qE5A1 {α : Sort _} {β : Sort _} {γ : Sort _} {δ : Sort _} {ε : Sort _} {p0 : α → β → γ → δ → ε → Prop} {G : Prop} (h : ∃ x0, ∃ x1, ∃ x2, ∃ x3, ∃ x4, p0 x0 x1 x2 x3 x4) (k : ∀ x0 x1 x2 x3 x4, p0 x0 x1 x2 x3 x4 → G) : G := h.elim fun x0 h => h.elim fun x1 h => h.elim fun x2 h => h.elim fun x3 h => h.elim fun x4 h => k x0 x1 x2 x3 x4 h
theorem qE5A2 {α : Sort _} {β : Sort _} {γ : Sort _} {δ : Sort _} {ε : Sort _} {p0 p1 : α → β → γ → δ → ε → Prop} {G : Prop} (h : ∃ x0, ∃ x1, ∃ x2, ∃ x3, ∃ x4, p0 x0 x1 x2 x3 x4 ∧ p1 x0 x1 x2 x3 x4) (k : ∀ x0 x1 x2 x3 x4, p0 x0 x1 x2 x3 x4 → p1 x0 x1 x2 x3 x4 → G) : G := h.elim fun x0 h => h.elim fun x1 h => h.elim fun x2 h => h.elim fun x3 h => h.elim fun x4 h => k x0 x1 x2 x3 x4 h.1 h.2
theorem qE5A3 {α : Sort _} {β : Sort _} {γ : Sort _} {δ : Sort _} {ε : Sort _} {p0 p1 p2 : α → β → γ → δ → ε → Prop} {G : Prop} (h : ∃ x0, ∃ x1, ∃ x2, ∃ x3, ∃ x4, p0 x0 x1 x2 x3 x4 ∧ p1 x0 x1 x2 x3 x4 ∧ p2 x0 x1 x2 x3 x4) (k : ∀ x0 x1 x2 x3 x4, p0 x0 x1 x2 x3 x4 → p1 x0 x1 x2 x3 x4 → p2 x0 x1 x2 x3 x4 → G) : G := h.elim fun x0 h => h.elim fun x1 h => h.elim fun x2 h => h.elim fun x3 h => h.elim fun x4 h => k x0 x1 x2 x3 x4 h.1 h.2.1 h.2.2
theorem qE5A4 {α : Sort _} {β : Sort _} {γ : Sort _} {δ : Sort _} {ε : Sort _} {p0 p1 p2 p3 : α → β → γ → δ → ε → Prop} {G : Prop} (h : ∃ x0, ∃ x1, ∃ x2, ∃ x3, ∃ x4, p0 x0 x1 x2 x3 x4 ∧ p1 x0 x1 x2 x3 x4 ∧ p2 x0 x1 x2 x3 x4 ∧ p3 x0 x1 x2 x3 x4) (k : ∀ x0 x1 x2 x3 x4, p0 x0 x1 x2 x3 x4 → p1 x0 x1 x2 x3 x4 → p2 x0 x1 x2 x3 x4 → p3 x0 x1 x2 x3 x4 → G) : G := h.elim fun x0 h => h.elim fun x1 h => h.elim fun x2 h => h.elim fun x3 h => h.elim fun x4 h => k x0 x1 x2 x3 x4 h.1 h.2.1 h.2.2.1 h.2.2.2
theorem qE5A5 {α : Sort _} {β : Sort _} {γ : Sort _} {δ : Sort _} {ε : Sort _} {p0 p1 p2 p3 p4 : α → β → γ → δ → ε → Prop} {G : Prop} (h : ∃ x0, ∃ x1, ∃ x2, ∃ x3, ∃ x4, p0 x0 x1 x2 x3 x4 ∧ p1 x0 x1 x2 x3 x4 ∧ p2 x0 x1 x2 x3 x4 ∧ p3 x0 x1 x2 x3 x4 ∧ p4 x0 x1 x2 x3 x4) (k : ∀ x0 x1 x2 x3 x4, p0 x0 x1 x2 x3 x4 → p1 x0 x1 x2 x3 x4 → p2 x0 x1 x2 x3 x4 → p3 x0 x1 x2 x3 x4 → p4 x0 x1 x2 x3 x4 → G) : G := h.elim fun x0 h => h.elim fun x1 h => h.elim fun x2 h => h.elim fun x3 h => h.elim fun x4 h => k x0 x1 x2 x3 x4 h.1 h.2.1 h.2.2.1 h.2.2.2.1 h.2.2.2.2
theorem qE5A6 {α : Sort _} {β : Sort _} {γ : Sort _} {δ : Sort _} {ε : Sort _} {p0 p1 p2 p3 p4 p5 : α → β → γ → δ → ε → Prop} {G : Prop} (h : ∃ x0, ∃ x1, ∃ x2, ∃ x3, ∃ x4, p0 x0 x1 x2 x3 x4 ∧ p1 x0 x1 x2 x3 x4 ∧ p2 x0 x1 x2 x3 x4 ∧ p3 x0 x1 x2 x3 x4 ∧ p4 x0 x1 x2 x3 x4 ∧ p5 x0 x1 x2 x3 x4) (k : ∀ x0 x1 x2 x3 x4, p0 x0 x1 x2 x3 x4 → p1 x0 x1 x2 x3 x4 → p2 x0 x1 x2 x3 x4 → p3 x0 x1 x2 x3 x4 → p4 x0 x1 x2 x3 x4 → p5 x0 x1 x2 x3 x4 → G) : G := h.elim fun x0 h => h.elim fun x1 h => h.elim fun x2 h => h.elim fun x3 h => h.elim fun x4 h => k x0 x1 x2 x3 x4 h.1 h.2.1 h.2.2.1 h.2.2.2.1 h.2.2.2.2.1 h.2.2.2.2.2
theorem qE5A7 {α : Sort _} {β : Sort _} {γ : Sort _} {δ : Sort _} {ε : Sort _} {p0 p1 p2 p3 p4 p5 p6 : α → β → γ → δ → ε → Prop} {G : Prop} (h : ∃ x0, ∃ x1, ∃ x2, ∃ x3, ∃ x4, p0 x0 x1 x2 x3 x4 ∧ p1 x0 x1 x2 x3 x4 ∧ p2 x0 x1 x2 x3 x4 ∧ p3 x0 x1 x2 x3 x4 ∧ p4 x0 x1 x2 x3 x4 ∧ p5 x0 x1 x2 x3 x4 ∧ p6 x0 x1 x2 x3 x4) (k : ∀ x0 x1 x2 x3 x4, p0 x0 x1 x2 x3 x4 → p1 x0 x1 x2 x3 x4 → p2 x0 x1 x2 x3 x4 → p3 x0 x1 x2 x3 x4 → p4 x0 x1 x2 x3 x4 → p5 x0 x1 x2 x3 x4 → p6 x0 x1 x2 x3 x4 → G) : G := h.elim fun x0 h => h.elim fun x1 h => h.elim fun x2 h => h.elim fun x3 h => h.elim fun x4 h => k x0 x1 x2 x3 x4 h.1 h.2.1 h.2.2.1 h.2.2.2.1 h.2.2.2.2.1 h.2.2.2.2.2.1 h.2.2.2.2.2.2
theorem qE5A8 {α : Sort _} {β : Sort _} {γ : Sort _} {δ : Sort _} {ε : Sort _} {p0 p1 p2 p3 p4 p5 p6 p7 : α → β → γ → δ → ε → Prop} {G : Prop} (h : ∃ x0, ∃ x1, ∃ x2, ∃ x3, ∃ x4, p0 x0 x1 x2 x3 x4 ∧ p1 x0 x1 x2 x3 x4 ∧ p2 x0 x1 x2 x3 x4 ∧ p3 x0 x1 x2 x3 x4 ∧ p4 x0 x1 x2 x3 x4 ∧ p5 x0 x1 x2 x3 x4 ∧ p6 x0 x1 x2 x3 x4 ∧ p7 x0 x1 x2 x3 x4) (k : ∀ x0 x1 x2 x3 x4, p0 x0 x1 x2 x3 x4 → p1 x0 x1 x2 x3 x4 → p2 x0 x1 x2 x3 x4 → p3 x0 x1 x2 x3 x4 → p4 x0 x1 x2 x3 x4 → p5 x0 x1 x2 x3 x4 → p6 x0 x1 x2 x3 x4 → p7 x0 x1 x2 x3 x4 → G) : G := h.elim fun x0 h => h.elim fun x1 h => h.elim fun x2 h => h.elim fun x3 h => h.elim fun x4 h => k x0 x1 x2 x3 x4 h.1 h.2.1 h.2.2.1 h.2.2.2.1 h.2.2.2.2.1 h.2.2.2.2.2.1 h.2.2.2.2.2.2.1 h.2.2.2.2.2.2.2
end
-- Base
open PySem PySem.W PySem.Calls PyProof.Rows
noncomputable def FL : Prop := ∀ (w : World) (A : Around) (e : Env) (Q : Flow → Shared → Prop) (E : Value → Shared → Prop) (s : Shared), wpAny (model PySem.Challenge.rw_pd0146_01.row.prog w) A (execs [] e) Q E s → wpAny (model PySem.Challenge.rw_pd0146_01.row.prog w) A (execs [] e) Q E s
local macro_rules | `(tactic| omega) => `(tactic| first | (with_reducible assumption) | lia | (omega +splitDisjunctions))
section
theorem nS1 (n : Nat) : n + 1 ≠ n := Nat.succ_ne_self n
theorem nS2 (n : Nat) : n + 1 + 1 ≠ n := fun h => Nat.lt_irrefl n (Nat.lt_of_lt_of_eq (Nat.lt_succ_of_lt (Nat.lt_succ_self n)) h)
theorem nS3 (n : Nat) : n + 1 + 1 + 1 ≠ n := fun h => Nat.lt_irrefl n (Nat.lt_of_lt_of_eq (Nat.lt_succ_of_lt (Nat.lt_succ_of_lt (Nat.lt_succ_self n))) h)
theorem nS4 (n : Nat) : n + 1 + 1 + 1 + 1 ≠ n := fun h => Nat.lt_irrefl n (Nat.lt_of_lt_of_eq (Nat.lt_succ_of_lt (Nat.lt_succ_of_lt (Nat.lt_succ_of_lt (Nat.lt_succ_self n)))) h)

noncomputable def Keeps (h h' : Heap) : Prop := ∀ b o, h.get? b = some o → h'.get? b = some o
theorem Keeps.rfl {h : Heap} : Keeps h h := fun _ _ e => e
theorem Keeps.trans {a b c : Heap} (x : Keeps a b) (y : Keeps b c) : Keeps a c := fun _ _ e => y _ _ (x _ _ e)

theorem enterC {prog : Program} {w : World} {A : Around} {s : Shared} {K : Frag} {Q : Value → Shared → Prop} {E : Value → Shared → Prop} {name qual : Str} {params : Arguments} {body : List Stmt} {scope : Scope} {dV kV doc pm cdv ct oc : Value} {an od : Option Addr} {osl : Array (Option Value)} {f : Addr} {args : List Value} {binds : List (Str × Value)}
    (X : K.In s.heap) (hlim : s.heap.NoLimit)
    (ho : K.lookup f = some ⟨oc, od, .func (fnOf name qual params body scope dV kV doc pm an cdv ct), osl⟩) (hcd : codeIn K cdv qual = true) (hroom : A.depth < recursionLimit)
    (hbind : BindsTo s (fnOf name qual params body scope dV kV doc pm an cdv ct) ⟨args, []⟩ binds) (hloc : ∀ y ∈ binds, scope.names.lookup y.1 = some .local)
    (h : ∀ h₁ L', Fr s.heap L' h₁ (fun y => binds.reverse.lookup y) → News s.heap L' h₁ [] →
      wpAny (model prog w) (A.deeper (envOf qual scope L' f cdv)) (execs body (envOf qual scope L' f cdv))
        (fun fl s' => Q (match fl with | .ret v => v | _ => .none) s')
        (fun e s' => wpAny (model prog w) (A.deeper (envOf qual scope L' f cdv)) (leaving (envOf qual scope L' f cdv) e) (fun _ s'' => E e s'') (fun e' s'' => E e' s'') s')
        { s with heap := h₁, toks := s.toks + binds.length })
    (hco : scope.isCoroutine = false) (hgen : scope.isGenerator = false) (hk : scope.kind = .function)
    (hcell : ∀ x ∈ scope.names, x.2 ≠ .cell) : wpAny (model prog w) A (call (.ref f) args) Q E s := by
  refine wpAny_call ?_
  refine codeAny_call_def (fd := fnOf name qual params body scope dV kV doc pm an cdv ct) (body := body) (binds := binds) hroom (X _ _ ho) rfl hlim (codeRec_of X hcd) rfl hbind hcell hloc (fun h₁ hns hk₁ => ?_) hco hgen hk
  exact h h₁ s.heap.objs.size ⟨hns, hk₁, Nat.le_refl _⟩ News.nil

abbrev MD (w : World) : Model := model Challenge.rw_pd0146_01.row.prog w
open PySem PySem.W PySem.Calls PyProof.Rows
theorem fillIt {w : World} {h : Heap} (X : (Mine.hd.heap_39 w.params).In h) : (Mine.hd.heap_39 w.params).In h ∧ Challenge.rw_pd0146_01.name = Challenge.rw_pd0146_01.name := ⟨X, rfl⟩
end
-- R1
section
set_option maxRecDepth 100000
set_option maxHeartbeats 2000000
section
variable {prog : Program} {w : World} {A : Around} {s : Shared} {E : Value → Shared → Prop}
theorem sub_self : isSubtype (.type "str") (.type "str") = pure true := by rfl
theorem isType_str : isType (.type "str") = pure true := by rfl
theorem issub_nested_str {d : Int} {Q : Fin → Shared → Prop} (hq : Q (.done (.ret (.bool true))) s) :
    wpAny (model prog w) A (Builtin.«issubclass.nested» ⟨[.type "str", .type "str", .int d 0], []⟩) Q E s := by
  have e1 : typeOf (.type "str") = pure (.type "type") := by rfl
  have e2 := sub_self
  have e3 := isType_str
  repeat (any_goals (first | assumption | (rw [e2]) | (rw [e3]) | wp_step))
theorem kind_issubn : builtinKind "issubclass.nested" = none := by decide +kernel
theorem plain_issubn : plainId "issubclass.nested" = true := by decide +kernel
theorem args_issubn (a b c : Value) : argsOk "issubclass.nested" ⟨[a, b, c], []⟩ := by unfold argsOk; kernel_rfl
theorem call_issubn {d : Int} {Q : Value → Shared → Prop} (h : Q (.bool true) s) :
    wpAny (model prog w) A (call (.builtin "issubclass.nested") [.type "str", .type "str", .int d 0]) Q E s :=
  call_function_meets (S := fun _ R s => R (.ok (.ret (.bool true))) s) kind_issubn plain_issubn F.entry_issubclass_nested (args_issubn _ _ _) (fun _ _ _ _ _ hs => issub_nested_str hs) h
theorem issub_str_tuple {a : Addr} {o : Obj} {n : Nat} {Q : Value → Shared → Prop} (ho : s.heap.get? a = some o) (hc : o.cls = .type "tuple") (hd : o.data = .seq #[.type "str", .type "bytes"] n) (h : Q (.bool true) s) :
    wpAny (model prog w) A (call (.builtin "issubclass") [.type "str", .ref a]) Q E s := by
  refine call_issubclass (S := fun _ R s => R (.ok (.ret (.bool true))) s ∧ s.heap.get? a = some o) ?_ ⟨?_, ?_⟩
  · intro prog w A R s hs
    refine issubclass_outer ?_
    (revert hs; intro zqh; refine qE0A2 zqh fun hs ho => ?_; clear zqh)
    have ht : s.TypeIs (.ref a) "tuple" := ⟨o, ho, hc⟩
    have e1 : (Value.type "tuple" == Value.type "type") = false := by decide
    have e4 : isSubtype (.type "tuple") (.type "tuple") = pure true := by rfl
    repeat (any_goals (first | assumption | (rw [e1]) | (rw [e4]) | refine wpAny_seqItems ho hd ?_ | refine call_issubn ?_ | wp_step))
  · exact h
  · exact ho
end
end
-- R2
section
set_option maxRecDepth 100000
set_option maxHeartbeats 2000000
theorem enterB {prog : Program} {w : World} {A : Around} {s s₁ : Shared} {K : Frag} {Q : Value → Shared → Prop} {E : Value → Shared → Prop} {name qual : Str} {params : Arguments} {body : List Stmt} {scope : Scope} {dV kV doc pm cdv ct oc : Value} {an od : Option Addr} {osl : Array (Option Value)} {f : Addr} {args : List Value} {binds : List (Str × Value)}
    (X : K.In s.heap) (hlim : s.heap.NoLimit)
    (ho : K.lookup f = some ⟨oc, od, .func (fnOf name qual params body scope dV kV doc pm an cdv ct), osl⟩) (hcd : codeIn K cdv qual = true) (hroom : A.depth < recursionLimit)
    (hs₁ : Keeps s.heap s₁.heap)
    (hbind : ∀ (M : Model) (A : Around) (E : Value → Shared → Prop) (Q : List (Str × Value) → Shared → Prop), Q binds s₁ → wpAny M A (bindArgs (fnOf name qual params body scope dV kV doc pm an cdv ct) ⟨args, []⟩) Q E s)
    (hloc : ∀ y ∈ binds, scope.names.lookup y.1 = some .local)
    (h : ∀ h₁ L', Fr s.heap L' h₁ (fun y => binds.reverse.lookup y) → Keeps s₁.heap h₁ → s₁.heap.objs.size = L' →
      wpAny (model prog w) (A.deeper (envOf qual scope L' f cdv)) (execs body (envOf qual scope L' f cdv))
        (fun fl s' => Q (match fl with | .ret v => v | _ => .none) s')
        (fun e s' => wpAny (model prog w) (A.deeper (envOf qual scope L' f cdv)) (leaving (envOf qual scope L' f cdv) e) (fun _ s'' => E e s'') (fun e' s'' => E e' s'') s')
        { s₁ with heap := h₁, toks := s₁.toks + binds.length })
    (hco : scope.isCoroutine = false) (hgen : scope.isGenerator = false) (hk : scope.kind = .function)
    (hcell : ∀ x ∈ scope.names, x.2 ≠ .cell) (hsz : s.heap.objs.size ≤ s₁.heap.objs.size) : wpAny (model prog w) A (call (.ref f) args) Q E s := by
  refine wpAny_call ?_
  refine codeAny_call_function (fd := fnOf name qual params body scope dV kV doc pm an cdv ct) hroom (X _ _ ho) rfl hco hgen rfl (codeRec_of X hcd) (hbind _ _ _ _ ?_)
  refine wpAny_newFunctionEnv hcell hloc (fun h₁ hns hsb => ⟨(hlim.keeps hs₁).fresh _ hsb, codeAny_func ?_⟩) hk
  have hk₁ : Keeps s₁.heap h₁ := fun b o e => hsb.extBut b o (Nat.ne_of_lt (Heap.lt_size e)) (Heap.get?_push_of_some _ e)
  exact h h₁ s₁.heap.objs.size ⟨hns, fun b o e => hk₁ b o (hs₁ b o e), hsz⟩ hk₁ rfl
theorem Fr.grow {h₀ h h' : Heap} {L : Addr} {m : Str → Option Value} (F : Fr h₀ L h m) (k : Keeps h h') : Fr h₀ L h' m := F.keeps k
theorem News.grow {h₀ h h' : Heap} {L : Addr} {news : List (Addr × Obj)} (N : News h₀ L h news) (k : Keeps h h') : News h₀ L h' news := N.grown k
theorem News.add {h₀ h h' : Heap} {L : Addr} {m : Str → Option Value} {news : List (Addr × Obj)} {r : Addr} {o : Obj} (F : Fr h₀ L h m) (N : News h₀ L h news) (k : Keeps h h') (hr : h'.get? r = some o) (hn : h.objs.size ≤ r) : News h₀ L h' ((r, o) :: news) := by
  intro p hp
  (first | (revert p; refine alC ?_ (fun p hp => ?_)) | rcases List.mem_cons.mp hp with rfl | hp)
  · refine ⟨hr, fun e => ?_, ?_⟩
    · have := F.ns.lt; subst e; exact absurd this (Nat.not_lt_of_le hn)
    · cases q : h₀.get? r with
      | none => rfl
      | some o' => exact absurd (Heap.lt_size (F.keep _ _ q)) (Nat.not_lt_of_le hn)
  · exact N.grown k p hp
theorem news_lt {h₀ h : Heap} {L : Addr} {news : List (Addr × Obj)} {r : Addr} (N : News h₀ L h news) (hn : h.objs.size ≤ r) : ∀ p ∈ news, p.1 < r := fun p hp => Nat.lt_of_lt_of_le (Heap.lt_size (N p hp).1) hn
end
-- R3
section
set_option maxRecDepth 100000
set_option maxHeartbeats 1000000
noncomputable def locsOf (l : List (Str × Value)) (u : Str → Option Value) : Str → Option Value := fun y => match l.lookup y with | some v => some v | none => u y
noncomputable def Agree : List (Str × Value) → (Str → Option Value) → Prop
  | [], _ => True
  | p :: r, m => m p.1 = some p.2 ∧ Agree r m
theorem agr {m : Str → Option Value} : ∀ {l : List (Str × Value)}, l.map (fun p => m p.1) = l.map (fun p => some p.2) → Agree l m
  | [], _ => trivial
  | _ :: _, h => ⟨(List.cons.inj h).1, agr (List.cons.inj h).2⟩
theorem Agree.all {l : List (Str × Value)} {m : Str → Option Value} (h : Agree l m) : ∀ p ∈ l, m p.1 = some p.2 := by
  induction l with
  | nil => intro p hp; cases hp
  | cons q r ih =>
    intro p hp
    rcases List.mem_cons.mp hp with e | e
    · rw [e]; exact h.1
    · exact ih h.2 p e
theorem locsOf_agree : ∀ {l : List (Str × Value)} {m : Str → Option Value}, Agree l m → locsOf l m = m := by
  intro l m h
  funext y
  unfold locsOf
  cases q : l.lookup y with
  | none => rfl
  | some v =>
    have : (y, v) ∈ l := by
      clear h
      induction l with
      | nil => cases q
      | cons p r ih =>
        rw [List.lookup_cons] at q
        split at q
        · rename_i e
          have e' : y = p.1 := by simpa using e
          cases q
          rw [e']; exact List.mem_cons_self
        · exact List.mem_cons_of_mem _ (ih q)
    exact (h.all _ this).symm
noncomputable def TurnEnd (h₀ : Heap) (L I : Addr) (ito : Obj) (Jn : List (Str × Value) → List (Addr × Obj) → Prop) (s₁ s₂ : Shared) : Prop :=
  ∃ h' tk m' nl' news', s₂ = { s₁ with heap := h', toks := tk } ∧ Fr h₀ L h' m' ∧ Agree nl' m' ∧ News h₀ L h' ((I, ito) :: news') ∧ (∀ p ∈ news', p.1 ≠ I) ∧ Jn nl' news'
noncomputable def TurnPost (h₀ : Heap) (L I : Addr) (ito : Obj) (Jn : List (Str × Value) → List (Addr × Obj) → Prop) (s₁ : Shared) (Q : Flow → Shared → Prop) (f : Flow) (s₂ : Shared) : Prop :=
  match f with
  | .ret v => Q (.ret v) s₂
  | .brk => Q .next s₂
  | _ => TurnEnd h₀ L I ito Jn s₁ s₂
theorem turn_end {h₀ h' : Heap} {L I : Addr} {ito : Obj} {Jn : List (Str × Value) → List (Addr × Obj) → Prop} {s₁ : Shared} {m' : Str → Option Value} {nl' : List (Str × Value)} {news' : List (Addr × Obj)} {tk : Nat}
    (F : Fr h₀ L h' m') (N : News h₀ L h' ((I, ito) :: news')) (hj : Jn nl' news') (ag : Agree nl' m') (ne : ∀ p ∈ news', p.1 ≠ I) : TurnEnd h₀ L I ito Jn s₁ { s₁ with heap := h', toks := tk } :=
  ⟨h', tk, m', nl', news', rfl, F, ag, N, ne, hj⟩
theorem turn_endS {h₀ h' : Heap} {L I : Addr} {ito : Obj} {Jn : List (Str × Value) → List (Addr × Obj) → Prop} {s₁ : Shared} {m' : Str → Option Value} {nl' : List (Str × Value)} {big news' : List (Addr × Obj)} {tk : Nat}
    (F : Fr h₀ L h' m') (N : News h₀ L h' big) (hj : Jn nl' news') (ag : Agree nl' m') (hI : (I, ito) ∈ big) (hsub : ∀ p ∈ news', p ∈ big ∧ p.1 ≠ I) : TurnEnd h₀ L I ito Jn s₁ { s₁ with heap := h', toks := tk } :=
  ⟨h', tk, m', nl', news', rfl, F, ag, fun p hp => by (first | (revert p; refine alC ?_ (fun p hp => ?_)) | rcases List.mem_cons.mp hp with rfl | hp); exact N _ hI; exact N _ (hsub _ hp).1, fun p hp => (hsub p hp).2, hj⟩
section
variable {prog : Program} {w : World} {A : Around} {E : Value → Shared → Prop} {s : Shared} {env : Env} {h₀ : Heap} {x : Str} {body : List Stmt} {Q : Flow → Shared → Prop}
theorem for_core {I : Addr} {fp : List Addr} {n : Nat} {P : Nat → Value → Prop} {St : Nat → Heap → Prop} {m : Str → Option Value} {nl : List (Str × Value)} {news : List (Addr × Obj)}
    (J : Nat → List (Str × Value) → List (Addr × Obj) → Prop) {h₂ : Heap} {tk₂ : Nat}
    (W : Walks prog w A I fp [I] n P St) (hLf : env.locals ∉ fp) (hIn : h₀.get? I = none) (hIo : ∀ i h, St i h → ∃ o, h.get? I = some o) (hIf : I ∈ fp)
    (hfp : ∀ b ∈ fp, b = I ∨ (∃ o, h₀.get? b = some o) ∨ (∃ o, ∀ i nl news, J i nl news → (b, o) ∈ news))
    (hst : St 0 h₂) (F : Fr h₀ env.locals h₂ m) (ha : Agree nl m) (N : News h₀ env.locals h₂ news) (hne : ∀ p ∈ news, p.1 ≠ I) (h0 : J 0 nl news)
    (turn : ∀ i v nl news h tk u ito, i < n → P i v → J i nl news → (∀ p ∈ news, p.1 ≠ I) → Fr h₀ env.locals h (fun y => if y = x then some v else locsOf nl u y) → News h₀ env.locals h ((I, ito) :: news) →
      wpAny (model prog w) A (execs body env) (TurnPost h₀ env.locals I ito (J (i + 1)) { s with heap := h, toks := tk } Q) E { s with heap := h, toks := tk })
    (done : ∀ nl news h tk u, J n nl news → Fr h₀ env.locals h (locsOf nl u) → News h₀ env.locals h news → Q .next { s with heap := h, toks := tk }) :
    LoopAtV prog w A h₀ env x body Q E (.ref I) { s with heap := h₂, toks := tk₂ } := by
  refine ⟨I, fp, [I], n, P, St, m, news, (fun i m' news' => ∃ nl', Agree nl' m' ∧ J i nl' news'), rfl, W, hLf, fun b hb => (List.mem_singleton.mp hb) ▸ hIn, fun p hp h => hne p hp (List.mem_singleton.mp h), hst, F, N, ⟨nl, ha, h0⟩, ?_, ?_⟩
  · (intro i v m₁ news₁ s₁ own; intro zqi; refine qE2A1 zqi fun h tk zqr2 => ?_; clear zqi; subst zqr2; intro hi hP; intro zqi; refine qE1A2 zqi fun nl₁ ha₁ hJ => ?_; clear zqi; intro hoff hsub hget hall hst₁ F₁ N₁)
    (refine qE1A1 (hIo _ _ hst₁) fun ito hito => ?_)
    have hmem : (I, ito) ∈ own := hall I hIf hIn ito hito
    have hne₁ : ∀ p ∈ news₁, p.1 ≠ I := fun p hp e => hoff p hp (List.mem_singleton.mpr e)
    have F₂ : Fr h₀ env.locals h (fun y => if y = x then some v else locsOf nl₁ m₁ y) := by rw [locsOf_agree ha₁]; exact F₁
    have N₂ : News h₀ env.locals h ((I, ito) :: news₁) := fun p hp => by
      (first | (revert p; refine alC ?_ (fun p hp => ?_)) | rcases List.mem_cons.mp hp with rfl | hp)
      · exact N₁ _ (List.mem_append_left _ hmem)
      · exact N₁ _ (List.mem_append_right _ hp)
    refine wpAny_mono (turn i v nl₁ news₁ h tk m₁ ito hi hP hJ hne₁ F₂ N₂) (fun f s₂ p => ?_) fun _ _ e => e
    have fin : TurnEnd h₀ env.locals I ito (J (i + 1)) { s with heap := h, toks := tk } s₂ → LoopStepU h₀ env.locals [I] own (fun m' news' => ∃ nl', Agree nl' m' ∧ J (i + 1) nl' news') { s with heap := h, toks := tk } .next s₂ := by
      (intro zqi; refine qE5A6 zqi fun h' tk' m' nl' news' zqr5 F' ha' N' hne' hJ' => ?_; clear zqi; subst zqr5)
      refine ⟨rfl, h', tk', m', news', rfl, F', fun q hq => ?_, fun q hq e => hne' q hq (List.mem_singleton.mp e), nl', ha', hJ'⟩
      rcases List.mem_append.mp hq with hq | hq
      · have hg : h.get? q.1 = some q.2 := hget q hq
        have hn := (N₁ q (List.mem_append_left _ hq)).2
        rcases hfp q.1 (hsub q hq) with e | ⟨o, e⟩ | ⟨o, e⟩
        · have : q = (I, ito) := by
            obtain ⟨q1, q2⟩ := q
            have e' : q1 = I := e
            subst e'
            rw [hito] at hg
            cases hg; rfl
          subst this
          exact N' _ List.mem_cons_self
        · rw [e] at hn; cases hn.2
        · have m1 := e _ _ _ hJ
          have m2 := e _ _ _ hJ'
          have g1 := (N₁ _ (List.mem_append_right _ m1)).1
          have : q.2 = o := by
            have g1' : h.get? q.1 = some o := g1
            rw [hg] at g1'; exact Option.some.inj g1'
          obtain ⟨q1, q2⟩ := q
          have this' : q2 = o := this
          subst this'
          exact N' _ (List.mem_cons_of_mem _ m2)
      · exact N' _ (List.mem_cons_of_mem _ hq)
    cases f with
    | ret v => exact .ret p
    | brk => exact .brk p
    | next => exact .next (fin p)
    | cont => exact .cont (fin p)
  · (intro h' tk m' news' F' N' _; intro zqi; refine qE1A2 zqi fun nl' ha' hJ => ?_; clear zqi)
    exact done nl' news' h' tk m' hJ (by rw [locsOf_agree ha']; exact F') N'
end
end
-- R4
section
set_option maxRecDepth 100000
set_option maxHeartbeats 1000000
section
variable {prog : Program} {w : World} {A : Around} {E : Value → Shared → Prop} {s : Shared} {env : Env} {h₀ : Heap} {x : Str} {body : List Stmt} {Q : Flow → Shared → Prop}
  {l : Addr} {vs : List Value} {m : Str → Option Value} {news : List (Addr × Obj)} (J : Nat → List (Str × Value) → List (Addr × Obj) → Prop)
theorem off_L {h : Heap} {L : Addr} (F : Fr h₀ L h m) : L ≠ h.objs.size := Nat.ne_of_lt F.ns.lt
theorem for_tupN {o : Obj} (hh : A.handled = none) (hc : o.cls = .type "tuple") (k : Nat) (hd : o.data = .seq vs.toArray k) (hsrc : ∀ i nl news, J i nl news → (l, o) ∈ news)
    (F : Fr h₀ env.locals s.heap m) (N : News h₀ env.locals s.heap news) (start : ∃ nl, Agree nl m ∧ J 0 nl news)
    (turn : ∀ i v nl news h tk u I ito, vs[i]? = some v → J i nl news → (∀ p ∈ news, p.1 ≠ I) → Fr h₀ env.locals h (fun y => if y = x then some v else locsOf nl u y) → News h₀ env.locals h ((I, ito) :: news) →
      wpAny (model prog w) A (execs body env) (TurnPost h₀ env.locals I ito (J (i + 1)) { s with heap := h, toks := tk } Q) E { s with heap := h, toks := tk })
    (done : ∀ nl news h tk u, J vs.length nl news → Fr h₀ env.locals h (locsOf nl u) → News h₀ env.locals h news → Q .next { s with heap := h, toks := tk }) :
    wpAny (model prog w) A (pyIter (.ref l)) (fun it s₂ => LoopAtV prog w A h₀ env x body Q E it s₂) E s := by
  (refine qE1A2 (start) fun nl ha h0 => ?_; (try clear start))
  have hm := N _ (hsrc _ _ _ h0)
  have ht : s.heap.IsTuple l vs.toArray := ⟨o, hm.1, hc, k, hd⟩
  have hlt : l < s.heap.objs.size := Heap.lt_size hm.1
  refine wpAny_pyIter_tuple ht ?_
  have W := Walks.tuple (prog := prog) (w := w) hh s.heap.objs.size l (Nat.ne_of_lt hlt) vs.toArray
  rw [List.size_toArray] at W
  refine for_core J W ?_ (next_is_new F) (fun i h st => let ⟨o, e, _⟩ := st.1; ⟨o, e⟩) List.mem_cons_self ?_ ⟨⟨_, Heap.get?_push_size _ rfl, rfl, rfl⟩, ⟨o, Heap.get?_push_of_some _ hm.1, hc, k, hd⟩⟩ (F.push _) ha (fun p hp => ⟨Heap.get?_push_of_some _ (N p hp).1, (N p hp).2⟩)
    (fun p hp => Nat.ne_of_lt (Heap.lt_size (N p hp).1)) h0 (fun i v nl news h tk u ito _ hP hJ hn F N => turn i v nl news h tk u _ ito (by simpa using hP) hJ hn F N) done
  · intro hm'
    rcases List.mem_cons.mp hm' with e | e
    · exact off_L F e
    · exact hm.2.1 (List.mem_singleton.mp e).symm
  · intro b hb
    rcases List.mem_cons.mp hb with e | e
    · exact .inl e
    · exact .inr (.inr ⟨o, fun i nl news hJ => (List.mem_singleton.mp e) ▸ hsrc i nl news hJ⟩)
theorem for_listN {o : Obj} (hh : A.handled = none) (hc : o.cls = .type "list") (k : Nat) (hd : o.data = .seq vs.toArray k) (hsrc : ∀ i nl news, J i nl news → (l, o) ∈ news)
    (F : Fr h₀ env.locals s.heap m) (N : News h₀ env.locals s.heap news) (start : ∃ nl, Agree nl m ∧ J 0 nl news)
    (turn : ∀ i v nl news h tk u I ito, vs[i]? = some v → J i nl news → (∀ p ∈ news, p.1 ≠ I) → Fr h₀ env.locals h (fun y => if y = x then some v else locsOf nl u y) → News h₀ env.locals h ((I, ito) :: news) →
      wpAny (model prog w) A (execs body env) (TurnPost h₀ env.locals I ito (J (i + 1)) { s with heap := h, toks := tk } Q) E { s with heap := h, toks := tk })
    (done : ∀ nl news h tk u, J vs.length nl news → Fr h₀ env.locals h (locsOf nl u) → News h₀ env.locals h news → Q .next { s with heap := h, toks := tk }) :
    wpAny (model prog w) A (pyIter (.ref l)) (fun it s₂ => LoopAtV prog w A h₀ env x body Q E it s₂) E s := by
  (refine qE1A2 (start) fun nl ha h0 => ?_; (try clear start))
  have hm := N _ (hsrc _ _ _ h0)
  have ht : s.heap.IsList l vs.toArray := ⟨o, hm.1, hc, k, hd⟩
  have hlt : l < s.heap.objs.size := Heap.lt_size hm.1
  refine wpAny_pyIter_list ht ?_
  have W := Walks.list (prog := prog) (w := w) hh s.heap.objs.size l (Nat.ne_of_lt hlt) vs.toArray
  rw [List.size_toArray] at W
  refine for_core J W ?_ (next_is_new F) (fun i h st => let ⟨o, e, _⟩ := st.1; ⟨o, e⟩) List.mem_cons_self ?_ ⟨⟨_, Heap.get?_push_size _ rfl, rfl, rfl⟩, ⟨o, Heap.get?_push_of_some _ hm.1, hc, k, hd⟩⟩ (F.push _) ha (fun p hp => ⟨Heap.get?_push_of_some _ (N p hp).1, (N p hp).2⟩)
    (fun p hp => Nat.ne_of_lt (Heap.lt_size (N p hp).1)) h0 (fun i v nl news h tk u ito _ hP hJ hn F N => turn i v nl news h tk u _ ito (by simpa using hP) hJ hn F N) done
  · intro hm'
    rcases List.mem_cons.mp hm' with e | e
    · exact off_L F e
    · exact hm.2.1 (List.mem_singleton.mp e).symm
  · intro b hb
    rcases List.mem_cons.mp hb with e | e
    · exact .inl e
    · exact .inr (.inr ⟨o, fun i nl news hJ => (List.mem_singleton.mp e) ▸ hsrc i nl news hJ⟩)
theorem for_list0 (hh : A.handled = none) (hl : h₀.IsList l vs.toArray)
    (F : Fr h₀ env.locals s.heap m) (N : News h₀ env.locals s.heap news) (start : ∃ nl, Agree nl m ∧ J 0 nl news)
    (turn : ∀ i v nl news h tk u I ito, vs[i]? = some v → J i nl news → (∀ p ∈ news, p.1 ≠ I) → Fr h₀ env.locals h (fun y => if y = x then some v else locsOf nl u y) → News h₀ env.locals h ((I, ito) :: news) →
      wpAny (model prog w) A (execs body env) (TurnPost h₀ env.locals I ito (J (i + 1)) { s with heap := h, toks := tk } Q) E { s with heap := h, toks := tk })
    (done : ∀ nl news h tk u, J vs.length nl news → Fr h₀ env.locals h (locsOf nl u) → News h₀ env.locals h news → Q .next { s with heap := h, toks := tk }) :
    wpAny (model prog w) A (pyIter (.ref l)) (fun it s₂ => LoopAtV prog w A h₀ env x body Q E it s₂) E s := by
  (refine qE1A2 (start) fun nl ha h0 => ?_; (try clear start))
  obtain ⟨o, ho, hc, k, hd⟩ := hl
  have ho' := F.keep l o ho
  have ht : s.heap.IsList l vs.toArray := ⟨o, ho', hc, k, hd⟩
  have hlt : l < s.heap.objs.size := Heap.lt_size ho'
  refine wpAny_pyIter_list ht ?_
  have W := Walks.list (prog := prog) (w := w) hh s.heap.objs.size l (Nat.ne_of_lt hlt) vs.toArray
  rw [List.size_toArray] at W
  refine for_core J W ?_ (next_is_new F) (fun i h st => let ⟨o, e, _⟩ := st.1; ⟨o, e⟩) List.mem_cons_self ?_ ⟨⟨_, Heap.get?_push_size _ rfl, rfl, rfl⟩, ⟨o, Heap.get?_push_of_some _ ho', hc, k, hd⟩⟩ (F.push _) ha (fun p hp => ⟨Heap.get?_push_of_some _ (N p hp).1, (N p hp).2⟩)
    (fun p hp => Nat.ne_of_lt (Heap.lt_size (N p hp).1)) h0 (fun i v nl news h tk u ito _ hP hJ hn F N => turn i v nl news h tk u _ ito (by simpa using hP) hJ hn F N) done
  · intro hm'
    rcases List.mem_cons.mp hm' with e | e
    · exact off_L F e
    · have : env.locals = l := List.mem_singleton.mp e
      exact absurd (Heap.lt_size ho) (by rw [← this]; exact Nat.not_lt_of_le F.above)
  · intro b hb
    rcases List.mem_cons.mp hb with e | e
    · exact .inl e
    · exact .inr (.inl ⟨o, (List.mem_singleton.mp e) ▸ ho⟩)
theorem for_range {a b : Int} {t u v : Tok} {n : Nat} (hh : A.handled = none) (hr : IsRange s.heap l a b 1 t u v) (hsm : Builtin.Range.small a b 1 = true) (hn : Builtin.Range.rangeSize a b 1 = (n : Int))
    (F : Fr h₀ env.locals s.heap m) (N : News h₀ env.locals s.heap news) (start : ∃ nl, Agree nl m ∧ J 0 nl news)
    (turn : ∀ i t nl news h tk u I ito, i < n → J i nl news → (∀ p ∈ news, p.1 ≠ I) → Fr h₀ env.locals h (fun y => if y = x then some (.int (a + (i : Int)) t) else locsOf nl u y) → News h₀ env.locals h ((I, ito) :: news) →
      wpAny (model prog w) A (execs body env) (TurnPost h₀ env.locals I ito (J (i + 1)) { s with heap := h, toks := tk } Q) E { s with heap := h, toks := tk })
    (done : ∀ nl news h tk u, J n nl news → Fr h₀ env.locals h (locsOf nl u) → News h₀ env.locals h news → Q .next { s with heap := h, toks := tk }) :
    wpAny (model prog w) A (pyIter (.ref l)) (fun it s₂ => LoopAtV prog w A h₀ env x body Q E it s₂) E s := by
  (refine qE1A2 (start) fun nl ha h0 => ?_; (try clear start))
  refine wpAny_pyIter_range hr hsm ?_
  have W := Walks.range (prog := prog) (w := w) hh s.heap.objs.size a 1 n
  refine for_core J W ?_ (next_is_new F) (fun i h st => ⟨_, st⟩) List.mem_cons_self ?_ (by show IsRangeIter _ _ _ _ _; rw [hn]; simpa using Heap.get?_push_size _ rfl) (F.push _) ha (fun p hp => ⟨Heap.get?_push_of_some _ (N p hp).1, (N p hp).2⟩)
    (fun p hp => Nat.ne_of_lt (Heap.lt_size (N p hp).1)) h0 (fun i v nl news h tk u ito hi hP hJ hn F N => ?_) done
  · intro hm'
    exact off_L F (List.mem_singleton.mp hm')
  · intro b hb
    exact .inl (List.mem_singleton.mp hb)
  · (refine qE1A1 (hP) fun t zqr1 => ?_; (try clear hP); subst zqr1)
    rw [Int.mul_one] at F
    exact turn i t nl news h tk u _ ito hi hJ hn F N
end
end
-- U1
section
set_option maxRecDepth 100000
set_option maxHeartbeats 1000000
open PySem.Builtin.Str (subAt strSub occurrences lastOccurrence)
noncomputable def S (l : List Nat) : Str := ⟨l.toArray⟩
theorem S_app (a b : List Nat) : S a ++ S b = S (a ++ b) := by
  show Str.mk (a.toArray ++ b.toArray) = Str.mk (a ++ b).toArray
  simp
theorem S_len (a : List Nat) : (S a).length = a.length := by
  show a.toArray.size = _
  simp
theorem S_cps (a : List Nat) : (S a).cps.toList = a := by simp [S]
theorem S_inj {a b : List Nat} (h : S a = S b) : a = b := by
  have := congrArg (fun x => x.cps.toList) h
  simpa [S] using this
theorem S_iff {a b : List Nat} : S a = S b ↔ a = b := ⟨S_inj, fun h => by rw [h]⟩
theorem S_of (x : Str) : x = S x.cps.toList := by cases x; simp [S]
theorem slash : Str.ofString "/" = S [47] := by decide +kernel
theorem nought : Str.ofString "0" = S [48] := by decide +kernel
theorem empt : Str.ofString "" = S [] := by decide +kernel
theorem sw_slash (l : List Nat) : Txt.startswith (S l) (S [47]) = (l.head? == some 47) := by
  unfold Txt.startswith
  rw [StrLaws.subAt_eq, S_cps, S_cps, S_len, S_len]
  cases l with
  | nil => rfl
  | cons c r => simp
theorem ew_slash (l : List Nat) : Txt.endswith (S l) (S [47]) = (l.getLast? == some 47) := by
  unfold Txt.endswith
  rw [StrLaws.subAt_eq, S_cps, S_cps, S_len, S_len]
  rcases List.eq_nil_or_concat l with rfl | ⟨r, c, rfl⟩
  · rfl
  · simp
end
-- R5
section
set_option maxRecDepth 100000
set_option maxHeartbeats 1000000
theorem bind_star {M : Model} {A : Around} {E : Value → Shared → Prop} {Q : List (Str × Value) → Shared → Prop} {s : Shared} {fd : FuncData} {v : Value} {vs : List Value} {a p : Arg}
    (h1 : fd.params = { posonlyargs := [], args := [a], vararg := some p, kwonlyargs := [], kw_defaults := [], kwarg := none, defaults := [] }) (h2 : fd.defaults = .none) (hsz : vs.length ≤ sizeLine)
    (h : Q [(a.arg, v), (p.arg, .ref s.heap.objs.size)] { s with heap := s.heap.push { cls := .type "tuple", data := .seq vs.toArray } }) :
    wpAny M A (bindArgs fd ⟨v :: vs, []⟩) Q E s := by
  (first | (refine qE5A4 (fd) fun _ _ pa _ _ _ _ _ _ => ?_; (try clear fd); trace "OB R5 0 qE5A4") | (refine qE4A5 (fd) fun _ _ pa _ _ _ _ _ _ => ?_; (try clear fd); trace "OB R5 0 qE4A5") | (refine qE3A6 (fd) fun _ _ pa _ _ _ _ _ _ => ?_; (try clear fd); trace "OB R5 0 qE3A6") | (refine qE2A7 (fd) fun _ _ pa _ _ _ _ _ _ => ?_; (try clear fd); trace "OB R5 0 qE2A7") | (refine qE1A8 (fd) fun _ _ pa _ _ _ _ _ _ => ?_; (try clear fd); trace "OB R5 0 qE1A8") | (trace "OB R5 0 none"; obtain ⟨_, _, pa, _, _, _, _, _, _⟩ := (fd)))
  dsimp only at h1 h2
  subst h1 h2
  unfold bindArgs
  dsimp only
  repeat (first | wp_step)
  simpa using h
end
-- C1
local macro_rules | `(tactic| walk_at "execs cons") => `(tactic| first | (k_here; k_gentoks) | ((with_reducible refine wpAny_execs_cons ?_); (try dsimp only); (try k_fold)))
section
set_option maxRecDepth 100000
set_option maxHeartbeats 1000000
example : ∀ {w : World} {h : Heap}, (Mine.hd.heap_39 w.params).In h → Challenge.rw_pd0146_01.name = Challenge.rw_pd0146_01.name := by
  k_fill
  intros; rfl
section
variable {w : World} {d u : Nat} {f : Option (List Env)} {g : Option (List Code)} {s : Shared} {E Q : Value → Shared → Prop} {mean : ExcName → Option Value} {mg mb : Str → Option Value}
theorem fspath_ {x : Str} {tx : Tok} (X : (Mine.hd.heap_39 w.params).In s.heap) (T : Top Mine.hd.view_39 (looseW Mine.hd.view_39 []) mean mg mb s.heap) (hA2 : d < 390)
  (h : ∀ h' tk, Keeps s.heap h' → Q (.str x tx) {s with heap := h', toks := tk}) :
  wpAny (model Challenge.rw_pd0146_01.row.prog w) (Around.mk none d f g u) (call (.ref 129) [.str x tx]) Q E s := by
  refine' enterC (binds := [("path", .str x tx)]) X T.nolimit ?k6 ?k7 (Nat.lt_trans hA2 (by decide)) (BindsTo.of_eq ?k8) ?k9 ?_ ?c1 ?c2 ?c3 ?c4
  (((case k6 => k_is); (case k7 => k_is); (case k8 => rfl); (case k9 => exact locs (by rfl)); (case c1 => rfl); (case c2 => rfl); (case c3 => rfl); (case c4 => decide)))
  intro h₁ L' F N
  refine wpAny_noRaise ?_
  (repeat' (first | (k_unfold; (try dsimp only)) | (k_end; kc_close) | (k_here; (with_reducible show wpAny _ _ (call (Value.builtin _) [Value.type _, Value.ref _]) _ _ _); refine issub_str_tuple (News.get (by k_asm) (by k_mem)) rfl rfl ?_) | walk1 | (dsimp only; walk1) | (leave1; (try dsimp only))))
  exact h _ _ (Fr.keep (by assumption))
theorem getsep_ {x : Str} {tx : Tok} (X : (Mine.hd.heap_39 w.params).In s.heap) (T : Top Mine.hd.view_39 (looseW Mine.hd.view_39 []) mean mg mb s.heap) (hA2 : d < 390)
  (h : ∀ h' tk t, Keeps s.heap h' → Q (.str "/" t) {s with heap := h', toks := tk}) :
  wpAny (model Challenge.rw_pd0146_01.row.prog w) (Around.mk none d f g u) (call (.ref 143) [.str x tx]) Q E s := by
  refine' enterC (binds := [("path", .str x tx)]) X T.nolimit ?k6 ?k7 (Nat.lt_trans hA2 (by decide)) (BindsTo.of_eq ?k8) ?k9 ?_ ?c1 ?c2 ?c3 ?c4
  (((case k6 => k_is); (case k7 => k_is); (case k8 => rfl); (case k9 => exact locs (by rfl)); (case c1 => rfl); (case c2 => rfl); (case c3 => rfl); (case c4 => decide)))
  intro h₁ L' F N
  refine wpAny_noRaise ?_
  k_steps
  exact h _ _ _ (Fr.keep (by assumption))
noncomputable def signOf (x y : Str) : Int := b2i (decide (y.cps.toList < x.cps.toList)) - b2i (decide (x.cps.toList < y.cps.toList))
theorem twc_ {x y : Str} {tx ty : Tok} (X : (Mine.hd.heap_39 w.params).In s.heap) (T : Top Mine.hd.view_39 (looseW Mine.hd.view_39 []) mean mg mb s.heap) (hA2 : d < 390)
  (h : ∀ h' tk t, Keeps s.heap h' → Q (.int (signOf x y) t) {s with heap := h', toks := tk}) :
  wpAny (model Challenge.rw_pd0146_01.row.prog w) (Around.mk none d f g u) (call (.ref 42) [.str x tx, .str y ty]) Q E s := by
  refine' enterC (binds := [("x", .str x tx), ("y", .str y ty)]) X T.nolimit ?k6 ?k7 (Nat.lt_trans hA2 (by decide)) (BindsTo.of_eq ?k8) ?k9 ?_ ?c1 ?c2 ?c3 ?c4
  (((case k6 => k_is); (case k7 => k_is); (case k8 => rfl); (case k9 => exact locs (by rfl)); (case c1 => rfl); (case c2 => rfl); (case c3 => rfl); (case c4 => decide)))
  intro h₁ L' F N
  refine wpAny_noRaise ?_
  k_steps
  exact h _ _ _ (Fr.keep (by assumption))
theorem strcoll_ {x y : Str} {tx ty : Tok} (X : (Mine.hd.heap_39 w.params).In s.heap) (T : Top Mine.hd.view_39 (looseW Mine.hd.view_39 []) mean mg mb s.heap) (hA2 : d < 390)
  (h : ∀ h' tk t, Keeps s.heap h' → Q (.int (signOf x y) t) {s with heap := h', toks := tk}) :
  wpAny (model Challenge.rw_pd0146_01.row.prog w) (Around.mk none d f g u) (call (.ref 49) [.str x tx, .str y ty]) Q E s := by
  refine' enterC (binds := [("a", .str x tx), ("b", .str y ty)]) X T.nolimit ?k6 ?k7 (Nat.lt_trans hA2 (by decide)) (BindsTo.of_eq ?k8) ?k9 ?_ ?c1 ?c2 ?c3 ?c4
  (((case k6 => k_is); (case k7 => k_is); (case k8 => rfl); (case k9 => exact locs (by rfl)); (case c1 => rfl); (case c2 => rfl); (case c3 => rfl); (case c4 => decide)))
  intro h₁ L' F N
  refine wpAny_noRaise ?_
  k_steps
  exact h _ _ _ (Fr.keep (by assumption))
end
end
-- C2
section
set_option maxRecDepth 100000
set_option maxHeartbeats 1000000
section
variable {w : World} {d u : Nat} {f : Option (List Env)} {g : Option (List Code)} {s : Shared} {E Q : Value → Shared → Prop} {mean : ExcName → Option Value} {mg mb : Str → Option Value}
noncomputable def IsName (b : List Nat) : Prop := b ≠ [] ∧ (∀ c ∈ b, c ≠ 47) ∧ b.length ≤ 6
noncomputable def pathL (ns : List (List Nat)) : List Nat := if ns = [] then [47] else ns.flatMap fun n => 47 :: n
noncomputable def JJ (p : Value) (T : Addr) (o : Obj) (ns : List (List Nat)) (i : Nat) (nl : List (Str × Value)) (news : List (Addr × Obj)) : Prop :=
  ∀ P : List (Str × Value) → List (Addr × Obj) → Prop, (∀ t t2 t3, P ([("path", .str (S (pathL (ns.take i))) t), ("sep", .str "/" t2), ("a", .str "/" t3), ("p", p)] : List (Str × Value)) [(T, o)]) → P nl news
theorem JJ.mk {p : Value} {T : Addr} {o : Obj} {ns : List (List Nat)} {i : Nat} (t t2 t3 : Tok) : JJ p T o ns i [("path", .str (S (pathL (ns.take i))) t), ("sep", .str "/" t2), ("a", .str "/" t3), ("p", p)] [(T, o)] := fun _ k => k t t2 t3
theorem name_sw {b : List Nat} (h : IsName b) : Txt.startswith (S b) (Str.ofString "/") = false := by
  rw [slash, sw_slash]
  (refine qE0A3 (h) fun h1 h2 _ => ?_; (try clear h))
  cases b with
  | nil => exact absurd rfl h1
  | cons c r =>
    have := h2 c List.mem_cons_self
    simp [this]
theorem flat_len {ns : List (List Nat)} (h : ∀ b ∈ ns, IsName b) : (ns.flatMap fun n => 47 :: n).length ≤ 7 * ns.length := by
  induction ns with
  | nil => simp
  | cons a r ih =>
    have h1 := (h a List.mem_cons_self).2.2
    have h2 := ih fun b hb => h b (List.mem_cons_of_mem _ hb)
    simp only [List.flatMap_cons, List.length_append, List.length_cons]
    lia
theorem path_len {ns : List (List Nat)} (h : ∀ b ∈ ns, IsName b) : (S (pathL ns)).length ≤ 7 * ns.length + 1 := by
  rw [S_len]
  unfold pathL
  split
  · simp
  · have := flat_len h; lia
theorem path_pos (ns : List (List Nat)) : 1 ≤ (S (pathL ns)).length := by
  rw [S_len]
  unfold pathL
  split
  · simp
  · rename_i h
    cases ns with
    | nil => exact absurd rfl h
    | cons a r => simp [List.flatMap_cons]
theorem path_ew0 : Txt.endswith (S (pathL [])) (Str.ofString "/") = true := by rw [slash, ew_slash]; decide
theorem path_ew {ns : List (List Nat)} (h : ∀ b ∈ ns, IsName b) (hn : ns ≠ []) : Txt.endswith (S (pathL ns)) (Str.ofString "/") = false := by
  rw [slash, ew_slash]
  unfold pathL
  rw [if_neg hn]
  rcases List.eq_nil_or_concat ns with rfl | ⟨r, c, rfl⟩
  · exact absurd rfl hn
  · (refine qE0A3 (h c (by simp)) fun h1 h2 _ => ?_)
    rcases List.eq_nil_or_concat c with rfl | ⟨q, d, rfl⟩
    · exact absurd rfl h1
    · have := h2 d (by simp)
      simp only [List.concat_eq_append, List.flatMap_append, List.flatMap_cons, List.flatMap_nil, List.append_nil]
      rw [← List.cons_append, ← List.append_assoc, List.getLast?_concat]
      simp [this]
theorem path_snoc0 {n : List Nat} : S (pathL []) ++ S n = S (pathL [n]) := by rw [S_app]; simp [pathL]
theorem path_snoc {ns : List (List Nat)} {n : List Nat} (hn : ns ≠ []) : S (pathL ns) ++ (Str.ofString "/" ++ S n) = S (pathL (ns ++ [n])) := by
  rw [slash, S_app, S_app]
  simp [pathL, hn]
theorem join_ {vs : List Value} {names : List (List Nat)} {t : Tok} (X : (Mine.hd.heap_39 w.params).In s.heap) (T : Top Mine.hd.view_39 (looseW Mine.hd.view_39 []) mean mg mb s.heap) (hA2 : d < 380)
  (hQ : ∀ h' tk t, Keeps s.heap h' → Q (.str (S (pathL names)) t) {s with heap := h', toks := tk}) (hvl : names.length ≤ 100) (hv : StrsAre vs (names.map S)) (hn : ∀ b ∈ names, IsName b) :
  wpAny (model Challenge.rw_pd0146_01.row.prog w) (Around.mk none d f g u) (call (.ref 150) (.str "/" t :: vs)) Q E s := by
  refine' enterB (binds := [("a", .str "/" t), ("p", .ref s.heap.objs.size)]) (s₁ := { s with heap := s.heap.push { cls := .type "tuple", data := .seq vs.toArray } }) X T.nolimit ?k6 ?k7 (Nat.lt_trans hA2 (by decide)) (fun b o e => Heap.get?_push_of_some _ e) ?k8 ?k9 ?_ ?c1 ?c2 ?c3 ?c4 ?c5
  case k6 => k_is
  case k7 => k_is
  case k9 => exact locs (by rfl)
  case c1 => rfl
  case c2 => rfl
  case c3 => rfl
  case c4 => decide
  case c5 => (show s.heap.objs.size ≤ (s.heap.push _).objs.size); rw [Heap.size_push]; lia
  case k8 =>
    intro M A E Q hQ
    exact bind_star rfl rfl (by rw [hv.len_eq, List.length_map, sizeLine_eq]; lia) hQ
  intro h₁ L' F k1 hL
  refine wpAny_noRaise ?_
  have N : News s.heap L' h₁ [(s.heap.objs.size, { cls := .type "tuple", data := .seq vs.toArray })] := by
    intro p hp
    rw [List.mem_singleton.mp hp]
    refine ⟨k1 _ _ (Heap.get?_push_size _ rfl), ?_, ?_⟩
    · have : (s.heap.push { cls := .type "tuple", data := .seq vs.toArray }).objs.size = L' := hL
      rw [Heap.size_push] at this
      show s.heap.objs.size ≠ L'
      lia
    · show s.heap.get? s.heap.objs.size = none
      cases q : s.heap.get? s.heap.objs.size with
      | none => rfl
      | some o => exact absurd (Heap.lt_size q) (Nat.lt_irrefl _)
  (repeat' (first | (k_unfold; (try dsimp only)) | (k_end; kc_close) | (k_here; (with_reducible show wpAny _ _ (call (Value.ref 129) [Value.str _ _]) _ _ _); (with_reducible rename Fr _ _ _ _ => zrkF); (with_reducible rename News _ _ _ _ => zrkN); refine fspath_ (Frag.In.keeps (by k_asm) zrkF.keep) (Top.keeps (by k_asm) zrkF.keep) (by (first | omega | (dsimp only; omega) | (simp only [depth_deeper, depth_in1, depth_caller, Around.deeper]; omega) | (simp [Around.deeper]; omega))) ?_; intro zrhq zrtkq zrhkq; (replace zrkF := Fr.grow zrkF zrhkq); (replace zrkN := News.grow zrkN zrhkq); clear zrhkq) | (k_here; (with_reducible show wpAny _ _ (call (Value.ref 143) [Value.str _ _]) _ _ _); (with_reducible rename Fr _ _ _ _ => zrkF); (with_reducible rename News _ _ _ _ => zrkN); refine getsep_ (Frag.In.keeps (by k_asm) zrkF.keep) (Top.keeps (by k_asm) zrkF.keep) (by (first | omega | (dsimp only; omega) | (simp only [depth_deeper, depth_in1, depth_caller, Around.deeper]; omega) | (simp [Around.deeper]; omega))) ?_; intro zrhq zrtkq zrtq zrhkq; (replace zrkF := Fr.grow zrkF zrhkq); (replace zrkN := News.grow zrkN zrhkq); clear zrhkq) | walk1 | (dsimp only; walk1) | (leave1; (try dsimp only))))
  (with_reducible rename Fr _ _ _ _ => kF)
  (with_reducible rename News _ _ _ _ => kN)
  refine for_tupN (vs := vs) (o := { cls := .type "tuple", data := .seq vs.toArray }) (JJ (.ref s.heap.objs.size) s.heap.objs.size { cls := .type "tuple", data := .seq vs.toArray } names) (by (exact rfl)) rfl 0 rfl ?_ kF kN ?st ?_ ?_
  case st =>
    refine' ⟨_, ?_, (JJ.mk _ _ _)⟩
    rw [List.take_zero, show S (pathL []) = Str.ofString "/" from by decide +kernel]
    first | exact agr (by with_unfolding_all rfl) | (refine ⟨?_, ?_, ?_, ?_, trivial⟩ <;> with_unfolding_all rfl)
  · intro i nl news J; apply J; intros; k_mem
  · intro i v nl news h tk u I ito hv' J
    apply J
    clear J
    intro t1 t2 t3 hI F N
    (refine qE2A2 (hv.item i v hv') fun y ty zqr2 hy => ?_; subst zqr2)
    rw [List.getElem?_map] at hy
    cases hq : names[i]? with
    | none => rw [hq] at hy; cases hy
    | some n =>
      rw [hq] at hy
      cases hy
      have hi : i < names.length := (List.getElem?_eq_some_iff.mp hq).1
      have hN : IsName n := hn n (List.mem_of_getElem? hq)
      have hT : ∀ b ∈ names.take i, IsName b := fun b hb => hn b (List.mem_of_mem_take hb)
      have f1 := name_sw hN
      have f2 := path_len hT
      have f3 := path_pos (names.take i)
      have f4 : (names.take i).length ≤ 100 := by rw [List.length_take]; (with_reducible exact ar24 ‹_›)
      have f5 : (S n).length ≤ 6 := by rw [S_len]; exact hN.2.2
      have hs : names.take (i + 1) = names.take i ++ [n] := by rw [List.take_add_one, hq]; rfl
      by_cases h0 : names.take i = []
      · have f6 := path_ew0
        rw [h0] at F f2 f3
        (repeat' (first | (k_unfold; (try dsimp only)) | (k_end; kc_close) | (k_here; (with_reducible show wpAny _ _ (call (Value.ref 129) [Value.str _ _]) _ _ _); (with_reducible rename Fr _ _ _ _ => zrkF); (with_reducible rename News _ _ _ _ => zrkN); refine fspath_ (Frag.In.keeps (by k_asm) zrkF.keep) (Top.keeps (by k_asm) zrkF.keep) (by (first | omega | (dsimp only; omega) | (simp only [depth_deeper, depth_in1, depth_caller, Around.deeper]; omega) | (simp [Around.deeper]; omega))) ?_; intro zrhq zrtkq zrhkq; (replace zrkF := Fr.grow zrkF zrhkq); (replace zrkN := News.grow zrkN zrhkq); clear zrhkq) | walk1 | (dsimp only; walk1) | (leave1; (try dsimp only))))
        all_goals first | (exfalso; omega) | skip
        exact turn_end (by assumption) (by assumption) (JJ.mk _ _ _) (by
          rw [hs, h0, List.nil_append, ← path_snoc0]
          first | exact agr (by with_unfolding_all rfl) | (refine ⟨?_, ?_, ?_, ?_, trivial⟩ <;> with_unfolding_all rfl)) hI
      · have f6 := path_ew hT h0
        (repeat' (first | (k_unfold; (try dsimp only)) | (k_end; kc_close) | (k_here; (with_reducible show wpAny _ _ (call (Value.ref 129) [Value.str _ _]) _ _ _); (with_reducible rename Fr _ _ _ _ => zrkF); (with_reducible rename News _ _ _ _ => zrkN); refine fspath_ (Frag.In.keeps (by k_asm) zrkF.keep) (Top.keeps (by k_asm) zrkF.keep) (by (first | omega | (dsimp only; omega) | (simp only [depth_deeper, depth_in1, depth_caller, Around.deeper]; omega) | (simp [Around.deeper]; omega))) ?_; intro zrhq zrtkq zrhkq; (replace zrkF := Fr.grow zrkF zrhkq); (replace zrkN := News.grow zrkN zrhkq); clear zrhkq) | walk1 | (dsimp only; walk1) | (leave1; (try dsimp only))))
        all_goals first | (exfalso; omega) | skip
        exact turn_end (by assumption) (by assumption) (JJ.mk _ _ _) (by
          rw [hs, ← path_snoc h0]
          first | exact agr (by with_unfolding_all rfl) | (refine ⟨?_, ?_, ?_, ?_, trivial⟩ <;> with_unfolding_all rfl)) hI
  · intro nl news h tk u J
    apply J
    clear J
    intro t1 t2 t3 F N
    k_steps
    have e : names.take vs.length = names := by rw [List.take_of_length_le]; rw [hv.len_eq, List.length_map]; exact Nat.le_refl _
    rw [e]
    exact hQ _ _ _ (Fr.keep (by assumption))
end
end
-- U2
section
set_option maxRecDepth 100000
set_option maxHeartbeats 1000000
noncomputable def digW : Nat → Nat → List Nat
  | 0, _ => []
  | w + 1, m => digW w (m / 10) ++ [48 + m % 10]
theorem digW_len : ∀ (w m : Nat), (digW w m).length = w
  | 0, _ => rfl
  | w + 1, m => by simp [digW, digW_len w]
noncomputable def decL (m : Nat) : List Nat := (Nat.toDigits 10 m).map Char.toNat
theorem ofStr_dec (m : Nat) : Str.ofString (toString (m : Int)) = S (decL m) := by
  show Str.ofString (Nat.repr m) = _
  rw [Str.ofString_eq_toList, Nat.repr_eq_ofList_toDigits]
  simp [S, decL]
theorem digitChar_nat : ∀ k, k < 10 → (Nat.digitChar k).toNat = 48 + k := by decide
theorem decL_lt {m : Nat} (h : m < 10) : decL m = [48 + m] := by
  unfold decL
  rw [Nat.toDigits_of_lt_base h]
  simp [digitChar_nat m h]
theorem decL_ge {m : Nat} (h : 10 ≤ m) : decL m = decL (m / 10) ++ [48 + m % 10] := by
  unfold decL
  rw [Nat.toDigits_of_base_le (by decide) h]
  simp [digitChar_nat (m % 10) (Nat.mod_lt _ (by decide))]
theorem decL_pos (m : Nat) : 1 ≤ (decL m).length := by
  by_cases h : m < 10
  · rw [decL_lt h]; simp
  · rw [decL_ge (by lia)]; simp
theorem decL_len : ∀ (w m : Nat), m < 10 ^ (w + 1) → (decL m).length ≤ w + 1
  | 0, m, h => by rw [decL_lt (by simpa using h)]; simp
  | w + 1, m, h => by
    by_cases h' : m < 10
    · rw [decL_lt h']; simp
    · rw [decL_ge (by lia)]
      have := decL_len w (m / 10) (by rw [Nat.pow_succ] at h; lia)
      simp; (with_reducible assumption)
theorem rep_zero : ∀ (w m : Nat), m = 0 → digW w m = List.replicate w 48
  | 0, _, _ => rfl
  | w + 1, m, h => by
    subst h
    unfold digW
    rw [rep_zero w _ rfl, List.replicate_succ']
theorem pad_dec : ∀ (w m : Nat), m < 10 ^ (w + 1) → List.replicate (w + 1 - (decL m).length) 48 ++ decL m = digW (w + 1) m
  | 0, m, h => by
    have h' : m < 10 := by simpa using h
    rw [decL_lt h']
    simp [digW, Nat.mod_eq_of_lt h']
  | w + 1, m, h => by
    by_cases h' : m < 10
    · rw [decL_lt h']
      unfold digW
      rw [rep_zero (w + 1) _ (by lia), Nat.mod_eq_of_lt h']
      simp
    · rw [decL_ge (by lia)]
      unfold digW
      rw [← pad_dec w (m / 10) (by rw [Nat.pow_succ] at h; lia)]
      simp
theorem foldl_rep (k : Nat) : (List.replicate k (#[48] : Array Nat)).foldl (· ++ ·) #[] = (List.replicate k 48).toArray := by
  have : ∀ (k : Nat) (acc : Array Nat), (List.replicate k (#[48] : Array Nat)).foldl (· ++ ·) acc = acc ++ (List.replicate k 48).toArray := by
    intro k
    induction k with
    | zero => intro acc; simp
    | succ k ih => intro acc; rw [List.replicate_succ, List.foldl_cons, ih]; apply Array.ext'; simp [List.replicate_succ]
  rw [this]; simp
theorem mul_nought (k : Int) : Txt.mul (Str.ofString "0") k = S (List.replicate k.toNat 48) := by
  rw [nought]
  unfold Txt.mul
  by_cases h : k < 1
  · rw [if_pos h]
    have : k.toNat = 0 := by lia
    rw [this]; rfl
  · rw [if_neg h]
    by_cases h1 : k = 1
    · subst h1; decide
    · have e : (k == 1 || (S [48]).length == 0) = false := by
        rw [S_len]; simp [h1]
      rw [e]
      simp only [Bool.false_eq_true, if_false]
      show Str.mk ((List.replicate k.toNat (#[48] : Array Nat)).foldl (· ++ ·) #[]) = _
      rw [foldl_rep]
      rfl
theorem padW {w : Nat} {m : Int} (h0 : 0 ≤ m) (h1 : m < 10 ^ (w + 1)) : Txt.mul (Str.ofString "0") ((w + 1 : Nat) - ((Str.ofString (toString m)).length : Int)) ++ Str.ofString (toString m) = S (digW (w + 1) m.toNat) := by
  (refine qE1A1 (Int.eq_ofNat_of_zero_le h0) fun k zqr1 => ?_; subst zqr1)
  rw [ofStr_dec, S_len, mul_nought, S_app]
  have hk : k < 10 ^ (w + 1) := by exact_mod_cast h1
  have e : (((w + 1 : Nat) : Int) - ((decL k).length : Int)).toNat = w + 1 - (decL k).length := by (exact Int.toNat_sub _ _)
  rw [e, pad_dec w k hk]
  simp
end
-- R6
section
set_option maxRecDepth 100000
set_option maxHeartbeats 1000000
noncomputable def Stop (p : Prop) : Prop := p
theorem For_stop {prog : Program} {w : World} {A : Around} {E : Value → Shared → Prop} {s : Shared} {h₀ : Heap} {env : Env} {x : Str} {body : List Stmt} {Q : Flow → Shared → Prop} {m : Str → Option Value} {px pos : Pos} {iter : Expr}
    (_F : Fr h₀ env.locals s.heap m) (hx : env.kindOf x = some .local)
    (hp : (env.scope.kind == .class || (env.scope.kind == .module && env.locals != env.globals)) = false)
    (h : wpAny (model prog w) A (eval iter env) (fun xv s₁ => Stop (wpAny (model prog w) A (pyIter xv) (fun it s₂ => LoopAtV prog w A h₀ env x body Q E it s₂) E s₁)) E s)
    (hs : ∀ x, foldedSetIterable iter env x = pure x)
    (hE : PassesOwn (model prog w) A env E) :
    wpAny (model prog w) A (exec (.For (.Name x px) iter body [] pos) env) Q E s := For_invV h₀ hx hp h hs hE
theorem ints_item {vs : List Value} {ns : List Int} (h : IntsAre vs ns) {i : Nat} {v : Value} (e : vs[i]? = some v) : ∃ n t, v = .int n t ∧ ns[i]? = some n := by
  have hl : i < vs.length := (List.getElem?_eq_some_iff.mp e).1
  have hn : i < ns.length := by rw [← h.length]; exact hl
  (refine qE1A1 (h.get i ns[i] (by simp [hn])) fun t q => ?_)
  rw [q] at e
  exact ⟨ns[i], t, (Option.some.inj e).symm, by simp [hn]⟩
end
-- U3
section
set_option maxRecDepth 100000
set_option maxHeartbeats 1000000
open PySem.Builtin.Str (strSliceIndices)
noncomputable def clipI (v : Option Int) (d n : Int) : Int := match v with | none => d | some i => max 0 (min (if i < 0 then i + n else i) n)
theorem idx_clip (lo hi : Option Int) (len a b : Nat) (ha : clipI lo 0 len = a) (hb : clipI hi len len = b) : strSliceIndices lo hi 1 len = strSliceIndices (some (a : Int)) (some (b : Int)) 1 len := by
  have ha' : (a : Int) ≤ len := by
    rw [← ha]; unfold clipI; split
    · exact Int.natCast_nonneg _
    · exact Int.max_le.mpr ⟨Int.natCast_nonneg _, Int.min_le_right _ _⟩
  have hb' : (b : Int) ≤ len := by
    rw [← hb]; unfold clipI; split
    · exact Int.le_refl _
    · exact Int.max_le.mpr ⟨Int.natCast_nonneg _, Int.min_le_right _ _⟩
  have e1 : ¬ ((a : Int) < 0) := Int.not_lt.mpr (Int.natCast_nonneg _)
  have e2 : ¬ ((b : Int) < 0) := Int.not_lt.mpr (Int.natCast_nonneg _)
  have e3 : max 0 (min (a : Int) len) = a := ar28 ha'
  have e4 : max 0 (min (b : Int) len) = b := ar28 hb'
  unfold strSliceIndices
  simp only [show ((1 : Int) > 0) = True from by simp, if_true, e1, e2, if_false, e3, e4]
  rw [← ha, ← hb]
  cases lo <;> cases hi <;> rfl
theorem slice_S (l : List Nat) (lo hi : Option Int) {a b : Nat} (ha : clipI lo 0 l.length = a) (hb : clipI hi l.length l.length = b) (hab : a ≤ b) (hbl : b ≤ l.length) : Txt.slice (S l) lo hi = S ((l.drop a).take (b - a)) := by
  unfold Txt.slice
  rw [S_len, idx_clip lo hi l.length a b ha hb]
  split
  · rename_i h
    rw [StrLaws.strSliceIndices_plain hab hbl] at h
    simp only [List.length_map, List.length_range, Bool.and_eq_true, beq_iff_eq] at h
    have : a = 0 := ar29 hab hbl h.2
    subst this
    have : b = l.length := h.2
    subst this
    simp
  · have := StrLaws.sliced_plain (S l) hab (by rw [S_len]; exact hbl)
    rw [S_len, S_cps] at this
    rw [this]; rfl
theorem slice_last {l : List Nat} {q : Int} (hq : 1 ≤ q) : Txt.slice (S l) (some (-q)) none = S (l.drop (l.length - q.toNat)) := by
  rw [slice_S l (some (-q)) none (a := l.length - q.toNat) (b := l.length) (by unfold clipI; simp only []; rw [if_pos (Int.neg_neg_of_pos hq)]; exact ar15 (Int.le_trans (by decide) hq)) (by unfold clipI; simp only []) (Nat.sub_le _ _) (Nat.le_refl _)]
  congr 1
  apply List.take_of_length_le
  rw [List.length_drop]; exact Nat.le_refl _
theorem slice_init {l : List Nat} {q : Int} (hq : 1 ≤ q) : Txt.slice (S l) none (some (-q)) = S (l.take (l.length - q.toNat)) := by
  rw [slice_S l none (some (-q)) (a := 0) (b := l.length - q.toNat) (by unfold clipI; simp only []; rfl) (by unfold clipI; simp only []; rw [if_pos (Int.neg_neg_of_pos hq)]; exact ar15 (Int.le_trans (by decide) hq)) (Nat.zero_le _) (Nat.sub_le _ _)]
  simp
end
-- C3
section
set_option maxRecDepth 100000
set_option maxHeartbeats 1000000
section
variable {w : World} {d u : Nat} {f : Option (List Env)} {g : Option (List Code)} {s : Shared} {E Q : Value → Shared → Prop} {mean : ExcName → Option Value} {mg mb : Str → Option Value}
noncomputable def cutL : List Int → List Nat → List (List Nat) → List Nat × List (List Nat)
  | [], text, names => (text, names)
  | k :: r, text, names => if text = [] then cutL r text names else cutL r (text.take (text.length - k.toNat)) (text.drop (text.length - k.toNat) :: names)
noncomputable def namesL (ivs : List Int) (text : List Nat) : List (List Nat) := let c := cutL ivs text []; if c.1 = [] then c.2 else c.1 :: c.2
theorem cutL_names : ∀ (ivs : List Int) (text : List Nat) (names : List (List Nat)), (∀ i ∈ ivs, 1 ≤ i) → (∀ c ∈ text, c ≠ 47) → text.length ≤ 6 → (∀ b ∈ names, IsName b) →
    (∀ c ∈ (cutL ivs text names).1, c ≠ 47) ∧ (cutL ivs text names).1.length ≤ 6 ∧ ∀ b ∈ (cutL ivs text names).2, IsName b
  | [], text, names, _, h1, h2, h3 => ⟨h1, h2, h3⟩
  | k :: r, text, names, h0, h1, h2, h3 => by
    unfold cutL
    have hk := h0 k List.mem_cons_self
    have hr : ∀ i ∈ r, 1 ≤ i := fun i hi => h0 i (List.mem_cons_of_mem _ hi)
    split
    · exact cutL_names r text names hr h1 h2 h3
    · rename_i ht
      have hp : 0 < text.length := List.length_pos_iff.mpr ht
      refine cutL_names r _ _ hr (fun c hc => h1 c (List.mem_of_mem_take hc)) (by rw [List.length_take]; exact ar24 (by assumption)) fun b hb => ?_
      rcases List.mem_cons.mp hb with rfl | hb
      · refine ⟨?_, fun c hc => h1 c (List.mem_of_mem_drop hc), by rw [List.length_drop]; exact ar25 (by assumption)⟩
        intro e
        have := congrArg List.length e
        rw [List.length_drop, List.length_nil] at this
        exact Nat.not_lt.mpr (Nat.le_of_sub_eq_zero this) (Nat.sub_lt hp (Int.pos_iff_toNat_pos.mp (Int.lt_of_lt_of_le (by decide) hk)))
      · exact h3 b hb
theorem namesL_names {ivs : List Int} {text : List Nat} (h0 : ∀ i ∈ ivs, 1 ≤ i) (h1 : ∀ c ∈ text, c ≠ 47) (h2 : text.length ≤ 6) : ∀ b ∈ namesL ivs text, IsName b := by
  have h := cutL_names ivs text [] h0 h1 h2 (fun _ hb => by cases hb)
  unfold namesL
  simp only []
  split
  · exact h.2.2
  · rename_i ht
    intro b hb
    rcases List.mem_cons.mp hb with rfl | hb
    · exact ⟨ht, h.1, h.2.1⟩
    · exact h.2.2 b hb
theorem digW_ne : ∀ (w m : Nat), ∀ c ∈ digW w m, c ≠ 47
  | 0, _, _, h => by cases h
  | w + 1, m, c, h => by
    unfold digW at h
    rcases List.mem_append.mp h with h | h
    · exact digW_ne w _ c h
    · rw [List.mem_singleton.mp h]; lia
noncomputable def PJ (l : Addr) (n : Int) (t : Tok) (ivs : List Int) (i : Nat) (nl : List (Str × Value)) (news : List (Addr × Obj)) : Prop :=
  ∀ P : List (Str × Value) → List (Addr × Obj) → Prop, (∀ t1 a k text names vals, StrsAre vals (names.map S) → vals.length ≤ i → cutL (ivs.drop i) text names = cutL ivs (digW 6 n.toNat) [] → text.length ≤ 6 → P ([("text", .str (S text) t1), ("names", .ref a), ("intervals", .ref l), ("number", .int n t)] : List (Str × Value)) [(a, listOf vals.toArray k)]) → P nl news
theorem PJ.mk {l : Addr} {n : Int} {t : Tok} {ivs : List Int} {i : Nat} (t1 : Tok) (a : Addr) (k : Nat) (text : List Nat) (names : List (List Nat)) (vals : List Value) (h1 : StrsAre vals (names.map S)) (h2 : vals.length ≤ i) (h3 : cutL (ivs.drop i) text names = cutL ivs (digW 6 n.toNat) []) (h4 : text.length ≤ 6) :
    PJ l n t ivs i [("text", .str (S text) t1), ("names", .ref a), ("intervals", .ref l), ("number", .int n t)] [(a, listOf vals.toArray k)] := fun _ q => q t1 a k text names vals h1 h2 h3 h4
theorem path_ {l : Addr} {vs : List Value} {ivs : List Int} {n : Int} {t : Tok} (X : (Mine.hd.heap_39 w.params).In s.heap) (T : Top Mine.hd.view_39 (looseW Mine.hd.view_39 []) mean mg mb s.heap) (hA2 : d < 370)
  (hl : s.heap.IsList l vs.toArray) (hi : IntsAre vs ivs) (hv : ∀ i ∈ ivs, 1 ≤ i ∧ i ≤ 3) (hil : ivs.length ≤ 10) (hn0 : 0 ≤ n) (hn1 : n < 1000000)
  (hQ : ∀ h' tk t, Keeps s.heap h' → Q (.str (S (pathL (namesL ivs (digW 6 n.toNat)))) t) {s with heap := h', toks := tk}) :
  wpAny (model Challenge.rw_pd0146_01.row.prog w) (Around.mk none d f g u) (call (.ref 188) [.ref l, .int n t]) Q E s := by
  refine' enterC (binds := [("intervals", .ref l), ("number", .int n t)]) X T.nolimit ?k6 ?k7 (Nat.lt_trans hA2 (by decide)) (BindsTo.of_eq ?k8) ?k9 ?_ ?c1 ?c2 ?c3 ?c4
  (((case k6 => k_is); (case k7 => k_is); (case k8 => rfl); (case k9 => exact locs (by rfl)); (case c1 => rfl); (case c2 => rfl); (case c3 => rfl); (case c4 => decide)))
  intro h₁ L' F N
  refine wpAny_noRaise ?_
  (repeat' (first | (k_unfold; (try dsimp only)) | (k_end; kc_close) | ((with_reducible show wpAny _ _ (exec (PySem.Stmt.For (PySem.Expr.Name _ _) (PySem.Expr.Name _ _) (_ :: _) [] _) _) _ _ _); ((k_here; (rename Fr _ _ _ _ => zhlFq); (with_unfolding_all refine' For_stop zhlFq (by exact rfl) (by exact rfl) ?_ (by intro _; rfl) (by passes_own); k_whole)))) | walk1 | (dsimp only; walk1) | (leave1; (try dsimp only))))
  have e6 : Txt.mul (Str.ofString "0") (6 - ((Str.ofString (toString n)).length : Int)) ++ Str.ofString (toString n) = S (digW 6 n.toNat) := padW (w := 5) hn0 (by simpa using hn1)
  (with_reducible rename Fr _ _ _ _ => kF)
  (with_reducible rename News _ _ _ _ => kN)
  rw [e6] at kF
  refine for_list0 (PJ l n t ivs) (by (exact rfl)) hl kF kN ?st ?_ ?_
  case st =>
    refine' ⟨_, ?_, (PJ.mk _ _ _ _ ([]) _ StrsAre.nil (?_) rfl (?_))⟩
    · first | exact agr (by with_unfolding_all rfl) | (refine ⟨?_, ?_, ?_, ?_, trivial⟩ <;> with_unfolding_all rfl)
    · simp
    · rw [digW_len]; lia
  · intro i v nl news h tk u I ito hv' J
    apply J
    clear J
    intro t1 a k text names vals hst hvl hc htl hI F N
    have hil' : i < ivs.length := by rw [← hi.length]; exact (List.getElem?_eq_some_iff.mp hv').1
    (refine qE2A2 (ints_item hi hv') fun q tq zqr2 hq => ?_; subst zqr2)
    have hq1 := hv q (List.mem_of_getElem? hq)
    have hlt : (S text).length ≤ 6 := by rw [S_len]; exact htl
    have hdrop : ivs.drop i = q :: ivs.drop (i + 1) := by
      have e := List.drop_eq_getElem_cons hil'
      have e2 : ivs[i] = q := by rw [List.getElem?_eq_getElem hil'] at hq; exact Option.some.inj hq
      rw [e, e2]
    rw [hdrop] at hc
    by_cases ht0 : text = []
    · subst ht0
      rw [← empt] at F
      k_steps
      rw [empt] at *
      exact turn_end (by assumption) (by assumption) (PJ.mk _ _ _ _ _ _ hst (by lia) hc (by simp)) (by first | exact agr (by with_unfolding_all rfl) | (refine ⟨?_, ?_, ?_, ?_, trivial⟩ <;> with_unfolding_all rfl)) hI
    · have hne : (S text != Str.ofString "") = true := by
        rw [empt, bne_iff_ne]
        exact fun e => ht0 (S_inj e)
      (repeat' ((fail_if_success ((with_reducible show wpAny _ _ (binaryOp _ (Value.ref _) (Value.ref _)) _ _ _))); first | (k_unfold; (try dsimp only)) | (k_end; kc_close) | walk1 | (dsimp only; walk1) | (leave1; (try dsimp only))))
      k_dflt (refine' kmk_add_lit ?adF ?adN ?ada ?adb ?ade ?_ ?adz; (case adF => k_asm); (case adN => k_asm); (case ada => kmk_list); (case adb => kmk_list); (case ade => exact rfl); (case adz => (((try simp only [sizeLine_eq, List.length_cons, List.length_nil, List.length_append, List.length_replicate, List.length_map, Array.length_toList, List.size_toArray]); omega))); k_whole)
      intro l' h' F' N' l1
      (try k_lt l1)
      (try k_sweep)
      k_steps
      (with_reducible rename Fr _ _ _ _ => kF)
      (with_reducible rename News _ _ _ _ => kN)
      rw [slice_last hq1.1] at kN
      rw [slice_init hq1.1] at kF
      rw [cutL, if_neg ht0] at hc
      exact turn_endS kF kN (PJ.mk _ _ _ _ (text.drop (text.length - q.toNat) :: names) (_ :: vals) (StrsAre.cons (S (text.drop (text.length - q.toNat))) _ (by assumption)) (by rw [List.length_cons]; lia) hc (by rw [List.length_take]; (with_reducible exact ar24 ‹_›))) (by first | exact agr (by with_unfolding_all rfl) | (refine ⟨?_, ?_, ?_, ?_, trivial⟩ <;> with_unfolding_all rfl)) (by k_mem)
        (by intro p hp; rw [List.mem_singleton.mp hp]; exact ⟨by k_mem, by k_ne⟩)
  · intro nl news h tk u J
    apply J
    clear J
    intro t1 a k text names vals hst hvl hc htl F N
    have hlt : (S text).length ≤ 6 := by rw [S_len]; exact htl
    rw [hi.length, List.drop_length, cutL] at hc
    have hvl' : vals.length ≤ 10 := by rw [hi.length] at hvl; lia
    have hnl : names.length = vals.length := by have := hst.len_eq; rw [List.length_map] at this; exact this.symm
    have hN : ∀ b ∈ namesL ivs (digW 6 n.toNat), IsName b := namesL_names (fun i hi => (hv i hi).1) (digW_ne _ _) (by rw [digW_len]; exact Nat.le_refl _)
    by_cases ht0 : text = []
    · subst ht0
      rw [← empt] at F
      have e : namesL ivs (digW 6 n.toNat) = names := by unfold namesL; rw [← hc]; rfl
      rw [e] at hN hQ
      (repeat' ((fail_if_success (with_reducible show StarOf _ _ _ (Value.ref _) _ _)); first | (k_unfold; (try dsimp only)) | (k_end; kc_close) | walk1 | (dsimp only; walk1) | (leave1; (try dsimp only))))
      k_dflt (refine' star_seq ?sak1 ?sak2 ?sam ?sac ?sad ?saT ?sae ?saz ?_; (case sak1 => k_asm); (case sak2 => k_asm); (case sam => k_mem); (case sac => exact rfl); (case sad => exact rfl); (case saT => first | exact .inl rfl | exact .inr rfl); (case sae => exact rfl); (case saz => (((try simp only [sizeLine_eq, List.length_cons, List.length_nil, List.length_append, List.length_replicate, List.length_map, Array.length_toList, List.size_toArray]); omega))); k_whole)
      intro h' F' N'
      (try k_sweep)
      try dsimp only [List.nil_append, List.cons_append]
      k_steps
      (with_reducible rename Fr _ _ _ _ => kF)
      (with_reducible rename News _ _ _ _ => kN)
      refine join_ (names := names) (Frag.In.keeps (by k_asm) kF.keep) (Top.keeps (by k_asm) kF.keep) (by (first | omega | (dsimp only; omega) | (simp only [depth_deeper, depth_in1, depth_caller, Around.deeper]; omega) | (simp [Around.deeper]; omega))) ?_ ?hvl ?hv ?hn
      (case hv => (((try simp only [List.append_nil]); first | assumption | exact StrsAre.cons _ _ (by assumption))))
      (case hvl => (((try simp only [sizeLine_eq, List.length_cons, List.length_nil, List.length_append, List.length_replicate, List.length_map, Array.length_toList, List.size_toArray]); omega)))
      (case hn => assumption)
      intro h' tk t hk
      exact hQ _ _ _ (Keeps.trans kF.keep hk)
    · have hne : (S text != Str.ofString "") = true := by
        rw [empt, bne_iff_ne]
        exact fun e => ht0 (S_inj e)
      have e : namesL ivs (digW 6 n.toNat) = text :: names := by unfold namesL; rw [← hc]; simp only []; rw [if_neg ht0]
      rw [e] at hN hQ
      (repeat' ((fail_if_success ((with_reducible show wpAny _ _ (binaryOp _ (Value.ref _) (Value.ref _)) _ _ _))); first | (k_unfold; (try dsimp only)) | (k_end; kc_close) | walk1 | (dsimp only; walk1) | (leave1; (try dsimp only))))
      k_dflt (refine' kmk_add_lit ?aeF ?aeN ?aea ?aeb ?aee ?_ ?aez; (case aeF => k_asm); (case aeN => k_asm); (case aea => kmk_list); (case aeb => kmk_list); (case aee => exact rfl); (case aez => (((try simp only [sizeLine_eq, List.length_cons, List.length_nil, List.length_append, List.length_replicate, List.length_map, Array.length_toList, List.size_toArray]); omega))); k_whole)
      intro l' h' F' N' l1
      (try k_lt l1)
      (try k_sweep)
      (repeat' ((fail_if_success (with_reducible show StarOf _ _ _ (Value.ref _) _ _)); first | (k_unfold; (try dsimp only)) | (k_end; kc_close) | walk1 | (dsimp only; walk1) | (leave1; (try dsimp only))))
      k_dflt (refine' star_seq ?sbk1 ?sbk2 ?sbm ?sbc ?sbd ?sbT ?sbe ?sbz ?_; (case sbk1 => k_asm); (case sbk2 => k_asm); (case sbm => k_mem); (case sbc => exact rfl); (case sbd => exact rfl); (case sbT => first | exact .inl rfl | exact .inr rfl); (case sbe => exact rfl); (case sbz => (((try simp only [sizeLine_eq, List.length_cons, List.length_nil, List.length_append, List.length_replicate, List.length_map, Array.length_toList, List.size_toArray]); omega))); k_whole)
      intro h' F' N'
      (try k_sweep)
      try dsimp only [List.nil_append, List.cons_append]
      k_steps
      (with_reducible rename Fr _ _ _ _ => kF)
      (with_reducible rename News _ _ _ _ => kN)
      refine join_ (names := text :: names) (Frag.In.keeps (by k_asm) kF.keep) (Top.keeps (by k_asm) kF.keep) (by (first | omega | (dsimp only; omega) | (simp only [depth_deeper, depth_in1, depth_caller, Around.deeper]; omega) | (simp [Around.deeper]; omega))) ?_ ?hvl ?hv ?hn
      (case hv => (((try simp only [List.append_nil]); first | assumption | exact StrsAre.cons _ _ (by assumption))))
      (case hvl => (((try simp only [sizeLine_eq, List.length_cons, List.length_nil, List.length_append, List.length_replicate, List.length_map, Array.length_toList, List.size_toArray]); omega)))
      (case hn => assumption)
      intro h' tk t hk
      exact hQ _ _ _ (Keeps.trans kF.keep hk)
end
end
-- R7
section
set_option maxRecDepth 100000
set_option maxHeartbeats 1000000
theorem stopHere {p : Prop} (h : Stop p) : p := h
noncomputable def WEnd (h₀ : Heap) (L : Addr) (J : Nat → List (Str × Value) → List (Addr × Obj) → Prop) (n : Nat) (s s₂ : Shared) : Prop :=
  ∃ n', n' < n ∧ ∃ h' tk m' nl' news', s₂ = { s with heap := h', toks := tk } ∧ Fr h₀ L h' m' ∧ Agree nl' m' ∧ News h₀ L h' news' ∧ J n' nl' news'
noncomputable def WPost (h₀ : Heap) (L : Addr) (J : Nat → List (Str × Value) → List (Addr × Obj) → Prop) (n : Nat) (s : Shared) (Q : Flow → Shared → Prop) (f : Flow) (s₂ : Shared) : Prop :=
  match f with
  | .ret v => Q (.ret v) s₂
  | .brk => Q .next s₂
  | _ => WEnd h₀ L J n s s₂
theorem w_end {h₀ h' : Heap} {L : Addr} {J : Nat → List (Str × Value) → List (Addr × Obj) → Prop} {n n' : Nat} {s : Shared} {m' : Str → Option Value} {nl' : List (Str × Value)} {big news' : List (Addr × Obj)} {tk : Nat}
    (F : Fr h₀ L h' m') (N : News h₀ L h' big) (hn : n' < n) (hj : J n' nl' news') (ag : Agree nl' m') (hsub : ∀ p ∈ news', p ∈ big) : WEnd h₀ L J n s { s with heap := h', toks := tk } :=
  ⟨n', hn, h', tk, m', nl', news', rfl, F, ag, fun p hp => N p (hsub p hp), hj⟩
section
variable {prog : Program} {w : World} {A : Around} {E : Value → Shared → Prop} {s : Shared} {env : Env} {h₀ : Heap} {body : List Stmt} {Q : Flow → Shared → Prop}
theorem while_rule {test : Expr} {pos : Pos} {m : Str → Option Value} {news : List (Addr × Obj)} (J : Nat → List (Str × Value) → List (Addr × Obj) → Prop) (n₀ : Nat)
    (F : Fr h₀ env.locals s.heap m) (N : News h₀ env.locals s.heap news) (start : ∃ nl, Agree nl m ∧ J n₀ nl news)
    (turn : ∀ n nl news h tk u, J n nl news → Fr h₀ env.locals h (locsOf nl u) → News h₀ env.locals h news →
      wpAny (model prog w) A (isTrue test env (eval test env)) (fun b s₂ => if b = true then wpAny (model prog w) A (execs body env) (WPost h₀ env.locals J n s Q) E s₂ else Q .next s₂) E { s with heap := h, toks := tk })
    (hE : PassesOwn (model prog w) A env E) :
    wpAny (model prog w) A (exec (.While test body [] pos) env) Q E s := by
  (refine qE1A2 (start) fun nl ha hj => ?_; (try clear start))
  refine wpAny_While ?_
  refine codeAny_whileLoop (fun n s' => ∃ h tk m' nl' news', s' = { s with heap := h, toks := tk } ∧ Fr h₀ env.locals h m' ∧ Agree nl' m' ∧ News h₀ env.locals h news' ∧ J n nl' news') ?_ n₀ ⟨s.heap, s.toks, m, nl, news, rfl, F, ha, N, hj⟩
  (intro n s'; intro zqi; refine qE5A5 zqi fun h tk m' nl' news' zqr5 F' ha' N' hj' => ?_; clear zqi; subst zqr5)
  have t := turn n nl' news' h tk m' hj' (by rw [locsOf_agree ha']; exact F') N'
  refine wpAny_passesOwn hE (wpAny_mono t (fun b s₂ hb => ?_) fun _ _ e => e)
  cases b with
  | true =>
    simp only [if_true] at hb ⊢
    refine wpAny_passesOwn hE (wpAny_mono hb (fun f s₃ hf => ?_) fun _ _ e => e)
    have fin : WEnd h₀ env.locals J n s s₃ → ∃ m, m < n ∧ ∃ h tk m' nl' news', s₃ = { s with heap := h, toks := tk } ∧ Fr h₀ env.locals h m' ∧ Agree nl' m' ∧ News h₀ env.locals h news' ∧ J m nl' news' := by
      (rintro ⟨n', hn, h', tk', m₂, nl₂, news₂, rfl, F₂, ha₂, N₂, hj₂⟩)
      exact ⟨n', hn, h', tk', m₂, nl₂, news₂, rfl, F₂, ha₂, N₂, hj₂⟩
    cases f with
    | ret v => exact hf
    | brk => exact hf
    | next => exact fin hf
    | cont => exact fin hf
  | false =>
    simp only [Bool.false_eq_true, if_false] at hb ⊢
    exact wpAny_execs_nil hb
end
end
-- U4
section
set_option maxRecDepth 100000
set_option maxHeartbeats 1000000
open PySem.Builtin.Str (subAt strSub occurrences lastOccurrence)
theorem subAt_one (l : List Nat) (c i : Nat) : subAt (S l) (S [c]) i = (l[i]? == some c) := by
  rw [StrLaws.subAt_eq, S_cps, S_cps, S_len]
  show ((l.drop i).take 1 == [c]) = _
  rw [List.take_one, List.head?_drop]
  cases l[i]? with
  | none => rfl
  | some a => simp
theorem rfind_S {a b : List Nat} (hb : ∀ c ∈ b, c ≠ 47) : Txt.rfind (S (a ++ 47 :: b)) (Str.ofString "/") = (a.length : Int) := by
  rw [slash]
  unfold Txt.rfind
  have hat : StrLaws.At (S (a ++ 47 :: b)) (S [47]) (S (a ++ 47 :: b)).length a.length := by
    refine ⟨?_, ?_⟩
    · rw [S_len, S_len]; simp
    · rw [subAt_one]; simp
  rcases StrLaws.last_spec (S (a ++ 47 :: b)) (S [47]) with ⟨_, h2⟩ | ⟨i, h1, h2, h3⟩
  · exact absurd hat (h2 _)
  · rw [h1]
    have e : i = a.length := by
      rcases Nat.lt_trichotomy i a.length with h | h | h
      · exact absurd hat (h3 _ h)
      · exact h
      · exfalso
        have h4 := h2.2
        rw [subAt_one] at h4
        have h5 : (a ++ 47 :: b)[i]? = some 47 := by simpa using h4
        rw [List.getElem?_append_right (by lia)] at h5
        (refine qE1A1 (show ∃ k, i - a.length = k + 1 from ⟨i - a.length - 1, ar4 (by (with_reducible assumption))⟩) fun k hk => ?_)
        rw [hk, List.getElem?_cons_succ] at h5
        exact hb 47 (List.mem_of_getElem? h5) rfl
    rw [e]
theorem slice_to {l : List Nat} {k : Int} (h0 : 0 ≤ k) (h1 : k ≤ l.length) : Txt.slice (S l) none (some k) = S (l.take k.toNat) := by
  rw [slice_S l none (some k) (a := 0) (b := k.toNat) (by unfold clipI; simp only []; rfl) (by unfold clipI; simp only []; exact ar30 (by assumption) (by assumption)) (Nat.zero_le _) (arT (by assumption))]
  simp
theorem slice_from {l : List Nat} {k : Int} (h0 : 0 ≤ k) (h1 : k ≤ l.length) : Txt.slice (S l) (some k) none = S (l.drop k.toNat) := by
  rw [slice_S l (some k) none (a := k.toNat) (b := l.length) (by unfold clipI; simp only []; exact ar30 (by assumption) (by assumption)) (by unfold clipI; simp only []) (arT (by assumption)) (Nat.le_refl _)]
  congr 1
  apply List.take_of_length_le
  rw [List.length_drop]; exact Nat.le_refl _
theorem foldl_rep' (c k : Nat) : (List.replicate k (#[c] : Array Nat)).foldl (· ++ ·) #[] = (List.replicate k c).toArray := by
  have : ∀ (k : Nat) (acc : Array Nat), (List.replicate k (#[c] : Array Nat)).foldl (· ++ ·) acc = acc ++ (List.replicate k c).toArray := by
    intro k
    induction k with
    | zero => intro acc; simp
    | succ k ih => intro acc; rw [List.replicate_succ, List.foldl_cons, ih]; apply Array.ext'; simp [List.replicate_succ]
  rw [this]; simp
theorem mul_slash (k : Nat) : Txt.mul (Str.ofString "/") (k : Int) = S (List.replicate k 47) := by
  rw [slash]
  unfold Txt.mul
  by_cases h : (k : Int) < 1
  · rw [if_pos h]
    have : k = 0 := by lia
    subst this; rfl
  · rw [if_neg h]
    by_cases h1 : k = 1
    · subst h1; decide
    · have e : ((k : Int) == 1 || (S [47]).length == 0) = false := by
        rw [S_len]
        have : ¬ ((k : Int) = 1) := by lia
        simp [this]
      rw [e]
      simp only [Bool.false_eq_true, if_false]
      show Str.mk ((List.replicate (k : Int).toNat (#[47] : Array Nat)).foldl (· ++ ·) #[]) = _
      rw [foldl_rep']
      rfl
theorem rstrip_S {a : List Nat} {c : Nat} (hc : c ≠ 47) : Txt.rstripChars (S (a ++ [c] ++ [47])) (Str.ofString "/") = S (a ++ [c]) := by
  rw [slash]
  unfold Txt.rstripChars Txt.stripBy
  have hg : ∀ x, (S [47]).cps.contains x = (x == 47) := by
    intro x
    show (#[47] : Array Nat).contains x = _
    rw [Bool.eq_iff_iff]; simp
  have hlo : stripLo ((S [47]).cps.contains) false (S (a ++ [c] ++ [47])) = 0 := rfl
  have hhi : stripHi ((S [47]).cps.contains) true (S (a ++ [c] ++ [47])) 0 = a.length + 1 := by
    unfold stripHi
    rw [S_cps, S_len]
    simp only [if_true, List.drop_zero]
    have : ((a ++ [c] ++ [47]).reverse.takeWhile ((S [47]).cps.contains)) = [47] := by
      rw [show (S [47]).cps.contains = fun x => x == 47 from funext hg]
      simp [hc]
    rw [this]
    simp
  have hs : stripSame ((S [47]).cps.contains) false true (S (a ++ [c] ++ [47])) = false := by
    unfold stripSame
    rw [hlo, hhi, S_len]
    simp
  rw [hs]
  simp only [Bool.false_eq_true, if_false]
  unfold PySem.stripped
  rw [hlo, hhi]
  have := StrLaws.strSub_toList (S (a ++ [c] ++ [47])) 0 (a.length + 1)
  rw [S_cps] at this
  rw [S_of (strSub _ _ _), this]
  congr 1
  rw [Nat.sub_zero, List.drop_zero, List.take_append_of_le_length (by simp), List.take_of_length_le (by simp)]
end
-- C4
section
set_option maxRecDepth 100000
set_option maxHeartbeats 1000000
section
variable {w : World} {d u : Nat} {f : Option (List Env)} {g : Option (List Code)} {s : Shared} {E Q : Value → Shared → Prop} {mean : ExcName → Option Value} {mg mb : Str → Option Value}


noncomputable def headOf (a : List Nat) : List Nat := if a = [] then [47] else a
theorem split_ {x a b : List Nat} {t : Tok} (X : (Mine.hd.heap_39 w.params).In s.heap) (T : Top Mine.hd.view_39 (looseW Mine.hd.view_39 []) mean mg mb s.heap) (hA2 : d < 380)
  (hx : x.length ≤ 50) (he : x = a ++ 47 :: b) (hb : ∀ c ∈ b, c ≠ 47) (ha : ∀ r c, a = r ++ [c] → c ≠ 47)
  (hQ : ∀ h' tk r n t1 t2, Keeps s.heap h' → s.heap.get? r = none → h'.get? r = some { cls := .type "tuple", data := .seq #[.str (S (headOf a)) t1, .str (S b) t2] n } → Q (.ref r) {s with heap := h', toks := tk}) :
  wpAny (model Challenge.rw_pd0146_01.row.prog w) (Around.mk none d f g u) (call (.ref 157) [.str (S x) t]) Q E s := by
  refine' enterC (binds := [("p", .str (S x) t)]) X T.nolimit ?k6 ?k7 (Nat.lt_trans hA2 (by decide)) (BindsTo.of_eq ?k8) ?k9 ?_ ?c1 ?c2 ?c3 ?c4
  (((case k6 => k_is); (case k7 => k_is); (case k8 => rfl); (case k9 => exact locs (by rfl)); (case c1 => rfl); (case c2 => rfl); (case c3 => rfl); (case c4 => decide)))
  intro h₁ L' F N
  refine wpAny_noRaise ?_
  have hl : (S x).length ≤ 50 := by rw [S_len]; exact hx
  have hl2 : (S x).length = a.length + b.length + 1 := by rw [S_len, he]; simp; lia
  have hr : Txt.rfind (S x) (Str.ofString "/") = (a.length : Int) := by rw [he]; exact rfind_S hb
  have e1 : Txt.slice (S x) none (some (Txt.rfind (S x) (Str.ofString "/") + 1)) = S (a ++ [47]) := by
    rw [hr, slice_to (by lia) (by rw [he]; simp; lia), he]
    congr 1
    rw [show ((a.length : Int) + 1).toNat = a.length + 1 from by lia, List.take_append, List.take_of_length_le (by lia), show a.length + 1 - a.length = 1 from by lia]
    rfl
  have e2 : Txt.slice (S x) (some (Txt.rfind (S x) (Str.ofString "/") + 1)) none = S b := by
    rw [hr, slice_from (by lia) (by rw [he]; simp; lia), he]
    congr 1
    rw [show ((a.length : Int) + 1).toNat = a.length + 1 from by lia, List.drop_append]
    simp
  have e3 : (Txt.slice (S x) none (some (Txt.rfind (S x) (Str.ofString "/") + 1))).length = a.length + 1 := by rw [e1, S_len]; simp
  (repeat' ((fail_if_success ((with_reducible show wpAny _ _ (exec (PySem.Stmt.If _ _ _ _) _) _ _ _))); first | (k_unfold; (try dsimp only)) | (k_end; kc_close) | (k_here; (with_reducible show wpAny _ _ (call (Value.ref 129) [Value.str _ _]) _ _ _); (with_reducible rename Fr _ _ _ _ => zrkF); (with_reducible rename News _ _ _ _ => zrkN); refine fspath_ (Frag.In.keeps (by k_asm) zrkF.keep) (Top.keeps (by k_asm) zrkF.keep) (by (first | omega | (dsimp only; omega) | (simp only [depth_deeper, depth_in1, depth_caller, Around.deeper]; omega) | (simp [Around.deeper]; omega))) ?_; intro zrhq zrtkq zrhkq; (replace zrkF := Fr.grow zrkF zrhkq); (replace zrkN := News.grow zrkN zrhkq); clear zrhkq) | (k_here; (with_reducible show wpAny _ _ (call (Value.ref 143) [Value.str _ _]) _ _ _); (with_reducible rename Fr _ _ _ _ => zrkF); (with_reducible rename News _ _ _ _ => zrkN); refine getsep_ (Frag.In.keeps (by k_asm) zrkF.keep) (Top.keeps (by k_asm) zrkF.keep) (by (first | omega | (dsimp only; omega) | (simp only [depth_deeper, depth_in1, depth_caller, Around.deeper]; omega) | (simp [Around.deeper]; omega))) ?_; intro zrhq zrtkq zrtq zrhkq; (replace zrkF := Fr.grow zrkF zrhkq); (replace zrkN := News.grow zrkN zrhkq); clear zrhkq) | walk1 | (dsimp only; walk1) | (leave1; (try dsimp only))))
  rcases List.eq_nil_or_concat a with h0 | ⟨a', c, h0⟩
  · have e4 : (Txt.slice (S x) none (some (Txt.rfind (S x) (Str.ofString "/") + 1)) != Txt.mul (Str.ofString "/") ↑(Txt.slice (S x) none (some (Txt.rfind (S x) (Str.ofString "/") + 1))).length) = false := by
      rw [e3, e1, h0, mul_slash]; decide
    k_steps
    all_goals first | (exfalso; omega) | skip
    (with_reducible rename Fr _ _ _ _ => kF)
    (with_reducible rename News _ _ _ _ => kN)
    rw [e1, e2, h0] at kN
    have e5 : headOf a = [47] := by rw [h0]; rfl
    rw [e5] at hQ
    exact hQ _ _ _ _ _ _ kF.keep (kN _ (by k_mem)).2.2 (kN _ (by k_mem)).1
  · have hc : c ≠ 47 := ha a' c (by rw [h0]; simp)
    have e4 : (Txt.slice (S x) none (some (Txt.rfind (S x) (Str.ofString "/") + 1)) != Txt.mul (Str.ofString "/") ↑(Txt.slice (S x) none (some (Txt.rfind (S x) (Str.ofString "/") + 1))).length) = true := by
      rw [e3, e1, mul_slash, bne_iff_ne]
      intro q
      have q2 := S_inj q
      rw [h0] at q2
      have : c ∈ List.replicate ((a'.concat c).length + 1) 47 := by rw [← q2]; simp
      exact hc (List.eq_of_mem_replicate this)
    k_steps
    all_goals first | (exfalso; omega) | skip
    (with_reducible rename Fr _ _ _ _ => kF)
    (with_reducible rename News _ _ _ _ => kN)
    have e5 : headOf a = a := if_neg (by rw [h0]; simp)
    have e6 : Txt.rstripChars (S (a ++ [47])) (Str.ofString "/") = S a := by
      rw [h0, List.concat_eq_append]; exact rstrip_S hc
    rw [e1, e2, e6] at kN
    rw [e5] at hQ
    exact hQ _ _ _ _ _ _ kF.keep (kN _ (by k_mem)).2.2 (kN _ (by k_mem)).1
end
end
-- R8
section
set_option maxRecDepth 100000
set_option maxHeartbeats 1000000
theorem addN {h₀ h h' : Heap} {L : Addr} {m : Str → Option Value} {news : List (Addr × Obj)} {r : Addr} {o : Obj} (F : Fr h₀ L h m) (N : News h₀ L h news) (k : Keeps h h') (hn : h.get? r = none) (hr : h'.get? r = some o) : News h₀ L h' ((r, o) :: news) := by
  intro p hp
  (first | (revert p; refine alC ?_ (fun p hp => ?_)) | rcases List.mem_cons.mp hp with rfl | hp)
  · refine ⟨hr, fun e => ?_, ?_⟩
    · (refine qE3A2 (F.ns) fun oL _ _ hL _ => ?_)
      have e' : r = L := e
      rw [e', hL] at hn; cases hn
    · cases q : h₀.get? r with
      | none => rfl
      | some o' => rw [F.keep _ _ q] at hn; cases hn
  · exact N.grown k p hp
noncomputable def AllNe (d : Nat) : List (Addr × Obj) → Prop
  | [] => True
  | p :: r => @Ne Nat p.1 d ∧ AllNe d r
theorem allNe {h₀ h : Heap} {L : Addr} {news : List (Addr × Obj)} {r : Addr} (N : News h₀ L h news) (hn : h.get? r = none) : AllNe r news := by
  induction news with
  | nil => trivial
  | cons p l ih =>
    refine ⟨fun e => ?_, ih fun q hq => N q (List.mem_cons_of_mem _ hq)⟩
    have := (N p List.mem_cons_self).1
    rw [e, hn] at this; cases this
end
-- C5
section
set_option maxRecDepth 100000
set_option maxHeartbeats 1000000
section
variable {w : World} {d u : Nat} {f : Option (List Env)} {g : Option (List Code)} {s : Shared} {E Q : Value → Shared → Prop} {mean : ExcName → Option Value} {mg mb : Str → Option Value}


noncomputable def RJ (k : Nat) (ns : List (List Nat)) (i : Nat) (nl : List (Str × Value)) (news : List (Addr × Obj)) : Prop :=
  ∀ P : List (Str × Value) → List (Addr × Obj) → Prop, (∀ t1 t2, i ≤ k → P ([("path", .str (S (pathL (ns.take (k - i)))) t1), ("text", .str (S ((ns.drop (k - i)).flatten)) t2)] : List (Str × Value)) []) → P nl news
theorem RJ.mk {k : Nat} {ns : List (List Nat)} {i : Nat} (t1 t2 : Tok) (h : i ≤ k) : RJ k ns i [("path", .str (S (pathL (ns.take (k - i)))) t1), ("text", .str (S ((ns.drop (k - i)).flatten)) t2)] [] := fun _ q => q t1 t2 h
open PySem.NumText in
theorem val_digW : ∀ (w m : Nat), digitsVal (digW w m) = m % 10 ^ w
  | 0, m => by simp [digW, digitsVal, Nat.mod_one]
  | w + 1, m => by
    unfold digW
    rw [digitsVal_snoc, val_digW w, Nat.pow_succ, Nat.mul_comm (10 ^ w) 10, Nat.mod_mul]
    lia
open PySem.NumText in
theorem digW_digits : ∀ (w m : Nat), AllDigits (digW w m)
  | 0, _, _, h => by cases h
  | w + 1, m, c, h => by
    unfold digW at h
    rcases List.mem_append.mp h with h | h
    · exact digW_digits w _ c h
    · rw [List.mem_singleton.mp h]; constructor <;> lia
theorem int_digW {n : Int} (h0 : 0 ≤ n) (h1 : n < 1000000) : PySem.intText? (S (digW 6 n.toNat)) = some n := by
  have e := PySem.intText_digits (x := S (digW 6 n.toNat)) (by rw [S_cps]; exact digW_digits _ _) (by rw [S_cps]; intro q; have := congrArg List.length q; rw [digW_len] at this; simp at this) (by rw [S_len, digW_len]; decide)
  rw [S_cps, val_digW, Nat.mod_eq_of_lt (by lia)] at e
  rw [e]
  congr 1
  lia
theorem pathL_snoc (ms : List (List Nat)) (b : List Nat) : pathL (ms ++ [b]) = (ms.flatMap fun n => 47 :: n) ++ 47 :: b := by
  simp [pathL]
theorem headOf_flat (ms : List (List Nat)) : headOf (ms.flatMap fun n => 47 :: n) = pathL ms := by
  unfold headOf pathL
  cases ms with
  | nil => rfl
  | cons a r => simp
theorem flat_last {ms : List (List Nat)} (h : ∀ b ∈ ms, IsName b) : ∀ r c, (ms.flatMap fun n => 47 :: n) = r ++ [c] → c ≠ 47 := by
  intro r c e
  rcases List.eq_nil_or_concat ms with rfl | ⟨q, b, rfl⟩
  · have := congrArg List.length e
    simp at this
  · (refine qE0A3 (h b (by simp)) fun h1 h2 _ => ?_)
    rcases List.eq_nil_or_concat b with rfl | ⟨b', x, rfl⟩
    · exact absurd rfl h1
    · have hx := h2 x (by simp)
      simp only [List.concat_eq_append, List.flatMap_append, List.flatMap_cons, List.flatMap_nil, List.append_nil] at e
      rw [← List.cons_append, ← List.append_assoc] at e
      have := List.append_inj_right' e rfl
      simp only [List.cons.injEq, and_true] at this
      rw [← this]; exact hx
theorem read_ {ns : List (List Nat)} {n : Int} {t : Tok} (X : (Mine.hd.heap_39 w.params).In s.heap) (T : Top Mine.hd.view_39 (looseW Mine.hd.view_39 []) mean mg mb s.heap) (hA2 : d < 370)
  (hns : ns.length ≤ 6) (hN : ∀ b ∈ ns, IsName b) (hn0 : 0 ≤ n) (hn1 : n < 1000000) (hfl : ns.flatten = digW 6 n.toNat)
  (hQ : ∀ h' tk t, Keeps s.heap h' → Q (.int n t) {s with heap := h', toks := tk}) :
  wpAny (model Challenge.rw_pd0146_01.row.prog w) (Around.mk none d f g u) (call (.ref 195) [.str (S (pathL ns)) t]) Q E s := by
  refine' enterC (binds := [("path", .str (S (pathL ns)) t)]) X T.nolimit ?k6 ?k7 (Nat.lt_trans hA2 (by decide)) (BindsTo.of_eq ?k8) ?k9 ?_ ?c1 ?c2 ?c3 ?c4
  (((case k6 => k_is); (case k7 => k_is); (case k8 => rfl); (case k9 => exact locs (by rfl)); (case c1 => rfl); (case c2 => rfl); (case c3 => rfl); (case c4 => decide)))
  intro h₁ L' F N
  refine wpAny_noRaise ?_
  (repeat' (first | (k_unfold; (try dsimp only)) | (k_end; kc_close) | ((with_reducible show wpAny _ _ (exec (PySem.Stmt.For (PySem.Expr.Name _ _) (PySem.Expr.Call _ _ _ _) (_ :: _) [] _) _) _ _ _); ((k_here; (rename Fr _ _ _ _ => zhlFq); (with_unfolding_all refine' For_stop zhlFq (by exact rfl) (by exact rfl) ?_ (by intro _; rfl) (by passes_own); k_whole)))) | walk1 | (dsimp only; walk1) | (leave1; (try dsimp only))))
  (rename Fr _ _ _ _ => kF)
  (rename News _ _ _ _ => kN)
  (rename IsRange _ _ _ _ _ _ _ _ => kR)
  unfold Stop
  refine for_range (RJ ns.length ns) (n := 7) rfl kR (by decide) (by decide) kF (news := []) (fun p hp => by cases hp) ?st ?_ ?_
  case st =>
    refine' ⟨_, ?_, (RJ.mk _ _ (Nat.zero_le _))⟩
    rw [Nat.sub_zero, List.take_length, List.drop_length]
    rw [List.flatten_nil, ← empt]
    first | exact agr (by with_unfolding_all rfl) | (refine ⟨?_, ?_, trivial⟩ <;> with_unfolding_all rfl)
  · intro i t0 nl news h tk u I ito hi7 J
    apply J
    clear J
    intro t1 t2 hik hI F N
    rcases Nat.lt_or_ge i ns.length with hlt | hge
    · (refine qE1A1 (show ∃ b, ns[ns.length - i - 1]? = some b from ⟨ns[ns.length - i - 1], List.getElem?_eq_getElem (by (with_reducible exact ar45 ‹_›))⟩) fun b hb => ?_)
      have hT : ns.take (ns.length - i) = ns.take (ns.length - i - 1) ++ [b] := by
        conv => lhs; rw [show ns.length - i = ns.length - i - 1 + 1 from by (with_reducible refine ar4 ?_; lia)]
        rw [List.take_add_one, hb]; rfl
      have hD : ns.drop (ns.length - i - 1) = b :: ns.drop (ns.length - i) := by
        have hlt' : ns.length - i - 1 < ns.length := by (with_reducible exact ar45 ‹_›)
        rw [List.drop_eq_getElem_cons hlt', show ns.length - i - 1 + 1 = ns.length - i from by (with_reducible exact ar46 ‹_›)]
        rw [List.getElem?_eq_getElem hlt'] at hb
        rw [Option.some.inj hb]
      have hbN : IsName b := hN b (List.mem_of_getElem? hb)
      have hms : ∀ c ∈ ns.take (ns.length - i - 1), IsName c := fun c hc => hN c (List.mem_of_mem_take hc)
      have hne : (S (pathL (ns.take (ns.length - i))) == Str.ofString "/") = false := by
        rw [hT, slash, beq_eq_false_iff_ne]
        intro q
        have q2 := congrArg List.length (S_inj q)
        rw [pathL_snoc] at q2
        have := List.length_pos_iff.mpr hbN.1
        simp at q2
        lia
      have hpl : (pathL (ns.take (ns.length - i))).length ≤ 50 := by
        have := path_len (ns := ns.take (ns.length - i)) (fun c hc => hN c (List.mem_of_mem_take hc))
        rw [S_len, List.length_take] at this
        lia
      have hfl2 : ((ns.drop (ns.length - i)).flatten).length ≤ 6 := by
        have h6 : ns.flatten.length = 6 := by rw [hfl, digW_len]
        have := congrArg List.length (congrArg List.flatten (List.take_append_drop (ns.length - i) ns))
        rw [List.flatten_append, List.length_append] at this
        lia
      have hlen2 : (S ((ns.drop (ns.length - i)).flatten)).length ≤ 6 := by rw [S_len]; exact hfl2
      have hlen3 : (S b).length ≤ 6 := by rw [S_len]; exact hbN.2.2
      k_steps
      (rename Fr _ _ _ _ => kF)
      (rename News _ _ _ _ => kN)
      refine split_ (a := (ns.take (ns.length - i - 1)).flatMap fun n => 47 :: n) (b := b) (Frag.In.keeps (by k_asm) kF.keep) (Top.keeps (by k_asm) kF.keep) (by (first | omega | (dsimp only; omega) | (simp only [depth_deeper, depth_in1, depth_caller, Around.deeper]; omega) | (simp [Around.deeper]; omega))) hpl (by rw [hT]; exact pathL_snoc _ _) hbN.2.1 (flat_last hms) ?_
      intro h' tk' r nn t1' t2' hk' hn' hr'
      have kN := addN kF kN hk' hn' hr'
      replace kF := Fr.grow kF hk'
      rw [headOf_flat] at kN
      k_steps
      have e2 : S b ++ S ((ns.drop (ns.length - i)).flatten) = S ((ns.drop (ns.length - (i + 1))).flatten) := by
        rw [S_app, show ns.length - (i + 1) = ns.length - i - 1 from by lia, hD, List.flatten_cons]
      (rename Fr _ _ _ _ => kF2)
      rw [e2] at kF2
      exact turn_endS kF2 (by assumption) (RJ.mk _ _ (by lia)) (by
        rw [show ns.length - (i + 1) = ns.length - i - 1 from by lia]
        first | exact agr (by with_unfolding_all rfl) | (refine ⟨?_, ?_, trivial⟩ <;> with_unfolding_all rfl)) (by k_mem) (fun p hp => by cases hp)
    · have e : ns.length - i = 0 := by lia
      rw [e, List.take_zero, List.drop_zero, hfl, show S (pathL []) = Str.ofString "/" from by decide +kernel] at F
      have hlen : (S (digW 6 n.toNat)).length = 6 := by rw [S_len, digW_len]
      k_steps
      dsimp only [TurnPost]
      k_steps
      exact KIN.call_text (int_digW hn0 hn1) (by rw [hlen]; decide) (hQ _ _ _ (Fr.keep (by assumption)))
  · intro nl news h tk u J
    apply J
    clear J
    intro t1 t2 hik F N
    lia
end
end
-- R9
section
set_option maxRecDepth 100000
set_option maxHeartbeats 1000000
noncomputable def SubL : List (Addr × Obj) → List (Addr × Obj) → Prop
  | [], _ => True
  | p :: r, big => p ∈ big ∧ SubL r big
theorem SubL.news {h₀ h : Heap} {L : Addr} {big l : List (Addr × Obj)} (hs : SubL l big) (N : News h₀ L h big) : News h₀ L h l := by
  induction l with
  | nil => exact News.nil
  | cons q r ih =>
    intro p hp
    rcases List.mem_cons.mp hp with e | hp
    · rw [e]; exact N _ hs.1
    · exact ih hs.2 p hp
theorem subI {big : List (Addr × Obj)} : ∀ {l : List (Addr × Obj)} (ix : List Nat), ix.map (fun i => big[i]?) = l.map some → SubL l big
  | [], _, _ => trivial
  | _ :: _, [], h => nomatch h
  | _ :: _, _ :: r, h => ⟨List.mem_of_getElem? (List.cons.inj h).1, subI r (List.cons.inj h).2⟩
theorem toLocs {g h : Heap} {L : Addr} {m : Str → Option Value} {nl : List (Str × Value)} (F : Fr g L h m) (ag : Agree nl m) : Fr g L h (locsOf nl m) := by rw [locsOf_agree ag]; exact F
noncomputable def SubI (I : Addr) : List (Addr × Obj) → List (Addr × Obj) → Prop
  | [], _ => True
  | p :: r, big => p ∈ big ∧ @Ne Nat p.1 I ∧ SubI I r big
theorem SubI.all {I : Addr} {big : List (Addr × Obj)} {l : List (Addr × Obj)} (h : SubI I l big) : ∀ p ∈ l, p ∈ big ∧ p.1 ≠ I := by
  induction l with
  | nil => intro p hp; cases hp
  | cons q r ih =>
    intro p hp
    rcases List.mem_cons.mp hp with e | hp
    · rw [e]; exact ⟨h.1, h.2.1⟩
    · exact ih h.2.2 p hp
theorem neOf {I : Addr} {l : List (Addr × Obj)} (h : ∀ p ∈ l, p.1 ≠ I) : AllNe I l := by
  induction l with
  | nil => trivial
  | cons p r ih => exact ⟨h p List.mem_cons_self, ih fun q hq => h q (List.mem_cons_of_mem _ hq)⟩
noncomputable def StartJ (m : Str → Option Value) (big : List (Addr × Obj)) (J0 : List (Str × Value) → List (Addr × Obj) → Prop) : Prop := ∀ P : Prop, (∀ nl news, Agree nl m → SubL news big → J0 nl news → P) → P
theorem StartJ.mk {m : Str → Option Value} {big news : List (Addr × Obj)} {nl : List (Str × Value)} {J0 : List (Str × Value) → List (Addr × Obj) → Prop} (ag : Agree nl m) (sb : SubL news big) (hj : J0 nl news) : StartJ m big J0 := fun _ k => k nl news ag sb hj
theorem turnE {h₀ h' : Heap} {L I : Addr} {ito : Obj} {Jn : List (Str × Value) → List (Addr × Obj) → Prop} {s₁ : Shared} {m' : Str → Option Value} {nl' : List (Str × Value)} {big news' : List (Addr × Obj)} {tk : Nat}
    (F : Fr h₀ L h' m') (N : News h₀ L h' big) (hj : Jn nl' news') (ag : Agree nl' m') (hI : (I, ito) ∈ big) (hsub : SubI I news' big) : TurnEnd h₀ L I ito Jn s₁ { s₁ with heap := h', toks := tk } :=
  turn_endS F N hj ag hI hsub.all
theorem wE {h₀ h' : Heap} {L : Addr} {J : Nat → List (Str × Value) → List (Addr × Obj) → Prop} {n n' : Nat} {s : Shared} {m' : Str → Option Value} {nl' : List (Str × Value)} {big news' : List (Addr × Obj)} {tk : Nat}
    (F : Fr h₀ L h' m') (N : News h₀ L h' big) (hn : n' < n) (hj : J n' nl' news') (ag : Agree nl' m') (hsub : SubL news' big) : WEnd h₀ L J n s { s with heap := h', toks := tk } :=
  ⟨n', hn, h', tk, m', nl', news', rfl, F, ag, hsub.news N, hj⟩
section
variable {prog : Program} {w : World} {A : Around} {E : Value → Shared → Prop} {s : Shared} {env : Env} {h₀ : Heap} {x : Str} {body : List Stmt} {Q : Flow → Shared → Prop}
  {l : Addr} {vs : List Value} {m : Str → Option Value} {big : List (Addr × Obj)} (J : Nat → List (Str × Value) → List (Addr × Obj) → Prop)
theorem forLN {o : Obj} (hh : A.handled = none) (hc : o.cls = .type "list") (k : Nat) (hd : o.data = .seq vs.toArray k) (hsrc : ∀ i nl news, J i nl news → (l, o) ∈ news)
    (F : Fr h₀ env.locals s.heap m) (N : News h₀ env.locals s.heap big) (start : StartJ m big (J 0))
    (turn : ∀ i v nl news h tk u I ito, vs[i]? = some v → J i nl news → AllNe I news → Fr h₀ env.locals h (fun y => if y = x then some v else locsOf nl u y) → News h₀ env.locals h ((I, ito) :: news) →
      wpAny (model prog w) A (execs body env) (TurnPost h₀ env.locals I ito (J (i + 1)) { s with heap := h, toks := tk } Q) E { s with heap := h, toks := tk })
    (done : ∀ nl news h tk u, J vs.length nl news → Fr h₀ env.locals h (locsOf nl u) → News h₀ env.locals h news → Q .next { s with heap := h, toks := tk }) :
    wpAny (model prog w) A (pyIter (.ref l)) (fun it s₂ => LoopAtV prog w A h₀ env x body Q E it s₂) E s := by
  refine start _ fun nl news ha hs hj => ?_
  exact for_listN J hh hc k hd hsrc F (hs.news N) ⟨nl, ha, hj⟩ (fun i v nl news h tk u I ito a b c => turn i v nl news h tk u I ito a b (neOf c)) done
theorem forLI {ns : List Int} (k : Nat) (J : Addr → List Value → List Int → Nat → List (Str × Value) → List (Addr × Obj) → Prop) (hi : IntsAre vs ns) (hh : A.handled = none) (hsrc : ∀ i nl news, J l vs ns i nl news → (l, listOf vs.toArray k) ∈ news)
    (F : Fr h₀ env.locals s.heap m) (N : News h₀ env.locals s.heap big) (start : StartJ m big (J l vs ns 0))
    (turn : ∀ i q t nl news h tk u I ito, ns[i]? = some q → J l vs ns i nl news → AllNe I news → Fr h₀ env.locals h (fun y => if y = x then some (.int q t) else locsOf nl u y) → News h₀ env.locals h ((I, ito) :: news) →
      wpAny (model prog w) A (execs body env) (TurnPost h₀ env.locals I ito (J l vs ns (i + 1)) { s with heap := h, toks := tk } Q) E { s with heap := h, toks := tk })
    (done : ∀ nl news h tk u, J l vs ns ns.length nl news → Fr h₀ env.locals h (locsOf nl u) → News h₀ env.locals h news → Q .next { s with heap := h, toks := tk }) :
    wpAny (model prog w) A (pyIter (.ref l)) (fun it s₂ => LoopAtV prog w A h₀ env x body Q E it s₂) E s := by
  refine forLN (J l vs ns) hh rfl k rfl hsrc F N start (fun i v nl news h tk u I ito hv hj hn F N => ?_) (by rw [hi.length]; exact done)
  (refine qE2A2 (ints_item hi hv) fun q t zqr2 hq => ?_; subst zqr2)
  exact turn i q t nl news h tk u I ito hq hj hn F N
theorem forLI0 {ns : List Int} (J : Addr → List Value → List Int → Nat → List (Str × Value) → List (Addr × Obj) → Prop) (hl : h₀.IsList l vs.toArray) (hi : IntsAre vs ns) (hh : A.handled = none)
    (F : Fr h₀ env.locals s.heap m) (N : News h₀ env.locals s.heap big) (start : StartJ m big (J l vs ns 0))
    (turn : ∀ i q t nl news h tk u I ito, ns[i]? = some q → J l vs ns i nl news → AllNe I news → Fr h₀ env.locals h (fun y => if y = x then some (.int q t) else locsOf nl u y) → News h₀ env.locals h ((I, ito) :: news) →
      wpAny (model prog w) A (execs body env) (TurnPost h₀ env.locals I ito (J l vs ns (i + 1)) { s with heap := h, toks := tk } Q) E { s with heap := h, toks := tk })
    (done : ∀ nl news h tk u, J l vs ns ns.length nl news → Fr h₀ env.locals h (locsOf nl u) → News h₀ env.locals h news → Q .next { s with heap := h, toks := tk }) :
    wpAny (model prog w) A (pyIter (.ref l)) (fun it s₂ => LoopAtV prog w A h₀ env x body Q E it s₂) E s := by
  refine start _ fun nl news ha hs hj => ?_
  refine for_list0 (J l vs ns) hh hl F (hs.news N) ⟨nl, ha, hj⟩ (fun i v nl news h tk u I ito hv hj hn F N => ?_) (by rw [hi.length]; exact done)
  (refine qE2A2 (ints_item hi hv) fun q t zqr2 hq => ?_; subst zqr2)
  exact turn i q t nl news h tk u I ito hq hj (neOf hn) F N
theorem forL0 (hh : A.handled = none) (hl : h₀.IsList l vs.toArray)
    (F : Fr h₀ env.locals s.heap m) (N : News h₀ env.locals s.heap big) (start : StartJ m big (J 0))
    (turn : ∀ i v nl news h tk u I ito, vs[i]? = some v → J i nl news → AllNe I news → Fr h₀ env.locals h (fun y => if y = x then some v else locsOf nl u y) → News h₀ env.locals h ((I, ito) :: news) →
      wpAny (model prog w) A (execs body env) (TurnPost h₀ env.locals I ito (J (i + 1)) { s with heap := h, toks := tk } Q) E { s with heap := h, toks := tk })
    (done : ∀ nl news h tk u, J vs.length nl news → Fr h₀ env.locals h (locsOf nl u) → News h₀ env.locals h news → Q .next { s with heap := h, toks := tk }) :
    wpAny (model prog w) A (pyIter (.ref l)) (fun it s₂ => LoopAtV prog w A h₀ env x body Q E it s₂) E s := by
  refine start _ fun nl news ha hs hj => ?_
  exact for_list0 J hh hl F (hs.news N) ⟨nl, ha, hj⟩ (fun i v nl news h tk u I ito a b c => turn i v nl news h tk u I ito a b (neOf c)) done
theorem forR {a b : Int} {t u v : Tok} {n : Nat} (hh : A.handled = none) (hr : IsRange s.heap l a b 1 t u v) (hsm : Builtin.Range.small a b 1 = true) (hn : Builtin.Range.rangeSize a b 1 = (n : Int))
    (F : Fr h₀ env.locals s.heap m) (N : News h₀ env.locals s.heap big) (start : StartJ m big (J 0))
    (turn : ∀ i t nl news h tk u I ito, i < n → J i nl news → AllNe I news → Fr h₀ env.locals h (fun y => if y = x then some (.int (a + (i : Int)) t) else locsOf nl u y) → News h₀ env.locals h ((I, ito) :: news) →
      wpAny (model prog w) A (execs body env) (TurnPost h₀ env.locals I ito (J (i + 1)) { s with heap := h, toks := tk } Q) E { s with heap := h, toks := tk })
    (done : ∀ nl news h tk u, J n nl news → Fr h₀ env.locals h (locsOf nl u) → News h₀ env.locals h news → Q .next { s with heap := h, toks := tk }) :
    wpAny (model prog w) A (pyIter (.ref l)) (fun it s₂ => LoopAtV prog w A h₀ env x body Q E it s₂) E s := by
  refine start _ fun nl news ha hs hj => ?_
  exact for_range J hh hr hsm hn F (hs.news N) ⟨nl, ha, hj⟩ (fun i t nl news h tk u I ito a b c => turn i t nl news h tk u I ito a b (neOf c)) done
theorem whileR {test : Expr} {pos : Pos} (n₀ : Nat)
    (F : Fr h₀ env.locals s.heap m) (N : News h₀ env.locals s.heap big) (start : StartJ m big (J n₀))
    (turn : ∀ n nl news h tk u, J n nl news → Fr h₀ env.locals h (locsOf nl u) → News h₀ env.locals h news →
      wpAny (model prog w) A (isTrue test env (eval test env)) (fun b s₂ => if b = true then wpAny (model prog w) A (execs body env) (WPost h₀ env.locals J n s Q) E s₂ else Q .next s₂) E { s with heap := h, toks := tk })
    (hE : PassesOwn (model prog w) A env E) :
    wpAny (model prog w) A (exec (.While test body [] pos) env) Q E s := by
  refine start _ fun nl news ha hs hj => ?_
  exact while_rule J n₀ F (hs.news N) ⟨nl, ha, hj⟩ turn hE
end
end
-- R21
section
set_option maxRecDepth 100000
set_option maxHeartbeats 1000000
noncomputable def AfterV (h₀ : Heap) (L : Addr) (nl : List (Str × Value)) (news : List (Addr × Obj)) (V : Value → Prop) (s : Shared) (v : Value) (s' : Shared) : Prop :=
  V v ∧ ∃ h' tk m, s' = { s with heap := h', toks := tk } ∧ Fr h₀ L h' m ∧ Agree nl m ∧ News h₀ L h' news
theorem afterV {M : Model} {A : Around} {x : Sem Value} {Q E : Value → Shared → Prop} {s₁ : Shared} (s : Shared) {h₀ : Heap} {L : Addr} (nl : List (Str × Value)) (news : List (Addr × Obj)) (V : Value → Prop) {m₁ : Str → Option Value} {big₁ : List (Addr × Obj)} (_ : Fr h₀ L s₁.heap m₁) (_ : News h₀ L s₁.heap big₁) (_ : Agree nl m₁) (_ : SubL news big₁)
    (w : wpAny M A x (AfterV h₀ L nl news V s) E s₁) (h : ∀ v h' tk u, V v → Fr h₀ L h' (locsOf nl u) → News h₀ L h' news → Q v { s with heap := h', toks := tk }) : wpAny M A x Q E s₁ :=
  wpAny_mono w (fun v s' p => by
    obtain ⟨hv, h', tk, m, rfl, F, ag, N⟩ := p
    exact h v h' tk m hv (by rw [locsOf_agree ag]; exact F) N) fun _ _ e => e
theorem afterVE {s s' : Shared} {h₀ : Heap} {L : Addr} {m : Str → Option Value} {big : List (Addr × Obj)} {nl : List (Str × Value)} {news : List (Addr × Obj)} {V : Value → Prop} {v : Value}
    (F : Fr h₀ L s'.heap m) (N : News h₀ L s'.heap big) (hv : V v) (ha : Agree nl m) (hs : SubL news big) (hg : s' = { s with heap := s'.heap, toks := s'.toks }) : AfterV h₀ L nl news V s v s' :=
  ⟨hv, s'.heap, s'.toks, m, hg, F, ha, hs.news N⟩
theorem SubL.of {big : List (Addr × Obj)} : ∀ {l : List (Addr × Obj)}, (∀ p ∈ l, p ∈ big) → SubL l big
  | [], _ => trivial
  | _ :: _, h => ⟨h _ List.mem_cons_self, SubL.of fun p hp => h p (List.mem_cons_of_mem _ hp)⟩
theorem SubL.refl (l : List (Addr × Obj)) : SubL l l := SubL.of fun _ h => h
theorem SubL.mem {big : List (Addr × Obj)} : ∀ {l : List (Addr × Obj)}, SubL l big → ∀ p ∈ l, p ∈ big
  | [], _, _, h => nomatch h
  | _ :: _, h, p, hp => by
    rcases List.mem_cons.mp hp with e | e
    · rw [e]; exact h.1
    · exact h.2.mem p e
theorem SubL.cons {l big : List (Addr × Obj)} {q : Addr × Obj} (h : SubL l big) : SubL l (q :: big) := SubL.of fun p hp => List.mem_cons_of_mem _ (h.mem p hp)
noncomputable def AfterU (h₀ : Heap) (L : Addr) (m₁ : Str → Option Value) (big₁ : List (Addr × Obj)) (V : Value → Prop) (s : Shared) (v : Value) (s' : Shared) : Prop :=
  V v ∧ s' = { s with heap := s'.heap, toks := s'.toks } ∧ Fr h₀ L s'.heap m₁ ∧ News h₀ L s'.heap big₁
theorem afterU {M : Model} {A : Around} {x : Sem Value} {Q E : Value → Shared → Prop} {s₁ : Shared} (s : Shared) {h₀ : Heap} {L : Addr} (V : Value → Prop) {m₁ : Str → Option Value} {big₁ : List (Addr × Obj)} (_ : Fr h₀ L s₁.heap m₁) (_ : News h₀ L s₁.heap big₁)
    (w : wpAny M A x (AfterU h₀ L m₁ big₁ V s) E s₁) (h : ∀ v h' tk, V v → Fr h₀ L h' m₁ → News h₀ L h' big₁ → Q v { s with heap := h', toks := tk }) : wpAny M A x Q E s₁ :=
  wpAny_mono w (fun v s' p => by rw [p.2.1]; exact h v _ _ p.1 p.2.2.1 p.2.2.2) fun _ _ e => e
theorem afterUE {s s' : Shared} {h₀ : Heap} {L : Addr} {m₁ : Str → Option Value} {big big₁ : List (Addr × Obj)} {V : Value → Prop} {v : Value}
    (F : Fr h₀ L s'.heap m₁) (N : News h₀ L s'.heap big) (hv : V v) (hs : SubL big₁ big) (hg : s' = { s with heap := s'.heap, toks := s'.toks }) : AfterU h₀ L m₁ big₁ V s v s' :=
  ⟨hv, hg, F, hs.news N⟩
end
-- C6
section
set_option maxRecDepth 100000
set_option maxHeartbeats 1000000
section
variable {w : World} {d u : Nat} {f : Option (List Env)} {g : Option (List Code)} {s : Shared} {E Q : Value → Shared → Prop} {mean : ExcName → Option Value} {mg mb : Str → Option Value}


noncomputable def widL : List Int → Int → List Int → List Int
  | [], _, ws => ws
  | k :: r, left, ws => if left > 0 then widL r (left - (if left < k then left else k)) ((if left < k then left else k) :: ws) else widL r left ws
noncomputable def EndIs (vs2 : List Value) (c : Bool) : Prop := (∃ a b, vs2 = [.int 0 a, .int 5 b] ∧ c = true) ∨ (∃ a b, vs2 = [.int 127 a, .int 5 b] ∧ c = false) ∨ (vs2 = [] ∧ c = false)
noncomputable def WJ (l l2 D : Addr) (ds : List Value) (all : List Int) (i : Nat) (nl : List (Str × Value)) (news : List (Addr × Obj)) : Prop :=
  ∀ P : List (Str × Value) → List (Addr × Obj) → Prop, (∀ wa k vals ws left tl, IntsAre vals ws → widL (all.drop i) left ws = widL all 6 [] → vals.length ≤ i → P ([("widths", .ref wa), ("left", .int left tl), ("sizes", .ref l), ("end", .ref l2)] : List (Str × Value)) [(wa, listOf (List.toArray vals) k), (D, listOf (List.toArray ds) 0)]) → P nl news
theorem widths_ {l l2 : Addr} {vs vs2 : List Value} {ns : List Int} {q : Int} {c : Bool} (X : (Mine.hd.heap_39 w.params).In s.heap) (T : Top Mine.hd.view_39 (looseW Mine.hd.view_39 []) mean mg mb s.heap) (hA2 : d < 370) (hA3 : u < 2960)
  (hl : s.heap.IsList l vs.toArray) (hi : IntsAre vs ns) (hl2 : s.heap.IsList l2 vs2.toArray) (he : EndIs vs2 c) (hn : ns.getLast? = some q) (hn3 : ns.length ≤ 3) (hn1 : 1 ≤ ns.length) (hv1 : vs.length ≤ 3) (hsz : ∀ i ∈ ns, 1 ≤ i ∧ i ≤ 3)
  (hQ : ∀ h' tk r vs' n, Keeps s.heap h' → s.heap.get? r = none → h'.get? r = some (listOf (List.toArray vs') n) → IntsAre vs' (widL (ns ++ List.replicate 6 (if c then q else 6)) 6 []) → Q (.ref r) {s with heap := h', toks := tk}) :
  wpAny (model Challenge.rw_pd0146_01.row.prog w) (Around.mk none d f g u) (call (.ref 202) [.ref l, .ref l2]) Q E s := by
  refine' enterC (binds := [("sizes", .ref l), ("end", .ref l2)]) X T.nolimit ?k6 ?k7 (Nat.lt_trans hA2 (by decide)) (BindsTo.of_eq ?k8) ?k9 ?_ ?c1 ?c2 ?c3 ?c4
  (((case k6 => k_is); (case k7 => k_is); (case k8 => rfl); (case k9 => exact locs (by rfl)); (case c1 => rfl); (case c2 => rfl); (case c3 => rfl); (case c4 => decide)))
  intro h₁ L' F N
  refine wpAny_noRaise ?_
  (repeat' ((fail_if_success ((with_reducible show wpAny _ _ (eval (PySem.Expr.IfExp _ _ _ _) _) _ _ _))); first | (k_unfold; (try dsimp only)) | (k_end; kc_close) | ((with_reducible show wpAny _ _ (exec (PySem.Stmt.For (PySem.Expr.Name _ _) (PySem.Expr.BinOp _ _ _ _) (_ :: _) [] _) _) _ _ _); ((k_here; (rename Fr _ _ _ _ => zhlFq); (with_unfolding_all refine' For_stop zhlFq (by exact rfl) (by exact rfl) ?_ (by intro _; rfl) (by passes_own); k_whole)))) | walk1 | (dsimp only; walk1) | (leave1; (try dsimp only))))
  (rename Fr _ _ _ _ => kF)
  (rename News _ _ _ _ => kN)
  refine afterV s [("left", .int 6 _), ("widths", .ref _), ("sizes", .ref l), ("end", .ref l2)] [(_, listOf #[] 0)] (fun v => ∃ t, v = .int (if c then q else 6) t) kF kN (by first | exact agr (by with_unfolding_all rfl) | (refine ⟨?_, ?_, ?_, ?_, trivial⟩ <;> with_unfolding_all rfl)) (by first | exact subI [0] rfl | exact subI [1] rfl | exact subI [2] rfl | exact subI [3] rfl | exact ⟨by k_mem, trivial⟩) ?A1 ?A2
  case A1 =>
    have hqq : ns.getD (-1 + (ns.length : Int)).toNat 0 = q := by
      rw [List.getLast?_eq_getElem?] at hn
      rw [List.getD_eq_getElem?_getD, show (-1 + (ns.length : Int)).toNat = ns.length - 1 from by (exact ar21), hn]
      rfl
    rcases he with ⟨a, b, rfl, rfl⟩ | ⟨a, b, rfl, rfl⟩ | ⟨rfl, rfl⟩
    all_goals k_steps
    all_goals exact afterVE (by assumption) (by assumption) ⟨_, by first | rfl | (rw [hqq]; rfl)⟩ (by first | exact agr (by with_unfolding_all rfl) | (refine ⟨?_, ?_, ?_, ?_, trivial⟩ <;> with_unfolding_all rfl)) (by first | exact subI [0] rfl | exact subI [1] rfl | exact subI [2] rfl | exact subI [3] rfl | exact ⟨by k_mem, trivial⟩) rfl
  case A2 =>
    clear kF kN
    (intro v h tk u; intro zqi; refine qE1A1 zqi fun t zqr1 => ?_; clear zqi; subst zqr1; intro F N)
    k_steps
    (rename Fr _ _ _ _ => kF)
    (rename News _ _ _ _ => kN)
    (rename IntsAre _ (_ ++ _) => hW)
    unfold Stop
    refine forLI 0 (WJ l l2) hW rfl ?_ kF kN ?_ ?_ ?_
    · intro i nl news J; apply J; intros; k_mem
    · exact StartJ.mk (by first | exact agr (by with_unfolding_all rfl) | (refine ⟨?_, ?_, ?_, ?_, trivial⟩ <;> with_unfolding_all rfl)) (by first | exact subI [0, 1] rfl | exact subI [1, 2] rfl | exact subI [2, 3] rfl | exact subI [3, 4] rfl | exact ⟨by k_mem, by k_mem, trivial⟩) (fun _ k => k _ _ ([]) ([]) _ _ IntsAre.nil rfl (Nat.le_refl _))
    · intro i k t nl news h tk u I ito hk J
      apply J
      clear J
      intro wa kk vals ws left tl hI2 hwl hvl hne F N
      have hilt := (List.getElem?_eq_some_iff.mp hk).1
      have hlen9 := hW.length
      have hdrop := List.drop_eq_getElem_cons hilt
      have hkk := (List.getElem?_eq_some_iff.mp hk).2
      rw [hdrop, hkk, widL] at hwl
      simp only [AllNe, and_true] at hne
      have hi9 : i < 9 := by simp at hilt; lia
      by_cases h0 : left > 0
      · rw [if_pos h0] at hwl
        (repeat' ((fail_if_success ((with_reducible show wpAny _ _ (binaryOp _ (Value.ref _) (Value.ref _)) _ _ _))); first | (k_unfold; (try dsimp only)) | (k_end; kc_close) | walk1 | (dsimp only; walk1) | (leave1; (try dsimp only))))
        k_dflt (refine' kmk_add_lit ?adF ?adN ?ada ?adb ?ade ?_ ?adz; (case adF => k_asm); (case adN => k_asm); (case ada => kmk_list); (case adb => kmk_list); (case ade => exact rfl); (case adz => (((try simp only [sizeLine_eq, List.length_cons, List.length_nil, List.length_append, List.length_replicate, List.length_map, Array.length_toList, List.size_toArray]); omega))); k_whole)
        intro l' h' F' N' l1
        (try k_lt l1)
        (try k_sweep)
        k_steps
        exact turnE (by assumption) (by assumption) (fun _ k => k _ _ (_ :: vals) _ _ _ (IntsAre.cons _ _ (by assumption)) hwl (by rw [List.length_cons]; lia)) (by first | exact agr (by with_unfolding_all rfl) | (refine ⟨?_, ?_, ?_, ?_, trivial⟩ <;> with_unfolding_all rfl)) (by k_mem)
          (by exact ⟨by k_mem, by k_ne, by k_mem, by k_ne, trivial⟩)
      · rw [if_neg h0] at hwl
        k_steps
        exact turnE (by assumption) (by assumption) (fun _ k => k _ _ vals _ _ _ (by assumption) hwl (by lia)) (by first | exact agr (by with_unfolding_all rfl) | (refine ⟨?_, ?_, ?_, ?_, trivial⟩ <;> with_unfolding_all rfl)) (by k_mem)
          (by exact ⟨by k_mem, by k_ne, by k_mem, by k_ne, trivial⟩)
    · intro nl news h tk u J
      apply J
      clear J
      intro wa kk vals ws left tl hI2 hwl hvl F N
      rw [List.drop_length, widL] at hwl
      k_steps
      refine hQ _ _ _ vals _ (Fr.keep (by assumption)) (News.fresh (by assumption) (by k_mem)) (News.get (by assumption) (by k_mem)) ?_
      have hV : IntsAre vals ws := by assumption
      rw [hwl] at hV
      exact hV
end
end
-- R10
section
set_option maxRecDepth 100000
set_option maxHeartbeats 1000000
section
variable {prog : Program} {w : World} {A : Around} {E : Value → Shared → Prop} {s : Shared} {Q : Value → Shared → Prop} {t u : Tok}
theorem fdiv_pow {n : Int} {k : Nat} (hk : k ≤ 6) (h0 : 0 ≤ n) (h1 : n < 1000000) (h : ∀ m : Int, m = ((n.toNat / 10 ^ k : Nat) : Int) → 0 ≤ m → m < 1000000 → Q (.int m s.toks) { s with toks := s.toks + 1 }) :
    wpAny (model prog w) A (binaryOp .FloorDiv (.int n t) (.int (10 ^ k) u)) Q E s := by
  have hp : (0 : Int) < 10 ^ k := Int.pow_pos (by decide)
  have hb : (10 : Int) ^ k ≤ 1000000 := by
    have := Nat.pow_le_pow_right (n := 10) (by decide) hk
    have h2 : ((10 ^ k : Nat) : Int) ≤ ((10 ^ 6 : Nat) : Int) := by exact_mod_cast this
    rw [Int.natCast_pow] at h2
    exact h2
  refine floordiv_int (by lia) ?_ (Or.inl (PyProof.noPylong_small (by lia)))
  have e : n.fdiv (10 ^ k) = ((n.toNat / 10 ^ k : Nat) : Int) := by
    rw [Int.fdiv_eq_ediv_of_nonneg _ (by lia), Int.natCast_ediv, Int.natCast_pow, Int.toNat_of_nonneg h0]
    rfl
  refine h _ e ?_ ?_
  · rw [e]; exact Int.natCast_nonneg _
  · rw [e]
    have := Nat.div_le_self n.toNat (10 ^ k)
    lia
theorem fmod_pow {m : Int} {k : Nat} (h0 : 0 ≤ m) (h : ∀ r : Int, r = ((m.toNat % 10 ^ k : Nat) : Int) → 0 ≤ r → r ≤ m → Q (.int r s.toks) { s with toks := s.toks + 1 }) :
    wpAny (model prog w) A (binaryOp .Mod (.int m t) (.int (10 ^ k) u)) Q E s := by
  have hp : (0 : Int) < 10 ^ k := Int.pow_pos (by decide)
  refine mod_int' (by lia) ?_
  have e : m.fmod (10 ^ k) = ((m.toNat % 10 ^ k : Nat) : Int) := by
    rw [Int.fmod_eq_emod_of_nonneg _ (by lia), Int.natCast_emod, Int.natCast_pow, Int.toNat_of_nonneg h0]
    rfl
  refine h _ e ?_ ?_
  · rw [e]; exact Int.natCast_nonneg _
  · rw [e]
    have := Nat.mod_le m.toNat (10 ^ k)
    lia
end
end
-- C7
section
set_option maxRecDepth 100000
set_option maxHeartbeats 1000000
section
variable {w : World} {d u : Nat} {f : Option (List Env)} {g : Option (List Code)} {s : Shared} {E Q : Value → Shared → Prop} {mean : ExcName → Option Value} {mg mb : Str → Option Value}


noncomputable def chunks : List Int → Int → Nat → List (List Nat)
  | [], _, _ => []
  | w :: r, low, n => digW w.toNat (n / 10 ^ (low - w).toNat) :: chunks r (low - w) n
theorem sum_nn : ∀ {l : List Int}, (∀ x ∈ l, 1 ≤ x ∧ x ≤ 6) → 0 ≤ l.sum
  | [], _ => by simp
  | a :: r, h => by
    have h1 := h a List.mem_cons_self
    have h2 := sum_nn fun x hx => h x (List.mem_cons_of_mem _ hx)
    rw [List.sum_cons]; lia
theorem sum_td (l : List Int) (i : Nat) : l.sum = (l.take i).sum + (l.drop i).sum := by
  rw [← List.sum_append_int, List.take_append_drop]
theorem digW_mod : ∀ (w m : Nat), digW w (m % 10 ^ w) = digW w m
  | 0, _ => rfl
  | w + 1, m => by
    unfold digW
    rw [Nat.pow_succ, Nat.mul_comm (10 ^ w) 10, Nat.mod_mul_right_div_self, digW_mod w (m / 10), Nat.mod_mul_right_mod]
theorem folder_step {fl : List Nat} {q m : Int} (hq : 1 ≤ q) (h0 : 0 ≤ m) (h1 : m < 10 ^ q.toNat) :
    S fl ++ Str.ofString "/" ++ Txt.mul (Str.ofString "0") (q - ((Str.ofString (toString m)).length : Int)) ++ Str.ofString (toString m) = S (fl ++ 47 :: digW q.toNat m.toNat) := by
  (refine qE1A1 (show ∃ k, q.toNat = k + 1 from ⟨q.toNat - 1, by lia⟩) fun k hk => ?_)
  have e := padW (w := k) h0 (by rw [← hk]; exact h1)
  have hq2 : ((k + 1 : Nat) : Int) = q := by lia
  rw [hq2] at e
  rw [Str.append_assoc, e, slash, S_app, S_app, hk]
  simp
theorem path_flat {cs : List (List Nat)} {fl : List Nat} (h : fl = cs.flatMap fun b => 47 :: b) : (fl ≠ [] → S (pathL cs) = S fl) ∧ (fl = [] → S (pathL cs) = Str.ofString "/") := by
  cases cs with
  | nil =>
    have e : fl = [] := by rw [h]; rfl
    exact ⟨fun q => absurd e q, fun _ => by decide +kernel⟩
  | cons a r =>
    refine ⟨fun _ => ?_, fun q => ?_⟩
    · rw [h]; simp [pathL]
    · rw [q] at h; simp at h
noncomputable def FJ (n c : Int) (t tc : Tok) (l D : Addr) (ds : List Value) (ws : List Int) (i : Nat) (nl : List (Str × Value)) (news : List (Addr × Obj)) : Prop :=
  ∀ P : List (Str × Value) → List (Addr × Obj) → Prop, (∀ t1 t2 low fl, low = (ws.drop i).sum + (6 - ws.sum) → fl ++ ((chunks (ws.drop i) low n.toNat).flatMap fun b => 47 :: b) = ((chunks ws 6 n.toNat).flatMap fun b => 47 :: b) → fl.length ≤ 7 * i → P ([("folder", .str (S fl) t1), ("low", .int low t2), ("widths", .ref l), ("number", .int n t), ("count", .int c tc)] : List (Str × Value)) [(D, listOf (List.toArray ds) 0)]) → P nl news
theorem folder_ {l : Addr} {vs : List Value} {ns : List Int} {n c : Int} {t tc : Tok} (X : (Mine.hd.heap_39 w.params).In s.heap) (T : Top Mine.hd.view_39 (looseW Mine.hd.view_39 []) mean mg mb s.heap) (hA2 : d < 370)
  (hl : s.heap.IsList l vs.toArray) (hi : IntsAre vs ns) (hn0 : 0 ≤ n) (hn1 : n < 1000000) (hc0 : 0 ≤ c) (hc6 : c ≤ 6) (hv1 : vs.length ≤ 6) (hv2 : ns.length ≤ 6) (hw : ∀ i ∈ ns, 1 ≤ i ∧ i ≤ 6) (hsum : ns.sum = 6)
  (hQ : ∀ h' tk t, Keeps s.heap h' → Q (.str (S (pathL (chunks (ns.take c.toNat) 6 n.toNat))) t) {s with heap := h', toks := tk}) :
  wpAny (model Challenge.rw_pd0146_01.row.prog w) (Around.mk none d f g u) (call (.ref 209) [.ref l, .int n t, .int c tc]) Q E s := by
  refine' enterC (binds := [("widths", .ref l), ("number", .int n t), ("count", .int c tc)]) X T.nolimit ?k6 ?k7 (Nat.lt_trans hA2 (by decide)) (BindsTo.of_eq ?k8) ?k9 ?_ ?c1 ?c2 ?c3 ?c4
  (((case k6 => k_is); (case k7 => k_is); (case k8 => rfl); (case k9 => exact locs (by rfl)); (case c1 => rfl); (case c2 => rfl); (case c3 => rfl); (case c4 => decide)))
  intro h₁ L' F N
  refine wpAny_noRaise ?_
  (repeat' (first | (k_unfold; (try dsimp only)) | (k_end; kc_close) | ((with_reducible show wpAny _ _ (exec (PySem.Stmt.For (PySem.Expr.Name _ _) (PySem.Expr.Subscript _ _ _) (_ :: _) [] _) _) _ _ _); ((k_here; (rename Fr _ _ _ _ => zhlFq); (with_unfolding_all refine' For_stop zhlFq (by exact rfl) (by exact rfl) ?_ (by intro _; rfl) (by passes_own); k_whole)))) | walk1 | (dsimp only; walk1) | (leave1; (try dsimp only))))
  (rename Fr _ _ _ _ => kF)
  (rename News _ _ _ _ => kN)
  (rename IntsAre _ (List.take _ _) => hW)
  unfold Stop
  refine forLI 0 (FJ n c t tc l) hW rfl ?_ kF kN ?_ ?_ ?_
  · intro i nl news J; apply J; intros; k_mem
  · rw [empt] at kF
    exact StartJ.mk (by first | exact agr (by with_unfolding_all rfl) | (refine ⟨?_, ?_, ?_, ?_, ?_, trivial⟩ <;> with_unfolding_all rfl)) (by first | exact subI [0] rfl | exact subI [1] rfl | exact subI [2] rfl | exact subI [3] rfl | exact ⟨by k_mem, trivial⟩) (fun _ k => k _ _ _ ([]) (by rw [List.drop_zero]; lia) rfl (by simp))
  · intro i q tq nl news h tk u I ito hq J
    apply J
    clear J
    intro t1 t2 low fl hlow hfl hfll hne F N
    have hilt := (List.getElem?_eq_some_iff.mp hq).1
    have hi6 : i < 6 := by rw [List.length_take] at hilt; lia
    have hq1 : 1 ≤ q ∧ q ≤ 6 := hw q (List.mem_of_mem_take (List.mem_of_getElem? hq))
    have hdrop := List.drop_eq_getElem_cons hilt
    rw [(List.getElem?_eq_some_iff.mp hq).2] at hdrop
    simp only [AllNe, and_true] at hne
    have hwt : ∀ x ∈ ns.take c.toNat, 1 ≤ x ∧ x ≤ 6 := fun x hx => hw x (List.mem_of_mem_take hx)
    have hs1 := sum_td ns c.toNat
    have hs2 := sum_nn (l := ns.drop c.toNat) fun x hx => hw x (List.mem_of_mem_drop hx)
    have hs3 := sum_td (ns.take c.toNat) i
    have hs4 := sum_nn (l := (ns.take c.toNat).take i) fun x hx => hwt x (List.mem_of_mem_take hx)
    have hs5 := sum_nn (l := (ns.take c.toNat).drop (i + 1)) fun x hx => hwt x (List.mem_of_mem_drop hx)
    have hs6 : ((ns.take c.toNat).drop i).sum = q + ((ns.take c.toNat).drop (i + 1)).sum := by rw [hdrop, List.sum_cons]
    have hlow0 : 0 ≤ low - q := by lia
    have hlow6 : low ≤ 6 := by lia
    have hflS : (S fl).length ≤ 42 := by rw [S_len]; lia
    (repeat' (first | (k_unfold; (try dsimp only)) | (k_end; kc_close) | (k_here; (with_reducible show wpAny _ _ (binaryOp Operator.FloorDiv (Value.int _ _) (Value.int (10 ^ _) _)) _ _ _); refine fdiv_pow (by omega) (by omega) (by omega) ?_; intro zrmq zreq zrh0q zrh1q) | (k_here; (with_reducible show wpAny _ _ (binaryOp Operator.Mod (Value.int _ _) (Value.int (10 ^ _) _)) _ _ _); refine fmod_pow (by omega) ?_; intro zrmq zreq zrh0q zrh1q) | walk1 | (dsimp only; walk1) | (leave1; (try dsimp only))))
    (rename _ = ((n.toNat / _ : Nat) : Int) => eA)
    (rename _ = ((_ % _ : Nat) : Int) => eB)
    (rename Fr _ _ _ _ => kF2)
    rw [folder_step hq1.1 (by assumption) (by rw [eB]; exact_mod_cast Nat.mod_lt _ (Nat.pow_pos (by decide)))] at kF2
    have eC : ∀ a b : Int, a = ((n.toNat / 10 ^ (low - q).toNat : Nat) : Int) → b = ((a.toNat % 10 ^ q.toNat : Nat) : Int) → digW q.toNat b.toNat = digW q.toNat (n.toNat / 10 ^ (low - q).toNat) := by
      intro a b h1 h2
      rw [h2, Int.toNat_natCast, digW_mod, h1, Int.toNat_natCast]
    rw [eC _ _ eA eB] at kF2
    rw [hdrop, chunks, List.flatMap_cons] at hfl
    refine turnE kF2 (by assumption) (fun _ k => k _ _ (low - q) (fl ++ 47 :: digW q.toNat (n.toNat / 10 ^ (low - q).toNat)) (by lia) (by rw [← hfl]; simp) (?_)) (by first | exact agr (by with_unfolding_all rfl) | (refine ⟨?_, ?_, ?_, ?_, ?_, trivial⟩ <;> with_unfolding_all rfl)) (by k_mem) (by exact ⟨by k_mem, by k_ne, trivial⟩)
    rw [List.length_append, List.length_cons, digW_len]; lia
  · intro nl news h tk u J
    apply J
    clear J
    intro t1 t2 low fl hlow hfl hfll F N
    rw [List.drop_length, chunks, List.flatMap_nil, List.append_nil] at hfl
    have hflS : (S fl).length ≤ 42 := by rw [S_len]; rw [List.length_take] at hfll; lia
    have hp := path_flat hfl
    k_steps
    · rw [← hp.1 (fun q => by rename_i hz; rw [q] at hz; exact hz rfl)]
      exact hQ _ _ _ (Fr.keep (by assumption))
    · rw [← hp.2 (by rename_i hz; rw [S_len] at hz; exact List.length_eq_zero_iff.mp (by lia))]
      exact hQ _ _ _ (Fr.keep (by assumption))
end
end
-- R11
section
structure IsMin (m : Int) (ms : List Int) : Prop where
  mem : m ∈ ms
  le : ∀ x ∈ ms, m ≤ x
structure IsMax (m : Int) (ms : List Int) : Prop where
  mem : m ∈ ms
  le : ∀ x ∈ ms, x ≤ m
theorem min_uniq {M mn : Int} {ms : List Int} (a : M ∈ ms) (b : ∀ x ∈ ms, M ≤ x) (h : IsMin mn ms) : M = mn := by
  have h1 := b _ h.mem
  have h2 := h.le _ a
  lia
theorem max_uniq {M mn : Int} {ms : List Int} (a : M ∈ ms) (b : ∀ x ∈ ms, x ≤ M) (h : IsMax mn ms) : M = mn := by
  have h1 := b _ h.mem
  have h2 := h.le _ a
  lia
end
-- C8
section
set_option maxRecDepth 100000
set_option maxHeartbeats 1000000
section
variable {w : World} {d u : Nat} {f : Option (List Env)} {g : Option (List Code)} {s : Shared} {E Q : Value → Shared → Prop} {mean : ExcName → Option Value} {mg mb : Str → Option Value}


noncomputable def cntL (mn mx : Nat) : List Int → Int → Nat
  | [], _ => 0
  | w :: r, low => (if mn / 10 ^ (low - w).toNat = mx / 10 ^ (low - w).toNat then 1 else 0) + cntL mn mx r (low - w)
noncomputable def SJ (mn mx : Nat) (l2 l : Addr) (ds : List Value) (ws : List Int) (i : Nat) (nl : List (Str × Value)) (news : List (Addr × Obj)) : Prop :=
  ∀ P : List (Str × Value) → List (Addr × Obj) → Prop, (∀ (t1 t2 : Tok) (cnt low : Int), low = (ws.drop i).sum → 0 ≤ cnt → cnt ≤ i → cnt.toNat + cntL mn mx (ws.drop i) low = cntL mn mx ws 6 → P ([("count", .int cnt t1), ("low", .int low t2), ("widths", .ref l), ("numbers", .ref l2)] : List (Str × Value)) []) → P nl news
theorem shared_ {l l2 : Addr} {vs vs2 : List Value} {ns ms : List Int} {mn mx : Int} (X : (Mine.hd.heap_39 w.params).In s.heap) (T : Top Mine.hd.view_39 (looseW Mine.hd.view_39 []) mean mg mb s.heap) (hA2 : d < 360)
  (hl : s.heap.IsList l vs.toArray) (hi : IntsAre vs ns) (hv1 : vs.length ≤ 6) (hv2 : ns.length ≤ 6) (hw : ∀ i ∈ ns, 1 ≤ i ∧ i ≤ 6) (hsum : ns.sum = 6) (hl2 : s.heap.IsList l2 vs2.toArray) (hi2 : IntsAre vs2 ms) (hmn : IsMin mn ms) (hmx : IsMax mx ms) (hms1 : 1 ≤ ms.length) (hms2 : ms.length ≤ 14) (hmr : ∀ x ∈ ms, 0 ≤ x ∧ x < 1000000)
  (hQ : ∀ h' tk t, Keeps s.heap h' → Q (.str (S (pathL (chunks (ns.take (cntL mn.toNat mx.toNat ns 6)) 6 mn.toNat))) t) {s with heap := h', toks := tk}) :
  wpAny (model Challenge.rw_pd0146_01.row.prog w) (Around.mk none d f g u) (call (.ref 216) [.ref l, .ref l2]) Q E s := by
  refine' enterC (binds := [("widths", .ref l), ("numbers", .ref l2)]) X T.nolimit ?k6 ?k7 (Nat.lt_trans hA2 (by decide)) (BindsTo.of_eq ?k8) ?k9 ?_ ?c1 ?c2 ?c3 ?c4
  (((case k6 => k_is); (case k7 => k_is); (case k8 => rfl); (case k9 => exact locs (by rfl)); (case c1 => rfl); (case c2 => rfl); (case c3 => rfl); (case c4 => decide)))
  intro h₁ L' F N
  refine wpAny_noRaise ?_
  (repeat' (first | (k_unfold; (try dsimp only)) | (k_end; kc_close) | ((with_reducible show wpAny _ _ (exec (PySem.Stmt.For (PySem.Expr.Name _ _) (PySem.Expr.Name _ _) (_ :: _) [] _) _) _ _ _); ((k_here; (rename Fr _ _ _ _ => zhlFq); (with_unfolding_all refine' For_stop zhlFq (by exact rfl) (by exact rfl) ?_ (by intro _; rfl) (by passes_own); k_whole)))) | walk1 | (dsimp only; walk1) | (leave1; (try dsimp only))))
  (rename Fr _ _ _ _ => kF)
  (rename News _ _ _ _ => kN)
  unfold Stop
  refine forLI0 (SJ mn.toNat mx.toNat l2) hl hi rfl kF kN ?_ ?_ ?_
  · exact StartJ.mk (by first | exact agr (by with_unfolding_all rfl) | (refine ⟨?_, ?_, ?_, ?_, trivial⟩ <;> with_unfolding_all rfl)) (by exact trivial) (fun _ k => k _ _ 0 6 (by rw [List.drop_zero]; lia) (by decide) (by decide) (by simp))
  · intro i q tq nl news h tk u I ito hq J
    apply J
    clear J
    intro t1 t2 cnt low hlow hc0 hci hcc hne F N
    have hilt := (List.getElem?_eq_some_iff.mp hq).1
    have hq1 : 1 ≤ q ∧ q ≤ 6 := hw q (List.mem_of_getElem? hq)
    have hdrop := List.drop_eq_getElem_cons hilt
    rw [(List.getElem?_eq_some_iff.mp hq).2] at hdrop
    have hs3 := sum_td ns i
    have hs4 := sum_nn (l := ns.take i) fun x hx => hw x (List.mem_of_mem_take hx)
    have hs5 := sum_nn (l := ns.drop (i + 1)) fun x hx => hw x (List.mem_of_mem_drop hx)
    have hs6 : (ns.drop i).sum = q + (ns.drop (i + 1)).sum := by rw [hdrop, List.sum_cons]
    have hlow0 : 0 ≤ low - q := by lia
    have hlow6 : low ≤ 6 := by lia
    have hmn1 := hmr mn hmn.mem
    have hmx1 := hmr mx hmx.mem
    rw [hdrop, cntL] at hcc
    (repeat' (first | (k_unfold; (try dsimp only)) | (k_end; kc_close) | (k_here; (with_reducible show wpAny _ _ (call (Value.builtin _) [Value.ref _]) _ _ _); (with_unfolding_all refine' kso_min (by k_asm) (by k_asm) (by kso_list) (by l_ints) (by omega) (by with_unfolding_all rfl) ?_; k_whole); intro zrhq zrMq zrtq zrkq zrFq zrNq zraq zrbq; (have e' := (min_uniq zraq zrbq (by assumption)).symm); subst e'; (clear zraq zrbq); (try k_sweep)) | (k_here; (with_reducible show wpAny _ _ (binaryOp Operator.FloorDiv (Value.int _ _) (Value.int (10 ^ _) _)) _ _ _); refine fdiv_pow (by omega) (by omega) (by omega) ?_; intro zrmq zreq zrh0q zrh1q) | (k_here; (with_reducible show wpAny _ _ (call (Value.builtin _) [Value.ref _]) _ _ _); (with_unfolding_all refine' kso_max (by k_asm) (by k_asm) (by kso_list) (by l_ints) (by omega) (by with_unfolding_all rfl) ?_; k_whole); intro zrhq zrMq zrtq zrkq zrFq zrNq zraq zrbq; (have e' := (max_uniq zraq zrbq (by assumption)).symm); subst e'; (clear zraq zrbq); (try k_sweep)) | walk1 | (dsimp only; walk1) | (leave1; (try dsimp only))))
    · (rename _ = ((mn.toNat / _ : Nat) : Int) => eA)
      (rename _ = ((mx.toNat / _ : Nat) : Int) => eB)
      (rename @Eq Int _ _ => eC)
      rw [eA, eB] at eC
      rw [if_pos (by exact_mod_cast eC)] at hcc
      exact turnE (by assumption) (by assumption) (fun _ k => k _ _ (cnt + 1) (low - q) (by lia) (by lia) (by lia) (by (with_reducible exact ar36 ‹_› ‹_›))) (by first | exact agr (by with_unfolding_all rfl) | (refine ⟨?_, ?_, ?_, ?_, trivial⟩ <;> with_unfolding_all rfl)) (by k_mem) (by exact trivial)
    · (rename _ = ((mn.toNat / _ : Nat) : Int) => eA)
      (rename _ = ((mx.toNat / _ : Nat) : Int) => eB)
      (rename @Ne Int _ _ => eC)
      rw [eA, eB] at eC
      rw [if_neg (fun e => eC (by rw [e]))] at hcc
      exact turnE (by assumption) (by assumption) (fun _ k => k _ _ cnt (low - q) (by lia) (by (with_reducible assumption)) (by lia) (by lia)) (by first | exact agr (by with_unfolding_all rfl) | (refine ⟨?_, ?_, ?_, ?_, trivial⟩ <;> with_unfolding_all rfl)) (by k_mem) (by exact trivial)
  · intro nl news h tk u J
    apply J
    clear J
    intro t1 t2 cnt low hlow hc0 hci hcc F N
    rw [List.drop_length, cntL] at hcc
    (repeat' (first | (k_unfold; (try dsimp only)) | (k_end; kc_close) | (k_here; (with_reducible show wpAny _ _ (call (Value.builtin _) [Value.ref _]) _ _ _); (with_unfolding_all refine' kso_min (by k_asm) (by k_asm) (by kso_list) (by l_ints) (by omega) (by with_unfolding_all rfl) ?_; k_whole); intro zrhq zrMq zrtq zrkq zrFq zrNq zraq zrbq; (have e' := (min_uniq zraq zrbq (by assumption)).symm); subst e'; (clear zraq zrbq); (try k_sweep)) | walk1 | (dsimp only; walk1) | (leave1; (try dsimp only))))
    (rename Fr _ _ _ _ => kF2)
    have e1 : cntL mn.toNat mx.toNat ns 6 = cnt.toNat := by lia
    rw [e1] at hQ
    refine folder_ (Frag.In.keeps (by k_asm) kF2.keep) (Top.keeps (by k_asm) kF2.keep) (by (first | omega | (dsimp only; omega) | (simp only [depth_deeper, depth_in1, depth_caller, Around.deeper]; omega) | (simp [Around.deeper]; omega))) (hl.at fun o e => kF2.keep _ _ e) hi (hmr mn hmn.mem).1 (hmr mn hmn.mem).2 hc0 (by lia) hv1 hv2 hw hsum ?_
    intro h' tk' t' hk'
    exact hQ _ _ _ (Keeps.trans kF2.keep hk')
end
end
-- R12
section
set_option maxRecDepth 100000
set_option maxHeartbeats 1000000
theorem enterT {prog : Program} {w : World} {A : Around} {s : Shared} {h₀ : Heap} {L : Addr} {m : Str → Option Value} {env : Env} {news : List (Addr × Obj)} {K : Frag}
    {Q : Value → Shared → Prop} {E : Value → Shared → Prop} {name qual : Str} {params : Arguments} {body : List Stmt} {scope : Scope} {dV kV doc pm cdv ct oc : Value} {an od : Option Addr} {osl : Array (Option Value)} {f : Addr} {args : List Value} {binds : List (Str × Value)}
    (F : Fr h₀ L s.heap m) (X : K.In s.heap) (N : News h₀ L s.heap news) (hlim : s.heap.NoLimit) (hf : env.frame = some L) (hke : env.scope.kind = .function)
    (ho : K.lookup f = some ⟨oc, od, .func (fnOf name qual params body scope dV kV doc pm an cdv ct), osl⟩) (hcd : codeIn K cdv qual = true) (hroom : A.depth < recursionLimit)
    (hbind : BindsTo s (fnOf name qual params body scope dV kV doc pm an cdv ct) ⟨args, []⟩ binds) (hloc : ∀ y ∈ binds, scope.names.lookup y.1 = some .local)
    (h : ∀ oL h₁ L', TI.Caller h₀ L m oL → TI.Frs [env] [(L, oL)] → AllNe L news → Fr h₀ L' h₁ (fun y => binds.reverse.lookup y) → News h₀ L' h₁ (news ++ [(L, oL)]) →
      wpAny (model prog w) (A.deeper (envOf qual scope L' f cdv)) (execs body (envOf qual scope L' f cdv))
        (fun fl s' => Q (match fl with | .ret v => v | _ => .none) s')
        (fun e s' => wpAny (model prog w) (A.deeper (envOf qual scope L' f cdv)) (leaving (envOf qual scope L' f cdv) e) (fun _ s'' => E e s'') (fun e' s'' => E e' s'') s')
        { s with heap := h₁, toks := s.toks + binds.length })
    (hco : scope.isCoroutine = false) (hgen : scope.isGenerator = false) (hk : scope.kind = .function)
    (hcell : ∀ x ∈ scope.names, x.2 ≠ .cell) : wpAny (model prog w) A (call (.ref f) args) Q E s := by
  (refine qE3A4 (F.ns) fun oL es ep hL hLd hLk hLf => ?_)
  have hLt := Heap.lt_size hL
  refine wpAny_call ?_
  refine codeAny_call_def (fd := fnOf name qual params body scope dV kV doc pm an cdv ct) (body := body) (binds := binds) hroom (X _ _ ho) rfl hlim (codeRec_of X hcd) rfl hbind hcell hloc (fun h₁ hns hk₁ => ?_) hco hgen hk
  refine h oL h₁ s.heap.objs.size ⟨fun h' sl e => ⟨_, es, ep, e, hLd, hLk, hLf⟩, ⟨es, ep, hLd⟩, F.above⟩ ⟨by rw [hke]; decide, hf, ⟨es, ep, hLd⟩, trivial⟩ (neOf fun p hp => (N p hp).2.1)
    ⟨hns, fun b o e => hk₁ b o (F.keep b o e), Nat.le_trans F.above (Nat.le_of_lt hLt)⟩ fun p hp => ?_
  rcases List.mem_append.mp hp with hp | hp
  · exact ⟨hk₁ _ _ (N p hp).1, Nat.ne_of_lt (Heap.lt_size (N p hp).1), (N p hp).2.2⟩
  · rw [List.mem_singleton.mp hp]
    exact ⟨hk₁ _ _ hL, Nat.ne_of_lt hLt, Heap.get?_none_of_le F.above⟩
end
-- R13
section
set_option maxRecDepth 100000
set_option maxHeartbeats 1000000
theorem enterH {prog : Program} {w : World} {A : Around} {s : Shared} {h₀ : Heap} {L : Addr} {m : Str → Option Value} {env : Env} {hid : List (Addr × Obj)} {K : Frag} {p : Program} {loose : List Str} {mean : ExcName → Option Value} {mg mb : Str → Option Value}
    {Q : Value → Shared → Prop} {E : Value → Shared → Prop} {name qual : Str} {params : Arguments} {body : List Stmt} {scope : Scope} {dV kV doc pm cdv ct oc : Value} {an od : Option Addr} {osl : Array (Option Value)} {f : Addr} {args : List Value} {binds : List (Str × Value)}
    (F : Fr h₀ L s.heap m) (X₀ : K.In h₀) (T : Top p loose mean mg mb h₀) (N : News h₀ L s.heap hid) (hf : env.frame = some L) (hke : env.scope.kind = .function)
    (ho : K.lookup f = some ⟨oc, od, .func (fnOf name qual params body scope dV kV doc pm an cdv ct), osl⟩) (hcd : codeIn K cdv qual = true) (hroom : A.depth < recursionLimit)
    (hbind : BindsTo s (fnOf name qual params body scope dV kV doc pm an cdv ct) ⟨args, []⟩ binds) (hloc : ∀ y ∈ binds, scope.names.lookup y.1 = some .local)
    (h : ∀ g oL h₁ L', TI.Caller h₀ L m oL → TI.Frs [env] [(L, oL)] → AllNe L hid → Keeps h₀ g → K.In g → Top p loose mean mg mb g →
      (∀ b o, s.heap.get? b = some o → b ≠ L → (∀ q ∈ hid, b ≠ q.1) → g.get? b = some o) → (∀ b o, g.get? b = some o → s.heap.get? b = some o) →
      Fr g L' h₁ (fun y => binds.reverse.lookup y) → News g L' h₁ (hid ++ [(L, oL)]) →
      wpAny (model prog w) (A.deeper (envOf qual scope L' f cdv)) (execs body (envOf qual scope L' f cdv))
        (fun fl s' => Q (match fl with | .ret v => v | _ => .none) s')
        (fun e s' => wpAny (model prog w) (A.deeper (envOf qual scope L' f cdv)) (leaving (envOf qual scope L' f cdv) e) (fun _ s'' => E e s'') (fun e' s'' => E e' s'') s')
        { s with heap := h₁, toks := s.toks + binds.length })
    (hco : scope.isCoroutine = false) (hgen : scope.isGenerator = false) (hk : scope.kind = .function)
    (hcell : ∀ x ∈ scope.names, x.2 ≠ .cell) : wpAny (model prog w) A (call (.ref f) args) Q E s := by
  (refine qE3A4 (F.ns) fun oL es ep hL hLd hLk hLf => ?_)
  have hLt := Heap.lt_size hL
  have X := X₀.keeps F.keep
  have hsub : ∀ b o, (hideAll s.heap (L :: hid.map (·.1))).get? b = some o → s.heap.get? b = some o := fun b o e => of_hideAll _ e
  have hup : ∀ b o, s.heap.get? b = some o → b ≠ L → (∀ q ∈ hid, b ≠ q.1) → (hideAll s.heap (L :: hid.map (·.1))).get? b = some o := fun b o e h1 h2 => hideAll_get _ e fun hm => by
    rcases List.mem_cons.mp hm with e | hm
    · exact h1 e
    · (refine qE1A2 (List.mem_map.mp hm) fun q hq e => ?_)
      exact h2 q hq e.symm
  have hk0 : Keeps h₀ (hideAll s.heap (L :: hid.map (·.1))) := fun b o e => hup b o (F.keep b o e) (Nat.ne_of_lt (Nat.lt_of_lt_of_le (Heap.lt_size e) F.above)) fun q hq z => by
    have := (N q hq).2.2
    rw [← z, e] at this; cases this
  generalize hg : hideAll s.heap (L :: hid.map (·.1)) = g at hsub hup hk0
  have Xg : K.In g := X₀.keeps hk0
  have Tg := T.keeps (h' := g) hk0
  refine wpAny_call ?_
  refine codeAny_call_def (fd := fnOf name qual params body scope dV kV doc pm an cdv ct) (body := body) (binds := binds) hroom (X _ _ ho) rfl (T.nolimit.keeps F.keep) (codeRec_of X hcd) rfl hbind hcell hloc (fun h₁ hns hk₁ => ?_) hco hgen hk
  refine h g oL h₁ s.heap.objs.size ⟨fun h' sl e => ⟨_, es, ep, e, hLd, hLk, hLf⟩, ⟨es, ep, hLd⟩, F.above⟩ ⟨by rw [hke]; decide, hf, ⟨es, ep, hLd⟩, trivial⟩ (neOf fun p hp => (N p hp).2.1) hk0 Xg Tg hup hsub
    ⟨hns, fun b o e => hk₁ b o (hsub b o e), by rw [← hg]; exact Nat.le_of_eq (hideAll_size _ _)⟩ fun p hp => ?_
  rcases List.mem_append.mp hp with hp | hp
  · exact ⟨hk₁ _ _ (N p hp).1, Nat.ne_of_lt (Heap.lt_size (N p hp).1), by rw [← hg]; exact hideAll_none _ (List.mem_cons_of_mem _ (List.mem_map_of_mem hp))⟩
  · rw [List.mem_singleton.mp hp]
    exact ⟨hk₁ _ _ hL, Nat.ne_of_lt hLt, by rw [← hg]; exact hideAll_none _ List.mem_cons_self⟩
theorem backH {h₀ h' : Heap} {L : Addr} {m : Str → Option Value} {oL : Obj} {sl : Array (Option Value)} (C : TI.Caller h₀ L m oL) (hk : Keeps h₀ h') (hL : h'.get? L = some { oL with slots := sl }) : Fr h₀ L h' m := ⟨C.ns _ sl hL, hk, C.above⟩
end
-- R14
section
set_option maxRecDepth 100000
set_option maxHeartbeats 1000000
section
variable {prog : Program} {w : World} {A : Around} {E : Value → Shared → Prop} {s : Shared} {h₀ : Heap} {L D b : Addr} {m : Str → Option Value} {news : List (Addr × Obj)} {xs ys : List Value} {n n2 : Nat} {Q : Value → Shared → Prop}
theorem ext_N {news' : Nat → List (Addr × Obj)} (F : Fr h₀ L s.heap m) (N : News h₀ L s.heap news) (hb : (b, listOf ys.toArray n2) ∈ news)
    (U : ∀ c, Upd D (listOf xs.toArray n) (listOf (xs ++ ys).toArray c) news (news' c)) (hz : xs.length + ys.length ≤ 1000)
    (h : ∀ c h', Fr h₀ L h' m → News h₀ L h' (news' c) → Q .none { s with heap := h' }) : wpAny (model prog w) A (call (.builtin "list.extend") [.ref D, .ref b]) Q E s := by
  have hd : ¬(!xs.toArray.isEmpty && Builtin.List.listTooLong (xs.toArray.size + ys.toArray.size)) = true := by
    have : Builtin.List.listTooLong (xs.toArray.size + ys.toArray.size) = false := by
      unfold Builtin.List.listTooLong
      simp only [List.size_toArray]
      first | (simp; omega) | (rw [sizeLine_eq]; simp; lia)
    rw [this]; simp
  by_cases h0 : ys = []
  · subst h0
    have U' := U n
    rw [List.append_nil] at U'
    exact kxn_extend F N hb (by simp) U' hd (by rw [sizeLine_eq]; simp at hz ⊢; lia) (by rw [sizeLine_eq]; simp at hz ⊢; lia) (h n)
  · exact kl_extend F N hb (by simp) (by simp; exact h0) (U (n + 1)) hd (by rw [sizeLine_eq]; simp at hz ⊢; lia) (by rw [sizeLine_eq]; simp at hz ⊢; lia) (h (n + 1))
end
end
-- R15
section
theorem pick_le (l : List Value) (lo hi : Option Int) : (kms_pick l lo hi).length ≤ l.length := by
  unfold kms_pick
  simp only [List.length_take, List.length_drop]
  exact ar24 (Nat.sub_le _ _)
theorem pick_from (l : List Value) (i : Nat) : kms_pick l (some (i : Int)) none = l.drop i := by
  unfold kms_pick kms_lo kms_hi
  simp only [Int.toNat_natCast]
  rw [if_neg (by lia)]
  by_cases h : i ≤ l.length
  · rw [Nat.min_eq_left h]
    exact List.take_of_length_le (by rw [List.length_drop]; exact Nat.le_refl _)
  · rw [Nat.min_eq_right (by lia), List.drop_length, List.drop_of_length_le (by lia)]
    simp
end
-- U5
section
set_option maxRecDepth 100000
set_option maxHeartbeats 1000000
abbrev TX := List Nat
noncomputable def skipL (e : TX) : List TX → List TX
  | [] => []
  | x :: r => if x = e then skipL e r else x :: r
theorem skipL_len (e : TX) : ∀ l, (skipL e l).length ≤ l.length
  | [] => Nat.le_refl _
  | x :: r => by
    unfold skipL
    split
    · have := skipL_len e r; simp; lia
    · simp
noncomputable def sldF : Nat → List TX → List TX → List TX × List TX
  | 0, xs, ys => (xs, ys)
  | _ + 1, [], ys => ([], ys)
  | _ + 1, xs, [] => (xs, [])
  | n + 1, e :: xs, a :: ys =>
    if e < a then (e :: (sldF n (skipL e xs) (a :: ys)).1, (sldF n (skipL e xs) (a :: ys)).2)
    else if a < e then ((sldF n (e :: xs) (skipL a ys)).1, a :: (sldF n (e :: xs) (skipL a ys)).2)
    else sldF n (skipL e xs) (skipL a ys)
theorem sldF_fuel : ∀ (k : Nat) (xs ys : List TX), xs.length + ys.length ≤ k → sldF k xs ys = sldF (k + 1) xs ys
  | 0, [], [], _ => rfl
  | 0, _ :: _, _, h => by simp at h
  | 0, [], _ :: _, h => by simp at h
  | k + 1, [], _, _ => by simp [sldF]
  | k + 1, _ :: _, [], _ => by simp [sldF]
  | k + 1, e :: xs, a :: ys, h => by
    have h1 := skipL_len e xs
    have h2 := skipL_len a ys
    simp only [List.length_cons] at h
    rw [sldF, sldF, sldF_fuel k (skipL e xs) (a :: ys) (by simp only [List.length_cons]; lia), sldF_fuel k (e :: xs) (skipL a ys) (by simp only [List.length_cons]; lia), sldF_fuel k (skipL e xs) (skipL a ys) (by lia)]
theorem sldF_more (k d : Nat) (xs ys : List TX) (h : xs.length + ys.length ≤ k) : sldF (k + d) xs ys = sldF k xs ys := by
  induction d with
  | zero => rfl
  | succ d ih => rw [← Nat.add_assoc, ← sldF_fuel (k + d) xs ys (by lia), ih]
end
-- R16
section
set_option maxRecDepth 100000
set_option maxHeartbeats 1000000
theorem backN {h₀ g h h' : Heap} {L L' : Addr} {m m' : Str → Option Value} {oL : Obj} {sl : Array (Option Value)} {hid news big fresh : List (Addr × Obj)}
    (C : TI.Caller h₀ L m oL) (hk : Keeps h₀ g) (hup : ∀ b o, h.get? b = some o → b ≠ L → (∀ q ∈ hid, b ≠ q.1) → g.get? b = some o) (hoff : ∀ p ∈ news, ∀ q ∈ hid, p.1 ≠ q.1)
    (N₀ : News h₀ L h news) (F : Fr g L' h' m') (N : News g L' h' big) (hL : (L, { oL with slots := sl }) ∈ big) (hf : SubI L fresh big) : Fr h₀ L h' m ∧ News h₀ L h' (fresh ++ news) := by
  refine ⟨backH C (hk.trans F.keep) (N _ hL).1, fun p hp => ?_⟩
  rcases List.mem_append.mp hp with hp | hp
  · have h1 := hf.all p hp
    refine ⟨(N _ h1.1).1, h1.2, ?_⟩
    cases q : h₀.get? p.1 with
    | none => rfl
    | some o => have := hk _ _ q; rw [(N _ h1.1).2.2] at this; cases this
  · have h1 := N₀ p hp
    exact ⟨F.keep _ _ (hup _ _ h1.1 h1.2.1 (hoff p hp)), h1.2.1, h1.2.2⟩
noncomputable def sld (X Y : List TX) : List TX × List TX := sldF (X.length + Y.length) X Y
theorem sld_nil1 (Y : List TX) : sld [] Y = ([], Y) := by
  unfold sld
  cases Y <;> rfl
theorem sld_nil2 (X : List TX) : sld X [] = (X, []) := by
  unfold sld
  cases X <;> rfl
theorem sldF_is {k : Nat} {X Y : List TX} (h : X.length + Y.length ≤ k) : sldF k X Y = sld X Y := by
  unfold sld
  (refine qE1A1 (Nat.exists_eq_add_of_le h) fun d zqr1 => ?_; subst zqr1)
  exact sldF_more _ d X Y (Nat.le_refl _)
theorem sld_lt {e a : TX} (X Y : List TX) (h : e < a) : sld (e :: X) (a :: Y) = (e :: (sld (skipL e X) (a :: Y)).1, (sld (skipL e X) (a :: Y)).2) := by
  have h1 := skipL_len e X
  conv => lhs; unfold sld
  rw [show (e :: X).length + (a :: Y).length = (X.length + (a :: Y).length) + 1 from by simp; lia, sldF, if_pos h, sldF_is (by lia)]
theorem sld_gt {e a : TX} (X Y : List TX) (h0 : ¬ e < a) (h : a < e) : sld (e :: X) (a :: Y) = ((sld (e :: X) (skipL a Y)).1, a :: (sld (e :: X) (skipL a Y)).2) := by
  have h1 := skipL_len a Y
  conv => lhs; unfold sld
  rw [show (e :: X).length + (a :: Y).length = ((e :: X).length + Y.length) + 1 from by simp; lia, sldF, if_neg h0, if_pos h, sldF_is (by lia)]
theorem sld_eq {e a : TX} (X Y : List TX) (h0 : ¬ e < a) (h : ¬ a < e) : sld (e :: X) (a :: Y) = sld (skipL e X) (skipL a Y) := by
  have h1 := skipL_len a Y
  have h2 := skipL_len e X
  conv => lhs; unfold sld
  rw [show (e :: X).length + (a :: Y).length = (X.length + Y.length + 1) + 1 from by simp; lia, sldF, if_neg h0, if_neg h, sldF_is (by lia)]
theorem skip_stop {e x : TX} {r : List TX} (h : x ≠ e) : skipL e (x :: r) = x :: r := by
  unfold skipL; rw [if_neg h]
theorem skip_go {e : TX} {r : List TX} : skipL e (e :: r) = skipL e r := by
  conv => lhs; unfold skipL
  rw [if_pos rfl]
theorem drop_at {X : List TX} {i : Nat} {x : TX} (h : X[i]? = some x) : X.drop i = x :: X.drop (i + 1) := by
  have hi := (List.getElem?_eq_some_iff.mp h).1
  rw [List.drop_eq_getElem_cons hi, (List.getElem?_eq_some_iff.mp h).2]
theorem item_at {X : List TX} {i : Nat} (hi : i < X.length) : ∃ x, X[i]? = some x ∧ (X.map S).getD ((i : Nat) : Int).toNat Str.empty = S x := by
  refine ⟨X[i], List.getElem?_eq_getElem hi, ?_⟩
  simp [hi]
theorem skip_next {X : List TX} {i : Nat} {x e : TX} (h : X[i]? = some x) (h2 : (X.map S).getD ((i : Nat) : Int).toNat Str.empty = S x) (hb : ((X.map S).getD ((i : Nat) : Int).toNat Str.empty == S e) = true) : skipL e (X.drop (i + 1)) = skipL e (X.drop i) := by
  rw [h2] at hb
  have : x = e := S_inj (by simpa using hb)
  rw [drop_at h, this, skip_go]
theorem skip_here {X : List TX} {i : Nat} {x e : TX} (h : X[i]? = some x) (h2 : (X.map S).getD ((i : Nat) : Int).toNat Str.empty = S x) (hb : ((X.map S).getD ((i : Nat) : Int).toNat Str.empty == S e) = false) : skipL e (X.drop i) = X.drop i := by
  rw [h2] at hb
  have : x ≠ e := fun q => by rw [q] at hb; simp at hb
  rw [drop_at h, skip_stop this]
theorem strs_end {mv vs : List Value} {ms X R : List TX} {i : Nat} (h1 : StrsAre mv (ms.map S)) (h2 : StrsAre vs (X.map S)) (h : ms ++ X.drop i = R) : StrsAre (mv ++ kms_pick vs.toArray.toList (some (i : Int)) none) (R.map S) := by
  rw [pick_from, ← h, List.map_append, List.map_drop]
  exact h1.append' (h2.drop' i)
end
-- R17
section
set_option maxRecDepth 100000
set_option maxHeartbeats 1000000
theorem frs_sl {env : Env} {L : Addr} {oL : Obj} {sl : Array (Option Value)} (h : TI.Frs [env] [(L, oL)]) : TI.Frs [env] [(L, { oL with slots := sl })] := ⟨h.1, h.2.1, h.2.2.1, trivial⟩
theorem AllNe.all {d : Nat} {l : List (Addr × Obj)} (h : AllNe d l) : ∀ p ∈ l, @Ne Nat p.1 d := by
  induction l with
  | nil => intro p hp; cases hp
  | cons q r ih =>
    intro p hp
    rcases List.mem_cons.mp hp with e | hp
    · rw [e]; exact h.1
    · exact ih h.2 p hp
structure NewX (h h' : Heap) (e : Addr) (X : String) (vs : Array Value) : Prop where
  keeps : ∀ b o, h.get? b = some o → h'.get? b = some o
  new : h.get? e = none
  there : ∃ ob, h'.get? e = some ob ∧ ob.cls = .type X ∧ ob.data = .fields vs
  tb : vs[1]? = some .none
theorem NewX.of {h h' : Heap} {e : Addr} {X : String} (x : Heap.NewExc h h' e X) : ∃ t, NewX h h' e X #[t, .none, .none, .none, .bool false, .none] := by
  (refine qE2A3 (x.there) fun ob t h1 h2 h3 => ?_)
  exact ⟨t, x.keeps, x.new, ⟨ob, h1, h2, h3⟩, rfl⟩
section
variable {prog : Program} {w : World} {A₀ : Around} {E : Value → Shared → Prop} {g h hx : Heap} {L L₁ a e : Addr} {m : Str → Option Value} {name : Str} {scope : Scope} {cd : Value} {X : String} {env : Env} {new : List (Addr × Obj)} {oL : Obj} {s : Shared} {tk : Nat} {vs : Array Value}
theorem noteX {Q : Unit → Shared → Prop} (hfr : A₀.frames = some [env]) (Fs : TI.Frs [env] [(L₁, oL)]) (F : Fr g L h m) (N : News g L h (new ++ [(L₁, oL)])) (hne : AllNe L₁ new) (hX : NewX h hx e X vs)
    (k : ∀ h' sl T oe oT ts, Fr g L h' m → News g L h' ((e, oe) :: (T, oT) :: (new ++ [(L₁, { oL with slots := sl })])) → oe.cls = .type X → oe.data = .fields (vs.setIfInBounds 1 (.ref T)) → oT.data = .fields ts → ts[3]? = some (rawInt L) → T ≠ e → (∀ p ∈ new ++ [(L₁, { oL with slots := sl })], p.1 ≠ T) → Q () { s with heap := h', toks := tk })
    (hk : scope.kind = .function) :
    wpAny (model prog w) (A₀.deeper (envOf name scope L a cd)) (noteFrame (.ref e) (envOf name scope L a cd)) Q E { s with heap := hx, toks := tk } := by
  (refine qE1A3 (hX.there) fun ob he hcl hd => ?_)
  have h1 := hX.tb
  have hsz : 1 < vs.size := (Array.getElem?_eq_some_iff.mp h1).1
  have NL := N _ (List.mem_append_right _ List.mem_cons_self)
  obtain ⟨hff, hNs, frs₁, SU, ht⟩ := TI.frames_at (name := name) (scope := scope) (a := a) (cd := cd) (h' := hx) (base := TI.gone h (L :: [(L₁, oL)].map (·.1))) hk Fs F N TI.tail_sub (fun b o hb' => ⟨o.slots, hX.keeps b o hb'⟩) fun b hm => TI.gone_none hm
  have hfl : (envOf name scope L a cd :: [env]).filterMap (·.frame) = [L, L₁] := by rw [TI.frames_are Fs]; rfl
  unfold noteFrame
  simp only [show (envOf name scope L a cd).frame = some L from rfl]
  refine wpAny_bind (wpAny_field (s := { s with heap := hx, toks := tk }) he hd h1 ?_)
  rw [if_neg (by decide)]
  refine wpAny_bind (wpAny_frameOf_fun (Around.frames_deeper hfr) hff rfl fun h₁ hs₁ => ?_)
  refine wpAny_bind (wpAny_entryPlaceOf fun pl hpl => ?_)
  unfold EntryCells.newEntry newFields
  refine wpAny_bind (wpAny_newObj_type ?_ (hpl.sizeOk5 _ _ _ _ _))
  rw [hfl] at hs₁
  (refine qE3A4 (F.ns) fun oLL es ep hL hLd hLk hLf => ?_)
  have hLe : e ≠ L := fun q => by have := hX.new; rw [q, hL] at this; cases this
  have hL1e : e ≠ L₁ := fun q => by have := hX.new; rw [q] at this; have h2 := NL.1; rw [show ((L₁, oL) : Addr × Obj).1 = L₁ from rfl] at h2; rw [this] at h2; cases h2
  have he₁ : h₁.get? e = some ob := (hs₁.2.1 e (by simp [hLe, hL1e])).trans he
  have he₂ := Heap.get?_push_of_some (h := h₁) { cls := .type "traceback", dict := none, data := .fields ([.none, .ref L, .none, rawInt L, .none] ++ (if pl.isEmpty then List.replicate 6 Value.none else pl)).toArray } he₁
  refine wpAny_setField he₂ hd hsz ?_
  have hTe : h₁.objs.size ≠ e := Nat.ne_of_gt (Heap.lt_size he₁)
  have hd₃ := Obj.data_mapFields hd (·.setIfInBounds 1 (Value.ref h₁.objs.size))
  have he₃ := Heap.get?_update_self (Obj.mapFields (·.setIfInBounds 1 (Value.ref h₁.objs.size))) he₂ (Obj.isFreed_of_fields hd₃)
  have hT₃ := (Heap.get?_update_other (h₁.push { cls := .type "traceback", dict := none, data := .fields ([.none, .ref L, .none, rawInt L, .none] ++ (if pl.isEmpty then List.replicate 6 Value.none else pl)).toArray })
    (Obj.mapFields (·.setIfInBounds 1 (Value.ref h₁.objs.size))) (Ne.symm hTe)).trans (Heap.get?_push_size h₁ rfl)
  have keep : ∀ b o, b ≠ e → h₁.get? b = some o →
      ((h₁.push { cls := .type "traceback", dict := none, data := .fields ([.none, .ref L, .none, rawInt L, .none] ++ (if pl.isEmpty then List.replicate 6 Value.none else pl)).toArray }).update e (Obj.mapFields (·.setIfInBounds 1 (Value.ref h₁.objs.size)))).get? b = some o := fun b o hbe hb => by
    rw [Heap.get?_update_other _ _ (Ne.symm hbe)]
    exact Heap.get?_push_of_some _ hb
  have up : ∀ b o, h.get? b = some o → b ≠ L → b ≠ L₁ → ((h₁.push { cls := .type "traceback", dict := none, data := .fields ([.none, .ref L, .none, rawInt L, .none] ++ (if pl.isEmpty then List.replicate 6 Value.none else pl)).toArray }).update e (Obj.mapFields (·.setIfInBounds 1 (Value.ref h₁.objs.size)))).get? b = some o := fun b o hb q1 q2 =>
    keep b o (fun q => by rw [q, hX.new] at hb; cases hb) ((hs₁.2.1 b (by simp [q1, q2])).trans (hX.keeps b o hb))
  have fresh : ∀ b, h.get? b = none → g.get? b = none := fun b hb => by
    cases q : g.get? b with
    | none => rfl
    | some o => rw [F.keep _ _ q] at hb; cases hb
  have hsize : ∀ b o, h.get? b = some o → b ≠ h₁.objs.size := fun b o hb q => by
    (refine qE1A1 (hs₁.2.2 b o (hX.keeps b o hb)) fun sl hs => ?_)
    rw [q] at hs
    exact absurd (Heap.lt_size hs) (Nat.lt_irrefl _)
  (refine qE1A1 (hs₁.2.2 L oLL (hX.keeps _ _ hL)) fun slL hsL => ?_)
  (refine qE1A1 (hs₁.2.2 L₁ oL (hX.keeps _ _ NL.1)) fun sl hsl => ?_)
  have h3 : (([Value.none, .ref L, .none, rawInt L, .none] ++ (if pl.isEmpty then List.replicate 6 Value.none else pl)).toArray)[3]? = some (rawInt L) := by simp
  refine k _ sl h₁.objs.size _ { cls := .type "traceback", dict := none, data := .fields ([.none, .ref L, .none, rawInt L, .none] ++ (if pl.isEmpty then List.replicate 6 Value.none else pl)).toArray } _ ⟨⟨_, es, ep, keep _ _ hLe.symm hsL, hLd, hLk, hLf⟩, fun b o hb => up b o (F.keep b o hb) (Nat.ne_of_lt (Nat.lt_of_lt_of_le (Heap.lt_size hb) F.above)) (fun q => by have := NL.2.2; rw [q] at hb; rw [show ((L₁, oL) : Addr × Obj).1 = L₁ from rfl, hb] at this; cases this), F.above⟩ (fun p hp => ?_)
    ((Obj.cls_mapFields _ _).trans hcl) hd₃ rfl h3 hTe fun p hp => ?_
  · (first | (revert p; refine alC ?_ (fun p hp => ?_)) | rcases List.mem_cons.mp hp with rfl | hp)
    · exact ⟨he₃, hLe, fresh _ hX.new⟩
    (first | (revert p; refine alC ?_ (fun p hp => ?_)) | rcases List.mem_cons.mp hp with rfl | hp)
    · refine ⟨hT₃, (hsize _ _ hL).symm, fresh _ ?_⟩
      cases q : h.get? h₁.objs.size with
      | none => rfl
      | some o => exact absurd rfl (hsize _ _ q)
    rcases List.mem_append.mp hp with hp | hp
    · have hN := N p (List.mem_append_left _ hp)
      have hne' : p.1 ≠ L₁ := hne.all p hp
      exact ⟨up _ _ hN.1 hN.2.1 hne', hN.2.1, hN.2.2⟩
    · rw [List.mem_singleton.mp hp]
      exact ⟨keep _ _ hL1e.symm hsl, NL.2.1, NL.2.2⟩
  · rcases List.mem_append.mp hp with hp | hp
    · exact hsize _ _ (N p (List.mem_append_left _ hp)).1
    · rw [List.mem_singleton.mp hp]
      exact hsize _ _ NL.1
theorem heldOf {T : Addr} {oe oT : Obj} {ts ws : Array Value} {news : List (Addr × Obj)} {fl : Value} (F : Fr g L h m) (N : News g L h ((e, oe) :: (T, oT) :: news)) (hcl : oe.cls = .type X) (hd : oe.data = .fields ws) (h1 : ws[1]? = some (.ref T)) (hdT : oT.data = .fields ts) (h3 : ts[3]? = some fl) (hTe : T ≠ e) (hap : ∀ p ∈ news, p.1 ≠ T) :
    TT.HeldNA g L h m e X news fl := by
  have Ne := N _ List.mem_cons_self
  have NT := N _ (List.mem_cons_of_mem _ List.mem_cons_self)
  refine ⟨⟨F, ⟨oe, ws, T, oT, ts, Ne.1, hcl, hd, h1, NT.1, hdT, h3, NT.2.1, hTe, NT.2.2⟩, Ne.2.2⟩, fun p hp => N p (List.mem_cons_of_mem _ (List.mem_cons_of_mem _ hp)), ?_⟩
  intro ob vs' tb e1 e2 e3
  rw [show ((e, oe) : Addr × Obj).1 = e from rfl] at Ne
  rw [Ne.1] at e1
  obtain rfl := Option.some.inj e1
  rw [hd] at e2
  injection e2 with e2
  subst e2
  rw [h1] at e3
  injection e3 with e3
  injection e3 with e3
  subst e3
  exact hap
theorem noteH {Q : Unit → Shared → Prop} (hfr : A₀.frames = some [env]) (Fs : TI.Frs [env] [(L₁, oL)]) (F : Fr g L h m) (N : News g L h (new ++ [(L₁, oL)])) (hne : AllNe L₁ new) (hX : NewX h hx e X vs)
    (k : ∀ h' sl, TT.HeldN g L h' m e X (new ++ [(L₁, { oL with slots := sl })]) → Q () { s with heap := h', toks := tk })
    (hk : scope.kind = .function) :
    wpAny (model prog w) (A₀.deeper (envOf name scope L a cd)) (noteFrame (.ref e) (envOf name scope L a cd)) Q E { s with heap := hx, toks := tk } := by
  refine noteX hfr Fs F N hne hX (fun h' sl T oe oT ts F' N' h1 h2 h3 h4 h5 h6 => k h' sl (heldOf F' N' h1 h2 ?_ h3 h4 h5 h6)) hk
  have hsz : 1 < vs.size := (Array.getElem?_eq_some_iff.mp hX.tb).1
  simp [hsz]
end
end
-- R18
section
set_option maxRecDepth 100000
set_option maxHeartbeats 1000000
theorem entry_unchain : entryFor table "proto.unchain" = some Builtin.«proto.unchain» := entryFor_of_fast (by kernel_rfl)
theorem split_E {α : Type} {M : Model} {A : Around} {env : Env} {c : Sem α} {Q : α → Shared → Prop} {E : Value → Shared → Prop} {s : Shared} (P : Value → Shared → Prop)
    (hp : PassesOwn M A env E) (hpa : ∀ hd A2, PassesOwnAt M (A.mark hd) A2 env E) (hand : ∀ e s', P e s' → E e s')
    (body : ∀ E', PassesOwn M A env E' → (∀ hd A2, PassesOwnAt M (A.mark hd) A2 env E') → (∀ e s', P e s' → E' e s') → wpAny M A c Q E' s) : wpAny M A c Q E s := body E hp hpa hand
section
variable {prog : Program} {w : World} {A : Around} {E : Value → Shared → Prop} {g h : Heap} {L a e T : Addr} {m : Str → Option Value} {name : Str} {scope : Scope} {cd : Value} {X : String} {s : Shared} {tk : Nat} {oe oT : Obj} {ts ws : Array Value} {news : List (Addr × Obj)}
theorem flightX {M : Model} {Q : Unit → Shared → Prop} (fr : Option Addr) (F : Fr g L h m) (N : News g L h ((e, oe) :: (T, oT) :: news)) (hd : oe.data = .fields ws) (h1 : ws[1]? = some (.ref T)) (hdT : oT.data = .fields ts) (hsz : 3 < ts.size) (hTe : T ≠ e) (hap : ∀ p ∈ news, p.1 ≠ T)
    (k : ∀ h' oT' ts', Fr g L h' m → News g L h' ((e, oe) :: (T, oT') :: news) → oT'.data = .fields ts' → ts'[3]? = some (fr.elim .none fun f => rawInt f) → Q () { s with heap := h', toks := tk }) :
    wpAny M A (setFlight (.ref e) fr) Q E { s with heap := h, toks := tk } := by
  have Hn := N _ List.mem_cons_self
  have NT := N _ (List.mem_cons_of_mem _ List.mem_cons_self)
  rw [show ((e, oe) : Addr × Obj).1 = e from rfl] at Hn
  rw [show ((T, oT) : Addr × Obj).1 = T from rfl] at NT
  (refine qE3A4 (F.ns) fun oL es ep hL hLd hLk hLf => ?_)
  unfold setFlight
  refine wpAny_bind (wpAny_field (s := { s with heap := h, toks := tk }) Hn.1 hd h1 ?_)
  rw [if_pos (show (Value.ref T != Value.none) = true from by simp)]
  refine wpAny_setField NT.1 hdT hsz ?_
  have hdT' := Obj.data_mapFields hdT (·.setIfInBounds 3 (fr.elim .none fun f => rawInt f))
  have other : ∀ b, b ≠ T → (h.update T (Obj.mapFields (·.setIfInBounds 3 (fr.elim .none fun f => rawInt f)))).get? b = h.get? b := fun b hb => Heap.get?_update_other _ _ (Ne.symm hb)
  refine k _ _ _ ⟨⟨oL, es, ep, (other _ NT.2.1.symm).trans hL, hLd, hLk, hLf⟩, fun b o hb => (other _ fun q => by rw [q, NT.2.2] at hb; cases hb).trans (F.keep b o hb), F.above⟩ (fun p hp => ?_) hdT' (by simp [hsz])
  (first | (revert p; refine alC ?_ (fun p hp => ?_)) | rcases List.mem_cons.mp hp with rfl | hp)
  · exact ⟨(other _ hTe.symm).trans Hn.1, Hn.2⟩
  (first | (revert p; refine alC ?_ (fun p hp => ?_)) | rcases List.mem_cons.mp hp with rfl | hp)
  · exact ⟨Heap.get?_update_self _ NT.1 (Obj.isFreed_of_fields hdT'), NT.2⟩
  · have hN := N p (List.mem_cons_of_mem _ (List.mem_cons_of_mem _ hp))
    exact ⟨(other _ (hap p hp)).trans hN.1, hN.2⟩
theorem passOnX {M : Model} {α : Type} {Q : α → Shared → Prop} {what : String} (F : Fr g L h m) (N : News g L h ((e, oe) :: (T, oT) :: news)) (hcl : oe.cls = .type X) (hd : oe.data = .fields ws) (h1 : ws[1]? = some (.ref T)) (hdT : oT.data = .fields ts) (hsz : 3 < ts.size) (hTe : T ≠ e) (hap : ∀ p ∈ news, p.1 ≠ T)
    (k : ∀ h', TT.HeldN g L h' m e X news → E (.ref e) { s with heap := h', toks := tk }) :
    wpAny M A (PySem.passOn what (.ref e) (envOf name scope L a cd) : Sem α) Q E { s with heap := h, toks := tk } := by
  have Hn := N _ List.mem_cons_self
  unfold PySem.passOn
  refine wpAny_bind (wpAny_field (s := { s with heap := h, toks := tk }) Hn.1 hd h1 ?_)
  rw [if_neg (show ¬ ((Value.ref T == Value.none) = true) from by simp)]
  refine wpAny_bind (flightX (some L) F N hd h1 hdT hsz hTe hap fun h' oT' ts' F' N' d3 f3 => wpAny_throw ?_)
  exact k h' (heldOf F' N' hcl hd h1 d3 f3 hTe hap)
theorem raiseNewH {α : Type} {a c : Addr} {oc oa : Obj} {vc va : Array Value} {Q : α → Shared → Prop} (hA : A.handled = some (.ref c)) (hne : c ≠ a) (hc : s.heap.get? c = some oc) (hcd : oc.data = .fields vc) (hc2 : vc[2]? = some .none)
    (ha : s.heap.get? a = some oa) (had : oa.data = .fields va) (hsz : 2 < va.size) (hE : E (.ref a) { s with heap := s.heap.update a (Obj.mapFields (·.setIfInBounds 2 (.ref c))) }) :
    wpAny (model prog w) A (raiseNew (.ref a) : Sem α) Q E s := by
  unfold raiseNew
  refine wpAny_bind (wpAny_handled ?_)
  rw [hA]
  dsimp only
  rw [if_pos (by simp [hne])]
  refine wpAny_bind (wpAny_holding (wpAny_runValue (codeAny_builtin entry_unchain ?_)))
  unfold Builtin.«proto.unchain»
  dsimp only
  refine wpAny_bind (wpAny_field hc hcd hc2 ?_)
  rw [if_pos (show (Value.none == Value.none) = true from by decide)]
  refine wpAny_pure ?_
  dsimp only
  refine wpAny_bind ?_
  unfold updateField
  refine wpAny_bind (wpAny_load ha ?_)
  rw [had]
  dsimp only
  rw [if_pos hsz]
  refine wpAny_update ha ?_
  exact wpAny_throw hE
theorem raiseH {α : Type} {cls msg : String} {c : Addr} {oc : Obj} {vc : Array Value} {Q : α → Shared → Prop} (hp : PlainExc cls) (hA : A.handled = some (.ref c)) (hc : s.heap.get? c = some oc) (hcd : oc.data = .fields vc) (hc2 : vc[2]? = some .none)
    (hE : ∀ h' tk e vs, NewX s.heap h' e cls vs → E (.ref e) { s with heap := h', toks := tk }) :
    wpAny (model prog w) A (raiseErrorWords cls msg : Sem α) Q E s := by
  unfold raiseErrorWords
  refine wpAny_bind (wpAny_mkText (wpAny_bind ?_))
  unfold newExc newTuple
  refine wpAny_bind (wpAny_newObj_type ?_)
  refine wpAny_bind (m := firstArgMember _ _) (wpAny_of_eq (a := Value.none) (by simp only [firstArgMember, hp.first]; rfl) ?_)
  rw [hp.own]
  refine wpAny_newObj_type ?_
  have hcl := Heap.lt_size hc
  have k1 : ∀ b o, s.heap.get? b = some o → ((s.heap.push { cls := .type "tuple", data := .seq #[.str (Str.ofString msg) s.toks] }).push { cls := .type cls, data := .fields (#[.ref s.heap.objs.size, .none, .none, .none, .bool false, .none] ++ #[]) }).get? b = some o := fun b o hb => Heap.get?_push_of_some _ (Heap.get?_push_of_some _ hb)
  have hz : (s.heap.push { cls := .type "tuple", data := .seq #[.str (Str.ofString msg) s.toks] }).objs.size = s.heap.objs.size + 1 := Heap.size_push _ _
  refine raiseNewH hA (c := c) ?_ (k1 _ _ hc) hcd hc2 (Heap.get?_push_size _ rfl) rfl (by simp) ?_
  · show c ≠ (s.heap.push { cls := .type "tuple", data := .seq #[.str (Str.ofString msg) s.toks] }).objs.size
    rw [hz]; exact Nat.ne_of_lt (Nat.lt_succ_of_lt hcl)
  refine hE _ _ _ _ ⟨fun b o hb => ?_, ?_, ⟨_, Heap.get?_update_self _ (Heap.get?_push_size _ rfl) (Obj.isFreed_of_fields (Obj.data_mapFields rfl _)), Obj.cls_mapFields _ _, Obj.data_mapFields rfl _⟩, by simp⟩
  · refine (Heap.get?_update_other _ _ ?_).trans (k1 b o hb)
    have := Heap.lt_size hb
    show (s.heap.push _).objs.size ≠ b
    rw [hz]; exact (Nat.ne_of_lt (Nat.lt_succ_of_lt this)).symm
  · refine Heap.get?_none_of_le ?_
    show _ ≤ (s.heap.push _).objs.size
    rw [hz]; lia
theorem item_outH {value slice : PySem.Expr} {l c : Addr} {items : Array Value} {k : Int} {u : Tok} {oc : Obj} {vc : Array Value} {Q : Value → Shared → Prop} (hA : A.handled = some (.ref c)) (hc : s.heap.get? c = some oc) (hcd : oc.data = .fields vc) (hc2 : vc[2]? = some .none) (hl : s.heap.IsList l items)
    (hout : (items.size : Int) ≤ k) (hhi : k < 2 ^ 63)
    (hE : ∀ h' tk e vs, NewX s.heap h' e "IndexError" vs → E (.ref e) { s with heap := h', toks := tk })
    (hs : subscripted slice false (.ref l) (.int k u) = operate [.ref l, .int k u] (getItem (.ref l) (.int k u))) :
    wpAny (model prog w) A (subscriptTail value slice (.ref l) (.int k u)) Q E s := by
  refine tail_any hl.typeIs slot_list_getitem.lookup ?_ hs
  obtain ⟨o, ho, hc', ne, hd⟩ := id hl
  unfold getItem
  try with_reducible refine wpAny_holding ?_
  first | refine wpAny_bind (wpAny_pure ?_) | skip
  refine wpAny_bind (wpAny_sequenceKey hl.typeIs (by decide) ?_)
  refine wpAny_bind (wpAny_callSpecial?_slot (name := Str.ofString "__getitem__") hl.typeIs slot_list_getitem
    (wpAny_call_entry slot_list_getitem hl.typeIs entry_list_getitem ?_ (args_list_getitem _ _)))
  show wpAny _ _ (Builtin.List.listSubscript? (.int k u) >>= _) _ _ s
  refine wpAny_bind (wpAny_listSubscript_int (fitsIndex_both (by lia) hhi) ?_)
  cases k with
  | ofNat j =>
    have hx : items[j]? = none := Array.getElem?_eq_none (by have : (items.size : Int) ≤ (j : Int) := hout; lia)
    show wpAny _ _ ((seqItemAt l j >>= fun r => pure (r.map (j, ·))) >>= _) _ _ s
    refine wpAny_bind (wpAny_bind (wpAny_seqItemAt ho hd (wpAny_pure ?_)))
    rw [hx]
    first
      | exact wpAny_bind (wpAny_rule (raiseH plainExc_IndexError hA hc hcd hc2 hE))
      | exact wpAny_bind (wpAny_rule (wpAny_bind (raiseH plainExc_IndexError hA hc hcd hc2 hE)))
      | exact wpAny_bind (wpAny_bind (wpAny_rule (raiseH plainExc_IndexError hA hc hcd hc2 hE)))
      | exact wpAny_rule (raiseH plainExc_IndexError hA hc hcd hc2 hE)
  | negSucc j => exact absurd hout (by have := Int.negSucc_lt_zero j; lia)
end
end
-- R19
section
set_option maxRecDepth 100000
set_option maxHeartbeats 1000000
section
variable {prog : Program} {w : World} {A : Around} {E : Value → Shared → Prop} {s : Shared} {g : Heap} {l L : Addr} {vs : List Value} {X : List TX} {i : Nat} {x : TX} {u : Tok} {m : Str → Option Value} {value slice : PySem.Expr} {Q : Value → Shared → Prop}
theorem item_S0 {nx ny : Str} {px py : Pos} (F : Fr g L s.heap m) (hl : g.IsList l vs.toArray) (hi : StrsAre vs (X.map S)) (hx : X[i]? = some x) (hfit : (i : Int) < 2 ^ 63) (h : ∀ t', Q (.str (S x) t') s) :
    wpAny (model prog w) A (subscriptTail (.Name nx px) (.Name ny py) (.ref l) (.int i u)) Q E s := by
  have hlt := (List.getElem?_eq_some_iff.mp hx).1
  have e : (X.map S)[i]? = some (S x) := by rw [List.getElem?_map, hx]; rfl
  (refine qE1A1 (hi.at e) fun t ht => ?_)
  exact item_listL (hl.at fun o e => F.keep _ _ e) (Int.natCast_nonneg i) hfit (by rw [Int.toNat_natCast]; exact ht) (h t) rfl fun _ => rfl
theorem item_S0out {nx ny : Str} {px py : Pos} (hA : A.handled = none) (F : Fr g L s.heap m) (hl : g.IsList l vs.toArray) (hi : StrsAre vs (X.map S)) (hx : X.length ≤ i) (hfit : (i : Int) < 2 ^ 63)
    (hE : ∀ h' tk e, Heap.NewExc s.heap h' e "IndexError" → E (.ref e) { s with heap := h', toks := tk }) :
    wpAny (model prog w) A (subscriptTail (.Name nx px) (.Name ny py) (.ref l) (.int i u)) Q E s := by
  have hn : vs.length = X.length := by rw [hi.len_eq, List.length_map]
  exact item_outK hA (hl.at fun o e => F.keep _ _ e) (.inr (by rw [List.size_toArray, hn]; lia)) (by lia) hfit hE rfl
theorem item_S0outH {nx ny : Str} {px py : Pos} {c : Addr} {oc : Obj} {vc : Array Value} (hA : A.handled = some (.ref c)) (hc : s.heap.get? c = some oc) (hcd : oc.data = .fields vc) (hc2 : vc[2]? = some .none) (F : Fr g L s.heap m) (hl : g.IsList l vs.toArray) (hi : StrsAre vs (X.map S)) (hx : X.length ≤ i) (hfit : (i : Int) < 2 ^ 63)
    (hE : ∀ h' tk e vs, NewX s.heap h' e "IndexError" vs → E (.ref e) { s with heap := h', toks := tk }) :
    wpAny (model prog w) A (subscriptTail (.Name nx px) (.Name ny py) (.ref l) (.int i u)) Q E s := by
  have hn : vs.length = X.length := by rw [hi.len_eq, List.length_map]
  exact item_outH hA hc hcd hc2 (hl.at fun o e => F.keep _ _ e) (by rw [List.size_toArray, hn]; lia) hfit hE rfl
end
theorem skip_nextS {X : List TX} {i : Nat} {x e : TX} (h : X[i]? = some x) (hb : (S x == S e) = true) : skipL e (X.drop (i + 1)) = skipL e (X.drop i) := by
  have : x = e := S_inj (by simpa using hb)
  rw [drop_at h, this, skip_go]
theorem skip_hereS {X : List TX} {i : Nat} {x e : TX} (h : X[i]? = some x) (hb : (S x == S e) = false) : skipL e (X.drop i) = X.drop i := by
  have : x ≠ e := fun q => by rw [q] at hb; simp at hb
  rw [drop_at h, skip_stop this]
end
-- R20
section
set_option maxRecDepth 100000
set_option maxHeartbeats 1000000
noncomputable def uldR : List TX → List TX → List TX × List TX
  | [], Y => ([], Y)
  | x :: R, Y => if x ∈ Y then uldR R (Y.erase x) else (x :: (uldR R Y).1, (uldR R Y).2)
theorem erase_at {x : TX} : ∀ {Y : List TX}, x ∈ Y → ∃ j, Y[j]? = some x ∧ (∀ i y, i < j → Y[i]? = some y → y ≠ x) ∧ Y.erase x = Y.eraseIdx j
  | [], h => by cases h
  | y :: Y, h => by
    by_cases q : y = x
    · subst q
      exact ⟨0, rfl, fun i _ hi => absurd hi (Nat.not_lt_zero i), by simp⟩
    · have hm : x ∈ Y := by
        rcases List.mem_cons.mp h with e | e
        · exact absurd e.symm q
        · exact e
      (refine qE1A3 (erase_at hm) fun j h1 h2 h3 => ?_)
      refine ⟨j + 1, by simpa using h1, fun i z hi hz => ?_, ?_⟩
      · cases i with
        | zero => simp at hz; rw [← hz]; exact q
        | succ i => exact h2 i z (by lia) (by simpa using hz)
      · rw [List.erase_cons_tail (by simpa using q), h3]; rfl
theorem strs_eraseIdx : ∀ {vs : List Value} {ss : List Str}, StrsAre vs ss → ∀ j, StrsAre (vs.eraseIdx j) (ss.eraseIdx j)
  | _, _, .nil, _ => by simpa using StrsAre.nil
  | _, _, .cons _ _ h, 0 => h
  | _, _, .cons y t h, j + 1 => .cons y t (strs_eraseIdx h j)
theorem map_ei : ∀ (Y : List TX) (j : Nat), (Y.eraseIdx j).map S = (Y.map S).eraseIdx j
  | [], _ => by simp
  | _ :: _, 0 => rfl
  | _ :: Y, j + 1 => by simp [map_ei Y j]
theorem strs_snoc_inv {x : TX} : ∀ {Y : List TX} {vs : List Value}, StrsAre vs ((Y ++ [x]).map S) → ∃ vi t, vs = vi ++ [.str (S x) t] ∧ StrsAre vi (Y.map S)
  | [], _, h => by
    (refine qE2A2 (StrsAre.cons_inv h) fun t vs' e h' => ?_)
    have := StrsAre.nil_inv h'
    subst this
    exact ⟨[], t, e, .nil⟩
  | y :: Y, _, h => by
    (refine qE2A2 (StrsAre.cons_inv h) fun t vs' e h' => ?_)
    (refine qE2A2 (strs_snoc_inv (Y := Y) h') fun vi t' e' hi => ?_)
    exact ⟨.str (S y) t :: vi, t', by rw [e, e']; rfl, .cons _ t hi⟩
section
variable {prog : Program} {w : World} {A : Around} {E : Value → Shared → Prop} {s : Shared} {h₀ : Heap} {L D : Addr} {m : Str → Option Value} {news : List (Addr × Obj)} {n : Nat} {its vi : List Value} {Y : List TX} {x : TX} {t : Tok} {y : Value}
theorem tr_0 {Q : Bool → Shared → Prop} (N : News h₀ L s.heap news) (hm : (D, listOf its.toArray n) ∈ news) (hz : its.length = 0) (h : Q false { s with toks := s.toks + 1 + 1 }) : wpAny (model prog w) A (truthy (.ref D)) Q E s := by
  have e : its = [] := List.length_eq_zero_iff.mp hz
  subst e
  exact wpAny_truthy_list (PySem.IsL.isList (n := n) (N _ hm).1) (by simp) h
theorem tr_1 {Q : Bool → Shared → Prop} (N : News h₀ L s.heap news) (hm : (D, listOf its.toArray n) ∈ news) (hz : 0 < its.length ∧ its.length ≤ 1000) (h : Q true { s with toks := s.toks + 1 + 1 }) : wpAny (model prog w) A (truthy (.ref D)) Q E s := by
  refine wpAny_truthy_list (PySem.IsL.isList (n := n) (N _ hm).1) (by simp; lia) ?_
  have : (!its.toArray.isEmpty) = true := by
    cases its with
    | nil => exact absurd hz.1 (by decide)
    | cons a r => simp
  rw [this]; exact h
theorem pop_S {news' : List (Addr × Obj)} {Q : Value → Shared → Prop} (F : Fr h₀ L s.heap m) (N : News h₀ L s.heap news) (U : Upd D (listOf (vi ++ [y]).toArray n) (listOf vi.toArray (n + 1)) news news') (hz : vi.length ≤ 1000)
    (h : ∀ h', Fr h₀ L h' m → News h₀ L h' news' → Q y { s with heap := h' }) : wpAny (model prog w) A (call (.builtin "list.pop") [.ref D]) Q E s :=
  kl_pop F N (by simpa using kpa_last y vi) U (by rw [sizeLine_eq]; simp; lia) h
theorem rm_S {news' : List Value → List (Addr × Obj)} {Q : Value → Shared → Prop} (F : Fr h₀ L s.heap m) (N : News h₀ L s.heap news) (hi : StrsAre its (Y.map S)) (hx : x ∈ Y) (U : ∀ q : List Value, Upd D (listOf its.toArray n) (listOf q.toArray (n + 1)) news (news' q)) (hz : its.length ≤ 1000)
    (h : ∀ h' q, StrsAre q ((Y.erase x).map S) → Fr h₀ L h' m → News h₀ L h' (news' q) → Q .none { s with heap := h' }) : wpAny (model prog w) A (call (.builtin "list.remove") [.ref D, .str (S x) t]) Q E s := by
  (refine qE1A3 (erase_at hx) fun j h1 h2 h3 => ?_)
  (refine qE2A4 ((U (its.eraseIdx j)).split) fun pre post e1 e2 a' b' => ?_)
  subst e1
  have z := N (D, listOf its.toArray n) (List.mem_append.mpr (.inr (.head _)))
  have hl : its.length = Y.length := by rw [hi.len_eq, List.length_map]
  have hj : j < Y.length := (List.getElem?_eq_some_iff.mp h1).1
  have at' : ∀ i (hi' : i < its.length), ∃ q u, Y[i]? = some q ∧ its[i] = .str (S q) u := fun i hi' => by
    have hy : i < Y.length := by lia
    have e : (Y.map S)[i]? = some (S Y[i]) := by simp [hy]
    (refine qE1A1 (hi.at e) fun u hu => ?_)
    refine ⟨Y[i], u, by simp [hy], ?_⟩
    rw [List.getElem?_eq_getElem hi'] at hu
    exact Option.some.inj hu
  have hzz : its.toArray.size ≤ sizeLine := by rw [sizeLine_eq]; simp; lia
  refine call_meets PySem.F.slot_list_remove ⟨_, z.1, rfl⟩ PySem.F.entry_list_remove (PySem.F.args_list_remove_2 _ _)
    (MeetsSeq.list_remove D its.toArray n (.str (S x) t) (isStrOf (S x)) (fun y hy => eq_isStrOf (S x) t hi y (by simpa using hy)) j (by simp; lia) ?_ (fun i hi' hlt => ?_) hzz)
    ⟨z.1, h _ (its.eraseIdx j) (by rw [h3, map_ei]; exact strs_eraseIdx hi j) (F.change (Heap.SameBut.update ..) z.2.1 z.2.2) ?_⟩
  · (refine qE2A2 (at' j (by lia)) fun q u hq hu => ?_)
    rw [h1] at hq
    cases hq
    simp [hu, isStrOf]
  · have hi'' : i < its.length := by simpa using hi'
    (refine qE2A2 (at' i hi'') fun q u hq hu => ?_)
    have hne := h2 i q hlt hq
    simp only [List.getElem_toArray, hu, isStrOf]
    simpa using fun e => hne (S_inj e)
  · rw [e2]
    refine kl_turn _ N a' b' ?_ ?_
    · apply Array.toList_inj.mp
      simp [Array.toList_eraseIdxIfInBounds]
    · have hlen : (its.eraseIdx j).length = its.length - 1 := List.length_eraseIdx_of_lt (by lia)
      rw [List.size_toArray, List.size_toArray, hlen]; lia
theorem rm_Sout {Q : Value → Shared → Prop} (hA : A.handled = none) (N : News h₀ L s.heap news) (hm : (D, listOf its.toArray n) ∈ news) (hi : StrsAre its (Y.map S)) (hx : x ∉ Y)
    (hE : ∀ h' tk e, Heap.NewExc s.heap h' e "ValueError" → E (.ref e) { s with heap := h', toks := tk }) : wpAny (model prog w) A (call (.builtin "list.remove") [.ref D, .str (S x) t]) Q E s := by
  have z := N _ hm
  refine call_meets PySem.F.slot_list_remove ⟨_, z.1, rfl⟩ PySem.F.entry_list_remove (PySem.F.args_list_remove_2 _ _)
    (MeetsSeq.list_remove_none D its.toArray n (.str (S x) t) (isStrOf (S x)) (fun y hy => eq_isStrOf (S x) t hi y (by simpa using hy)) (fun i hi' => ?_)) ⟨z.1, hA, hE⟩
  have hi'' : i < its.length := by simpa using hi'
  have hl : its.length = Y.length := by rw [hi.len_eq, List.length_map]
  have hy : i < Y.length := by lia
  have e : (Y.map S)[i]? = some (S Y[i]) := by simp [hy]
  (refine qE1A1 (hi.at e) fun u hu => ?_)
  rw [List.getElem?_eq_getElem hi''] at hu
  have hu' := Option.some.inj hu
  simp only [List.getElem_toArray, hu', isStrOf]
  have hne : Y[i] ≠ x := fun q => hx (q ▸ List.getElem_mem hy)
  simpa using fun e => hne (S_inj e)
end
end
-- S1
section
set_option maxRecDepth 100000
set_option maxHeartbeats 1000000
noncomputable def Rise (xs : Array Nat) : Prop := xs.toList.Pairwise (· < ·)
theorem Rise.lt {xs : Array Nat} (h : Rise xs) {i j : Nat} {a b : Nat} (hij : i < j) (hi : xs[i]? = some a) (hj : xs[j]? = some b) : a < b := by
  rw [← Array.getElem?_toList] at hi hj
  (refine qE1A1 (List.getElem?_eq_some_iff.mp hi) fun h1 e1 => ?_)
  (refine qE1A1 (List.getElem?_eq_some_iff.mp hj) fun h2 e2 => ?_)
  rw [← e1, ← e2]
  exact List.pairwise_iff_getElem.mp h i j h1 h2 hij
theorem below_go {xs : Array Nat} (hr : Rise xs) (j : Nat) : ∀ (fuel lo hi : Nat), lo ≤ hi → hi ≤ xs.size → hi - lo ≤ fuel → (∀ i a, i < lo → xs[i]? = some a → a < j) → (∀ i a, hi ≤ i → xs[i]? = some a → j ≤ a) →
    SetTable.below.go xs j fuel lo hi ≤ xs.size ∧ (∀ i a, i < SetTable.below.go xs j fuel lo hi → xs[i]? = some a → a < j) ∧ (∀ i a, SetTable.below.go xs j fuel lo hi ≤ i → xs[i]? = some a → j ≤ a)
  | 0, lo, hi, h1, h2, h3, h4, h5 => by
    have : lo = hi := ar6 (Nat.le_zero.mp h3) h1
    subst this
    exact ⟨h2, h4, h5⟩
  | fuel + 1, lo, hi, h1, h2, h3, h4, h5 => by
    unfold SetTable.below.go
    split
    · rename_i hlt
      have hm1 : (lo + hi) / 2 < hi := ar26 hlt
      have hm0 : lo ≤ (lo + hi) / 2 := ar27 hlt
      have hg : xs[(lo + hi) / 2]? = some (xs.getD ((lo + hi) / 2) j) := by
        have : (lo + hi) / 2 < xs.size := Nat.lt_of_lt_of_le hm1 h2
        simp [Array.getD, this]
      dsimp only
      split
      · rename_i hv
        refine below_go hr j fuel _ _ hm1 h2 (ar13 h3 hm0) (fun i a hi' ha => ?_) h5
        rcases Nat.lt_or_ge i ((lo + hi) / 2) with q | q
        · exact Nat.lt_trans (hr.lt q ha hg) hv
        · have : i = (lo + hi) / 2 := Nat.le_antisymm (Nat.le_of_lt_succ hi') q
          rw [this, hg] at ha
          cases ha; exact hv
      · rename_i hv
        refine below_go hr j fuel _ _ hm0 (Nat.le_trans (Nat.le_of_lt hm1) h2) (ar14 h3 hm0 hm1) h4 (fun i a hi' ha => ?_)
        rcases Nat.lt_or_ge ((lo + hi) / 2) i with q | q
        · exact Nat.le_of_lt (Nat.lt_of_le_of_lt (Nat.le_of_not_lt hv) (hr.lt q hg ha))
        · have : i = (lo + hi) / 2 := Nat.le_antisymm q hi'
          rw [this, hg] at ha
          cases ha; exact Nat.le_of_not_lt hv
    · have : lo = hi := Nat.le_antisymm h1 (Nat.not_lt.mp (by assumption))
      subst this
      exact ⟨h2, h4, h5⟩
theorem below_spec {xs : Array Nat} (hr : Rise xs) (j : Nat) : SetTable.below xs j ≤ xs.size ∧ (∀ i a, i < SetTable.below xs j → xs[i]? = some a → a < j) ∧ (∀ i a, SetTable.below xs j ≤ i → xs[i]? = some a → j ≤ a) :=
  below_go hr j xs.size 0 xs.size (Nat.zero_le _) (Nat.le_refl _) (Nat.le_refl _) (fun i _ h => absurd h (Nat.not_lt_zero i)) (fun i a h ha => by
    have := (Array.getElem?_eq_some_iff.mp ha).1; lia)
theorem below_next {xs : Array Nat} (hr : Rise xs) {i : Nat} {a : Nat} (hi : xs[i]? = some a) : SetTable.below xs (a + 1) = i + 1 := by
  (refine qE0A3 (below_spec hr (a + 1)) fun h1 h2 h3 => ?_)
  have hlt := (Array.getElem?_eq_some_iff.mp hi).1
  rcases Nat.lt_trichotomy (SetTable.below xs (a + 1)) (i + 1) with q | q | q
  · have := h3 i a (by lia) hi; lia
  · exact q
  · have hl : i + 1 < xs.size := by lia
    have hg : xs[i + 1]? = some xs[i + 1] := Array.getElem?_eq_getElem hl
    have := h2 (i + 1) _ q hg
    have := hr.lt (Nat.lt_succ_self i) hi hg
    lia
theorem below_zero {xs : Array Nat} (hr : Rise xs) : SetTable.below xs 0 = 0 := by
  (refine qE0A3 (below_spec hr 0) fun h1 h2 h3 => ?_)
  rcases Nat.eq_zero_or_pos (SetTable.below xs 0) with q | q
  · exact q
  · have hl : 0 < xs.size := by lia
    have := h2 0 xs[0] q (Array.getElem?_eq_getElem hl)
    lia
theorem rise_insert {xs : Array Nat} (hr : Rise xs) {j : Nat} (hj : xs[SetTable.below xs j]? ≠ some j) : Rise (SetTable.insertAt xs (SetTable.below xs j) j) := by
  (refine qE0A3 (below_spec hr j) fun h1 h2 h3 => ?_)
  unfold Rise
  rw [SetTable.toList_insertAt]
  have hr' : xs.toList.Pairwise (· < ·) := hr
  refine List.pairwise_append.mpr ⟨hr'.sublist (List.take_sublist ..), List.pairwise_cons.mpr ⟨fun b hb => ?_, hr'.sublist (List.drop_sublist ..)⟩, fun a ha b hb => ?_⟩
  · (refine qE1A1 (List.mem_iff_getElem?.mp hb) fun i hi => ?_)
    rw [List.getElem?_drop, Array.getElem?_toList] at hi
    have := h3 _ b (Nat.le_add_right _ i) hi
    rcases Nat.eq_or_lt_of_le this with q | q
    · exfalso
      subst q
      cases i with
      | zero => exact hj hi
      | succ i =>
        have hl := (Array.getElem?_eq_some_iff.mp hi).1
        have hg : xs[SetTable.below xs j]? = some xs[SetTable.below xs j] := Array.getElem?_eq_getElem (by lia)
        have q1 := h3 _ _ (Nat.le_refl _) hg
        have q2 := hr.lt (by lia) hg hi
        lia
    · exact q
  · (refine qE1A1 (List.mem_iff_getElem?.mp ha) fun i hi => ?_)
    have hil : i < SetTable.below xs j := by
      have := (List.getElem?_eq_some_iff.mp hi).1
      rw [List.length_take] at this; exact Nat.lt_of_lt_of_le this (Nat.min_le_left _ _)
    rw [List.getElem?_take_of_lt hil, Array.getElem?_toList] at hi
    have hlt := h2 i a hil hi
    rcases List.mem_cons.mp hb with rfl | hb
    · exact hlt
    · (refine qE1A1 (List.mem_iff_getElem?.mp hb) fun k hk => ?_)
      rw [List.getElem?_drop, Array.getElem?_toList] at hk
      exact Nat.lt_of_lt_of_le hlt (h3 _ b (Nat.le_add_right _ k) hk)
structure TabG (t : SetTable) (led : Bool) : Prop where
  led : t.led = led
  rise : Rise t.place
  none : t.dummies = #[]
theorem has_none (j : Nat) : SetTable.has #[] j = false := by
  unfold SetTable.has
  simp
theorem probe_empty {t : SetTable} (hd : t.dummies = #[]) {hashAt : Nat → Int} {h : Int} : ∀ (fuel : Nat) (p : SetTable.Probe) (j : Nat) (d : Option Nat), p.dummy = Option.none → SetTable.probe.go t hashAt h fuel p = some (.empty j d) → d = Option.none ∧ t.slot j = .empty
  | 0, _, _, _, _, e => by simp [SetTable.probe.go] at e
  | fuel + 1, p, j, d, hp, e => by
    have hnd : ∀ k, t.slot k ≠ .dummy := fun k q => by
      unfold SetTable.slot at q
      rw [hd] at q
      simp only [has_none] at q
      split at q <;> simp at q
    have adv : ∀ q : SetTable.Probe, (t.advance q).dummy = q.dummy := fun q => by
      unfold SetTable.advance
      split
      · rfl
      · rfl
    unfold SetTable.probe.go at e
    cases hs : t.slot p.j with
    | empty =>
      rw [hs] at e
      simp only [Option.some.injEq, SetTable.Met.empty.injEq] at e
      (refine qE0A2 (e) fun zqr0 zqr1 => ?_; (try clear e); subst zqr0; subst zqr1)
      exact ⟨hp, hs⟩
    | dummy => exact absurd hs (hnd _)
    | live i =>
      rw [hs] at e
      dsimp only at e
      split at e
      · simp at e
      · exact probe_empty hd fuel _ j d ((adv p).trans hp) e
theorem standIn_good {t : SetTable} {led : Bool} (h : TabG t led) (n : Nat) : TabG (t.standIn n) led := by
  refine ⟨h.led, ?_, rfl⟩
  show (Array.range n).toList.Pairwise (· < ·)
  rw [Array.toList_range]
  exact List.pairwise_lt_range
theorem orStandIn_good {t : SetTable} {led : Bool} (h : TabG t led) (n : Nat) : TabG (t.orStandIn n) led := by
  unfold SetTable.orStandIn
  split
  · exact h
  · exact standIn_good h n
theorem layNew_good {t : SetTable} {led : Bool} (g : TabG t led) (es : Array (Int × Value)) (h : Int) (x : Value) : TabG (layNew t es h x).2.1 led := by
  unfold layNew
  cases hf : t.freeSlot h with
  | none => exact standIn_good g _
  | some q =>
    obtain ⟨slot, wd⟩ := q
    dsimp only
    refine orStandIn_good ?_ _
    unfold SetTable.freeSlot at hf
    cases hp : t.probe (fun _ => h + 1) h (t.probeStart h) with
    | none => rw [hp] at hf; simp at hf
    | some m =>
      rw [hp] at hf
      cases m with
      | candidate => simp at hf
      | empty j d =>
        (refine qE0A2 (probe_empty g.none _ _ j d rfl hp) fun zqr0 hs => ?_; subst zqr0)
        simp at hf
        (refine qE0A2 (hf) fun zqr0 _ => ?_; (try clear hf); subst zqr0)
        refine ⟨g.led, ?_, ?_⟩
        · refine rise_insert g.rise ?_
          intro q
          unfold SetTable.slot at hs
          dsimp only at hs
          rw [q] at hs
          simp at hs
        · show (if SetTable.has t.dummies j then _ else t.dummies) = #[]
          rw [g.none, has_none]; rfl
theorem relayAll_good {t : SetTable} {led : Bool} (g : TabG t led) (es : Array (Int × Value)) (wanted : Nat) : TabG (relayAll t es wanted).2.1 led := by
  unfold relayAll
  cases hl : t.relaid (es.map (·.1)) wanted with
  | none => exact standIn_good g _
  | some q =>
    obtain ⟨t', order⟩ := q
    dsimp only
    split
    · unfold SetTable.relaid SetTable.laid at hl
      simp only [Option.bind_eq_bind, Option.bind_eq_some_iff, Option.some.injEq, Prod.mk.injEq, Option.pure_def] at hl
      (refine qE1A3 (hl) fun owner _ zqr2 _ => ?_; (try clear hl); subst zqr2)
      refine ⟨g.led, ?_, rfl⟩
      unfold Rise
      dsimp only
      have hs : ((List.filterMap (fun j => Option.map (fun x => (j, x)) (owner.getD j none)) (List.range (SetTable.sizeAbove wanted - 1 + 1))).map (·.1)).Sublist (List.range (SetTable.sizeAbove wanted - 1 + 1)) := by
        rw [List.map_filterMap]
        generalize List.range (SetTable.sizeAbove wanted - 1 + 1) = R
        induction R with
        | nil => exact List.Sublist.slnil
        | cons a r ih =>
          rw [List.filterMap_cons]
          cases owner.getD a none with
          | none => exact ih.cons _
          | some v => exact ih.cons_cons _
      exact List.Pairwise.sublist hs List.pairwise_lt_range
    · exact standIn_good g _
theorem fresh_good (led : Bool) : TabG (SetTable.fresh 0 0 led) led := ⟨rfl, List.Pairwise.nil, rfl⟩
theorem off_good {t : SetTable} {led : Bool} (g : TabG t led) : TabG { t with plain := false } led := ⟨g.led, g.rise, g.none⟩
end
-- B1
section
set_option maxRecDepth 100000
set_option maxHeartbeats 3200000
section
variable {prog : Program} {w : World} {A : Around} {E : Value → Shared → Prop} {s : Shared} {K : Type} [DecidableEq K] {knd : KeyKind prog w K}
noncomputable def SetGK {prog : Program} {w : World} {K : Type} [DecidableEq K] (knd : KeyKind prog w K) (h : Heap) (a : Addr) (S : K → Bool) (n : Nat) (led : Bool) : Prop :=
  ∃ o es ep t, h.get? a = some o ∧ o.ExactSet ∧ o.data = .set es ep t ∧ ElemsOf knd es.toList ∧ (∀ k, S k = true ↔ ∃ e ∈ es.toList, knd.is k e.2 = true)
    ∧ es.size < scanBound ∧ t.fits es.size = true ∧ es.size = n ∧ TabG t led
theorem SetGK.store {h : Heap} {a : Addr} {o : Obj} {es : Array (Int × Value)} {ep : Nat} {t : SetTable} {led : Bool} (ho : h.get? a = some o) (hex : o.ExactSet) (hd : o.data = .set es ep t)
    {es' : Array (Int × Value)} {t' : SetTable} {S' : K → Bool} (hel : ElemsOf knd es'.toList) (hmem : ∀ k, S' k = true ↔ ∃ e ∈ es'.toList, knd.is k e.2 = true) (hb : es'.size < scanBound) (hf : t'.fits es'.size = true) (hg : TabG t' led) :
    (h.update a (Obj.putSet es' t')).get? a = some { o with data := .set es' (ep + 1) t' } ∧ SetGK knd (h.update a (Obj.putSet es' t')) a S' es'.size led := by
  (refine qE0A2 (SetOf_store (knd := knd) ho hex hd hel hmem hb hf) fun g1 _ => ?_)
  exact ⟨g1, _, es', ep + 1, t', g1, hex, rfl, hel, hmem, hb, hf, rfl, hg⟩
theorem addTailK {g : Bool → Sem Unit} (hg : ∀ (b : Bool) (s₁ : Shared) (Q' : Unit → Shared → Prop), Q' () s₁ → wpAny (model prog w) A (g b) Q' E s₁)
    {a : Addr} {o : Obj} {es : Array (Int × Value)} {ep : Nat} {t : SetTable} (ho : s.heap.get? a = some o) (hex : o.ExactSet) (hd : o.data = .set es ep t)
    {es1 : Array (Int × Value)} {t2 : SetTable} {S' : K → Bool} {led : Bool} (hel1 : ElemsOf knd es1.toList) (hmem1 : ∀ k', S' k' = true ↔ ∃ e ∈ es1.toList, knd.is k' e.2 = true)
    (hb1 : es1.size < scanBound) (hf2 : t2.fits es1.size = true) (hgd : TabG t2 led) {wasDummy : Bool} {R : Option Bool → Shared → Prop}
    (h : ∀ h', Heap.SameBut a s.heap h' → SetGK knd h' a S' es1.size led → R (some true) { s with heap := h' }) :
    wpAny (model prog w) A (do
        storeSet a es1 t2
        if (!wasDummy && t2.tooFull) = true then do
            g (relayAll t2 es1 (SetTable.grown es1.size)).2.2
            storeSet a (relayAll t2 es1 (SetTable.grown es1.size)).1 (relayAll t2 es1 (SetTable.grown es1.size)).2.1
            pure (some true)
          else pure (some true)) R E s := by
  refine wpAny_bind (wpAny_storeSet_of ho hd ?_ (fits_of_scanBound hb1))
  (refine qE0A2 (SetGK.store ho hex hd hel1 hmem1 hb1 hf2 hgd) fun ho1 hS1 => ?_)
  have hsb1 := Heap.SameBut.update s.heap a (Obj.putSet es1 t2)
  split
  · have hp := relayAll_perm t2 es1 (SetTable.grown es1.size)
    have hfr := relayAll_fits t2 es1 (SetTable.grown es1.size)
    have hgg := relayAll_good hgd es1 (SetTable.grown es1.size)
    generalize hRl : relayAll t2 es1 (SetTable.grown es1.size) = Rl at hp hfr hgg ⊢
    obtain ⟨es2, t3, gave2⟩ := Rl
    dsimp only at hp hfr hgg ⊢
    have hel2 : ElemsOf knd es2.toList := hel1.perm hp
    have hmem2 : ∀ k', S' k' = true ↔ ∃ e ∈ es2.toList, knd.is k' e.2 = true := fun k' => (hmem1 k').trans ⟨fun ⟨e, he, q⟩ => ⟨e, hp.mem_iff.mpr he, q⟩, fun ⟨e, he, q⟩ => ⟨e, hp.mem_iff.mp he, q⟩⟩
    have hsz : es2.size = es1.size := by rw [← Array.length_toList, hp.length_eq, Array.length_toList]
    have hb2 : es2.size < scanBound := by rw [hsz]; exact hb1
    refine wpAny_bind (hg _ _ _ ?_)
    refine wpAny_bind (wpAny_storeSet_of ho1 rfl ?_ (fits_of_scanBound hb2))
    (refine qE0A2 (SetGK.store ho1 hex rfl hel2 hmem2 hb2 hfr hgg) fun _ hS2 => ?_)
    rw [hsz] at hS2
    exact wpAny_pure (h _ (hsb1.trans (Heap.SameBut.update _ a _)) hS2)
  · exact wpAny_pure (h _ hsb1 hS1)
theorem addHashedK {a : Addr} {S : K → Bool} {n : Nat} {k : K} {x : Value} {led : Bool} {Q : Bool → Shared → Prop} (hkey : knd.is k x = true) (hsc : x.scannable = true) (hS : SetGK knd s.heap a S n led)
    (hroom : n + 1 < scanBound)
    (h : ∀ h', Heap.SameBut a s.heap h' → SetGK knd h' a (fun k' => S k' || decide (k' = k)) (if S k then n else n + 1) led → Q (!S k) { s with heap := h' }) :
    wpAny (model prog w) A (setAddHashed a x (knd.hash k)) Q E s := by
  obtain ⟨o, es, ep, t, ho, hex, hd, hel, hmem, hb, hf, hn, hgd⟩ := hS
  have hb1 : es.size + 1 < scanBound := by rw [hn]; exact hroom
  unfold setAddHashed setAddHashedIn
  refine wpAny_holding (wpAny_bind (wpAny_setState_of ho hd hf ?_))
  dsimp only
  rw [byScan_of hsc hb hel]
  simp only [↓reduceIte]
  unfold setAddByScan
  refine wpAny_bind ?_
  refine wpAny_bind (wpAny_rule ?_)
  refine wpAny_bind (wpAny_setScan_of hkey ho hd hf hel ?_)
  cases hr : List.findIdx? (fun e => knd.is k e.2) es.toList with
  | some j =>
    dsimp only
    (refine qE1A2 (List.findIdx?_eq_some_iff_getElem.mp hr) fun hj hpj _ => ?_)
    have hSk : S k = true := (hmem k).mpr ⟨es.toList[j], List.getElem_mem hj, hpj⟩
    refine wpAny_pure (wpAny_pure ?_)
    have e : s = { s with heap := s.heap } := by cases s; rfl
    have := h s.heap (Heap.SameBut.refl a s.heap) ⟨o, es, ep, t, ho, hex, hd, hel, fun k' => by
      rw [Bool.or_eq_true, decide_eq_true_eq, ← hmem k']
      exact ⟨fun hk => hk.elim id (fun e => e ▸ hSk), .inl⟩, hb, hf, by rw [hSk]; exact hn, hgd⟩
    rw [hSk] at this; rw [e]; exact this
  | none =>
    dsimp only
    have hSk : S k = false := by
      cases hk : S k with
      | false => rfl
      | true => obtain ⟨e, he, hp⟩ := (hmem k).mp hk; have := List.findIdx?_eq_none_iff.mp hr e he; rw [hp] at this; exact Bool.noConfusion this
    have hgw : ∀ (b : Bool) {s₁ : Shared} {Q' : Unit → Shared → Prop}, Q' () s₁ → wpAny (model prog w) A (match b with | true => rule "set.scan.the-table-gave-way" | false => pure ()) Q' E s₁ :=
      fun b s₁ Q' hq => by cases b <;> first | exact wpAny_pure hq | exact wpAny_rule hq
    have hperm := layNew_perm t es (knd.hash k) x
    have hfits := layNew_fits t es (knd.hash k) x
    have hgood := layNew_good hgd es (knd.hash k) x
    generalize hL : layNew t es (knd.hash k) x = L at hperm hfits hgood ⊢
    obtain ⟨es1, t1, wasDummy, gave⟩ := L
    dsimp only at hperm hfits hgood ⊢
    rw [Array.toList_push] at hperm
    have hel1 : ElemsOf knd es1.toList := (hel.push hkey hsc).perm hperm
    have hmem1 : ∀ k', (S k' || decide (k' = k)) = true ↔ ∃ e ∈ es1.toList, knd.is k' e.2 = true := mem_push_iff hkey hmem hperm
    have hb1' : es1.size < scanBound := by rw [← Array.length_toList, hperm.length_eq, List.length_append, Array.length_toList]; simpa using hb1
    refine wpAny_bind (hgw _ ?_)
    have hsz1 : es1.size = n + 1 := by rw [← Array.length_toList, hperm.length_eq, List.length_append, Array.length_toList, hn]; rfl
    have hend : ∀ h', Heap.SameBut a s.heap h' → SetGK knd h' a (fun k' => S k' || decide (k' = k)) es1.size led → Q true { s with heap := h' } := by
      intro h' hsb hS'; have := h h' hsb; rw [hSk] at this; rw [hsz1] at hS'; exact this hS'
    split
    · refine wpAny_bind ?_
      rw [hashByValue_scannable 8 hsc]
      refine wpAny_pure ?_
      refine addTailK ?_ ho hex hd hel1 hmem1 hb1' ?_ (led := led) ?_ ?_
      · intro b s₁ Q' hq; cases b <;> first | exact wpAny_pure hq | exact wpAny_rule hq
      · split
        · exact hfits
        · exact SetTable.fits_plain_off hfits
      · split
        · exact hgood
        · exact off_good hgood
      · intro h' hsb hS'; dsimp only; exact wpAny_pure (hend h' hsb hS')
    · refine wpAny_bind (wpAny_pure ?_)
      simp only [↓reduceIte]
      refine addTailK ?_ ho hex hd hel1 hmem1 hb1' hfits hgood ?_
      · intro b s₁ Q' hq; cases b <;> first | exact wpAny_pure hq | exact wpAny_rule hq
      · intro h' hsb hS'; dsimp only; exact wpAny_pure (hend h' hsb hS')
theorem SetGK.congr {h : Heap} {a : Addr} {S S' : K → Bool} {n n' : Nat} {led : Bool} (hS : SetGK knd h a S n led) (e : ∀ k, S k = S' k) (en : n = n') : SetGK knd h a S' n' led := by
  have : S = S' := funext e
  subst this; subst en; exact hS
theorem SetGK.at {h h' : Heap} {a : Addr} {S : K → Bool} {n : Nat} {led : Bool} (hS : SetGK knd h a S n led) (k : ∀ o, h.get? a = some o → h'.get? a = some o) : SetGK knd h' a S n led := by
  (refine qE4A2 (hS) fun o es ep t ho r => ?_; (try clear hS))
  exact ⟨o, es, ep, t, k o ho, r⟩
end
end
-- S2
section
set_option maxRecDepth 100000
set_option maxHeartbeats 3200000
section
variable {prog : Program} {w : World} {A : Around} {E : Value → Shared → Prop} {s : Shared}
abbrev SetG (prog : Program) (w : World) (h : Heap) (a : Addr) (S : Int → Bool) (n : Nat) (led : Bool) : Prop := SetGK (intKind prog w) h a S n led
variable {R : Result → Shared → Prop} {I : Addr} {fp wr : List Addr} {G : Array GenState → Array GenState → Prop} {n : Nat} {P : Nat → Value → Prop} {St : Nat → Shared → Prop}
theorem updLoopG (W : WalksS prog w A.in1 I fp wr G n P St) (S : Addr) (hSf : S ∉ fp) {led : Bool}
    (val : Nat → Int) (hval : ∀ i v, P i v → ∃ t, v = .int (val i) t) (hb : n + 1 < scanBound) :
    ∀ (k i : Nat) (s : Shared), n - i = k → i ≤ n → St i s →
      SetG prog w s.heap S (fun k' => (firstMet val i).any (· == k')) (firstMet val i).length led →
      (∀ s', Moved (S :: wr) G s s' → SetG prog w s'.heap S (fun k' => (firstMet val n).any (· == k')) (firstMet val n).length led → R (.ok (.ret .none)) s') →
      codeAny (model prog w) A (.builtin "set.update.loop" ⟨[.ref S, .ref I], []⟩) R s := by
  have hSw : S ∉ wr := fun h => hSf (W.sub _ h)
  have hsub : ∀ b ∈ wr, b ∈ S :: wr := fun b hb => List.mem_cons_of_mem _ hb
  intro k
  induction k with
  | zero =>
    intro i s hk hi hst hS hR
    have hin : i = n := by (with_reducible exact ar6 ‹_› ‹_›)
    subst hin
    refine codeAny_builtin F.entry_set_update_loop ?_
    rw [Around.under_plainId F.plain_set_update_loop _]
    show wpAny _ A.in1 (pyNext (.ref I) >>= _) _ _ s
    refine wpAny_bind (W.done s _ _ hst fun s' hm => ?_)
    show wpAny _ A.in1 (ret Value.none) _ _ s'
    exact wpAny_pure (hR s' (hm.mono hsub) (SetGK.at hS fun o ho => hm.heap S _ hSw ho))
  | succ k ih =>
    intro i s hk hi hst hS hR
    have hlt : i < n := by (with_reducible exact ar5 ‹_›)
    refine codeAny_builtin F.entry_set_update_loop ?_
    rw [Around.under_plainId F.plain_set_update_loop _]
    show wpAny _ A.in1 (pyNext (.ref I) >>= _) _ _ s
    refine wpAny_bind (W.item i s _ _ hlt hst fun v s' hP hst' hm => ?_)
    (refine qE1A1 (hval i v hP) fun t zqr1 => ?_; subst zqr1)
    have hS' := SetGK.at hS (h' := s'.heap) fun o ho => hm.heap S _ hSw ho
    show wpAny _ A.in1 (holding [Value.int (val i) t] (setAdd S (.int (val i) t)) >>= _) _ _ s'
    refine wpAny_bind (wpAny_holding ?_)
    unfold setAdd
    refine wpAny_holding ?_
    refine wpAny_bind ((intKind prog w).pyHash (k := val i) (intKind_is _ _ _ _) ?_)
    have hroom : (firstMet val i).length + 1 < scanBound := by have := firstMet_length_le val i; lia
    refine addHashedK (knd := intKind prog w) (s := { s' with toks := s'.toks + 1 }) (intKind_is _ _ _ _) rfl hS' hroom fun h' hsb hS2 => ?_
    have hSi : SetG prog w h' S (fun k' => (firstMet val (i + 1)).any (· == k')) (firstMet val (i + 1)).length led :=
      SetGK.congr hS2 (fun k' => by rw [firstMet_succ, step_any]) (by rw [firstMet_succ, step_length])
    refine wpAny_pure ⟨plainId_quiet F.plain_set_update_loop _, ih (i + 1) _ (by (with_reducible exact ar2 ‹_›)) hlt (W.frame _ s' _ _ hst' (Nat.le_succ _) fun b hb o e => ?_) hSi fun s'' hm'' hS'' => ?_⟩
    · rw [hsb.2 b (fun h : b = S => hSf (by rw [← h]; exact hb))]; exact e
    · refine hR s'' (Moved.trans W.gtrans ((hm.mono hsub).then_heap (Nat.le_succ _) fun b o hb e => ?_) hm'') hS''
      rw [hsb.2 b (fun h : b = S => hb (by rw [h]; exact List.mem_cons_self))]; exact e
end
end
-- S3
section
set_option maxRecDepth 100000
set_option maxHeartbeats 3200000
section
variable {prog : Program} {w : World} {A : Around} {E : Value → Shared → Prop} {s : Shared}
noncomputable def byText (w : World) : Bool := w.params.followText "set-order"
theorem setNewG (a : Value) {Q₁ : Value → Shared → Prop}
    (h : Q₁ (.ref s.heap.objs.size) { s with heap := s.heap.push { cls := .type "set", dict := none, data := .set #[] 0 (.fresh 0 0 (!byText w)) } }) :
    codeAny (model prog w) A (.call (.builtin "set.__new__") ⟨[.type "set", a], []⟩) (wants Q₁ E) s := by
  refine codeAny_of_tree ?_
  show wpAny _ A.in1 (do checkBuiltinCall "set.__new__" ⟨[.type "set", a], []⟩; again (.builtin "set.__new__" ⟨[.type "set", a], []⟩)) _ _ s
  refine wpAny_bind (wpAny_of_eq (F.newCall_set_1 a) (wpAny_pure ⟨plainId_quiet F.plain_set_new _, codeAny_builtin F.entry_set_new ?_⟩))
  rw [Around.under_plainId F.plain_set_new _]
  unfold Builtin.«set.__new__» Builtin.Frozenset.newClass
  have hsub := sub_set_self
  obtain ⟨hp, g, d, tk, os⟩ := s
  dsimp only
  wp_walk
  refine wpAny_askSetting (wpAny_pure ?_)
  dsimp only
  simp only [newObj]
  refine wpAny_bind (wpAny_alloc (wpAny_pure ?_))
  exact wpAny_pure h
theorem setListG {l : Addr} {items : Array Value} {ns : List Int} {Q : Value → Shared → Prop}
    (hh : A.handled = none) (hl : s.heap.IsList l items) (hi : IntsAre items.toList ns) (hb : items.size + 1 < scanBound)
    (h : ∀ (h' : Heap) (tk : Nat), SetG prog w h' s.heap.objs.size (fun k' => (firstMet (fun i => ns.getD i 0) items.size).any (· == k')) (firstMet (fun i => ns.getD i 0) items.size).length (!byText w) →
      (∀ b o, b < s.heap.objs.size → s.heap.get? b = some o → h'.get? b = some o) → Q (.ref s.heap.objs.size) { s with heap := h', toks := tk }) :
    wpAny (model prog w) A (call (.type "set") [.ref l]) Q E s := by
  (refine qE2A1 (F.called_set.mro) fun c tl hmro => ?_)
  have hmade := F.called_set.made
  have hsub := F.called_set.sub
  refine wpAny_call (codeAny_of_tree ?_)
  show wpAny _ _ (callAny (.type "set") _) _ _ _
  refine wpAny_pure ⟨Code.quiet_builtin _ (by decide +kernel), codeAny_builtin F.entry_type_call ?_⟩
  rw [Around.under_plain (weight_type_call_type "set" [.ref l] []) rfl]
  have h1 := F.called_set.notType
  have h2 := F.called_set.canCreate
  have hct := F.typeCall_set_1 (.ref l)
  repeat (any_goals (first | assumption | wp_step))
  refine codeAny_mono (setNewG (.ref l) (E := E) (Q₁ := fun obj s₁ => obj = .ref s.heap.objs.size ∧ s₁ = { s with heap := s.heap.push { cls := .type "set", dict := none, data := .set #[] 0 (.fresh 0 0 (!byText w)) } }) ⟨rfl, rfl⟩) fun r s₁ hr => ?_
  cases r with
  | error e => exact hr
  | ok fl =>
    cases fl with
    | ret obj =>
      (refine qE0A2 (hr) fun zqr0 zqr1 => ?_; (try clear hr); subst zqr0; subst zqr1)
      have hS : (s.heap.push { cls := .type "set", dict := none, data := .set #[] 0 (.fresh 0 0 (!byText w)) }).get? s.heap.objs.size = some { cls := .type "set", dict := none, data := .set #[] 0 (.fresh 0 0 (!byText w)) } := Heap.get?_push_size _ rfl
      have hT : Shared.TypeIs { s with heap := s.heap.push { cls := .type "set", dict := none, data := .set #[] 0 (.fresh 0 0 (!byText w)) } } (.ref s.heap.objs.size) "set" := ⟨_, hS, rfl⟩
      have hli := F.called_set.init.lookup
      have hbi := F.called_set.init.bind (.ref s.heap.objs.size)
      repeat (any_goals (first | assumption | wp_step))
      refine codeAny_mono (codeAny_call_builtin (R := wants (fun r s₂ => r = .none ∧ ∃ h' tk, s₂ = { s with heap := h', toks := tk } ∧
          SetG prog w h' s.heap.objs.size (fun k' => (firstMet (fun i => ns.getD i 0) items.size).any (· == k')) (firstMet (fun i => ns.getD i 0) items.size).length (!byText w) ∧
          (∀ b o, b < s.heap.objs.size → s.heap.get? b = some o → h'.get? b = some o)) E) F.called_set.init.plain F.entry_set_init (check_set_init_1 hT ?_)) fun r₂ s₂ hr₂ => ?_
      · obtain ⟨ol, hol, hcl, nl, hdl⟩ := hl
        obtain ⟨ocls, odict, odata, oslots⟩ := ol
        simp only at hcl hdl
        subst hcl; subst hdl
        have hol' : (s.heap.push { cls := .type "set", dict := none, data := .set #[] 0 (.fresh 0 0 (!byText w)) }).get? l = some { cls := .type "list", dict := odict, data := .seq items nl, slots := oslots } := Heap.get?_push_of_some _ hol
        have hsls := F.sub_list_set
        have hslf := F.sub_list_frozenset
        have hne : (Value.type "list" == Value.type "dict") = false := by decide
        have hl1 : (s.heap.push { cls := .type "set", dict := none, data := .set #[] 0 (.fresh 0 0 (!byText w)) }).IsList l items := ⟨_, hol', rfl, nl, rfl⟩
        unfold Builtin.«set.__init__» noKeywords Builtin.Frozenset.updateFrom
        generalize hPI : pyIter = PI
        wp_walk
        subst hPI
        refine wpAny_pyIter_list hl1 ?_
        refine wpAny_bind (wpAny_runValue ?_)
        have hlS : l < s.heap.objs.size := Heap.lt_size hol
        have hh3 : A.in1.in1.in1.handled = none := by simp [hh]
        have hneI : l ≠ (s.heap.push { cls := .type "set", dict := none, data := .set #[] 0 (.fresh 0 0 (!byText w)) }).objs.size := by
          rw [Heap.size_push]; exact Nat.ne_of_lt (Nat.lt_succ_of_lt hlS)
        have hSf : s.heap.objs.size ∉ [(s.heap.push { cls := .type "set", dict := none, data := .set #[] 0 (.fresh 0 0 (!byText w)) }).objs.size, l] := by
          rw [Heap.size_push]; simp only [List.mem_cons, List.mem_singleton, List.not_mem_nil, or_false, not_or]
          exact ⟨Nat.ne_of_lt (Nat.lt_succ_self _), Nat.ne_of_gt hlS⟩
        have hval : ∀ (i : Nat) (v : Value), items[i]? = some v → ∃ t, v = .int ((fun i => ns.getD i 0) i) t := fun i v hv =>
          IntsAre.int_at hi i v (by rw [Array.getElem?_toList]; exact hv)
        refine updLoopG (led := !byText w) ((Walks.list hh3 _ l hneI items).toS) s.heap.objs.size
          hSf (fun i => ns.getD i 0) hval hb (items.size - 0) 0 _ (by lia) (Nat.zero_le _)
          ⟨⟨_, Heap.get?_push_size _ rfl, rfl, rfl⟩, (hl1.push _)⟩ ?hS0 ?hR
        case hS0 =>
          have hget : ((s.heap.push { cls := .type "set", dict := none, data := .set #[] 0 (.fresh 0 0 (!byText w)) }).push { cls := .type "list_iterator", data := .fields #[.ref l, .int 0 0] }).get? s.heap.objs.size
              = some { cls := .type "set", dict := none, data := .set #[] 0 (.fresh 0 0 (!byText w)) } := Heap.get?_push_of_some _ hS
          exact ⟨_, #[], 0, _, hget, ⟨rfl, rfl, rfl⟩, rfl, fun e he => by simp at he, fun k => by simp [firstMet_zero], by decide, by rfl, rfl, fresh_good _⟩
        case hR =>
          intro s' hm hS'
          obtain ⟨h', g', d', tk', os'⟩ := s'
          have eg : g' = s.gens := hm.gens
          have ed : d' = s.drawn := hm.drawn
          have eo : os' = s.os := hm.os
          subst eg; subst ed; subst eo
          show wpAny _ _ _ _ _ _
          refine wpAny_pure ?_
          show wpAny _ _ (ret Value.none) _ _ _
          refine wpAny_pure ⟨rfl, h', tk', rfl, hS', fun b o hb e => ?_⟩
          have hb1 : b ≠ s.heap.objs.size := Nat.ne_of_lt hb
          have hb2 : b ≠ (s.heap.push { cls := .type "set", dict := none, data := .set #[] 0 (.fresh 0 0 (!byText w)) }).objs.size := by
            rw [Heap.size_push]; exact Nat.ne_of_lt (Nat.lt_succ_of_lt hb)
          exact hm.heap b o (by simp only [List.mem_cons, List.mem_singleton, List.not_mem_nil, or_false, not_or]; exact ⟨hb1, hb2⟩) (Heap.get?_push_of_some _ (Heap.get?_push_of_some _ e))
      · cases r₂ with
        | error e => exact hr₂
        | ok fl₂ =>
          cases fl₂ with
          | ret r =>
            obtain ⟨rfl, h', tk, rfl, hS', hk'⟩ := hr₂
            repeat (any_goals (first | assumption | wp_step))
            exact h _ _ hS' hk'
          | _ => exact hr₂.elim
    | _ => exact hr.elim
end
end
-- S4
section
set_option maxRecDepth 100000
set_option maxHeartbeats 3200000
theorem slot_si_next : Slot "set_iterator" "__next__" "set_iterator.__next__" :=
  .of (owner := "set_iterator") (n := "__next__") (by rw [typeLookup_type, builtinLookup_eq_fast]; kernel_rfl) (by decide +kernel) (by decide +kernel) (by decide +kernel)
    (by first | exact .inl (by decide +kernel) | exact .inr (by decide +kernel)) (by rw [isSubtype_type]; kernel_rfl)
theorem entry_si_next : entryFor table "set_iterator.__next__" = some Builtin.«set_iterator.__next__» := entryFor_of_tree (by kernel_rfl)
theorem args_si_next (a : Value) : argsOk "set_iterator.__next__" ⟨[a], []⟩ := by unfold argsOk; kernel_rfl
theorem entry_set_iter : entryFor table "set.__iter__" = some Builtin.«frozenset.__iter__» :=
  entryFor_alias (id' := "frozenset.__iter__") (by kernel_rfl) rfl (by decide +kernel) (by kernel_rfl)
section
variable {prog : Program} {w : World} {A : Around} {E : Value → Shared → Prop} {s : Shared}
noncomputable def SIter (h : Heap) (I a : Addr) (first : Value) (i n ep : Nat) : Prop :=
  ∃ o, h.get? I = some o ∧ o.cls = .type "set_iterator" ∧ o.data = .fields #[first, rawInt i, .ref a, rawInt n, rawInt ep]
theorem SIter.typeIs {I a : Addr} {first : Value} {i n ep : Nat} (h : SIter s.heap I a first i n ep) : s.TypeIs (.ref I) "set_iterator" := let ⟨o, ho, hc, _⟩ := h; ⟨o, ho, hc⟩
theorem siNext {I a : Addr} {slot next i n ep : Nat} {x : Value} {Q : Option Value → Shared → Prop} (hit : SIter s.heap I a (rawInt slot) i n ep)
    (hen : ∀ (A : Around) (E : Value → Shared → Prop) (Q : Array (Int × Value) → Shared → Prop), (∀ es : Array (Int × Value), es.size = n → Q es s) → wpAny (model prog w) A (setEntries a) Q E s)
    (hnx : ∀ (A : Around) (E : Value → Shared → Prop) (Q : Option (Value × Nat) → Shared → Prop), Q (some (x, next)) s → wpAny (model prog w) A (setNext a slot i ep) Q E s)
    (hQ : ∀ h', SIter h' I a (rawInt next) (i + 1 : Nat) n ep → Heap.SameBut I s.heap h' → Q (some x) { s with heap := h' }) :
    wpAny (model prog w) A (pyNext (.ref I)) Q E s := by
  (refine qE1A3 (id hit) fun o ho hc hd => ?_)
  unfold pyNext
  refine wpAny_bind (wpAny_attempt (wpAny_callSpecial?_slot (name := Str.ofString "__next__") hit.typeIs slot_si_next
    (wpAny_call_entry slot_si_next hit.typeIs entry_si_next ?_ (args_si_next _))))
  unfold Builtin.«set_iterator.__next__»
  refine wpAny_bind (m := slotArgs "__next__" 0 _) (wpAny_pure ?_)
  refine wpAny_bind (wpAny_fieldsOf ho hd ?_)
  dsimp only [rawInt]
  refine wpAny_bind (hen _ _ _ fun es hes => ?_)
  rw [if_neg (by rw [hes]; simp)]
  simp only [Int.toNat_natCast]
  refine wpAny_bind (hnx _ _ _ ?_)
  dsimp only
  refine wpAny_bind (wpAny_setField ho hd (by simp) ?_)
  have hd1 := Obj.data_mapFields hd (·.setIfInBounds 0 (.int next 0))
  have ho1 := Heap.get?_update_self (Obj.mapFields (·.setIfInBounds 0 (.int next 0))) ho (Obj.isFreed_of_fields hd1)
  refine wpAny_bind (wpAny_setField ho1 hd1 (by simp) ?_)
  have hd2 := Obj.data_mapFields hd1 (·.setIfInBounds 1 (.int (i + 1) 0))
  have ho2 := Heap.get?_update_self (Obj.mapFields (·.setIfInBounds 1 (.int (i + 1) 0))) ho1 (Obj.isFreed_of_fields hd2)
  refine wpAny_pure ⟨x, rfl, wpAny_pure (hQ _ ⟨_, ho2, ?_, ?_⟩ ((Heap.SameBut.update ..).trans (Heap.SameBut.update ..)))⟩
  · exact (Obj.cls_mapFields ..).trans ((Obj.cls_mapFields ..).trans hc)
  · rw [hd2]; simp [rawInt]
theorem siNextD {I a T : Addr} {place i n ep : Nat} {x : Value} {oT : Obj} {ps : Array Value} {k : Nat} {Q : Option Value → Shared → Prop} (hit : SIter s.heap I a (.ref T) i n ep)
    (hT : s.heap.get? T = some oT) (hTd : oT.data = .seq ps k) (hp : ps[i]? = some (rawInt place))
    (hen : ∀ (A : Around) (E : Value → Shared → Prop) (Q : Array (Int × Value) → Shared → Prop), (∀ es : Array (Int × Value), es.size = n → Q es s) → wpAny (model prog w) A (setEntries a) Q E s)
    (hnx : ∀ (A : Around) (E : Value → Shared → Prop) (Q : Value → Shared → Prop), Q x s → wpAny (model prog w) A (setNextDrawn a place ep) Q E s)
    (hQ : ∀ h', SIter h' I a (.ref T) (i + 1 : Nat) n ep → Heap.SameBut I s.heap h' → Q (some x) { s with heap := h' }) :
    wpAny (model prog w) A (pyNext (.ref I)) Q E s := by
  (refine qE1A3 (id hit) fun o ho hc hd => ?_)
  unfold pyNext
  refine wpAny_bind (wpAny_attempt (wpAny_callSpecial?_slot (name := Str.ofString "__next__") hit.typeIs slot_si_next
    (wpAny_call_entry slot_si_next hit.typeIs entry_si_next ?_ (args_si_next _))))
  unfold Builtin.«set_iterator.__next__»
  refine wpAny_bind (m := slotArgs "__next__" 0 _) (wpAny_pure ?_)
  refine wpAny_bind (wpAny_fieldsOf ho hd ?_)
  dsimp only [rawInt]
  refine wpAny_bind (hen _ _ _ fun es hes => ?_)
  rw [if_neg (by rw [hes]; simp)]
  simp only [Int.toNat_natCast]
  refine wpAny_bind (wpAny_seqItems hT hTd ?_)
  dsimp only
  rw [hp]
  dsimp only [rawInt]
  simp only [Int.toNat_natCast]
  refine wpAny_bind (hnx _ _ _ ?_)
  refine wpAny_bind (wpAny_setField ho hd (by simp) ?_)
  have hd2 := Obj.data_mapFields hd (·.setIfInBounds 1 (.int (i + 1) 0))
  have ho2 := Heap.get?_update_self (Obj.mapFields (·.setIfInBounds 1 (.int (i + 1) 0))) ho (Obj.isFreed_of_fields hd2)
  refine wpAny_pure ⟨x, rfl, wpAny_pure (hQ _ ⟨_, ho2, ?_, ?_⟩ (Heap.SameBut.update ..))⟩
  · exact (Obj.cls_mapFields ..).trans hc
  · rw [hd2]; simp [rawInt]
theorem stopIter {Q : Option Value → Shared → Prop} (hh : A.handled = none) {h₁ : Heap} (hQ : ∀ h', (∀ b o, h₁.get? b = some o → h'.get? b = some o) → Q none { s with heap := h' }) :
    wpAny (model prog w) A.in1 (do raiseNew (← newExc (.type "StopIteration") []) : Sem Fin) (fun fin s' => ∃ v, fin = .done (.ret v) ∧ wpAny (model prog w) A (pure (some v)) Q E s')
      (fun e s' => wpAny (model prog w) A (do if ← isInstance e (.type "StopIteration") then pure none else throw e) Q E s') { s with heap := h₁ } := by
  refine wpAny_bind ?_
  simp only [newExc, newTuple]
  refine wpAny_bind (wpAny_newObj_type ?_ (by size_fits))
  refine wpAny_bind (m := firstArgMember _ _) (wpAny_of_eq (a := Value.none) (by first | rfl | (simp only [firstArgMember]; rfl)) ?_)
  refine wpAny_newObj_type ?_ (by size_fits)
  simp only [raiseNew]
  refine wpAny_bind (wpAny_handled ?_)
  rw [show A.in1.handled = none from hh]
  refine wpAny_bind (wpAny_pure (wpAny_throw ?_))
  refine wpAny_bind (wpAny_isInstance (T := "StopIteration") (b := true) ⟨_, Heap.get?_push_size _ rfl, rfl⟩ isSubtype_stop ?_)
  exact wpAny_pure (hQ _ fun b o e => Heap.get?_push_of_some _ (Heap.get?_push_of_some _ e))
theorem siEnd {I a : Addr} {slot i n ep : Nat} {Q : Option Value → Shared → Prop} (hh : A.handled = none) (hit : SIter s.heap I a (rawInt slot) i n ep)
    (hen : ∀ (A : Around) (E : Value → Shared → Prop) (Q : Array (Int × Value) → Shared → Prop), (∀ es : Array (Int × Value), es.size = n → Q es s) → wpAny (model prog w) A (setEntries a) Q E s)
    (hnx : ∀ (A : Around) (E : Value → Shared → Prop) (Q : Option (Value × Nat) → Shared → Prop), Q none s → wpAny (model prog w) A (setNext a slot i ep) Q E s)
    (hQ : ∀ h', Heap.ExtBut I s.heap h' → Q none { s with heap := h' }) :
    wpAny (model prog w) A (pyNext (.ref I)) Q E s := by
  (refine qE1A3 (id hit) fun o ho hc hd => ?_)
  unfold pyNext
  refine wpAny_bind (wpAny_attempt (wpAny_callSpecial?_slot (name := Str.ofString "__next__") hit.typeIs slot_si_next
    (wpAny_call_entry slot_si_next hit.typeIs entry_si_next ?_ (args_si_next _))))
  unfold Builtin.«set_iterator.__next__»
  refine wpAny_bind (m := slotArgs "__next__" 0 _) (wpAny_pure ?_)
  refine wpAny_bind (wpAny_fieldsOf ho hd ?_)
  dsimp only [rawInt]
  refine wpAny_bind (hen _ _ _ fun es hes => ?_)
  rw [if_neg (by rw [hes]; simp)]
  simp only [Int.toNat_natCast]
  refine wpAny_bind (hnx _ _ _ ?_)
  dsimp only
  refine wpAny_bind (wpAny_setField ho hd (by simp) ?_)
  exact stopIter hh fun h' k => hQ h' fun b o hb e => k b o ((Heap.get?_update_other _ _ hb.symm).trans e)
theorem siEndD {I a T : Addr} {i n ep : Nat} {oT : Obj} {ps : Array Value} {k : Nat} {Q : Option Value → Shared → Prop} (hh : A.handled = none) (hit : SIter s.heap I a (.ref T) i n ep)
    (hT : s.heap.get? T = some oT) (hTd : oT.data = .seq ps k) (hp : ps[i]? = none)
    (hen : ∀ (A : Around) (E : Value → Shared → Prop) (Q : Array (Int × Value) → Shared → Prop), (∀ es : Array (Int × Value), es.size = n → Q es s) → wpAny (model prog w) A (setEntries a) Q E s)
    (hQ : ∀ h', Heap.ExtBut I s.heap h' → Q none { s with heap := h' }) :
    wpAny (model prog w) A (pyNext (.ref I)) Q E s := by
  (refine qE1A3 (id hit) fun o ho hc hd => ?_)
  unfold pyNext
  refine wpAny_bind (wpAny_attempt (wpAny_callSpecial?_slot (name := Str.ofString "__next__") hit.typeIs slot_si_next
    (wpAny_call_entry slot_si_next hit.typeIs entry_si_next ?_ (args_si_next _))))
  unfold Builtin.«set_iterator.__next__»
  refine wpAny_bind (m := slotArgs "__next__" 0 _) (wpAny_pure ?_)
  refine wpAny_bind (wpAny_fieldsOf ho hd ?_)
  dsimp only [rawInt]
  refine wpAny_bind (hen _ _ _ fun es hes => ?_)
  rw [if_neg (by rw [hes]; simp)]
  simp only [Int.toNat_natCast]
  refine wpAny_bind (wpAny_seqItems hT hTd ?_)
  dsimp only
  rw [hp]
  dsimp only
  refine wpAny_bind (wpAny_setField ho hd (by simp) ?_)
  have hd1 := Obj.data_mapFields hd (·.setIfInBounds 0 (rawInt 0))
  have ho1 := Heap.get?_update_self (Obj.mapFields (·.setIfInBounds 0 (rawInt 0))) ho (Obj.isFreed_of_fields hd1)
  refine wpAny_bind (wpAny_setField ho1 hd1 (by simp) ?_)
  exact stopIter hh fun h' k => hQ h' fun b o hb e => k b o ((Heap.get?_update_other _ _ hb.symm).trans ((Heap.get?_update_other _ _ hb.symm).trans e))
end
end
-- S5
section
set_option maxRecDepth 100000
set_option maxHeartbeats 3200000
theorem erase_perm {α : Type} {l : List α} {i : Nat} (h : i < l.length) : (l[i] :: l.eraseIdx i).Perm l := by
  rw [List.eraseIdx_eq_take_drop_succ]
  conv => rhs; rw [← List.take_append_drop i l, List.drop_eq_getElem_cons h]
  exact List.perm_middle.symm
theorem pick_go {α : Type} (next : Nat → Nat) : ∀ (fuel k : Nat) (left : List α) (out : Array α), left.length = fuel → (pickOrder.go next fuel k left out).toList.Perm (out.toList ++ left)
  | 0, k, left, out, h => by
    have : left = [] := List.length_eq_zero_iff.mp h
    subst this
    simp [pickOrder.go]
  | fuel + 1, k, left, out, h => by
    unfold pickOrder.go
    have hlt : next k % left.length < left.length := Nat.mod_lt _ (by lia)
    rw [List.getElem?_eq_getElem hlt]
    dsimp only
    refine (pick_go next fuel (k + 1) _ _ (by rw [List.length_eraseIdx_of_lt hlt]; (with_reducible exact arP ‹_›))).trans ?_
    rw [Array.toList_push, List.append_assoc]
    refine List.Perm.append_left _ ?_
    have := erase_perm hlt
    exact this
theorem pick_perm {α : Type} (next : Nat → Nat) (xs : Array α) : (pickOrder next xs).toList.Perm xs.toList := by
  unfold pickOrder
  have := pick_go next xs.size 0 xs.toList #[] (by simp)
  simpa using this
section
variable {M : Model} {A : Around} {E : Value → Shared → Prop} {s : Shared}
theorem choose_any {src : Source} {n : Nat} {Q : Nat → Shared → Prop} (hn : n ≠ 0) (h : ∀ i d, i < n → Q i { s with drawn := d }) : wpAny M A (choose src n) Q E s := fun Γ p hΓ => by
  show Sem.wp M Γ (.choose src n .pure) _ _ p s
  rw [Sem.wp_choose]
  exact ⟨hn, h _ _ (Nat.mod_lt _ (Nat.pos_of_ne_zero hn))⟩
theorem draw_perm {α : Type} : ∀ (n : Nat) (xs : List α) (s : Shared) (Q : List α → Shared → Prop), xs.length = n → (∀ ys d, ys.Perm xs → Q ys { s with drawn := d }) → wpAny M A (drawOrder n xs) Q E s
  | 0, xs, s, Q, h, hQ => by
    have : xs = [] := List.length_eq_zero_iff.mp h
    subst this
    exact wpAny_pure (hQ [] s.drawn .rfl)
  | n + 1, [], s, Q, h, hQ => by simp at h
  | n + 1, a :: r, s, Q, h, hQ => by
    unfold drawOrder
    refine wpAny_bind (choose_any (by simp) fun i d hi => ?_)
    rw [List.getElem?_eq_getElem hi]
    dsimp only
    refine wpAny_bind (draw_perm n _ _ _ (by rw [List.length_eraseIdx_of_lt hi]; (with_reducible exact arP ‹_›)) fun ys d' hp => ?_)
    exact wpAny_pure (hQ _ d' ((List.Perm.cons _ hp).trans (erase_perm hi)))
end
theorem perm_of {F : List Int} : ∀ {ks : List Int}, F.Nodup → (∀ k ∈ F, k ∈ ks) → ks.length = F.length → ks.Perm F := by
  induction F with
  | nil => intro ks _ _ h; rw [List.length_eq_zero_iff.mp h]
  | cons a F ih =>
    intro ks hn hs hl
    (refine qE0A2 (List.nodup_cons.mp hn) fun h1 h2 => ?_)
    have ha : a ∈ ks := hs a List.mem_cons_self
    refine (List.perm_cons_erase ha).trans (List.Perm.cons a (ih h2 (fun k hk => ?_) ?_))
    · have hne : k ≠ a := fun e => h1 (e ▸ hk)
      exact (List.mem_erase_of_ne hne).mpr (hs k (List.mem_cons_of_mem _ hk))
    · rw [List.length_erase_of_mem ha, hl]; simp
theorem elems_ints {prog : Program} {w : World} : ∀ {l : List (Int × Value)}, ElemsOf (intKind prog w) l → ∃ ks, IntsAre (l.map (·.2)) ks ∧ ∀ k, k ∈ ks ↔ ∃ e ∈ l, (intKind prog w).is k e.2 = true
  | [], _ => ⟨[], .nil, by simp⟩
  | e :: l, h => by
    (refine qE1A2 (elems_ints h.tail) fun ks h1 h2 => ?_)
    obtain ⟨⟨k, hk, _⟩, _⟩ := h.head
    (refine qE1A1 (show ∃ t, e.2 = .int k t from Value.isInt_shape hk) fun t ht => ?_)
    refine ⟨k :: ks, by rw [List.map_cons, ht]; exact .cons k t h1, fun q => ?_⟩
    rw [List.mem_cons, h2 q]
    constructor
    · rintro (rfl | ⟨x, hx, hq⟩)
      · exact ⟨e, List.mem_cons_self, hk⟩
      · exact ⟨x, List.mem_cons_of_mem _ hx, hq⟩
    · (intro zqi; refine qE1A2 zqi fun x hx hq => ?_; clear zqi)
      rcases List.mem_cons.mp hx with rfl | hx
      · exact .inl ((intKind prog w).inj x.2 q k hq hk)
      · exact .inr ⟨x, hx, hq⟩
section
variable {prog : Program} {w : World} {A : Around} {E : Value → Shared → Prop} {s : Shared}
theorem slot_si_iter : Slot "set_iterator" "__iter__" "set_iterator.__iter__" :=
  .of (owner := "set_iterator") (n := "__iter__") (by rw [typeLookup_type, builtinLookup_eq_fast]; kernel_rfl) (by decide +kernel) (by decide +kernel) (by decide +kernel)
    (by first | exact .inl (by decide +kernel) | exact .inr (by decide +kernel)) (by rw [isSubtype_type]; kernel_rfl)
theorem entry_si_iter : entryFor table "set_iterator.__iter__" = some Builtin.«dict_keyiterator.__iter__» :=
  entryFor_alias (id' := "dict_keyiterator.__iter__") (by kernel_rfl) rfl (by decide +kernel) (by kernel_rfl)
theorem args_si_iter (a : Value) : argsOk "set_iterator.__iter__" ⟨[a], []⟩ := by unfold argsOk; kernel_rfl
theorem siSelf {I a : Addr} {f : Value} {i n ep : Nat} {Q : Value → Shared → Prop} (hit : SIter s.heap I a f i n ep) (h : Q (.ref I) s) : wpAny (model prog w) A (pyIter (.ref I)) Q E s := by
  refine wpAny_pyIter_slot hit.typeIs slot_si_iter (wpAny_call_entry slot_si_iter hit.typeIs entry_si_iter ?_ (args_si_iter _))
  show wpAny _ _ (ret (.ref I)) _ _ s
  exact wpAny_pure ⟨_, rfl, "set_iterator", _, hit.typeIs, slot_si_next.lookup, h⟩
noncomputable def SAt (h : Heap) (a : Addr) (es : Array (Int × Value)) (ep : Nat) (t : SetTable) : Prop := ∃ o, h.get? a = some o ∧ o.data = .set es ep t
theorem SAt.ent {a : Addr} {es : Array (Int × Value)} {ep : Nat} {t : SetTable} (h : SAt s.heap a es ep t) (hf : t.fits es.size = true) :
    ∀ (A : Around) (E : Value → Shared → Prop) (Q : Array (Int × Value) → Shared → Prop), (∀ es' : Array (Int × Value), es'.size = es.size → Q es' s) → wpAny (model prog w) A (setEntries a) Q E s := fun A E Q hQ => by
  (refine qE1A2 (h) fun o ho hd => ?_; (try clear h))
  exact wpAny_setEntries_of ho hd hf (hQ es rfl)
theorem byText_ask {Q : Bool → Shared → Prop} (h : Q (byText w) s) : wpAny (model prog w) A setsByText Q E s := by
  unfold setsByText
  exact wpAny_bind (wpAny_askSetting (wpAny_pure h))
theorem walkText (hb : byText w = true) (hh : A.handled = none) {I a : Addr} (hne : a ≠ I) {es : Array (Int × Value)} {ep : Nat} {t : SetTable} (hf : t.fits es.size = true) :
    Walks prog w A I [I, a] [I] es.size (fun i v => ((pickOrder (w.params.setOrder a ep) es)[i]?.map (·.2)) = some v) (fun i h => SIter h I a (rawInt (0 : Nat)) i es.size ep ∧ SAt h a es ep t) where
  sub := fun b hb => by simp at hb; simp [hb]
  frame := fun _ _ _ st hk => ⟨let ⟨o, ho, r⟩ := st.1; ⟨o, hk I (by simp) o ho, r⟩, let ⟨o, ho, r⟩ := st.2; ⟨o, hk a (by simp) o ho, r⟩⟩
  item := fun i s Q E hi st hQ => by
    have hsz : (pickOrder (w.params.setOrder a ep) es).size = es.size := by have := (pick_perm (w.params.setOrder a ep) es).length_eq; simpa using this
    (refine qE1A2 (st.2) fun o ho hd => ?_)
    have hx : (pickOrder (w.params.setOrder a ep) es)[i]? = some ((pickOrder (w.params.setOrder a ep) es)[i]'(by lia)) := Array.getElem?_eq_getElem _
    refine siNext st.1 (st.2.ent hf) (x := ((pickOrder (w.params.setOrder a ep) es)[i]'(by lia)).2) (next := 0) (fun A E Q hq => ?_) fun h' hit' hs' => ?_
    · unfold setNext
      refine wpAny_bind (wpAny_setState_of ho hd hf ?_)
      refine wpAny_bind (byText_ask ?_)
      rw [hb]
      simp only [↓reduceIte, bne_self_eq_false, Bool.false_eq_true]
      refine wpAny_bind ?_
      unfold setWalk
      refine wpAny_bind (wpAny_setState_of ho hd hf ?_)
      refine wpAny_bind (byText_ask ?_)
      rw [hb]
      simp only [↓reduceIte]
      refine wpAny_bind (wpAny_askSetting ?_)
      refine wpAny_pure (wpAny_pure ?_)
      show Q (Option.map (fun e => (e.2, 0)) (pickOrder (w.params.setOrder a ep) es)[i]?) s
      rw [hx]
      exact hq
    · exact hQ _ h' s.toks (by rw [hx]; rfl) ⟨hit', let ⟨o, ho, r⟩ := st.2; ⟨o, (hs'.2 a hne).trans ho, r⟩⟩ fun b o hb e => hs'.extBut b o (fun h => hb (by simp [h])) e
  done := fun s Q E st hQ => by
    have hsz : (pickOrder (w.params.setOrder a ep) es).size = es.size := by have := (pick_perm (w.params.setOrder a ep) es).length_eq; simpa using this
    (refine qE1A2 (st.2) fun o ho hd => ?_)
    refine siEnd hh st.1 (st.2.ent hf) (fun A E Q hq => ?_) fun h' he => hQ h' s.toks fun b o hb e => he b o (fun h => hb (by simp [h])) e
    unfold setNext
    refine wpAny_bind (wpAny_setState_of ho hd hf ?_)
    refine wpAny_bind (byText_ask ?_)
    rw [hb]
    simp only [↓reduceIte, bne_self_eq_false, Bool.false_eq_true]
    refine wpAny_bind ?_
    unfold setWalk
    refine wpAny_bind (wpAny_setState_of ho hd hf ?_)
    refine wpAny_bind (byText_ask ?_)
    rw [hb]
    simp only [↓reduceIte]
    refine wpAny_bind (wpAny_askSetting ?_)
    refine wpAny_pure (wpAny_pure ?_)
    show Q (Option.map (fun e => (e.2, _)) (pickOrder (w.params.setOrder a ep) es)[es.size]?) s
    rw [Array.getElem?_eq_none (by lia)]
    exact hq
  self := fun _ _ _ _ st hQ => siSelf st.1 hQ
theorem walkDrawn (hh : A.handled = none) {I a T : Addr} (hne : a ≠ I) (hnT : T ≠ I) {es : Array (Int × Value)} {ep : Nat} {t : SetTable} (hf : t.fits es.size = true) {ps : List Nat} (hp : ps.Perm (List.range es.size)) {k : Nat} :
    Walks prog w A I [I, a, T] [I] es.size (fun i v => (ps[i]?.bind fun j => es[j]?.map (·.2)) = some v) (fun i h => SIter h I a (.ref T) i es.size ep ∧ SAt h a es ep t ∧ ∃ oT, h.get? T = some oT ∧ oT.data = .seq (ps.map fun (i : Nat) => rawInt i).toArray k) where
  sub := fun b hb => by simp at hb; simp [hb]
  frame := fun _ _ _ st hk => ⟨let ⟨o, ho, r⟩ := st.1; ⟨o, hk I (by simp) o ho, r⟩, (let ⟨o, ho, r⟩ := st.2.1; ⟨o, hk a (by simp) o ho, r⟩), let ⟨o, ho, r⟩ := st.2.2; ⟨o, hk T (by simp) o ho, r⟩⟩
  item := fun i s Q E hi st hQ => by
    (refine qE1A2 (st.2.1) fun o ho hd => ?_)
    (refine qE1A2 (st.2.2) fun oT hT hTd => ?_)
    have hl : ps.length = es.size := by rw [hp.length_eq, List.length_range]
    have hpi : ps[i]? = some (ps[i]'(by lia)) := List.getElem?_eq_getElem _
    have hj : ps[i]'(by lia) < es.size := List.mem_range.mp (hp.mem_iff.mp (List.getElem_mem _))
    have hx : es[ps[i]'(by lia)]? = some (es[ps[i]'(by lia)]'hj) := Array.getElem?_eq_getElem _
    refine siNextD st.1 hT hTd (place := ps[i]'(by lia)) (by simp [hpi]) (st.2.1.ent hf) (x := (es[ps[i]'(by lia)]'hj).2) (fun A E Q hq => ?_) fun h' hit' hs' => ?_
    · unfold setNextDrawn
      refine wpAny_bind (wpAny_setState_of ho hd hf ?_)
      simp only [bne_self_eq_false, Bool.false_eq_true, ↓reduceIte]
      rw [hx]
      exact wpAny_pure hq
    · exact hQ _ h' s.toks (by rw [hpi]; dsimp only [Option.bind]; rw [hx]; rfl) ⟨hit', ⟨o, (hs'.2 a hne).trans ho, hd⟩, oT, (hs'.2 T hnT).trans hT, hTd⟩ fun b o hb e => hs'.extBut b o (fun h => hb (by simp [h])) e
  done := fun s Q E st hQ => by
    (refine qE1A2 (st.2.2) fun oT hT hTd => ?_)
    have hl : ps.length = es.size := by rw [hp.length_eq, List.length_range]
    exact siEndD hh st.1 hT hTd (by simp; lia) (st.2.1.ent hf) fun h' he => hQ h' s.toks fun b o hb e => he b o (fun h => hb (by simp [h])) e
  self := fun _ _ _ _ st hQ => siSelf st.1 hQ
end
end
-- S6
section
set_option maxRecDepth 100000
set_option maxHeartbeats 3200000
section
variable {prog : Program} {w : World} {A : Around} {E : Value → Shared → Prop} {s : Shared}
noncomputable def slotAt (t : SetTable) : Nat → Nat
  | 0 => 0
  | i + 1 => t.place.getD i 0 + 1
theorem slot_below {t : SetTable} (hr : Rise t.place) {i : Nat} (hi : i ≤ t.place.size) : SetTable.below t.place (slotAt t i) = i := by
  cases i with
  | zero => exact below_zero hr
  | succ i =>
    have hl : i < t.place.size := by lia
    refine below_next hr ?_
    simp [Array.getD, hl]
theorem walkTab (hb : byText w = false) (hh : A.handled = none) {I a : Addr} (hne : a ≠ I) {es : Array (Int × Value)} {ep : Nat} {t : SetTable} (hf : t.fits es.size = true) (hg : TabG t true) (hnd : (!t.plain && decide (es.size > 1)) = false) :
    Walks prog w A I [I, a] [I] es.size (fun i v => (es[i]?.map (·.2)) = some v) (fun i h => SIter h I a (rawInt (slotAt t i)) i es.size ep ∧ SAt h a es ep t) where
  sub := fun b hb => by simp at hb; simp [hb]
  frame := fun _ _ _ st hk => ⟨let ⟨o, ho, r⟩ := st.1; ⟨o, hk I (by simp) o ho, r⟩, let ⟨o, ho, r⟩ := st.2; ⟨o, hk a (by simp) o ho, r⟩⟩
  item := fun i s Q E hi st hQ => by
    have hsz : t.place.size = es.size := by simp only [SetTable.fits, Bool.and_eq_true, beq_iff_eq] at hf; exact hf.1
    (refine qE1A2 (st.2) fun o ho hd => ?_)
    have hx : es[i]? = some es[i] := Array.getElem?_eq_getElem hi
    have hpl : t.place[i]? = some (t.place[i]'(by lia)) := Array.getElem?_eq_getElem _
    refine siNext st.1 (st.2.ent hf) (x := es[i].2) (next := slotAt t (i + 1)) (fun A E Q hq => ?_) fun h' hit' hs' => ?_
    · unfold setNext
      refine wpAny_bind (wpAny_setState_of ho hd hf ?_)
      refine wpAny_bind (byText_ask ?_)
      rw [hb]
      simp only [Bool.false_eq_true, ↓reduceIte]
      split
      · rename_i hdr
        have hdr' : (!t.plain && decide (es.size > 1)) = true := hdr
        rw [hnd] at hdr'; cases hdr'
      · refine wpAny_bind ?_
        show wpAny _ _ (if (!t.led && !es.isEmpty) = true then unsupported "set:maker-not-led" else pure ()) _ _ _
        rw [hg.led]
        refine wpAny_pure ?_
        rw [slot_below hg.rise (by lia), hx, hpl]
        refine wpAny_pure ?_
        have : t.place[i]'(by lia) + 1 = slotAt t (i + 1) := by
          have hl : i < t.place.size := by lia
          simp [slotAt, Array.getD, hl]
        show Q (some (es[i].2, t.place[i]'(by lia) + 1)) s
        rw [this]; exact hq
    · exact hQ _ h' s.toks (by rw [hx]; rfl) ⟨hit', let ⟨o, ho, r⟩ := st.2; ⟨o, (hs'.2 a hne).trans ho, r⟩⟩ fun b o hb e => hs'.extBut b o (fun h => hb (by simp [h])) e
  done := fun s Q E st hQ => by
    have hsz : t.place.size = es.size := by simp only [SetTable.fits, Bool.and_eq_true, beq_iff_eq] at hf; exact hf.1
    (refine qE1A2 (st.2) fun o ho hd => ?_)
    refine siEnd hh st.1 (st.2.ent hf) (fun A E Q hq => ?_) fun h' he => hQ h' s.toks fun b o hb e => he b o (fun h => hb (by simp [h])) e
    unfold setNext
    refine wpAny_bind (wpAny_setState_of ho hd hf ?_)
    refine wpAny_bind (byText_ask ?_)
    rw [hb]
    simp only [Bool.false_eq_true, ↓reduceIte]
    split
    · rename_i hdr
      have hdr' : (!t.plain && decide (es.size > 1)) = true := hdr
      rw [hnd] at hdr'; cases hdr'
    · refine wpAny_bind ?_
      show wpAny _ _ (if (!t.led && !es.isEmpty) = true then unsupported "set:maker-not-led" else pure ()) _ _ _
      rw [hg.led]
      refine wpAny_pure ?_
      rw [slot_below hg.rise (by lia), Array.getElem?_eq_none (Nat.le_refl _)]
      exact wpAny_pure hq
  self := fun _ _ _ _ st hQ => siSelf st.1 hQ
theorem iterSetE {K : Type} [DecidableEq K] {knd : KeyKind prog w K} {a : Addr} {S : K → Bool} {n : Nat} {Q : Value → Shared → Prop} (hS : SetGK knd s.heap a S n (!byText w))
    (hQ : ∀ h' d I fp (P : Nat → Value → Prop) (St : Nat → Heap → Prop), (∀ b o, s.heap.get? b = some o → h'.get? b = some o) → s.heap.objs.size ≤ h'.objs.size → (∀ A' : Around, A'.handled = none → Walks prog w A' I fp [I] n P St) → St 0 h' → (∀ b ∈ fp, b < h'.objs.size) → I ∈ fp → s.heap.get? I = none → (∀ b ∈ fp, b = a ∨ s.heap.get? b = none) →
      (∀ acc : Array Value, ItemsOf P acc n → ∃ l : List (Int × Value), acc.toList = l.map (·.2) ∧ l.length = n ∧ ElemsOf knd l ∧ ∀ k, S k = true ↔ ∃ e ∈ l, knd.is k e.2 = true) → Q (.ref I) { s with heap := h', drawn := d }) :
    wpAny (model prog w) A (pyIter (.ref a)) Q E s := by
  obtain ⟨o, es, ep, t, ho, hex, hd, hel, hmem, hb, hf, hn, hg⟩ := hS
  subst hn
  have hT : s.TypeIs (.ref a) "set" := ⟨o, ho, hex.1⟩
  have ha := Heap.lt_size ho
  have hints : ∀ l : List (Int × Value), l.Perm es.toList → l.length = es.size ∧ ElemsOf knd l ∧ ∀ k, S k = true ↔ ∃ e ∈ l, knd.is k e.2 = true := fun l hp => by
    refine ⟨by rw [hp.length_eq]; simp, hel.perm hp, fun k => ?_⟩
    rw [hmem k]
    exact ⟨fun ⟨e, he, q⟩ => ⟨e, hp.mem_iff.mpr he, q⟩, fun ⟨e, he, q⟩ => ⟨e, hp.mem_iff.mp he, q⟩⟩
  refine wpAny_pyIter_slot hT PySem.F.slot_set_iter (wpAny_call_entry PySem.F.slot_set_iter hT entry_set_iter ?_ (PySem.F.args_set_iter_1 _))
  unfold Builtin.«frozenset.__iter__»
  refine wpAny_bind (m := Builtin.Frozenset.slot0 "__iter__" _) (wpAny_pure ?_)
  refine wpAny_bind (m := Builtin.Frozenset.sizeOf a) (wpAny_bind (wpAny_setEntries_of ho hd hf (wpAny_pure ?_)))
  have dr : ∀ {E : Value → Shared → Prop} {Q' : Bool → Shared → Prop}, Q' (!byText w && (!t.plain && decide (es.size > 1))) s → wpAny (model prog w) A.in1 (setDrawn a) Q' E s := fun h => by
    unfold setDrawn
    refine wpAny_bind (wpAny_setState_of ho hd hf ?_)
    exact wpAny_bind (byText_ask (wpAny_pure h))
  refine wpAny_bind (dr ?_)
  dsimp only
  have hord : ∀ (ord : List (Int × Value)) (P : Nat → Value → Prop), ord.Perm es.toList → (∀ i v, P i v → ord[i]?.map (·.2) = some v) → ∀ acc : Array Value, ItemsOf P acc es.size → ∃ l : List (Int × Value), acc.toList = l.map (·.2) ∧ l.length = es.size ∧ ElemsOf knd l ∧ ∀ k, S k = true ↔ ∃ e ∈ l, knd.is k e.2 = true := fun ord P hp hP acc hacc => by
    have e : acc.toList = ord.map (·.2) := by
      refine List.ext_getElem? fun i => ?_
      rw [List.getElem?_map]
      cases hv : acc.toList[i]? with
      | some v =>
        rw [Array.getElem?_toList] at hv
        rw [hP i v (hacc.2 i v hv)]
      | none =>
        rw [Array.getElem?_toList, Array.getElem?_eq_none_iff, hacc.1] at hv
        have hlen : ord.length = es.size := by simpa using hp.length_eq
        rw [List.getElem?_eq_none (by lia)]
        rfl
    exact ⟨ord, e, hints ord hp⟩
  cases hc : (!byText w && (!t.plain && decide (es.size > 1))) with
  | false =>
    rw [if_neg (by decide)]
    refine wpAny_bind (wpAny_pure ?_)
    refine wpAny_bind (wpAny_setEpoch_of ho hd hf ?_)
    unfold newFields
    refine wpAny_bind (wpAny_newObj_type ?_ (by size_fits))
    refine wpAny_pure ⟨_, rfl, "set_iterator", _, ⟨_, Heap.get?_push_size _ rfl, rfl⟩, slot_si_next.lookup, ?_⟩
    have hne : a ≠ s.heap.objs.size := Nat.ne_of_lt ha
    have hI : s.heap.get? s.heap.objs.size = none := Heap.get?_none_of_le (Nat.le_refl _)
    have hkeep : ∀ b o', s.heap.get? b = some o' → (s.heap.push { cls := .type "set_iterator", data := .fields [rawInt 0, rawInt 0, .ref a, rawInt es.size, rawInt ep].toArray }).get? b = some o' := fun b o' e => Heap.get?_push_of_some _ e
    have hfp : ∀ b ∈ [s.heap.objs.size, a], b < (s.heap.push { cls := .type "set_iterator", data := .fields [rawInt 0, rawInt 0, .ref a, rawInt es.size, rawInt ep].toArray }).objs.size := fun b hb => by
      rw [Heap.size_push]
      rcases List.mem_cons.mp hb with rfl | hb
      · exact Nat.lt_succ_self _
      · rw [List.mem_singleton.mp hb]; exact Nat.lt_succ_of_lt ha
    cases hbt : byText w with
    | true =>
      exact hQ _ s.drawn s.heap.objs.size [s.heap.objs.size, a] _ _ hkeep (by rw [Heap.size_push]; lia) (fun A' hh => walkText hbt hh hne hf) ⟨⟨_, Heap.get?_push_size _ rfl, rfl, rfl⟩, _, hkeep _ _ ho, hd⟩ hfp List.mem_cons_self hI (fun b hb => by
          rcases List.mem_cons.mp hb with rfl | hb
          · exact .inr hI
          · exact .inl (List.mem_singleton.mp hb))
        (hord _ _ (pick_perm (w.params.setOrder a ep) es) fun i v h => by rw [Array.getElem?_toList]; exact h)
    | false =>
      rw [hbt] at hc hg
      have hnd : (!t.plain && decide (es.size > 1)) = false := by simpa using hc
      exact hQ _ s.drawn s.heap.objs.size [s.heap.objs.size, a] _ _ hkeep (by rw [Heap.size_push]; lia) (fun A' hh => walkTab hbt hh hne hf hg hnd) ⟨⟨_, Heap.get?_push_size _ rfl, rfl, rfl⟩, _, hkeep _ _ ho, hd⟩ hfp List.mem_cons_self hI (fun b hb => by
          rcases List.mem_cons.mp hb with rfl | hb
          · exact .inr hI
          · exact .inl (List.mem_singleton.mp hb))
        (hord _ _ (List.Perm.refl es.toList) fun i v h => by rw [Array.getElem?_toList]; exact h)
  | true =>
    rw [if_pos rfl]
    refine wpAny_bind (draw_perm es.size (List.range es.size) s _ (by simp) fun ys d hp => ?_)
    unfold newTuple
    refine wpAny_bind (wpAny_newObj_type ?_ (by
      have : ys.length = es.size := by rw [hp.length_eq, List.length_range]
      show _ ≤ _
      have h2 := fits_of_scanBound hb
      first | (simp; lia) | omega))
    refine wpAny_bind (wpAny_setEpoch_of (s := { s with heap := s.heap.push _, drawn := d }) (Heap.get?_push_of_some _ ho) hd hf ?_)
    unfold newFields
    refine wpAny_bind (wpAny_newObj_type ?_ (by size_fits))
    refine wpAny_pure ⟨_, rfl, "set_iterator", _, ⟨_, Heap.get?_push_size _ rfl, rfl⟩, slot_si_next.lookup, ?_⟩
    have hsz : (s.heap.push { cls := .type "tuple", data := .seq (ys.map fun (i : Nat) => rawInt i).toArray }).objs.size = s.heap.objs.size + 1 := Heap.size_push _ _
    have hne : a ≠ (s.heap.push { cls := .type "tuple", data := .seq (ys.map fun (i : Nat) => rawInt i).toArray }).objs.size := by rw [hsz]; exact Nat.ne_of_lt (Nat.lt_succ_of_lt ha)
    have hnT : s.heap.objs.size ≠ (s.heap.push { cls := .type "tuple", data := .seq (ys.map fun (i : Nat) => rawInt i).toArray }).objs.size := by rw [hsz]; exact Nat.ne_of_lt (Nat.lt_succ_self _)
    refine hQ _ d _ [(s.heap.push { cls := .type "tuple", data := .seq (ys.map fun (i : Nat) => rawInt i).toArray }).objs.size, a, s.heap.objs.size] _ _ (fun b o' e => Heap.get?_push_of_some _ (Heap.get?_push_of_some _ e)) (by rw [Heap.size_push, hsz]; lia) (fun A' hh => walkDrawn hh hne hnT hf hp (k := 0)) ⟨⟨_, Heap.get?_push_size _ rfl, rfl, rfl⟩, ⟨_, Heap.get?_push_of_some _ (Heap.get?_push_of_some _ ho), hd⟩, _, Heap.get?_push_of_some _ (Heap.get?_push_size _ rfl), rfl⟩ ?_ List.mem_cons_self (Heap.get?_none_of_le (by rw [hsz]; lia)) (fun b hb => by
      simp only [List.mem_cons, List.not_mem_nil, or_false] at hb
      rcases hb with rfl | rfl | rfl
      · exact .inr (Heap.get?_none_of_le (by rw [hsz]; lia))
      · exact .inl rfl
      · exact .inr (Heap.get?_none_of_le (Nat.le_refl _)))
      (hord (ys.filterMap fun j => es[j]?) _ ?_ ?_)
    · intro b hb
      rw [Heap.size_push, hsz]
      simp only [List.mem_cons, List.not_mem_nil, or_false] at hb
      rcases hb with rfl | rfl | rfl
      · rw [hsz]; exact Nat.lt_succ_self _
      · exact Nat.lt_succ_of_lt (Nat.lt_succ_of_lt ha)
      · exact Nat.lt_succ_of_lt (Nat.lt_succ_self _)
    · have := filterMap_getElem?_range es
      rw [← this]
      exact hp.filterMap _
    · intro i v h
      have hl : ys.length = es.size := by rw [hp.length_eq, List.length_range]
      have hfm : ∀ (l : List Nat), (∀ j ∈ l, j < es.size) → ∀ i : Nat, (l.filterMap fun j => es[j]?)[i]? = l[i]?.bind fun j => es[j]? := by
        intro l
        induction l with
        | nil => intro _ i; simp
        | cons j r ih =>
          intro hj i
          have h1 : es[j]? = some (es[j]'(hj j List.mem_cons_self)) := Array.getElem?_eq_getElem _
          rw [List.filterMap_cons, h1]
          cases i with
          | zero => simp [h1]
          | succ i => simpa using ih (fun q hq => hj q (List.mem_cons_of_mem _ hq)) i
      rw [hfm ys (fun j hj => List.mem_range.mp (hp.mem_iff.mp hj)) i]
      cases hy : ys[i]? with
      | none => rw [hy] at h; simp at h
      | some j => rw [hy] at h; simpa using h
theorem iterSet {a : Addr} {S : Int → Bool} {n : Nat} {Q : Value → Shared → Prop} (hS : SetG prog w s.heap a S n (!byText w))
    (hQ : ∀ h' d I fp (P : Nat → Value → Prop) (St : Nat → Heap → Prop), (∀ b o, s.heap.get? b = some o → h'.get? b = some o) → s.heap.objs.size ≤ h'.objs.size → (∀ A' : Around, A'.handled = none → Walks prog w A' I fp [I] n P St) → St 0 h' → (∀ b ∈ fp, b < h'.objs.size) → I ∈ fp → s.heap.get? I = none → (∀ b ∈ fp, b = a ∨ s.heap.get? b = none) →
      (∀ acc : Array Value, ItemsOf P acc n → ∃ ks, IntsAre acc.toList ks ∧ ks.length = n ∧ ∀ k, k ∈ ks ↔ S k = true) → Q (.ref I) { s with heap := h', drawn := d }) :
    wpAny (model prog w) A (pyIter (.ref a)) Q E s := by
  refine iterSetE hS fun h' d I fp P St c1 c2 c3 c4 c5 c6 c7 c8 c9 => hQ h' d I fp P St c1 c2 c3 c4 c5 c6 c7 c8 fun acc ha => ?_
  (refine qE1A4 (c9 acc ha) fun l e hn hel hmem => ?_)
  (refine qE1A2 (elems_ints hel) fun ks h1 h2 => ?_)
  refine ⟨ks, by rw [e]; exact h1, by rw [← h1.length, List.length_map]; exact hn, fun k => ?_⟩
  rw [h2 k, hmem k]
end
end
-- S7
section
set_option maxRecDepth 100000
set_option maxHeartbeats 3200000
section
variable {prog : Program} {w : World} {A : Around} {E : Value → Shared → Prop} {s : Shared}
theorem collectSet {a : Addr} {S : Int → Bool} {n : Nat} {Q : List Value → Shared → Prop} (hh : A.handled = none) (hS : SetG prog w s.heap a S n (!byText w))
    (hQ : ∀ h' tk d ks acc, (∀ b o, s.heap.get? b = some o → h'.get? b = some o) → s.heap.objs.size < h'.objs.size → IntsAre acc ks → ks.length = n → (∀ k, k ∈ ks ↔ S k = true) → Q acc { s with heap := h', toks := tk, drawn := d }) :
    wpAny (model prog w) A (collect (.ref a)) Q E s := by
  obtain ⟨o, es, ep, t, ho, hex, hd, hel, hmem, hb, hf, hn, hg⟩ := id hS
  have ha := Heap.lt_size ho
  have hDa : s.heap.objs.size ≠ a := Nat.ne_of_gt ha
  unfold collect
  refine wpAny_bind (wpAny_runValue (codeAny_builtin F.entry_proto_collect ?_))
  rw [Around.under_plainId F.plain_proto_collect _]
  show wpAny _ A.in1 (newList [] >>= fun l => again (.builtin "list.__iadd__" ⟨[l, .ref a], []⟩)) _ _ s
  refine wpAny_bind (wpAny_newObj_type ?_)
  refine wpAny_pure ⟨plainId_quiet F.plain_list_iadd _, codeAny_builtin F.entry_list_iadd ?_⟩
  rw [Around.under_plainId F.plain_list_iadd _]
  have hS1 : (s.heap.push { cls := .type "list", data := .seq ([] : List Value).toArray }).get? s.heap.objs.size = some { cls := .type "list", data := .seq ([] : List Value).toArray } := Heap.get?_push_size _ rfl
  have ho1 : (s.heap.push { cls := .type "list", data := .seq ([] : List Value).toArray }).get? a = some o := Heap.get?_push_of_some _ ho
  have hT1 : Shared.TypeIs { s with heap := s.heap.push { cls := .type "list", data := .seq ([] : List Value).toArray } } (.ref a) "set" := ⟨o, ho1, hex.1⟩
  have h1 : Builtin.List.listSameRef (.ref s.heap.objs.size) (.ref a) = false := by simp [Builtin.List.listSameRef, hDa]
  show wpAny _ A.in1 (Builtin.List.listExtendWith (.ref s.heap.objs.size) (.ref a) (.ref s.heap.objs.size)) _ _ _
  unfold Builtin.List.listExtendWith
  refine wpAny_bind (wpAny_typeOf hT1 ?_)
  rw [if_neg (by rw [h1]; decide)]
  have hS' : SetG prog w (s.heap.push { cls := .type "list", data := .seq ([] : List Value).toArray }) a S n (!byText w) := ⟨o, es, ep, t, ho1, hex, hd, hel, hmem, hb, hf, hn, hg⟩
  refine wpAny_bind (iterSet (s := { s with heap := s.heap.push { cls := .type "list", data := .seq ([] : List Value).toArray } }) hS' fun h' d I fp P St hk hsz W hst hfp hI hIn hfr hacc => ?_)
  have hT2 : Shared.TypeIs { s with heap := h', drawn := d } (.ref a) "set" := ⟨o, hk _ _ ho1, hex.1⟩
  refine wpAny_bind (wpAny_holding ?_)
  unfold Builtin.List.listLengthHint
  refine wpAny_bind (wpAny_specialOf hT2 PySem.F.slot_set_len.lookup ?_)
  have hsp : splitId "set.__len__" = some ("set", "__len__") := by decide +kernel
  dsimp only
  rw [hsp]
  dsimp only
  refine wpAny_bind (wpAny_isInstance (b := true) hT2 sub_set_self ?_)
  rw [if_neg (by decide)]
  rw [if_pos (by decide +kernel)]
  refine wpAny_bind (wpAny_typeOf hT2 ?_)
  dsimp only
  refine wpAny_pure ?_
  rw [if_pos (by decide +kernel)]
  refine wpAny_bind (wpAny_rule ?_)
  unfold Builtin.List.listTouch Builtin.List.listUpdate
  have hS2 := hk _ _ hS1
  refine wpAny_bind (wpAny_bind (wpAny_updateSeq (s := { s with heap := h', drawn := d }) hS2 rfl ?_ (by simp) (by simp)))
  have hS3 := Heap.get?_update_self (Obj.mapSeq fun xs => xs.push Value.none) hS2 rfl
  refine wpAny_updateSeq hS3 rfl ?_ (by size_fits) (by seq_fits)
  have hS4 := Heap.get?_update_self (Obj.mapSeq fun xs => xs.pop) hS3 rfl
  have hDf : s.heap.objs.size ∉ fp := fun hm => by
    rcases hfr _ hm with e | e
    · exact hDa e
    · have := hS1; rw [show (s.heap.push { cls := .type "list", data := .seq ([] : List Value).toArray }).get? s.heap.objs.size = none from e] at this; cases this
  have hkk : ∀ b o', s.heap.get? b = some o' → b ≠ s.heap.objs.size ∧ b ≠ I := fun b o' e => ⟨Nat.ne_of_lt (Heap.lt_size e), fun q => by
    have h2 := Heap.get?_push_of_some { cls := .type "list", data := .seq ([] : List Value).toArray } e
    rw [q, show (s.heap.push { cls := .type "list", data := .seq ([] : List Value).toArray }).get? I = none from hIn] at h2; cases h2⟩
  refine wpAny_pure ⟨plainId_quiet F.plain_extend_loop _, codeAny_extend_loopS (W A.in1 (by simpa using hh)).toS (by have := fits_of_scanBound hb; lia) s.heap.objs.size hDf _ n 0 _ #[] _ rfl (Nat.zero_le _) ?_ hS4 (ItemsOf.nil P) fun s' acc' c' hm hS5 hacc' => ?_⟩
  · refine (W A.in1 (by simpa using hh)).frame 0 h' _ hst fun b hb' o' e => ?_
    have hbD : s.heap.objs.size ≠ b := fun q => hDf (q ▸ hb')
    exact (Heap.get?_update_other _ _ hbD).trans ((Heap.get?_update_other _ _ hbD).trans e)
  · show wpAny _ A (load s.heap.objs.size >>= _) _ _ s'
    refine wpAny_bind (wpAny_load hS5 (wpAny_pure ?_))
    (refine qE1A3 (hacc acc' hacc') fun ks k1 k2 k3 => ?_)
    obtain ⟨hp', g', d', tk', os'⟩ := s'
    have eg : g' = s.gens := hm.gens
    have eo : os' = s.os := hm.os
    subst eg; subst eo
    refine hQ hp' tk' d' ks acc'.toList (fun b o' e => ?_) (Heap.lt_size hS5) k1 k2 k3
    have hne := hkk b o' e
    refine hm.heap b o' (by simp only [List.mem_cons, List.not_mem_nil, or_false, not_or]; exact hne) ?_
    exact (Heap.get?_update_other _ _ hne.1.symm).trans ((Heap.get?_update_other _ _ hne.1.symm).trans (hk b o' (Heap.get?_push_of_some _ e)))
theorem sortedSet {a : Addr} {S : Int → Bool} {n : Nat} {Q : Value → Shared → Prop} (hh : A.handled = none) (hS : SetG prog w s.heap a S n (!byText w)) (h64 : n < 64)
    (hQ : ∀ h' tk d D vs' ks c, (∀ b o, s.heap.get? b = some o → h'.get? b = some o) → s.heap.get? D = none → h'.get? D = some (listOf (List.toArray vs') c) → IntsAre vs' ks → ks.length = n → (∀ k, k ∈ ks ↔ S k = true) → ks.Pairwise (· ≤ ·) → Q (.ref D) { s with heap := h', toks := tk, drawn := d }) :
    wpAny (model prog w) A (call (.builtin "sorted") [.ref a]) Q E s := by
  refine Calls.call_function_entry kind_sorted plain_sorted entry_sorted (args_sorted1 _) ?_
  unfold Builtin.«sorted»
  refine wpAny_bind (m := checkCount "sorted" 1 1 _) (wpAny_pure ?_)
  refine wpAny_bind (collectSet (by simpa using hh) hS fun h' tk d ks acc hk hsz hi hl hm => ?_)
  have hal : acc.length = n := by rw [hi.length, hl]
  refine wpAny_bind (wpAny_newList ?_ (by rw [sizeLine_eq]; lia))
  have hoL : (h'.push (seqObj "list" acc.toArray 0)).get? h'.objs.size = some (seqObj "list" acc.toArray 0) := Heap.get?_push_size _ rfl
  show wpAny _ _ _ _ _ { s with heap := h'.push (seqObj "list" acc.toArray 0), toks := tk, drawn := d }
  refine wpAny_bind (wpAny_holding (wpAny_call_entry slot_list_sort ⟨_, hoL, rfl⟩ entry_list_sort (list_sort_tree hoL hi (by lia) fun out ns' a1 a2 a3 => ⟨_, rfl, ?_⟩) (args_list_sort _)))
  (refine qE1A1 (sortedHeap_at (vs := acc) (out := out) hoL) fun e he => ?_)
  refine wpAny_pure ⟨_, rfl, ?_⟩
  have hz : (h'.push (seqObj "list" acc.toArray 0)).objs.size = h'.objs.size + 1 := Heap.size_push _ _
  refine hQ _ tk d h'.objs.size out.toList ns' e (fun b o eb => ?_) (Heap.get?_none_of_le (Nat.le_of_lt hsz)) (by rw [Array.toArray_toList]; exact he) a1 (by rw [a2.length_eq, hl]) (fun k => by rw [a2.mem_iff]; exact hm k) a3
  have h2 := hk b o eb
  have hlt := Heap.lt_size h2
  rw [sortedHeap_old (Nat.ne_of_lt hlt) (by rw [hz]; exact Nat.lt_succ_of_lt hlt)]
  exact Heap.get?_push_of_some _ h2
end
end
-- S8
section
set_option maxRecDepth 100000
set_option maxHeartbeats 1000000
noncomputable def SetO (prog : Program) (w : World) (o : Obj) (ns : List Int) : Prop :=
  ∃ es ep t, o.ExactSet ∧ o.data = .set es ep t ∧ ElemsOf (intKind prog w) es.toList ∧ (∀ k, (firstMet (fun i => ns.getD i 0) ns.length).any (· == k) = true ↔ ∃ e ∈ es.toList, (intKind prog w).is k e.2 = true)
    ∧ es.size < scanBound ∧ t.fits es.size = true ∧ es.size = (firstMet (fun i => ns.getD i 0) ns.length).length ∧ TabG t (!byText w)
theorem step_nodup {σ : List Int} {v : Int} (h : σ.Nodup) : (step_dedup σ v).Nodup := by
  have h1 := step_any σ v
  have h2 := step_length σ v
  unfold step_dedup at *
  split
  · exact h
  · rename_i hv
    first
      | exact List.nodup_cons.mpr ⟨by simpa using hv, h⟩
      | (refine List.nodup_append.mpr ⟨h, by simp, ?_⟩
         intro a ha b hb e
         rw [List.mem_singleton.mp hb] at e
         subst e
         exact hv (by simpa using ha))
theorem first_nodup (val : Nat → Int) : ∀ i, (firstMet val i).Nodup
  | 0 => by rw [firstMet_zero]; exact List.nodup_nil
  | i + 1 => by rw [firstMet_succ]; exact step_nodup (first_nodup val i)
theorem first_mem (ns : List Int) (k : Int) : (firstMet (fun i => ns.getD i 0) ns.length).any (· == k) = true ↔ k ∈ ns := by
  rw [firstMet_any]
  simp only [List.any_eq_true, beq_iff_eq, List.mem_map, List.mem_range]
  constructor
  · rintro ⟨x, ⟨i, hi, rfl⟩, rfl⟩
    have : ns.getD i 0 = ns[i] := by simp [hi]
    rw [this]; exact List.getElem_mem hi
  · intro h
    obtain ⟨i, hi, e⟩ := List.mem_iff_getElem.mp h
    exact ⟨k, ⟨i, hi, by simp [hi, e]⟩, rfl⟩
section
variable {prog : Program} {w : World} {A : Around} {E : Value → Shared → Prop} {s : Shared} {h₀ : Heap} {L l a : Addr} {m : Str → Option Value} {news : List (Addr × Obj)} {vs : List Value} {ns : List Int}
theorem setN {Q : Value → Shared → Prop} (F : Fr h₀ L s.heap m) (N : News h₀ L s.heap news) (hh : A.handled = none) (hl : h₀.IsList l vs.toArray) (hi : IntsAre vs ns) (hb : ns.length ≤ 60)
    (h : ∀ h' (tk : Nat) a o, Fr h₀ L h' m → News h₀ L h' ((a, o) :: news) → SetO prog w o ns → (∀ q ∈ news, q.1 < a) → L < a → Q (.ref a) { s with heap := h', toks := tk }) :
    wpAny (model prog w) A (call (.type "set") [.ref l]) Q E s := by
  have hvn : vs.length = ns.length := hi.length
  have hsz : vs.toArray.size = vs.length := List.size_toArray
  refine setListG (items := vs.toArray) (ns := ns) hh (hl.at fun o e => F.keep _ _ e) (by simpa using hi) (by rw [hsz]; unfold scanBound; lia) fun h' tk hS hk => ?_
  obtain ⟨o, es, ep, t, ho, hex, hd, hel, hmem, hb', hf, hn, hg⟩ := hS
  rw [hsz, hvn] at hmem hn
  (refine qE3A2 (F.ns) fun oL _ _ hL _ => ?_)
  have hLlt : L < s.heap.objs.size := Heap.lt_size hL
  refine h h' tk _ o ⟨F.ns.at' fun o' e => hk L o' hLlt e, fun b o' e => hk b o' (Heap.lt_size (F.keep b o' e)) (F.keep b o' e), F.above⟩ (fun p hp => ?_) ⟨es, ep, t, hex, hd, hel, hmem, hb', hf, hn, hg⟩ (fun q hq => Heap.lt_size (N q hq).1) hLlt
  (first | (revert p; refine alC ?_ (fun p hp => ?_)) | rcases List.mem_cons.mp hp with rfl | hp)
  · refine ⟨ho, Nat.ne_of_gt hLlt, ?_⟩
    cases hq : h₀.get? s.heap.objs.size with
    | none => rfl
    | some o' => exact absurd (Heap.lt_size (F.keep _ _ hq)) (Nat.lt_irrefl _)
  · exact ⟨hk _ _ (Heap.lt_size (N p hp).1) (N p hp).1, (N p hp).2.1, (N p hp).2.2⟩
noncomputable def Ep (_ : Nat) : Prop := True
theorem Ep.mk (c : Nat) : Ep c := trivial
abbrev valE {c : Nat} (_ : Ep c) : Nat := c
structure Uniq (ks ns : List Int) : Prop where
  rise : ks.Pairwise (· < ·)
  mem : ∀ k, k ∈ ks ↔ k ∈ ns
theorem sortedSetN {o : Obj} {Q : Value → Shared → Prop} (F : Fr h₀ L s.heap m) (N : News h₀ L s.heap news) (hm : (a, o) ∈ news) (hO : SetO prog w o ns) (hh : A.handled = none) (hb : ns.length ≤ 60)
    (h : ∀ h' tk d D vs' ks c, Fr h₀ L h' m → News h₀ L h' ((D, listOf (List.toArray vs') c) :: news) → AllNe D news → @Ne Nat L D → IntsAre vs' ks → Uniq ks ns → Q (.ref D) { s with heap := h', toks := tk, drawn := d }) :
    wpAny (model prog w) A (call (.builtin "sorted") [.ref a]) Q E s := by
  (refine qE3A8 (hO) fun es ep t hex hd hel hmem hb' hf hn hg => ?_; (try clear hO))
  have hlen := firstMet_length_le (fun i => ns.getD i 0) ns.length
  refine sortedSet (n := es.size) hh ⟨o, es, ep, t, (N _ hm).1, hex, hd, hel, hmem, hb', hf, rfl, hg⟩ (by lia) fun h' tk d D vs' ks c hk hD hDo hi hl hk' hp => ?_
  have kp : Keeps s.heap h' := hk
  have hne : L ≠ D := fun e => by
    (refine qE3A2 (F.ns) fun oL _ _ hL _ => ?_)
    rw [e, hD] at hL; cases hL
  have hmem2 : ∀ k, k ∈ ks ↔ k ∈ ns := fun k => by rw [hk' k]; exact first_mem ns k
  have hnd : ks.Nodup := by
    have hp2 := perm_of (F := firstMet (fun i => ns.getD i 0) ns.length) (ks := ks) (first_nodup _ _) (fun k hkm => (hk' k).mpr (by simpa using hkm)) (by rw [hl, hn])
    exact hp2.nodup_iff.mpr (first_nodup _ _)
  refine h h' tk d D vs' ks c (Fr.grow F kp) (addN F N kp hD hDo) (allNe N hD) hne hi ⟨?_, hmem2⟩
  have := hp.and hnd
  exact this.imp fun ⟨h1, h2⟩ => by lia
theorem getM_count {n : Nat} {items : Array Value} {pl : Sem Bool} {Q : Value × List Value → Shared → Prop} (F : Fr h₀ L s.heap m) (hl : h₀.get? l = some (listOf items n)) (h : Q (.builtin "list.count", [.ref l]) s) : wpAny (model prog w) A (getMethod (.ref l) (Str.ofString "count") pl) Q E s :=
  getMethod_builtin ⟨_, F.keep _ _ hl, rfl⟩ PySem.F.plainAttrs_list PySem.F.slot_list_count PySem.F.type_list_count (fun a e => by cases e; exact ⟨_, F.keep _ _ hl, rfl⟩) h
end
theorem rep_len (v : Value) (k : Nat) : ((List.replicate k [v]).flatten).length = k := by simp
theorem rep_flat (v : Value) (k : Nat) : (List.replicate k [v]).flatten = List.replicate k v := by
  induction k with
  | zero => rfl
  | succ k ih => rw [List.replicate_succ, List.flatten_cons, ih, List.replicate_succ]; rfl
theorem ints_rep (q : Int) (t : Tok) : ∀ k, IntsAre (List.replicate k (.int q t)) (List.replicate k q)
  | 0 => .nil
  | k + 1 => .cons q t (ints_rep q t k)
end
-- T1
section
set_option maxRecDepth 100000
set_option maxHeartbeats 1000000
theorem enterCC {prog : Program} {w : World} {A : Around} {s : Shared} {K : Frag} {Q : Value → Shared → Prop} {E : Value → Shared → Prop} {name qual : Str} {params : Arguments} {body : List Stmt} {scope : Scope} {dV kV doc pm cdv ct oc : Value} {an od : Option Addr} {osl : Array (Option Value)} {f : Addr} {args : List Value} {binds : List (Str × Value)}
    (X : K.In s.heap) (hlim : s.heap.NoLimit)
    (ho : K.lookup f = some ⟨oc, od, .func (fnOf name qual params body scope dV kV doc pm an cdv ct), osl⟩) (hcd : codeIn K cdv qual = true) (hroom : A.depth < recursionLimit)
    (hbind : BindsTo s (fnOf name qual params body scope dV kV doc pm an cdv ct) ⟨args, []⟩ binds)
    (hkind : (binds.all fun y => scope.names.lookup y.1 == some .local || scope.names.lookup y.1 == some .cell) = true)
    (hnd : ((cellsFrom 0 scope.names []).map (·.1)).Nodup)
    (h : ∀ h₁ L' tk cells, Fr s.heap L' h₁ (bindL (envOfC qual scope L' f cdv).kindOf binds fun _ => none) → News s.heap L' h₁ cells →
      CellsAre (bindC (envOfC qual scope L' f cdv).kindOf binds fun _ => none) (cellsFrom (L' + 1) scope.names []) cells →
      wpAny (model prog w) (A.deeper (envOfC qual scope L' f cdv)) (execs body (envOfC qual scope L' f cdv))
        (fun fl s' => Q (match fl with | .ret v => v | _ => .none) s')
        (fun e s' => wpAny (model prog w) (A.deeper (envOfC qual scope L' f cdv)) (leaving (envOfC qual scope L' f cdv) e) (fun _ s'' => E e s'') (fun e' s'' => E e' s'') s')
        { s with heap := h₁, toks := tk })
    (hco : scope.isCoroutine = false) (hgen : scope.isGenerator = false) (hk : scope.kind = .function) : wpAny (model prog w) A (call (.ref f) args) Q E s := by
  refine wpAny_call ?_
  refine codeAny_call_function hroom (X _ _ ho) rfl hco hgen rfl (codeRec_of X hcd) (hbind _ _ _ _ ?_)
  refine wpAny_newFunctionEnv_cells hk (kindsX hkind _) fun env' he s' x => ?_
  subst he
  refine ⟨hlim.keeps x.toInCall.keep, codeAny_func ?_⟩
  (refine qE2A2 (x.done) fun h₁ tk zqr2 _ => ?_; subst zqr2)
  have hk₁ := x.toInCall.keep
  (refine qE1A2 (Cl.news (h₀ := s.heap) (Nat.le_refl _) fun n c hm => ⟨x.cell n c (lookup_of_mem_nodup (cellsFrom_names scope.names 0 (s.heap.objs.size + 1) [] [] rfl ▸ hnd) hm), x.above n c hm⟩) fun cells NC Y => ?_)
  exact h h₁ s.heap.objs.size tk cells ⟨x.toInCall.ns, hk₁, Nat.le_refl _⟩ NC Y
end
-- T2
section
set_option maxRecDepth 100000
set_option maxHeartbeats 1000000
theorem ints_lenE : ∀ {vs : List Value} {ns : List Int}, IntsAre vs ns → vs.length = ns.length := by
  intro vs ns h
  induction h with
  | nil => rfl
  | cons n t _ ih => simp [ih]
theorem ints_get : ∀ {vs : List Value} {ns : List Int}, IntsAre vs ns → ∀ i : Nat, (vs[i]? = none ∧ ns[i]? = none) ∨ ∃ n t, vs[i]? = some (.int n t) ∧ ns[i]? = some n := by
  intro vs ns h
  induction h with
  | nil => intro i; left; simp
  | cons n t _ ih =>
    intro i
    cases i with
    | zero => right; exact ⟨n, t, rfl, rfl⟩
    | succ i => simpa using ih i
theorem ints_fm {vs : List Value} {ns : List Int} (h : IntsAre vs ns) : ∀ is : List Nat, IntsAre (is.filterMap fun x => vs.toArray[x]?) (is.filterMap fun x => ns[x]?) := by
  intro is
  induction is with
  | nil => exact IntsAre.nil
  | cons i r ih =>
    have e : vs.toArray[i]? = vs[i]? := by simp
    rw [List.filterMap_cons, List.filterMap_cons, e]
    rcases ints_get h i with ⟨h1, h2⟩ | ⟨n, t, h1, h2⟩
    · rw [h1, h2]; exact ih
    · rw [h1, h2]; exact IntsAre.cons _ _ ih
noncomputable def pickI (ns : List Int) (lo hi st : Option Int) : List Int := (sliceRange (sliceBounds lo hi st ns.length).1 (sliceBounds lo hi st ns.length).2.1 (sliceBounds lo hi st ns.length).2.2).filterMap fun x => ns[x]?
theorem pick_ints {vs : List Value} {ns : List Int} {lo hi st : Option Int} (h : IntsAre vs ns) : IntsAre (slicePick vs.toArray lo hi st).toList (pickI ns lo hi st) := by
  have e : vs.toArray.size = ns.length := by simp [Mine.ints_lenE h]
  unfold slicePick pickI
  rw [e]
  exact ints_fm h _
section
variable {prog : Program} {w : World} {A : Around} {E : Value → Shared → Prop} {s : Shared} {h₀ : Heap} {L : Addr} {m : Str → Option Value} {news : List (Addr × Obj)}
theorem sum_pick {l : Addr} {vs : List Value} {ns : List Int} {lo hi st : Option Int} {Q : Value → Shared → Prop} (hh : A.handled = none) (F : Fr h₀ L s.heap m) (N : News h₀ L s.heap news)
    (hl : (l, { cls := .type "list", data := .seq (slicePick vs.toArray lo hi st) }) ∈ news) (hI : IntsAre vs ns)
    (h : ∀ h' tk t', Fr h₀ L h' m → News h₀ L h' news → Q (.int (pickI ns lo hi st).sum t') { s with heap := h', toks := tk }) :
    wpAny (model prog w) A (call (.builtin "sum") [.ref l]) Q E s :=
  sumK hh F N (vs := (slicePick vs.toArray lo hi st).toList) ⟨_, (N _ hl).1, rfl, 0, rfl⟩ (pick_ints hI) h
end
end
-- T3
section
set_option maxRecDepth 100000
set_option maxHeartbeats 1000000
theorem genStop {P : Shared → Prop} {s s' : Shared} {h₀ : Heap} {L : Addr} {m : Str → Option Value} {big : List (Addr × Obj)} (nl : List (Str × Value)) (news : List (Addr × Obj))
    (F : Fr h₀ L s'.heap m) (N : News h₀ L s'.heap big) (ha : Agree nl m) (hs : SubL news big) (hg : s' = { s with heap := s'.heap, toks := s'.toks })
    (h : ∀ h tk u, Fr h₀ L h (locsOf nl u) → News h₀ L h news → P { s with heap := h, toks := tk }) : P s' := by
  rw [hg]
  exact h _ _ m (by rw [locsOf_agree ha]; exact F) (hs.news N)
theorem ints7 {ys : List Value} {f : Int → Int} (h : IntsAre ys (List.map f (rangeKs 0 ((7 : Int) - 0).toNat))) : ∃ c0 c1 c2 c3 c4 c5 c6, IntsAre ys [c0, c1, c2, c3, c4, c5, c6] := ⟨_, _, _, _, _, _, _, h⟩
end
-- T4
section
set_option maxRecDepth 100000
set_option maxHeartbeats 1000000
noncomputable def AfterSt (h₀ : Heap) (L : Addr) (Jn : List (Str × Value) → List (Addr × Obj) → Prop) (s : Shared) (fl : Flow) (s' : Shared) : Prop :=
  fl = .next ∧ ∃ h' tk m nl news, s' = { s with heap := h', toks := tk } ∧ Fr h₀ L h' m ∧ Agree nl m ∧ News h₀ L h' news ∧ Jn nl news
theorem afterSt {M : Model} {A : Around} {x : Sem Flow} {Q : Flow → Shared → Prop} {E : Value → Shared → Prop} {s : Shared} {h₀ : Heap} {L : Addr} (Jn : List (Str × Value) → List (Addr × Obj) → Prop)
    (w : wpAny M A x (AfterSt h₀ L Jn s) E s) (h : ∀ h' tk u nl news, Jn nl news → Fr h₀ L h' (locsOf nl u) → News h₀ L h' news → Q .next { s with heap := h', toks := tk }) : wpAny M A x Q E s :=
  wpAny_mono w (fun fl s' p => by
    obtain ⟨rfl, h', tk, m, nl, news, rfl, F, ag, N, hj⟩ := p
    exact h h' tk m nl news hj (by rw [locsOf_agree ag]; exact F) N) fun _ _ e => e
theorem afterE {s s' : Shared} {h₀ : Heap} {L : Addr} {Jn : List (Str × Value) → List (Addr × Obj) → Prop} {m : Str → Option Value} {big : List (Addr × Obj)} {nl : List (Str × Value)} {news : List (Addr × Obj)}
    (F : Fr h₀ L s'.heap m) (N : News h₀ L s'.heap big) (hj : Jn nl news) (ha : Agree nl m) (hs : SubL news big) (hg : s' = { s with heap := s'.heap, toks := s'.toks }) : AfterSt h₀ L Jn s .next s' :=
  ⟨rfl, s'.heap, s'.toks, m, nl, news, hg, F, ha, hs.news N, hj⟩
theorem fm_bd (a : Int) {b : Int} (h : 0 < b) : 0 ≤ a.fmod b ∧ a.fmod b < b := ⟨Int.fmod_nonneg_of_pos a h, Int.fmod_lt_of_pos a h⟩
theorem start1 {a : Int} (h0 : 0 ≤ a) (h1 : a < 980000) : 0 ≤ a.fdiv 100 * 100 + 97 ∧ a.fdiv 100 * 100 + 97 < 980000 := by
  rw [Int.fdiv_eq_ediv_of_nonneg _ (by decide)]; lia
theorem start2 {a : Int} (h0 : 0 ≤ a) (h1 : a < 980000) : 0 ≤ a.fdiv 10000 * 10000 + 9997 ∧ a.fdiv 10000 * 10000 + 9997 < 980000 := by
  rw [Int.fdiv_eq_ediv_of_nonneg _ (by decide)]; lia
theorem size_up {a b : Int} {n : Nat} (h : b = a + n) : Builtin.Range.rangeSize a b 1 = (n : Int) := by
  subst h
  unfold Builtin.Range.rangeSize
  rw [if_pos (by decide)]
  split <;> lia
theorem small_up {a b : Int} (h0 : 0 ≤ a) (h1 : a < 1000000) (h2 : b < 1000000) (h3 : 0 ≤ b) : Builtin.Range.small a b 1 = true := by
  exact small_one (by lia) (by lia) (by lia) (by lia)
theorem ints_uncons {ys : List Value} {c : Int} {r : List Int} (h : IntsAre ys (c :: r)) : ∃ t ys', ys = .int c t :: ys' ∧ IntsAre ys' r := by
  cases h with | cons n t h => exact ⟨t, _, rfl, h⟩
theorem ints7v {ys : List Value} {c0 c1 c2 c3 c4 c5 c6 : Int} (h : IntsAre ys [c0, c1, c2, c3, c4, c5, c6]) : ∃ t0 t1 t2 t3 t4 t5 t6, ys = [.int c0 t0, .int c1 t1, .int c2 t2, .int c3 t3, .int c4 t4, .int c5 t5, .int c6 t6] := by
  (refine qE2A2 (ints_uncons h) fun t0 y e0 h1 => ?_)
  refine ⟨t0, ?_⟩
  (refine qE2A2 (ints_uncons h1) fun t1 y1 zqr2 h2 => ?_; subst zqr2)
  refine ⟨t1, ?_⟩
  (refine qE2A2 (ints_uncons h2) fun t2 y2 zqr2 h3 => ?_; subst zqr2)
  refine ⟨t2, ?_⟩
  (refine qE2A2 (ints_uncons h3) fun t3 y3 zqr2 h4 => ?_; subst zqr2)
  refine ⟨t3, ?_⟩
  (refine qE2A2 (ints_uncons h4) fun t4 y4 zqr2 h5 => ?_; subst zqr2)
  refine ⟨t4, ?_⟩
  (refine qE2A2 (ints_uncons h5) fun t5 y5 zqr2 h6 => ?_; subst zqr2)
  refine ⟨t5, ?_⟩
  (refine qE2A2 (ints_uncons h6) fun t6 y6 zqr2 h7 => ?_; subst zqr2)
  cases h7
  exact ⟨t6, e0⟩
end
-- T5
section
set_option maxRecDepth 100000
set_option maxHeartbeats 1000000
structure Blk (a : Int) (i : Nat) (xs : List Int) : Prop where
  rise : xs.Pairwise (· ≤ ·)
  all : ∀ x ∈ xs, a ≤ x ∧ x < a + i
  lo : i ≤ xs.length
  hi : xs.length ≤ 2 * i
theorem Blk.nil (a : Int) : Blk a 0 [] := ⟨List.Pairwise.nil, by simp, Nat.le_refl _, Nat.le_refl _⟩
theorem Blk.step {a : Int} {i : Nat} {xs : List Int} (h : Blk a i xs) {k : Int} (h1 : 1 ≤ k) (h2 : k ≤ 2) : Blk a (i + 1) (xs ++ List.replicate k.toNat (a + i)) := by
  refine ⟨?_, ?_, ?_, ?_⟩
  · rw [List.pairwise_append]
    refine ⟨h.rise, ?_, ?_⟩
    · generalize k.toNat = n
      induction n with
      | zero => exact List.Pairwise.nil
      | succ n ih => rw [List.replicate_succ]; exact List.Pairwise.cons (fun y hy => by rw [(List.mem_replicate.mp hy).2]; exact Int.le_refl _) ih
    · intro x hx y hy
      have := h.all x hx
      have := (List.mem_replicate.mp hy).2
      lia
  · intro x hx
    rcases List.mem_append.mp hx with hx | hx
    · have := h.all x hx; lia
    · have := (List.mem_replicate.mp hx).2; lia
  · have := h.lo; rw [List.length_append, List.length_replicate]; lia
  · have := h.hi; rw [List.length_append, List.length_replicate]; lia
theorem Blk.stepB {a : Int} {i : Nat} {xs : List Int} (h : Blk a i xs) {b : Int} (hb : 0 ≤ b ∧ b < 2) : Blk a (i + 1) (xs ++ List.replicate (1 + b).toNat (a + i)) := h.step (by lia) (by lia)
theorem reb {P : Shared → Prop} {s s' : Shared} {h₀ : Heap} {L : Addr} {nl : List (Str × Value)} {u : Str → Option Value} {news : List (Addr × Obj)} (F : Fr h₀ L s'.heap (locsOf nl u)) (N : News h₀ L s'.heap news)
    (hg : s' = { s with heap := s'.heap, toks := s'.toks }) (h : ∀ h tk, Fr h₀ L h (locsOf nl u) → News h₀ L h news → P { s with heap := h, toks := tk }) : P s' := by
  rw [hg]
  exact h _ _ F N
theorem ints3 (a b c : Int) (t u v : Tok) : IntsAre [.int a t, .int b u, .int c v] [a, b, c] := .cons _ _ (.cons _ _ (.cons _ _ .nil))
noncomputable def NewB (h h' : Heap) : List (Addr × Obj) → Prop
  | [] => True
  | p :: r => h'.get? p.1 = some p.2 ∧ h.get? p.1 = none ∧ NewB h h' r
theorem newB_of {h₀ h' : Heap} {L : Addr} {big : List (Addr × Obj)} (N : News h₀ L h' big) : ∀ {l : List (Addr × Obj)}, SubL l big → NewB h₀ h' l
  | [], _ => trivial
  | _ :: _, ⟨m, r⟩ => ⟨(N _ m).1, (N _ m).2.2, newB_of N r⟩
abbrev tup4 (a b c d : Addr) : Obj := { cls := .type "tuple", data := .seq #[.ref a, .ref b, .ref c, .ref d] }
structure Late : Prop where
structure Siz (zs : List Int) : Prop where
  lo : 1 ≤ zs.length
  hi : zs.length ≤ 3
  all : ∀ x ∈ zs, 1 ≤ x ∧ x ≤ 3
structure Num (xs : List Int) : Prop where
  rise : xs.Pairwise (· ≤ ·)
  all : ∀ x ∈ xs, 0 ≤ x ∧ x < 1000000
  lo : 1 ≤ xs.length
  hi : xs.length ≤ 14
theorem Blk.num {a : Int} {i : Nat} {xs : List Int} (h : Blk a i xs) (h0 : 0 ≤ a) (h1 : a < 990000) (h2 : 1 ≤ i) (h3 : i ≤ 7) : Num xs :=
  ⟨h.rise, fun x hx => by have := h.all x hx; lia, by have := h.lo; lia, by have := h.hi; lia⟩
theorem siz_take {x a b c : Int} (hx : 0 ≤ x ∧ x < 3) : Siz (List.take (1 + x).toNat [1 + a.fmod 3, 1 + b.fmod 3, 1 + c.fmod 3]) := by
  have ha := fm_bd a (b := 3) (by decide)
  have hb := fm_bd b (b := 3) (by decide)
  have hc := fm_bd c (b := 3) (by decide)
  refine ⟨?_, ?_, fun y hy => ?_⟩
  · simp only [List.length_take, List.length_cons, List.length_nil]; exact Nat.le_min.mpr ⟨arL (ar16 hx).1, by decide⟩
  · simp only [List.length_take, List.length_cons, List.length_nil]; exact Nat.min_le_right _ _
  · have := List.mem_of_mem_take hy
    simp only [List.mem_cons, List.not_mem_nil, or_false] at this
    rcases this with rfl | rfl | rfl
    · exact ar16 ha
    · exact ar16 hb
    · exact ar16 hc
theorem siz_of {ws : List Value} {x a b c : Int} (hx : 0 ≤ x ∧ x < 3) (h : IntsAre ws (List.take (1 + x).toNat [1 + a.fmod 3, 1 + b.fmod 3, 1 + c.fmod 3])) : ∃ zs, IntsAre ws zs ∧ Siz zs := ⟨_, h, siz_take hx⟩
noncomputable def SIj (D : Addr) (W : Addr × Obj) (nl : List (Str × Value)) (news : List (Addr × Obj)) : Prop :=
  ∀ P : List (Str × Value) → List (Addr × Obj) → Prop, (∀ st t, 0 ≤ st → st < 980000 → P ([("start", .int st t), ("cells", .ref D)] : List (Str × Value)) [W]) → P nl news
noncomputable def BJ1 (D : Addr) (W : Addr × Obj) (st la : Int) (i : Nat) (nl : List (Str × Value)) (news : List (Addr × Obj)) : Prop :=
  ∀ P : List (Str × Value) → List (Addr × Obj) → Prop, (∀ (o : Addr) (vs : List Value) (xs : List Int) (k : Nat) (t : Tok), @Ne Nat o D → IntsAre vs xs → Blk st i xs → P ([("one", .ref o), ("later", .int la t), ("cells", .ref D)] : List (Str × Value)) [(o, listOf (List.toArray vs) k), W]) → P nl news
noncomputable def BJ2 (D : Addr) (W : Addr × Obj) (o : Addr) (O : Addr × Obj) (la : Int) (i : Nat) (nl : List (Str × Value)) (news : List (Addr × Obj)) : Prop :=
  ∀ P : List (Str × Value) → List (Addr × Obj) → Prop, (∀ (p : Addr) (vs : List Value) (xs : List Int) (k : Nat), @Ne Nat p D → @Ne Nat p o → IntsAre vs xs → Blk la i xs → P ([("two", .ref p), ("one", .ref o), ("cells", .ref D)] : List (Str × Value)) [(p, listOf (List.toArray vs) k), O, W]) → P nl news
end
-- E1
local macro_rules | `(tactic| k_ne) => `(tactic| (refine neN ?_; (try dsimp only); first | assumption | exact Ne.symm (by assumption) | (apply Nat.ne_of_gt; assumption) | (apply Nat.ne_of_lt; assumption) | exact nS1 _ | exact nS2 _ | exact nS3 _ | exact nS4 _ | exact (nS1 _).symm | exact (nS2 _).symm | exact (nS3 _).symm | exact (nS4 _).symm | omega))
section
set_option maxRecDepth 100000
set_option maxHeartbeats 1000000
section
variable {w : World} {d u : Nat} {f : Option (List Env)} {g : Option (List Code)} {s : Shared} {E Q : Value → Shared → Prop} {mean : ExcName → Option Value} {mg mb : Str → Option Value}

set_option maxHeartbeats 2500000 in
theorem case_ {l : Addr} {vs : List Value} {ns : List Int} (X : (Mine.hd.heap_39 w.params).In s.heap) (T : Top Mine.hd.view_39 (looseW Mine.hd.view_39 []) mean mg mb s.heap) (hA2 : d < 360)
  (hl : s.heap.IsList l vs.toArray) (hi : IntsAre vs ns) (hv2 : ns.length ≤ 63) 
  (hQ : ∀ h' tk r a b z e va vb vz ve na nb nz ne xs ys zs es, Keeps s.heap h' → NewB s.heap h' [(r, tup4 a b z e), (a, listOf (List.toArray va) na), (b, listOf (List.toArray vb) nb), (z, listOf (List.toArray vz) nz), (e, listOf (List.toArray ve) ne)] →
    IntsAre va xs → IntsAre vb ys → IntsAre vz zs → IntsAre ve es → Num xs → Num ys → Siz zs → (es = [0, 5] ∨ es = [127, 5] ∨ es = []) → Q (.ref r) {s with heap := h', toks := tk}) :
  wpAny (model Challenge.rw_pd0146_01.row.prog w) (Around.mk none d f g u) (call (.ref 167) [.ref l]) Q E s := by
  refine' enterCC (binds := [("script", .ref l)]) X T.nolimit ?k6 ?k7 (Nat.lt_trans hA2 (by decide)) (BindsTo.of_eq ?k8) ?k9 ?kD ?_ ?c1 ?c2 ?c3
  (((case k6 => k_is); (case k7 => k_is); (case k8 => rfl); (case k9 => exact rfl); (case kD => decide); (case c1 => rfl); (case c2 => rfl); (case c3 => rfl)))
  intro h₁ L' tk cells F N Y
  refine wpAny_noRaise ?_
  k_cells Y
  (repeat' (first | (k_unfold; (try dsimp only)) | (k_end; kc_close) | (k_here; (with_reducible show wpAny _ _ (call (Value.builtin "sum") [Value.ref _]) _ _ _); (with_unfolding_all refine' sum_pick (by with_unfolding_all rfl) (by k_asm) (by k_asm) (by k_mem) (by assumption) ?_; k_whole); intro zrhq zrtkq zrtq zrFq zrNq) | (k_here; (with_reducible show wpAny _ _ (exec (Stmt.Assign _ (PySem.Expr.BinOp (PySem.Expr.Subscript _ _ _) Operator.Mod _ _) _) _) _ _ _); refine stopHere ?_) | walk1 | (dsimp only; walk1) | (leave1; (try dsimp only))))
  unfold Stop
  (rename Fr _ _ _ _ => kF)
  (rename News _ _ _ _ => kN)
  (rename IntsAre _ (List.map _ (rangeKs _ _)) => hC)
  obtain ⟨c0, c1, c2, c3, c4, c5, c6, hc⟩ := ints7 hC
  obtain ⟨t0, t1, t2, t3, t4, t5, t6, hc⟩ := ints7v hc
  subst hc
  refine genStop (P := fun s' => wpAny _ _ _ _ _ s') (s := s) [("cells", .ref _)] [(_, listOf (List.toArray [.int c0 t0, .int c1 t1, .int c2 t2, .int c3 t3, .int c4 t4, .int c5 t5, .int c6 t6]) 7)] kF kN (by first | exact agr (by with_unfolding_all rfl) | (refine ⟨?_, trivial⟩ <;> with_unfolding_all rfl)) (by first | exact subI [0] rfl | exact subI [1] rfl | exact subI [2] rfl | exact subI [3] rfl | exact ⟨by k_mem, trivial⟩) rfl ?_
  (revert hQ; revert hA2; revert T; revert X; kjx_bare; (try law_clear); intro X T hA2 hQ)
  rename_i D
  intro h tk u F N
  refine wpAny_Assign_Name ?_
  have hm0 := fm_bd c0 (b := 980000) (by decide)
  (repeat' (first | (k_unfold; (try dsimp only)) | (k_end; kc_close) | (k_here; (with_reducible show wpAny _ _ (exec (Stmt.If _ [Stmt.Assign _ _ _] _ _) _) _ _ _); refine stopHere ?_) | walk1 | (dsimp only; walk1) | (leave1; (try dsimp only))))
  unfold Stop
  refine afterSt (h₀ := s.heap) (L := L') (SIj D (D, listOf (List.toArray [.int c0 t0, .int c1 t1, .int c2 t2, .int c3 t3, .int c4 t4, .int c5 t5, .int c6 t6]) 7)) ?_ ?_
  · refine wpAny_If ?_
    k_steps
    · exact afterE (by assumption) (by assumption) (fun _ k => k _ _ ((start1 hm0.1 hm0.2).1) ((start1 hm0.1 hm0.2).2)) (by first | exact agr (by with_unfolding_all rfl) | (refine ⟨?_, ?_, trivial⟩ <;> with_unfolding_all rfl)) (by first | exact subI [0] rfl | exact subI [1] rfl | exact subI [2] rfl | exact subI [3] rfl | exact ⟨by k_mem, trivial⟩) rfl
    · exact afterE (by assumption) (by assumption) (fun _ k => k _ _ hm0.1 hm0.2) (by first | exact agr (by with_unfolding_all rfl) | (refine ⟨?_, ?_, trivial⟩ <;> with_unfolding_all rfl)) (by first | exact subI [0] rfl | exact subI [1] rfl | exact subI [2] rfl | exact subI [3] rfl | exact ⟨by k_mem, trivial⟩) rfl
  (revert hQ; revert hA2; revert T; revert X; kjx_bare; (try law_clear); intro X T hA2 hQ)
  intro h' tk' u nl news J
  apply J
  clear J
  intro st tst hs0 hs1 F N
  refine reb (P := fun s' => wpAny _ _ _ _ _ s') (s := s) F N rfl ?_
  clear F N
  intro h tk F N
  (repeat' (first | (k_unfold; (try dsimp only)) | (k_end; kc_close) | (k_here; (with_reducible show wpAny _ _ (exec (Stmt.If _ [Stmt.Assign _ _ _] _ _) _) _ _ _); refine stopHere ?_) | walk1 | (dsimp only; walk1) | (leave1; (try dsimp only))))
  unfold Stop
  refine afterSt (h₀ := s.heap) (L := L') (SIj D (D, listOf (List.toArray [.int c0 t0, .int c1 t1, .int c2 t2, .int c3 t3, .int c4 t4, .int c5 t5, .int c6 t6]) 7)) ?_ ?_
  · refine wpAny_If ?_
    k_steps
    · exact afterE (by assumption) (by assumption) (fun _ k => k _ _ ((start2 hs0 hs1).1) ((start2 hs0 hs1).2)) (by first | exact agr (by with_unfolding_all rfl) | (refine ⟨?_, ?_, trivial⟩ <;> with_unfolding_all rfl)) (by first | exact subI [0] rfl | exact subI [1] rfl | exact subI [2] rfl | exact subI [3] rfl | exact ⟨by k_mem, trivial⟩) rfl
    · exact afterE (by assumption) (by assumption) (fun _ k => k _ _ hs0 hs1) (by first | exact agr (by with_unfolding_all rfl) | (refine ⟨?_, ?_, trivial⟩ <;> with_unfolding_all rfl)) (by first | exact subI [0] rfl | exact subI [1] rfl | exact subI [2] rfl | exact subI [3] rfl | exact ⟨by k_mem, trivial⟩) rfl
  (revert hQ; revert hA2; revert T; revert X; kjx_bare; (try law_clear); intro X T hA2 hQ)
  intro h' tk' u nl news J
  apply J
  clear J
  intro st tst hs0 hs1 F N
  refine reb (P := fun s' => wpAny _ _ _ _ _ s') (s := s) F N rfl ?_
  clear F N
  intro h tk F N
  have hm3 := fm_bd c3 (b := 10) (by decide)
  have hm2 := fm_bd c2 (b := 7) (by decide)
  have hm4 := fm_bd c4 (b := 7) (by decide)
  (repeat' (first | (k_unfold; (try dsimp only)) | (k_end; kc_close) | ((with_reducible show wpAny _ _ (exec (PySem.Stmt.For (PySem.Expr.Name _ _) (PySem.Expr.Call _ _ _ _) (_ :: _) [] _) _) _ _ _); ((k_here; (rename Fr _ _ _ _ => zhlFq); (with_unfolding_all refine' For_stop zhlFq (by exact rfl) (by exact rfl) ?_ (by intro _; rfl) (by passes_own); k_whole)))) | walk1 | (dsimp only; walk1) | (leave1; (try dsimp only))))
  unfold Stop
  (rename Fr _ _ _ _ => kF)
  (rename News _ _ _ _ => kN)
  (rename IsRange _ _ _ _ _ _ _ _ => kR)
  refine forR (n := (1 + c2.fmod 7).toNat) (BJ1 D (D, listOf (List.toArray [.int c0 t0, .int c1 t1, .int c2 t2, .int c3 t3, .int c4 t4, .int c5 t5, .int c6 t6]) 7) st (st + c3.fmod 10)) rfl kR (small_up ?_ ?_ ?_ ?_) (size_up ?_) kF kN ?_ ?_ ?_
  · (with_reducible assumption)
  · lia
  · show st + 1 + c2.fmod 7 < 1000000; lia
  · exact Int.add_nonneg (Int.add_nonneg hs0 (by decide)) hm2.1
  · exact ar43 hm2.1
  · exact StartJ.mk (by first | exact agr (by with_unfolding_all rfl) | (refine ⟨?_, ?_, ?_, trivial⟩ <;> with_unfolding_all rfl)) (by first | exact subI [0, 1] rfl | exact subI [1, 2] rfl | exact subI [2, 3] rfl | exact subI [3, 4] rfl | exact ⟨by k_mem, by k_mem, trivial⟩) (fun _ k => k _ ([]) ([]) _ _ (by k_ne) IntsAre.nil (Blk.nil _))
  · intro i tq nl news h tk u I ito hi J
    apply J
    clear J
    intro o vs xs k t hne0 hI hB hne F N
    (revert N; revert F; revert hm2; revert hs1; revert hs0; revert hne; revert hB; revert hI; revert hne0; revert hi; revert hA2; revert T; revert X; kjx_bare; (try law_clear); intro X T hA2 hi hne0 hI hB hne hs0 hs1 hm2 F N)
    simp only [AllNe, and_true] at hne
    have hb1 := hB.hi
    have hb2 := hI.length
    have hk := fm_bd (Int.fdiv (st + (i : Int) + [c0, c1, c2, c3, c4, c5, c6].getD (Int.toNat 2) 0) 2) (b := 2) (by decide)
    (repeat' (first | (k_unfold; (try dsimp only)) | (k_end; kc_close) | (k_here; (with_reducible show wpAny _ _ (call (Value.builtin _) [Value.ref _, Value.ref _]) _ _ _); k_dflt (refine' ext_N (by k_asm) (by k_asm) (by k_mem) (by intro zrc; k_upd) (by (first | ((rw [rep_len]; first | exact ar40 (by assumption) (by assumption) (by assumption) (by assumption) | omega)) | ((refine Nat.le_trans (Nat.add_le_add_left (pick_le _ _ _) _) ?_; (((try simp only [sizeLine_eq, List.length_cons, List.length_nil, List.length_append, List.length_replicate, List.length_map, Array.length_toList, List.size_toArray]); omega)))))) ?_); intro zrcq zrhq zrFq zrNq; (try k_sweep)) | walk1 | (dsimp only; walk1) | (leave1; (try dsimp only))))
    (rename IntsAre (List.flatten _) _ => hW)
    rw [List.flatten_replicate_singleton (a := st + (i : Int))] at hW
    exact turnE (by assumption) (by assumption) (fun _ k => k o _ _ _ _ hne0 (hI.append hW) (hB.stepB hk)) (by first | exact agr (by with_unfolding_all rfl) | (refine ⟨?_, ?_, ?_, trivial⟩ <;> with_unfolding_all rfl)) (by k_mem) (by exact ⟨by k_mem, by k_ne, by k_mem, by k_ne, trivial⟩)
  intro nl news h' tk' u J
  apply J
  clear J
  intro o vs xs k t hne0 hI hB F N
  refine reb (P := fun s' => wpAny _ _ _ _ _ s') (s := s) F N rfl ?_
  clear F N
  intro h tk F N
  have hN1 := hB.num hs0 (by lia) (by (with_reducible refine arL ?_; lia)) (by (with_reducible refine arT ?_; lia))
  (revert N; revert F; revert hm4; revert hm3; revert hs1; revert hs0; revert hN1; revert hI; revert hne0; revert hQ; revert hA2; revert T; revert X; kjx_bare; (try law_clear); intro X T hA2 hQ hne0 hI hN1 hs0 hs1 hm3 hm4 F N)
  (repeat' (first | (k_unfold; (try dsimp only)) | (k_end; kc_close) | ((with_reducible show wpAny _ _ (exec (PySem.Stmt.For (PySem.Expr.Name _ _) (PySem.Expr.Call _ _ _ _) (_ :: _) [] _) _) _ _ _); ((k_here; (rename Fr _ _ _ _ => zhlFq); (with_unfolding_all refine' For_stop zhlFq (by exact rfl) (by exact rfl) ?_ (by intro _; rfl) (by passes_own); k_whole)))) | walk1 | (dsimp only; walk1) | (leave1; (try dsimp only))))
  unfold Stop
  (rename Fr _ _ _ _ => kF)
  (rename News _ _ _ _ => kN)
  (rename IsRange _ _ _ _ _ _ _ _ => kR)
  refine forR (n := (1 + c4.fmod 7).toNat) (BJ2 D (D, listOf (List.toArray [.int c0 t0, .int c1 t1, .int c2 t2, .int c3 t3, .int c4 t4, .int c5 t5, .int c6 t6]) 7) o (o, listOf (List.toArray vs) k) (st + c3.fmod 10)) rfl kR (small_up ?_ ?_ ?_ ?_) (size_up ?_) kF kN ?_ ?_ ?_
  · lia
  · lia
  · show st + c3.fmod 10 + 1 + c4.fmod 7 < 1000000; lia
  · exact Int.add_nonneg (Int.add_nonneg (Int.add_nonneg hs0 hm3.1) (by decide)) hm4.1
  · exact ar43 hm4.1
  · exact StartJ.mk (by first | exact agr (by with_unfolding_all rfl) | (refine ⟨?_, ?_, ?_, trivial⟩ <;> with_unfolding_all rfl)) (by first | exact subI [0, 1, 2] rfl | exact subI [1, 2, 3] rfl | exact subI [2, 3, 4] rfl | exact subI [3, 4, 5] rfl | exact ⟨by k_mem, by k_mem, by k_mem, trivial⟩) (fun _ k => k _ ([]) ([]) _ (by k_ne) (by k_ne) IntsAre.nil (Blk.nil _))
  · intro i tq nl news h tk u I ito hi J
    apply J
    clear J
    intro p ws ys k2 hne1 hne2 hI2 hB hne F N
    (revert N; revert F; revert hm4; revert hm3; revert hs1; revert hs0; revert hne; revert hB; revert hI2; revert hne2; revert hne1; revert hne0; revert hi; revert hA2; revert T; revert X; kjx_bare; (try law_clear); intro X T hA2 hi hne0 hne1 hne2 hI2 hB hne hs0 hs1 hm3 hm4 F N)
    simp only [AllNe, and_true] at hne
    have hb1 := hB.hi
    have hb2 := hI2.length
    have hk := fm_bd (st + c3.fmod 10 + (i : Int)) (b := 2) (by decide)
    (repeat' (first | (k_unfold; (try dsimp only)) | (k_end; kc_close) | (k_here; (with_reducible show wpAny _ _ (call (Value.builtin _) [Value.ref _, Value.ref _]) _ _ _); k_dflt (refine' ext_N (by k_asm) (by k_asm) (by k_mem) (by intro zrc; k_upd) (by (first | ((rw [rep_len]; first | exact ar40 (by assumption) (by assumption) (by assumption) (by assumption) | omega)) | ((refine Nat.le_trans (Nat.add_le_add_left (pick_le _ _ _) _) ?_; (((try simp only [sizeLine_eq, List.length_cons, List.length_nil, List.length_append, List.length_replicate, List.length_map, Array.length_toList, List.size_toArray]); omega)))))) ?_); intro zrcq zrhq zrFq zrNq; (try k_sweep)) | walk1 | (dsimp only; walk1) | (leave1; (try dsimp only))))
    (rename IntsAre (List.flatten _) _ => hW)
    rw [List.flatten_replicate_singleton (a := st + c3.fmod 10 + (i : Int))] at hW
    exact turnE (by assumption) (by assumption) (fun _ k => k p _ _ _ hne1 hne2 (hI2.append hW) (hB.stepB hk)) (by first | exact agr (by with_unfolding_all rfl) | (refine ⟨?_, ?_, ?_, trivial⟩ <;> with_unfolding_all rfl)) (by k_mem) (by exact ⟨by k_mem, by k_ne, by k_mem, by k_ne, by k_mem, by k_ne, trivial⟩)
  intro nl news h' tk' u J
  apply J
  clear J
  intro p ws ys k2 hne1 hne2 hI2 hB F N
  refine reb (P := fun s' => wpAny _ _ _ _ _ s') (s := s) F N rfl ?_
  clear F N
  intro h tk F N
  have hN2 := hB.num (Int.add_nonneg hs0 hm3.1) (by lia) (by (with_reducible refine arL ?_; lia)) (by (with_reducible refine arT ?_; lia))
  (revert N; revert F; revert hN2; revert hI2; revert hN1; revert hI; revert hne2; revert hne1; revert hne0; revert hQ; revert hA2; revert T; revert X; kjx_bare; (try law_clear); intro X T hA2 hQ hne0 hne1 hne2 hI hN1 hI2 hN2 F N)
  have hm6 := fm_bd ([c0, c1, c2, c3, c4, c5, c6].getD (Int.toNat 6) 0) (b := 3) (by decide)
  (repeat' (first | (k_unfold; (try dsimp only)) | (k_end; kc_close) | (k_here; (with_reducible show wpAny _ _ (subscriptTail (PySem.Expr.Name _ _) (PySem.Expr.Slice _ _ _ _) (Value.ref _) (Value.ref _)) _ _ _); (with_reducible show wpAny _ _ (subscriptTail _ (PySem.Expr.Slice none (some (PySem.Expr.BinOp _ _ _ _)) none _) (Value.ref _) (Value.ref _)) _ _ _); refine stopHere ?_) | walk1 | (dsimp only; walk1) | (leave1; (try dsimp only))))
  unfold Stop
  refine' kmk_slice_ints ?F ?N ?l ?pp ?qq (ints3 _ _ _ _ _ _) (kmk_upto (ints3 _ _ _ _ _ _) ?yy) rfl ?_ ?s ?t ?z
  (case F => k_asm)
  (case N => k_asm)
  (case l => kmk_list)
  (case pp => kmk_part)
  (case qq => kmk_part)
  (case yy => (show 0 ≤ 1 + Int.fmod ([c0, c1, c2, c3, c4, c5, c6].getD (Int.toNat 6) 0) 3); lia)
  (case s => with_unfolding_all rfl)
  (case t => kmk_pure)
  (case z => (((try simp only [sizeLine_eq, List.length_cons, List.length_nil, List.length_append, List.length_replicate, List.length_map, Array.length_toList, List.size_toArray]); omega)))
  intro D' ws' h' F' N' l1 hI' hC' hL'
  (refine qE1A2 (siz_of hm6 hI') fun zs hI3 hN3 => ?_)
  clear hI' hC' hL'
  (try k_lt l1)
  refine genStop (P := fun s' => wpAny _ _ _ _ _ s') (s := s) [("two", .ref p), ("one", .ref o), ("cells", .ref D)] [(D', listOf (List.toArray ws') 0), (p, listOf (List.toArray ws) k2), (o, listOf (List.toArray vs) k), (D, listOf (List.toArray [.int c0 t0, .int c1 t1, .int c2 t2, .int c3 t3, .int c4 t4, .int c5 t5, .int c6 t6]) 7)] F' N' (by first | exact agr (by with_unfolding_all rfl) | (refine ⟨?_, ?_, ?_, trivial⟩ <;> with_unfolding_all rfl)) (by first | exact subI [0, 1, 2, 3] rfl | exact subI [1, 2, 3, 4] rfl | exact subI [2, 3, 4, 5] rfl | exact subI [3, 4, 5, 6] rfl | exact ⟨by k_mem, by k_mem, by k_mem, by k_mem, trivial⟩) rfl ?_
  (revert l1; revert hN3; revert hI3; revert hN2; revert hI2; revert hN1; revert hI; revert hne2; revert hne1; revert hne0; revert hQ; revert hA2; revert T; revert X; kjx_bare; (try law_clear); intro X T hA2 hQ hne0 hne1 hne2 hI hN1 hI2 hN2 hI3 hN3 l1)
  intro h tk u F N
  have hm5 := fm_bd (([c0, c1, c2, c3, c4, c5, c6].getD (Int.toNat 5) 0).fdiv 2) (b := 3) (by decide)
  set_option maxHeartbeats 400000 in (repeat' (first | (k_unfold; (try dsimp only)) | (k_end; kc_close) | ((with_reducible refine wpAny_execs_cons ?_); (try dsimp only); (try k_fold)) | walk1 | (dsimp only; walk1) | (leave1; (try dsimp only))))
  all_goals first
    | exact hQ _ _ _ _ _ _ _ _ _ _ _ _ _ _ _ _ _ _ _  (Fr.keep (by assumption)) (newB_of (by assumption) (by first | exact subI [0, 1, 2, 3, 4] rfl | exact subI [1, 2, 3, 4, 5] rfl | exact subI [2, 3, 4, 5, 6] rfl | exact subI [3, 4, 5, 6, 7] rfl | exact ⟨by k_mem, by k_mem, by k_mem, by k_mem, by k_mem, trivial⟩)) hI2 hI hI3 (by first | exact IntsAre.nil | exact IntsAre.cons _ _ (IntsAre.cons _ _ IntsAre.nil)) hN2 hN1 hN3 (by first | exact .inl rfl | exact .inr (.inl rfl) | exact .inr (.inr rfl))
    | exact hQ _ _ _ _ _ _ _ _ _ _ _ _ _ _ _ _ _ _ _  (Fr.keep (by assumption)) (newB_of (by assumption) (by first | exact subI [0, 1, 2, 3, 4] rfl | exact subI [1, 2, 3, 4, 5] rfl | exact subI [2, 3, 4, 5, 6] rfl | exact subI [3, 4, 5, 6, 7] rfl | exact ⟨by k_mem, by k_mem, by k_mem, by k_mem, by k_mem, trivial⟩)) hI hI2 hI3 (by first | exact IntsAre.nil | exact IntsAre.cons _ _ (IntsAre.cons _ _ IntsAre.nil)) hN1 hN2 hN3 (by first | exact .inl rfl | exact .inr (.inl rfl) | exact .inr (.inr rfl))
end
end
-- L0
section
set_option maxRecDepth 100000
set_option maxHeartbeats 1000000
noncomputable def lawSt : Stmt := (Challenge.rw_pd0146_01.row.prog.main.body.getLast?).getD (.Pass default)
noncomputable def lawBody : List Stmt := match lawSt with
  | .FunctionDef _ _ b .. => b
  | _ => []
noncomputable def lawScope : Scope := match lawSt with
  | .FunctionDef _ _ _ _ _ _ sc .. => sc
  | _ => default
noncomputable def Kept (se s : Shared) : Prop := s.os = se.os ∧ AllBare s.gens
noncomputable def AfterG (se : Shared) (h₀ : Heap) (L : Addr) (Jn : List (Str × Value) → List (Addr × Obj) → Prop) (fl : Flow) (s' : Shared) : Prop :=
  fl = .next ∧ Kept se s' ∧ ∃ m nl news, Fr h₀ L s'.heap m ∧ Agree nl m ∧ News h₀ L s'.heap news ∧ Jn nl news
theorem AfterG.intro {se : Shared} {h₀ : Heap} {L : Addr} {Jn : List (Str × Value) → List (Addr × Obj) → Prop} {s' : Shared} {m : Str → Option Value} {big : List (Addr × Obj)} {nl : List (Str × Value)} {news : List (Addr × Obj)}
    (F : Fr h₀ L s'.heap m) (N : News h₀ L s'.heap big) (hj : Jn nl news) (ha : Agree nl m) (hs : SubL news big) (hk : Kept se s') : AfterG se h₀ L Jn .next s' := ⟨rfl, hk, m, nl, news, F, ha, hs.news N, hj⟩
theorem execs_go {se : Shared} {M : Model} {A : Around} {st : Stmt} {rest : List Stmt} {env : Env} {Q : Flow → Shared → Prop} {E : Value → Shared → Prop} {s : Shared} {h₀ : Heap} {L : Addr} {Jn : List (Str × Value) → List (Addr × Obj) → Prop}
    (w : wpAny M A (exec st env) (AfterG se h₀ L Jn) E s) (h : ∀ s' u nl news, Kept se s' → Jn nl news → Fr h₀ L s'.heap (locsOf nl u) → News h₀ L s'.heap news → wpAny M A (execs rest env) Q E s') : wpAny M A (execs (st :: rest) env) Q E s := by
  refine wpAny_execs_cons (wpAny_mono w (fun fl s' p => ?_) fun _ _ e => e)
  obtain ⟨rfl, hk, m, nl, news, F, ag, N, hj⟩ := p
  exact h s' m nl news hk hj (by rw [locsOf_agree ag]; exact F) N
noncomputable def lawAt (k : Nat) : Stmt := (lawBody[k]?).getD (.Pass default)
abbrev lawEnv (sc : Scope) (L fa : Addr) (dc : Value) : Env := envOfC "law" sc L fa dc
noncomputable def Cells (L : Addr) (v1 v2 v3 v4 v5 : Option Value) (cs : List (Addr × Obj)) : Prop :=
  ∀ P : List (Addr × Obj) → Prop, (∀ c1 c2 c3 c4 c5 : Obj, c1.data = .cell v1 → c2.data = .cell v2 → c3.data = .cell v3 → c4.data = .cell v4 → c5.data = .cell v5 → P [(L + 1, c1), (L + 1 + 1, c2), (L + 1 + 1 + 1, c3), (L + 1 + 1 + 1 + 1, c4), (L + 1 + 1 + 1 + 1 + 1, c5)]) → P cs
theorem NewB.into {H h h' : Heap} {L : Addr} {m : Str → Option Value} {news : List (Addr × Obj)} (F : Fr H L h m) (N : News H L h news) (hk : Keeps h h') : ∀ {l : List (Addr × Obj)}, NewB h h' l → News H L h' (l ++ news)
  | [], _ => fun p hp => ⟨hk _ _ (N p hp).1, (N p hp).2⟩
  | q :: r, ⟨h1, h2, h3⟩ => fun p hp => by
    rcases List.mem_cons.mp hp with e | hp
    · subst e
      refine ⟨h1, fun e => ?_, ?_⟩
      · (refine qE3A2 (F.ns) fun oL _ _ hL _ => ?_)
        rw [e, hL] at h2; cases h2
      · cases q : H.get? p.1 with
        | none => rfl
        | some o => rw [F.keep _ _ q] at h2; cases h2
    · exact NewB.into F N hk h3 p hp
theorem NewB.off {H h h' : Heap} {L : Addr} {news : List (Addr × Obj)} (N : News H L h news) : ∀ {l : List (Addr × Obj)}, NewB h h' l → ∀ p ∈ news, ∀ q ∈ l, @Ne Nat p.1 q.1
  | [], _, _, _, q, hq => nomatch hq
  | q :: r, ⟨_, h2, h3⟩, p, hp, q', hq => by
    rcases List.mem_cons.mp hq with e | hq
    · subst e
      intro (e : p.1 = q'.1)
      rw [← e, (N p hp).1] at h2; cases h2
    · exact NewB.off N h3 p hp q' hq
noncomputable def Off5 (L a : Addr) : Prop := (@Ne Nat (L + 1) a) ∧ (@Ne Nat (L + 1 + 1) a) ∧ (@Ne Nat (L + 1 + 1 + 1) a) ∧ (@Ne Nat (L + 1 + 1 + 1 + 1) a) ∧ (@Ne Nat (L + 1 + 1 + 1 + 1 + 1) a)
end
-- L2
section
set_option maxRecDepth 100000
set_option maxHeartbeats 1000000
section
variable {w : World} {d u : Nat} {f : Option (List Env)} {g : Option (List Code)} {s : Shared} {E Q : Value → Shared → Prop} {mean : ExcName → Option Value} {mg mb : Str → Option Value}

noncomputable def J1 (L : Addr) (nl : List (Str × Value)) (news : List (Addr × Obj)) : Prop :=
  ∀ P : List (Str × Value) → List (Addr × Obj) → Prop, (∀ (a b z e : Addr) (va vb vz ve : List Value) (na nb nz ne : Nat) (xs ys zs es : List Int) (cs : List (Addr × Obj)),
    Cells L (some (.ref a)) (some (.ref b)) none none none cs → IntsAre va xs → IntsAre vb ys → IntsAre vz zs → IntsAre ve es → Num xs → Num ys → Siz zs → (es = [0, 5] ∨ es = [127, 5] ∨ es = []) → Off5 L a → Off5 L b → Off5 L z → Off5 L e → P ([("sizes", .ref z), ("end", .ref e)] : List (Str × Value)) ((z, listOf vz.toArray nz) :: (e, listOf ve.toArray ne) :: (a, listOf va.toArray na) :: (b, listOf vb.toArray nb) :: cs)) → P nl news
theorem st0 {se : Shared} (hKp : Kept se s) {H : Heap} {L fa l : Addr} {dc : Value} {vs : List Value} {ns : List Int} {cs : List (Addr × Obj)} {uf : Str → Option Value} (X : (Mine.hd.heap_39 w.params).In H) (T : Top Mine.hd.view_39 (looseW Mine.hd.view_39 []) mean mg mb H) (hl : H.IsList l vs.toArray) (hi : IntsAre vs ns) (hv2 : ns.length ≤ 63)
  (F : Fr H L s.heap (locsOf [("script", .ref l)] uf)) (hc : Cells L none none none none none cs) (N : News H L s.heap cs) :
  wpAny (model Challenge.rw_pd0146_01.row.prog w) (callerA.deeper (lawEnv lawScope L fa dc)) (exec (lawAt 0) (lawEnv lawScope L fa dc)) (AfterG se H L (J1 L)) E s := by
  generalize hsc : lawScope = sc
  conv at hsc => lhs; whnf
  subst hsc
  generalize hst : lawAt 0 = st
  conv at hst => lhs; whnf
  subst hst
  revert N
  apply hc
  clear hc
  intro c1 c2 c3 c4 c5 d1 d2 d3 d4 d5 N
  unfold lawEnv
  (repeat' (first | (k_unfold; (try dsimp only)) | (k_end; kc_close) | (k_here; (with_reducible show wpAny _ _ (call (Value.ref 167) [Value.ref _]) _ _ _); refine stopHere ?_) | walk1 | (dsimp only; walk1) | (leave1; (try dsimp only))))
  unfold Stop
  refine case_ (Frag.In.keeps X F.keep) (Top.keeps T F.keep) (by (first | omega | (dsimp only; omega) | (simp only [depth_deeper, depth_in1, depth_caller, Around.deeper]; omega) | (simp [Around.deeper]; omega))) (hl.at fun o e => F.keep _ _ e) hi hv2 ?_
  intro h' tk r a b z e va vb vz ve na nb nz ne xs ys zs es hk hB hva hvb hvz hve hX hY hZ hes
  have F2 := F.grownK hk
  have N2 := hB.into F N hk
  have off := hB.off N
  simp only [List.mem_cons, List.not_mem_nil, or_false, forall_eq_or_imp, forall_eq] at off
  clear F N hk hB hl hi
  replace N2 : News H L h' [(r, tup4 a b z e), (a, W.listOf va.toArray na), (b, W.listOf vb.toArray nb), (z, W.listOf vz.toArray nz), (e, W.listOf ve.toArray ne), (L + 1, c1), (L + 1 + 1, c2), (L + 1 + 1 + 1, c3), (L + 1 + 1 + 1 + 1, c4), (L + 1 + 1 + 1 + 1 + 1, c5)] := N2
  obtain ⟨⟨o11, o12, o13, o14, o15⟩, ⟨o21, o22, o23, o24, o25⟩, ⟨o31, o32, o33, o34, o35⟩, ⟨o41, o42, o43, o44, o45⟩, o51, o52, o53, o54, o55⟩ := off
  k_steps
  exact AfterG.intro (by assumption) (by assumption) (fun _ k => k a b z e va vb vz ve na nb nz ne xs ys zs es _ (fun _ k => k _ _ _ _ _ (by assumption) (by assumption) d3 d4 d5) hva hvb hvz hve hX hY hZ hes ⟨o12, o22, o32, o42, o52⟩ ⟨o13, o23, o33, o43, o53⟩ ⟨o14, o24, o34, o44, o54⟩ ⟨o15, o25, o35, o45, o55⟩) (by first | exact agr (by with_unfolding_all rfl) | (refine ⟨?_, ?_, trivial⟩ <;> with_unfolding_all rfl)) (by first | exact subI [0, 1, 2, 3, 4, 5, 6, 7, 8] rfl | exact subI [1, 2, 3, 4, 5, 6, 7, 8, 9] rfl | exact subI [2, 3, 4, 5, 6, 7, 8, 9, 10] rfl | exact subI [3, 4, 5, 6, 7, 8, 9, 10, 11] rfl | exact ⟨by k_mem, by k_mem, by k_mem, by k_mem, by k_mem, by k_mem, by k_mem, by k_mem, by k_mem, trivial⟩) (by assumption)
end
end
-- P1
section
set_option maxRecDepth 100000
set_option maxHeartbeats 1000000
theorem digW_split : ∀ (b a m : Nat), digW (a + b) m = digW a (m / 10 ^ b) ++ digW b m
  | 0, a, m => by simp [digW]
  | b + 1, a, m => by
    rw [← Nat.add_assoc, digW, digW_split b a (m / 10), digW, List.append_assoc, Nat.div_div_eq_div_mul, Nat.pow_succ, Nat.mul_comm 10]
theorem digW_nil {w m : Nat} : digW w m = [] ↔ w = 0 := by
  rw [← List.length_eq_zero_iff, digW_len]
noncomputable def finL : List Int → Int → List Int → Int × List Int
  | [], left, ws => (left, ws)
  | k :: r, left, ws => if left > 0 then finL r (left - (if left < k then left else k)) ((if left < k then left else k) :: ws) else finL r left ws
theorem widL_fin : ∀ (l : List Int) (left : Int) (ws : List Int), widL l left ws = (finL l left ws).2
  | [], _, _ => rfl
  | k :: r, left, ws => by
    unfold widL finL
    split
    · exact widL_fin r _ _
    · exact widL_fin r _ _
theorem finL_pos {k : Int} {r : List Int} {left : Int} {ws : List Int} (h : left > 0) : finL (k :: r) left ws = finL r (left - (if left < k then left else k)) ((if left < k then left else k) :: ws) := by
  rw [finL, if_pos h]
theorem finL_neg {k : Int} {r : List Int} {left : Int} {ws : List Int} (h : ¬ left > 0) : finL (k :: r) left ws = finL r left ws := by
  rw [finL, if_neg h]
theorem finL_append : ∀ (a b : List Int) (left : Int) (ws : List Int), finL (a ++ b) left ws = finL b (finL a left ws).1 (finL a left ws).2
  | [], _, _, _ => rfl
  | k :: r, b, left, ws => by
    rw [List.cons_append]
    by_cases h : left > 0
    · rw [finL_pos h, finL_pos h]
      exact finL_append r b _ _
    · rw [finL_neg h, finL_neg h]
      exact finL_append r b _ _
theorem finL_zero : ∀ (l : List Int) (ws : List Int), finL l 0 ws = (0, ws)
  | [], _ => rfl
  | k :: r, ws => by
    unfold finL
    rw [if_neg (by decide)]
    exact finL_zero r ws
theorem finL_range : ∀ (l : List Int) (left : Int) (ws : List Int), (∀ k ∈ l, 1 ≤ k) → 0 ≤ left → 0 ≤ (finL l left ws).1 ∧ (finL l left ws).1 ≤ left
  | [], left, ws, _, h => ⟨h, Int.le_refl _⟩
  | k :: r, left, ws, hk, h => by
    have h1 := hk k List.mem_cons_self
    unfold finL
    split
    · have := finL_range r (left - (if left < k then left else k)) ((if left < k then left else k) :: ws) (fun x hx => hk x (List.mem_cons_of_mem _ hx)) (by split <;> lia)
      refine ⟨this.1, Int.le_trans this.2 ?_⟩
      split <;> lia
    · exact finL_range r left ws (fun x hx => hk x (List.mem_cons_of_mem _ hx)) h
theorem finL_done : ∀ (l : List Int) (left : Int) (ws : List Int), (∀ k ∈ l, 1 ≤ k) → 0 ≤ left → left ≤ l.length → (finL l left ws).1 = 0
  | [], left, ws, _, h, h2 => by
    simp at h2
    show left = 0; lia
  | k :: r, left, ws, hk, h, h2 => by
    have h1 := hk k List.mem_cons_self
    rw [List.length_cons] at h2
    unfold finL
    split
    · exact finL_done r _ _ (fun x hx => hk x (List.mem_cons_of_mem _ hx)) (by split <;> lia) (by split <;> lia)
    · have : left = 0 := by lia
      subst this
      rw [finL_zero]
theorem cut_fin (n : Nat) : ∀ (l : List Int) (left : Int) (ws : List Int), (∀ k ∈ l, 1 ≤ k) → 0 ≤ left → left ≤ 6 →
    cutL l (digW left.toNat (n / 10 ^ (6 - left).toNat)) (chunks ws (6 - left) n) =
      (digW (finL l left ws).1.toNat (n / 10 ^ (6 - (finL l left ws).1).toNat), chunks (finL l left ws).2 (6 - (finL l left ws).1) n)
  | [], left, ws, _, _, _ => rfl
  | k :: r, left, ws, hk, h, h6 => by
    have h1 := hk k List.mem_cons_self
    have hr : ∀ x ∈ r, 1 ≤ x := fun x hx => hk x (List.mem_cons_of_mem _ hx)
    unfold cutL finL
    by_cases h0 : left > 0
    · rw [if_neg (by rw [digW_nil]; lia), if_pos h0]
      generalize hq : (if left < k then left else k) = q
      have hq1 : 1 ≤ q ∧ q ≤ left := by subst hq; split <;> lia
      have hq0 : 0 ≤ q := Int.le_trans (by decide) hq1.1
      have ht : left.toNat - k.toNat = (left - q).toNat := by
        subst hq
        split
        · rw [Int.sub_self]; exact Nat.sub_eq_zero_of_le (Int.toNat_le_toNat (Int.le_of_lt (by assumption)))
        · exact ar9 h (Int.le_trans (by decide) h1)
      have hs : left.toNat = (left - q).toNat + q.toNat := ar8 hq0 hq1.2
      have e3 : (6 - (left - q)) - q = 6 - left := by lia
      have e1 := digW_split q.toNat (left - q).toNat (n / 10 ^ (6 - left).toNat)
      rw [← hs, Nat.div_div_eq_div_mul, ← Nat.pow_add] at e1
      have e2 : (6 - left).toNat + q.toNat = (6 - (left - q)).toNat := by rw [ar8 (l := 6 - (left - q)) hq0 (by lia), e3]
      rw [e2] at e1
      rw [digW_len, ht, e1]
      have hl : (digW (left - q).toNat (n / 10 ^ (6 - (left - q)).toNat)).length = (left - q).toNat := digW_len _ _
      rw [List.take_left' hl, List.drop_left' hl]
      have ih := cut_fin n r (left - q) (q :: ws) hr (by lia) (by lia)
      rw [← ih]
      rw [chunks, e3]
    · have : left = 0 := by lia
      subst this
      rw [if_pos (by rw [digW_nil]; rfl), if_neg h0]
      exact cut_fin n r 0 ws hr h h6
theorem names_fin (n : Nat) (l : List Int) (h : ∀ k ∈ l, 1 ≤ k) : namesL l (digW 6 n) = chunks (if (finL l 6 []).1 = 0 then (finL l 6 []).2 else (finL l 6 []).1 :: (finL l 6 []).2) 6 n := by
  have e := cut_fin n l 6 [] h (by decide) (by decide)
  have hr := finL_range l 6 [] h (by decide)
  have e0 : cutL l (digW 6 n) [] = cutL l (digW (6 : Int).toNat (n / 10 ^ ((6 : Int) - 6).toNat)) (chunks [] (6 - 6) n) := by
    simp [chunks]
  unfold namesL
  rw [e0, e]
  dsimp only
  generalize finL l 6 [] = p at hr
  obtain ⟨left, ws⟩ := p
  dsimp only at hr ⊢
  by_cases q : left = 0
  · subst q
    rw [if_pos (by rw [digW_nil]; rfl), if_pos rfl]
    simp
  · rw [if_neg (by rw [digW_nil]; lia), if_neg q]
    rw [chunks]
noncomputable def widsL (zs : List Int) (q : Int) (c : Bool) : List Int := widL (zs ++ List.replicate 6 (if c then q else 6)) 6 []
noncomputable def ivsL (zs : List Int) (q : Int) (c : Bool) : List Int := if c then (zs ++ List.replicate 6 q).take 7 else zs
theorem finL_six (left : Int) (ws : List Int) (h : 0 ≤ left) (h6 : left ≤ 6) : (finL (List.replicate 6 6) left ws).2 = if left = 0 then ws else left :: ws := by
  by_cases q : left = 0
  · subst q; rw [finL_zero, if_pos rfl]
  · rw [if_neg q, show List.replicate 6 (6 : Int) = 6 :: List.replicate 5 6 from rfl, finL_pos (by lia)]
    have e : (if left < 6 then left else 6) = left := by split <;> lia
    rw [e, Int.sub_self, finL_zero]
theorem names_chunks (n : Nat) {zs : List Int} {q : Int} (c : Bool) (h : ∀ k ∈ zs, 1 ≤ k) (hq : 1 ≤ q) (h1 : 1 ≤ zs.length) : namesL (ivsL zs q c) (digW 6 n) = chunks (widsL zs q c) 6 n := by
  cases c with
  | false =>
    unfold ivsL widsL
    rw [if_neg (by decide), if_neg (by decide), names_fin n zs h, widL_fin, finL_append, finL_six _ _ (finL_range zs 6 [] h (by decide)).1 (finL_range zs 6 [] h (by decide)).2]
  | true =>
    unfold ivsL widsL
    rw [if_pos rfl, if_pos rfl]
    have hall : ∀ k ∈ zs ++ List.replicate 6 q, 1 ≤ k := fun k hk => by
      rcases List.mem_append.mp hk with hk | hk
      · exact h k hk
      · rw [(List.mem_replicate.mp hk).2]; exact hq
    have ht : ∀ k ∈ (zs ++ List.replicate 6 q).take 7, 1 ≤ k := fun k hk => hall k (List.mem_of_mem_take hk)
    have hd := finL_done ((zs ++ List.replicate 6 q).take 7) 6 [] ht (by decide) (by rw [List.length_take, List.length_append, List.length_replicate]; lia)
    rw [names_fin n _ ht, hd, if_pos rfl, widL_fin]
    conv => rhs; rw [← List.take_append_drop 7 (zs ++ List.replicate 6 q), finL_append, hd, finL_zero]
end
-- P2
section
set_option maxRecDepth 100000
set_option maxHeartbeats 1000000
theorem lex_app : ∀ {x y u v : List Nat}, x.length = y.length → (x ++ u < y ++ v ↔ x < y ∨ (x = y ∧ u < v))
  | [], [], u, v, _ => by simp
  | a :: x, b :: y, u, v, h => by
    have ih := lex_app (x := x) (y := y) (u := u) (v := v) (by simpa using h)
    rw [List.cons_append, List.cons_append, List.cons_lt_cons_iff, List.cons_lt_cons_iff, ih, List.cons.injEq]
    constructor
    · rintro (h | ⟨e, h | h⟩)
      · exact .inl (.inl h)
      · exact .inl (.inr ⟨e, h⟩)
      · exact .inr ⟨⟨e, h.1⟩, h.2⟩
    · rintro ((h | h) | h)
      · exact .inl h
      · exact .inr ⟨h.1, .inl h.2⟩
      · exact .inr ⟨h.1.1, .inr ⟨h.1.2, h.2⟩⟩
theorem lt_split {P x y x' y' : Nat} (h : x < P) (h' : x' < P) : x + P * y < x' + P * y' ↔ y < y' ∨ (y = y' ∧ x < x') := by
  constructor
  · intro q
    rcases Nat.lt_trichotomy y y' with e | e | e
    · exact .inl e
    · subst e; exact .inr ⟨rfl, by lia⟩
    · have : P * (y' + 1) ≤ P * y := Nat.mul_le_mul_left P e
      rw [Nat.mul_add] at this; lia
  · rintro (e | ⟨e, q⟩)
    · have : P * (y + 1) ≤ P * y' := Nat.mul_le_mul_left P e
      rw [Nat.mul_add] at this; lia
    · subst e; lia
theorem eq_split {P x y x' y' : Nat} (h : x < P) (h' : x' < P) : x + P * y = x' + P * y' ↔ y = y' ∧ x = x' := by
  constructor
  · intro q
    have h1 : ¬ (x + P * y < x' + P * y') := by rw [q]; exact Nat.lt_irrefl _
    have h2 : ¬ (x' + P * y' < x + P * y) := by rw [q]; exact Nat.lt_irrefl _
    rw [lt_split h h'] at h1
    rw [lt_split h' h] at h2
    exact ar31 h1 h2
  · rintro ⟨e, q⟩; rw [e, q]
theorem digW_eq : ∀ (w a b : Nat), digW w a = digW w b ↔ a % 10 ^ w = b % 10 ^ w
  | 0, a, b => by simp [digW, Nat.mod_one]
  | w + 1, a, b => by
    rw [digW, digW, Nat.pow_succ', Nat.mod_mul, Nat.mod_mul, eq_split (Nat.mod_lt _ (by decide)) (Nat.mod_lt _ (by decide)), ← digW_eq w]
    constructor
    · intro h
      have := List.append_inj h (by rw [digW_len, digW_len])
      refine ⟨this.1, ?_⟩
      have h2 := this.2
      simp only [List.cons.injEq, and_true] at h2
      lia
    · rintro ⟨h, q⟩; rw [h, q]
theorem digW_lt : ∀ (w a b : Nat), digW w a < digW w b ↔ a % 10 ^ w < b % 10 ^ w
  | 0, a, b => by simp [digW, Nat.mod_one]
  | w + 1, a, b => by
    rw [digW, digW, Nat.pow_succ', Nat.mod_mul, Nat.mod_mul, lt_split (Nat.mod_lt _ (by decide)) (Nat.mod_lt _ (by decide)), lex_app (by rw [digW_len, digW_len]), digW_lt w, digW_eq w, List.cons_lt_cons_iff]
    simp
noncomputable def flatP (ws : List Int) (low : Int) (n : Nat) : List Nat := (chunks ws low n).flatMap fun b => 47 :: b
theorem flatP_cons (w : Int) (r : List Int) (low : Int) (n : Nat) : flatP (w :: r) low n = 47 :: (digW w.toNat (n / 10 ^ (low - w).toNat) ++ flatP r (low - w) n) := by
  unfold flatP
  rw [chunks, List.flatMap_cons]
  rfl
theorem sum_ge : ∀ {l : List Int}, (∀ x ∈ l, 1 ≤ x) → (l.length : Int) ≤ l.sum
  | [], _ => by simp
  | a :: r, h => by
    have h1 := h a List.mem_cons_self
    have h2 := sum_ge fun x hx => h x (List.mem_cons_of_mem _ hx)
    rw [List.sum_cons, List.length_cons]; lia
theorem flatP_lt : ∀ (ws : List Int) (low : Int) (a b : Nat), (∀ w ∈ ws, 1 ≤ w) → ws.sum = low → (flatP ws low a < flatP ws low b ↔ a % 10 ^ low.toNat < b % 10 ^ low.toNat)
  | [], low, a, b, _, h => by
    rw [List.sum_nil] at h
    subst h
    simp [flatP, chunks, Nat.mod_one]
  | w :: r, low, a, b, hw, h => by
    have h1 := hw w List.mem_cons_self
    have hr : ∀ x ∈ r, 1 ≤ x := fun x hx => hw x (List.mem_cons_of_mem _ hx)
    have h2 := sum_ge hr
    rw [List.sum_cons] at h
    have e : low.toNat = (low - w).toNat + w.toNat := ar8 (Int.le_trans (by decide) h1) (ar32 h h2)
    rw [flatP_cons, flatP_cons, List.cons_lt_cons_iff, lex_app (by rw [digW_len, digW_len]), digW_lt, digW_eq, flatP_lt r (low - w) a b hr (by lia), e, Nat.pow_add, Nat.mod_mul, Nat.mod_mul,
      lt_split (Nat.mod_lt _ (Nat.pow_pos (by decide))) (Nat.mod_lt _ (Nat.pow_pos (by decide)))]
    simp
theorem flatP_eq : ∀ (ws : List Int) (low : Int) (a b : Nat), (∀ w ∈ ws, 1 ≤ w) → ws.sum = low → (flatP ws low a = flatP ws low b ↔ a % 10 ^ low.toNat = b % 10 ^ low.toNat)
  | [], low, a, b, _, h => by
    rw [List.sum_nil] at h
    subst h
    simp [flatP, chunks, Nat.mod_one]
  | w :: r, low, a, b, hw, h => by
    have h1 := hw w List.mem_cons_self
    have hr : ∀ x ∈ r, 1 ≤ x := fun x hx => hw x (List.mem_cons_of_mem _ hx)
    have h2 := sum_ge hr
    rw [List.sum_cons] at h
    have e : low.toNat = (low - w).toNat + w.toNat := ar8 (Int.le_trans (by decide) h1) (ar32 h h2)
    rw [flatP_cons, flatP_cons, List.cons.injEq, e, Nat.pow_add, Nat.mod_mul, Nat.mod_mul, eq_split (Nat.mod_lt _ (Nat.pow_pos (by decide))) (Nat.mod_lt _ (Nat.pow_pos (by decide))), ← digW_eq, ← flatP_eq r (low - w) a b hr (by lia)]
    constructor
    · (intro zqi; refine qE0A2 zqi fun _ h => ?_; clear zqi)
      exact List.append_inj h (by rw [digW_len, digW_len])
    · (intro zqi; refine qE0A2 zqi fun h q => ?_; clear zqi)
      exact ⟨rfl, by rw [h, q]⟩
end
-- P3
section
set_option maxRecDepth 100000
set_option maxHeartbeats 1000000
theorem finL_inv : ∀ (l : List Int) (left : Int) (ws : List Int), (∀ k ∈ l, 1 ≤ k) → 0 ≤ left → left ≤ 6 → (∀ w ∈ ws, 1 ≤ w ∧ w ≤ 6) → ws.sum + left = 6 →
    (∀ w ∈ (finL l left ws).2, 1 ≤ w ∧ w ≤ 6) ∧ (finL l left ws).2.sum + (finL l left ws).1 = 6
  | [], left, ws, _, _, _, hw, hs => ⟨hw, hs⟩
  | k :: r, left, ws, hk, h, h6, hw, hs => by
    have h1 := hk k List.mem_cons_self
    have hr : ∀ x ∈ r, 1 ≤ x := fun x hx => hk x (List.mem_cons_of_mem _ hx)
    by_cases h0 : left > 0
    · rw [finL_pos h0]
      have hq : 1 ≤ (if left < k then left else k) ∧ (if left < k then left else k) ≤ left := by split <;> lia
      generalize (if left < k then left else k) = q at hq
      refine finL_inv r (left - q) (q :: ws) hr (by lia) (by lia) (fun w hm => ?_) (by rw [List.sum_cons]; lia)
      rcases List.mem_cons.mp hm with e | hm
      · subst e; lia
      · exact hw w hm
    · rw [finL_neg h0]
      exact finL_inv r left ws hr h h6 hw hs
structure Wid (ws : List Int) : Prop where
  all : ∀ w ∈ ws, 1 ≤ w ∧ w ≤ 6
  sum : ws.sum = 6
theorem Wid.len {ws : List Int} (h : Wid ws) : ws.length ≤ 6 := by
  have := sum_ge fun w hw => (h.all w hw).1
  have := h.sum
  lia
theorem Wid.ne {ws : List Int} (h : Wid ws) : ws ≠ [] := by
  rintro rfl
  exact absurd h.sum (by decide)
theorem wid_widsL {zs : List Int} {q : Int} (c : Bool) (h : ∀ k ∈ zs, 1 ≤ k) (hq : 1 ≤ q) : Wid (widsL zs q c) := by
  have hall : ∀ k ∈ zs ++ List.replicate 6 (if c then q else 6), 1 ≤ k := fun k hk => by
    rcases List.mem_append.mp hk with hk | hk
    · exact h k hk
    · rw [(List.mem_replicate.mp hk).2]; split <;> (first | (with_reducible assumption) | (lia))
  have hi := finL_inv _ 6 [] hall (by decide) (by decide) (fun w hw => by cases hw) rfl
  have hd := finL_done _ 6 [] hall (by decide) (by rw [List.length_append, List.length_replicate]; lia)
  unfold widsL
  rw [widL_fin]
  exact ⟨hi.1, by have := hi.2; rw [hd] at this; lia⟩
noncomputable def pathN (ws : List Int) (n : Int) : List Nat := pathL (chunks ws 6 n.toNat)
theorem chunks_len : ∀ (ws : List Int) (low : Int) (n : Nat), (chunks ws low n).length = ws.length
  | [], _, _ => rfl
  | w :: r, low, n => by rw [chunks, List.length_cons, List.length_cons, chunks_len r]
theorem pathN_flat {ws : List Int} (h : Wid ws) (n : Int) : pathN ws n = flatP ws 6 n.toNat := by
  unfold pathN pathL
  rw [if_neg]
  · rfl
  · intro e
    have := chunks_len ws 6 n.toNat
    rw [e] at this
    exact h.ne (List.length_eq_zero_iff.mp this.symm)
theorem pathN_lt {ws : List Int} (h : Wid ws) {a b : Int} (ha : 0 ≤ a ∧ a < 1000000) (hb : 0 ≤ b ∧ b < 1000000) : pathN ws a < pathN ws b ↔ a < b := by
  rw [pathN_flat h, pathN_flat h, flatP_lt ws 6 _ _ (fun w hw => (h.all w hw).1) h.sum, Nat.mod_eq_of_lt (by show a.toNat < 10 ^ 6; exact (Int.toNat_lt ha.1).mpr ha.2), Nat.mod_eq_of_lt (by show b.toNat < 10 ^ 6; exact (Int.toNat_lt hb.1).mpr hb.2)]
  exact ar17 ha.1 hb.1
theorem pathN_eq {ws : List Int} (h : Wid ws) {a b : Int} (ha : 0 ≤ a ∧ a < 1000000) (hb : 0 ≤ b ∧ b < 1000000) : pathN ws a = pathN ws b ↔ a = b := by
  rw [pathN_flat h, pathN_flat h, flatP_eq ws 6 _ _ (fun w hw => (h.all w hw).1) h.sum, Nat.mod_eq_of_lt (by show a.toNat < 10 ^ 6; exact (Int.toNat_lt ha.1).mpr ha.2), Nat.mod_eq_of_lt (by show b.toNat < 10 ^ 6; exact (Int.toNat_lt hb.1).mpr hb.2)]
  exact ar18 ha.1 hb.1
theorem chunks_flat : ∀ (ws : List Int) (low : Int) (n : Nat), (∀ w ∈ ws, 1 ≤ w) → ws.sum = low → (chunks ws low n).flatten = digW low.toNat n
  | [], low, n, _, h => by
    rw [List.sum_nil] at h
    subst h
    rfl
  | w :: r, low, n, hw, h => by
    have h1 := hw w List.mem_cons_self
    have hr : ∀ x ∈ r, 1 ≤ x := fun x hx => hw x (List.mem_cons_of_mem _ hx)
    have h2 := sum_ge hr
    rw [List.sum_cons] at h
    have e : low.toNat = w.toNat + (low - w).toNat := by lia
    rw [chunks, List.flatten_cons, chunks_flat r (low - w) n hr (by lia), e, digW_split]
end
-- P4
section
set_option maxRecDepth 100000
set_option maxHeartbeats 1000000
noncomputable def skI (e : Int) : List Int → List Int
  | [] => []
  | x :: r => if x = e then skI e r else x :: r
theorem skI_filter {e : Int} : ∀ {xs : List Int}, (e :: xs).Pairwise (· ≤ ·) → skI e xs = xs.filter (fun x => decide (x ≠ e))
  | [], _ => rfl
  | x :: r, h => by
    have h1 := List.pairwise_cons.mp h
    have h2 := List.pairwise_cons.mp h1.2
    unfold skI
    by_cases q : x = e
    · rw [if_pos q, List.filter_cons_of_neg (by simp [q])]
      exact skI_filter (List.pairwise_cons.mpr ⟨fun y hy => h1.1 y (List.mem_cons_of_mem _ hy), h2.2⟩)
    · rw [if_neg q]
      symm
      rw [List.filter_eq_self]
      intro y hy
      have hx := h1.1 x List.mem_cons_self
      rcases List.mem_cons.mp hy with e1 | hy
      · subst e1; simpa using q
      · have := h2.1 y hy
        simp; lia
theorem skip_map {f : Int → List Nat} {e : Int} : ∀ {xs : List Int}, (∀ x ∈ xs, f x = f e ↔ x = e) → skipL (f e) (xs.map f) = (skI e xs).map f
  | [], _ => rfl
  | x :: r, h => by
    have h1 := h x List.mem_cons_self
    rw [List.map_cons]
    unfold skipL skI
    by_cases q : x = e
    · rw [if_pos (h1.mpr q), if_pos q]
      exact skip_map fun y hy => h y (List.mem_cons_of_mem _ hy)
    · rw [if_neg (fun z => q (h1.mp z)), if_neg q, List.map_cons]
theorem filt_sorted {e : Int} {xs : List Int} (h : (e :: xs).Pairwise (· ≤ ·)) : (xs.filter (fun x => decide (x ≠ e))).Pairwise (· ≤ ·) := (List.pairwise_cons.mp h).2.filter _
theorem mem_filt {e k : Int} {xs : List Int} : k ∈ xs.filter (fun x => decide (x ≠ e)) ↔ k ∈ xs ∧ k ≠ e := by simp [List.mem_filter]
theorem count_filt {e k : Int} {xs : List Int} (h : k ≠ e) : (xs.filter (fun x => decide (x ≠ e))).count k = (e :: xs).count k := by
  rw [List.count_filter (by simpa using h), List.count_cons_of_ne (Ne.symm h)]
end
-- D2
section
set_option maxRecDepth 100000
set_option maxHeartbeats 1000000
section
variable {w : World} {d u : Nat} {f : Option (List Env)} {g : Option (List Code)} {s : Shared} {E Q : Value → Shared → Prop} {mean : ExcName → Option Value} {mg mb : Str → Option Value}

noncomputable def onlyL (mine other : List Int) (mx : Int) (ks : List Int) : List Int := ks.flatMap fun k => if k ∈ other then [] else List.replicate (if mx > k then 1 else mine.count k) k
noncomputable def OJ (ns ms : List Int) (mx : Int) (l l2 : Addr) (c0 : Nat) (D : Addr) (ds : List Value) (ks : List Int) (i : Nat) (nl : List (Str × Value)) (news : List (Addr × Obj)) : Prop :=
  ∀ P : List (Str × Value) → List (Addr × Obj) → Prop, (∀ (fa : Addr) (fv : List Value) (c : Nat), @Ne Nat fa D → IntsAre fv (onlyL ns ms mx (ks.take i)) → fv.length ≤ 14 * i → P ([("found", .ref fa), ("mine", .ref l), ("other", .ref l2)] : List (Str × Value)) [(fa, listOf (List.toArray fv) c), (D, listOf (List.toArray ds) c0)]) → P nl news
theorem only_step {ns ms ks : List Int} {mx q : Int} {i : Nat} {o : List Int} (hq : ks[i]? = some q) (e : (if q ∈ ms then [] else List.replicate (if mx > q then 1 else ns.count q) q) = o) :
    onlyL ns ms mx (ks.take (i + 1)) = onlyL ns ms mx (ks.take i) ++ o := by
  rw [List.take_add_one, hq, ← e]; simp [onlyL]
theorem uniq_len : ∀ {ks ns : List Int}, Uniq ks ns → ks.length ≤ ns.length := by
  intro ks
  induction ks with
  | nil => intro ns _; exact Nat.zero_le _
  | cons k r ih =>
    intro ns h
    have hr := List.pairwise_cons.mp h.rise
    have hk : k ∈ ns := (h.mem k).mp List.mem_cons_self
    have : Uniq r (ns.filter (· ≠ k)) := ⟨hr.2, fun q => by
      rw [List.mem_filter]
      constructor
      · intro hq
        have := hr.1 q hq
        exact ⟨(h.mem q).mp (List.mem_cons_of_mem _ hq), by simp; lia⟩
      · (intro zqi; refine qE0A2 zqi fun h1 h2 => ?_; clear zqi)
        rcases List.mem_cons.mp ((h.mem q).mpr h1) with e | e
        · simp [e] at h2
        · exact e⟩
    have h1 := ih this
    have h2 : (ns.filter (· ≠ k)).length < ns.length := by
      rcases Nat.lt_or_ge (ns.filter (· ≠ k)).length ns.length with q | q
      · exact q
      · have e := (List.filter_sublist (p := fun x => decide (x ≠ k)) (l := ns)).eq_of_length (by have := List.length_filter_le (fun x => decide (x ≠ k)) ns; lia)
        rw [← e, List.mem_filter] at hk
        simp at hk
    simp only [List.length_cons]; lia
theorem only_ {l l2 : Addr} {vs vs2 : List Value} {ns ms : List Int} {mx : Int} {n0 : Nat} (X : (Mine.hd.heap_39 w.params).In s.heap) (T : Top Mine.hd.view_39 (looseW Mine.hd.view_39 []) mean mg mb s.heap) (hA2 : d < 370)
  (hl0 : s.heap.get? l = some (listOf (List.toArray vs) n0)) (hi : IntsAre vs ns) (hl2 : s.heap.IsList l2 vs2.toArray) (hi2 : IntsAre vs2 ms) (hmx : IsMax mx ms) (hn1 : ns.length ≤ 14) (hn2 : ms.length ≤ 14) (hn3 : 1 ≤ ms.length)
  (hQ : ∀ h' tk dr r vs' n ks, Keeps s.heap h' → s.heap.get? r = none → h'.get? r = some (listOf (List.toArray vs') n) → Uniq ks ns → IntsAre vs' (onlyL ns ms mx ks) → Q (.ref r) {s with heap := h', toks := tk, drawn := dr}) :
  wpAny (model Challenge.rw_pd0146_01.row.prog w) (Around.mk none d f g u) (call (.ref 223) [.ref l, .ref l2]) Q E s := by
  refine' enterC (binds := [("mine", .ref l), ("other", .ref l2)]) X T.nolimit ?k6 ?k7 (Nat.lt_trans hA2 (by decide)) (BindsTo.of_eq ?k8) ?k9 ?_ ?c1 ?c2 ?c3 ?c4
  (((case k6 => k_is); (case k7 => k_is); (case k8 => rfl); (case k9 => exact locs (by rfl)); (case c1 => rfl); (case c2 => rfl); (case c3 => rfl); (case c4 => decide)))
  intro h₁ L' F N
  refine wpAny_noRaise ?_
  have hl : s.heap.IsList l vs.toArray := ⟨_, hl0, rfl, n0, rfl⟩
  (repeat' (first | (k_unfold; (try dsimp only)) | (k_end; kc_close) | ((with_reducible show wpAny _ _ (exec (PySem.Stmt.For (PySem.Expr.Name _ _) (PySem.Expr.Call _ _ _ _) (_ :: _) [] _) _) _ _ _); ((k_here; (rename Fr _ _ _ _ => zhlFq); (with_unfolding_all refine' For_stop zhlFq (by exact rfl) (by exact rfl) ?_ (by intro _; rfl) (by passes_own); k_whole)))) | (k_here; (with_reducible show wpAny _ _ (call (Value.type _) [Value.ref _]) _ _ _); k_dflt (refine' setN (by k_asm) (by k_asm) rfl (by assumption) (by assumption) (by omega) ?_); intro zrhq zrtkq zraq zroq zrFq zrNq zrsoq zrl1 zrl2; (try k_sweep)) | (k_here; (with_reducible show wpAny _ _ (call (Value.builtin _) [Value.ref _]) _ _ _); (with_reducible rename SetO _ _ _ _ => zrsO); k_dflt (refine' sortedSetN (by k_asm) (by k_asm) (by k_mem) zrsO rfl (by omega) ?_); clear zrsO; intro zrhq zrtkq zrdq zrDq zrvsq zrksq zrcq zrFq zrNq zrn1 zrn2 zriq zruq; (have ep' := Ep.mk zrcq); (try simp only [AllNe, and_true] at zrn1); (try k_sweep)) | walk1 | (dsimp only; walk1) | (leave1; (try dsimp only))))
  (rename Fr _ _ _ _ => kF)
  (rename News _ _ _ _ => kN)
  (rename IntsAre _ _ => hW)
  (rename Uniq _ _ => hU)
  have hks : _ ≤ 14 := Nat.le_trans (uniq_len hU) hn1
  (rename Ep _ => hE0)
  unfold Stop
  refine forLI (valE hE0) (OJ ns ms mx l l2 (valE hE0)) hW rfl ?_ kF kN ?_ ?_ ?_
  · intro i nl news J; apply J; intros; k_mem
  · exact StartJ.mk (by first | exact agr (by with_unfolding_all rfl) | (refine ⟨?_, ?_, ?_, trivial⟩ <;> with_unfolding_all rfl)) (by first | exact subI [0, 1] rfl | exact subI [1, 2] rfl | exact subI [2, 3] rfl | exact subI [3, 4] rfl | exact ⟨by k_mem, by k_mem, trivial⟩) (fun _ k => k _ ([]) _ (by k_ne) IntsAre.nil (Nat.le_refl _))
  · intro i q tq nl news h tk u I ito hq J
    apply J
    clear J
    intro fa fv c hne0 hI2 hfl hne F N
    have hilt := (List.getElem?_eq_some_iff.mp hq).1
    simp only [AllNe, and_true] at hne
    have hq1 := (hU.mem q).mp (List.mem_of_getElem? hq)
    have hcq : ns.count q ≤ 14 := Nat.le_trans (List.count_le_length) hn1
    have hms : (ms.any fun x => x == q) = decide (q ∈ ms) := by rw [Bool.eq_iff_iff]; simp
    (repeat' (first | (k_unfold; (try dsimp only)) | (k_end; kc_close) | (k_here; (with_reducible show wpAny _ _ (call (Value.builtin _) [Value.ref _]) _ _ _); (with_unfolding_all refine' kso_max (by k_asm) (by k_asm) (by kso_list) (by l_ints) (by omega) (by with_unfolding_all rfl) ?_; k_whole); intro zrhq zrMq zrtq zrkq zrFq zrNq zraq zrbq; (have e' := (max_uniq zraq zrbq (by assumption)).symm); subst e'; (clear zraq zrbq); (try k_sweep)) | (k_here; (with_reducible show wpAny _ _ (call (Value.builtin _) [Value.ref _, Value.ref _]) _ _ _); k_dflt (refine' ext_N (by k_asm) (by k_asm) (by k_mem) (by intro zrc; k_upd) (by (first | ((rw [rep_len]; omega)) | ((refine Nat.le_trans (Nat.add_le_add_left (pick_le _ _ _) _) ?_; (((try simp only [sizeLine_eq, List.length_cons, List.length_nil, List.length_append, List.length_replicate, List.length_map, Array.length_toList, List.size_toArray]); omega)))))) ?_); intro zrcq zrhq zrFq zrNq; (try k_sweep)) | (k_here; (with_reducible show wpAny _ _ (getMethod (Value.ref _) (Str.ofString "count") _) _ _ _); (with_reducible rename Fr _ _ _ _ => zrkF); k_dflt (refine getM_count zrkF (by assumption) ?_)) | (k_here; (show wpAny _ _ (call (Value.builtin _) [Value.ref _, Value.int _ _]) _ _ _); (with_reducible rename Fr _ _ _ _ => zrkF); k_dflt (refine count_list_ints (Heap.IsList.at (by assumption) fun o e => zrkF.keep _ _ e) (by assumption) ?_)) | walk1 | (dsimp only; walk1) | (leave1; (try dsimp only))))
    · (rename _ = true => hb)
      rw [hms, decide_eq_true_eq] at hb
      show TurnEnd _ _ _ _ _ _ _
      exact turnE (by assumption) (by assumption) (fun _ k => k fa fv c hne0 (by rw [only_step hq (if_pos hb), List.append_nil]; exact hI2) (by lia)) (by first | exact agr (by with_unfolding_all rfl) | (refine ⟨?_, ?_, ?_, trivial⟩ <;> with_unfolding_all rfl)) (by k_mem) (by exact ⟨by k_mem, by k_ne, by k_mem, by k_ne, trivial⟩)
    · (rename _ = false => hb)
      (rename q < mx => hlt)
      rw [hms, decide_eq_false_iff_not] at hb
      show TurnEnd _ _ _ _ _ _ _
      exact turnE (by assumption) (by assumption) (fun _ k => k fa (fv ++ (List.replicate (Int.toNat 1) [Value.int q tq]).flatten) _ hne0 (by rw [only_step hq (by rw [if_neg hb, if_pos hlt])]; exact hI2.append (ints_rep q tq 1)) (by rw [List.length_append, rep_len]; lia)) (by first | exact agr (by with_unfolding_all rfl) | (refine ⟨?_, ?_, ?_, trivial⟩ <;> with_unfolding_all rfl)) (by k_mem) (by exact ⟨by k_mem, by k_ne, by k_mem, by k_ne, trivial⟩)
    · (rename _ = false => hb)
      (rename ¬ q < mx => hlt)
      rw [hms, decide_eq_false_iff_not] at hb
      show TurnEnd _ _ _ _ _ _ _
      exact turnE (by assumption) (by assumption) (fun _ k => k fa (fv ++ (List.replicate ((ns.count q : Nat) : Int).toNat [Value.int q tq]).flatten) _ hne0 (by rw [only_step hq (by rw [if_neg hb, if_neg hlt]), rep_flat, Int.toNat_natCast]; exact hI2.append (ints_rep q tq _)) (by rw [List.length_append, rep_len]; lia)) (by first | exact agr (by with_unfolding_all rfl) | (refine ⟨?_, ?_, ?_, trivial⟩ <;> with_unfolding_all rfl)) (by k_mem) (by exact ⟨by k_mem, by k_ne, by k_mem, by k_ne, trivial⟩)
  · intro nl news h tk u J
    apply J
    clear J
    intro fa fv c hne0 hI2 hfl F N
    k_steps
    rw [List.take_length] at hI2
    exact hQ _ _ _ _ _ _ _ (Fr.keep (by assumption)) (News.fresh (by assumption) (by k_mem)) (News.get (by assumption) (by k_mem)) hU hI2
end
end
-- P5
section
set_option maxRecDepth 100000
set_option maxHeartbeats 1000000
theorem onlyL_congr {xs ys xs' ys' : List Int} {M : Int} {ks : List Int} (h : ∀ k ∈ ks, (k ∈ ys ↔ k ∈ ys') ∧ xs.count k = xs'.count k) : onlyL xs ys M ks = onlyL xs' ys' M ks := by
  induction ks with
  | nil => rfl
  | cons k r ih =>
    have h1 := h k List.mem_cons_self
    have e := ih fun q hq => h q (List.mem_cons_of_mem _ hq)
    unfold onlyL at e ⊢
    rw [List.flatMap_cons, List.flatMap_cons, e, h1.2]
    congr 1
    by_cases q : k ∈ ys
    · rw [if_pos q, if_pos (h1.1.mp q)]
    · rw [if_neg q, if_neg (fun z => q (h1.1.mpr z))]
theorem uniq_cons {e : Int} {xs ks : List Int} (hs : (e :: xs).Pairwise (· ≤ ·)) (h : Uniq ks (e :: xs)) : ∃ r, ks = e :: r ∧ Uniq r (xs.filter (fun x => decide (x ≠ e))) := by
  have hp := List.pairwise_cons.mp hs
  cases ks with
  | nil => exact absurd ((h.mem e).mpr List.mem_cons_self) (by simp)
  | cons k r =>
    have hr := List.pairwise_cons.mp h.rise
    have hk : k = e := by
      have h1 := (h.mem e).mpr List.mem_cons_self
      have h2 := (h.mem k).mp List.mem_cons_self
      rcases List.mem_cons.mp h1 with q | q
      · exact q.symm
      · have := hr.1 e q
        rcases List.mem_cons.mp h2 with q2 | q2
        · exact q2
        · have := hp.1 k q2; lia
    subst hk
    refine ⟨r, rfl, hr.2, fun q => ?_⟩
    rw [mem_filt]
    constructor
    · intro hq
      have h1 := hr.1 q hq
      rcases List.mem_cons.mp ((h.mem q).mp (List.mem_cons_of_mem _ hq)) with e1 | e1
      · lia
      · exact ⟨e1, by lia⟩
    · (intro zqi; refine qE0A2 zqi fun h1 h2 => ?_; clear zqi)
      rcases List.mem_cons.mp ((h.mem q).mpr (List.mem_cons_of_mem _ h1)) with e1 | e1
      · exact absurd e1 h2
      · exact e1
theorem head_run {e : Int} : ∀ {xs : List Int}, (e :: xs).Pairwise (· ≤ ·) → List.replicate (xs.count e) e ++ xs.filter (fun x => decide (x ≠ e)) = xs
  | [], _ => by simp
  | x :: r, h => by
    have h1 := List.pairwise_cons.mp h
    have h2 := List.pairwise_cons.mp h1.2
    by_cases q : x = e
    · subst q
      rw [List.count_cons_self, List.filter_cons_of_neg (by simp), List.replicate_succ, List.cons_append, head_run h1.2]
    · have hx := h1.1 x List.mem_cons_self
      have h0 : (x :: r).count e = 0 := List.count_eq_zero.mpr fun hm => by
        rcases List.mem_cons.mp hm with e1 | hm
        · exact q e1.symm
        · have := h2.1 e hm; lia
      rw [h0, List.replicate_zero, List.nil_append, List.filter_eq_self]
      intro y hy
      rcases List.mem_cons.mp hy with e1 | hy
      · subst e1; simpa using q
      · have := h2.1 y hy
        simp; lia
theorem filt_len (e : Int) (xs : List Int) : (xs.filter (fun x => decide (x ≠ e))).length ≤ xs.length := List.length_filter_le _ _
theorem flat_congr {f g : Int → List Int} : ∀ {ks : List Int}, (∀ k ∈ ks, f k = g k) → ks.flatMap f = ks.flatMap g
  | [], _ => rfl
  | k :: r, h => by
    rw [List.flatMap_cons, List.flatMap_cons, h k List.mem_cons_self, flat_congr fun q hq => h q (List.mem_cons_of_mem _ hq)]
theorem group_all : ∀ (N : Nat) (xs ks : List Int), xs.length ≤ N → xs.Pairwise (· ≤ ·) → Uniq ks xs → (ks.flatMap fun k => List.replicate (xs.count k) k) = xs
  | _, [], ks, _, _, h => by
    cases ks with
    | nil => rfl
    | cons k r => exact absurd ((h.mem k).mp List.mem_cons_self) (by simp)
  | 0, e :: xs, _, hN, _, _ => absurd hN (by simp)
  | N + 1, e :: xs, ks, hN, hs, h => by
    (refine qE1A2 (uniq_cons hs h) fun r zqr1 hr => ?_; subst zqr1)
    have ih := group_all N _ r (Nat.le_trans (filt_len e xs) (by simpa using hN)) (filt_sorted hs) hr
    rw [List.flatMap_cons, flat_congr (g := fun k => List.replicate ((xs.filter (fun x => decide (x ≠ e))).count k) k) (fun k hk => by rw [count_filt (mem_filt.mp ((hr.mem k).mp hk)).2]), ih, List.count_cons_self, List.replicate_succ, List.cons_append, head_run hs]
theorem onlyL_cons (xs ys : List Int) (M k : Int) (r : List Int) : onlyL xs ys M (k :: r) = (if k ∈ ys then [] else List.replicate (if M > k then 1 else xs.count k) k) ++ onlyL xs ys M r := by
  unfold onlyL
  rw [List.flatMap_cons]
theorem sld_only {ws : List Int} (hw : Wid ws) : ∀ (N : Nat) (xs ys ks : List Int) (M : Int), xs.length + ys.length ≤ N → xs.Pairwise (· ≤ ·) → ys.Pairwise (· ≤ ·) → (∀ x ∈ xs, 0 ≤ x ∧ x < 1000000) → (∀ x ∈ ys, 0 ≤ x ∧ x < 1000000) → Uniq ks xs →
    (∀ y ∈ ys, y ≤ M) → (ys ≠ [] → M ∈ ys) → (ys = [] → ∀ x ∈ xs, M < x) → (sld (xs.map (pathN ws)) (ys.map (pathN ws))).1 = (onlyL xs ys M ks).map (pathN ws) := by
  intro N
  induction N with
  | zero =>
    intro xs ys ks M hN hs hs2 hx hy hU hM hM2 hM3
    have h1 : xs = [] := List.length_eq_zero_iff.mp (by lia)
    subst h1
    have h2 : ks = [] := by
      cases ks with
      | nil => rfl
      | cons k r => exact absurd ((hU.mem k).mp List.mem_cons_self) (by simp)
    subst h2
    rw [List.map_nil, sld_nil1]; rfl
  | succ N ih =>
    intro xs ys ks M hN hs hs2 hx hy hU hM hM2 hM3
    cases xs with
    | nil =>
      have h2 : ks = [] := by
        cases ks with
        | nil => rfl
        | cons k r => exact absurd ((hU.mem k).mp List.mem_cons_self) (by simp)
      subst h2
      rw [List.map_nil, sld_nil1]; rfl
    | cons e xs =>
      cases ys with
      | nil =>
        rw [List.map_nil, sld_nil2]
        have : onlyL (e :: xs) [] M ks = e :: xs := by
          refine Eq.trans ?_ (group_all _ (e :: xs) ks (Nat.le_refl _) hs hU)
          unfold onlyL
          refine flat_congr fun k hk => ?_
          have := hM3 rfl k ((hU.mem k).mp hk)
          rw [if_neg (by simp), if_neg (by lia)]
        rw [this]
      | cons a ys =>
        have he := hx e List.mem_cons_self
        have ha := hy a List.mem_cons_self
        have hp := List.pairwise_cons.mp hs
        have hp2 := List.pairwise_cons.mp hs2
        have hm1 := fun x (hm : x ∈ xs) => hx x (List.mem_cons_of_mem _ hm)
        have hm2 := fun x (hm : x ∈ ys) => hy x (List.mem_cons_of_mem _ hm)
        have k1 : skipL (pathN ws e) (xs.map (pathN ws)) = (xs.filter (fun x => decide (x ≠ e))).map (pathN ws) := by
          rw [skip_map fun x hm => pathN_eq hw (hm1 x hm) he, skI_filter hs]
        have k2 : skipL (pathN ws a) (ys.map (pathN ws)) = (ys.filter (fun x => decide (x ≠ a))).map (pathN ws) := by
          rw [skip_map fun x hm => pathN_eq hw (hm2 x hm) ha, skI_filter hs2]
        have l1 := filt_len e xs
        have l2 := filt_len a ys
        rw [List.length_cons, List.length_cons] at hN
        (refine qE1A2 (uniq_cons hs hU) fun r zqr1 hr => ?_; subst zqr1)
        have hMa := hM2 (by simp)
        have haM := hM a List.mem_cons_self
        rw [List.map_cons, List.map_cons]
        rcases Int.lt_trichotomy e a with q | q | q
        · rw [sld_lt _ _ ((pathN_lt hw he ha).mpr q), k1]
          dsimp only
          have := ih (xs.filter (fun x => decide (x ≠ e))) (a :: ys) r M (by rw [List.length_cons]; lia) (filt_sorted hs) hs2 (fun x hm => hm1 x (mem_filt.mp hm).1) hy hr hM hM2 (by simp)
          rw [List.map_cons] at this
          rw [this, onlyL_cons, if_neg (fun hm => by
            rcases List.mem_cons.mp hm with z | z
            · lia
            · have := hp2.1 e z; lia), if_pos (by lia), List.map_append]
          rw [onlyL_congr (xs := e :: xs) (xs' := xs.filter (fun x => decide (x ≠ e))) (ys := a :: ys) (ys' := a :: ys) fun k hk => ⟨Iff.rfl, (count_filt (mem_filt.mp ((hr.mem k).mp hk)).2).symm⟩]
          rfl
        · subst q
          rw [sld_eq _ _ (fun z => Int.lt_irrefl _ ((pathN_lt hw he ha).mp z)) (fun z => Int.lt_irrefl _ ((pathN_lt hw ha he).mp z)), k1, k2]
          have := ih (xs.filter (fun x => decide (x ≠ e))) (ys.filter (fun x => decide (x ≠ e))) r M (by lia) (filt_sorted hs) (filt_sorted hs2) (fun x hm => hm1 x (mem_filt.mp hm).1) (fun x hm => hm2 x (mem_filt.mp hm).1) hr
            (fun y hm => hM y (List.mem_cons_of_mem _ (mem_filt.mp hm).1))
            (fun hne => by
              rcases List.mem_cons.mp hMa with z | z
              · (refine qE1A1 (List.exists_mem_of_ne_nil _ hne) fun y hy1 => ?_)
                have h1 := mem_filt.mp hy1
                have h2 := hM y (List.mem_cons_of_mem _ h1.1)
                have h3 := hp2.1 y h1.1
                lia
              · by_cases z2 : M = e
                · (refine qE1A1 (List.exists_mem_of_ne_nil _ hne) fun y hy1 => ?_)
                  have h1 := mem_filt.mp hy1
                  have h2 := hM y (List.mem_cons_of_mem _ h1.1)
                  have h3 := hp2.1 y h1.1
                  lia
                · exact mem_filt.mpr ⟨z, z2⟩)
            (fun hnil x hm => by
              have h1 := mem_filt.mp hm
              have h2 := hp.1 x h1.1
              have h3 : M = e := by
                rcases List.mem_cons.mp hMa with z | z
                · exact z
                · by_cases z2 : M = e
                  · exact z2
                  · have := mem_filt.mpr ⟨z, z2⟩
                    rw [hnil] at this; cases this
              lia)
          rw [this, onlyL_cons, if_pos List.mem_cons_self, List.nil_append]
          rw [onlyL_congr (xs := e :: xs) (xs' := xs.filter (fun x => decide (x ≠ e))) (ys := e :: ys) (ys' := ys.filter (fun x => decide (x ≠ e))) fun k hk => ⟨by
            have h1 := (mem_filt.mp ((hr.mem k).mp hk)).2
            rw [mem_filt, List.mem_cons]
            constructor
            · rintro (z | z)
              · exact absurd z h1
              · exact ⟨z, h1⟩
            · rintro ⟨z, _⟩; exact .inr z, (count_filt (mem_filt.mp ((hr.mem k).mp hk)).2).symm⟩]
        · rw [sld_gt _ _ (fun z => by have := (pathN_lt hw he ha).mp z; lia) ((pathN_lt hw ha he).mpr q), k2]
          dsimp only
          have hge : ∀ k ∈ e :: xs, e ≤ k := fun k hk => by
            rcases List.mem_cons.mp hk with z | z
            · lia
            · exact hp.1 k z
          have := ih (e :: xs) (ys.filter (fun x => decide (x ≠ a))) (e :: r) M (by rw [List.length_cons]; lia) hs (filt_sorted hs2) hx (fun x hm => hm2 x (mem_filt.mp hm).1) hU
            (fun y hm => hM y (List.mem_cons_of_mem _ (mem_filt.mp hm).1))
            (fun hne => by
              (refine qE1A1 (List.exists_mem_of_ne_nil _ hne) fun y hy1 => ?_)
              have h1 := mem_filt.mp hy1
              have h2 := hM y (List.mem_cons_of_mem _ h1.1)
              have h3 := hp2.1 y h1.1
              rcases List.mem_cons.mp hMa with z | z
              · lia
              · exact mem_filt.mpr ⟨z, by lia⟩)
            (fun hnil x hm => by
              have h2 := hge x hm
              have h3 : M = a := by
                rcases List.mem_cons.mp hMa with z | z
                · exact z
                · by_cases z2 : M = a
                  · exact z2
                  · have := mem_filt.mpr ⟨z, z2⟩
                    rw [hnil] at this; cases this
              lia)
          rw [List.map_cons] at this
          rw [this]
          rw [onlyL_congr (xs := e :: xs) (xs' := e :: xs) (ys := a :: ys) (ys' := ys.filter (fun x => decide (x ≠ a))) fun k hk => ⟨by
            have h1 := hge k ((hU.mem k).mp hk)
            rw [mem_filt, List.mem_cons]
            constructor
            · rintro (z | z)
              · lia
              · exact ⟨z, by lia⟩
            · rintro ⟨z, _⟩; exact .inr z, rfl⟩]
end
-- P6
section
set_option maxRecDepth 100000
set_option maxHeartbeats 1000000
theorem pathN_total {ws : List Int} (hw : Wid ws) {a b : Int} (ha : 0 ≤ a ∧ a < 1000000) (hb : 0 ≤ b ∧ b < 1000000) : pathN ws a < pathN ws b ∨ pathN ws a = pathN ws b ∨ pathN ws b < pathN ws a := by
  rw [pathN_lt hw ha hb, pathN_lt hw hb ha, pathN_eq hw ha hb]
  lia
theorem sld_swap {ws : List Int} (hw : Wid ws) : ∀ (N : Nat) (xs ys : List Int), xs.length + ys.length ≤ N → (∀ x ∈ xs, 0 ≤ x ∧ x < 1000000) → (∀ x ∈ ys, 0 ≤ x ∧ x < 1000000) → xs.Pairwise (· ≤ ·) → ys.Pairwise (· ≤ ·) →
    (sld (xs.map (pathN ws)) (ys.map (pathN ws))).2 = (sld (ys.map (pathN ws)) (xs.map (pathN ws))).1 := by
  intro N
  induction N with
  | zero =>
    intro xs ys hN _ _ _ _
    have h1 : xs = [] := List.length_eq_zero_iff.mp (by lia)
    have h2 : ys = [] := List.length_eq_zero_iff.mp (by lia)
    subst h1; subst h2
    rw [List.map_nil, sld_nil1]
  | succ N ih =>
    intro xs ys hN hx hy hs hs2
    cases xs with
    | nil => rw [List.map_nil, sld_nil1, sld_nil2]
    | cons e xs =>
      cases ys with
      | nil => rw [List.map_nil, sld_nil1, sld_nil2]
      | cons a ys =>
        have he := hx e List.mem_cons_self
        have ha := hy a List.mem_cons_self
        have hm1 := fun x (hm : x ∈ xs) => hx x (List.mem_cons_of_mem _ hm)
        have hm2 := fun x (hm : x ∈ ys) => hy x (List.mem_cons_of_mem _ hm)
        have k1 : skipL (pathN ws e) (xs.map (pathN ws)) = (xs.filter (fun x => decide (x ≠ e))).map (pathN ws) := by
          rw [skip_map fun x hm => pathN_eq hw (hm1 x hm) he, skI_filter hs]
        have k2 : skipL (pathN ws a) (ys.map (pathN ws)) = (ys.filter (fun x => decide (x ≠ a))).map (pathN ws) := by
          rw [skip_map fun x hm => pathN_eq hw (hm2 x hm) ha, skI_filter hs2]
        have l1 := filt_len e xs
        have l2 := filt_len a ys
        rw [List.length_cons, List.length_cons] at hN
        rw [List.map_cons, List.map_cons]
        rcases Int.lt_trichotomy e a with q | q | q
        · have c1 := (pathN_lt hw he ha).mpr q
          have c2 : ¬ pathN ws a < pathN ws e := fun z => by have := (pathN_lt hw ha he).mp z; lia
          rw [sld_lt _ _ c1, sld_gt _ _ c2 c1, k1]
          dsimp only
          have := ih (xs.filter (fun x => decide (x ≠ e))) (a :: ys) (by rw [List.length_cons]; lia) (fun x hm => hm1 x (mem_filt.mp hm).1) hy (filt_sorted hs) hs2
          rw [List.map_cons] at this
          exact this
        · subst q
          have c1 : ¬ pathN ws e < pathN ws e := fun z => by have := (pathN_lt hw he he).mp z; lia
          rw [sld_eq _ _ c1 c1, sld_eq _ _ c1 c1, k1, k2]
          exact ih _ _ (by lia) (fun x hm => hm1 x (mem_filt.mp hm).1) (fun x hm => hm2 x (mem_filt.mp hm).1) (filt_sorted hs) (filt_sorted hs2)
        · have c1 := (pathN_lt hw ha he).mpr q
          have c2 : ¬ pathN ws e < pathN ws a := fun z => by have := (pathN_lt hw he ha).mp z; lia
          rw [sld_gt _ _ c2 c1, sld_lt _ _ c1, k2]
          dsimp only
          have := ih (e :: xs) (ys.filter (fun x => decide (x ≠ a))) (by rw [List.length_cons]; lia) hx (fun x hm => hm2 x (mem_filt.mp hm).1) hs (filt_sorted hs2)
          rw [List.map_cons] at this
          rw [this]
end
-- P7
section
set_option maxRecDepth 100000
set_option maxHeartbeats 1000000
theorem digW_dig : ∀ (w m c : Nat), c ∈ digW w m → 48 ≤ c ∧ c ≤ 57
  | 0, _, _, h => by simp [digW] at h
  | w + 1, m, c, h => by
    rw [digW] at h
    rcases List.mem_append.mp h with h | h
    · exact digW_dig w (m / 10) c h
    · simp at h; lia
theorem chunks_name : ∀ (ws : List Int) (low : Int) (n : Nat), (∀ w ∈ ws, 1 ≤ w ∧ w ≤ 6) → ∀ b ∈ chunks ws low n, IsName b
  | [], _, _, _, b, h => by cases h
  | w :: r, low, n, hw, b, h => by
    have h1 := hw w List.mem_cons_self
    rw [chunks] at h
    rcases List.mem_cons.mp h with e | h
    · subst e
      refine ⟨fun e => ?_, fun c hc => ?_, ?_⟩
      · rw [digW_nil] at e; lia
      · have := digW_dig _ _ _ hc; lia
      · rw [digW_len]; (with_reducible refine arT ?_; lia)
    · exact chunks_name r _ n (fun x hx => hw x (List.mem_cons_of_mem _ hx)) b h
end
-- P8
section
set_option maxRecDepth 100000
set_option maxHeartbeats 1000000
noncomputable def uldI : List Int → List Int → List Int × List Int
  | [], Y => ([], Y)
  | x :: R, Y => if x ∈ Y then uldI R (Y.erase x) else (x :: (uldI R Y).1, (uldI R Y).2)
theorem erase_map {f : Int → List Nat} {x : Int} : ∀ {Y : List Int}, (∀ y ∈ Y, f y = f x ↔ y = x) → (Y.map f).erase (f x) = (Y.erase x).map f
  | [], _ => rfl
  | y :: Y, h => by
    have h1 := h y List.mem_cons_self
    by_cases q : y = x
    · subst q; simp
    · have q2 : f y ≠ f x := fun z => q (h1.mp z)
      rw [List.map_cons, List.erase_cons_tail (by simpa using q2), List.erase_cons_tail (by simpa using q), List.map_cons, erase_map fun z hz => h z (List.mem_cons_of_mem _ hz)]
theorem uldR_map {f : Int → List Nat} : ∀ (R Y : List Int), (∀ x ∈ R, ∀ y ∈ Y, f y = f x ↔ y = x) → uldR (R.map f) (Y.map f) = ((uldI R Y).1.map f, (uldI R Y).2.map f)
  | [], Y, _ => rfl
  | x :: R, Y, h => by
    have hx := h x List.mem_cons_self
    have hr := fun z (hz : z ∈ R) => h z (List.mem_cons_of_mem _ hz)
    have hm : f x ∈ Y.map f ↔ x ∈ Y := by
      rw [List.mem_map]
      constructor
      · (intro zqi; refine qE1A2 zqi fun y hy e => ?_; clear zqi)
        rw [← (hx y hy).mp e]; exact hy
      · intro hy; exact ⟨x, hy, rfl⟩
    rw [List.map_cons]
    unfold uldR uldI
    by_cases q : x ∈ Y
    · rw [if_pos (hm.mpr q), if_pos q, erase_map hx]
      exact uldR_map R _ fun z hz y hy => hr z hz y (List.mem_of_mem_erase hy)
    · rw [if_neg (fun z => q (hm.mp z)), if_neg q, uldR_map R Y hr, List.map_cons]
theorem uldI_count (k : Int) : ∀ (R Y : List Int), (uldI R Y).1.count k = R.count k - Y.count k ∧ (uldI R Y).2.count k = Y.count k - R.count k
  | [], Y => by simp [uldI]
  | x :: R, Y => by
    unfold uldI
    by_cases q : x ∈ Y
    · rw [if_pos q]
      have ih := uldI_count k R (Y.erase x)
      have hp : 0 < Y.count x := List.count_pos_iff.mpr q
      by_cases e : x = k
      · subst e
        rw [List.count_erase_self] at ih
        rw [List.count_cons_self]
        exact ar11 hp ih
      · rw [List.count_erase_of_ne (Ne.symm e)] at ih
        rw [List.count_cons_of_ne e]
        exact ih
    · rw [if_neg q]
      have ih := uldI_count k R Y
      have h0 : Y.count x = 0 := List.count_eq_zero.mpr q
      dsimp only
      by_cases e : x = k
      · subst e
        rw [List.count_cons_self, List.count_cons_self]
        exact ar12 h0 ih
      · rw [List.count_cons_of_ne e, List.count_cons_of_ne e]
        exact ih
theorem uldI_sub : ∀ (R Y : List Int), (uldI R Y).1.Sublist R ∧ (uldI R Y).2.Sublist Y
  | [], Y => ⟨List.Sublist.refl _, List.Sublist.refl _⟩
  | x :: R, Y => by
    unfold uldI
    by_cases q : x ∈ Y
    · rw [if_pos q]
      have ih := uldI_sub R (Y.erase x)
      exact ⟨ih.1.trans (List.sublist_cons_self _ _), ih.2.trans List.erase_sublist⟩
    · rw [if_neg q]
      have ih := uldI_sub R Y
      exact ⟨ih.1.cons₂ _, ih.2⟩
end
-- P9
section
set_option maxRecDepth 100000
set_option maxHeartbeats 1000000
theorem group_sup : ∀ (ks xs : List Int), ks.Pairwise (· < ·) → xs.Pairwise (· ≤ ·) → (∀ x ∈ xs, x ∈ ks) → (ks.flatMap fun k => List.replicate (xs.count k) k) = xs
  | [], xs, _, _, h => by
    cases xs with
    | nil => rfl
    | cons x r => exact absurd (h x List.mem_cons_self) (by simp)
  | k :: r, xs, hk, hs, h => by
    have hr := List.pairwise_cons.mp hk
    have hp : (k :: xs).Pairwise (· ≤ ·) := List.pairwise_cons.mpr ⟨fun x hx => by
      rcases List.mem_cons.mp (h x hx) with e | e
      · lia
      · have := hr.1 x e; lia, hs⟩
    have ih := group_sup r (xs.filter (fun x => decide (x ≠ k))) hr.2 (filt_sorted hp) fun x hx => by
      have h1 := mem_filt.mp hx
      rcases List.mem_cons.mp (h x h1.1) with e | e
      · exact absurd e h1.2
      · exact e
    rw [List.flatMap_cons, flat_congr (g := fun q => List.replicate ((xs.filter (fun x => decide (x ≠ k))).count q) q) (fun q hq => by
      have := hr.1 q hq
      have hne : q ≠ k := by lia
      rw [count_filt hne, List.count_cons_of_ne (Ne.symm hne)]), ih, head_run hp]
theorem uld_short {xs ys ks : List Int} (hs : xs.Pairwise (· ≤ ·)) (hk : ks.Pairwise (· < ·)) (h : ∀ x ∈ xs, x ∈ ks) :
    (uldI xs.reverse ys).1.reverse = ks.flatMap fun k => List.replicate (xs.count k - ys.count k) k := by
  have h1 := (uldI_sub xs.reverse ys).1
  have h2 : ((uldI xs.reverse ys).1.reverse).Sublist xs := by
    have := h1.reverse
    rwa [List.reverse_reverse] at this
  rw [← group_sup ks _ hk (hs.sublist h2) fun x hx => h x (h2.subset hx)]
  refine flat_congr fun k _ => ?_
  rw [List.count_reverse, (uldI_count k _ _).1, List.count_reverse]
theorem uld_over {xs ys ks : List Int} (hs : ys.Pairwise (· ≤ ·)) (hk : ks.Pairwise (· < ·)) (h : ∀ x ∈ ys, x ∈ ks) :
    (uldI xs.reverse ys).2 = ks.flatMap fun k => List.replicate (ys.count k - xs.count k) k := by
  have h2 := (uldI_sub xs.reverse ys).2
  rw [← group_sup ks _ hk (hs.sublist h2) fun x hx => h x (h2.subset hx)]
  refine flat_congr fun k _ => ?_
  rw [(uldI_count k _ _).2, List.count_reverse]
end
-- P10
section
set_option maxRecDepth 100000
set_option maxHeartbeats 1000000
noncomputable def comL : List (List Nat) → List (List Nat) → List (List Nat)
  | x :: X, y :: Y => if x = y then x :: comL X Y else []
  | _, _ => []
theorem cnt_zero (a b : Nat) : ∀ (ws : List Int) (low : Int), (∀ w ∈ ws, 1 ≤ w) → ws.sum = low → a / 10 ^ low.toNat ≠ b / 10 ^ low.toNat → cntL a b ws low = 0
  | [], _, _, _, _ => rfl
  | w :: r, low, hw, hs, h => by
    have h1 := hw w List.mem_cons_self
    have hr : ∀ x ∈ r, 1 ≤ x := fun x hx => hw x (List.mem_cons_of_mem _ hx)
    have h2 := sum_ge hr
    rw [List.sum_cons] at hs
    have e : low.toNat = (low - w).toNat + w.toNat := ar8 (Int.le_trans (by decide) h1) (ar32 hs h2)
    have hne : a / 10 ^ (low - w).toNat ≠ b / 10 ^ (low - w).toNat := fun z => h (by rw [e, Nat.pow_add, ← Nat.div_div_eq_div_mul, ← Nat.div_div_eq_div_mul, z])
    rw [cntL, if_neg hne, cnt_zero a b r (low - w) hr (by lia) hne]
theorem com_cnt (a b : Nat) : ∀ (ws : List Int) (low : Int), (∀ w ∈ ws, 1 ≤ w) → ws.sum = low → a / 10 ^ low.toNat = b / 10 ^ low.toNat →
    comL (chunks ws low a) (chunks ws low b) = chunks (ws.take (cntL a b ws low)) low a
  | [], _, _, _, _ => rfl
  | w :: r, low, hw, hs, h => by
    have h1 := hw w List.mem_cons_self
    have hr : ∀ x ∈ r, 1 ≤ x := fun x hx => hw x (List.mem_cons_of_mem _ hx)
    have h2 := sum_ge hr
    rw [List.sum_cons] at hs
    have e : low.toNat = (low - w).toNat + w.toNat := ar8 (Int.le_trans (by decide) h1) (ar32 hs h2)
    rw [e, Nat.pow_add, ← Nat.div_div_eq_div_mul, ← Nat.div_div_eq_div_mul] at h
    have hd : digW w.toNat (a / 10 ^ (low - w).toNat) = digW w.toNat (b / 10 ^ (low - w).toNat) ↔ a / 10 ^ (low - w).toNat = b / 10 ^ (low - w).toNat := by
      rw [digW_eq]
      constructor
      · intro z
        rw [← Nat.div_add_mod (a / 10 ^ (low - w).toNat) (10 ^ w.toNat), ← Nat.div_add_mod (b / 10 ^ (low - w).toNat) (10 ^ w.toNat), h, z]
      · intro z; rw [z]
    rw [chunks, chunks, comL, cntL]
    by_cases q : a / 10 ^ (low - w).toNat = b / 10 ^ (low - w).toNat
    · rw [if_pos (hd.mpr q), if_pos q, com_cnt a b r (low - w) hr (by lia) q, Nat.add_comm, List.take_succ_cons, chunks]
    · rw [if_neg (fun z => q (hd.mp z)), if_neg q, cnt_zero a b r (low - w) hr (by lia) q]
      rfl
end
-- P11
section
set_option maxRecDepth 100000
set_option maxHeartbeats 1000000
theorem chunks_lt : ∀ (ws : List Int) (low : Int) (a b : Nat), (∀ w ∈ ws, 1 ≤ w) → ws.sum = low → (chunks ws low a < chunks ws low b ↔ a % 10 ^ low.toNat < b % 10 ^ low.toNat)
  | [], low, a, b, _, h => by
    rw [List.sum_nil] at h
    subst h
    simp [chunks, Nat.mod_one]
  | w :: r, low, a, b, hw, h => by
    have h1 := hw w List.mem_cons_self
    have hr : ∀ x ∈ r, 1 ≤ x := fun x hx => hw x (List.mem_cons_of_mem _ hx)
    have h2 := sum_ge hr
    rw [List.sum_cons] at h
    have e : low.toNat = (low - w).toNat + w.toNat := by lia
    rw [chunks, chunks, List.cons_lt_cons_iff, digW_lt, digW_eq, chunks_lt r (low - w) a b hr (by lia), e, Nat.pow_add, Nat.mod_mul, Nat.mod_mul,
      lt_split (Nat.mod_lt _ (Nat.pow_pos (by decide))) (Nat.mod_lt _ (Nat.pow_pos (by decide)))]
end
-- G1
section
set_option maxRecDepth 100000
set_option maxHeartbeats 1000000
theorem enterG {prog : Program} {w : World} {A : Around} {s : Shared} {K : Frag} {Q : Value → Shared → Prop} {E : Value → Shared → Prop} {name qual : Str} {params : Arguments} {body : List Stmt} {scope : Scope} {dV kV doc pm cdv ct oc : Value} {an od : Option Addr} {osl : Array (Option Value)} {f : Addr} {args : List Value} {binds : List (Str × Value)}
    (X : K.In s.heap) (hlim : s.heap.NoLimit)
    (ho : K.lookup f = some ⟨oc, od, .func (fnOf name qual params body scope dV kV doc pm an cdv ct), osl⟩) (hcd : codeIn K cdv qual = true) (hroom : A.depth < recursionLimit)
    (hbind : BindsTo s (fnOf name qual params body scope dV kV doc pm an cdv ct) ⟨args, []⟩ binds) (hloc : ∀ y ∈ binds, scope.names.lookup y.1 = some .local)
    (h : ∀ h₁ C tk nm qn, Fr s.heap C h₁ (fun y => binds.reverse.lookup y) → (∀ b o, s.heap.get? b = some o → b ≠ C) → (∀ b o, s.heap.get? b = some o → h₁.get? b = some o) →
      Q (.ref h₁.objs.size) { s with gens := s.gens.push (.fresh (.func body (envOf qual scope C f cdv))), toks := tk, heap := h₁.push { cls := .type "generator", data := .fields #[.int s.gens.size 0, nm, qn] } })
    (hco : scope.isCoroutine = false) (hgen : scope.isGenerator = true) (hk : scope.kind = .function)
    (hcell : ∀ x ∈ scope.names, x.2 ≠ .cell) : wpAny (model prog w) A (call (.ref f) args) Q E s := by
  refine wpAny_call ?_
  refine codeAny_call_generator (fd := fnOf name qual params body scope dV kV doc pm an cdv ct) (body := body) hroom (X _ _ ho) rfl hco hgen rfl (codeRec_of X hcd) (hbind _ _ _ _ ?_)
  refine wpAny_newFunctionEnv hcell hloc (fun h₁ hns hsb => ⟨hlim.fresh _ hsb, ?_⟩) hk
  have hk₁ : ∀ b o, s.heap.get? b = some o → h₁.get? b = some o := fun b o e => hsb.extBut b o (Nat.ne_of_lt (Heap.lt_size e)) (Heap.get?_push_of_some _ e)
  exact h h₁ s.heap.objs.size _ _ _ ⟨hns, hk₁, Nat.le_refl _⟩ (fun b o e => Nat.ne_of_lt (Heap.lt_size e)) hk₁
theorem wpAny_loose {M : Model} {α : Type} {A : Around} {m : Sem α} {Q : α → Shared → Prop} {E : Value → Shared → Prop} {s : Shared} {d u : Nat} (hh : A.handled = none) (hd : A.depth ≤ d) (hu : A.units ≤ u)
    (h : wpAny M (Around.mk none d none none u) m Q E s) : wpAny M A m Q E s := by
  intro Γ p hΓ
  refine h Γ p ⟨hh ▸ hΓ.1, Nat.le_trans hΓ.2.1 hd, fun l e => ?_, fun g e => ?_, Nat.le_trans hΓ.2.2.2.2 hu⟩
  · cases e
  · cases e
section
variable {M : Model} {A : Around} {R : GenEnd} {Y : Protocol} {n : Nat} {s₀ : Shared} {c : Code} {fs : List Frame} {s : Shared} {env : Env}
  {K : Flow → Sem Fin} {H : Value → Sem Fin} {gd : Bool → Bool} {lv : List Value → List Value}
theorem seg_bindW {α β : Type} {m : Sem α} {K : α → Sem β} {K' : β → Sem Fin} {H' : Value → Sem Fin}
    (h : wpAny M (A.over c fs) m (fun a s' => Seg M A R Y n s₀ c ((K a).wrap K' H' gd lv) fs s') (fun x s' => Seg M A R Y n s₀ c (H' x) fs s') s) : Seg M A R Y n s₀ c ((m >>= K).wrap K' H' gd lv) fs s := by
  rw [Sem.bind_eq_wrap', Sem.wrap_wrap]; exact seg_wrap h
theorem seg_If {test : PySem.Expr} {body orelse : List Stmt} {pos : Pos}
    (h : wpAny M (A.over c fs) (isTrue test env (eval test env)) (fun b s' => Seg M A R Y n s₀ c ((execs (if b = true then body else orelse) env).wrap K H gd lv) fs s') (fun x s' => Seg M A R Y n s₀ c (H x) fs s') s) :
    Seg M A R Y n s₀ c ((exec (.If test body orelse pos) env).wrap K H gd lv) fs s := by
  show Seg M A R Y n s₀ c ((standAt pos >>= fun _ => isTrue test env (eval test env) >>= fun b => if b = true then execs body env else execs orelse env).wrap K H gd lv) fs s
  refine seg_bindW (wpAny_standAt (seg_bindW (wpAny_mono h (fun b s' hb => ?_) fun _ _ e => e)))
  cases b
  · exact hb
  · exact hb
theorem seg_stmt {st : Stmt} (h : wpAny M (A.over c fs) (exec st env) (fun f s' => Seg M A R Y n s₀ c (K f) fs s') (fun x s' => Seg M A R Y n s₀ c (H x) fs s') s) : Seg M A R Y n s₀ c ((exec st env).wrap K H gd lv) fs s := seg_wrap h
theorem seg_For {target iter : PySem.Expr} {body orelse : List Stmt} {pos : Pos}
    (h : wpAny M (A.over c fs) (eval iter env) (fun xv s₁ => wpAny M (A.over c fs) (pyIter xv) (fun it s₂ =>
      ∀ p, Seg M A R Y n s₀ (.forLoop target it body orelse env) (M.den (.forLoop target it body orelse env))
      (.ret (fun r => ((match r with | .ok f => (.pure f : Sem Flow) | .error e => .raise e).onRaise fun (x : Value) => do
        if (← field x 1) == Value.none then unsupported "frame.own-activation:exception-without-traceback"
        setFlight x env.frame).wrap K H gd lv) none (gd false) (lv []) c p [] :: fs) s₂) (fun x s' => Seg M A R Y n s₀ c (H x) fs s') s₁) (fun x s' => Seg M A R Y n s₀ c (H x) fs s') s)
    (hs : ∀ x, foldedSetIterable iter env x = pure x) :
    Seg M A R Y n s₀ c ((exec (.For target iter body orelse pos) env).wrap K H gd lv) fs s := by
  rw [exec_For]
  refine seg_bindW (wpAny_standAt (seg_bindW (wpAny_mono h (fun xv s₁ h₁ => seg_bindW (wpAny_of_eq (hs xv) (seg_bindW (wpAny_standAt (seg_bindW (wpAny_holding (wpAny_mono h₁ (fun it s₂ h₂ => ?_) fun _ _ e => e))))))) fun _ _ e => e)))
  exact seg_call h₂
theorem seg_ind (St : Nat → Shared → Shared → Prop) (N : Nat)
    (turn : ∀ i s₀ s, i < N → St i s₀ s → (i + 1 < N → ∀ s₀' s', St (i + 1) s₀' s' → Seg M A R Y (n - (i + 1)) s₀' c (M.den c) fs s') → Seg M A R Y (n - i) s₀ c (M.den c) fs s) :
    ∀ i s₀ s, i < N → St i s₀ s → Seg M A R Y (n - i) s₀ c (M.den c) fs s := by
  intro i
  suffices ∀ k i, N - i = k → ∀ s₀ s, i < N → St i s₀ s → Seg M A R Y (n - i) s₀ c (M.den c) fs s from this _ i rfl
  intro k
  induction k with
  | zero => intro i hk s₀ s hi; lia
  | succ k ih => exact fun i hk s₀ s hi hst => turn i s₀ s hi hst fun hi' s₀' s' hst' => ih (i + 1) (by (with_reducible exact ar2 ‹_›)) s₀' s' hi' hst'
end
section
variable {prog : Program} {w : World} {A : Around} {R : GenEnd} {Y : Protocol} {n : Nat} {s₀ : Shared} {fs : List Frame} {s : Shared} {env : Env}
theorem seg_forLoop {target : PySem.Expr} {it : Value} {body orelse : List Stmt}
    (h : wpAny (model prog w) (A.over (.forLoop target it body orelse env) fs) (pyNext it) (fun r s' => match r with
        | none => Seg (model prog w) A R Y n s₀ (.block orelse env) ((model prog w).den (.block orelse env)) fs s'
        | some v => wpAny (model prog w) (A.over (.forLoop target it body orelse env) fs) (assign target env v) (fun _ s' =>
          Seg (model prog w) A R Y n s₀ (.forLoop target it body orelse env) ((execs body env).wrap (fun f => match f with
            | .next | .cont => .pure (.again (.forLoop target it body orelse env))
            | .brk => .pure (.done .next)
            | .ret v => .pure (.done (.ret v))) (fun e => (do noteFrame e env; theTreesLotGoes e : Sem Unit).wrap (fun _ => .raise e) .raise id id) id id) fs s')
          (fun _ _ => False) s')
      (fun _ _ => False) s)
    (ht : ∀ v, letOwnedTupleGo target it v = pure ()) :
    Seg (model prog w) A R Y n s₀ (.forLoop target it body orelse env) ((model prog w).den (.forLoop target it body orelse env)) fs s := by
  show Seg _ A R Y n s₀ _ ((forTurn target it body orelse env).onRaise (fun x => do noteFrame x env; theTreesLotGoes x)) fs s
  rw [Sem.onRaise_eq_wrap]
  unfold forTurn
  refine seg_bindW (wpAny_standAt (seg_bindW (wpAny_onRaise (wpAny_mono h (fun r s' hr => ?_) fun _ _ e => e.elim))))
  cases r with
  | none => exact seg_again rfl hr
  | some v =>
    refine seg_bindW (wpAny_of_eq (ht v) (seg_bindW (wpAny_mono hr (fun _ s'' hb => ?_) fun _ _ e => e.elim)))
    rw [Sem.bind_eq_wrap', Sem.wrap_wrap]
    rw [Sem.wrap_congr (execs body env) _ _ (K' := fun f => match f with
            | .next | .cont => .pure (.again (.forLoop target it body orelse env))
            | .brk => .pure (.done .next)
            | .ret v => .pure (.done (.ret v))) (H' := (fun e => (do noteFrame e env; theTreesLotGoes e : Sem Unit).wrap (fun _ => .raise e) .raise id id))
        (fun f => by cases f <;> rfl)
        (fun e => by first | exact Sem.bind_eq_wrap _ _ | (show (do noteFrame e env; theTreesLotGoes e : Sem Unit).bind (fun _ => .raise e) = _; rw [Sem.bind_eq_wrap]))]
    exact hb
theorem seg_block_nil {k h g l c₁ p₁ kp} (hk : Seg (model prog w) A R Y n s₀ c₁ (k (.ok .next)) fs s) : Seg (model prog w) A R Y n s₀ (.block [] env) ((model prog w).den (.block [] env)) (.ret k h g l c₁ p₁ kp :: fs) s := seg_leaf (.ok .next) hk
end
end
-- G2
section
set_option maxRecDepth 100000
set_option maxHeartbeats 1000000
noncomputable def cutH (h : Heap) (C : Addr) : Heap := { h with objs := h.objs.extract 0 C }
theorem cutH_size (h : Heap) (C : Addr) : (cutH h C).objs.size ≤ C := by
  simp [cutH]; lia
theorem cutH_get {h : Heap} {C b : Addr} (hb : @LT.lt Nat _ b C) : (cutH h C).get? b = h.get? b := by
  unfold Heap.get? cutH
  have : (h.objs.extract 0 C)[b]? = h.objs[b]? := by
    rw [Array.getElem?_extract]
    simp
    intro hx
    have hb' : @LT.lt Nat _ b C := hb
    lia
  rw [this]
theorem cutH_of {h : Heap} {C b : Addr} {o : Obj} (e : (cutH h C).get? b = some o) : @LT.lt Nat _ b C ∧ h.get? b = some o := by
  have h1 : @LT.lt Nat _ b C := Nat.lt_of_lt_of_le (Heap.lt_size e) (cutH_size h C)
  exact ⟨h1, by rw [← cutH_get h1]; exact e⟩
theorem cutH_none (h : Heap) {C b : Addr} (hb : @LE.le Nat _ C b) : (cutH h C).get? b = none := Heap.get?_none_of_le (Nat.le_trans (cutH_size h C) hb)
theorem cutH_keeps {h₀ h : Heap} {C : Addr} (hk : Keeps h₀ h) (hC : h₀.objs.size ≤ C) : Keeps h₀ (cutH h C) := fun b o e => by
  rw [cutH_get (Nat.lt_of_lt_of_le (Heap.lt_size e) hC)]; exact hk b o e
noncomputable def GSince (C G : Addr) (oG : Obj) (s₀ s : Shared) : Prop :=
  ∃ h' tk, s = { s₀ with heap := h', toks := tk } ∧ (∀ b o, @LT.lt Nat _ b C → s₀.heap.get? b = some o → h'.get? b = some o) ∧ h'.get? G = some oG
noncomputable def GY (h₀ : Heap) (C G : Addr) (oG : Obj) (O : List Int) (more : Bool) : Protocol := fun m s₀ v s kap =>
  (∃ q t, O[O.length - 1 - m]? = some q ∧ v = .int q t) ∧ GSince C G oG s₀ s ∧
    ∃ I oI oC, s.heap.get? I = some oI ∧ s.heap.get? C = some oC ∧ @LT.lt Nat _ C I ∧ @Ne Nat I G ∧ (m ≠ 0 ∨ more = true → ∀ s'' : Shared, Keeps h₀ s''.heap → s''.heap.get? I = some oI → s''.heap.get? C = some oC → s''.heap.get? G = some oG → kap (.send .none) s'')
noncomputable def GR (C G : Addr) (oG : Obj) : GenEnd := fun n s₀ r s₁ => r = .ok (.ret .none) ∧ (n = 0 ∧ GSince C G oG s₀ s₁)
noncomputable def ivsO (zs es : List Int) : List Int := if es = [0, 5] then zs ++ List.replicate (7 - zs.length) (zs.getLastD 0) else zs
noncomputable def lastV (zs : List Int) (i : Nat) (v : Value) : Prop := (i = 0 ∧ v = .none) ∨ ∃ q t, 0 < i ∧ zs[i - 1]? = some q ∧ v = .int q t
noncomputable def GSt (h₀ : Heap) (C G : Addr) (oG : Obj) (l I : Addr) (zs : List Int) (i : Nat) (s₀ s : Shared) : Prop :=
  ∀ P : Shared → Prop, (∀ (h : Heap) (tk : Nat) (u : Str → Option Value) (v : Value) (oI : Obj), Keeps h₀ s₀.heap → Fr (cutH s₀.heap C) C h (locsOf [("last_interval", v)] u) → News (cutH s₀.heap C) C h [(I, oI), (G, oG)] → h.IsListIter I l i → @LT.lt Nat _ C I → @Ne Nat I G → lastV zs i v → P { s₀ with heap := h, toks := tk }) → P s
theorem GSt.mk {h₀ : Heap} {C G : Addr} {oG : Obj} {l I : Addr} {zs : List Int} {i : Nat} {s₀ : Shared} {h : Heap} {tk : Nat} {u : Str → Option Value} {v : Value} {oI : Obj} (a : Keeps h₀ s₀.heap) (b : Fr (cutH s₀.heap C) C h (locsOf [("last_interval", v)] u)) (c : News (cutH s₀.heap C) C h [(I, oI), (G, oG)]) (d : h.IsListIter I l i) (e : @LT.lt Nat _ C I) (f : @Ne Nat I G) (g : lastV zs i v) :
    GSt h₀ C G oG l I zs i s₀ { s₀ with heap := h, toks := tk } := fun _ q => q h tk u v oI a b c d e f g
theorem wakeF {hp h h'' : Heap} {C : Addr} {oC : Obj} {m : Str → Option Value} (F : Fr (cutH hp C) C h m) (e : h.get? C = some oC) (e' : h''.get? C = some oC) : Fr (cutH h'' C) C h'' m := by
  (refine qE3A2 (F.ns) fun o es ep h1 h2 => ?_)
  rw [h1] at e
  obtain rfl := Option.some.inj e
  exact ⟨⟨_, es, ep, e', h2⟩, fun b o e => (cutH_of e).2, cutH_size _ _⟩
theorem wakeN {h'' : Heap} {C I G : Addr} {oI oG : Obj} (hI : h''.get? I = some oI) (hG : h''.get? G = some oG) (h1 : @LT.lt Nat _ C I) (h2 : @LT.lt Nat _ C G) : News (cutH h'' C) C h'' [(I, oI), (G, oG)] := fun p hp => by
  (first | (revert p; refine alC ?_ (fun p hp => ?_)) | rcases List.mem_cons.mp hp with rfl | hp)
  · exact ⟨hI, Ne.symm (Nat.ne_of_lt h1), cutH_none _ (Nat.le_of_lt h1)⟩
  · rw [List.mem_singleton.mp hp]
    exact ⟨hG, Ne.symm (Nat.ne_of_lt h2), cutH_none _ (Nat.le_of_lt h2)⟩
theorem nextN {g h h' : Heap} {C I G : Addr} {oI oI' oG : Obj} (N : News g C h [(I, oI), (G, oG)]) (hs' : Heap.SameBut I h h') (e1 : h'.get? I = some oI') (hGI : @Ne Nat I G) : News g C h' [(I, oI'), (G, oG)] := fun p hp => by
  (first | (revert p; refine alC ?_ (fun p hp => ?_)) | rcases List.mem_cons.mp hp with rfl | hp)
  · exact ⟨e1, (N _ List.mem_cons_self).2⟩
  · rw [List.mem_singleton.mp hp]
    exact ⟨(hs'.2 G (Ne.symm hGI)).trans (N _ (List.mem_cons_of_mem _ List.mem_cons_self)).1, (N _ (List.mem_cons_of_mem _ List.mem_cons_self)).2⟩
theorem sinceOf {C G I : Addr} {oG oI : Obj} {s₀ : Shared} {h : Heap} {tk : Nat} {m : Str → Option Value} (F : Fr (cutH s₀.heap C) C h m) (N : News (cutH s₀.heap C) C h [(I, oI), (G, oG)]) : GSince C G oG s₀ { s₀ with heap := h, toks := tk } :=
  ⟨h, tk, rfl, fun b o hb e => F.keep b o (by rw [cutH_get hb]; exact e), (N _ (List.mem_cons_of_mem _ List.mem_cons_self)).1⟩
section
variable {M : Model} {A : Around} {R : GenEnd} {Y : Protocol} {n : Nat} {s₀ : Shared} {c : Code} {fs : List Frame} {s : Shared} {env : Env} {K : Flow → Sem Fin} {H : Value → Sem Fin} {gd : Bool → Bool} {lv : List Value → List Value} {a b : List Stmt}
theorem segF {x : Bool} (hx : x = false) (h : Seg M A R Y n s₀ c ((execs b env).wrap K H gd lv) fs s) : Seg M A R Y n s₀ c ((execs (if x = true then a else b) env).wrap K H gd lv) fs s := by subst hx; exact h
theorem segT {x : Bool} (hx : x = true) (h : Seg M A R Y n s₀ c ((execs a env).wrap K H gd lv) fs s) : Seg M A R Y n s₀ c ((execs (if x = true then a else b) env).wrap K H gd lv) fs s := by subst hx; exact h
end
theorem ivsO_ge (zs es : List Int) : zs.length ≤ (ivsO zs es).length := by
  unfold ivsO; split <;> simp
theorem ivsO_at {zs es : List Int} {i : Nat} (hi : i < zs.length) : (ivsO zs es)[i]? = zs[i]? := by
  unfold ivsO; split
  · rw [List.getElem?_append_left hi]
  · rfl
theorem ivsO_more {zs : List Int} {i : Nat} (h0 : zs.length ≤ i) (h1 : i < 7) : (ivsO zs [0, 5])[i]? = some (zs.getLastD 0) := by
  unfold ivsO
  rw [if_pos rfl, List.getElem?_append_right h0, List.getElem?_replicate, if_pos (Nat.sub_lt_sub_right h0 h1)]
theorem ivsO_len {zs : List Int} (h : zs.length ≤ 7) : (ivsO zs [0, 5]).length = 7 := by
  unfold ivsO
  rw [if_pos rfl, List.length_append, List.length_replicate]; exact Nat.add_sub_of_le (by assumption)
noncomputable def WSt (h₀ : Heap) (C G : Addr) (oG : Obj) (I : Addr) (q : Int) (s₀ s : Shared) : Prop :=
  ∀ P : Shared → Prop, (∀ (h : Heap) (tk : Nat) (u : Str → Option Value) (t : Tok) (oI : Obj), Keeps h₀ s₀.heap → Fr (cutH s₀.heap C) C h (locsOf [("last_interval", .int q t)] u) → News (cutH s₀.heap C) C h [(I, oI), (G, oG)] → P { s₀ with heap := h, toks := tk }) → P s
theorem WSt.mk {h₀ : Heap} {C G : Addr} {oG : Obj} {I : Addr} {q : Int} {s₀ : Shared} {h : Heap} {tk : Nat} {u : Str → Option Value} {t : Tok} {oI : Obj} (a : Keeps h₀ s₀.heap) (b : Fr (cutH s₀.heap C) C h (locsOf [("last_interval", .int q t)] u)) (c : News (cutH s₀.heap C) C h [(I, oI), (G, oG)]) : WSt h₀ C G oG I q s₀ { s₀ with heap := h, toks := tk } := fun _ k => k h tk u t oI a b c
theorem setGen_get {s : Shared} {g : Nat} {gs x : GenState} (h : s.gens[g]? = some gs) : (s.setGen g x).gens[g]? = some x := by
  have hlt : g < s.gens.size := by
    rcases Nat.lt_or_ge g s.gens.size with h' | h'
    · exact h'
    · rw [Array.getElem?_eq_none h'] at h; cases h
  simp [Shared.setGen, hlt]
theorem bare_set {s : Shared} {g : Nat} {x : GenState} (h : AllBare s.gens) (hx : x.bare = true) : AllBare (s.setGen g x).gens := fun y hy => by
  obtain ⟨i, hi, rfl⟩ := Array.mem_iff_getElem.mp hy
  by_cases e : i = g
  · subst e
    have : (s.setGen i x).gens[i] = x := by simp [Shared.setGen]
    rw [this]; exact hx
  · have hi2 : i < s.gens.size := by simpa [Shared.setGen] using hi
    have : (s.setGen g x).gens[i] = s.gens[i] := Array.getElem_setIfInBounds_ne hi2 (Ne.symm e)
    rw [this]; exact h _ (Array.getElem_mem hi2)
noncomputable def DrJ (h₀ : Heap) (L C G fa : Addr) (oG : Obj) (g : Nat) (O : List Int) (goes : Nat → GenState → Shared → Prop) (s : Shared) (k : Nat) (s' : Shared) : Prop :=
  ∀ P : Nat → Shared → Prop, (∀ (j : Nat) (h : Heap) (tk : Nat) (gens : Array GenState) (gs : GenState) (u : Str → Option Value) (own : List (Addr × Obj)) (fv : List Value) (c : Nat), j ≤ O.length → j < 7 → gens[g]? = some gs → (AllBare s.gens → AllBare gens) → Fr h₀ L h (locsOf [("found", .ref fa)] u) → News h₀ L h (own ++ [(G, oG), (fa, listOf (List.toArray fv) c)]) → IntsAre fv (O.take j) →
    (∀ p ∈ own, @LE.le Nat _ C p.1 ∧ @Ne Nat p.1 G) → (∀ s'' : Shared, Keeps h₀ s''.heap → (∀ p ∈ own, s''.heap.get? p.1 = some p.2) → s''.heap.get? G = some oG → goes (O.length - j) gs s'') → P (8 - j) { s with heap := h, toks := tk, gens := gens }) → P k s'
theorem DrJ.mk {h₀ : Heap} {L C G fa : Addr} {oG : Obj} {g : Nat} {O : List Int} {goes : Nat → GenState → Shared → Prop} {s : Shared} {j : Nat} {h : Heap} {tk : Nat} {gens : Array GenState} {gs : GenState} {u : Str → Option Value} {own : List (Addr × Obj)} {fv : List Value} {c : Nat} (a1 : j ≤ O.length) (a2 : j < 7) (a3 : gens[g]? = some gs) (a4 : AllBare s.gens → AllBare gens) (a5 : Fr h₀ L h (locsOf [("found", .ref fa)] u)) (a6 : News h₀ L h (own ++ [(G, oG), (fa, listOf (List.toArray fv) c)])) (a7 : IntsAre fv (O.take j))
    (a8 : ∀ p ∈ own, @LE.le Nat _ C p.1 ∧ @Ne Nat p.1 G) (a9 : ∀ s'' : Shared, Keeps h₀ s''.heap → (∀ p ∈ own, s''.heap.get? p.1 = some p.2) → s''.heap.get? G = some oG → goes (O.length - j) gs s'') : DrJ h₀ L C G fa oG g O goes s (8 - j) { s with heap := h, toks := tk, gens := gens } := fun _ q => q j h tk gens gs u own fv c a1 a2 a3 a4 a5 a6 a7 a8 a9
theorem drF {h₀ h h' : Heap} {L C : Addr} {m : Str → Option Value} (F : Fr h₀ L h m) (hL : @LT.lt Nat _ L C) (hk : ∀ b o, @LT.lt Nat _ b C → h.get? b = some o → h'.get? b = some o) : Fr h₀ L h' m :=
  ⟨F.ns.at' fun o e => hk _ o hL e, fun b o e => hk b o (Nat.lt_trans (Nat.lt_of_lt_of_le (Heap.lt_size e) F.above) hL) (F.keep b o e), F.above⟩
abbrev genO (k : Nat) (nm qn : Value) : Obj := { cls := .type "generator", data := .fields #[.int k 0, nm, qn] }
theorem isGen_of {h : Heap} {G : Addr} {oG : Obj} {k : Nat} {nm qn : Value} (e : h.get? G = some oG) (ho : oG = genO k nm qn) : h.IsGen G k := by
  subst ho
  exact ⟨_, nm, qn, e, rfl, rfl, rfl⟩
theorem rebG {P : Shared → Prop} {s s' : Shared} {g : Nat} {gs : GenState} {b0 : Prop} (hg : s'.gens[g]? = some gs) (hb : b0 → AllBare s'.gens) (he : s' = { s with heap := s'.heap, toks := s'.toks, gens := s'.gens })
    (h : ∀ tk gens, gens[g]? = some gs → (b0 → AllBare gens) → P { s with heap := s'.heap, toks := tk, gens := gens }) : P s' := by
  rw [he]; exact h _ _ hg hb
theorem drN {h₀ h h3 : Heap} {L C G I fa : Addr} {oI oC oG oF : Obj} {own : List (Addr × Obj)} (N : News h₀ L h (own ++ [(G, oG), (fa, oF)])) (hz : @LE.le Nat _ h₀.objs.size L) (hL : @LT.lt Nat _ L C) (hf : @LT.lt Nat _ fa C) (hk : ∀ b o, @LT.lt Nat _ b C → h.get? b = some o → h3.get? b = some o)
    (hI : h3.get? I = some oI) (hC : h3.get? C = some oC) (hCI : @LT.lt Nat _ C I) (hG : h3.get? G = some oG) (hCG : @LT.lt Nat _ C G) : News h₀ L h3 [(I, oI), (C, oC), (G, oG), (fa, oF)] := fun p hp => by
  have nn : ∀ b : Nat, @LT.lt Nat _ L b → h₀.get? b = none := fun b hb => Heap.get?_none_of_le (Nat.le_trans hz (Nat.le_of_lt hb))
  (first | (revert p; refine alC ?_ (fun p hp => ?_)) | rcases List.mem_cons.mp hp with rfl | hp)
  · exact ⟨hI, Ne.symm (Nat.ne_of_lt (Nat.lt_trans hL hCI)), nn _ (Nat.lt_trans hL hCI)⟩
  (first | (revert p; refine alC ?_ (fun p hp => ?_)) | rcases List.mem_cons.mp hp with rfl | hp)
  · exact ⟨hC, Ne.symm (Nat.ne_of_lt hL), nn _ hL⟩
  (first | (revert p; refine alC ?_ (fun p hp => ?_)) | rcases List.mem_cons.mp hp with rfl | hp)
  · exact ⟨hG, Ne.symm (Nat.ne_of_lt (Nat.lt_trans hL hCG)), nn _ (Nat.lt_trans hL hCG)⟩
  · rw [List.mem_singleton.mp hp]
    have := N _ (List.mem_append_right _ (List.mem_cons_of_mem _ List.mem_cons_self))
    exact ⟨hk _ _ hf this.1, this.2⟩
theorem len_app {prog : Program} {w : World} {A : Around} {E : Value → Shared → Prop} {s : Shared} {h₀ : Heap} {L : Addr} {news : List (Addr × Obj)} {l : Addr} {vs : List Value} {v : Value} {c : Nat} {Q : Value → Shared → Prop} (N : News h₀ L s.heap news)
    (hm : (l, listOf (List.toArray (vs ++ [v])) c) ∈ news) (hz : vs.length < 1000) (h : ∀ t tk, Q (.int ((vs.length : Int) + 1) t) { s with toks := tk }) : wpAny (model prog w) A (call (.builtin "len") [.ref l]) Q E s := by
  have e : (((vs ++ [v]).toArray.size : Nat) : Int) = (vs.length : Int) + 1 := by simp
  refine _root_.PyProof.Rows.len_list (News.isList N hm) (by rw [e]; lia) ?_
  rw [e]; exact h _ _
section
variable {prog : Program} {w : World} {A : Around} {E : Value → Shared → Prop} {s : Shared}
theorem pyNext_genQ {a : Addr} {g n : Nat} {gs : GenState} {P : Nat → Shared → Shared → Prop} {Y : Protocol} {Q : Option Value → Shared → Prop} (hh : A.handled = none)
    (hl : s.heap.NoLimit) (hroom : A.depth < recursionLimit) (hg : s.heap.IsGen a g) (hgs : s.gens[g]? = some gs)
    (hgo : gs.Goes (model prog w) A.in1 (fun n s₀ r s₁ => r = .ok (.ret .none) ∧ P n s₀ s₁) Y n (.send .none) (s.setGen g .running))
    (hY : ∀ v s₁ gs', gs'.bare = true → Y (n - 1) (s.setGen g .running) v s₁ (fun r' s'' => match n with
        | 0 => False
        | m + 1 => gs'.Goes (model prog w) A.in1 (fun n s₀ r s₁ => r = .ok (.ret .none) ∧ P n s₀ s₁) Y m r' s'') → Q (some v) (s₁.setGen g gs'))
    (hP : ∀ s₁, P n (s.setGen g .running) s₁ → ∀ h', (∀ b o, s₁.heap.get? b = some o → h'.get? b = some o) → Q none { s₁.setGen g .finished with heap := h' }) :
    wpAny (model prog w) A (pyNext (.ref a)) Q E s := by
  unfold pyNext
  refine wpAny_bind (wpAny_attempt (wpAny_callSpecial?_slot (name := Str.ofString "__next__") hg.typeIs slot_gen_next
    (wpAny_call_entry slot_gen_next hg.typeIs entry_gen_next ?_ (args_gen_next _))))
  show wpAny _ _ (Builtin.Generator.genWake (.ref a) (.send .none)) _ _ s
  unfold Builtin.Generator.genWake
  refine wpAny_bind (wpAny_holding (wpAny_genNumber hg (wpAny_bind (wpAny_genState hgs ?_))))
  cases gs with
  | running => exact hgo.elim
  | finished => exact hgo.elim
  | _ =>
    refine wpAny_bind (wpAny_roomToWake hl hroom ?_)
    show wpAny _ _ (.resume g (.send .none) [] _) _ _ s
    refine wpAny_resumeQ hgs hgo (fun x s₁ hx => ?_) (fun v s₁ gs' hb hv => wpAny_pure ⟨v, rfl, wpAny_pure (hY v s₁ gs' hb hv)⟩)
    (refine qE0A2 (hx) fun zqr0 hp => ?_; (try clear hx); subst zqr0)
    show wpAny _ _ (newExc (.type "StopIteration") [] >>= _) _ _ _
    refine wpAny_bind ?_
    simp only [newExc, newTuple]
    refine wpAny_bind (wpAny_newObj_type ?_ (by size_fits))
    refine wpAny_bind (m := firstArgMember _ _) (wpAny_of_eq (a := Value.none) (by first | rfl | (simp only [firstArgMember]; rfl)) ?_)
    refine wpAny_newObj_type ?_ (by size_fits)
    simp only [raiseNew]
    refine wpAny_bind (wpAny_bind (wpAny_handled ?_))
    rw [show A.in1.handled = none from hh]
    refine wpAny_throw ?_
    refine wpAny_bind (wpAny_isInstance (T := "StopIteration") (b := true) ⟨_, Heap.get?_push_size _ rfl, rfl⟩ isSubtype_stop ?_)
    exact wpAny_pure (hP s₁ hp _ fun b o hb => Heap.get?_push_of_some _ (Heap.get?_push_of_some _ hb))
end
noncomputable def GPost (I : Nat → Shared → Prop) (n : Nat) (R : Result → Shared → Prop) (f : Flow) (s₃ : Shared) : Prop :=
  match f with
  | .next | .cont => ∃ m, m < n ∧ I m s₃
  | .brk => R (.ok .next) s₃
  | .ret v => R (.ok (.ret v)) s₃
theorem codeAny_forG {prog : Program} {w : World} {A : Around} {s : Shared} {R : Result → Shared → Prop} {target it body env} (I : Nat → Shared → Prop)
    (turn : ∀ n s, I n s → wpAny (model prog w) A (pyNext it) (fun r s₁ => match r with
      | none => R (.ok .next) s₁
      | some v => wpAny (model prog w) A (assign target env v) (fun _ s₂ => wpAny (model prog w) A (execs body env) (GPost I n R) (notedBy (model prog w) A env fun e s' => R (.error e) s') s₂) (notedBy (model prog w) A env fun e s' => R (.error e) s') s₁) (notedBy (model prog w) A env fun e s' => R (.error e) s') s)
    (n : Nat) (h : I n s) (ht : ∀ v, letOwnedTupleGo target it v = pure ()) : codeAny (model prog w) A (.forLoop target it body [] env) R s := by
  refine codeAny_forLoop I (fun n s hI => wpAny_mono (turn n s hI) (fun r s₁ h₁ => ?_) fun _ _ e => e) n h ht
  cases r with
  | none => exact wpAny_execs_nil h₁
  | some v => exact wpAny_mono h₁ (fun _ s₂ h₂ => wpAny_mono h₂ (fun f s₃ h₃ => by cases f <;> exact h₃) fun _ _ e => e) fun _ _ e => e
end
-- P12
section
set_option maxRecDepth 100000
set_option maxHeartbeats 1000000
theorem iv_eq {zs es : List Int} {q : Int} (hz : Siz zs) (hq : zs.getLast? = some q) : ivsO zs es = ivsL zs q (decide (es = [0, 5])) := by
  unfold ivsO ivsL
  by_cases h : es = [0, 5]
  · rw [if_pos h, decide_eq_true h, if_pos rfl]
    have h1 := hz.lo
    have h2 := hz.hi
    have e : zs.getLastD 0 = q := by rw [List.getLastD_eq_getLast?, hq]; rfl
    rw [e, List.take_append, List.take_replicate, List.take_of_length_le (by lia)]
    congr 2
    lia
  · rw [if_neg h, decide_eq_false h, if_neg (by decide)]
theorem siz_last {zs : List Int} (hz : Siz zs) : ∃ q, zs.getLast? = some q ∧ 1 ≤ q ∧ q ≤ 3 := by
  cases h : zs.getLast? with
  | none =>
    have := List.getLast?_eq_none_iff.mp h
    have h1 := hz.lo
    rw [this] at h1; simp at h1
  | some q => exact ⟨q, rfl, hz.all q (List.mem_of_getLast? h)⟩
theorem end_is {ve : List Value} {es : List Int} (h : IntsAre ve es) (he : es = [0, 5] ∨ es = [127, 5] ∨ es = []) : EndIs ve (decide (es = [0, 5])) := by
  rcases he with rfl | rfl | rfl
  · cases h with | cons _ t r => cases r with | cons _ t2 r => cases r with | nil => exact .inl ⟨t, t2, rfl, rfl⟩
  · cases h with | cons _ t r => cases r with | cons _ t2 r => cases r with | nil => exact .inr (.inl ⟨t, t2, rfl, rfl⟩)
  · cases h with | nil => exact .inr (.inr ⟨rfl, rfl⟩)
theorem ivs_all {zs es : List Int} (hz : Siz zs) : ∀ i ∈ ivsO zs es, 1 ≤ i ∧ i ≤ 3 := by
  (refine qE1A3 (siz_last hz) fun q hq h1 h3 => ?_)
  rw [iv_eq hz hq]
  unfold ivsL
  intro i hi
  split at hi
  · rcases List.mem_append.mp (List.mem_of_mem_take hi) with hi | hi
    · exact hz.all i hi
    · rw [(List.mem_replicate.mp hi).2]; exact ⟨h1, h3⟩
  · exact hz.all i hi
theorem ivs_len {zs es : List Int} (hz : Siz zs) : (ivsO zs es).length ≤ 7 := by
  have h2 := hz.hi
  unfold ivsO
  split
  · rw [List.length_append, List.length_replicate]; lia
  · lia
theorem last_at {zs : List Int} {q : Int} (hq : zs.getLast? = some q) (h1 : 1 ≤ zs.length) : zs.getD (-1 + (zs.length : Int)).toNat 0 = q := by
  rw [List.getLast?_eq_getElem?] at hq
  have e : (-1 + (zs.length : Int)).toNat = zs.length - 1 := by (exact ar21)
  rw [e, List.getD_eq_getElem?_getD, hq]; rfl
theorem iv_test {zs es : List Int} (hz : Siz zs) (he : es = [0, 5]) : ivsO zs es = List.take 7 (zs ++ (List.replicate 6 [zs.getD (-1 + (zs.length : Int)).toNat 0]).flatten) := by
  (refine qE1A2 (siz_last hz) fun q hq _ => ?_)
  rw [iv_eq hz hq, last_at hq hz.lo, decide_eq_true he]
  unfold ivsL
  rw [if_pos rfl]
  congr 2
theorem iv_test2 {zs es ms : List Int} (he : es ≠ [0, 5]) : ivsO zs es = List.take ((zs.length : Int)).toNat (zs ++ ms) := by
  rw [Int.toNat_natCast]
  unfold ivsO
  rw [if_neg he, List.take_left]
theorem iv_test3 {zs es : List Int} (hz : Siz zs) : ivsO zs es = List.take (if es = [0, 5] then (7 : Int) else (zs.length : Int)).toNat (zs ++ (List.replicate (Int.toNat 6) [zs.getD (-1 + (zs.length : Int)).toNat 0]).flatten) := by
  split
  · rename_i h; exact iv_test hz h
  · rename_i h; exact iv_test2 h
end
-- G3
section
set_option maxRecDepth 100000
set_option maxHeartbeats 1000000
section
variable {w : World} {d u : Nat} {f : Option (List Env)} {g : Option (List Code)} {s : Shared} {E Q : Value → Shared → Prop} {mean : ExcName → Option Value} {mg mb : Str → Option Value}

theorem gen_ {h₀ : Heap} {l : Addr} {vs : List Value} {zs es : List Int} (X : (Mine.hd.heap_39 w.params).In h₀) (T : Top Mine.hd.view_39 (looseW Mine.hd.view_39 []) mean mg mb h₀) (hA2 : d < 390) (hks : Keeps h₀ s.heap) (hsz : h₀.objs.size ≤ s.heap.objs.size)
  (hl : h₀.IsList l vs.toArray) (hi : IntsAre vs (zs ++ es)) (hz : Siz zs) (he : es = [0, 5] ∨ es = [127, 5] ∨ es = [])
  (hQ : ∀ h₁ C oC tk nm qn gs, gs.bare = true → Keeps s.heap h₁ → h₁.get? C = some oC → s.heap.objs.size ≤ C → (∃ e p, oC.data = .dict e p) → (∀ A' s'', A'.handled = none → A'.depth ≤ 380 → Keeps h₀ s''.heap → s''.heap.get? C = some oC → s''.heap.get? h₁.objs.size = some (genO s.gens.size nm qn) → gs.Goes (model Challenge.rw_pd0146_01.row.prog w) A' (GR C h₁.objs.size (genO s.gens.size nm qn)) (GY h₀ C h₁.objs.size (genO s.gens.size nm qn) (ivsO zs es) (decide (es ≠ [0, 5]))) (ivsO zs es).length (.send .none) s'') →
    Q (.ref h₁.objs.size) { s with gens := s.gens.push gs, toks := tk, heap := h₁.push (genO s.gens.size nm qn) }) :
  wpAny (model Challenge.rw_pd0146_01.row.prog w) (Around.mk none d f g u) (call (.ref 56) [.ref l]) Q E s := by
  refine' enterG (binds := [("grouping", .ref l)]) (X.keeps hks) (T.nolimit.keeps hks) ?k6 ?k7 (Nat.lt_trans hA2 (by decide)) (BindsTo.of_eq ?k8) ?k9 ?_ ?c1 ?c2 ?c3 ?c4
  (((case k6 => k_is); (case k7 => k_is); (case k8 => rfl); (case k9 => exact locs (by rfl)); (case c1 => rfl); (case c2 => rfl); (case c3 => rfl); (case c4 => decide)))
  intro h₁ C tk nm qn F hC hk₁
  (refine qE3A3 (F.ns) fun oC eC pC hC1 hC2 hC3 => ?_)
  have habove : h₀.objs.size ≤ C := Nat.le_trans hsz F.above
  refine hQ h₁ C oC tk nm qn _ rfl hk₁ hC1 F.above ⟨_, _, hC2⟩ ?_
  generalize hG : h₁.objs.size = G
  have hCG : @LT.lt Nat _ C G := by rw [← hG]; exact Heap.lt_size hC1
  generalize genO s.gens.size nm qn = oG
  intro A' s'' hh hd hk hCs hGs
  refine ⟨rfl, seg_func ?_⟩
  refine seg_execs_cons (seg_stmt ?_)
  have hkg : Keeps h₀ (cutH s''.heap C) := cutH_keeps hk habove
  have F0 : Fr (cutH s''.heap C) C s''.heap (fun y => List.lookup y [(Str.ofString "grouping", Value.ref l)].reverse) := ⟨⟨oC, eC, pC, hCs, hC2, hC3⟩, fun b o e => (cutH_of e).2, cutH_size _ _⟩
  have N0 : News (cutH s''.heap C) C s''.heap [(G, oG)] := fun p hp => by
    rw [List.mem_singleton.mp hp]
    exact ⟨hGs, Ne.symm (Nat.ne_of_lt hCG), cutH_none _ (Nat.le_of_lt hCG)⟩
  have Xg := X.keeps hkg
  have Tg := T.keeps (h' := cutH s''.heap C) hkg
  (revert Tg; revert Xg; revert N0; revert F0; revert habove; revert hCG; revert hkg; revert hk; revert hd; revert hh; revert he; revert hz; revert hi; revert hl; revert T; revert X; kjx_bare; (try law_clear); intro X T hl hi hz he hh hd hk hkg hCG habove F0 N0 Xg Tg)
  ((refine wpAny_loose (d := 390) (u := _) (by assumption) (Nat.le_trans (Nat.add_le_add (Nat.add_le_add_right (by assumption) _) (Nat.le_refl _)) (Nat.le_of_ble_eq_true rfl)) (Nat.le_refl _) ?_))
  k_steps
  dsimp only
  refine seg_execs_cons (seg_For ?_ (by intro _; rfl))
  ((refine wpAny_loose (d := 390) (u := _) (by assumption) (Nat.le_trans (Nat.add_le_add (Nat.add_le_add_right (by assumption) _) (Nat.le_refl _)) (Nat.le_of_ble_eq_true rfl)) (Nat.le_refl _) ?_))
  k_steps
  (rename Heap => H1)
  (rename Fr _ _ _ _ => kF)
  (rename News _ _ _ _ => kN)
  have hl' := (hl.at fun o e => kF.keep _ _ (hkg _ _ e))
  refine wpAny_pyIter_list hl' ?_
  intro p
  have hCI : @LT.lt Nat _ C H1.objs.size := kF.ns.lt
  have hGI : @Ne Nat H1.objs.size G := (Nat.ne_of_lt (Heap.lt_size (kN _ List.mem_cons_self).1)).symm
  have N1 := kN.push kF { cls := .type "list_iterator", data := .fields #[.ref l, .int 0 0] }
  have F1 := kF.push { cls := .type "list_iterator", data := .fields #[.ref l, .int 0 0] }
  have hit1 : (H1.push { cls := .type "list_iterator", data := .fields #[.ref l, .int 0 0] }).IsListIter H1.objs.size l 0 := ⟨_, Heap.get?_push_size _ rfl, rfl, rfl⟩
  dsimp only
  generalize H1.push { cls := .type "list_iterator", data := .fields #[.ref l, .int 0 0] } = H2 at N1 F1 hit1 ⊢
  generalize H1.objs.size = I at hCI hGI N1 hit1 ⊢
  refine seg_ind (n := (ivsO zs es).length) (GSt h₀ C G oG l I zs) (zs.length + 1) ?turn 0 _ _ (Nat.succ_pos _) ?st0
  case st0 =>
    exact GSt.mk (v := .none) hk (toLocs F1 (by refine ⟨?_, trivial⟩; with_unfolding_all rfl)) N1 hit1 hCI hGI (.inl ⟨rfl, rfl⟩)
  clear F1 N1 hit1 hk hkg Xg Tg kF kN hl'
  intro i s₀ s1 hi1 hst next
  apply hst
  clear hst
  intro h tk u v oI hk0 F N hit _ _ hlv
  have hkg := cutH_keeps hk0 habove
  have Xg := X.keeps hkg
  have Tg := T.keeps (h' := cutH s₀.heap C) hkg
  have hl' : h.IsList l vs.toArray := hl.at fun o e => F.keep _ _ (hkg _ _ e)
  by_cases hlt : i < zs.length
  · have zqb : ∃ q tq, vs[i]? = some (.int q tq) ∧ zs[i]? = some q := by
      rcases ints_get hi i with ⟨_, e⟩ | ⟨q, tq, e1, e2⟩
      · rw [List.getElem?_append_left hlt, List.getElem?_eq_none_iff] at e; lia
      · rw [List.getElem?_append_left hlt] at e2; exact ⟨q, tq, e1, e2⟩
    (refine qE2A2 zqb fun q tq hq hzq => ?_; clear zqb)
    have hq1 := hz.all q (List.mem_of_getElem? hzq)
    refine seg_forLoop (wpAny_pyNext_list_item hit hl' (x := .int q tq) (by simpa using hq) ?_) (by intro _; rfl)
    intro h' hit' hs'
    have F' : Fr (cutH s₀.heap C) C h' (locsOf [("last_interval", v)] u) := ⟨F.ns.sameBut hs' (Nat.ne_of_lt hCI), fun b o e => (hs'.2 b (Nat.ne_of_lt (Nat.lt_trans (cutH_of e).1 hCI))).trans (F.keep b o e), F.above⟩
    refine wpAny_assign_Name (wpAny_storeName_local rfl F'.ns (fun h₂ hn₂ hs₂ => ?_) rfl)
    (refine qE1A3 (id hit') fun oI' e1 e2 e3 => ?_)
    have N' := nextN N hs' e1 hGI
    have F₂ := F'.set hn₂ hs₂
    have N₂ := N'.set hs₂
    have hit₂ : h₂.IsListIter I l (i + 1) := ⟨oI', (hs₂.2 I (Ne.symm (Nat.ne_of_lt hCI))).trans e1, e2, e3⟩
    clear F' N' F N hit hit' e1 hn₂ hs₂ hs' hl' hq
    refine seg_execs_cons (seg_If ?_)
    ((refine wpAny_loose (d := 390) (u := _) (by assumption) (Nat.le_trans (Nat.add_le_add (Nat.add_le_add_right (by assumption) _) (Nat.le_refl _)) (Nat.le_of_ble_eq_true rfl)) (Nat.le_refl _) ?_))
    k_steps
    refine segF (beq_eq_false_iff_ne.mpr (by lia)) (seg_execs_nil ?_)
    dsimp only
    refine seg_execs_cons (seg_If ?_)
    ((refine wpAny_loose (d := 390) (u := _) (by assumption) (Nat.le_trans (Nat.add_le_add (Nat.add_le_add_right (by assumption) _) (Nat.le_refl _)) (Nat.le_of_ble_eq_true rfl)) (Nat.le_refl _) ?_))
    k_steps
    refine segF (beq_eq_false_iff_ne.mpr (by lia)) (seg_execs_nil ?_)
    dsimp only
    have hn1 : (ivsO zs es).length - i = ((ivsO zs es).length - (i + 1)) + 1 := by have := ivsO_ge zs es; (with_reducible refine ar3 ?_; lia)
    rw [hn1]
    refine seg_execs_cons (seg_Expr_Yield rfl rfl rfl ?_)
    ((refine wpAny_loose (d := 390) (u := _) (by assumption) (Nat.le_trans (Nat.add_le_add (Nat.add_le_add_right (by assumption) _) (Nat.le_refl _)) (Nat.le_of_ble_eq_true rfl)) (Nat.le_refl _) ?_))
    k_steps
    rename_i kap hkap
    (refine qE3A3 (F₂.ns) fun oC eC pC hC1 hC2 hC3 => ?_)
    refine ⟨⟨q, tq, ?_, rfl⟩, sinceOf F₂ N₂, I, oI', oC, (N₂ _ List.mem_cons_self).1, hC1, hCI, hGI, fun _ s'' hk'' hI'' hC'' hG'' => hkap .none s'' ?_⟩
    · rw [← hzq, ← ivsO_at (es := es) hlt]
      have := ivsO_ge zs es
      congr 1
      (with_reducible exact arS ‹_›)
    have F₃ := wakeF F₂ hC1 hC''
    have N₃ := wakeN hI'' hG'' hCI hCG
    have hkg := cutH_keeps hk'' habove
    have Xg := X.keeps hkg
    have Tg := T.keeps (h' := cutH s''.heap C) hkg
    clear F₂ N₂ hC1 hC2 hC3 hk0
    dsimp only
    refine seg_execs_cons (seg_stmt ?_)
    ((refine wpAny_loose (d := 390) (u := _) (by assumption) (Nat.le_trans (Nat.add_le_add (Nat.add_le_add_right (by assumption) _) (Nat.le_refl _)) (Nat.le_of_ble_eq_true rfl)) (Nat.le_refl _) ?_))
    k_steps
    refine seg_execs_nil ?_
    dsimp only
    refine seg_again rfl (next (by lia) _ _ (GSt.mk (v := .int q tq) (oI := oI') hk'' (toLocs (by assumption) (by refine ⟨?_, trivial⟩; with_unfolding_all rfl)) (by assumption) ⟨oI', (News.get (by assumption) (by k_mem)), e2, e3⟩ hCI hGI (.inr ⟨q, tq, Nat.succ_pos _, by rw [Nat.add_sub_cancel]; exact hzq, rfl⟩)))
  · have hie : i = zs.length := by lia
    subst hie
    clear hlt hi1 next
    have hv : ∃ q t, v = .int q t ∧ zs.getLastD 0 = q := by
      rcases hlv with ⟨h0, _⟩ | ⟨q, t, h0, h1, h2⟩
      · have := hz.lo; lia
      · refine ⟨q, t, h2, ?_⟩
        rw [List.getLastD_eq_getLast?, List.getLast?_eq_getElem?, h1]; rfl
    (refine qE2A2 (hv) fun ql tl zqr2 hql => ?_; (try clear hv); subst zqr2)
    rcases he with rfl | rfl | rfl
    · have zqb : ∃ tq, vs[zs.length]? = some (.int 0 tq) := by
        rcases ints_get hi zs.length with ⟨_, e⟩ | ⟨q, tq, e1, e2⟩
        · simp at e
        · simp at e2; subst e2; exact ⟨tq, e1⟩
      (refine qE1A1 zqb fun tq hq => ?_; clear zqb)
      refine seg_forLoop (wpAny_pyNext_list_item hit hl' (x := .int 0 tq) (by simpa using hq) ?_) (by intro _; rfl)
      intro h' hit' hs'
      have F' : Fr (cutH s₀.heap C) C h' (locsOf [("last_interval", .int ql tl)] u) := ⟨F.ns.sameBut hs' (Nat.ne_of_lt hCI), fun b o e => (hs'.2 b (Nat.ne_of_lt (Nat.lt_trans (cutH_of e).1 hCI))).trans (F.keep b o e), F.above⟩
      refine wpAny_assign_Name (wpAny_storeName_local rfl F'.ns (fun h₂ hn₂ hs₂ => ?_) rfl)
      (refine qE1A3 (id hit') fun oI' e1 e2 e3 => ?_)
      have N' := nextN N hs' e1 hGI
      have F₂ := F'.set hn₂ hs₂
      have N₂ := N'.set hs₂
      clear F' N' F N hit hit' e1 hn₂ hs₂ hs' hl' hq
      refine seg_execs_cons (seg_If ?_)
      ((refine wpAny_loose (d := 390) (u := _) (by assumption) (Nat.le_trans (Nat.add_le_add (Nat.add_le_add_right (by assumption) _) (Nat.le_refl _)) (Nat.le_of_ble_eq_true rfl)) (Nat.le_refl _) ?_))
      k_steps
      refine segF (by decide) (seg_execs_nil ?_)
      dsimp only
      refine seg_execs_cons (seg_If ?_)
      ((refine wpAny_loose (d := 390) (u := _) (by assumption) (Nat.le_trans (Nat.add_le_add (Nat.add_le_add_right (by assumption) _) (Nat.le_refl _)) (Nat.le_of_ble_eq_true rfl)) (Nat.le_refl _) ?_))
      k_steps
      refine segT (by decide) (seg_execs_cons (seg_If ?_))
      ((refine wpAny_loose (d := 390) (u := _) (by assumption) (Nat.le_trans (Nat.add_le_add (Nat.add_le_add_right (by assumption) _) (Nat.le_refl _)) (Nat.le_of_ble_eq_true rfl)) (Nat.le_refl _) ?_))
      k_steps
      refine segF (by rfl) (seg_execs_nil ?_)
      dsimp only
      refine seg_execs_cons (seg_While ?_)
      intro p2
      have hO := ivsO_len (zs := zs) (by have := hz.hi; lia)
      rw [show (ivsO zs [0, 5]).length - zs.length = 7 - zs.length from by rw [hO]]
      refine seg_ind (n := 7) (fun i s₀' s' => zs.length ≤ i ∧ WSt h₀ C G oG I ql s₀' s') 7 ?wturn zs.length _ _ (by have := hz.hi; lia) ?wst0
      case wst0 => exact ⟨Nat.le_refl _, WSt.mk (t := tl) (oI := oI') hk0 (toLocs (by assumption) (by refine ⟨?_, trivial⟩; with_unfolding_all rfl)) (by assumption)⟩
      clear F₂ N₂ hk0 hkg Xg Tg e2 e3
      (intro i s₁ s1 hi1; intro zqi; refine qE0A2 zqi fun hzi J9 => ?_; clear zqi; intro next)
      apply J9
      clear J9
      intro h tk u t oI hk0 F N
      have hkg := cutH_keeps hk0 habove
      have Xg := X.keeps hkg
      have Tg := T.keeps (h' := cutH s₁.heap C) hkg
      refine seg_whileLoop ?_
      ((refine wpAny_loose (d := 390) (u := _) (by assumption) (Nat.le_trans (Nat.add_le_add (Nat.add_le_add_right (by assumption) _) (Nat.le_refl _)) (Nat.le_of_ble_eq_true rfl)) (Nat.le_refl _) ?_))
      k_steps
      have hn1 : 7 - i = (7 - (i + 1)) + 1 := by (with_reducible refine ar3 ?_; lia)
      rw [hn1]
      refine seg_execs_cons (seg_Expr_Yield rfl rfl rfl ?_)
      ((refine wpAny_loose (d := 390) (u := _) (by assumption) (Nat.le_trans (Nat.add_le_add (Nat.add_le_add_right (by assumption) _) (Nat.le_refl _)) (Nat.le_of_ble_eq_true rfl)) (Nat.le_refl _) ?_))
      k_steps
      rename_i kap hkap
      (refine qE3A3 (F.ns) fun oC eC pC hC1 hC2 hC3 => ?_)
      refine ⟨⟨ql, t, ?_, rfl⟩, sinceOf F N, I, oI, oC, (N _ List.mem_cons_self).1, hC1, hCI, hGI, fun hm s'' hk'' hI'' hC'' hG'' => hkap .none s'' ?_⟩
      · rw [hO, ← hql]
        exact ivsO_more (by (with_reducible exact ar37 ‹_› ‹_›)) (by lia)
      have hi2 : i + 1 < 7 := by
        rcases hm with hm | hm
        · lia
        · simp at hm
      have F₃ := wakeF F hC1 hC''
      have N₃ := wakeN hI'' hG'' hCI hCG
      dsimp only
      refine seg_execs_nil ?_
      dsimp only
      exact seg_again rfl (next hi2 _ _ ⟨by lia, WSt.mk (t := t) (oI := oI) hk'' (toLocs F₃ (by refine ⟨?_, trivial⟩; with_unfolding_all rfl)) N₃⟩)
    · have zqb : ∃ tq, vs[zs.length]? = some (.int 127 tq) := by
        rcases ints_get hi zs.length with ⟨_, e⟩ | ⟨q, tq, e1, e2⟩
        · simp at e
        · simp at e2; subst e2; exact ⟨tq, e1⟩
      (refine qE1A1 zqb fun tq hq => ?_; clear zqb)
      refine seg_forLoop (wpAny_pyNext_list_item hit hl' (x := .int 127 tq) (by simpa using hq) ?_) (by intro _; rfl)
      intro h' hit' hs'
      have F' : Fr (cutH s₀.heap C) C h' (locsOf [("last_interval", .int ql tl)] u) := ⟨F.ns.sameBut hs' (Nat.ne_of_lt hCI), fun b o e => (hs'.2 b (Nat.ne_of_lt (Nat.lt_trans (cutH_of e).1 hCI))).trans (F.keep b o e), F.above⟩
      refine wpAny_assign_Name (wpAny_storeName_local rfl F'.ns (fun h₂ hn₂ hs₂ => ?_) rfl)
      (refine qE1A3 (id hit') fun oI' e1 e2 e3 => ?_)
      have N' := nextN N hs' e1 hGI
      have F₂ := F'.set hn₂ hs₂
      have N₂ := N'.set hs₂
      clear F' N' F N hit hit' e1 hn₂ hs₂ hs' hl' hq
      refine seg_execs_cons (seg_If ?_)
      ((refine wpAny_loose (d := 390) (u := _) (by assumption) (Nat.le_trans (Nat.add_le_add (Nat.add_le_add_right (by assumption) _) (Nat.le_refl _)) (Nat.le_of_ble_eq_true rfl)) (Nat.le_refl _) ?_))
      k_steps
      refine segT (by decide) (seg_execs_cons (seg_stmt ?_))
      ((refine wpAny_loose (d := 390) (u := _) (by assumption) (Nat.le_trans (Nat.add_le_add (Nat.add_le_add_right (by assumption) _) (Nat.le_refl _)) (Nat.le_of_ble_eq_true rfl)) (Nat.le_refl _) ?_))
      k_steps
      dsimp only
      refine seg_leaf (.ok (.ret .none)) ?_
      exact seg_end (.ok (.ret .none)) ⟨rfl, by simp [ivsO], sinceOf F₂ N₂⟩
    · refine seg_forLoop (wpAny_pyNext_list_end hh hit hl' (by rw [List.append_nil] at hi; rw [Array.getElem?_eq_none_iff, List.size_toArray, hi.length]; exact Nat.le_refl _) ?_) (by intro _; rfl)
      intro h' hk'
      dsimp only
      refine seg_block_nil ?_
      refine seg_end (.ok (.ret .none)) ⟨rfl, by simp [ivsO], h', _, rfl, fun b o hb e => hk' b o (Nat.ne_of_lt (Nat.lt_trans hb hCI)) (F.keep b o (by rw [cutH_get hb]; exact e)), hk' _ _ (Ne.symm hGI) (N _ (List.mem_cons_of_mem _ List.mem_cons_self)).1⟩
end
end
-- G4
section
set_option maxRecDepth 100000
set_option maxHeartbeats 1000000
section
variable {w : World} {d u : Nat} {f : Option (List Env)} {g : Option (List Code)} {s : Shared} {E Q : Value → Shared → Prop} {mean : ExcName → Option Value} {mg mb : Str → Option Value}

theorem drawn_ {l : Addr} {vs : List Value} {zs es : List Int} (X : (Mine.hd.heap_39 w.params).In s.heap) (T : Top Mine.hd.view_39 (looseW Mine.hd.view_39 []) mean mg mb s.heap) (hA2 : d < 360)
  (hl : s.heap.IsList l vs.toArray) (hi : IntsAre vs (zs ++ es)) (hz : Siz zs) (he : es = [0, 5] ∨ es = [127, 5] ∨ es = [])
  (hQ : ∀ h' tk gs r vs' n, (AllBare s.gens → AllBare gs) → Keeps s.heap h' → s.heap.get? r = none → h'.get? r = some (listOf (List.toArray vs') n) → IntsAre vs' (ivsO zs es) → Q (.ref r) {s with heap := h', toks := tk, gens := gs}) :
  wpAny (model Challenge.rw_pd0146_01.row.prog w) (Around.mk none d f g u) (call (.ref 174) [.ref l]) Q E s := by
  refine' enterC (binds := [("row", .ref l)]) X T.nolimit ?k6 ?k7 (Nat.lt_trans hA2 (by decide)) (BindsTo.of_eq ?k8) ?k9 ?_ ?c1 ?c2 ?c3 ?c4
  (((case k6 => k_is); (case k7 => k_is); (case k8 => rfl); (case k9 => exact locs (by rfl)); (case c1 => rfl); (case c2 => rfl); (case c3 => rfl); (case c4 => decide)))
  intro h₁ L' F N
  refine wpAny_noRaise ?_
  (repeat' (first | (k_unfold; (try dsimp only)) | (k_end; kc_close) | (k_here; (with_reducible show wpAny _ _ (exec (PySem.Stmt.For (PySem.Expr.Name _ _) (PySem.Expr.Call _ _ _ _) (_ :: _) [] _) _) _ _ _); refine stopHere ?_) | walk1 | (dsimp only; walk1) | (leave1; (try dsimp only))))
  unfold Stop
  refine wpAny_For ?_
  (repeat' (first | (k_unfold; (try dsimp only)) | (k_end; kc_close) | (k_here; (with_reducible show wpAny _ _ (call (Value.ref 56) [Value.ref _]) _ _ _); refine stopHere ?_) | walk1 | (dsimp only; walk1) | (leave1; (try dsimp only))))
  unfold Stop
  (rename Fr _ _ _ _ => kF)
  (rename News _ _ _ _ => kN)
  rename_i _ fa _ _ h2
  refine gen_ (h₀ := s.heap) (zs := zs) (es := es) X T ?dd kF.keep ?ssz hl hi hz he ?_
  (case dd => (first | omega | (dsimp only; omega) | (simp only [depth_deeper, depth_in1, depth_caller, Around.deeper]; omega) | (simp [Around.deeper]; omega)))
  (case ssz => exact Nat.le_trans kF.above (Nat.le_of_lt kF.ns.lt))
  intro h₂ C oC tk nm qn gs hgb hk₂ hC hsz hdict hgo
  have hfC : @LT.lt Nat _ fa C := Nat.lt_of_lt_of_le (Heap.lt_size (kN _ List.mem_cons_self).1) hsz
  have hLC : @LT.lt Nat _ L' C := Nat.lt_of_lt_of_le kF.ns.lt hsz
  have hO7 : (ivsO zs es).length ≤ 7 := by
    have := hz.hi
    unfold ivsO; split
    · rw [List.length_append, List.length_replicate]; lia
    · lia
  have hOm : es = [0, 5] → (ivsO zs es).length = 7 := fun e => by rw [e]; exact ivsO_len (by have := hz.hi; lia)
  generalize hOe : ivsO zs es = O at hgo hO7 hOm hQ
  clear hOe
  have hCG : @LT.lt Nat _ C h₂.objs.size := Heap.lt_size hC
  have F2 : Fr s.heap L' (h₂.push (genO s.gens.size nm qn)) _ := (Fr.grow kF hk₂).push _
  have N2 : News s.heap L' (h₂.push (genO s.gens.size nm qn)) ([(C, oC)] ++ [(h₂.objs.size, genO s.gens.size nm qn), (fa, listOf (List.toArray []) 0)]) := fun p hp => by
    (first | (revert p; refine alC ?_ (fun p hp => ?_)) | rcases List.mem_cons.mp hp with rfl | hp)
    · exact ⟨Heap.get?_push_of_some _ hC, Ne.symm (Nat.ne_of_lt hLC), Heap.get?_none_of_le (Nat.le_trans kF.above (Nat.le_of_lt hLC))⟩
    (first | (revert p; refine alC ?_ (fun p hp => ?_)) | rcases List.mem_cons.mp hp with rfl | hp)
    · exact ⟨Heap.get?_push_size _ rfl, Ne.symm (Nat.ne_of_lt (Nat.lt_trans hLC hCG)), Heap.get?_none_of_le (Nat.le_trans kF.above (Nat.le_of_lt (Nat.lt_trans hLC hCG)))⟩
    · rw [List.mem_singleton.mp hp]
      have := kN _ List.mem_cons_self
      exact ⟨Heap.get?_push_of_some _ (hk₂ _ _ this.1), this.2⟩
  refine wpAny_pyIter_gen (g := s.gens.size) ⟨genO s.gens.size nm qn, nm, qn, Heap.get?_push_size _ rfl, rfl, rfl, rfl⟩ ?_
  have hgs0 : (s.gens.push gs)[s.gens.size]? = some gs := Array.getElem?_push_size ..
  have hgo0 := hgo
  refine codeAny_forG (DrJ s.heap L' C h₂.objs.size fa (genO s.gens.size nm qn) s.gens.size O (fun n gs s'' => gs.Goes (model Challenge.rw_pd0146_01.row.prog w) ((Around.mk none 370 none none (u + 100)).in1) (GR C h₂.objs.size (genO s.gens.size nm qn)) (GY s.heap C h₂.objs.size (genO s.gens.size nm qn) O (decide (es ≠ [0, 5]))) n (.send .none) s'') s) ?dturn 8 ?dst0 (by intro _; rfl)
  case dst0 =>
    refine DrJ.mk (j := 0) (gs := gs) (own := [(C, oC)]) (fv := []) (c := 0) (Nat.zero_le _) (by decide) hgs0 (fun hb => hb.push hgb) (toLocs F2 (by refine ⟨?_, trivial⟩; with_unfolding_all rfl)) N2 IntsAre.nil ?_ (fun s'' hk hown hG => ?_)
    · intro p hp
      rw [List.mem_singleton.mp hp]
      exact ⟨Nat.le_refl _, Nat.ne_of_lt hCG⟩
    · exact hgo _ s'' rfl (Nat.le_of_ble_eq_true rfl) hk (hown _ List.mem_cons_self) hG
  clear F2 N2 hgs0 hgo hgo0 hk₂ hC kF kN
  generalize h₂.objs.size = G at *
  (refine qE1A1 (show ∃ oG, oG = genO s.gens.size nm qn from ⟨_, rfl⟩) fun oG hoG => ?_)
  rw [← hoG]
  intro k s' J9
  apply J9
  clear J9
  intro j h tk1 gens gs1 u1 own fv c hj1 hj2 hgs hbs F N hI hown hgo
  refine wpAny_loose (d := 370) (u := u + 100) rfl (by (first | omega | (dsimp only; omega) | (simp only [depth_deeper, depth_in1, depth_caller, Around.deeper]; omega) | (simp [Around.deeper]; omega))) (by (first | exact Nat.le_of_ble_eq_true rfl | ((try simp only [units_deeper, units_in1, cLine_is]); omega) | ((try simp only [units_deeper, units_in1, cLine_is]); dsimp only; omega))) ?_
  have hlim : h.NoLimit := T.nolimit.keeps F.keep
  have hgen := N _ (List.mem_append_right _ List.mem_cons_self)
  have hgo' := hgo (({ s with heap := h, toks := tk1, gens := gens } : Shared).setGen s.gens.size .running) F.keep (fun p hp => (N _ (List.mem_append_left _ hp)).1) hgen.1
  by_cases hjO : j < O.length
  · (refine qE1A1 (show ∃ m, O.length - j = m + 1 from ⟨O.length - j - 1, by (with_reducible refine ar4 ?_; lia)⟩) fun m hm => ?_)
    rw [hm] at hgo'
    refine pyNext_genQ (P := fun n s₀ s₁ => n = 0 ∧ GSince C G oG s₀ s₁) (n := m + 1) rfl hlim (Nat.lt_of_le_of_lt (show _ ≤ 370 from Nat.le_refl _) (by decide)) (isGen_of hgen.1 hoG) hgs hgo' ?_ ?_
    · rintro v s₁ gs' hgb' ⟨⟨q, t, hq, rfl⟩, ⟨h3, tk3, rfl, hk3, hG3⟩, I, oI, oC, hI1, hC1, hCI, hGI, hgo3⟩
      have hk3' : ∀ b o, @LT.lt Nat _ b C → h.get? b = some o → h3.get? b = some o := hk3
      have F3 := drF F hLC hk3'
      have N3 := drN N F.above hLC hfC hk3' hI1 hC1 hCI hG3 hCG
      have hfl : fv.length = j := by rw [hI.length, List.length_take]; lia
      have hq' : O[j]? = some q := by rw [← hq]; congr 1; (with_reducible exact ar38 ‹_›)
      have hI' : IntsAre (fv ++ [.int q t]) (O.take (j + 1)) := by
        rw [List.take_add_one, hq']; exact hI.append (IntsAre.cons _ _ IntsAre.nil)
      dsimp only
      refine wpAny_assign_Name (wpAny_storeName_local rfl F3.ns (fun h4 hn4 hs4 => ?_) rfl)
      have F4 := F3.set hn4 hs4
      have N4 := N3.set hs4
      refine rebG (P := fun s' => wpAny _ _ _ _ _ s') (s := s) (g := s.gens.size) (gs := gs') (setGen_get (setGen_get hgs)) (fun hb => bare_set (bare_set (hbs hb) rfl) hgb') rfl ?_
      dsimp only
      intro tk5 gens5 hgs5 hbs5
      have n1 : @Ne Nat fa I := Nat.ne_of_lt (Nat.lt_trans hfC hCI)
      have n2 : @Ne Nat fa C := Nat.ne_of_lt hfC
      have n3 : @Ne Nat fa G := Nat.ne_of_lt (Nat.lt_trans hfC hCG)
      (revert hCG; revert hGI; revert hCI; revert hm; revert hgo3; revert n3; revert n2; revert n1; revert N4; revert F4; revert hbs5; revert hgs5; revert hj2; revert hI'; revert hfl; revert hO7; revert hOm; revert hQ; revert hA2; revert T; revert X; kjx_bare; (try law_clear); intro X T hA2 hQ hOm hO7 hfl hI' hj2 hgs5 hbs5 F4 N4 n1 n2 n3 hgo3 hm hCI hGI hCG)
      (repeat' (first | (k_unfold; (try dsimp only)) | (k_end; kc_close) | (k_here; (with_reducible show wpAny _ _ (call (Value.builtin "len") [Value.ref _]) _ _ _); k_dflt (refine' len_app (by k_asm) (by k_mem) (by omega) ?_); intro zrtq zrtkq) | walk1 | (dsimp only; walk1) | (leave1; (try dsimp only))))
      · (rename (_ : Int) = 7 => h6)
        dsimp only [GPost]
        k_steps
        have hj : O.take (j + 1) = O := List.take_of_length_le (by lia)
        rw [hj] at hI'
        exact hQ _ _ _ _ _ _ hbs5 (Fr.keep (by assumption)) (News.fresh (by assumption) (by k_mem)) (News.get (by assumption) (by k_mem)) hI'
      · (rename (_ : Int) ≠ 7 => h6)
        dsimp only [GPost]
        refine ⟨8 - (j + 1), by (with_reducible refine ar1 ?_; lia), DrJ.mk (j := j + 1) (gs := gs') (own := [(I, oI), (C, oC)]) (by lia) (by lia) hgs5 hbs5 (toLocs (by assumption) (by refine ⟨?_, trivial⟩; with_unfolding_all rfl)) (by assumption) hI' ?_ (fun s'' hk hown hG => ?_)⟩
        · intro p hp
          (first | (revert p; refine alC ?_ (fun p hp => ?_)) | rcases List.mem_cons.mp hp with rfl | hp)
          · exact ⟨Nat.le_of_lt hCI, hGI⟩
          · rw [List.mem_singleton.mp hp]
            exact ⟨Nat.le_refl _, Nat.ne_of_lt hCG⟩
        · have e : O.length - (j + 1) = m := by (with_reducible exact ar2 ‹_›)
          rw [e]
          refine hgo3 ?_ s'' hk (hown _ List.mem_cons_self) (hown _ (List.mem_cons_of_mem _ List.mem_cons_self)) hG
          by_cases h0 : es = [0, 5]
          · left
            have := hOm h0
            lia
          · right; simpa using h0
    · (intro s₁; intro zqi; refine qE0A2 zqi fun e _ => ?_; clear zqi)
      lia
  · have hjO' : j = O.length := by lia
    have hm : O.length - j = 0 := by (with_reducible exact ar7 ‹_›)
    rw [hm] at hgo'
    have hmore : es ≠ [0, 5] := fun e => by have := hOm e; lia
    refine pyNext_genQ (P := fun n s₀ s₁ => n = 0 ∧ GSince C G oG s₀ s₁) (n := 0) rfl hlim (Nat.lt_of_le_of_lt (show _ ≤ 370 from Nat.le_refl _) (by decide)) (isGen_of hgen.1 hoG) hgs hgo' ?_ ?_
    · rintro v s₁ gs' _ ⟨_, ⟨h3, tk3, rfl, hk3, hG3⟩, I, oI, oC, hI1, hC1, hCI, hGI, hgo3⟩
      exact (hgo3 (.inr (by simpa using hmore)) _ (fun b o e => hk3 b o (Nat.lt_trans (Nat.lt_of_lt_of_le (Heap.lt_size e) F.above) hLC) (F.keep b o e)) hI1 hC1 hG3).elim
    · (intro s₁; rintro ⟨_, h3, tk3, rfl, hk3, hG3⟩; intro h4 hk4)
      have hk' : ∀ b o, @LT.lt Nat _ b C → h.get? b = some o → h4.get? b = some o := fun b o hb e => hk4 b o (hk3 b o hb e)
      have F3 := drF F hLC hk'
      have NF := N _ (List.mem_append_right _ (List.mem_cons_of_mem _ List.mem_cons_self))
      have N3 : News s.heap L' h4 [(fa, listOf (List.toArray fv) c)] := fun p hp => by
        rw [List.mem_singleton.mp hp]
        exact ⟨hk' _ _ hfC NF.1, NF.2⟩
      dsimp only
      refine rebG (P := fun s' => wpAny _ _ _ _ _ s') (s := s) (g := s.gens.size) (gs := .finished) (setGen_get (setGen_get hgs)) (fun hb => bare_set (bare_set (hbs hb) rfl) rfl) rfl ?_
      dsimp only
      intro tk5 gens5 hgs5 hbs5
      (revert N3; revert F3; revert hbs5; revert hI; revert hjO'; revert hQ; revert hA2; revert T; revert X; kjx_bare; (try law_clear); intro X T hA2 hQ hjO' hI hbs5 F3 N3)
      k_steps
      rw [List.take_of_length_le (by lia)] at hI
      exact hQ _ _ _ _ _ _ hbs5 (Fr.keep (by assumption)) (News.fresh (by assumption) (by k_mem)) (News.get (by assumption) (by k_mem)) hI
end
end
-- L3
section
set_option maxRecDepth 100000
set_option maxHeartbeats 1000000
section
variable {w : World} {d u : Nat} {f : Option (List Env)} {g : Option (List Code)} {s : Shared} {E Q : Value → Shared → Prop} {mean : ExcName → Option Value} {mg mb : Str → Option Value}

noncomputable def J2 (L : Addr) (nl : List (Str × Value)) (news : List (Addr × Obj)) : Prop :=
  ∀ P : List (Str × Value) → List (Addr × Obj) → Prop, (∀ (a b z e i : Addr) (va vb vz ve vi : List Value) (na nb nz ne ni : Nat) (xs ys zs es : List Int) (cs : List (Addr × Obj)),
    Cells L (some (.ref a)) (some (.ref b)) (some (.ref i)) none none cs → IntsAre va xs → IntsAre vb ys → IntsAre vz zs → IntsAre ve es → Num xs → Num ys → Siz zs → (es = [0, 5] ∨ es = [127, 5] ∨ es = []) → Off5 L a → Off5 L b → Off5 L z → Off5 L e → Off5 L i → IntsAre vi (ivsO zs es) → P ([("sizes", .ref z), ("end", .ref e)] : List (Str × Value)) ((i, listOf vi.toArray ni) :: (z, listOf vz.toArray nz) :: (e, listOf ve.toArray ne) :: (a, listOf va.toArray na) :: (b, listOf vb.toArray nb) :: cs)) → P nl news
theorem mem_drop2 {p x y : Addr × Obj} {r : List (Addr × Obj)} (h : p ∈ x :: r) : p ∈ x :: y :: r := by
  rcases List.mem_cons.mp h with e | e
  · rw [e]; exact List.mem_cons_self
  · exact List.mem_cons_of_mem _ (List.mem_cons_of_mem _ e)
theorem st1 {se : Shared} (hKp : Kept se s) {H : Heap} {L fa : Addr} {dc : Value} {nl : List (Str × Value)} {news : List (Addr × Obj)} {uf : Str → Option Value} (X : (Mine.hd.heap_39 w.params).In H) (T : Top Mine.hd.view_39 (looseW Mine.hd.view_39 []) mean mg mb H)
  (J : J1 L nl news) (F : Fr H L s.heap (locsOf nl uf)) (N : News H L s.heap news) :
  wpAny (model Challenge.rw_pd0146_01.row.prog w) (callerA.deeper (lawEnv lawScope L fa dc)) (exec (lawAt 1) (lawEnv lawScope L fa dc)) (AfterG se H L (J2 L)) E s := by
  generalize hsc : lawScope = sc
  conv at hsc => lhs; whnf
  subst hsc
  generalize hst : lawAt 1 = st
  conv at hst => lhs; whnf
  subst hst
  revert F N
  apply J
  clear J
  intro a b z e va vb vz ve na nb nz ne xs ys zs es cs1 hcs hva hvb hvz hve hX hY hZ hes oa ob oz oe
  apply hcs
  clear hcs
  intro c1 c2 c3 c4 c5 d1 d2 d3 d4 d5 F N
  have hzl : vz.length ≤ 3 := by rw [hvz.length]; exact hZ.hi
  have hel : ve.length ≤ 2 := by rw [hve.length]; rcases hes with rfl | rfl | rfl <;> decide
  unfold lawEnv
  (repeat' ((fail_if_success ((with_reducible show wpAny _ _ (binaryOp _ (Value.ref _) (Value.ref _)) _ _ _))); first | (k_unfold; (try dsimp only)) | (k_end; kc_close) | walk1 | (dsimp only; walk1) | (leave1; (try dsimp only))))
  k_dflt (refine' kmk_add_lit ?adF ?adN ?ada ?adb ?ade ?_ ?adz; (case adF => k_asm); (case adN => k_asm); (case ada => kmk_list); (case adb => kmk_list); (case ade => exact rfl); (case adz => (((try simp only [sizeLine_eq, List.length_cons, List.length_nil, List.length_append, List.length_replicate, List.length_map, Array.length_toList, List.size_toArray]); omega))); k_whole)
  intro l' h' F' N' l1
  (try k_lt l1)
  (try k_sweep)
  (repeat' (first | (k_unfold; (try dsimp only)) | (k_end; kc_close) | (k_here; (with_reducible show wpAny _ _ (call (Value.ref 174) [Value.ref _]) _ _ _); refine stopHere ?_) | walk1 | (dsimp only; walk1) | (leave1; (try dsimp only))))
  unfold Stop
  (rename Fr _ _ _ _ => kF)
  (rename News _ _ _ _ => kN)
  refine drawn_ (zs := zs) (es := es) (Frag.In.keeps X kF.keep) (Top.keeps T kF.keep) (by (first | omega | (dsimp only; omega) | (simp only [depth_deeper, depth_in1, depth_caller, Around.deeper]; omega) | (simp [Around.deeper]; omega))) (vs := vz ++ ve) ⟨_, (kN _ (.head _)).1, rfl, _, rfl⟩ (hvz.append hve) hZ hes ?_
  intro h' tk gs i vi ni hb9 hk hi1 hi2 hvi
  have hB : NewB _ h' [(i, W.listOf vi.toArray ni)] := ⟨hi2, hi1, trivial⟩
  have F2 := kF.grownK hk
  have N2 := hB.into kF kN hk
  have off := hB.off kN
  simp only [List.mem_cons, List.not_mem_nil, or_false, forall_eq_or_imp, forall_eq] at off
  obtain ⟨_, _, _, _, _, o1, o2, o3, o4, o5⟩ := off
  clear kF kN hk hB hi1 hi2
  (refine qE0A5 (id oa) fun oa1 oa2 oa3 oa4 oa5 => ?_)
  (refine qE0A5 (id ob) fun ob1 ob2 ob3 ob4 ob5 => ?_)
  (refine qE0A5 (id oz) fun oz1 oz2 oz3 oz4 oz5 => ?_)
  (refine qE0A5 (id oe) fun oe1 oe2 oe3 oe4 oe5 => ?_)
  replace N2 : News H L h' [(i, W.listOf vi.toArray ni), (z, W.listOf vz.toArray nz), (e, W.listOf ve.toArray ne), (a, W.listOf va.toArray na), (b, W.listOf vb.toArray nb), (L + 1, c1), (L + 1 + 1, c2), (L + 1 + 1 + 1, c3), (L + 1 + 1 + 1 + 1, c4), (L + 1 + 1 + 1 + 1 + 1, c5)] :=
    fun p hp => N2 p (mem_drop2 hp)
  k_steps
  exact AfterG.intro (by assumption) (by assumption) (fun _ k => k a b z e i va vb vz ve vi na nb nz ne ni xs ys zs es _ (fun _ k => k _ _ _ _ _ d1 d2 (by assumption) d4 d5) hva hvb hvz hve hX hY hZ hes oa ob oz oe ⟨o1, o2, o3, o4, o5⟩ hvi) (by first | exact agr (by with_unfolding_all rfl) | (refine ⟨?_, ?_, trivial⟩ <;> with_unfolding_all rfl)) (by first | exact subI [0, 1, 2, 3, 4, 5, 6, 7, 8, 9] rfl | exact subI [1, 2, 3, 4, 5, 6, 7, 8, 9, 10] rfl | exact subI [2, 3, 4, 5, 6, 7, 8, 9, 10, 11] rfl | exact subI [3, 4, 5, 6, 7, 8, 9, 10, 11, 12] rfl | exact ⟨by k_mem, by k_mem, by k_mem, by k_mem, by k_mem, by k_mem, by k_mem, by k_mem, by k_mem, by k_mem, trivial⟩) ⟨hKp.1, hb9 hKp.2⟩
end
end
-- L4
section
set_option maxRecDepth 100000
set_option maxHeartbeats 1000000
section
variable {w : World} {d u : Nat} {f : Option (List Env)} {g : Option (List Code)} {s : Shared} {E Q : Value → Shared → Prop} {mean : ExcName → Option Value} {mg mb : Str → Option Value}

noncomputable def J3 (L : Addr) (nl : List (Str × Value)) (news : List (Addr × Obj)) : Prop :=
  ∀ P : List (Str × Value) → List (Addr × Obj) → Prop, (∀ (a b z e i x : Addr) (va vb vz ve vi vx : List Value) (na nb nz ne ni nx : Nat) (xs ys zs es ws : List Int) (cs : List (Addr × Obj)),
    Cells L (some (.ref a)) (some (.ref b)) (some (.ref i)) (some (.ref x)) none cs → IntsAre va xs → IntsAre vb ys → IntsAre vz zs → IntsAre ve es → Num xs → Num ys → Siz zs → (es = [0, 5] ∨ es = [127, 5] ∨ es = []) → Off5 L a → Off5 L b → Off5 L z → Off5 L e → Off5 L i → IntsAre vi (ivsO zs es) → Off5 L x → IntsAre vx ws → Wid ws → (∀ n, namesL (ivsO zs es) (digW 6 n) = chunks ws 6 n) → P ([("sizes", .ref z), ("end", .ref e)] : List (Str × Value)) ((x, listOf vx.toArray nx) :: (i, listOf vi.toArray ni) :: (z, listOf vz.toArray nz) :: (e, listOf ve.toArray ne) :: (a, listOf va.toArray na) :: (b, listOf vb.toArray nb) :: cs)) → P nl news
theorem st2 {se : Shared} (hKp : Kept se s) {H : Heap} {L fa : Addr} {dc : Value} {nl : List (Str × Value)} {news : List (Addr × Obj)} {uf : Str → Option Value} (X : (Mine.hd.heap_39 w.params).In H) (T : Top Mine.hd.view_39 (looseW Mine.hd.view_39 []) mean mg mb H)
  (J : J2 L nl news) (F : Fr H L s.heap (locsOf nl uf)) (N : News H L s.heap news) :
  wpAny (model Challenge.rw_pd0146_01.row.prog w) (callerA.deeper (lawEnv lawScope L fa dc)) (exec (lawAt 2) (lawEnv lawScope L fa dc)) (AfterG se H L (J3 L)) E s := by
  revert F N
  apply J
  clear J
  intro a b z e i va vb vz ve vi na nb nz ne ni xs ys zs es cs1 hcs hva hvb hvz hve hX hY hZ hes oa ob oz oe oi hvi
  apply hcs
  clear hcs
  intro c1 c2 c3 c4 c5 d1 d2 d3 d4 d5 F N
  generalize hsc : lawScope = sc
  conv at hsc => lhs; whnf
  subst hsc
  generalize hst : lawAt 2 = st
  conv at hst => lhs; whnf
  subst hst
  have hzl : vz.length ≤ 3 := by rw [hvz.length]; exact hZ.hi
  (refine qE1A3 (siz_last hZ) fun q hq hq1 hq3 => ?_)
  unfold lawEnv
  (repeat' (first | (k_unfold; (try dsimp only)) | (k_end; kc_close) | (k_here; (with_reducible show wpAny _ _ (call (Value.ref 202) [Value.ref _, Value.ref _]) _ _ _); refine stopHere ?_) | walk1 | (dsimp only; walk1) | (leave1; (try dsimp only))))
  unfold Stop
  (rename Fr _ _ _ _ => kF)
  (rename News _ _ _ _ => kN)
  refine widths_ (ns := zs) (q := q) (c := decide (es = [0, 5])) (Frag.In.keeps X kF.keep) (Top.keeps T kF.keep) (by (first | omega | (dsimp only; omega) | (simp only [depth_deeper, depth_in1, depth_caller, Around.deeper]; omega) | (simp [Around.deeper]; omega))) (by decide) ⟨_, (kN (z, _) (by k_mem)).1, rfl, _, rfl⟩ hvz ⟨_, (kN (e, _) (by k_mem)).1, rfl, _, rfl⟩ (end_is hve hes) hq hZ.hi hZ.lo hzl hZ.all ?_
  intro h' tk x vx nx hk hi1 hi2 hvx
  have hB : NewB _ h' [(x, W.listOf vx.toArray nx)] := ⟨hi2, hi1, trivial⟩
  have F2 := kF.grownK hk
  have N2 := hB.into kF kN hk
  have off := hB.off kN
  simp only [List.mem_cons, List.not_mem_nil, or_false, forall_eq_or_imp, forall_eq] at off
  obtain ⟨_, _, _, _, _, o1, o2, o3, o4, o5⟩ := off
  clear kF kN hk hB hi1 hi2
  (refine qE0A5 (id oa) fun oa1 oa2 oa3 oa4 oa5 => ?_)
  (refine qE0A5 (id ob) fun ob1 ob2 ob3 ob4 ob5 => ?_)
  (refine qE0A5 (id oz) fun oz1 oz2 oz3 oz4 oz5 => ?_)
  (refine qE0A5 (id oe) fun oe1 oe2 oe3 oe4 oe5 => ?_)
  (refine qE0A5 (id oi) fun oi1 oi2 oi3 oi4 oi5 => ?_)
  replace N2 : News H L h' [(x, W.listOf vx.toArray nx), (i, W.listOf vi.toArray ni), (z, W.listOf vz.toArray nz), (e, W.listOf ve.toArray ne), (a, W.listOf va.toArray na), (b, W.listOf vb.toArray nb), (L + 1, c1), (L + 1 + 1, c2), (L + 1 + 1 + 1, c3), (L + 1 + 1 + 1 + 1, c4), (L + 1 + 1 + 1 + 1 + 1, c5)] := N2
  k_steps
  have hz1 : ∀ k ∈ zs, 1 ≤ k := fun k hk => (hZ.all k hk).1
  exact AfterG.intro (by assumption) (by assumption) (fun _ k => k a b z e i x va vb vz ve vi vx na nb nz ne ni nx xs ys zs es (widsL zs q (decide (es = [0, 5]))) _ (fun _ k => k _ _ _ _ _ d1 d2 d3 (by assumption) d5) hva hvb hvz hve hX hY hZ hes oa ob oz oe oi hvi ⟨o1, o2, o3, o4, o5⟩ hvx (wid_widsL _ hz1 hq1) (fun n => by rw [iv_eq hZ hq]; exact names_chunks n _ hz1 hq1 hZ.lo)) (by first | exact agr (by with_unfolding_all rfl) | (refine ⟨?_, ?_, trivial⟩ <;> with_unfolding_all rfl)) (by first | exact subI [0, 1, 2, 3, 4, 5, 6, 7, 8, 9, 10] rfl | exact subI [1, 2, 3, 4, 5, 6, 7, 8, 9, 10, 11] rfl | exact subI [2, 3, 4, 5, 6, 7, 8, 9, 10, 11, 12] rfl | exact subI [3, 4, 5, 6, 7, 8, 9, 10, 11, 12, 13] rfl | exact ⟨by k_mem, by k_mem, by k_mem, by k_mem, by k_mem, by k_mem, by k_mem, by k_mem, by k_mem, by k_mem, by k_mem, trivial⟩) (by assumption)
end
end
-- G5
section
set_option maxRecDepth 100000
set_option maxHeartbeats 1000000
section
variable {M : Model} {A : Around} {E : Value → Shared → Prop} {s : Shared}
theorem looksNew {base h : Heap} {env : Env} {outer : List Env} {L e : Addr} {X : String} {Q : Unit → Shared → Prop} (hfr : A.frames = some (env :: outer)) (hf : env.frame = some L) (hkb : base.StaysIn h) (hl : h.FunFrames base (env :: outer)) (hx : Heap.NewExc h s.heap e X)
    (hQ : ∀ h' a0, Heap.HeldW base (env :: outer) e (.type X) a0 L h' → s.heap.UpToSlots h' → Q () { s with heap := h' }) : wpAny M A (noteFrame (.ref e) env) Q E s := by
  (refine qE2A3 (hx.there) fun ob tp he hcls hd => ?_)
  have hen : base.get? e = none := by
    cases hq : base.get? e with
    | none => rfl
    | some o' => have := hkb e o' hq; rw [hx.new] at this; cases this
  unfold noteFrame
  simp only [hf]
  refine wpAny_bind (wpAny_field (x := .none) he hd rfl ?_)
  rw [if_neg (by decide)]
  refine wpAny_entryW (a0 := tp) hfr (hl.of_keeps fun b o hb _ => ⟨o, hx.keeps b o hb, rfl⟩) hf he (fun b o hb => hx.keeps b o (hkb b o hb)) hen hd (by simp) rfl fun h' hN => ?_
  (refine qE0A4 (hN) fun k1 k2 k3 k4 => ?_; (try clear hN))
  rw [hcls] at k3
  exact hQ h' tp ⟨k1, hen, k2, k3⟩ k4
theorem cameHeld {base : Heap} {env : Env} {l : List Env} {L e : Addr} {cls a0 : Value} {Q : Unit → Shared → Prop} (hf : env.frame = some L) (hh : Heap.HeldW base l e cls a0 L s.heap)
    (hQ : ∀ h', Heap.HeldW base l e cls a0 L h' → s.heap.UpToSlots h' → Q () { s with heap := h' }) :
    wpAny M A (do if (← field (.ref e) 1) == Value.none then unsupported "frame.own-activation:exception-without-traceback"
                  setFlight (.ref e) env.frame) Q E s := by
  obtain ⟨f1, f2, f3, oe, vs, T, oT, ts, he, hcls, hd, h1, hnT, hTe, hT, hdT, h3⟩ := hh
  have hsz3 : 3 < ts.size := (Array.getElem?_eq_some_iff.mp h3).1
  have other : ∀ b, b ≠ T → (s.heap.update T (Obj.mapFields (·.setIfInBounds 3 (env.frame.elim Value.none fun f => rawInt f)))).get? b = s.heap.get? b :=
    fun b hb => Heap.get?_update_other _ _ (Ne.symm hb)
  have noRecord : ∀ b o, s.heap.get? b = some o → (∀ vs, o.data ≠ .fields vs) → b ≠ T := fun b o hb hnf q => by
    rw [q, hT] at hb; injection hb with hb; subst hb; exact hnf ts hdT
  refine wpAny_bind (wpAny_field he hd h1 ?_)
  rw [if_neg (show ¬ ((Value.ref T == Value.none) = true) from by simp)]
  unfold setFlight
  refine wpAny_bind (wpAny_field he hd h1 ?_)
  rw [if_pos (show (Value.ref T != Value.none) = true from by simp)]
  refine wpAny_setField hT hdT hsz3 (hQ _ ⟨fun b o hbo => (other b fun q => by rw [q, hnT] at hbo; cases hbo).trans (f1 b o hbo), f2, f3.of_keeps fun b o hb hnf => ⟨o, (other b (noRecord b o hb hnf)).trans hb, rfl⟩, ?_⟩ fun b o hb hn => ⟨o.slots, (other b (noRecord b o hb hn)).trans hb⟩)
  exact ⟨oe, vs, T, _, _, (other e (Ne.symm hTe)).trans he, hcls, hd, h1, hnT, hTe, Heap.get?_update_self _ hT (Obj.isFreed_of_fields (Obj.data_mapFields hdT _)), Obj.data_mapFields hdT _, by rw [hf]; simp [hsz3]⟩
end
noncomputable def GRX (base : Heap) (envs : List Env) (C G : Addr) (oG : Obj) : GenEnd := fun _ s₀ r s₁ =>
  ∃ e a0 h tk, r = .error (.ref e) ∧ s₁ = { s₀ with heap := h, toks := tk } ∧ Heap.FlyingW base envs e (.type "ValueError") a0 h ∧ (∀ b o, @LT.lt Nat _ b C → s₀.heap.get? b = some o → (∀ vs, o.data ≠ .fields vs) → ∃ sl, h.get? b = some { o with slots := sl }) ∧ h.get? G = some oG
section
variable {prog : Program} {w : World} {A : Around} {E : Value → Shared → Prop} {s : Shared}
theorem sub_ve_stop : isSubtype (.type "ValueError") (.type "StopIteration") = pure false := isSubtype_of_subB (by decide +kernel)
theorem pyNext_genX {a : Addr} {g n : Nat} {gs : GenState} {base : Heap} {envs : List Env} {C : Addr} {oG : Obj} {Y : Protocol} {Q : Option Value → Shared → Prop}
    (hl : s.heap.NoLimit) (hroom : A.depth < recursionLimit) (hg : s.heap.IsGen a g) (hgs : s.gens[g]? = some gs)
    (hgo : gs.Goes (model prog w) A.in1 (GRX base envs C a oG) Y n (.send .none) (s.setGen g .running)) (hoG : ∃ nm qn, oG = genO g nm qn)
    (hY : ∀ v s₁ kap, ¬ Y (n - 1) (s.setGen g .running) v s₁ kap)
    (hE : ∀ e a0 h tk, Heap.FlyingW base envs e (.type "ValueError") a0 h → (∀ b o, @LT.lt Nat _ b C → s.heap.get? b = some o → (∀ vs, o.data ≠ .fields vs) → ∃ sl, h.get? b = some { o with slots := sl }) → E (.ref e) { (s.setGen g .running).setGen g .finished with heap := h, toks := tk }) :
    wpAny (model prog w) A (pyNext (.ref a)) Q E s := by
  unfold pyNext
  refine wpAny_bind (wpAny_attempt (wpAny_callSpecial?_slot (name := Str.ofString "__next__") hg.typeIs slot_gen_next
    (wpAny_call_entry slot_gen_next hg.typeIs entry_gen_next ?_ (args_gen_next _))))
  show wpAny _ _ (Builtin.Generator.genWake (.ref a) (.send .none)) _ _ s
  unfold Builtin.Generator.genWake
  refine wpAny_bind (wpAny_holding (wpAny_genNumber hg (wpAny_bind (wpAny_genState hgs ?_))))
  cases gs with
  | running => exact hgo.elim
  | finished => exact hgo.elim
  | _ =>
    refine wpAny_bind (wpAny_roomToWake hl hroom ?_)
    show wpAny _ _ (.resume g (.send .none) [] _) _ _ s
    refine wpAny_resume hgs hgo (fun x s₁ hx => ?_) (fun v s₁ gs' hv => (hY _ _ _ hv).elim)
    (refine qE4A5 (hx) fun e a0 h tk zqr4 zqr5 hfl hup hGa => ?_; (try clear hx); subst zqr4; subst zqr5)
    (refine qE1A2 (hfl.there) fun oe he hec => ?_)
    show wpAny _ _ (Builtin.Generator.genLeft (.ref a) (.ref e)) _ _ _
    unfold Builtin.Generator.genLeft Builtin.Generator.genEscaped Builtin.Generator.madeByALambda
    (refine qE2A1 (hoG) fun nm qn zqr2 => ?_; (try clear hoG); subst zqr2)
    have hins : ∀ {A' : Around} {E' : Value → Shared → Prop} {Q' : Bool → Shared → Prop} {s' : Shared}, s'.heap = h → Q' false s' → wpAny (model prog w) A' (isInstance (.ref e) (.type "StopIteration")) Q' E' s' := fun hs hq => wpAny_isInstance (T := "ValueError") (b := false) ⟨oe, hs ▸ he, hec⟩ sub_ve_stop hq
    refine wpAny_bind (wpAny_bind (wpAny_load (o := genO g nm qn) hGa (wpAny_pure ?_)))
    refine wpAny_bind (hins rfl ?_)
    rw [if_neg (by simp)]
    refine wpAny_bind (hins rfl ?_)
    rw [if_pos (by rfl)]
    refine wpAny_bind (wpAny_throw ?_)
    refine wpAny_bind (hins rfl ?_)
    rw [if_neg (by simp)]
    refine wpAny_throw ?_
    exact hE e a0 h tk hfl hup
end
theorem none_in {b1 b2 : Heap} (hs : b1.StaysIn b2) {a : Addr} (h : b2.get? a = none) : b1.get? a = none := by
  cases q : b1.get? a with
  | none => rfl
  | some o => rw [hs _ _ q] at h; cases h
theorem funFrames_mono {b1 b2 h : Heap} (hs : b1.StaysIn b2) : ∀ {l : List Env}, h.FunFrames b2 l → h.FunFrames b1 l
  | [], _ => trivial
  | _ :: _, ⟨k, ⟨L, o, h1, h2, h3, h4⟩, r⟩ => ⟨k, ⟨L, o, h1, none_in hs h2, h3, h4⟩, funFrames_mono hs r⟩
theorem flying_mono {b1 b2 h : Heap} {l : List Env} {e : Addr} {cls a0 : Value} (hs : b1.StaysIn b2) (x : Heap.FlyingW b2 l e cls a0 h) : Heap.FlyingW b1 l e cls a0 h := by
  obtain ⟨f1, f2, f3, oe, vs, T, oT, ts, he, hcls, hd, h1, hnT, r⟩ := x
  exact ⟨fun b o e => f1 b o (hs b o e), none_in hs f2, funFrames_mono hs f3, oe, vs, T, oT, ts, he, hcls, hd, h1, none_in hs hnT, r⟩
section
variable {M : Model} {A : Around} {E : Value → Shared → Prop} {s : Shared}
theorem leavesHeldU {base : Heap} {env : Env} {outer : List Env} {L e : Addr} {cls a0 : Value} {Q : Unit → Shared → Prop} (hf : env.frame = some L)
    (hh : Heap.HeldW base (env :: outer) e cls a0 L s.heap) (hQ : ∀ h', Heap.FlyingW base outer e cls a0 h' → s.heap.UpToSlots h' → Q () { s with heap := h' }) : wpAny M A (leaving env (.ref e)) Q E s := by
  unfold leaving
  refine wpAny_bind (wpAny_noteFrame_againW hf hh.2.2.2 ?_)
  refine wpAny_landsW hh fun h' hfl up => ?_
  obtain ⟨k1, k2, ⟨_, _, k3⟩, k4⟩ := hfl
  exact hQ h' ⟨k1, k2, k3, k4⟩ up
end
section
variable {M : Model} {A : Around} {R : GenEnd} {Y : Protocol} {n : Nat} {s₀ : Shared} {c : Code} {fs : List Frame} {s : Shared} {env : Env}
  {K : Flow → Sem Fin} {H : Value → Sem Fin} {gd : Bool → Bool} {lv : List Value → List Value}
noncomputable def ranOut (e : Value) (env : Env) : Sem Unit := do
  if (← field e 1) == Value.none then unsupported "frame.own-activation:exception-without-traceback"
  setFlight e env.frame
theorem seg_ranOut {e : Value} (h : wpAny M (A.over c fs) (ranOut e env) (fun _ s' => Seg M A R Y n s₀ c (H e) fs s') (fun x s' => Seg M A R Y n s₀ c (H x) fs s') s) :
    Seg M A R Y n s₀ c (((match (Except.error e : Result) with | .ok f => (.pure f : Sem Flow) | .error e => .raise e).onRaise fun (x : Value) => do
        if (← field x 1) == Value.none then unsupported "frame.own-activation:exception-without-traceback"
        setFlight x env.frame).wrap K H gd lv) fs s := by
  show Seg M A R Y n s₀ c (Sem.wrap K H gd lv ((ranOut e env).bind fun _ => (.raise e : Sem Flow))) fs s
  rw [Sem.bind_eq_wrap, Sem.wrap_wrap]
  exact seg_wrap h
end
theorem frsFun {envs : List Env} {frs : List (Addr × Obj)} {h base : Heap} (Fs : TI.Frs envs frs) (hh : ∀ p ∈ frs, h.get? p.1 = some p.2) (hb : ∀ p ∈ frs, base.get? p.1 = none) : h.FunFrames base envs := Fs.fun fun p hp => ⟨hh p hp, hb p hp⟩
theorem over_frames {A : Around} {c : Code} {fs : List Frame} {l es : List Env} (hfr : A.frames = some l) (h : pushEnvs c.envs (pushEnvs (envsOf (fs.map Frame.where_)) (some l)) = some es) : (A.over c fs).frames = some es := by
  show pushEnvs c.envs (pushEnvs (envsOf (fs.map Frame.where_)) A.frames) = some es
  rw [hfr]; exact h
end
-- G6
section
set_option maxRecDepth 100000
set_option maxHeartbeats 1000000
section
variable {w : World} {d u : Nat} {f : Option (List Env)} {g : Option (List Code)} {s : Shared} {E Q : Value → Shared → Prop} {mean : ExcName → Option Value} {mg mb : Str → Option Value}

theorem genX_ {h₀ base : Heap} {l : Addr} {vs : List Value} {zs : List Int} (X : (Mine.hd.heap_39 w.params).In h₀) (T : Top Mine.hd.view_39 (looseW Mine.hd.view_39 []) mean mg mb h₀) (hA2 : d < 390) (hks : Keeps h₀ s.heap) (hsz : h₀.objs.size ≤ s.heap.objs.size) (hbz : base.objs.size ≤ s.heap.objs.size)
  (hl : h₀.IsList l vs.toArray) (hi : IntsAre vs (0 :: zs))
  (hQ : ∀ h₁ C oC tk nm qn gs, gs.bare = true → Keeps s.heap h₁ → h₁.get? C = some oC → s.heap.objs.size ≤ C → (∃ e p, oC.data = .dict e p) → (∀ A' s'' envs frs, A'.handled = none → A'.depth ≤ 380 → A'.frames = some envs → TI.Frs envs frs → (∀ p ∈ frs, s''.heap.get? p.1 = some p.2 ∧ @LT.lt Nat _ p.1 C ∧ base.get? p.1 = none) → base.StaysIn s''.heap → Keeps h₀ s''.heap → s''.heap.get? C = some oC → s''.heap.get? h₁.objs.size = some (genO s.gens.size nm qn) → gs.Goes (model Challenge.rw_pd0146_01.row.prog w) A' (GRX base envs C h₁.objs.size (genO s.gens.size nm qn)) (fun _ _ _ _ _ => False) 0 (.send .none) s'') →
    Q (.ref h₁.objs.size) { s with gens := s.gens.push gs, toks := tk, heap := h₁.push (genO s.gens.size nm qn) }) :
  wpAny (model Challenge.rw_pd0146_01.row.prog w) (Around.mk none d f g u) (call (.ref 56) [.ref l]) Q E s := by
  refine' enterG (binds := [("grouping", .ref l)]) (X.keeps hks) (T.nolimit.keeps hks) ?k6 ?k7 (Nat.lt_trans hA2 (by decide)) (BindsTo.of_eq ?k8) ?k9 ?_ ?c1 ?c2 ?c3 ?c4
  (((case k6 => k_is); (case k7 => k_is); (case k8 => rfl); (case k9 => exact locs (by rfl)); (case c1 => rfl); (case c2 => rfl); (case c3 => rfl); (case c4 => decide)))
  intro h₁ C tk nm qn F hC hk₁
  (refine qE3A3 (F.ns) fun oC eC pC hC1 hC2 hC3 => ?_)
  have habove : h₀.objs.size ≤ C := Nat.le_trans hsz F.above
  have hbC : base.objs.size ≤ C := Nat.le_trans hbz F.above
  refine hQ h₁ C oC tk nm qn _ rfl hk₁ hC1 F.above ⟨_, _, hC2⟩ ?_
  generalize hG : h₁.objs.size = G
  have hCG : @LT.lt Nat _ C G := by rw [← hG]; exact Heap.lt_size hC1
  generalize genO s.gens.size nm qn = oG
  intro A' s'' envs frs hh hd hfr Fs hfrs hbs hk hCs hGs
  refine ⟨rfl, seg_func ?_⟩
  refine seg_execs_cons (seg_stmt ?_)
  have hkg : Keeps h₀ (cutH s''.heap C) := cutH_keeps hk habove
  have F0 : Fr (cutH s''.heap C) C s''.heap (fun y => List.lookup y [(Str.ofString "grouping", Value.ref l)].reverse) := ⟨⟨oC, eC, pC, hCs, hC2, hC3⟩, fun b o e => (cutH_of e).2, cutH_size _ _⟩
  have N0 : News (cutH s''.heap C) C s''.heap [(G, oG)] := fun p hp => by
    rw [List.mem_singleton.mp hp]
    exact ⟨hGs, Ne.symm (Nat.ne_of_lt hCG), cutH_none _ (Nat.le_of_lt hCG)⟩
  have Xg := X.keeps hkg
  have Tg := T.keeps (h' := cutH s''.heap C) hkg
  (revert hbC; revert hfr; revert Fs; revert hfrs; revert hbs; revert Tg; revert Xg; revert N0; revert F0; revert habove; revert hCG; revert hkg; revert hk; revert hd; revert hh; revert hi; revert hl; revert T; revert X; kjx_bare; (try law_clear); intro X T hl hi hh hd hk hkg hCG habove F0 N0 Xg Tg hbs hfrs Fs hfr hbC)
  ((refine wpAny_loose (d := 390) (u := _) (by assumption) (Nat.le_trans (Nat.add_le_add (Nat.add_le_add_right (by assumption) _) (Nat.le_refl _)) (Nat.le_of_ble_eq_true rfl)) (Nat.le_refl _) ?_))
  k_steps
  dsimp only
  refine seg_execs_cons (seg_For ?_ (by intro _; rfl))
  ((refine wpAny_loose (d := 390) (u := _) (by assumption) (Nat.le_trans (Nat.add_le_add (Nat.add_le_add_right (by assumption) _) (Nat.le_refl _)) (Nat.le_of_ble_eq_true rfl)) (Nat.le_refl _) ?_))
  k_steps
  (rename Heap => H1)
  (rename Fr _ _ _ _ => kF)
  (rename News _ _ _ _ => kN)
  have hl' := (hl.at fun o e => kF.keep _ _ (hkg _ _ e))
  refine wpAny_pyIter_list hl' ?_
  intro p
  have hCI : @LT.lt Nat _ C H1.objs.size := kF.ns.lt
  have hGI : @Ne Nat H1.objs.size G := (Nat.ne_of_lt (Heap.lt_size (kN _ List.mem_cons_self).1)).symm
  have N1 := kN.push kF { cls := .type "list_iterator", data := .fields #[.ref l, .int 0 0] }
  have F1 := kF.push { cls := .type "list_iterator", data := .fields #[.ref l, .int 0 0] }
  have hit1 : (H1.push { cls := .type "list_iterator", data := .fields #[.ref l, .int 0 0] }).IsListIter H1.objs.size l 0 := ⟨_, Heap.get?_push_size _ rfl, rfl, rfl⟩
  dsimp only
  generalize H1.push { cls := .type "list_iterator", data := .fields #[.ref l, .int 0 0] } = H2 at N1 F1 hit1 ⊢
  generalize H1.objs.size = I at hCI hGI N1 hit1 ⊢
  have hl2 := (hl.at fun o e => F1.keep _ _ (hkg _ _ e))
  clear kF kN hl'
  have zqb : ∃ tq, vs[0]? = some (.int 0 tq) := by
    rcases ints_get hi 0 with ⟨_, e⟩ | ⟨q, tq, e1, e2⟩
    · simp at e
    · simp at e2; subst e2; exact ⟨tq, e1⟩
  (refine qE1A1 zqb fun tq hq => ?_; clear zqb)
  refine seg_forLoop (wpAny_pyNext_list_item hit1 hl2 (x := .int 0 tq) (by simpa using hq) ?_) (by intro _; rfl)
  intro h' hit' hs'
  have F' : Fr (cutH s''.heap C) C h' _ := ⟨F1.ns.sameBut hs' (Nat.ne_of_lt hCI), fun b o e => (hs'.2 b (Nat.ne_of_lt (Nat.lt_trans (cutH_of e).1 hCI))).trans (F1.keep b o e), F1.above⟩
  refine wpAny_assign_Name (wpAny_storeName_local rfl F'.ns (fun h₂ hn₂ hs₂ => ?_) rfl)
  (refine qE1A3 (id hit') fun oI' e1 e2 e3 => ?_)
  have N' := nextN N1 hs' e1 hGI
  have F₂ := F'.set hn₂ hs₂
  have N₂ := N'.set hs₂
  clear F' N' F1 N1 hit1 hit' e1 hn₂ hs₂ hs' hl2 hq
  refine seg_execs_cons (seg_If ?_)
  ((refine wpAny_loose (d := 390) (u := _) (by assumption) (Nat.le_trans (Nat.add_le_add (Nat.add_le_add_right (by assumption) _) (Nat.le_refl _)) (Nat.le_of_ble_eq_true rfl)) (Nat.le_refl _) ?_))
  k_steps
  refine segF (by decide) (seg_execs_nil ?_)
  dsimp only
  refine seg_execs_cons (seg_If ?_)
  ((refine wpAny_loose (d := 390) (u := _) (by assumption) (Nat.le_trans (Nat.add_le_add (Nat.add_le_add_right (by assumption) _) (Nat.le_refl _)) (Nat.le_of_ble_eq_true rfl)) (Nat.le_refl _) ?_))
  k_steps
  refine segT (by decide) (seg_execs_cons (seg_If ?_))
  ((refine wpAny_loose (d := 390) (u := _) (by assumption) (Nat.le_trans (Nat.add_le_add (Nat.add_le_add_right (by assumption) _) (Nat.le_refl _)) (Nat.le_of_ble_eq_true rfl)) (Nat.le_refl _) ?_))
  k_steps
  refine segT (by rfl) (seg_execs_cons (seg_stmt ?_))
  ((refine wpAny_loose (d := 390) (u := _) (by assumption) (Nat.le_trans (Nat.add_le_add (Nat.add_le_add_right (by assumption) _) (Nat.le_refl _)) (Nat.le_of_ble_eq_true rfl)) (Nat.le_refl _) ?_))
  k_steps
  (rename Heap.NewExc _ _ _ _ => kX)
  (rename Fr _ _ _ _ => kF)
  (rename News _ _ _ _ => kN)
  have hfh : ∀ p ∈ frs, @LT.lt Nat _ p.1 C := fun p hp => (hfrs p hp).2.1
  have hfk : ∀ b o, @LT.lt Nat _ b C → s''.heap.get? b = some o → _ := fun b o hb e => kF.keep b o (by rw [cutH_get hb]; exact e)
  have hbh : base.StaysIn _ := fun b o e => hfk b o (Nat.lt_of_lt_of_le (Heap.lt_size e) hbC) (hbs b o e)
  have hgb : base.StaysIn (TI.gone _ (C :: frs.map (·.1))) := fun b o e => by
    rw [TI.gone_get]
    · exact hbh b o e
    · intro hm
      rcases List.mem_cons.mp hm with rfl | hm
      · exact absurd (Heap.lt_size e) (Nat.not_lt_of_le hbC)
      · (refine qE1A2 (List.mem_map.mp hm) fun p hp zqr2 => ?_; subst zqr2)
        rw [(hfrs p hp).2.2] at e; cases e
  have hGn : G ∉ C :: frs.map (·.1) := fun hm => by
    rcases List.mem_cons.mp hm with e | hm
    · exact absurd (e ▸ hCG) (Nat.lt_irrefl _)
    · (refine qE1A2 (List.mem_map.mp hm) fun p hp e => ?_)
      have := hfh p hp
      rw [e] at this
      exact absurd (Nat.lt_trans this hCG) (Nat.lt_irrefl _)
  have kNG := (kN _ (List.mem_cons_of_mem _ List.mem_cons_self)).1
  refine seg_wrap (wpAny_bind (looksNew (base := TI.gone _ (C :: frs.map (·.1))) (outer := envs) (over_frames hfr rfl) rfl (fun b o e => (TI.gone_some e).2) ?ff kX fun h3 a0 HW up => wpAny_theTreesLotGoes ?_))
  case ff =>
    exact Heap.FunFrames.cons (show ScopeKind.function ≠ ScopeKind.module by decide) rfl kF.ns (TI.gone_none List.mem_cons_self) (frsFun Fs (fun p hp => hfk _ _ (hfh p hp) (hfrs p hp).1) fun p hp => TI.gone_none (List.mem_cons_of_mem _ (List.mem_map_of_mem hp)))
  refine seg_leaf (.error (.ref _)) ?_
  refine seg_ranOut ?_
  unfold ranOut
  refine cameHeld rfl HW fun h4 HW4 up4 => ?_
  refine seg_wrap (leavesHeldU rfl HW4 fun h5 FW up5 => ?_)
  refine seg_end (.error (.ref _)) ⟨_, a0, h5, _, rfl, rfl, flying_mono hgb FW, fun b o hb e hn => ?_, ?_⟩
  · have e1 := kX.keeps b o (hfk b o hb e)
    exact Heap.UpToSlots.trans (Heap.UpToSlots.trans up up4) up5 b o e1 hn
  · exact FW.1 _ _ (by rw [TI.gone_get hGn]; exact kNG)
end
end
-- G7
section
set_option maxRecDepth 100000
set_option maxHeartbeats 1000000
section
variable {w : World} {d u : Nat} {f : Option (List Env)} {g : Option (List Code)} {s : Shared} {E Q : Value → Shared → Prop} {mean : ExcName → Option Value} {mg mb : Str → Option Value}

theorem drawnX_ {base : Heap} {envs : List Env} {frs : List (Addr × Obj)} {l : Addr} {vs : List Value} {zs : List Int} (X : (Mine.hd.heap_39 w.params).In s.heap) (T : Top Mine.hd.view_39 (looseW Mine.hd.view_39 []) mean mg mb s.heap) (hA2 : d < 360)
  (hl : s.heap.IsList l vs.toArray) (hi : IntsAre vs (0 :: zs)) (hbs : base.StaysIn s.heap) (hbz : base.objs.size ≤ s.heap.objs.size) (Fs : TI.Frs envs frs) (hfrs : ∀ p ∈ frs, s.heap.get? p.1 = some p.2 ∧ base.get? p.1 = none) (hff : f = some envs)
  (hE : ∀ h' tk gs e a0, (AllBare s.gens → AllBare gs) → Heap.FlyingW base envs e (.type "ValueError") a0 h' → s.heap.UpToSlots h' → E (.ref e) {s with heap := h', toks := tk, gens := gs}) :
  wpAny (model Challenge.rw_pd0146_01.row.prog w) (Around.mk none d f g u) (call (.ref 174) [.ref l]) Q E s := by
  subst hff
  refine' enterC (binds := [("row", .ref l)]) X T.nolimit ?k6 ?k7 (Nat.lt_trans hA2 (by decide)) (BindsTo.of_eq ?k8) ?k9 ?_ ?c1 ?c2 ?c3 ?c4
  (((case k6 => k_is); (case k7 => k_is); (case k8 => rfl); (case k9 => exact locs (by rfl)); (case c1 => rfl); (case c2 => rfl); (case c3 => rfl); (case c4 => decide)))
  intro h₁ L' F N
  (repeat' (first | (k_unfold; (try dsimp only)) | (k_end; kc_close) | (k_here; (with_reducible show wpAny _ _ (exec (PySem.Stmt.For (PySem.Expr.Name _ _) (PySem.Expr.Call _ _ _ _) (_ :: _) [] _) _) _ _ _); refine stopHere ?_) | walk1 | (dsimp only; walk1) | (leave1; (try dsimp only))))
  unfold Stop
  refine wpAny_For ?_
  (repeat' (first | (k_unfold; (try dsimp only)) | (k_end; kc_close) | (k_here; (with_reducible show wpAny _ _ (call (Value.ref 56) [Value.ref _]) _ _ _); refine stopHere ?_) | walk1 | (dsimp only; walk1) | (leave1; (try dsimp only))))
  unfold Stop
  (rename Fr _ _ _ _ => kF)
  (rename News _ _ _ _ => kN)
  rename_i _ fa _ _ h2
  have hz2 : s.heap.objs.size ≤ h2.objs.size := Nat.le_trans kF.above (Nat.le_of_lt kF.ns.lt)
  refine genX_ (h₀ := s.heap) (base := base) (zs := zs) X T ?dd kF.keep hz2 (Nat.le_trans hbz hz2) hl hi ?_
  (case dd => (first | omega | (dsimp only; omega) | (simp only [depth_deeper, depth_in1, depth_caller, Around.deeper]; omega) | (simp [Around.deeper]; omega)))
  intro h₂ C oC tk nm qn gs hgb hk₂ hC hsz hdict hgo
  have hLC : @LT.lt Nat _ L' C := Nat.lt_of_lt_of_le kF.ns.lt hsz
  have hCG : @LT.lt Nat _ C h₂.objs.size := Heap.lt_size hC
  have F2 : Fr s.heap L' (h₂.push (genO s.gens.size nm qn)) _ := (Fr.grow kF hk₂).push _
  refine wpAny_pyIter_gen (g := s.gens.size) ⟨genO s.gens.size nm qn, nm, qn, Heap.get?_push_size _ rfl, rfl, rfl, rfl⟩ ?_
  have hgs0 : (s.gens.push gs)[s.gens.size]? = some gs := Array.getElem?_push_size ..
  refine codeAny_forG (fun k s' => k = 1 ∧ s' = _) ?dturn 1 ⟨rfl, rfl⟩ (by intro _; rfl)
  (intro k s'; intro zqi; refine qE0A2 zqi fun zqr0 zqr1 => ?_; clear zqi; subst zqr0; subst zqr1)
  refine wpAny_passesOwn (by passes_own) ?_
  (refine qE3A3 (F2.ns) fun oL eL pL hL1 hL2 hL3 => ?_)
  have hz3 : ∀ b o, s.heap.get? b = some o → @LT.lt Nat _ b C := fun b o e => Nat.lt_of_lt_of_le (Heap.lt_size e) (Nat.le_trans hz2 hsz)
  refine pyNext_genX (n := 0) (base := base) (envs := _ :: envs) (C := C) (oG := genO s.gens.size nm qn) (Y := fun _ _ _ _ _ => False) (T.nolimit.keeps F2.keep) (Nat.lt_of_le_of_lt (show _ ≤ 370 from by (first | omega | (dsimp only; omega) | (simp only [depth_deeper, depth_in1, depth_caller, Around.deeper]; omega) | (simp [Around.deeper]; omega))) (by decide)) ⟨genO s.gens.size nm qn, nm, qn, Heap.get?_push_size _ rfl, rfl, rfl, rfl⟩ hgs0
    (hgo _ _ _ ((L', oL) :: frs) rfl ?dep rfl ⟨show ScopeKind.function ≠ ScopeKind.module by decide, rfl, ⟨eL, pL, hL2⟩, Fs⟩ ?gf (fun b o e => F2.keep b o (hbs b o e)) F2.keep (Heap.get?_push_of_some _ hC) (Heap.get?_push_size _ rfl)) ⟨nm, qn, rfl⟩ (fun _ _ _ h => h) ?_
  case dep => (show _ ≤ 380); (first | omega | (dsimp only; omega) | (simp only [depth_deeper, depth_in1, depth_caller, Around.deeper]; omega) | (simp [Around.deeper]; omega))
  case gf =>
    intro p hp
    (first | (revert p; refine alC ?_ (fun p hp => ?_)) | rcases List.mem_cons.mp hp with rfl | hp)
    · exact ⟨hL1, hLC, Heap.get?_none_of_le (Nat.le_trans hbz F2.above)⟩
    · exact ⟨F2.keep _ _ (hfrs p hp).1, hz3 _ _ (hfrs p hp).1, (hfrs p hp).2⟩
  intro e a0 h tk3 hfl hup
  refine wpAny_leaves_onW rfl rfl hfl fun h5 FW up => ?_
  exact hE _ _ _ e a0 (fun hb => bare_set (bare_set (hb.push hgb) rfl) rfl) FW fun b o e1 hn => by
    (refine qE1A1 (hup b o (hz3 b o e1) (F2.keep b o e1) hn) fun sl e2 => ?_)
    (refine qE1A1 (up b _ e2 hn) fun sl2 e3 => ?_)
    exact ⟨sl2, e3⟩
end
end
-- G9
section
set_option maxRecDepth 100000
set_option maxHeartbeats 1000000
theorem heldUp {g h₁ h6 : Heap} {L L' e : Addr} {oL : Obj} {m : Str → Option Value} {envs : List Env} {X : String} {a0 : Value} (F : Fr g L' h₁ m) (N : News g L' h₁ [(L, oL)]) (hdict : ∃ es ep, oL.data = .dict es ep)
    (HW : Heap.HeldW g envs e (.type X) a0 L' h6) (up : h₁.UpToSlots h6) : ∃ sl, TT.HeldN g L' h6 m e X [(L, { oL with slots := sl })] := by
  obtain ⟨f1, f2, f3, oe, ws, T, oT, ts, he, ⟨hcl, _⟩, hd, h1, hnT, hTe, hT, hdT, h3⟩ := HW
  have F6 : Fr g L' h6 m := ⟨up.ns F.ns, f1, F.above⟩
  have NL := N _ List.mem_cons_self
  (refine qE2A1 (hdict) fun es ep hdl => ?_; (try clear hdict))
  (refine qE1A1 (up L oL NL.1 (fun vs q => by rw [hdl] at q; cases q)) fun sl hL6 => ?_)
  (refine qE3A3 (F6.ns) fun oF es' ep' hF1 hF2 _ => ?_)
  have nd : ∀ {b : Addr} {o o' : Obj} {vs : Array Value} {a c}, h6.get? b = some o → o.data = .fields vs → o'.data = .dict a c → h6.get? b = some o' → False := fun h1 h2 h3 h4 => by
    rw [h1] at h4; obtain rfl := Option.some.inj h4; rw [h2] at h3; cases h3
  refine ⟨sl, heldOf F6 (fun p hp => ?_) hcl hd h1 hdT h3 hTe fun p hp => ?_⟩
  · (first | (revert p; refine alC ?_ (fun p hp => ?_)) | rcases List.mem_cons.mp hp with rfl | hp)
    · exact ⟨he, fun (q : e = L') => nd he hd hF2 (by rw [q]; exact hF1), f2⟩
    (first | (revert p; refine alC ?_ (fun p hp => ?_)) | rcases List.mem_cons.mp hp with rfl | hp)
    · exact ⟨hT, fun (q : T = L') => nd hT hdT hF2 (by rw [q]; exact hF1), hnT⟩
    · rw [List.mem_singleton.mp hp]
      exact ⟨hL6, NL.2⟩
  · rw [List.mem_singleton.mp hp]
    intro (q : L = T)
    exact nd hT hdT (show ({ oL with slots := sl } : Obj).data = .dict es ep from hdl) (by rw [← q]; exact hL6)
end
-- G8
section
set_option maxRecDepth 100000
set_option maxHeartbeats 1000000
section
variable {w : World} {d u : Nat} {f : Option (List Env)} {g : Option (List Code)} {s : Shared} {E Q : Value → Shared → Prop} {mean : ExcName → Option Value} {mg mb : Str → Option Value}

theorem refused_ {env : Env} {h₀ : Heap} {L l : Addr} {m : Str → Option Value} {news : List (Addr × Obj)} {vs : List Value} {zs : List Int}
  (F₀ : Fr h₀ L s.heap m) (N₀ : News h₀ L s.heap news) (X₀ : (Mine.hd.heap_39 w.params).In h₀) (T₀ : Top Mine.hd.view_39 (looseW Mine.hd.view_39 []) mean mg mb h₀) (hf : env.frame = some L) (hke : env.scope.kind = .function) (hA2 : d < 350)
  (hlL : l ≠ L) (hl : s.heap.IsList l vs.toArray) (hi : IntsAre vs (0 :: zs))
  (hQ : ∀ h' tk gs, (AllBare s.gens → AllBare gs) → Fr h₀ L h' m → News h₀ L h' news → Q (.bool true) {s with heap := h', toks := tk, gens := gs}) :
  wpAny (model Challenge.rw_pd0146_01.row.prog w) (Around.mk none d (some [env]) g u) (call (.ref 181) [.ref l]) Q E s := by
  refine' enterH (hid := []) (env := env) (binds := [("row", .ref l)]) F₀ X₀ T₀ News.nil hf hke ?k6 ?k7 (Nat.lt_trans hA2 (by decide)) (BindsTo.of_eq ?k8) ?k9 ?_ ?c1 ?c2 ?c3 ?c4
  (((case k6 => k_is); (case k7 => k_is); (case k8 => rfl); (case k9 => exact locs (by rfl)); (case c1 => rfl); (case c2 => rfl); (case c3 => rfl); (case c4 => decide)))
  intro g oL h₁ L' tiC tiF _ hk0 X T hup hsub F N
  rw [List.nil_append] at N
  have hlg : g.IsList l vs.toArray := by obtain ⟨o, h1, h2⟩ := hl; exact ⟨o, hup _ _ h1 hlL (fun q hq => by cases hq), h2⟩
  clear F₀ X₀ T₀ hl
  (repeat' (first | (k_unfold; (try dsimp only)) | (k_end; kc_close) | (k_here; (with_reducible show wpAny _ _ (call (Value.ref 174) [Value.ref _]) _ _ _); refine stopHere ?_) | walk1 | (dsimp only; walk1) | (leave1; (try dsimp only))))
  unfold Stop
  (refine qE3A3 (F.ns) fun oL' eL pL hL1 hL2 hL3 => ?_)
  have NL := N _ List.mem_cons_self
  refine drawnX_ (base := g) (envs := [_, env]) (frs := [(L', oL'), (L, oL)]) (zs := zs) (Frag.In.keeps X F.keep) (Top.keeps T F.keep) (by (first | omega | (dsimp only; omega) | (simp only [depth_deeper, depth_in1, depth_caller, Around.deeper]; omega) | (simp [Around.deeper]; omega))) (Heap.IsList.at hlg fun o e => F.keep _ _ e) hi F.keep (Nat.le_trans F.above (Nat.le_of_lt F.ns.lt)) ⟨show ScopeKind.function ≠ ScopeKind.module by decide, rfl, ⟨eL, pL, hL2⟩, tiF⟩ ?frs rfl ?_
  case frs =>
    intro p hp
    (first | (revert p; refine alC ?_ (fun p hp => ?_)) | rcases List.mem_cons.mp hp with rfl | hp)
    · exact ⟨hL1, Heap.get?_none_of_le F.above⟩
    · rw [List.mem_singleton.mp hp]
      exact ⟨NL.1, NL.2.2⟩
  intro h5 tk5 gs5 e a0 hb5 FW up
  refine wpAny_looks_onW rfl rfl FW fun h6 HW up6 => ?_
  (refine qE1A1 (heldUp F N tiC.dict HW (up.trans up6)) fun sl hh => ?_)
  have tiF2 := frs_sl (sl := sl) tiF
  have hh2 := hh.held
  clear HW up up6 FW tiF NL hL1 hL2 hL3 F N
  k_steps
  (try dsimp only)
  (rename Fr _ _ _ _ => kF2)
  (rename News _ _ _ _ => kN2)
  (refine qE0A2 (backN (fresh := []) tiC hk0 hup (fun p hp q hq => by cases hq) N₀ kF2 kN2 (by k_mem) (by exact trivial)) fun F9 N9 => ?_)
  exact hQ _ _ _ hb5 F9 N9
end
end
-- L5
section
set_option maxRecDepth 100000
set_option maxHeartbeats 1000000
section
variable {w : World} {d u : Nat} {f : Option (List Env)} {g : Option (List Code)} {s : Shared} {E Q : Value → Shared → Prop} {mean : ExcName → Option Value} {mg mb : Str → Option Value}

theorem st3 {se : Shared} (hKp : Kept se s) {H : Heap} {L fa : Addr} {dc : Value} {nl : List (Str × Value)} {news : List (Addr × Obj)} {uf : Str → Option Value} (X : (Mine.hd.heap_39 w.params).In H) (T : Top Mine.hd.view_39 (looseW Mine.hd.view_39 []) mean mg mb H)
  (J : J3 L nl news) (F : Fr H L s.heap (locsOf nl uf)) (N : News H L s.heap news) :
  wpAny (model Challenge.rw_pd0146_01.row.prog w) (callerA.deeper (lawEnv lawScope L fa dc)) (exec (lawAt 3) (lawEnv lawScope L fa dc)) (AfterG se H L (J3 L)) E s := by
  have hJ := J
  revert F N hJ
  apply J
  clear J
  intro a b z e i x va vb vz ve vi vx na nb nz ne ni nx xs ys zs es ws cs1 hcs hva hvb hvz hve hX hY hZ hes oa ob oz oe oi hvi ox hvx hW hnm
  apply hcs
  clear hcs
  intro c1 c2 c3 c4 c5 d1 d2 d3 d4 d5 F N hJ
  generalize hsc : lawScope = sc
  conv at hsc => lhs; whnf
  subst hsc
  generalize hst : lawAt 3 = st
  conv at hst => lhs; whnf
  subst hst
  have hzl : vz.length ≤ 3 := by rw [hvz.length]; exact hZ.hi
  have hvl : vz.length = zs.length := hvz.length
  have hil : vi.length ≤ 7 := by rw [hvi.length]; exact ivs_len hZ
  have hz0 := hZ.lo
  have hz3 := hZ.hi
  (refine qE1A3 (siz_last hZ) fun q hq hq1 hq3 => ?_)
  unfold lawEnv
  (repeat' ((fail_if_success ((with_reducible show wpAny _ _ (eval (PySem.Expr.IfExp _ _ _ _) _) _ _ _))); first | (k_unfold; (try dsimp only)) | (k_end; kc_close) | walk1 | (dsimp only; walk1) | (leave1; (try dsimp only))))
  (rename Fr _ _ _ _ => kF)
  (rename News _ _ _ _ => kN)
  refine afterU s (fun v => ∃ t, v = .int (if es = [0, 5] then 7 else (zs.length : Int)) t) kF kN ?A1 ?A2
  case A1 =>
    rcases end_is hve hes with ⟨ta, tb, rfl, hc⟩ | ⟨ta, tb, rfl, hc⟩ | ⟨rfl, hc⟩
    · rw [if_pos (by simpa using hc)]
      (repeat' (first | (k_unfold; (try dsimp only)) | (k_end; kc_close) | (k_here; (with_reducible show wpAny _ _ (subscriptTail (PySem.Expr.Name _ _) (PySem.Expr.Slice _ _ _ _) (Value.ref _) (Value.ref _)) _ _ _); (with_reducible show wpAny _ _ (subscriptTail _ (PySem.Expr.Slice _ _ none _) (Value.ref _) (Value.ref _)) _ _ _); k_dflt (refine' kms_slice_lit (by k_asm) (by k_asm) (by kmk_list) (by kmk_part) (by kmk_part) (by exact rfl) ?_ (by with_unfolding_all rfl) (by kmk_pure) (by (((try simp only [sizeLine_eq, List.length_cons, List.length_nil, List.length_append, List.length_replicate, List.length_map, Array.length_toList, List.size_toArray]); omega)))); intro zrDq zrhq zrFq zrNq zrl1; (try k_lt zrl1); (try k_sweep)) | walk1 | (dsimp only; walk1) | (leave1; (try dsimp only))))
      exact afterUE (by assumption) (by assumption) ⟨_, rfl⟩ (by repeat (first | exact SubL.refl _ | apply SubL.cons)) rfl
    all_goals (
      rw [if_neg (by simpa using hc)]
      (repeat' (first | (k_unfold; (try dsimp only)) | (k_end; kc_close) | (k_here; (with_reducible show wpAny _ _ (subscriptTail (PySem.Expr.Name _ _) (PySem.Expr.Slice _ _ _ _) (Value.ref _) (Value.ref _)) _ _ _); (with_reducible show wpAny _ _ (subscriptTail _ (PySem.Expr.Slice _ _ none _) (Value.ref _) (Value.ref _)) _ _ _); k_dflt (refine' kms_slice_lit (by k_asm) (by k_asm) (by kmk_list) (by kmk_part) (by kmk_part) (by exact rfl) ?_ (by with_unfolding_all rfl) (by kmk_pure) (by (((try simp only [sizeLine_eq, List.length_cons, List.length_nil, List.length_append, List.length_replicate, List.length_map, Array.length_toList, List.size_toArray]); omega)))); intro zrDq zrhq zrFq zrNq zrl1; (try k_lt zrl1); (try k_sweep)) | walk1 | (dsimp only; walk1) | (leave1; (try dsimp only))))
      exact afterUE (by assumption) (by assumption) ⟨_, rfl⟩ (by repeat (first | exact SubL.refl _ | apply SubL.cons)) rfl)
  case A2 =>
    clear kF kN
    have hiv := iv_test3 hZ (es := es)
    (intro v h tk; intro zqi; refine qE1A1 zqi fun t zqr1 => ?_; clear zqi; subst zqr1; intro F N)
    generalize hK : (if es = [0, 5] then (7 : Int) else (zs.length : Int)) = K at hiv ⊢
    have hK0 : 0 ≤ K := by rw [← hK]; split <;> lia
    (repeat' ((fail_if_success ((with_reducible show wpAny _ _ (binaryOp _ (Value.ref _) (Value.ref _)) _ _ _))); first | (k_unfold; (try dsimp only)) | (k_end; kc_close) | (k_here; (with_reducible show wpAny _ _ (compareOp CmpOp.NotEq (Value.ref _) (Value.ref _)) _ _ _); k_dflt (refine' ke_ne_ints (by kmk_list) (by kmk_list) (by (first | assumption | (repeat (first | exact IntsAre.nil | refine IntsAre.cons _ _ ?_)))) (by (first | assumption | (repeat (first | exact IntsAre.nil | refine IntsAre.cons _ _ ?_)))) (by (first | exact Nat.le_of_ble_eq_true rfl | ((try simp only [units_deeper, units_in1, cLine_is]); omega) | ((try simp only [units_deeper, units_in1, cLine_is]); dsimp only; omega))) ?_)) | walk1 | (dsimp only; walk1) | (leave1; (try dsimp only))))
    k_dflt (refine' kmk_add_lit ?adF ?adN ?ada ?adb ?ade ?_ ?adz; (case adF => k_asm); (case adN => k_asm); (case ada => kmk_list); (case adb => kmk_list); (case ade => exact rfl); (case adz => (((try simp only [sizeLine_eq, List.length_cons, List.length_nil, List.length_append, List.length_replicate, List.length_map, Array.length_toList, List.size_toArray]); omega))); k_whole)
    intro l' h' F' N' l1
    (try k_lt l1)
    (try k_sweep)
    (repeat' (first | (k_unfold; (try dsimp only)) | (k_end; kc_close) | (k_here; (with_reducible show wpAny _ _ (compareOp CmpOp.NotEq (Value.ref _) (Value.ref _)) _ _ _); k_dflt (refine' ke_ne_ints (by kmk_list) (by kmk_list) (by (first | assumption | (repeat (first | exact IntsAre.nil | refine IntsAre.cons _ _ ?_)))) (by (first | assumption | (repeat (first | exact IntsAre.nil | refine IntsAre.cons _ _ ?_)))) (by (first | exact Nat.le_of_ble_eq_true rfl | ((try simp only [units_deeper, units_in1, cLine_is]); omega) | ((try simp only [units_deeper, units_in1, cLine_is]); dsimp only; omega))) ?_)) | (k_here; (with_reducible show wpAny _ _ (call (Value.ref 181) [Value.ref _]) _ _ _); refine stopHere ?_) | walk1 | (dsimp only; walk1) | (leave1; (try dsimp only))))
    unfold Stop
    (rename Fr _ _ _ _ => kF)
    (rename News _ _ _ _ => kN)
    refine refused_ (zs := zs) kF kN X T rfl rfl (by (first | omega | (dsimp only; omega) | (simp only [depth_deeper, depth_in1, depth_caller, Around.deeper]; omega) | (simp [Around.deeper]; omega))) ?ne ⟨_, (kN _ (.head _)).1, rfl, _, rfl⟩ (IntsAre.cons _ _ hvz) ?_
    (case ne => exact (kN _ (.head _)).2.1)
    intro h9 tk9 gs9 hb9 F N
    clear kF kN
    k_steps
    exact AfterG.intro (by assumption) (by assumption) hJ (by first | exact agr (by with_unfolding_all rfl) | (refine ⟨?_, ?_, trivial⟩ <;> with_unfolding_all rfl)) (by first | exact subI [0, 1, 2, 3, 4, 5, 6, 7, 8, 9, 10] rfl | exact subI [1, 2, 3, 4, 5, 6, 7, 8, 9, 10, 11] rfl | exact subI [2, 3, 4, 5, 6, 7, 8, 9, 10, 11, 12] rfl | exact subI [3, 4, 5, 6, 7, 8, 9, 10, 11, 12, 13] rfl | exact ⟨by k_mem, by k_mem, by k_mem, by k_mem, by k_mem, by k_mem, by k_mem, by k_mem, by k_mem, by k_mem, by k_mem, trivial⟩) ⟨hKp.1, hb9 hKp.2⟩
end
end
-- P13
section
set_option maxRecDepth 100000
set_option maxHeartbeats 1000000
structure Dk (ws zs : List Int) (kvs : List (Int × Value)) : Prop where
  nodup : (kvs.map (·.1)).Nodup
  keys : ∀ k, k ∈ kvs.map (·.1) ↔ k ∈ zs
  vals : ∀ p ∈ kvs, ∃ t, p.2 = Value.str (S (pathN ws p.1)) t
  len : kvs.length ≤ zs.length
theorem Dk.nil (ws : List Int) : Dk ws [] [] := ⟨List.nodup_nil, by simp, by simp, Nat.le_refl _⟩
theorem stored_keys (kvs : List (Int × Value)) (k : Int) (v : Value) : (stored kvs k v).map (·.1) = if k ∈ kvs.map (·.1) then kvs.map (·.1) else kvs.map (·.1) ++ [k] := by
  unfold stored
  by_cases h : k ∈ kvs.map (·.1)
  · have h2 : kvs.any (fun kv => kv.1 = k) = true := by
      (refine qE1A2 (List.mem_map.mp h) fun p hp e => ?_)
      exact List.any_eq_true.mpr ⟨p, hp, by simpa using e⟩
    rw [if_pos h2, if_pos h, List.map_map]
    refine List.map_congr_left fun p hp => ?_
    show (if p.1 = k then (p.1, v) else p).1 = p.1
    split <;> rfl
  · have h2 : ¬ kvs.any (fun kv => kv.1 = k) = true := by
      intro q
      (refine qE1A2 (List.any_eq_true.mp q) fun p hp e => ?_)
      exact h (List.mem_map.mpr ⟨p, hp, by simpa using e⟩)
    rw [if_neg h2, if_neg h, List.map_append]; rfl
theorem stored_mem {kvs : List (Int × Value)} {k : Int} {v : Value} {p : Int × Value} (h : p ∈ stored kvs k v) : p = (k, v) ∨ p ∈ kvs := by
  unfold stored at h
  split at h
  · (refine qE1A2 (List.mem_map.mp h) fun q hq e => ?_)
    by_cases hk : q.1 = k
    · rw [if_pos hk] at e
      left; rw [← e, hk]
    · rw [if_neg hk] at e
      right; rw [← e]; exact hq
  · rcases List.mem_append.mp h with h | h
    · exact .inr h
    · exact .inl (List.mem_singleton.mp h)
theorem Dk.step {ws zs : List Int} {kvs : List (Int × Value)} (h : Dk ws zs kvs) (k : Int) (t : Tok) : Dk ws (zs ++ [k]) (stored kvs k (.str (S (pathN ws k)) t)) := by
  refine ⟨?_, fun q => ?_, fun p hp => ?_, ?_⟩
  · rw [stored_keys]
    split
    · exact h.nodup
    · rename_i hk
      rw [List.nodup_append]
      refine ⟨h.nodup, by simp, fun a ha b hb e => ?_⟩
      rw [List.mem_singleton] at hb
      exact hk (hb ▸ e ▸ ha)
  · rw [stored_keys, List.mem_append, List.mem_singleton, ← h.keys]
    split
    · rename_i hk
      constructor
      · exact .inl
      · rintro (q | rfl)
        · exact q
        · exact hk
    · rw [List.mem_append, List.mem_singleton]
  · rcases stored_mem hp with rfl | hp
    · exact ⟨t, rfl⟩
    · exact h.vals p hp
  · have := h.len
    have := stored_length_le kvs k (Value.str (S (pathN ws k)) t)
    rw [List.length_append, List.length_singleton]; lia
theorem Dk.get {ws zs : List Int} {kvs : List (Int × Value)} (h : Dk ws zs kvs) {k : Int} (hk : k ∈ zs) : ∃ t, valueAt kvs k = some (.str (S (pathN ws k)) t) := by
  (refine qE1A2 (List.mem_map.mp ((h.keys k).mpr hk)) fun p hp e => ?_)
  unfold valueAt
  cases q : kvs.find? fun kv => kv.1 = k with
  | none =>
    have := List.find?_eq_none.mp q p hp
    simp [e] at this
  | some r =>
    have h1 := List.mem_of_find?_eq_some q
    have h2 := List.find?_some q
    (refine qE1A1 (h.vals r h1) fun t ht => ?_)
    have h3 : r.1 = k := by simpa using h2
    exact ⟨t, by rw [Option.map_some, ht, h3]⟩
end
-- B2
section
set_option maxRecDepth 100000
set_option maxHeartbeats 3200000
section
variable {prog : Program} {w : World} {A : Around} {E : Value → Shared → Prop} {s : Shared} {K : Type} [DecidableEq K] {knd : KeyKind prog w K}
theorem iterSetK {a : Addr} {S : K → Bool} {n : Nat} {Q : Value → Shared → Prop} (hS : SetGK knd s.heap a S n (!byText w))
    (hQ : ∀ h' d I fp (P : Nat → Value → Prop) (St : Nat → Heap → Prop), (∀ b o, s.heap.get? b = some o → h'.get? b = some o) → s.heap.objs.size ≤ h'.objs.size → (∀ A' : Around, A'.handled = none → Walks prog w A' I fp [I] n P St) → St 0 h' → (∀ b ∈ fp, b < h'.objs.size) → I ∈ fp → s.heap.get? I = none → (∀ b ∈ fp, b = a ∨ s.heap.get? b = none) →
      (∀ acc : Array Value, ItemsOf P acc n → ∀ v ∈ acc.toList, ∃ k, knd.is k v = true) → Q (.ref I) { s with heap := h', drawn := d }) :
    wpAny (model prog w) A (pyIter (.ref a)) Q E s := by
  refine iterSetE hS fun h' d I fp P St c1 c2 c3 c4 c5 c6 c7 c8 c9 => hQ h' d I fp P St c1 c2 c3 c4 c5 c6 c7 c8 fun acc ha v hv => ?_
  (refine qE1A4 (c9 acc ha) fun l e _ hel _ => ?_)
  rw [e] at hv
  (refine qE1A2 (List.mem_map.mp hv) fun q hq zqr2 => ?_; subst zqr2)
  obtain ⟨⟨k, h1, _⟩, _⟩ := hel q hq
  exact ⟨k, h1⟩
end
end
-- B3
section
set_option maxRecDepth 100000
set_option maxHeartbeats 3200000
theorem slot_bool_hash : Slot "bool" "__hash__" "int.__hash__" :=
  .of (owner := "int") (n := "__hash__") (by rw [typeLookup_type, builtinLookup_eq_fast]; kernel_rfl) (by decide +kernel) (by decide +kernel) (by decide +kernel)
    (by first | exact .inl (by decide +kernel) | exact .inr (by decide +kernel)) (by rw [isSubtype_type]; kernel_rfl)
section
variable {prog : Program} {w : World} {A : Around} {E : Value → Shared → Prop} {s : Shared}
theorem pyHash_true {Q : Int → Shared → Prop} (h : Q 1 { s with toks := s.toks + 1 }) : wpAny (model prog w) A (pyHash (.bool true)) Q E s := by
  unfold pyHash pyHashByItsType
  have hv : [Value.bool true].any Value.onHeap = false := rfl
  refine wpAny_bind ?_
  rw [cRoomFor, if_neg (by rw [hv]; exact Bool.false_ne_true)]; refine wpAny_pure ?_
  refine wpAny_bind (wpAny_specialOf (PySem.typeIs_bool s true) slot_bool_hash.lookup ?_)
  show wpAny _ _ (if (some (Value.builtin "int.__hash__") == some Value.none) = true then _ else _) Q E s
  rw [if_neg (by rw [beq_builtin_none]; exact Bool.false_ne_true)]
  refine wpAny_bind (wpAny_specialOf (PySem.typeIs_bool s true) slot_bool_hash.lookup ?_)
  show wpAny _ _ (callSpecialIfBoundUnlessNone? (.bool true) "__hash__" _ >>= _) Q E s
  refine wpAny_bind (wpAny_callSpecialIfBoundUnlessNone?_slot (PySem.typeIs_bool s true) slot_bool_hash
    (wpAny_call_entry slot_bool_hash (PySem.typeIs_bool s true) entry_int_hash
      (show wpAny _ _ (do ret (← mkInt 1)) _ _ s from wpAny_ret_mkInt ?_) (args_int_hash _)))
  show wpAny _ _ (if (decide (-(2 : Int) ^ 63 ≤ 1) && decide ((1 : Int) < 2 ^ 63)) = true then _ else _) Q E _
  rw [if_pos (by decide)]
  exact wpAny_pure h
theorem eq_true {a b : Unit} {Q : Bool → Shared → Prop} (h : Q (decide (a = b)) s) : wpAny (model prog w) A (eqBool (.bool true) (.bool true)) Q E s := by
  unfold eqBool
  refine wpAny_holding ?_
  rw [if_pos (by decide)]
  have e : decide (a = b) = true := by simp
  rw [e] at h
  exact wpAny_bind (wpAny_rule (wpAny_pure h))
end
noncomputable def isTrueV : Value → Bool
  | .bool true => true
  | _ => false
theorem isTrueV_shape {v : Value} (h : isTrueV v = true) : v = .bool true := by
  cases v with
  | bool b => cases b <;> simp_all [isTrueV]
  | _ => simp_all [isTrueV]
noncomputable def trueKind (prog : Program) (w : World) : KeyKind prog w Unit where
  is := fun _ v => isTrueV v
  hash := fun _ => 1
  inj := fun _ _ _ _ _ => rfl
  byValue := fun _ v h => by rw [isTrueV_shape h]; rfl
  pyHash := fun hv h => by rw [isTrueV_shape hv]; exact pyHash_true h
  eqBool := fun hu hv h => by
    rw [isTrueV_shape hu, isTrueV_shape hv]
    exact eq_true h
  «strs» := fun k x t v h => by simp [isTrueV] at h
section
variable {prog : Program} {w : World} {A : Around} {E : Value → Shared → Prop} {s : Shared}
noncomputable def TrueSet (prog : Program) (w : World) (h : Heap) (a : Addr) (n : Nat) : Prop := SetGK (trueKind prog w) h a (fun _ => decide (n = 1)) n (!byText w)
theorem TrueSet.typeIs {a : Addr} {n : Nat} (h : TrueSet prog w s.heap a n) : s.TypeIs (.ref a) "set" := let ⟨o, _, _, _, ho, hc, _⟩ := h; ⟨o, ho, hc.1⟩
theorem add_true {a : Addr} {n : Nat} {Q : Value → Shared → Prop} (hS : TrueSet prog w s.heap a n) (hn : n ≤ 1)
    (h : ∀ h', Heap.SameBut a s.heap h' → TrueSet prog w h' a 1 → Q .none { s with heap := h', toks := s.toks + 1 }) :
    wpAny (model prog w) A (call (.builtin "set.add") [.ref a, .bool true]) Q E s := by
  refine wpAny_call_entry PySem.F.slot_set_add hS.typeIs PySem.F.entry_set_add ?_ (PySem.F.args_set_add_2 _ _)
  unfold Builtin.«set.add» Builtin.Frozenset.oneOther
  simp only [List.isEmpty_nil, bind_assoc]
  unfold Builtin.Frozenset.addrOf setAdd
  refine wpAny_bind (wpAny_pure ?_)
  try dsimp only
  refine wpAny_bind (wpAny_pure ?_)
  try dsimp only
  refine wpAny_bind ?_
  refine wpAny_holding ?_
  refine wpAny_bind (pyHash_true ?_)
  refine addHashedK (knd := trueKind prog w) (k := ()) (s := { s with toks := s.toks + 1 }) rfl rfl hS (by unfold scanBound; lia) fun h' hsb hS' => ?_
  show wpAny _ _ (ret Value.none) _ _ _
  refine wpAny_pure ⟨_, rfl, h h' hsb (hS'.congr (fun k => by simp) ?_)⟩
  by_cases h1 : n = 1
  · rw [if_pos (by simpa using h1)]; exact h1
  · rw [if_neg (by simpa using h1)]; lia
theorem new_true : TrueSet prog w (s.heap.push { cls := .type "set", dict := none, data := .set #[] 0 (.fresh 0 0 (!byText w)) }) s.heap.objs.size 0 :=
  ⟨_, #[], 0, _, Heap.get?_push_size _ rfl, ⟨rfl, rfl, rfl⟩, rfl, fun e he => by simp at he, fun k => by simp, by decide, by rfl, rfl, fresh_good _⟩
theorem newSet_true {Q : Value → Shared → Prop} (h : Q (.ref s.heap.objs.size) { s with heap := s.heap.push { cls := .type "set", dict := none, data := .set #[] 0 (.fresh 0 0 (!byText w)) } }) : wpAny (model prog w) A (newSet (.type "set")) Q E s := by
  unfold newSet
  refine wpAny_bind (byText_ask ?_)
  dsimp only
  simp only [newObj]
  exact wpAny_bind (wpAny_alloc (wpAny_pure h))
theorem unpack_true {a : Addr} {Q : List Value → Shared → Prop} (hh : A.handled = none) (hS : TrueSet prog w s.heap a 1)
    (hQ : ∀ h' d tk, (∀ b o, s.heap.get? b = some o → h'.get? b = some o) → Q [.bool true] { s with heap := h', drawn := d, toks := tk }) : wpAny (model prog w) A (unpackItems (.ref a) 1 none) Q E s := by
  unfold unpackItems
  refine wpAny_bind ?_
  unfold notIterableAtAll
  refine wpAny_bind (wpAny_specialOf hS.typeIs PySem.F.slot_set_iter.lookup ?_)
  refine wpAny_pure ?_
  simp only [Bool.false_eq_true, if_false]
  refine wpAny_bind (wpAny_holding (iterSetK hS fun h' d I fp P St hk hsz W hst hfp hI hIn hfr hacc => ?_))
  have W' := W A hh
  have hone : ∀ v, P 0 v → v = .bool true := fun v hv => by
    obtain ⟨k, hk⟩ := hacc #[v] ⟨rfl, fun j u hu => by
      cases j with
      | zero => simp at hu; subst hu; exact hv
      | succ j => simp at hu⟩ v (by simp)
    exact isTrueV_shape hk
  have hIk : ∀ {h1 : Heap}, (∀ b o, b ∉ [I] → h'.get? b = some o → h1.get? b = some o) → ∀ b o, s.heap.get? b = some o → h1.get? b = some o := fun hk1 b o e =>
    hk1 b o (fun hm => by rw [List.mem_singleton.mp hm, hIn] at e; cases e) (hk b o e)
  refine wpAny_bind (wpAny_holding (m := draw (.ref I) 1) ?_)
  show wpAny _ _ (pyNext (.ref I) >>= _) _ _ _
  refine wpAny_bind (W'.item 0 { s with heap := h', drawn := d } _ _ Nat.one_pos hst fun v h1 tk1 hP hst1 hk1 => ?_)
  obtain rfl := hone v hP
  refine wpAny_bind (wpAny_holding (wpAny_pure (wpAny_pure ?_)))
  rw [if_neg (by simp)]
  refine wpAny_bind (wpAny_holding (W'.done _ _ _ hst1 fun h2 tk2 hk2 => ?_))
  simp only [Option.isSome_none, Bool.false_eq_true, if_false]
  exact wpAny_pure (hQ h2 d tk2 fun b o e => hk2 b o (fun hm => by rw [List.mem_singleton.mp hm, hIn] at e; cases e) (hIk hk1 b o e))
end
end
-- M1
section
set_option maxRecDepth 100000
set_option maxHeartbeats 2000000
theorem slot_map_iter : Slot "map" "__iter__" "map.__iter__" :=
  .of (owner := "map") (n := "__iter__") (by rw [typeLookup_type, builtinLookup_eq_fast]; kernel_rfl) (by decide +kernel) (by decide +kernel) (by decide +kernel)
    (by first | exact .inl (by decide +kernel) | exact .inr (by decide +kernel)) (by rw [isSubtype_type]; kernel_rfl)
theorem slot_map_next : Slot "map" "__next__" "map.__next__" :=
  .of (owner := "map") (n := "__next__") (by rw [typeLookup_type, builtinLookup_eq_fast]; kernel_rfl) (by decide +kernel) (by decide +kernel) (by decide +kernel)
    (by first | exact .inl (by decide +kernel) | exact .inr (by decide +kernel)) (by rw [isSubtype_type]; kernel_rfl)
theorem slot_map_init : Slot "map" "__init__" "object.__init__" :=
  .of (owner := "object") (n := "__init__") (by rw [typeLookup_type, builtinLookup_eq_fast]; kernel_rfl) (by decide +kernel) (by decide +kernel) (by decide +kernel)
    (by first | exact .inl (by decide +kernel) | exact .inr (by decide +kernel)) (by rw [isSubtype_type]; kernel_rfl)
theorem entry_map_next : entryFor table "map.__next__" = some Builtin.«map.__next__» := entryFor_of_fast (by kernel_rfl)
theorem entry_map_new : entryFor table "map.__new__" = some Builtin.«map.__new__» := entryFor_of_fast (by kernel_rfl)
theorem entry_map_iter : entryFor table "map.__iter__" = some Builtin.«dict_keyiterator.__iter__» :=
  entryFor_alias (id' := "dict_keyiterator.__iter__") (by kernel_rfl) rfl (by decide +kernel) (by kernel_rfl)
theorem args_map_iter (a : Value) : argsOk "map.__iter__" ⟨[a], []⟩ := by unfold argsOk; kernel_rfl
theorem args_map_next (a : Value) : argsOk "map.__next__" ⟨[a], []⟩ := by unfold argsOk; kernel_rfl
theorem plain_map_new : plainId "map.__new__" = true := by decide +kernel
theorem map_no_len : typeLookup (.type "map") "__len__" = pure none := by rw [typeLookup_type, builtinLookup_eq_fast]; kernel_rfl
theorem map_no_hint : typeLookup (.type "map") "__length_hint__" = pure none := by rw [typeLookup_type, builtinLookup_eq_fast]; kernel_rfl
theorem mro_map : mroOf (.type "map") = pure [.type "map", .type "object"] := by rw [mroOf_type]; kernel_rfl
theorem lookup_map_new : typeLookup (.type "map") "__new__" = pure (some (.builtin "map.__new__")) := by rw [typeLookup_type, builtinLookup_eq_fast]; kernel_rfl
theorem called_map : TypeCalled "map" "map.__new__" "object.__init__" :=
  ⟨by decide +kernel, by decide +kernel, ⟨_, _, mro_map⟩, madeBy_type mro_map lookup_map_new (by decide +kernel), by decide +kernel, by rw [isSubtype_type]; kernel_rfl, slot_map_init⟩
theorem typeCall_map_2 (a b : Value) : checkTypeCall "map" ⟨[a, b], []⟩ = pure () := by kernel_rfl
theorem newCall_map_2 (a b : Value) : checkBuiltinCall "map.__new__" ⟨[.type "map", a, b], []⟩ = pure () := by kernel_rfl
theorem sub_map_self : isSubtype (.type "map") (.type "map") = pure true := by rw [isSubtype_type]; kernel_rfl
theorem isType_map : isType (.type "map") = pure true := by rfl
theorem args_init_map (obj a b : Value) : argsOk "object.__init__" ⟨[obj, a, b], []⟩ := by unfold argsOk; kernel_rfl
end
-- M2
section
set_option maxRecDepth 100000
set_option maxHeartbeats 2000000
section
variable {prog : Program} {w : World} {A : Around} {E : Value → Shared → Prop} {s : Shared}
abbrev liO (l : Addr) : Obj := { cls := .type "list_iterator", data := .fields #[.ref l, .int 0 0] }
abbrev tupO (a : Addr) : Obj := { cls := .type "tuple", data := .seq #[.ref a] }
abbrev mapO (t f : Addr) : Obj := { cls := .type "map", data := .fields #[.ref t, .ref f] }
theorem code_map_new {f l : Addr} {items : Array Value} {Q₁ : Value → Shared → Prop} (hl : s.heap.IsList l items)
    (h : ∀ I T M h', I = s.heap.objs.size → T = I + 1 → M = I + 2 → h' = ((s.heap.push (liO l)).push (tupO I)).push (mapO T f) → Q₁ (.ref M) { s with heap := h' }) :
    codeAny (model prog w) A (.call (.builtin "map.__new__") ⟨[.type "map", .ref f, .ref l], []⟩) (wants Q₁ E) s := by
  refine codeAny_of_tree ?_
  show wpAny _ A.in1 (do checkBuiltinCall "map.__new__" ⟨[.type "map", .ref f, .ref l], []⟩; again (.builtin "map.__new__" ⟨[.type "map", .ref f, .ref l], []⟩)) _ _ s
  refine wpAny_bind (wpAny_of_eq (newCall_map_2 _ _) (wpAny_pure ⟨plainId_quiet plain_map_new _, codeAny_builtin entry_map_new ?_⟩))
  rw [Around.under_plainId plain_map_new _]
  unfold Builtin.«map.__new__»
  show wpAny _ A.in1 (Builtin.SmallTypes.newClass "map" _ >>= _) _ _ s
  have e1 : Builtin.SmallTypes.newClass "map" { pos := [Value.type "map", Value.ref f, Value.ref l], kw := [] } = pure (Value.type "map", [Value.ref f, Value.ref l]) := by
    unfold Builtin.SmallTypes.newClass
    dsimp only
    rw [isType_map, sub_map_self]
    rfl
  refine wpAny_bind (wpAny_of_eq e1 ?_)
  dsimp only
  refine wpAny_bind (wpAny_of_eq (a := ()) (by rfl) ?_)
  rw [if_neg (by simp)]
  refine wpAny_bind (m := Builtin.SmallTypes.iterAll [.ref l]) ?_
  unfold Builtin.SmallTypes.iterAll
  refine wpAny_bind ?_
  rw [List.forIn_cons]
  refine wpAny_bind (wpAny_bind (wpAny_holding (wpAny_pyIter_list hl ?_)))
  refine wpAny_pure ?_
  dsimp only
  rw [List.forIn_nil]
  refine wpAny_pure (wpAny_pure ?_)
  refine wpAny_bind ?_
  refine' wpAny_newObj_type ?_ ?z1
  case z1 => show 1 ≤ sizeLine; rw [sizeLine_eq]; decide
  refine wpAny_bind ?_
  show wpAny _ _ (newObj (.type "map") (.fields [Value.ref _, Value.ref f].toArray)) _ _ _
  refine' wpAny_newObj_type ?_ ?z2
  case z2 => show 2 ≤ sizeLine + 2; rw [sizeLine_eq]; decide
  refine wpAny_pure ?_
  exact h _ _ _ _ rfl (by rw [Heap.size_push]) (by rw [Heap.size_push, Heap.size_push]) rfl
theorem call_map {f l : Addr} {items : Array Value} {Q : Value → Shared → Prop} (hl : s.heap.IsList l items)
    (hQ : ∀ I T M h', I = s.heap.objs.size → T = I + 1 → M = I + 2 → h' = ((s.heap.push (liO l)).push (tupO I)).push (mapO T f) → Q (.ref M) { s with heap := h' }) :
    wpAny (model prog w) A (call (.type "map") [.ref f, .ref l]) Q E s := by
  refine callType_codes (Q₁ := fun obj s₁ => s₁.TypeIs obj "map" ∧ Q obj s₁) called_map (typeCall_map_2 _ _) F.entry_object_init
    (code_map_new hl fun I T M h' e1 e2 e3 e4 => ⟨?_, hQ I T M h' e1 e2 e3 e4⟩) fun obj s₁ h₁ => ?_
  · subst e1; subst e2; subst e3; subst e4
    refine ⟨mapO (s.heap.objs.size + 1) f, ?_, rfl⟩
    have e : s.heap.objs.size + 2 = ((s.heap.push (liO l)).push (tupO s.heap.objs.size)).objs.size := by rw [Heap.size_push, Heap.size_push]
    rw [e]
    exact Heap.get?_push_size _ rfl
  · exact ⟨h₁.1, args_init_map obj _ _, object_init_meets called_map.init.lookup called_map.made (by decide) prog w A.in1 _ s₁ ⟨h₁.1, rfl, h₁.2⟩⟩
theorem nextOf_item {I l : Addr} {items : Array Value} {i : Nat} {x : Value} {Q : Value → Shared → Prop} (hit : s.heap.IsListIter I l i) (hl : s.heap.IsList l items) (hx : items[i]? = some x)
    (hQ : ∀ h', h'.IsListIter I l (i + 1) → Heap.SameBut I s.heap h' → Q x { s with heap := h' }) : wpAny (model prog w) A (Builtin.SmallTypes.nextOf (.ref I)) Q E s := by
  (refine qE1A3 (id hit) fun o ho hc hd => ?_)
  obtain ⟨ol, hol, _, nl, hdl⟩ := hl
  unfold Builtin.SmallTypes.nextOf
  refine wpAny_bind (wpAny_callSpecial?_slot (name := Str.ofString "__next__") hit.typeIs slot_listiter_next
    (wpAny_call_entry slot_listiter_next hit.typeIs entry_listiter_next ?_ (args_listiter_next _)))
  show wpAny _ _ (field (.ref I) 0 >>= _) _ _ s
  refine wpAny_bind (wpAny_field ho hd (x := .ref l) rfl ?_)
  show wpAny _ _ (if (Value.ref l == Value.none) = true then _ else _) _ _ s
  rw [if_neg (show ¬ ((Value.ref l == Value.none) = true) from Bool.false_ne_true)]
  show wpAny _ _ (field (.ref I) 1 >>= _) _ _ s
  refine wpAny_bind (wpAny_field ho hd (x := .int i 0) rfl ?_)
  show wpAny _ _ (seqItems? (.ref l) >>= _) _ _ s
  refine wpAny_bind (wpAny_seqItems hol hdl ?_)
  simp only [Int.toNat_natCast, hx]
  refine wpAny_bind (wpAny_setField ho hd (by simp) (wpAny_pure ⟨x, rfl, wpAny_pure (hQ _ ?_ (Heap.SameBut.update ..))⟩))
  exact ⟨_, Heap.get?_update_self _ ho (Obj.isFreed_of_fields (Obj.data_mapFields hd _)), (Obj.cls_mapFields ..).trans hc, by
    rw [Obj.data_mapFields hd]; simp [rawInt]⟩
theorem nextOf_end {I l : Addr} {items : Array Value} {i : Nat} {Q : Value → Shared → Prop} (hh : A.handled = none) (hit : s.heap.IsListIter I l i) (hl : s.heap.IsList l items) (hx : items[i]? = none)
    (hE : ∀ h' e, Heap.ExtBut I s.heap h' → (∃ o, h'.get? e = some o ∧ o.cls = .type "StopIteration") → E (.ref e) { s with heap := h' }) : wpAny (model prog w) A (Builtin.SmallTypes.nextOf (.ref I)) Q E s := by
  (refine qE1A3 (id hit) fun o ho hc hd => ?_)
  obtain ⟨ol, hol, _, nl, hdl⟩ := hl
  unfold Builtin.SmallTypes.nextOf
  refine wpAny_bind (wpAny_callSpecial?_slot (name := Str.ofString "__next__") hit.typeIs slot_listiter_next
    (wpAny_call_entry slot_listiter_next hit.typeIs entry_listiter_next ?_ (args_listiter_next _)))
  show wpAny _ _ (field (.ref I) 0 >>= _) _ _ s
  refine wpAny_bind (wpAny_field ho hd (x := .ref l) rfl ?_)
  show wpAny _ _ (if (Value.ref l == Value.none) = true then _ else _) _ _ s
  rw [if_neg (show ¬ ((Value.ref l == Value.none) = true) from Bool.false_ne_true)]
  show wpAny _ _ (field (.ref I) 1 >>= _) _ _ s
  refine wpAny_bind (wpAny_field ho hd (x := .int i 0) rfl ?_)
  show wpAny _ _ (seqItems? (.ref l) >>= _) _ _ s
  refine wpAny_bind (wpAny_seqItems hol hdl ?_)
  simp only [Int.toNat_natCast, hx]
  refine wpAny_bind (wpAny_rule (wpAny_bind (wpAny_setField ho hd (by simp) ?_)))
  show wpAny _ _ (newExc (.type "StopIteration") [] >>= _) _ _ _
  refine wpAny_bind ?_
  simp only [newExc, newTuple]
  refine wpAny_bind (wpAny_newObj_type ?_ (by size_fits))
  refine wpAny_bind (m := firstArgMember _ _) (wpAny_of_eq (a := Value.none) (by first | rfl | (simp only [firstArgMember]; rfl)) ?_)
  refine wpAny_newObj_type ?_ (by size_fits)
  simp only [raiseNew]
  refine wpAny_bind (wpAny_handled ?_)
  rw [show A.in1.handled = none from hh]
  refine wpAny_bind (wpAny_pure (wpAny_throw ?_))
  exact hE _ _ (((Heap.SameBut.update ..).extBut.push _).push _) ⟨_, Heap.get?_push_size _ rfl, rfl⟩
theorem pyNext_map_item {M T I f l : Addr} {items : Array Value} {i : Nat} {x : Value} {Q : Option Value → Shared → Prop} (hM : s.heap.get? M = some (mapO T f)) (hT : s.heap.get? T = some (tupO I)) (hit : s.heap.IsListIter I l i) (hl : s.heap.IsList l items) (hx : items[i]? = some x)
    (hMI : M ≠ I)
    (hf : ∀ h', h'.IsListIter I l (i + 1) → Heap.SameBut I s.heap h' → wpAny (model prog w) A.in1 (call (.ref f) [x]) (fun v s' => Q (some v) s') (fun _ _ => False) { s with heap := h' }) :
    wpAny (model prog w) A (pyNext (.ref M)) Q E s := by
  unfold pyNext
  have hTM : s.TypeIs (.ref M) "map" := ⟨_, hM, rfl⟩
  refine wpAny_bind (wpAny_attempt (wpAny_callSpecial?_slot (name := Str.ofString "__next__") hTM slot_map_next
    (wpAny_call_entry slot_map_next hTM entry_map_next ?_ (args_map_next _))))
  show wpAny _ _ (field (.ref M) 0 >>= _) _ _ s
  refine wpAny_bind (wpAny_field hM rfl (x := .ref T) rfl ?_)
  refine wpAny_bind (wpAny_seqItems hT rfl ?_)
  dsimp only
  refine wpAny_bind ?_
  rw [← Array.forIn_toList, List.forIn_cons]
  refine wpAny_bind (wpAny_bind (wpAny_holding (nextOf_item hit hl hx fun h' hit' hs' => wpAny_pure ?_)))
  dsimp only
  rw [List.forIn_nil]
  refine wpAny_pure ?_
  have hM' : h'.get? M = some (mapO T f) := (hs'.2 M hMI).trans hM
  refine wpAny_bind (wpAny_field hM' rfl (x := .ref f) rfl ?_)
  refine wpAny_bind (wpAny_holding (wpAny_mono (hf h' hit' hs') (fun v s' hv => ?_) fun _ _ e => e.elim))
  refine wpAny_bind ?_
  show wpAny _ _ (holding _ point >>= fun _ => letGo [] _) _ _ s'
  refine wpAny_bind (wpAny_holding (wpAny_point ?_))
  show wpAny _ _ (pure ()) _ _ s'
  refine wpAny_pure (wpAny_pure ⟨v, rfl, wpAny_pure hv⟩)
theorem pyNext_map_end {M T I f l : Addr} {items : Array Value} {i : Nat} {Q : Option Value → Shared → Prop} (hh : A.handled = none) (hM : s.heap.get? M = some (mapO T f)) (hT : s.heap.get? T = some (tupO I)) (hit : s.heap.IsListIter I l i) (hl : s.heap.IsList l items) (hx : items[i]? = none)
    (hQ : ∀ h', Heap.ExtBut I s.heap h' → Q none { s with heap := h' }) : wpAny (model prog w) A (pyNext (.ref M)) Q E s := by
  unfold pyNext
  have hTM : s.TypeIs (.ref M) "map" := ⟨_, hM, rfl⟩
  refine wpAny_bind (wpAny_attempt (wpAny_callSpecial?_slot (name := Str.ofString "__next__") hTM slot_map_next
    (wpAny_call_entry slot_map_next hTM entry_map_next ?_ (args_map_next _))))
  show wpAny _ _ (field (.ref M) 0 >>= _) _ _ s
  refine wpAny_bind (wpAny_field hM rfl (x := .ref T) rfl ?_)
  refine wpAny_bind (wpAny_seqItems hT rfl ?_)
  dsimp only
  refine wpAny_bind ?_
  rw [← Array.forIn_toList, List.forIn_cons]
  refine wpAny_bind (wpAny_bind (wpAny_holding (nextOf_end (by simpa using hh) hit hl hx fun h' e hk he => ?_)))
  (refine qE1A2 (he) fun o h1 h2 => ?_; (try clear he))
  refine wpAny_bind (wpAny_isInstance (T := "StopIteration") (b := true) ⟨o, h1, h2⟩ isSubtype_stop ?_)
  exact wpAny_pure (hQ h' hk)
theorem pyIter_map {M : Addr} {o : Obj} {Q : Value → Shared → Prop} (hM : s.heap.get? M = some o) (hc : o.cls = .type "map") (h : Q (.ref M) s) : wpAny (model prog w) A (pyIter (.ref M)) Q E s := by
  have hTM : s.TypeIs (.ref M) "map" := ⟨_, hM, hc⟩
  refine wpAny_pyIter_slot hTM slot_map_iter (wpAny_call_entry slot_map_iter hTM entry_map_iter ?_ (args_map_iter _))
  show wpAny _ _ (ret (.ref M)) _ _ s
  exact wpAny_pure ⟨_, rfl, "map", _, hTM, slot_map_next.lookup, h⟩
end
end
-- M3
section
set_option maxRecDepth 100000
set_option maxHeartbeats 2000000
section
variable {prog : Program} {w : World} {A : Around} {E : Value → Shared → Prop} {s : Shared} {I M T f l : Addr} {items : Array Value} {P : Nat → Value → Prop} {g : Heap}
noncomputable def MapSt (M T I f l : Addr) (items : Array Value) (g : Heap) (i : Nat) (h : Heap) : Prop := h.get? M = some (mapO T f) ∧ h.get? T = some (tupO I) ∧ h.IsListIter I l i ∧ h.IsList l items ∧ Keeps g h
abbrev FnOk (prog : Program) (w : World) (f : Addr) (items : Array Value) (P : Nat → Value → Prop) (g : Heap) : Prop :=
  ∀ (A' : Around) (i : Nat) (x : Value) (s' : Shared) (Q : Value → Shared → Prop) (E : Value → Shared → Prop), A'.handled = none → A'.depth ≤ 385 → items[i]? = some x → Keeps g s'.heap → (∀ v h' tk, P i v → Keeps s'.heap h' → Q v { s' with heap := h', toks := tk }) → wpAny (model prog w) A' (call (.ref f) [x]) Q E s'
theorem mapWalks (hh : A.handled = none) (hd : A.depth ≤ 380) (hMI : @Ne Nat M I) (hTI : @Ne Nat T I) (hlI : @Ne Nat l I) (hgI : g.get? I = none) (hfn : FnOk prog w f items P g) :
    Walks prog w A M (M :: T :: I :: l :: List.range g.objs.size) [I] items.size P (MapSt M T I f l items g) where
  sub := fun b hb => by rw [List.mem_singleton.mp hb]; simp
  frame := fun i h h' st hk => by
    (refine qE0A5 (st) fun s1 s2 s3 s4 s5 => ?_; (try clear st))
    exact ⟨hk M (by simp) _ s1, hk T (by simp) _ s2, s3.at fun o e => hk I (by simp) o e, s4.at fun o e => hk l (by simp) o e, fun b o e => hk b (by simp [Heap.lt_size e]) o (s5 b o e)⟩
  item := fun i s Q E hi st hQ => by
    (refine qE0A5 (st) fun s1 s2 s3 s4 s5 => ?_; (try clear st))
    refine pyNext_map_item s1 s2 s3 s4 (x := items[i]) (by simp [hi]) hMI fun h' hit' hs' => ?_
    have hk5 : Keeps g h' := fun b o e => (hs'.2 b fun q => by rw [q, hgI] at e; cases e).trans (s5 b o e)
    refine hfn _ i items[i] _ _ _ (by simpa using hh) (by have := depth_in1 A; lia) (by simp [hi]) hk5 fun v h2 tk hP hk2 => ?_
    refine hQ v h2 tk hP ⟨hk2 _ _ ((hs'.2 M hMI).trans s1), hk2 _ _ ((hs'.2 T hTI).trans s2), hit'.at fun o e => hk2 _ _ e, (s4.extBut hs'.extBut hlI).at fun o e => hk2 _ _ e, hk5.trans hk2⟩ fun b o hb e => hk2 b o ((hs'.2 b fun q => hb (by rw [q]; exact List.mem_singleton.mpr rfl)).trans e)
  done := fun s Q E st hQ => by
    (refine qE0A5 (st) fun s1 s2 s3 s4 s5 => ?_; (try clear st))
    exact pyNext_map_end hh s1 s2 s3 s4 (by simp) fun h' hk => hQ h' s.toks fun b o hb e => hk b o (fun q => hb (by rw [q]; exact List.mem_singleton.mpr rfl)) e
  self := fun i s Q E st hQ => pyIter_map st.1 rfl hQ
theorem collect_map {Q : List Value → Shared → Prop} (hst : MapSt M T I f l items g 0 s.heap) (hh : A.handled = none) (hd : A.depth ≤ 380) (hMI : @Ne Nat M I) (hTI : @Ne Nat T I) (hlI : @Ne Nat l I) (hgI : g.get? I = none) (hgz : g.objs.size ≤ s.heap.objs.size) (hfn : FnOk prog w f items P g)
    (hQ : ∀ h' tk acc, (∀ b o, b ≠ I → s.heap.get? b = some o → h'.get? b = some o) → ItemsOf P acc items.size → Q acc.toList { s with heap := h', toks := tk }) (hn : items.size ≤ sizeLine) : wpAny (model prog w) A (collect (.ref M)) Q E s := by
  have hfp : ∀ b ∈ M :: T :: I :: l :: List.range g.objs.size, b < s.heap.objs.size := fun b hb => by
    obtain ⟨s1, s2, ⟨o3, s3, _⟩, ⟨o4, s4, _⟩, s5⟩ := hst
    rcases List.mem_cons.mp hb with rfl | hb
    · exact Heap.lt_size s1
    rcases List.mem_cons.mp hb with rfl | hb
    · exact Heap.lt_size s2
    rcases List.mem_cons.mp hb with rfl | hb
    · exact Heap.lt_size s3
    rcases List.mem_cons.mp hb with rfl | hb
    · exact Heap.lt_size s4
    · exact Nat.lt_of_lt_of_le (List.mem_range.mp hb) hgz
  have hSf : s.heap.objs.size ∉ M :: T :: I :: l :: List.range g.objs.size := fun hm => Nat.lt_irrefl _ (hfp _ hm)
  have hSM : s.heap.objs.size ≠ M := fun e => hSf (by rw [e]; simp)
  have W : ∀ A', A'.handled = none → A'.depth ≤ 380 → Walks prog w A' M (M :: T :: I :: l :: List.range g.objs.size) [I] items.size P (MapSt M T I f l items g) := fun A' h1 h2 => mapWalks h1 h2 hMI hTI hlI hgI hfn
  have hTy : ∀ i (s : Shared), MapSt M T I f l items g i s.heap → s.TypeIs (.ref M) "map" := fun i s st => ⟨_, st.1, rfl⟩
  have hh1 : A.in1.handled = none := by simpa using hh
  have hd1 : A.in1.depth ≤ 380 := by rw [depth_in1]; exact hd
  unfold collect
  refine wpAny_bind (wpAny_runValue (codeAny_builtin F.entry_proto_collect ?_))
  rw [Around.under_plainId F.plain_proto_collect _]
  show wpAny _ A.in1 (newList [] >>= fun l => again (.builtin "list.__iadd__" ⟨[l, .ref M], []⟩)) _ _ s
  refine wpAny_bind (wpAny_newObj_type ?_)
  refine wpAny_pure ⟨plainId_quiet F.plain_list_iadd _, codeAny_builtin F.entry_list_iadd ?_⟩
  rw [Around.under_plainId F.plain_list_iadd _]
  have hst₁ : MapSt M T I f l items g 0 (s.heap.push { cls := .type "list", data := .seq ([] : List Value).toArray }) := (W A hh hd).frame 0 s.heap _ hst fun b _ o e => Heap.get?_push_of_some _ e
  show wpAny _ A.in1 (Builtin.List.listExtendWith (.ref s.heap.objs.size) (.ref M) (.ref s.heap.objs.size)) _ _ _
  unfold Builtin.List.listExtendWith
  refine wpAny_bind (wpAny_typeOf (hTy 0 _ hst₁) ?_)
  have h1 : Builtin.List.listSameRef (.ref s.heap.objs.size) (.ref M) = false := by simp [Builtin.List.listSameRef, hSM]
  have h2 : (Value.type "map" == Value.type "list") = false := by decide
  have h3 : (Value.type "map" == Value.type "tuple") = false := by decide
  simp only [h1, h2, h3, Bool.or_false, Bool.false_eq_true, if_false]
  refine wpAny_bind ((W A.in1 hh1 hd1).self 0 _ _ _ hst₁ ?_)
  refine wpAny_bind (wpAny_holding ?_)
  unfold Builtin.List.listLengthHint
  refine wpAny_bind (wpAny_specialOf (hTy 0 _ hst₁) map_no_len ?_)
  show wpAny _ A.in1 (specialOf (Value.ref M) (Str.ofString "__length_hint__") >>= _) _ _ _
  refine wpAny_bind (wpAny_specialOf (hTy 0 _ hst₁) map_no_hint ?_)
  refine wpAny_pure ?_
  show wpAny _ A.in1 (rule "list.extend.makes-room" >>= fun _ => Builtin.List.listTouch (.ref s.heap.objs.size) >>= fun _ =>
    again (.builtin "list.extend.loop" ⟨[.ref s.heap.objs.size, .ref M, .ref s.heap.objs.size], []⟩)) _ _ _
  refine wpAny_bind (wpAny_rule ?_)
  have hS₁ : (s.heap.push { cls := .type "list", data := .seq ([] : List Value).toArray }).get? s.heap.objs.size = some { cls := .type "list", data := .seq ([] : List Value).toArray } := Heap.get?_push_size _ rfl
  refine wpAny_bind ?_
  show wpAny _ A.in1 (updateSeq s.heap.objs.size (·.push .none) >>= fun _ => updateSeq s.heap.objs.size (·.pop)) _ _ _
  refine wpAny_bind (wpAny_updateSeq hS₁ rfl ?_)
  have hS₂ := Heap.get?_update_self (Obj.mapSeq (·.push Value.none)) hS₁ rfl
  refine wpAny_updateSeq hS₂ rfl ?_
  have hS₃ := Heap.get?_update_self (Obj.mapSeq (·.pop)) hS₂ rfl
  have oth : ∀ b o, b ≠ s.heap.objs.size → (s.heap.push { cls := .type "list", data := .seq ([] : List Value).toArray }).get? b = some o →
      (((s.heap.push { cls := .type "list", data := .seq ([] : List Value).toArray }).update s.heap.objs.size (Obj.mapSeq (·.push Value.none))).update s.heap.objs.size (Obj.mapSeq (·.pop))).get? b = some o :=
    fun b o hb e => (Heap.get?_update_other _ _ (Ne.symm hb)).trans ((Heap.get?_update_other _ _ (Ne.symm hb)).trans e)
  refine wpAny_pure ⟨plainId_quiet F.plain_extend_loop _, codeAny_extend_loopS (W A.in1 hh1 hd1).toS hn _ hSf _ items.size 0 _ _ _ rfl (Nat.zero_le _)
    ((W A hh hd).frame 0 _ _ hst₁ fun b hb o e => oth b o (fun h => hSf (h ▸ hb)) e) hS₃ (ItemsOf.nil P) fun s' acc' c' hm hS' hacc => ?_⟩
  show wpAny _ A (load s.heap.objs.size >>= _) _ _ s'
  refine wpAny_bind (wpAny_load hS' (wpAny_pure ?_))
  obtain ⟨hp', g', d', tk', os'⟩ := s'
  have eg : g' = s.gens := hm.gens
  have ed : d' = s.drawn := hm.drawn
  have eo : os' = s.os := hm.os
  subst eg; subst ed; subst eo
  refine hQ hp' tk' acc' (fun b o hb e => ?_) hacc
  have hbS : b ≠ s.heap.objs.size := Nat.ne_of_lt (Heap.lt_size e)
  exact hm.heap b o (by simp only [List.mem_cons, List.not_mem_nil, or_false, not_or]; exact ⟨hbS, hb⟩) (oth b o hbS (Heap.get?_push_of_some _ e))
end
end
-- M4
section
set_option maxRecDepth 100000
set_option maxHeartbeats 2000000
section
variable {prog : Program} {w : World} {A : Around} {E : Value → Shared → Prop} {s : Shared} {I M T f l : Addr} {items : Array Value} {P : Nat → Value → Prop} {g : Heap}
abbrev tupA (acc : Array Value) : Obj := { cls := .type "tuple", data := .seq acc }
theorem code_tuple_map {Q₁ : Value → Shared → Prop} (hst : MapSt M T I f l items g 0 s.heap) (hh : A.handled = none) (hd : A.depth ≤ 370) (hMI : @Ne Nat M I) (hTI : @Ne Nat T I) (hlI : @Ne Nat l I) (hgI : g.get? I = none) (hgz : g.objs.size ≤ s.heap.objs.size) (hfn : FnOk prog w f items P g)
    (h : ∀ (h' : Heap) tk acc, (∀ b o, b ≠ I → s.heap.get? b = some o → h'.get? b = some o) → ItemsOf P acc items.size → Q₁ (.ref h'.objs.size) { s with heap := h'.push (tupA acc), toks := tk }) (hn : items.size ≤ sizeLine) :
    codeAny (model prog w) A (.call (.builtin "tuple.__new__") ⟨[.type "tuple", .ref M], []⟩) (wants Q₁ E) s := by
  refine codeAny_of_tree ?_
  show wpAny _ A.in1 (do checkBuiltinCall "tuple.__new__" ⟨[.type "tuple", .ref M], []⟩; again (.builtin "tuple.__new__" ⟨[.type "tuple", .ref M], []⟩)) _ _ s
  refine wpAny_bind (wpAny_of_eq (F.newCall_tuple_1 _) (wpAny_pure ⟨plainId_quiet F.plain_tuple_new _, codeAny_builtin F.entry_tuple_new ?_⟩))
  rw [Around.under_plainId F.plain_tuple_new _]
  have hsub := sub_tuple_self
  have hinit := init_tuple_lookup
  have hmh := madeHere_tuple
  have hTI' : s.TypeIs (.ref M) "map" := ⟨_, hst.1, rfl⟩
  have hcol : ∀ {E' : Value → Shared → Prop} {Q : List Value → Shared → Prop}, (∀ (h' : Heap) tk acc, (∀ b o, b ≠ I → s.heap.get? b = some o → h'.get? b = some o) → ItemsOf P acc items.size → Q acc.toList { s with heap := h', toks := tk }) → wpAny (model prog w) A.in1 (collect (.ref M)) Q E' s :=
    fun hq => collect_map hst (by simpa using hh) (by rw [depth_in1]; lia) hMI hTI hlI hgI hgz hfn hq hn
  wp_walk using wpAny_typeOf hTI', hcol
  intro h' tk acc hk hacc
  show wpAny _ _ (Builtin.Tuple.tupleExact acc.toList.toArray >>= fun v => ret v) _ _ _
  unfold Builtin.Tuple.tupleExact
  refine wpAny_bind (wpAny_newObj_type ?_ (by show acc.toList.toArray.size ≤ sizeLine; simp only [Array.toArray_toList]; rw [hacc.1]; exact hn))
  refine wpAny_pure ?_
  have e : acc.toList.toArray = acc := by simp
  rw [e]
  exact h h' tk acc hk hacc
theorem call_tuple_map {Q : Value → Shared → Prop} (hst : MapSt M T I f l items g 0 s.heap) (hh : A.handled = none) (hd : A.depth ≤ 370) (hMI : @Ne Nat M I) (hTI : @Ne Nat T I) (hlI : @Ne Nat l I) (hgI : g.get? I = none) (hgz : g.objs.size ≤ s.heap.objs.size) (hfn : FnOk prog w f items P g)
    (hQ : ∀ (h' : Heap) tk acc, (∀ b o, b ≠ I → s.heap.get? b = some o → h'.get? b = some o) → ItemsOf P acc items.size → Q (.ref h'.objs.size) { s with heap := h'.push (tupA acc), toks := tk }) (hn : items.size ≤ sizeLine) :
    wpAny (model prog w) A (call (.type "tuple") [.ref M]) Q E s := by
  refine callType_codes (Q₁ := fun obj s₁ => s₁.TypeIs obj "tuple" ∧ Q obj s₁) F.called_tuple (F.typeCall_tuple_1 _) F.entry_object_init
    (code_tuple_map hst (by simpa using hh) (by rw [depth_in1]; exact hd) hMI hTI hlI hgI hgz hfn (fun h' tk acc hk hacc => ⟨⟨_, Heap.get?_push_size _ rfl, rfl⟩, hQ h' tk acc hk hacc⟩) hn) fun obj s₁ h₁ => ?_
  exact ⟨h₁.1, F.args_object_init_2 obj _, object_init_meets F.called_tuple.init.lookup F.called_tuple.made (by decide) prog w A.in1 _ s₁ ⟨h₁.1, rfl, h₁.2⟩⟩
theorem tupleMapN {h₀ : Heap} {L : Addr} {m : Str → Option Value} {news : List (Addr × Obj)} {Q : Value → Shared → Prop} (F : Fr h₀ L s.heap m) (N : News h₀ L s.heap ((M, mapO T f) :: (T, tupO I) :: (I, liO l) :: news)) (hl : h₀.IsList l items) (hh : A.handled = none) (hd : A.depth ≤ 370)
    (hMI : @Ne Nat M I) (hTI : @Ne Nat T I) (off : ∀ p ∈ news, @Ne Nat p.1 I) (hn : items.size ≤ sizeLine) (hfn : FnOk prog w f items P h₀)
    (hQ : ∀ h' tk D acc, Fr h₀ L h' m → News h₀ L h' ((D, tupA acc) :: news) → (∀ p ∈ news, @Ne Nat p.1 D) → ItemsOf P acc items.size → Q (.ref D) { s with heap := h', toks := tk }) :
    wpAny (model prog w) A (call (.type "tuple") [.ref M]) Q E s := by
  have NM := N _ List.mem_cons_self
  have NT := N _ (List.mem_cons_of_mem _ List.mem_cons_self)
  have NI := N _ (List.mem_cons_of_mem _ (List.mem_cons_of_mem _ List.mem_cons_self))
  have Nn : ∀ p ∈ news, _ := fun p hp => N p (List.mem_cons_of_mem _ (List.mem_cons_of_mem _ (List.mem_cons_of_mem _ hp)))
  (refine qE1A2 (hl) fun ol hl1 hl2 => ?_; (try clear hl))
  have hlI : @Ne Nat l I := fun q => by have := NI.2.2; rw [show ((I, liO l) : Addr × Obj).1 = I from rfl, ← q, hl1] at this; cases this
  refine call_tuple_map (g := h₀) (f := f) ⟨NM.1, NT.1, ⟨_, NI.1, rfl, rfl⟩, ⟨ol, F.keep _ _ hl1, hl2⟩, F.keep⟩ hh hd hMI hTI hlI NI.2.2 (Nat.le_trans F.above (Nat.le_of_lt F.ns.lt)) hfn (fun h' tk acc hk hacc => ?_) hn
  have F' : Fr h₀ L h' m := ⟨F.ns.at' fun o e => hk _ o (Ne.symm NI.2.1) e, fun b o e => hk b o (fun q => by rw [q] at e; have := NI.2.2; rw [show ((I, liO l) : Addr × Obj).1 = I from rfl, e] at this; cases this) (F.keep b o e), F.above⟩
  have N' : News h₀ L h' news := fun p hp => ⟨hk _ _ (off p hp) (Nn p hp).1, (Nn p hp).2⟩
  exact hQ _ tk _ acc (F'.push _) (N'.push F' _) (fun p hp => Nat.ne_of_lt (Heap.lt_size (N' p hp).1)) hacc
theorem mapN {h₀ : Heap} {L : Addr} {m : Str → Option Value} {news : List (Addr × Obj)} {Q : Value → Shared → Prop} (F : Fr h₀ L s.heap m) (N : News h₀ L s.heap news) (hl : h₀.IsList l items)
    (hQ : ∀ h' I T M, Fr h₀ L h' m → News h₀ L h' ((M, mapO T f) :: (T, tupO I) :: (I, liO l) :: news) → @Ne Nat M I → @Ne Nat T I → (∀ p ∈ news, @Ne Nat p.1 I) → Q (.ref M) { s with heap := h' }) :
    wpAny (model prog w) A (call (.type "map") [.ref f, .ref l]) Q E s := by
  refine call_map (hl.at fun o e => F.keep _ _ e) fun I T M h' e1 e2 e3 e4 => ?_
  subst e1; subst e4
  have F1 := F.push (liO l)
  have N1 := N.push F (liO l)
  have F2 := F1.push (tupO s.heap.objs.size)
  have N2 := N1.push F1 (tupO s.heap.objs.size)
  have z1 : (s.heap.push (liO l)).objs.size = s.heap.objs.size + 1 := Heap.size_push _ _
  have z2 : ((s.heap.push (liO l)).push (tupO s.heap.objs.size)).objs.size = s.heap.objs.size + 2 := by rw [Heap.size_push, z1]
  rw [z1] at N2
  have F3 := F2.push (mapO T f)
  have N3 := N2.push F2 (mapO T f)
  rw [z2] at N3
  subst e2; subst e3
  refine hQ _ _ _ _ F3 N3 ?_ ?_ fun p hp => Nat.ne_of_lt (Heap.lt_size (N p hp).1)
  · show s.heap.objs.size + 2 ≠ s.heap.objs.size; lia
  · show s.heap.objs.size + 1 ≠ s.heap.objs.size; lia
theorem strs_items {vs : List Value} {xs : List TX} (h : StrsAre vs (xs.map S)) {i : Nat} {x : Value} (hx : vs.toArray[i]? = some x) : ∃ (y : TX) (t : Tok), xs[i]? = some y ∧ x = Value.str (S y) t := by
  have hx' : vs[i]? = some x := by simpa using hx
  have hi : i < xs.length := by
    have := (List.getElem?_eq_some_iff.mp hx').1
    have := h.len_eq
    rw [List.length_map] at this; lia
  have e : (xs.map S)[i]? = some (S xs[i]) := by simp [hi]
  (refine qE1A1 (h.at e) fun t ht => ?_)
  rw [hx'] at ht
  exact ⟨xs[i], t, by simp [hi], (Option.some.inj ht)⟩
theorem strs_of_items {xs : List TX} : ∀ {acc : List Value}, acc.length = xs.length → (∀ (j : Nat) (v : Value), acc[j]? = some v → ∃ (y : TX) (t : Tok), xs[j]? = some y ∧ v = Value.str (S y) t) → StrsAre acc (xs.map S) := by
  induction xs with
  | nil => intro acc hl _; rw [List.eq_nil_of_length_eq_zero hl]; exact StrsAre.nil
  | cons x r ih =>
    intro acc hl h
    cases acc with
    | nil => simp at hl
    | cons v acc =>
      (refine qE2A2 (h 0 v rfl) fun y t e1 e2 => ?_)
      simp at e1
      subst e1; subst e2
      exact StrsAre.cons _ _ (ih (by simpa using hl) fun j u hu => h (j + 1) u (by simpa using hu))
theorem strs_cons_inv {x : Str} {Y : List Str} {vs : List Value} (h : StrsAre vs (x :: Y)) : ∃ t vi, vs = .str x t :: vi ∧ StrsAre vi Y := by
  cases h with
  | cons y t r => exact ⟨t, _, rfl, r⟩
theorem tup_true {h₀ : Heap} {L : Addr} {news : List (Addr × Obj)} {t : Addr} {x : Value} {vs : List Value} {Q : Bool → Shared → Prop} (N : News h₀ L s.heap news) (hm : (t, tupA (x :: vs).toArray) ∈ news) (hz : (x :: vs).length ≤ 1000)
    (h : Q true { s with toks := s.toks + 1 + 1 }) : wpAny (model prog w) A (truthy (.ref t)) Q E s := ktl_truthyK N hm hz h
theorem tup_false {h₀ : Heap} {L : Addr} {news : List (Addr × Obj)} {t : Addr} {Q : Bool → Shared → Prop} (N : News h₀ L s.heap news) (hm : (t, tupA (List.toArray [])) ∈ news)
    (h : Q false { s with toks := s.toks + 1 + 1 }) : wpAny (model prog w) A (truthy (.ref t)) Q E s := ktl_truthyK N hm (by decide) h
theorem tup_head {h₀ : Heap} {L : Addr} {news : List (Addr × Obj)} {t : Addr} {x : Value} {vs : List Value} {Q : Value → Shared → Prop} {value slice : PySem.Expr} {u : Tok} (N : News h₀ L s.heap news) (hm : (t, tupA (x :: vs).toArray) ∈ news) (h : Q x s)
    (hs : subscripted slice false (.ref t) (.int 0 u) = operate [.ref t, .int 0 u] (getItem (.ref t) (.int 0 u))) : wpAny (model prog w) A (subscriptTail value slice (.ref t) (.int 0 u)) Q E s :=
  item_tupleT (l := x :: vs) (j := 0) (x := x) ⟨_, (N _ hm).1, rfl, 0, rfl⟩ (by decide) (by decide) (by simp [seqIndex?]) rfl h hs
end
end
-- M5
section
open PyProof.Rows.LCg
set_option maxRecDepth 100000
set_option maxHeartbeats 2000000
theorem noRaise {M : Model} {A : Around} {α : Type} {m : Sem α} {Q : α → Shared → Prop} {E : Value → Shared → Prop} {s : Shared} (h : wpAny M A m Q (fun _ _ => False) s) : wpAny M A m Q E s := wpAny_mono h (fun _ _ q => q) fun _ _ e => e.elim
section
variable {prog : Program} {w : World} {A : Around} {E : Value → Shared → Prop} {s : Shared} {h₀ : Heap} {L : Addr} {m : Str → Option Value} {env : Env}
theorem compRest_ind {elt : PySem.Expr} {x : Str} {scope : Scope} {cl : List (Str × Addr)} {S : List (Addr × Obj) → Prop} {P : Nat → Value → Prop} {Fin : List Value → List (Addr × Obj) → Prop} {n : Nat} (J : Nat → List Value → List (Addr × Obj) → Prop)
    (step : ∀ i ys news, i < n → J i ys news → ∀ v I oI C oC D m₂ h tk (E' : Value → Shared → Prop), P i v → NsObj oC m₂ → m₂ x = some v → Fr h₀ L h m → News h₀ L h ((I, oI) :: (C, oC) :: (D, lst ys) :: news) → Off3 I C D news → ((@Ne Nat I C) ∧ (@Ne Nat I D) ∧ (@Ne Nat C D)) →
      wpAny (model prog w) A (eval elt (compEnvC scope cl C env)) (CompEnd h₀ L m { s with heap := h, toks := tk } I oI C oC D (lst ys) S (fun y news' => J (i + 1) (ys ++ [y]) news')) E' { s with heap := h, toks := tk })
    (fin : ∀ ys news, J n ys news → Fin ys news) : ∀ k i ys news, i + k = n → J i ys news → CompRest prog w A h₀ L m env elt x scope cl s S P Fin k i ys news
  | 0, i, ys, news, e, hj => CompRest.zero (fin ys news (by have : i = n := by lia
                                                            rw [← this]; exact hj))
  | k + 1, i, ys, news, e, hj => CompRest.succ fun v I oI C oC D m₂ h tk E' hP hC hx F N off ne =>
    wpAny_mono (step i ys news (by lia) hj v I oI C oC D m₂ h tk E' hP hC hx F N off ne) (fun y s₂ ⟨h', tk', news', e1, e2, e3, e4, e5, e6⟩ =>
      ⟨h', tk', news', e1, e2, e3, e4, e5, compRest_ind J step fin k (i + 1) (ys ++ [y]) news' (by lia) e6⟩) fun _ _ e => e
noncomputable def SrcW (prog : Program) (w : World) (A : Around) (E : Value → Shared → Prop) (h₀ : Heap) (L : Addr) (m : Str → Option Value) (env : Env) (elt : PySem.Expr) (x : Str) (scope : Scope) (cl : List (Str × Addr)) (Fin : Shared → List Value → List (Addr × Obj) → Prop) (xv : Value) (s₁ : Shared) : Prop :=
  wpAny (model prog w) A (pyIter xv) (fun it s₂ => ∃ I fp n P St S news, it = .ref I ∧ Walks prog w A I fp [I] n P St ∧ n ≤ sizeLine ∧ (∀ i h, St i h → ∃ o, h.get? I = some o) ∧
    (∀ i h h' o nw, St i h → h.get? I = some o → h'.get? I = some o → (∀ b o, h₀.get? b = some o → h'.get? b = some o) → News h₀ L h' nw → S nw → St i h') ∧ St 0 s₂.heap ∧ (∀ b ∈ fp, b < s₂.heap.objs.size) ∧
    Fr h₀ L s₂.heap m ∧ News h₀ L s₂.heap news ∧ L ≠ I ∧ h₀.get? I = none ∧ (∀ p ∈ news, p.1 ≠ I) ∧ S news ∧ CompRest prog w A h₀ L m env elt x scope cl s₂ S P (Fin s₂) n 0 [] news) E s₁
theorem ListComp_W {elt iter : PySem.Expr} {x : Str} {px : Pos} {scope : Scope} {cl : List (Str × Addr)} {pos : Pos} {Q : Value → Shared → Prop} (_F₀ : Fr h₀ L s.heap m)
    (hclos : closureFor scope env = pure cl) (hcell : ∀ y ∈ scope.names, y.2 ≠ .cell) (hkind : scope.kind = .function)
    (hnames : ∀ y ∈ scope.names, y.2 = .local → scope.names.lookup y.1 = some .local) (hx : scope.names.lookup x = some .local)
    (h : wpAny (model prog w) A (eval iter env) (SrcW prog w A E h₀ L m env elt x scope cl (fun s₂ => FinE h₀ L m s₂ Q)) E s)
    (hs : ∀ x, foldedSetIterable iter env x = pure x) :
    wpAny (model prog w) A (eval (.ListComp elt [⟨.Name x px, iter, [], 0⟩] scope pos) env) Q E s := by
  rw [eval_ListComp]
  refine wpAny_comprehension_free (use := none) rfl hs hclos hkind hnames (wpAny_mono h (fun xv s₁ h₁ => ?_) fun _ _ e => e)
  refine wpAny_mono h₁ (fun it s₂ h₂ => ?_) fun _ _ e => e
  obtain ⟨I, fp, n, P, St, Sr, news, rfl, W, hsz, hIo, hSt, hst, hfp, F, N, hIL, hI₀, off, hS, R⟩ := h₂
  refine block_U W hsz hIo hSt hcell hkind hx hst hfp F N hIL hI₀ off hS R ?_
  intro D C h tk m' ys news' F' N' o1 hn hC₀ hD₀ hCL hDL hCD offC fin
  refine ⟨m', hn, fun h'' hs'' => fin D h'' tk (F'.change hs'' hCL hC₀) (fun p hp => ?_) o1⟩
  refine ⟨hs''.extBut _ _ ?_ (N' p hp).1, (N' p hp).2⟩
  rcases List.mem_cons.mp hp with rfl | hp
  · exact Ne.symm hCD
  · exact offC p hp
theorem Assign_ListComp_W {elt iter : PySem.Expr} {x y : Str} {px py : Pos} {scope : Scope} {cl : List (Str × Addr)} {pos spos : Pos} {Q : Flow → Shared → Prop} (_F₀ : Fr h₀ L s.heap m) (hLe : env.locals = L)
    (hsw : swapsWith (.ListComp elt [⟨.Name x px, iter, [], 0⟩] scope pos) (some (.Name y py)) spos.line env = pure true)
    (hclos : closureFor scope env = pure cl) (hcell : ∀ z ∈ scope.names, z.2 ≠ .cell) (hkind : scope.kind = .function)
    (hnames : ∀ z ∈ scope.names, z.2 = .local → scope.names.lookup z.1 = some .local) (hx : scope.names.lookup x = some .local)
    (hy : env.kindOf y = some .local) (hp : (env.scope.kind == .class || (env.scope.kind == .module && env.locals != env.globals)) = false)
    (h : wpAny (model prog w) A (eval iter env) (SrcW prog w A E h₀ L m env elt x scope cl (fun s₂ => FinA h₀ L m s₂ y Q)) E s)
    (hs : ∀ x, foldedSetIterable iter env x = pure x) :
    wpAny (model prog w) A (exec (.Assign [.Name y py] (.ListComp elt [⟨.Name x px, iter, [], 0⟩] scope pos) spos) env) Q E s := by
  subst hLe
  rw [exec_Assign_Name_used _ _ _ _ hsw]
  refine wpAny_bind (wpAny_standAt (wpAny_bind ?_))
  show wpAny _ A (do let _ ← comprehension (.ListComp elt [⟨.Name x px, iter, [], 0⟩] scope pos) scope env _ (newList []) false (eval iter env) (some (assign (.Name y py) env))) _ _ s
  refine wpAny_bind (wpAny_mono (wpAny_comprehension_free (use := some (assign (.Name y py) env)) (Q := fun _ s' => Q .next s') rfl hs hclos hkind hnames
    (wpAny_mono h (fun xv s₁ h₁ => ?_) fun _ _ e => e)) (fun _ s' hq => wpAny_pure (wpAny_pure hq)) fun _ _ e => e)
  refine wpAny_mono h₁ (fun it s₂ h₂ => ?_) fun _ _ e => e
  obtain ⟨I, fp, n, P, St, Sr, news, rfl, W, hsz, hIo, hSt, hst, hfp, F, N, hIL, hI₀, off, hS, R⟩ := h₂
  refine block_U W hsz hIo hSt hcell hkind hx hst hfp F N hIL hI₀ off hS R ?_
  intro D C h' tk m' ys news' F' N' o1 hn hC₀ hD₀ hCL hDL hCD offC fin
  show wpAny _ A (assign (.Name y py) env (.ref D)) _ _ _
  refine wpAny_assign_Name (wpAny_storeName_local hy F'.ns (fun h₂ hn₂ hs₂ => ?_) hp)
  have hL₀ : h₀.get? env.locals = none := Heap.get?_none_of_le F'.above
  have F₂ : Fr h₀ env.locals h₂ (fun z => if z = y then some (.ref D) else m z) := ⟨hn₂, fun b o e => hs₂.extBut b o (fun q => by rw [q, hL₀] at e; cases e) (F'.keep b o e), F'.above⟩
  refine ⟨m', hn.sameBut hs₂ hCL, fun h'' hs'' => fin D h'' _ (F₂.change hs'' hCL hC₀) (fun p hp => ?_) o1⟩
  have z : h₂.get? p.1 = some p.2 := hs₂.extBut _ _ (N' p hp).2.1 (N' p hp).1
  refine ⟨hs''.extBut _ _ ?_ z, (N' p hp).2⟩
  rcases List.mem_cons.mp hp with rfl | hp
  · exact Ne.symm hCD
  · exact offC p hp
theorem srcTup {elt : PySem.Expr} {x : Str} {scope : Scope} {cl : List (Str × Addr)} {Fin : Shared → List Value → List (Addr × Obj) → Prop} {t : Addr} {its : Array Value} {news : List (Addr × Obj)} {s₁ : Shared}
    (hh : A.handled = none) (F : Fr h₀ L s₁.heap m) (N : News h₀ L s₁.heap news) (hm : (t, tupA its) ∈ news) (hsz : its.size ≤ sizeLine)
    (h : ∀ g, CompRest prog w A h₀ L m env elt x scope cl { s₁ with heap := g } (fun nw => (t, tupA its) ∈ nw) (fun i v => its[i]? = some v) (Fin { s₁ with heap := g }) its.size 0 [] news) :
    SrcW prog w A E h₀ L m env elt x scope cl Fin (.ref t) s₁ := by
  have ht : s₁.heap.IsTuple t its := ⟨_, (N _ hm).1, rfl, 0, rfl⟩
  have hlt : t < s₁.heap.objs.size := Heap.lt_size (N _ hm).1
  refine wpAny_pyIter_tuple ht ?_
  refine ⟨s₁.heap.objs.size, _, its.size, _, _, (fun nw => (t, tupA its) ∈ nw), news, rfl, Walks.tuple hh s₁.heap.objs.size t (Nat.ne_of_lt hlt) its, hsz, (fun i h st => by obtain ⟨o, e, _⟩ := st.1; exact ⟨o, e⟩), ?_, ⟨⟨_, Heap.get?_push_size _ rfl, rfl, rfl⟩, ht.push _⟩, ?_, F.push _, (fun p hp => ⟨Heap.get?_push_of_some _ (N p hp).1, (N p hp).2⟩), Nat.ne_of_lt F.ns.lt, next_is_new F, fun p hp => Nat.ne_of_lt (Heap.lt_size (N p hp).1), hm, h _⟩
  · intro i h h' o nw st e e' k N' hm'
    exact ⟨by obtain ⟨o', q, r⟩ := st.1; rw [e] at q; cases q; exact ⟨o, e', r⟩, ⟨_, (N' _ hm').1, rfl, 0, rfl⟩⟩
  · intro b hb
    show b < (s₁.heap.push _).objs.size
    rw [Heap.size_push]
    rcases List.mem_cons.mp hb with rfl | hb
    · exact Nat.lt_succ_self _
    · rw [List.mem_singleton.mp hb]; exact Nat.lt_succ_of_lt hlt
end
end
-- B4
section
open PyProof.Rows.LCg
set_option maxRecDepth 100000
set_option maxHeartbeats 3200000
section
variable {prog : Program} {w : World} {A : Around} {E : Value → Shared → Prop} {R : Result → Shared → Prop} {s : Shared}
theorem compTurn_set1 (elt target iter : PySem.Expr) (scope : Scope) (pos : Pos) (it acc : Value) (env : Env) :
    compTurn (.SetComp elt [⟨target, iter, [], 0⟩] scope pos) 0 it acc env = (standAt iter.pos >>= fun _ => pyNext it >>= fun r => match r with
      | none => pure (.done .next)
      | some v => letOwnedTupleGo target it v >>= fun _ => assign target env v >>= fun _ =>
        (eval elt env >>= fun x => standAt elt.pos >>= fun _ => call (.builtin "set.add") [acc, x] >>= fun _ => pure ()) >>= fun _ =>
          again (.compLoop (.SetComp elt [⟨target, iter, [], 0⟩] scope pos) 0 it acc env)) := by rfl
theorem codeAny_compLoop_set {elt target iter : PySem.Expr} {scope : Scope} {pos : Pos} {it acc : Value} {env : Env} (I : Nat → Shared → Prop)
    (turn : ∀ n s, I n s → wpAny (model prog w) A (pyNext it) (fun r s₁ => match r with
      | none => R (.ok .next) s₁
      | some v => wpAny (model prog w) A (assign target env v) (fun _ s₂ => wpAny (model prog w) A (eval elt env) (fun x s₃ =>
          wpAny (model prog w) A (call (.builtin "set.add") [acc, x]) (fun _ s₄ => ∃ m, m < n ∧ I m s₄) (notedBy (model prog w) A env fun e s' => R (.error e) s') s₃)
          (notedBy (model prog w) A env fun e s' => R (.error e) s') s₂) (notedBy (model prog w) A env fun e s' => R (.error e) s') s₁) (notedBy (model prog w) A env fun e s' => R (.error e) s') s)
    (n : Nat) (h : I n s) (ht : ∀ v, letOwnedTupleGo target it v = pure ()) :
    codeAny (model prog w) A (.compLoop (.SetComp elt [⟨target, iter, [], 0⟩] scope pos) 0 it acc env) R s := by
  refine codeAny_loop rfl I (fun n s hI => ?_) n h
  show wpAny _ _ ((compTurn (.SetComp elt [⟨target, iter, [], 0⟩] scope pos) 0 it acc env).onRaise (fun x => do noteFrame x env; theTreesLotGoes x)) _ _ s
  refine wpAny_noted ?_
  rw [compTurn_set1]
  refine wpAny_bind (wpAny_standAt (wpAny_bind (wpAny_mono (turn n s hI) (fun r s₁ h₁ => ?_) fun _ _ h' => h')))
  cases r with
  | none => exact wpAny_pure h₁
  | some v =>
    refine wpAny_bind (wpAny_of_eq (ht v) ?_)
    exact wpAny_bind (wpAny_mono h₁ (fun _ s₂ h₂ => wpAny_bind (wpAny_bind (wpAny_mono h₂ (fun x s₃ h₃ => wpAny_bind (wpAny_standAt (wpAny_bind (wpAny_mono h₃
      (fun _ s₄ h₄ => wpAny_pure (wpAny_pure ⟨rfl, h₄⟩)) fun _ _ h' => h')))) fun _ _ h' => h'))) fun _ _ h' => h')
theorem codeAny_compStart_set {elt target iter ifs rest scope pos it acc env}
    (h0 : codeAny (model prog w) A (.compLoop (.SetComp elt (⟨target, iter, ifs, 0⟩ :: rest) scope pos) 0 it acc env) R s)
    (h : wpAny (model prog w) A (pyIter it) (fun it' s' => codeAny (model prog w) A (.compLoop (.SetComp elt (⟨target, iter, ifs, 0⟩ :: rest) scope pos) 0 it' acc env) R s')
      (notedBy (model prog w) A env fun x s' => R (.error x) s') s) :
    codeAny (model prog w) A (.compStart (.SetComp elt (⟨target, iter, ifs, 0⟩ :: rest) scope pos) 0 it acc env) R s := by
  refine codeAny_of_tree ?_
  show wpAny _ _ ((compStart (.SetComp elt (⟨target, iter, ifs, 0⟩ :: rest) scope pos) 0 it acc env).onRaise (fun x => do noteFrame x env; standAt theWindowsPlace)) _ _ s
  refine wpAny_notedAt ?_
  unfold compStart
  show wpAny _ _ (ask >>= _) _ _ s
  refine wpAny_bind (wpAny_askSetting (wpAny_ite ?_))
  split
  · exact wpAny_pure ⟨rfl, h0⟩
  · refine wpAny_bind (wpAny_rule ?_)
    show wpAny _ _ (standAt iter.pos >>= _) _ _ s
    refine wpAny_bind (wpAny_standAt ?_)
    refine wpAny_bind (wpAny_mono h (fun it' s' h' => wpAny_pure ⟨rfl, h'⟩) fun _ _ e => e)
variable {h₀ : Heap} {L : Addr} {m : Str → Option Value} {env : Env}
noncomputable def CLS {X : Type} (s : Shared) (h₀ : Heap) (L C : Addr) (n : Nat) (m : Str → Option Value) (news : List (Addr × Obj)) (IT : Heap → Nat → Prop) (DP : Heap → Nat → X → Prop) (k : Nat) (s' : Shared) : Prop :=
  ∀ P : Nat → Shared → Prop, (∀ (h' : Heap) (tk i : Nat) (m' : Str → Option Value) (y : X), i ≤ n → IT h' i → Fr h₀ L h' m → h'.Ns C m' → News h₀ L h' news → DP h' i y → P (n + 1 - i) { s with heap := h', toks := tk }) → P k s'
theorem CLS.mk {X : Type} {s : Shared} {h₀ : Heap} {L C : Addr} {n : Nat} {m : Str → Option Value} {news : List (Addr × Obj)} {IT : Heap → Nat → Prop} {DP : Heap → Nat → X → Prop} {h' : Heap} {tk i : Nat} {m' : Str → Option Value} (y : X)
    (a : i ≤ n) (b : IT h' i) (c : Fr h₀ L h' m) (d : h'.Ns C m') (e : News h₀ L h' news) (f : DP h' i y) : CLS s h₀ L C n m news IT DP (n + 1 - i) { s with heap := h', toks := tk } := fun _ q => q h' tk i m' y a b c d e f
theorem SetComp_true {elt iter : PySem.Expr} {x : Str} {px : Pos} {scope : Scope} {cl : List (Str × Addr)} {pos : Pos} {Q : Value → Shared → Prop} {t : Addr} {its : Array Value} {news : List (Addr × Obj)}
    (hclos : closureFor scope env = pure cl) (hcell : ∀ y ∈ scope.names, y.2 ≠ .cell) (hkind : scope.kind = .function)
    (hnames : ∀ y ∈ scope.names, y.2 = .local → scope.names.lookup y.1 = some .local) (hx : scope.names.lookup x = some .local)
    (hh : A.handled = none) (F : Fr h₀ L s.heap m) (N : News h₀ L s.heap news) (hm : (t, tupA its) ∈ news) (hsz : its.size ≤ 1000) (hpos : 1 ≤ its.size)
    (h : ∀ Q' : Value → Shared → Prop, Q' (.ref t) s → wpAny (model prog w) A (eval iter env) Q' E s)
    (helt : ∀ (i : Nat) v I oI C oC D oD m₂ h tk (E' : Value → Shared → Prop), its[i]? = some v → NsObj oC m₂ → m₂ x = some v → Fr h₀ L h m → News h₀ L h ((I, oI) :: (C, oC) :: (D, oD) :: news) → Off3 I C D news → ((@Ne Nat I C) ∧ (@Ne Nat I D) ∧ (@Ne Nat C D)) →
      wpAny (model prog w) A (eval elt (compEnvC scope cl C env)) (CompEnd h₀ L m { s with heap := h, toks := tk } I oI C oC D oD (fun _ => True) (fun y news' => y = .bool true ∧ news' = news)) E' { s with heap := h, toks := tk })
    (hQ : ∀ D oD h tk, Fr h₀ L h m → News h₀ L h ((D, oD) :: news) → (∀ p ∈ news, @Ne Nat p.1 D) → TrueSet prog w h D 1 → Q (.ref D) { s with heap := h, toks := tk })
    (hs : ∀ x, foldedSetIterable iter env x = pure x) :
    wpAny (model prog w) A (eval (.SetComp elt [⟨.Name x px, iter, [], 0⟩] scope pos) env) Q E s := by
  show wpAny _ A (comprehension (.SetComp elt [⟨.Name x px, iter, [], 0⟩] scope pos) scope env _ (newSet (.type "set")) false (eval iter env)) Q E s
  refine wpAny_comprehension_free (use := none) rfl hs hclos hkind hnames (h _ ?_)
  have ht : s.heap.IsTuple t its := ⟨_, (N _ hm).1, rfl, 0, rfl⟩
  have hlt : t < s.heap.objs.size := Heap.lt_size (N _ hm).1
  refine wpAny_pyIter_tuple ht ?_
  generalize hI : s.heap.objs.size = I at hlt ⊢
  have hIL : L ≠ I := by rw [← hI]; exact Nat.ne_of_lt F.ns.lt
  have hI₀ : h₀.get? I = none := by rw [← hI]; exact next_is_new F
  have offI : ∀ p ∈ news, p.1 ≠ I := fun p hp => by rw [← hI]; exact Nat.ne_of_lt (Heap.lt_size (N p hp).1)
  have hit : (s.heap.push { cls := .type "tuple_iterator", data := .fields #[.ref t, .int 0 0] }).IsTupleIter I t 0 := ⟨_, by rw [← hI]; exact Heap.get?_push_size _ rfl, rfl, rfl⟩
  have F1 := F.push { cls := .type "tuple_iterator", data := .fields #[.ref t, .int 0 0] }
  have N1 : News h₀ L (s.heap.push { cls := .type "tuple_iterator", data := .fields #[.ref t, .int 0 0] }) news := fun p hp => ⟨Heap.get?_push_of_some _ (N p hp).1, (N p hp).2⟩
  have hI1 : I < (s.heap.push { cls := .type "tuple_iterator", data := .fields #[.ref t, .int 0 0] }).objs.size := by rw [Heap.size_push, hI]; exact Nat.lt_succ_self _
  generalize s.heap.push { cls := .type "tuple_iterator", data := .fields #[.ref t, .int 0 0] } = H1 at hit F1 N1 hI1 ⊢
  refine newSet_true ?_
  refine wpAny_newFunctionEnv hcell (by intro y hy; simp at hy) (fun h₁ hns₁ hsb₁ => ?_) hkind
  dsimp only at hns₁ hsb₁ ⊢
  have hD0 : TrueSet prog w (H1.push { cls := .type "set", dict := none, data := .set #[] 0 (.fresh 0 0 (!byText w)) }) H1.objs.size 0 := new_true (s := { s with heap := H1 })
  have hget0 : (H1.push { cls := .type "set", dict := none, data := .set #[] 0 (.fresh 0 0 (!byText w)) }).get? H1.objs.size = some { cls := .type "set", dict := none, data := .set #[] 0 (.fresh 0 0 (!byText w)) } := Heap.get?_push_size _ rfl
  have hz2 : (H1.push { cls := .type "set", dict := none, data := .set #[] 0 (.fresh 0 0 (!byText w)) }).objs.size = H1.objs.size + 1 := Heap.size_push _ _
  have hk2 : ∀ b o, H1.get? b = some o → (H1.push { cls := .type "set", dict := none, data := .set #[] 0 (.fresh 0 0 (!byText w)) }).get? b = some o := fun b o e => Heap.get?_push_of_some _ e
  generalize H1.push { cls := .type "set", dict := none, data := .set #[] 0 (.fresh 0 0 (!byText w)) } = H2 at hns₁ hsb₁ hD0 hget0 hz2 hk2 ⊢
  generalize hDe : H1.objs.size = D at hD0 hget0 hz2 hI1 ⊢
  generalize hCe : H2.objs.size = C at hns₁ hsb₁ hz2 ⊢
  have hDC : D ≠ C := by rw [hz2]; exact Nat.ne_of_lt (Nat.lt_succ_self _)
  have hID : I ≠ D := Nat.ne_of_lt hI1
  have hIC : I ≠ C := by rw [hz2]; exact Nat.ne_of_lt (Nat.lt_succ_of_lt hI1)
  have low : ∀ b o, H1.get? b = some o → b ≠ D ∧ b ≠ C := fun b o e => by
    have := Heap.lt_size e
    rw [hDe] at this
    exact ⟨Nat.ne_of_lt this, by rw [hz2]; exact Nat.ne_of_lt (Nat.lt_succ_of_lt this)⟩
  have old : ∀ b o, H1.get? b = some o → h₁.get? b = some o := fun b o e => hsb₁.extBut b o (low b o e).2 (Heap.get?_push_of_some _ (hk2 b o e))
  (refine qE3A2 (F1.ns) fun oL _ _ hL _ => ?_)
  have hDL : D ≠ L := (low _ _ hL).1.symm
  have hCL : C ≠ L := (low _ _ hL).2.symm
  have fresh₀ : ∀ a, D ≤ a → h₀.get? a = none := fun a ha => by
    cases e : h₀.get? a with
    | none => rfl
    | some o' =>
      have := Heap.lt_size (F1.keep a o' e)
      rw [hDe] at this
      exact absurd this (Nat.not_lt.mpr ha)
  have hD₀ : h₀.get? D = none := fresh₀ _ (Nat.le_refl _)
  have hC₀ : h₀.get? C = none := fresh₀ _ (by rw [hz2]; exact Nat.le_succ _)
  have off₀ : Off3 I C D news := Off3.of fun p hp => ⟨offI p hp, (low _ _ (N1 p hp).1).2, (low _ _ (N1 p hp).1).1⟩
  have off3 := off₀.mem
  have hS1 : TrueSet prog w h₁ D 0 := hD0.at fun o e => hsb₁.extBut _ _ hDC (Heap.get?_push_of_some _ e)
  have htL : t ≠ I := Nat.ne_of_lt hlt
  have loop : ∀ s₃ : Shared, s₃ = { s with heap := h₁, toks := s.toks + ([] : List (Str × Value)).length } →
      codeAny (model prog w) A (.compLoop (.SetComp elt [⟨.Name x px, iter, [], 0⟩] scope pos) 0 (.ref I) (.ref D) (compEnvC scope cl C env))
        (compPost (model prog w) A E none Q (.ref D) C) s₃ := by
    rintro s₃ rfl
    refine codeAny_compLoop_set
      (CLS s h₀ L C its.size m news (fun h' i => h'.IsTupleIter I t i) (fun h' i (_ : Unit) => TrueSet prog w h' D (if i = 0 then 0 else 1))) ?_ (its.size + 1)
      (CLS.mk () (Nat.zero_le _) (hit.at fun o e => old _ _ e) (F1.keeps old) hns₁ (N1.grown old) hS1) (by intro _; rfl)
    intro k s' J9
    apply J9
    clear J9
    intro h' tk i m' _ hi hit' F' hn' N' hS'
    have ht' : h'.IsTuple t its := ⟨_, (N' _ hm).1, rfl, 0, rfl⟩
    by_cases hlt : i < its.size
    · refine wpAny_pyNext_tuple_item hit' ht' (x := its[i]) (by simp [hlt]) fun h₂ hit₂ hs₂ => ?_
      refine wpAny_assign_Name (wpAny_storeName_local (lookup_relabel_local hx) (hn'.sameBut hs₂ (Ne.symm hIC)) (fun h₃ hn₃ hs₃ => ?_) (by simp [compEnvC, relabel, hkind]))
      (refine qE1A2 (ns_obj hn₃) fun oC heC hoC => ?_)
      (refine qE1A3 (id hit₂) fun oI heI r1 r2 => ?_)
      have up : ∀ b o, b ≠ I → b ≠ C → h'.get? b = some o → h₃.get? b = some o := fun b o hb1 hb2 e => hs₃.extBut b o hb2 ((hs₂.2 b hb1).trans e)
      have hI3 : h₃.get? I = some oI := hs₃.extBut _ _ hIC heI
      have F₃ : Fr h₀ L h₃ m := (F'.change hs₂ (Ne.symm hIL) hI₀).change hs₃ hCL hC₀
      (refine qE4A2 (id hS') fun oD es ep tt heD rD => ?_)
      have hD3 : h₃.get? D = some oD := up _ _ (Ne.symm hID) hDC heD
      have N₃ : News h₀ L h₃ ((I, oI) :: (C, oC) :: (D, oD) :: news) := fun p hp => by
        (first | (revert p; refine alC ?_ (fun p hp => ?_)) | rcases List.mem_cons.mp hp with rfl | hp)
        · exact ⟨hI3, Ne.symm hIL, hI₀⟩
        (first | (revert p; refine alC ?_ (fun p hp => ?_)) | rcases List.mem_cons.mp hp with rfl | hp)
        · exact ⟨heC, hCL, hC₀⟩
        (first | (revert p; refine alC ?_ (fun p hp => ?_)) | rcases List.mem_cons.mp hp with rfl | hp)
        · exact ⟨hD3, hDL, hD₀⟩
        · exact ⟨up _ _ (off3 p hp).1 (off3 p hp).2.1 (N' p hp).1, (N' p hp).2⟩
      refine wpAny_mono (helt i its[i] I oI C oC D oD _ h₃ _ _ (by simp [hlt]) hoC (by simp) F₃ N₃ off₀ ⟨hIC, hID, Ne.symm hDC⟩) (fun y s₄ h₄ => ?_) fun _ _ e => e
      (revert h₄; intro zqh; refine qE3A7 zqh fun h₄ tk₄ news₄ zqr3 F₄ N₄ off₄ _ zqr8 zqr9 => ?_; clear zqh; subst zqr3; subst zqr8; subst zqr9)
      have zI := (N₄ (I, oI) List.mem_cons_self).1
      have zC := (N₄ (C, oC) (List.mem_cons_of_mem _ List.mem_cons_self)).1
      have zD := (N₄ (D, oD) (List.mem_cons_of_mem _ (List.mem_cons_of_mem _ List.mem_cons_self))).1
      have N₄' : News h₀ L h₄ news₄ := fun p hp => N₄ p (List.mem_cons_of_mem _ (List.mem_cons_of_mem _ (List.mem_cons_of_mem _ hp)))
      have hS4 : TrueSet prog w h₄ D (if i = 0 then 0 else 1) := ⟨oD, es, ep, tt, zD, rD⟩
      refine add_true (s := { s with heap := h₄, toks := tk₄ }) hS4 (by by_cases q : i = 0 <;> simp [q]) fun h₅ hs₅ hS5 => ?_
      exact ⟨its.size + 1 - (i + 1), by (with_reducible refine ar1 ?_; lia), CLS.mk () hlt ⟨oI, (hs₅.2 I hID).trans zI, r1, r2⟩ (F₄.change hs₅ hDL hD₀) ((hoC.ns zC).sameBut hs₅ (Ne.symm hDC)) (fun p hp => ⟨(hs₅.2 p.1 (off3 p hp).2.2).trans (N₄' p hp).1, (N₄' p hp).2⟩) (by rw [if_neg (Nat.succ_ne_zero i)]; exact hS5)⟩
    · obtain rfl : i = its.size := Nat.le_antisymm hi (Nat.not_lt.mp hlt)
      refine wpAny_pyNext_tuple_end hh hit' ht' (by simp) fun h₂ hk₂ => ?_
      rw [if_neg (by lia)] at hS'
      (refine qE4A2 (id hS') fun oD es ep tt heD rD => ?_)
      have k2 : ∀ b o, b ≠ I → h'.get? b = some o → h₂.get? b = some o := fun b o hb e => hk₂ b o hb e
      have F2 : Fr h₀ L h₂ m := ⟨F'.ns.at' fun o e => k2 _ o hIL e, fun b o e => k2 b o (fun q => by rw [q, hI₀] at e; cases e) (F'.keep b o e), F'.above⟩
      refine ⟨m', hn'.at' fun o e => k2 _ o (Ne.symm hIC) e, fun h'' hs'' => hQ D oD h'' tk (F2.change hs'' hCL hC₀) (fun p hp => ?_) (fun p hp => (off3 p hp).2.2) ⟨oD, es, ep, tt, (hs''.2 D hDC).trans (k2 _ _ (Ne.symm hID) heD), rD⟩⟩
      (first | (revert p; refine alC ?_ (fun p hp => ?_)) | rcases List.mem_cons.mp hp with rfl | hp)
      · exact ⟨(hs''.2 D hDC).trans (k2 _ _ (Ne.symm hID) heD), hDL, hD₀⟩
      · exact ⟨(hs''.2 p.1 (off3 p hp).2.1).trans (k2 _ _ (off3 p hp).1 (N' p hp).1), (N' p hp).2⟩
  have htI1 : h₁.IsTupleIter I t 0 := hit.at fun o e => old _ _ e
  exact codeAny_compStart_set (loop _ rfl) (wpAny_pyIter_tupleiter htI1 (loop _ rfl))
end
end
-- B5
section
open PyProof.Rows.LCg
set_option maxRecDepth 100000
set_option maxHeartbeats 3200000
section
variable {prog : Program} {w : World} {A : Around} {E : Value → Shared → Prop} {s : Shared}
variable {h₀ : Heap} {L : Addr} {m : Str → Option Value} {env : Env}
theorem DictComp_N {K : Type} [DecidableEq K] (knd : KeyKind prog w K) (J : Nat → List (K × Value) → Prop) {kx vx iter : PySem.Expr} {x : Str} {px : Pos} {scope : Scope} {cl : List (Str × Addr)} {pos : Pos} {Q : Value → Shared → Prop} {its : List Value} {news : List (Addr × Obj)}
    (hclos : closureFor scope env = pure cl) (hcell : ∀ y ∈ scope.names, y.2 ≠ .cell) (hkind : scope.kind = .function)
    (hnames : ∀ y ∈ scope.names, y.2 = .local → scope.names.lookup y.1 = some .local) (hx : scope.names.lookup x = some .local)
    (hh : A.handled = none) (h : ∀ Q' : Value → Shared → Prop, (∀ s', (∃ g k, s' = { s with heap := g, toks := k }) → ∀ t', (∃ c, Fr h₀ L s'.heap m ∧ News h₀ L s'.heap ((t', listOf its.toArray c) :: news)) → Q' (.ref t') s') → wpAny (model prog w) A (eval iter env) Q' E s)
    (hsz : its.length ≤ 1000) (hJ0 : J 0 []) (hJl : ∀ i kvs, J i kvs → kvs.length ≤ sizeLine)
    (helt : ∀ (i : Nat) v kvs I oI C oC D oD t' c m₂ h tk (E' : Value → Shared → Prop), its[i]? = some v → J i kvs → NsObj oC m₂ → m₂ x = some v → Fr h₀ L h m → News h₀ L h ((I, oI) :: (C, oC) :: (D, oD) :: (t', listOf its.toArray c) :: news) → Off3 I C D ((t', listOf its.toArray c) :: news) → ((@Ne Nat I C) ∧ (@Ne Nat I D) ∧ (@Ne Nat C D)) →
      wpAny (model prog w) A (eval kx (compEnvC scope cl C env)) (fun kv s₁ => wpAny (model prog w) A (eval vx (compEnvC scope cl C env))
        (CompEnd h₀ L m { s with heap := h, toks := tk } I oI C oC D oD (fun _ => True) (fun y news' => news' = (t', listOf its.toArray c) :: news ∧ ∃ k, knd.is k kv = true ∧ J (i + 1) (stored kvs k y))) E' s₁) E' { s with heap := h, toks := tk })
    (hQ : ∀ D oD kvs h tk, Fr h₀ L h m → News h₀ L h ((D, oD) :: news) → (∀ p ∈ news, @Ne Nat p.1 D) → (@LT.lt Nat _ L D) → oD.IsDictOf knd kvs → J its.length kvs → Q (.ref D) { s with heap := h, toks := tk })
    (hs : ∀ x, foldedSetIterable iter env x = pure x) :
    wpAny (model prog w) A (eval (.DictComp kx vx [⟨.Name x px, iter, [], 0⟩] scope pos) env) Q E s := by
  rw [arm_eval_DictComp]
  refine wpAny_comprehension_free (use := none) rfl hs hclos hkind hnames (h _ ?_)
  (intro s₀; intro zqi; refine qE2A1 zqi fun g0 k0 zqr2 => ?_; clear zqi; subst zqr2; intro t'; intro zqi; refine qE1A2 zqi fun c' F N => ?_; clear zqi)
  dsimp only at F N
  have hm : (t', listOf its.toArray c') ∈ (t', listOf its.toArray c') :: news := .head _
  revert N hm
  generalize hNW : (t', listOf its.toArray c') :: news = NW
  intro N hm
  have hsub : ∀ p ∈ news, p ∈ NW := fun p hp => by rw [← hNW]; exact List.mem_cons_of_mem _ hp
  have ht : g0.IsList t' its.toArray := ⟨_, (N _ hm).1, rfl, _, rfl⟩
  have hlt : t' < g0.objs.size := Heap.lt_size (N _ hm).1
  refine wpAny_pyIter_list ht ?_
  dsimp only
  generalize hI : g0.objs.size = I at hlt ⊢
  have hIL : L ≠ I := by rw [← hI]; exact Nat.ne_of_lt F.ns.lt
  have hI₀ : h₀.get? I = none := by rw [← hI]; exact next_is_new F
  have offI : ∀ p ∈ NW, p.1 ≠ I := fun p hp => by rw [← hI]; exact Nat.ne_of_lt (Heap.lt_size (N p hp).1)
  have hit : (g0.push { cls := .type "list_iterator", data := .fields #[.ref t', .int 0 0] }).IsListIter I t' 0 := ⟨_, by rw [← hI]; exact Heap.get?_push_size _ rfl, rfl, rfl⟩
  have F1 := F.push { cls := .type "list_iterator", data := .fields #[.ref t', .int 0 0] }
  have N1 : News h₀ L (g0.push { cls := .type "list_iterator", data := .fields #[.ref t', .int 0 0] }) NW := fun p hp => ⟨Heap.get?_push_of_some _ (N p hp).1, (N p hp).2⟩
  have hI1 : I < (g0.push { cls := .type "list_iterator", data := .fields #[.ref t', .int 0 0] }).objs.size := by rw [Heap.size_push, hI]; exact Nat.lt_succ_self _
  generalize g0.push { cls := .type "list_iterator", data := .fields #[.ref t', .int 0 0] } = H1 at hit F1 N1 hI1 ⊢
  refine wpAny_newObj_type ?_
  refine wpAny_newFunctionEnv hcell (by intro y hy; simp at hy) (fun h₁ hns₁ hsb₁ => ?_) hkind
  dsimp only at hns₁ hsb₁ ⊢
  have hD0 : (H1.push { cls := .type "dict", dict := none, data := .dict #[] }).DictOf knd H1.objs.size [] := Heap.DictOf.new H1
  have hget0 : (H1.push { cls := .type "dict", dict := none, data := .dict #[] }).get? H1.objs.size = some { cls := .type "dict", dict := none, data := .dict #[] } := Heap.get?_push_size _ rfl
  have hz2 : (H1.push { cls := .type "dict", dict := none, data := .dict #[] }).objs.size = H1.objs.size + 1 := Heap.size_push _ _
  have hk2 : ∀ b o, H1.get? b = some o → (H1.push { cls := .type "dict", dict := none, data := .dict #[] }).get? b = some o := fun b o e => Heap.get?_push_of_some _ e
  generalize H1.push { cls := .type "dict", dict := none, data := .dict #[] } = H2 at hns₁ hsb₁ hD0 hget0 hz2 hk2 ⊢
  have hLD0 : @LT.lt Nat _ L H1.objs.size := F1.ns.lt
  generalize hDe : H1.objs.size = D at hD0 hget0 hz2 hI1 ⊢
  generalize hCe : H2.objs.size = C at hns₁ hsb₁ hz2 ⊢
  have hLD : @LT.lt Nat _ L D := by rw [← hDe]; exact hLD0
  have hDC : D ≠ C := by rw [hz2]; exact Nat.ne_of_lt (Nat.lt_succ_self _)
  have hID : I ≠ D := Nat.ne_of_lt hI1
  have hIC : I ≠ C := by rw [hz2]; exact Nat.ne_of_lt (Nat.lt_succ_of_lt hI1)
  have low : ∀ b o, H1.get? b = some o → b ≠ D ∧ b ≠ C := fun b o e => by
    have := Heap.lt_size e
    rw [hDe] at this
    exact ⟨Nat.ne_of_lt this, by rw [hz2]; exact Nat.ne_of_lt (Nat.lt_succ_of_lt this)⟩
  have old : ∀ b o, H1.get? b = some o → h₁.get? b = some o := fun b o e => hsb₁.extBut b o (low b o e).2 (Heap.get?_push_of_some _ (hk2 b o e))
  (refine qE3A2 (F1.ns) fun oL _ _ hL _ => ?_)
  have hDL : D ≠ L := (low _ _ hL).1.symm
  have hCL : C ≠ L := (low _ _ hL).2.symm
  have fresh₀ : ∀ a, D ≤ a → h₀.get? a = none := fun a ha => by
    cases e : h₀.get? a with
    | none => rfl
    | some o' =>
      have := Heap.lt_size (F1.keep a o' e)
      rw [hDe] at this
      exact absurd this (Nat.not_lt.mpr ha)
  have hD₀ : h₀.get? D = none := fresh₀ _ (Nat.le_refl _)
  have hC₀ : h₀.get? C = none := fresh₀ _ (by rw [hz2]; exact Nat.le_succ _)
  have off₀ : Off3 I C D NW := Off3.of fun p hp => ⟨offI p hp, (low _ _ (N1 p hp).1).2, (low _ _ (N1 p hp).1).1⟩
  have off3 := off₀.mem
  have hS1 : h₁.DictOf knd D [] := hD0.at fun o e => hsb₁.extBut _ _ hDC (Heap.get?_push_of_some _ e)
  have htL : t' ≠ I := Nat.ne_of_lt hlt
  have loop : ∀ s₃ : Shared, s₃ = { s with heap := h₁, toks := k0 + ([] : List (Str × Value)).length } →
      codeAny (model prog w) A (.compLoop (.DictComp kx vx [⟨.Name x px, iter, [], 0⟩] scope pos) 0 (.ref I) (.ref D) (compEnvC scope cl C env))
        (compPost (model prog w) A E none Q (.ref D) C) s₃ := by
    rintro s₃ rfl
    refine codeAny_compLoop_testsD
      (CLS s h₀ L C its.length m NW (fun h' i => h'.IsListIter I t' i) (fun h' i kvs => h'.DictOf knd D kvs ∧ J i kvs)) ?_ (its.length + 1)
      (CLS.mk [] (Nat.zero_le _) (hit.at fun o e => old _ _ e) (F1.keeps old) hns₁ (N1.grown old) ⟨hS1, hJ0⟩)
    intro k s' J9
    apply J9
    clear J9
    (intro h' tk i m' kvs hi hit' F' hn' N'; intro zqi; refine qE0A2 zqi fun hS' hj => ?_; clear zqi)
    have ht' : h'.IsList t' its.toArray := ⟨_, (N' _ hm).1, rfl, _, rfl⟩
    by_cases hlt : i < its.length
    · refine wpAny_pyNext_list_item hit' ht' (x := its[i]) (by simp [hlt]) fun h₂ hit₂ hs₂ => ?_
      refine wpAny_assign_Name (wpAny_storeName_local (lookup_relabel_local hx) (hn'.sameBut hs₂ (Ne.symm hIC)) (fun h₃ hn₃ hs₃ => ?_) (by simp [compEnvC, relabel, hkind]))
      (refine qE1A2 (ns_obj hn₃) fun oC heC hoC => ?_)
      (refine qE1A3 (id hit₂) fun oI heI r1 r2 => ?_)
      have up : ∀ b o, b ≠ I → b ≠ C → h'.get? b = some o → h₃.get? b = some o := fun b o hb1 hb2 e => hs₃.extBut b o hb2 ((hs₂.2 b hb1).trans e)
      have hI3 : h₃.get? I = some oI := hs₃.extBut _ _ hIC heI
      have F₃ : Fr h₀ L h₃ m := (F'.change hs₂ (Ne.symm hIL) hI₀).change hs₃ hCL hC₀
      (refine qE1A2 (Heap.dictOf_iff.mp hS') fun oD heD rD => ?_)
      have hD3 : h₃.get? D = some oD := up _ _ (Ne.symm hID) hDC heD
      have N₃ : News h₀ L h₃ ((I, oI) :: (C, oC) :: (D, oD) :: NW) := fun p hp => by
        (first | (revert p; refine alC ?_ (fun p hp => ?_)) | rcases List.mem_cons.mp hp with rfl | hp)
        · exact ⟨hI3, Ne.symm hIL, hI₀⟩
        (first | (revert p; refine alC ?_ (fun p hp => ?_)) | rcases List.mem_cons.mp hp with rfl | hp)
        · exact ⟨heC, hCL, hC₀⟩
        (first | (revert p; refine alC ?_ (fun p hp => ?_)) | rcases List.mem_cons.mp hp with rfl | hp)
        · exact ⟨hD3, hDL, hD₀⟩
        · exact ⟨up _ _ (off3 p hp).1 (off3 p hp).2.1 (N' p hp).1, (N' p hp).2⟩
      refine wpAny_pure ?_
      rw [if_pos rfl]
      have he := fun E' => helt i its[i] kvs I oI C oC D oD t' c' _ h₃ (tk + 1) E' (by simp [hlt]) hj hoC (by simp) F₃ (by rw [hNW]; exact N₃) (by rw [hNW]; exact off₀) ⟨hIC, hID, Ne.symm hDC⟩
      rw [hNW] at he
      refine wpAny_mono (he _) (fun kv s₃ h₃' => wpAny_mono h₃' (fun y s₄ h₄ => ?_) fun _ _ e => e) fun _ _ e => e
      obtain ⟨h₄, tk₄, news₄, rfl, F₄, N₄, off₄, _, e4, k, hk, hj'⟩ := h₄
      rw [e4] at N₄
      have zI := (N₄ (I, oI) List.mem_cons_self).1
      have zC := (N₄ (C, oC) (List.mem_cons_of_mem _ List.mem_cons_self)).1
      have zD := (N₄ (D, oD) (List.mem_cons_of_mem _ (List.mem_cons_of_mem _ List.mem_cons_self))).1
      have N₄' : News h₀ L h₄ NW := fun p hp => N₄ p (List.mem_cons_of_mem _ (List.mem_cons_of_mem _ (List.mem_cons_of_mem _ hp)))
      have hS4 : h₄.DictOf knd D kvs := Heap.dictOf_iff.mpr ⟨oD, zD, rD⟩
      refine wpAny_dictSet_pairs (s := { s with heap := h₄, toks := tk₄ }) (hsz := hJl _ _ hj) hk hS4 fun h₅ hS5 hs₅ => ?_
      exact ⟨its.length + 1 - (i + 1), by (with_reducible refine ar1 ?_; lia), CLS.mk _ hlt ⟨oI, (hs₅.2 I hID).trans zI, r1, r2⟩ (F₄.change hs₅ hDL hD₀) ((hoC.ns zC).sameBut hs₅ (Ne.symm hDC)) (fun p hp => ⟨(hs₅.2 p.1 (off3 p hp).2.2).trans (N₄' p hp).1, (N₄' p hp).2⟩) ⟨hS5, hj'⟩⟩
    · obtain rfl : i = its.length := Nat.le_antisymm hi (Nat.not_lt.mp hlt)
      refine wpAny_pyNext_list_end hh hit' ht' (by simp) fun h₂ hk₂ => ?_
      (refine qE1A2 (Heap.dictOf_iff.mp hS') fun oD heD rD => ?_)
      have k2 : ∀ b o, b ≠ I → h'.get? b = some o → h₂.get? b = some o := fun b o hb e => hk₂ b o hb e
      have F2 : Fr h₀ L h₂ m := ⟨F'.ns.at' fun o e => k2 _ o hIL e, fun b o e => k2 b o (fun q => by rw [q, hI₀] at e; cases e) (F'.keep b o e), F'.above⟩
      refine ⟨m', hn'.at' fun o e => k2 _ o (Ne.symm hIC) e, fun h'' hs'' => hQ D oD kvs h'' tk (F2.change hs'' hCL hC₀) (fun p hp => ?_) (fun p hp => (off3 p (hsub p hp)).2.2) hLD rD hj⟩
      (first | (revert p; refine alC ?_ (fun p hp => ?_)) | rcases List.mem_cons.mp hp with rfl | hp)
      · exact ⟨(hs''.2 D hDC).trans (k2 _ _ (Ne.symm hID) heD), hDL, hD₀⟩
      · exact ⟨(hs''.2 p.1 (off3 p (hsub p hp)).2.1).trans (k2 _ _ (off3 p (hsub p hp)).1 (N' p (hsub p hp)).1), (N' p (hsub p hp)).2⟩
  have htI1 : h₁.IsListIter I t' 0 := hit.at fun o e => old _ _ e
  exact codeAny_compStart_dict (loop _ rfl) (wpAny_pyIter_listiter htI1 (loop _ rfl))
end
end
-- L6
section
set_option maxRecDepth 100000
set_option maxHeartbeats 1000000
section
variable {w : World} {d u : Nat} {f : Option (List Env)} {g : Option (List Code)} {s : Shared} {E Q : Value → Shared → Prop} {mean : ExcName → Option Value} {mg mb : Str → Option Value}

noncomputable def J4 (prog : Program) (w : World) (L : Addr) (nl : List (Str × Value)) (news : List (Addr × Obj)) : Prop :=
  ∀ P : List (Str × Value) → List (Addr × Obj) → Prop, (∀ (a b i x p : Addr) (va vb vx : List Value) (na nb nx : Nat) (xs ys ws : List Int) (op : Obj) (kvs : List (Int × Value)) (cs : List (Addr × Obj)),
    Cells L (some (.ref a)) (some (.ref b)) (some (.ref i)) (some (.ref x)) (some (.ref p)) cs → IntsAre va xs → IntsAre vb ys → Num xs → Num ys → IntsAre vx ws → Wid ws → op.IsDictOf (intKind prog w) kvs → Dk ws (xs ++ ys) kvs → (p == sysModules) = false → P [] ((p, op) :: (x, listOf vx.toArray nx) :: (a, listOf va.toArray na) :: (b, listOf vb.toArray nb) :: cs)) → P nl news
theorem st4 {se : Shared} (hKp : Kept se s) {H : Heap} {L fa : Addr} {dc : Value} {nl : List (Str × Value)} {news : List (Addr × Obj)} {uf : Str → Option Value} (X : (Mine.hd.heap_39 w.params).In H) (T : Top Mine.hd.view_39 (looseW Mine.hd.view_39 []) mean mg mb H)
  (J : J3 L nl news) (F : Fr H L s.heap (locsOf nl uf)) (N : News H L s.heap news) :
  wpAny (model Challenge.rw_pd0146_01.row.prog w) (callerA.deeper (lawEnv lawScope L fa dc)) (exec (lawAt 4) (lawEnv lawScope L fa dc)) (AfterG se H L (J4 Challenge.rw_pd0146_01.row.prog w L)) E s := by
  revert F N
  apply J
  clear J
  intro a b z e i x va vb vz ve vi vx na nb nz ne ni nx xs ys zs es ws cs1 hcs hva hvb hvz hve hX hY hZ hes oa ob oz oe oi hvi ox hvx hW hnm
  apply hcs
  clear hcs
  intro c1 c2 c3 c4 c5 d1 d2 d3 d4 d5 F N
  generalize hsc : lawScope = sc
  conv at hsc => lhs; whnf
  subst hsc
  generalize hst : lawAt 4 = st
  conv at hst => lhs; whnf
  subst hst
  have hla : va.length = xs.length := hva.length
  have hlb : vb.length = ys.length := hvb.length
  have hx14 := hX.hi
  have hy14 := hY.hi
  unfold lawEnv
  (repeat' (first | (k_unfold; (try dsimp only)) | (k_end; kc_close) | (k_here; (with_reducible show wpAny _ _ (eval (PySem.Expr.DictComp _ _ _ _ _) _) _ _ _); refine stopHere ?_) | walk1 | (dsimp only; walk1) | (leave1; (try dsimp only))))
  unfold Stop
  have hxy := hva.append hvb
  have hrng : ∀ k ∈ xs ++ ys, 0 ≤ k ∧ k < 1000000 := fun k hk => by
    rcases List.mem_append.mp hk with h | h
    · exact hX.all k h
    · exact hY.all k h
  have hil : (ivsO zs es).length ≤ 10 := Nat.le_trans (ivs_len hZ) (by decide)
  refine' DictComp_N (h₀ := H) (L := L) (m := locsOf [("sizes", .ref z), ("end", .ref e)] uf) (news := [(x, W.listOf vx.toArray nx), (i, W.listOf vi.toArray ni), (z, W.listOf vz.toArray nz), (e, W.listOf ve.toArray ne), (a, W.listOf va.toArray na), (b, W.listOf vb.toArray nb), (L + 1, c1), (L + 1 + 1, c2), (L + 1 + 1 + 1, c3), (L + 1 + 1 + 1 + 1, c4), (L + 1 + 1 + 1 + 1 + 1, c5)])
    (intKind Challenge.rw_pd0146_01.row.prog w) (fun i kvs => Dk ws ((xs ++ ys).take i) kvs) (its := va ++ vb) (cl := ?cl) ?g1 ?g2 ?g3 ?g4 ?g5 rfl ?g6 ?g7 (Dk.nil ws) ?g8 ?g9 ?_ (by intro _; rfl)
  case g1 => rfl
  case g2 => decide
  case g3 => rfl
  case g4 => decide
  case g5 => rfl
  case g6 =>
    intro Q' hQ'
    (repeat' ((fail_if_success ((with_reducible show wpAny _ _ (binaryOp _ (Value.ref _) (Value.ref _)) _ _ _))); first | (k_unfold; (try dsimp only)) | (k_end; kc_close) | walk1 | (dsimp only; walk1) | (leave1; (try dsimp only))))
    k_dflt (refine' kmk_add_lit ?adF ?adN ?ada ?adb ?ade ?_ ?adz; (case adF => k_asm); (case adN => k_asm); (case ada => kmk_list); (case adb => kmk_list); (case ade => exact rfl); (case adz => (((try simp only [sizeLine_eq, List.length_cons, List.length_nil, List.length_append, List.length_replicate, List.length_map, Array.length_toList, List.size_toArray]); omega))); k_whole)
    intro l' h' F' N' l1
    (try k_lt l1)
    (try k_sweep)
    k_steps
    exact hQ' _ ⟨_, _, rfl⟩ _ ⟨_, by assumption, by assumption⟩
  case g7 => rw [List.length_append]; lia
  case g8 =>
    intro j kvs hj
    have h1 := hj.len
    have h2 := List.length_take_le' j (xs ++ ys)
    rw [List.length_append] at h2
    rw [sizeLine_eq]; lia
  case g9 =>
    intro j v kvs I oI C oC D oD t' ct m₂ h tk E' hv hj hC hm F N off nne
    (refine qE2A2 (ints_item hxy hv) fun k t zqr2 hk => ?_; subst zqr2)
    have hkr := hrng k (List.mem_of_getElem? hk)
    (repeat' (first | (k_unfold; (try dsimp only)) | (k_end; kc_close) | (k_here; (with_reducible show wpAny _ _ (call (Value.ref 188) [Value.ref _, Value.int _ _]) _ _ _); refine stopHere ?_) | walk1 | (dsimp only; walk1) | (leave1; (try dsimp only))))
    unfold Stop
    (rename Fr _ _ _ _ => kF)
    (rename News _ _ _ _ => kN)
    refine path_ (ivs := ivsO zs es) (Frag.In.keeps X kF.keep) (Top.keeps T kF.keep) (by (first | omega | (dsimp only; omega) | (simp only [depth_deeper, depth_in1, depth_caller, Around.deeper]; omega) | (simp [Around.deeper]; omega))) ⟨_, (kN (i, _) (by k_mem)).1, rfl, _, rfl⟩ hvi (ivs_all hZ) hil hkr.1 hkr.2 ?_
    intro h3 tk3 t3 hk3
    rw [hnm, show pathL (chunks ws 6 k.toNat) = pathN ws k from rfl]
    refine LCg.CompEnd.intro (kF.grownK hk3) (kN.grown hk3) _ (fun p hp => hp) off trivial ⟨rfl, k, ?_, ?_⟩
    · simp [intKind, Value.isInt]
    · rw [List.take_add_one, hk]
      exact hj.step k t3
  intro D oD kvs h tk F N offD hLD hD hj
  have hlo : (D == sysModules) = false := by
    have h1 : @LT.lt Nat _ 1 H.objs.size := modules_low T.nolimit
    have h2 : @LE.le Nat _ H.objs.size L := F.above
    exact beq_eq_false_iff_ne.mpr (Nat.ne_of_gt (Nat.lt_of_lt_of_le h1 (Nat.le_of_lt (Nat.lt_of_le_of_lt h2 hLD))))
  rw [List.length_append, hla, hlb, ← List.length_append, List.take_length] at hj
  simp only [List.mem_cons, List.not_mem_nil, or_false, forall_eq_or_imp, forall_eq] at offD
  obtain ⟨f1, f2, f3, f4, f5, f6, f7, f8, f9, f10, f11⟩ := offD
  (refine qE0A5 (id oa) fun oa1 oa2 oa3 oa4 oa5 => ?_)
  (refine qE0A5 (id ob) fun ob1 ob2 ob3 ob4 ob5 => ?_)
  (refine qE0A5 (id oz) fun oz1 oz2 oz3 oz4 oz5 => ?_)
  (refine qE0A5 (id oe) fun oe1 oe2 oe3 oe4 oe5 => ?_)
  (refine qE0A5 (id oi) fun oi1 oi2 oi3 oi4 oi5 => ?_)
  (refine qE0A5 (id ox) fun ox1 ox2 ox3 ox4 ox5 => ?_)
  k_steps
  exact AfterG.intro (by assumption) (by assumption) (fun _ k => k a b i x D va vb vx na nb nx xs ys ws oD kvs _ (fun _ k => k _ _ _ _ _ d1 d2 d3 d4 (by assumption)) hva hvb hX hY hvx hW hD hj hlo) (by exact trivial) (by first | exact subI [0, 1, 2, 3, 4, 5, 6, 7, 8] rfl | exact subI [1, 2, 3, 4, 5, 6, 7, 8, 9] rfl | exact subI [2, 3, 4, 5, 6, 7, 8, 9, 10] rfl | exact subI [3, 4, 5, 6, 7, 8, 9, 10, 11] rfl | exact ⟨by k_mem, by k_mem, by k_mem, by k_mem, by k_mem, by k_mem, by k_mem, by k_mem, by k_mem, trivial⟩) (by assumption)
end
end
-- B6
section
open PyProof.Rows.LCg
set_option maxRecDepth 100000
set_option maxHeartbeats 3200000
section
variable {prog : Program} {w : World} {A : Around} {E : Value → Shared → Prop} {s : Shared} {h₀ : Heap} {L : Addr} {m : Str → Option Value} {env : Env}
theorem srcDict {K : Type} [DecidableEq K] {knd : KeyKind prog w K} {elt : PySem.Expr} {x : Str} {scope : Scope} {cl : List (Str × Addr)} {Fin : Shared → List Value → List (Addr × Obj) → Prop} {p : Addr} {op : Obj} {kvs : List (K × Value)} {news : List (Addr × Obj)} {s₁ : Shared}
    (hh : A.handled = none) (F : Fr h₀ L s₁.heap m) (N : News h₀ L s₁.heap news) (hm : (p, op) ∈ news) (hd : op.IsDictOf knd kvs) (lo : (p == sysModules) = false) (hsz : kvs.length ≤ sizeLine)
    (h : ∀ g, CompRest prog w A h₀ L m env elt x scope cl { s₁ with heap := g } (fun nw => (p, op) ∈ nw) (fun i v => ∃ k x, kvs[i]? = some (k, x) ∧ knd.is k v = true) (Fin { s₁ with heap := g }) kvs.length 0 [] news) :
    SrcW prog w A E h₀ L m env elt x scope cl Fin (.ref p) s₁ := by
  (refine qE2A5 (id hd) fun es ep q1 q2 q3 q4 q5 => ?_)
  have hat : ∀ g : Heap, g.get? p = some op → g.DictAt knd p kvs ep := fun g e => ⟨op, es, e, q1, q2, q3, q4, q5⟩
  have hlt : p < s₁.heap.objs.size := Heap.lt_size (N _ hm).1
  refine wpAny_pyIter_dict lo (hat _ (N _ hm).1) ?_
  refine ⟨s₁.heap.objs.size, _, kvs.length, _, _, (fun nw => (p, op) ∈ nw), news, rfl, Walks.dictKeys hh s₁.heap.objs.size p (Nat.ne_of_lt hlt) kvs ep, hsz, (fun i h st => by obtain ⟨o, e, _⟩ := st.1; exact ⟨o, e⟩), ?_, ⟨⟨_, Heap.get?_push_size _ rfl, rfl, rfl⟩, (hat _ (N _ hm).1).push _⟩, ?_, F.push _, (fun p hp => ⟨Heap.get?_push_of_some _ (N p hp).1, (N p hp).2⟩), Nat.ne_of_lt F.ns.lt, next_is_new F, fun p hp => Nat.ne_of_lt (Heap.lt_size (N p hp).1), hm, h _⟩
  · intro i h h' o nw st e e' k N' hm'
    exact ⟨by obtain ⟨o', q, r⟩ := st.1; rw [e] at q; cases q; exact ⟨o, e', r⟩, hat _ (N' _ hm').1⟩
  · intro b hb
    show b < (s₁.heap.push _).objs.size
    rw [Heap.size_push]
    rcases List.mem_cons.mp hb with rfl | hb
    · exact Nat.lt_succ_self _
    · rw [List.mem_singleton.mp hb]; exact Nat.lt_succ_of_lt hlt
theorem srcList {elt : PySem.Expr} {x : Str} {scope : Scope} {cl : List (Str × Addr)} {Fin : Shared → List Value → List (Addr × Obj) → Prop} {t : Addr} {its : List Value} {c : Nat} {news : List (Addr × Obj)} {s₁ : Shared}
    (hh : A.handled = none) (F : Fr h₀ L s₁.heap m) (N : News h₀ L s₁.heap news) (hm : (t, listOf its.toArray c) ∈ news) (hsz : its.length ≤ sizeLine)
    (h : ∀ g, CompRest prog w A h₀ L m env elt x scope cl { s₁ with heap := g } (fun nw => (t, listOf its.toArray c) ∈ nw) (fun i v => its[i]? = some v) (Fin { s₁ with heap := g }) its.length 0 [] news) :
    SrcW prog w A E h₀ L m env elt x scope cl Fin (.ref t) s₁ := by
  have hat : ∀ g : Heap, g.get? t = some (listOf its.toArray c) → g.IsList t its.toArray := fun g e => ⟨_, e, rfl, _, rfl⟩
  have hlt : t < s₁.heap.objs.size := Heap.lt_size (N _ hm).1
  refine wpAny_pyIter_list (hat _ (N _ hm).1) ?_
  refine ⟨s₁.heap.objs.size, _, its.toArray.size, _, _, (fun nw => (t, listOf its.toArray c) ∈ nw), news, rfl, Walks.list hh s₁.heap.objs.size t (Nat.ne_of_lt hlt) its.toArray, by rw [List.size_toArray]; exact hsz, (fun i h st => by obtain ⟨o, e, _⟩ := st.1; exact ⟨o, e⟩), ?_, ⟨⟨_, Heap.get?_push_size _ rfl, rfl, rfl⟩, (hat _ (N _ hm).1).push _⟩, ?_, F.push _, (fun p hp => ⟨Heap.get?_push_of_some _ (N p hp).1, (N p hp).2⟩), Nat.ne_of_lt F.ns.lt, next_is_new F, fun p hp => Nat.ne_of_lt (Heap.lt_size (N p hp).1), hm, ?_⟩
  · intro i h h' o nw st e e' k N' hm'
    exact ⟨by obtain ⟨o', q, r⟩ := st.1; rw [e] at q; cases q; exact ⟨o, e', r⟩, hat _ (N' _ hm').1⟩
  · intro b hb
    show b < (s₁.heap.push _).objs.size
    rw [Heap.size_push]
    rcases List.mem_cons.mp hb with rfl | hb
    · exact Nat.lt_succ_self _
    · rw [List.mem_singleton.mp hb]; exact Nat.lt_succ_of_lt hlt
  · have := h (s₁.heap.push { cls := .type "list_iterator", data := .fields #[.ref t, .int 0 0] })
    simpa using this
end
end
-- B7
section
open PyProof.Rows.LCg PyProof.V PySem.Spec
set_option maxRecDepth 100000
set_option maxHeartbeats 3200000
noncomputable def OkT (X : List TX) : Prop := ∀ x ∈ X, ∀ c ∈ x, c < 0x110000
theorem lay_texts : ∀ {X : List TX}, OkT X → PyData.canLayAll0 ((X.map S).map PyData.str) = true
  | [], _ => rfl
  | x :: r, h => by
    have h1 : PyData.strOk (S x) = true := by
      unfold PyData.strOk
      rw [Array.all_eq_true']
      intro c hc
      have hc' : c ∈ (S x).cps.toList := by simpa using hc
      rw [S_cps] at hc'
      simpa using h x List.mem_cons_self c hc'
    have ih := lay_texts (X := r) fun y hy => h y (List.mem_cons_of_mem _ hy)
    simp only [List.map_cons, PyData.canLayAll0, PyData.canLay0]
    rw [h1, ih]; rfl
theorem depth_texts : ∀ X : List TX, PyData.depthAll ((X.map S).map PyData.str) = 0
  | [] => rfl
  | x :: r => by
    have ih := depth_texts r
    simp only [List.map_cons, PyData.depthAll, PyData.depth, ih]
    rfl
theorem shaped_texts {X : List TX} (h : OkT X) : SeqAt.shaped (.list ((X.map S).map PyData.str)) = true := by
  unfold SeqAt.shaped
  simp only [PyData.canLay0, PyData.depth, lay_texts h, depth_texts]
  rfl
theorem same_texts : ∀ X Y : List TX, PySem.Spec.sameAll ((X.map S).map PyData.str) ((Y.map S).map PyData.str) = decide (X = Y)
  | [], [] => by simp [PySem.Spec.sameAll]
  | [], _ :: _ => by simp [PySem.Spec.sameAll]
  | _ :: _, [] => by simp [PySem.Spec.sameAll]
  | x :: r, y :: t => by
    simp only [List.map_cons, PySem.Spec.sameAll, PySem.Spec.same, same_texts r t]
    by_cases h : x = y
    · subst h; by_cases h' : r = t <;> simp [h']
    · have h2 : S x ≠ S y := fun e => h (S_inj e)
      simp [h, h2]
section
variable {prog : Program} {w : World} {A : Around} {E : Value → Shared → Prop} {s : Shared} {a b : Addr} {xs ys : List Value} {X Y : List TX} {Q : Value → Shared → Prop}
theorem ne_texts (ha : s.heap.IsList a xs.toArray) (hb : s.heap.IsList b ys.toArray) (hi : StrsAre xs (X.map S)) (hj : StrsAre ys (Y.map S)) (hx : OkT X) (hy : OkT Y) (hu : A.units + 64 < cLine) (h : Q (.bool (!decide (X = Y))) s) :
    wpAny (model prog w) A (compareOp .NotEq (.ref a) (.ref b)) Q E s :=
  ne_dataH_same (reads_newData ha hi.carried) (reads_newData hb hj.carried) (shaped_texts hx) (shaped_texts hy) hu (SeqAt.noMix_of_shape (.list .str) rfl _ _ (list_map_has fun _ => rfl) (list_map_has fun _ => rfl))
    (by simp only [PySem.Spec.same]; rw [same_texts]; exact h)
end
theorem chunks_ok (ws : List Int) (low : Int) (n : Nat) : ∀ b ∈ chunks ws low n, ∀ c ∈ b, c < 0x110000 := by
  induction ws generalizing low with
  | nil => intro b hb; cases hb
  | cons w r ih =>
    intro b hb
    rw [chunks] at hb
    rcases List.mem_cons.mp hb with e | hb
    · intro c hc
      subst e
      have := digW_dig _ _ _ hc; lia
    · exact ih _ b hb
theorem path_ok {ns : List TX} (h : ∀ b ∈ ns, ∀ c ∈ b, c < 0x110000) : ∀ c ∈ pathL ns, c < 0x110000 := by
  intro c hc
  unfold pathL at hc
  split at hc
  · simp at hc; lia
  · (refine qE1A2 (List.mem_flatMap.mp hc) fun b hb hc => ?_)
    rcases List.mem_cons.mp hc with e | hc
    · lia
    · exact h b hb c hc
theorem okT_paths (ws : List Int) (ks : List Int) : OkT (ks.map (pathN ws)) := by
  intro x hx
  (refine qE1A2 (List.mem_map.mp hx) fun k _ zqr2 => ?_; subst zqr2)
  exact path_ok (chunks_ok _ _ _)
end
-- L7
section
set_option maxRecDepth 100000
set_option maxHeartbeats 1000000
section
variable {w : World} {d u : Nat} {f : Option (List Env)} {g : Option (List Code)} {s : Shared} {E Q : Value → Shared → Prop} {mean : ExcName → Option Value} {mg mb : Str → Option Value}

theorem st5 {se : Shared} (hKp : Kept se s) {H : Heap} {L fa : Addr} {dc : Value} {nl : List (Str × Value)} {news : List (Addr × Obj)} {uf : Str → Option Value} (X : (Mine.hd.heap_39 w.params).In H) (T : Top Mine.hd.view_39 (looseW Mine.hd.view_39 []) mean mg mb H)
  (J : J4 Challenge.rw_pd0146_01.row.prog w L nl news) (F : Fr H L s.heap (locsOf nl uf)) (N : News H L s.heap news) :
  wpAny (model Challenge.rw_pd0146_01.row.prog w) (callerA.deeper (lawEnv lawScope L fa dc)) (exec (lawAt 5) (lawEnv lawScope L fa dc)) (AfterG se H L (J4 Challenge.rw_pd0146_01.row.prog w L)) E s := by
  have hJ := J
  revert F N hJ
  apply J
  clear J
  intro a b i x p va vb vx na nb nx xs ys ws op kvs cs1 hcs hva hvb hX hY hvx hW hop hdk hlo
  apply hcs
  clear hcs
  intro c1 c2 c3 c4 c5 d1 d2 d3 d4 d5 F N hJ
  generalize hsc : lawScope = sc
  conv at hsc => lhs; whnf
  subst hsc
  generalize hst : lawAt 5 = st
  conv at hst => lhs; whnf
  subst hst
  unfold lawEnv
  (repeat' (first | (k_unfold; (try dsimp only)) | (k_end; kc_close) | (k_here; (with_reducible show wpAny _ _ (eval (PySem.Expr.ListComp _ _ _ _) _) _ _ _); refine stopHere ?_) | walk1 | (dsimp only; walk1) | (leave1; (try dsimp only))))
  unfold Stop
  have hkl : kvs.length ≤ sizeLine := by
    have h1 := hdk.len
    have h2 := hX.hi
    have h3 := hY.hi
    rw [List.length_append] at h1
    rw [sizeLine_eq]; lia
  have hrng : ∀ k ∈ kvs.map (·.1), 0 ≤ k ∧ k < 1000000 := fun k hk => by
    rcases List.mem_append.mp ((hdk.keys k).mp hk) with h | h
    · exact hX.all k h
    · exact hY.all k h
  refine' ListComp_W (h₀ := H) (L := L) (m := locsOf [] uf) (cl := ?cl) F ?g1 ?g2 ?g3 ?g4 ?g5 ?_ (by intro _; rfl)
  case g1 => rfl
  case g2 => decide
  case g3 => rfl
  case g4 => decide
  case g5 => rfl
  k_steps
  refine srcDict rfl F N (by k_mem) hop hlo hkl fun g1 => ?_
  refine compRest_ind (fun i ys nw => nw = [(p, op), (x, W.listOf vx.toArray nx), (a, W.listOf va.toArray na), (b, W.listOf vb.toArray nb), (L + 1, c1), (L + 1 + 1, c2), (L + 1 + 1 + 1, c3), (L + 1 + 1 + 1 + 1, c4), (L + 1 + 1 + 1 + 1 + 1, c5)] ∧ StrsAre ys ((((kvs.map (·.1)).take i).map (pathN ws)).map S)) ?e1 ?_ _ 0 [] _ (by rw [Nat.zero_add]) ⟨rfl, .nil⟩
  case e1 =>
    (intro j zs _ hj; intro zqi; refine qE0A2 zqi fun zqr0 hzs => ?_; clear zqi; subst zqr0; intro v I oI C oC D m₂ h tk E'; intro zqi; refine qE2A2 zqi fun k y hk hv => ?_; clear zqi; intro hC hm F N off nne)
    (refine qE1A1 (Value.isInt_shape hv) fun t zqr1 => ?_; subst zqr1)
    have hkm : (kvs.map (·.1))[j]? = some k := by rw [List.getElem?_map, hk]; rfl
    (refine qE1A1 (hdk.get ((hdk.keys k).mp (List.mem_of_getElem? hkm))) fun t2 ht2 => ?_)
    (repeat' (first | (k_unfold; (try dsimp only)) | (k_end; kc_close) | (k_here; (with_reducible show wpAny _ _ (subscriptTail (PySem.Expr.Name _ _) (PySem.Expr.Name _ _) (Value.ref _) (Value.int _ _)) _ _ _); refine stopHere ?_) | walk1 | (dsimp only; walk1) | (leave1; (try dsimp only))))
    unfold Stop
    (rename Fr _ _ _ _ => kF)
    (rename News _ _ _ _ => kN)
    refine kda_item kN (by k_mem) hop hv ht2 ?_
    refine LCg.CompEnd.intro kF kN _ (fun p hp => hp) off (.head _) ⟨rfl, ?_⟩
    rw [List.take_add_one, hkm, List.map_append, List.map_append]
    exact KStt.strs_snoc hzs
  (intro zs _; intro zqi; refine qE0A2 zqi fun zqr0 hzs => ?_; clear zqi; subst zqr0; intro D1 h1 tk1 F N off1)
  rw [← List.length_map (f := (·.1)), List.take_length] at hzs
  (repeat' (first | (k_unfold; (try dsimp only)) | (k_end; kc_close) | (k_here; (with_reducible show wpAny _ _ (eval (PySem.Expr.ListComp _ _ _ _) _) _ _ _); refine stopHere ?_) | walk1 | (dsimp only; walk1) | (leave1; (try dsimp only))))
  unfold Stop
  have hwl := hW.len
  have hvl : vx.length = ws.length := hvx.length
  refine' ListComp_W (h₀ := H) (L := L) (m := locsOf [] uf) (cl := ?cl2) F ?q1 ?q2 ?q3 ?q4 ?q5 ?_ (by intro _; rfl)
  case q1 => rfl
  case q2 => decide
  case q3 => rfl
  case q4 => decide
  case q5 => rfl
  k_steps
  refine srcDict rfl F N (by k_mem) hop hlo hkl fun g1 => ?_
  refine compRest_ind (fun i ys nw => nw = [(D1, LCg.lst zs), (p, op), (x, W.listOf vx.toArray nx), (a, W.listOf va.toArray na), (b, W.listOf vb.toArray nb), (L + 1, c1), (L + 1 + 1, c2), (L + 1 + 1 + 1, c3), (L + 1 + 1 + 1 + 1, c4), (L + 1 + 1 + 1 + 1 + 1, c5)] ∧ StrsAre ys ((((kvs.map (·.1)).take i).map (pathN ws)).map S)) ?e2 ?_ _ 0 [] _ (by rw [Nat.zero_add]) ⟨rfl, .nil⟩
  case e2 =>
    (intro j us _ hj; intro zqi; refine qE0A2 zqi fun zqr0 hus => ?_; clear zqi; subst zqr0; intro v I oI C oC D m₂ h tk E'; intro zqi; refine qE2A2 zqi fun k y hk hv => ?_; clear zqi; intro hC hm F N off nne)
    (refine qE1A1 (Value.isInt_shape hv) fun t zqr1 => ?_; subst zqr1)
    have hkm : (kvs.map (·.1))[j]? = some k := by rw [List.getElem?_map, hk]; rfl
    have hkr := hrng k (List.mem_of_getElem? hkm)
    (repeat' (first | (k_unfold; (try dsimp only)) | (k_end; kc_close) | (k_here; (with_reducible show wpAny _ _ (call (Value.ref 209) [Value.ref _, Value.int _ _, Value.int _ _]) _ _ _); refine stopHere ?_) | walk1 | (dsimp only; walk1) | (leave1; (try dsimp only))))
    unfold Stop
    (rename Fr _ _ _ _ => kF)
    (rename News _ _ _ _ => kN)
    refine folder_ (ns := ws) (Frag.In.keeps X kF.keep) (Top.keeps T kF.keep) (by (first | omega | (dsimp only; omega) | (simp only [depth_deeper, depth_in1, depth_caller, Around.deeper]; omega) | (simp [Around.deeper]; omega))) ⟨_, (kN (x, _) (by k_mem)).1, rfl, _, rfl⟩ hvx hkr.1 hkr.2 (by decide) (by decide) (by lia) (by (with_reducible assumption)) hW.all hW.sum ?_
    intro h3 tk3 t3 hk3
    have e6 : pathL (chunks (ws.take (6 : Int).toNat) 6 k.toNat) = pathN ws k := by
      have e7 : ws.take (6 : Int).toNat = ws := List.take_of_length_le hwl
      rw [e7]; rfl
    rw [e6]
    refine LCg.CompEnd.intro (kF.grownK hk3) (kN.grown hk3) _ (fun p hp => hp) off (.tail _ (.head _)) ⟨rfl, ?_⟩
    rw [List.take_add_one, hkm, List.map_append, List.map_append]
    exact KStt.strs_snoc hus
  (intro us _; intro zqi; refine qE0A2 zqi fun zqr0 hus => ?_; clear zqi; subst zqr0; intro D2 h2 tk2 F N off2)
  rw [← List.length_map (f := (·.1)), List.take_length] at hus
  (repeat' (first | (k_unfold; (try dsimp only)) | (k_end; kc_close) | (k_here; (with_reducible show wpAny _ _ (compareOp CmpOp.NotEq (Value.ref _) (Value.ref _)) _ _ _); refine stopHere ?_) | walk1 | (dsimp only; walk1) | (leave1; (try dsimp only))))
  unfold Stop
  refine ne_texts ⟨_, (N (D1, _) (by k_mem)).1, rfl, _, rfl⟩ ⟨_, (N (D2, _) (by k_mem)).1, rfl, _, rfl⟩ hzs hus (okT_paths _ _) (okT_paths _ _) (show (4 : Nat) + 3 + 64 < 9900 by decide) ?_
  rw [decide_eq_true rfl]
  k_steps
  exact AfterG.intro (by assumption) (by assumption) hJ (by exact trivial) (by first | exact subI [0, 1, 2, 3, 4, 5, 6, 7, 8] rfl | exact subI [1, 2, 3, 4, 5, 6, 7, 8, 9] rfl | exact subI [2, 3, 4, 5, 6, 7, 8, 9, 10] rfl | exact subI [3, 4, 5, 6, 7, 8, 9, 10, 11] rfl | exact ⟨by k_mem, by k_mem, by k_mem, by k_mem, by k_mem, by k_mem, by k_mem, by k_mem, by k_mem, trivial⟩) (by assumption)
end
end
-- B8
section
open PyProof.Rows.LCg
set_option maxRecDepth 100000
set_option maxHeartbeats 3200000
theorem ints_of {vs : List Value} : ∀ {ks : List Int} (_ : vs.length = ks.length) (_ : ∀ (j : Nat) (v : Value), vs[j]? = some v → ∃ k, ks[j]? = some k ∧ ∃ t : Tok, v = Value.int k t), IntsAre vs ks := by
  induction vs with
  | nil => intro ks h _; cases ks with
    | nil => exact .nil
    | cons => simp at h
  | cons v r ih =>
    intro ks h hv
    cases ks with
    | nil => simp at h
    | cons k q =>
      obtain ⟨k', e, t, rfl⟩ := hv 0 v (by simp)
      simp at e; subst e
      exact .cons _ t (ih (by simpa using h) fun j u hj => by
        (refine qE1A2 (hv (j + 1) u (by simpa using hj)) fun k2 e2 r2 => ?_)
        exact ⟨k2, by simpa using e2, r2⟩)
section
variable {prog : Program} {w : World} {A : Around} {E : Value → Shared → Prop} {s : Shared} {h₀ : Heap} {L : Addr} {m : Str → Option Value} {news : List (Addr × Obj)}
theorem list_keys {p : Addr} {op : Obj} {kvs : List (Int × Value)} {Q : Value → Shared → Prop} (hh : A.handled = none) (F : Fr h₀ L s.heap m) (N : News h₀ L s.heap news) (hm : (p, op) ∈ news) (hd : op.IsDictOf (intKind prog w) kvs) (lo : (p == sysModules) = false) (hsz : kvs.length ≤ 1000)
    (h : ∀ (B : Addr) (n : Nat) h' tk vs, Fr h₀ L h' m → News h₀ L h' ((B, listOf (List.toArray vs) n) :: news) → (∀ q ∈ news, q.1 < B) → IntsAre vs (kvs.map (·.1)) → Q (.ref B) { s with heap := h', toks := tk }) :
    wpAny (model prog w) A (call (.type "list") [.ref p]) Q E s := by
  (refine qE1A1 ((Heap.dictOf_iff.mpr ⟨op, (N _ hm).1, hd⟩ : s.heap.DictOf (intKind prog w) p kvs).dictAt) fun ep hat => ?_)
  refine kdl_N (kdl_dict (knd := intKind prog w) (kvs := kvs) (ep := ep) lo) hh F N hat (kdl_size (by lia)) fun B n h' tk vs F' N' l1 hl hv => ?_
  refine h B n h' tk vs F' N' l1 (ints_of (by rw [hl, List.length_map]) fun j v hvj => ?_)
  (refine qE2A2 (hv j v hvj) fun k x hx hk => ?_)
  (refine qE1A1 (Value.isInt_shape hk) fun t zqr1 => ?_; subst zqr1)
  exact ⟨k, by rw [List.getElem?_map, hx]; rfl, t, rfl⟩
end
end
-- L8
section
set_option maxRecDepth 100000
set_option maxHeartbeats 1000000
section
variable {w : World} {d u : Nat} {f : Option (List Env)} {g : Option (List Code)} {s : Shared} {E Q : Value → Shared → Prop} {mean : ExcName → Option Value} {mg mb : Str → Option Value}

theorem st6 {se : Shared} (hKp : Kept se s) {H : Heap} {L fa : Addr} {dc : Value} {nl : List (Str × Value)} {news : List (Addr × Obj)} {uf : Str → Option Value} (X : (Mine.hd.heap_39 w.params).In H) (T : Top Mine.hd.view_39 (looseW Mine.hd.view_39 []) mean mg mb H)
  (J : J4 Challenge.rw_pd0146_01.row.prog w L nl news) (F : Fr H L s.heap (locsOf nl uf)) (N : News H L s.heap news) :
  wpAny (model Challenge.rw_pd0146_01.row.prog w) (callerA.deeper (lawEnv lawScope L fa dc)) (exec (lawAt 6) (lawEnv lawScope L fa dc)) (AfterG se H L (J4 Challenge.rw_pd0146_01.row.prog w L)) E s := by
  have hJ := J
  revert F N hJ
  apply J
  clear J
  intro a b i x p va vb vx na nb nx xs ys ws op kvs cs1 hcs hva hvb hX hY hvx hW hop hdk hlo
  apply hcs
  clear hcs
  intro c1 c2 c3 c4 c5 d1 d2 d3 d4 d5 F N hJ
  generalize hsc : lawScope = sc
  conv at hsc => lhs; whnf
  subst hsc
  generalize hst : lawAt 6 = st
  conv at hst => lhs; whnf
  subst hst
  unfold lawEnv
  (repeat' (first | (k_unfold; (try dsimp only)) | (k_end; kc_close) | (k_here; (with_reducible show wpAny _ _ (eval (PySem.Expr.ListComp _ _ _ _) _) _ _ _); refine stopHere ?_) | walk1 | (dsimp only; walk1) | (leave1; (try dsimp only))))
  unfold Stop
  have hkl : kvs.length ≤ sizeLine := by
    have h1 := hdk.len
    have h2 := hX.hi
    have h3 := hY.hi
    rw [List.length_append] at h1
    rw [sizeLine_eq]; lia
  have hrng : ∀ k ∈ kvs.map (·.1), 0 ≤ k ∧ k < 1000000 := fun k hk => by
    rcases List.mem_append.mp ((hdk.keys k).mp hk) with h | h
    · exact hX.all k h
    · exact hY.all k h
  refine' ListComp_W (h₀ := H) (L := L) (m := locsOf [] uf) (cl := ?cl) F ?g1 ?g2 ?g3 ?g4 ?g5 ?_ (by intro _; rfl)
  case g1 => rfl
  case g2 => decide
  case g3 => rfl
  case g4 => decide
  case g5 => rfl
  k_steps
  refine srcDict rfl F N (by k_mem) hop hlo hkl fun g1 => ?_
  refine compRest_ind (fun i ys nw => nw = [(p, op), (x, W.listOf vx.toArray nx), (a, W.listOf va.toArray na), (b, W.listOf vb.toArray nb), (L + 1, c1), (L + 1 + 1, c2), (L + 1 + 1 + 1, c3), (L + 1 + 1 + 1 + 1, c4), (L + 1 + 1 + 1 + 1 + 1, c5)] ∧ IntsAre ys ((kvs.map (·.1)).take i)) ?e1 ?_ _ 0 [] _ (by rw [Nat.zero_add]) ⟨rfl, .nil⟩
  case e1 =>
    (intro j zs _ hj; intro zqi; refine qE0A2 zqi fun zqr0 hzs => ?_; clear zqi; subst zqr0; intro v I oI C oC D m₂ h tk E'; intro zqi; refine qE2A2 zqi fun k y hk hv => ?_; clear zqi; intro hC hm F N off nne)
    (refine qE1A1 (Value.isInt_shape hv) fun t zqr1 => ?_; subst zqr1)
    have hkm : (kvs.map (·.1))[j]? = some k := by rw [List.getElem?_map, hk]; rfl
    (refine qE1A1 (hdk.get ((hdk.keys k).mp (List.mem_of_getElem? hkm))) fun t2 ht2 => ?_)
    (repeat' (first | (k_unfold; (try dsimp only)) | (k_end; kc_close) | (k_here; (with_reducible show wpAny _ _ (subscriptTail (PySem.Expr.Name _ _) (PySem.Expr.Name _ _) (Value.ref _) (Value.int _ _)) _ _ _); refine stopHere ?_) | walk1 | (dsimp only; walk1) | (leave1; (try dsimp only))))
    unfold Stop
    (rename Fr _ _ _ _ => kF)
    (rename News _ _ _ _ => kN)
    refine kda_item kN (by k_mem) hop hv ht2 ?_
    (repeat' (first | (k_unfold; (try dsimp only)) | (k_end; kc_close) | (k_here; (with_reducible show wpAny _ _ (call (Value.ref 195) [Value.str _ _]) _ _ _); refine stopHere ?_) | walk1 | (dsimp only; walk1) | (leave1; (try dsimp only))))
    unfold Stop
    (rename Fr _ _ _ _ => kF2)
    (rename News _ _ _ _ => kN2)
    refine read_ (ns := chunks ws 6 k.toNat) (Frag.In.keeps X kF2.keep) (Top.keeps T kF2.keep) (by (first | omega | (dsimp only; omega) | (simp only [depth_deeper, depth_in1, depth_caller, Around.deeper]; omega) | (simp [Around.deeper]; omega))) (by rw [chunks_len]; exact hW.len) (chunks_name _ _ _ hW.all) (hrng k (List.mem_of_getElem? hkm)).1 (hrng k (List.mem_of_getElem? hkm)).2 ?fl ?_
    case fl => exact chunks_flat ws 6 _ (fun v hv => (hW.all v hv).1) hW.sum
    intro h3 tk3 t3 hk3
    refine LCg.CompEnd.intro (kF2.grownK hk3) (kN2.grown hk3) _ (fun p hp => hp) off (.head _) ⟨rfl, ?_⟩
    rw [List.take_add_one, hkm]
    exact hzs.append (IntsAre.cons _ _ .nil)
  (intro zs _; intro zqi; refine qE0A2 zqi fun zqr0 hzs => ?_; clear zqi; subst zqr0; intro D1 h1 tk1 F N off1)
  rw [← List.length_map (f := (·.1)), List.take_length] at hzs
  (repeat' (first | (k_unfold; (try dsimp only)) | (k_end; kc_close) | (k_here; (with_reducible show wpAny _ _ (call (Value.type "list") _) _ _ _); refine stopHere ?_) | walk1 | (dsimp only; walk1) | (leave1; (try dsimp only))))
  unfold Stop
  (rename Fr _ _ _ _ => kF)
  (rename News _ _ _ _ => kN)
  refine list_keys rfl kF kN (by k_mem) hop hlo (by rw [sizeLine_eq] at hkl; have := hdk.len; rw [List.length_append] at this; have := hX.hi; have := hY.hi; lia) ?_
  intro D2 n2 h2 tk2 us F N off2 hus
  clear kF kN
  have hul : us.length = kvs.length := by rw [hus.length, List.length_map]
  (repeat' (first | (k_unfold; (try dsimp only)) | (k_end; kc_close) | (k_here; (with_reducible show wpAny _ _ (compareOp CmpOp.NotEq (Value.ref _) (Value.ref _)) _ _ _); k_dflt (refine' ke_ne_ints (by kmk_list) (by kmk_list) (by (first | assumption | (repeat (first | exact IntsAre.nil | refine IntsAre.cons _ _ ?_)))) (by (first | assumption | (repeat (first | exact IntsAre.nil | refine IntsAre.cons _ _ ?_)))) (by (first | exact Nat.le_of_ble_eq_true rfl | ((try simp only [units_deeper, units_in1, cLine_is]); omega) | ((try simp only [units_deeper, units_in1, cLine_is]); dsimp only; omega))) ?_)) | walk1 | (dsimp only; walk1) | (leave1; (try dsimp only))))
  all_goals try ((rename ¬ _ => hno); exact absurd rfl hno)
  exact AfterG.intro (by assumption) (by assumption) hJ (by exact trivial) (by first | exact subI [0, 1, 2, 3, 4, 5, 6, 7, 8] rfl | exact subI [1, 2, 3, 4, 5, 6, 7, 8, 9] rfl | exact subI [2, 3, 4, 5, 6, 7, 8, 9, 10] rfl | exact subI [3, 4, 5, 6, 7, 8, 9, 10, 11] rfl | exact ⟨by k_mem, by k_mem, by k_mem, by k_mem, by k_mem, by k_mem, by k_mem, by k_mem, by k_mem, trivial⟩) (by assumption)
end
end
-- L9
section
set_option maxRecDepth 100000
set_option maxHeartbeats 1000000
section
variable {w : World} {d u : Nat} {f : Option (List Env)} {g : Option (List Code)} {s : Shared} {E Q : Value → Shared → Prop} {mean : ExcName → Option Value} {mg mb : Str → Option Value}

noncomputable def sgn (q k : Int) : Int := b2i (decide (k < q)) - b2i (decide (q < k))
noncomputable def J5 (prog : Program) (w : World) (L : Addr) (nl : List (Str × Value)) (news : List (Addr × Obj)) : Prop :=
  ∀ P : List (Str × Value) → List (Addr × Obj) → Prop, (∀ (a b i x p g : Addr) (va vb vx vg : List Value) (na nb nx ng : Nat) (xs ys ws : List Int) (op : Obj) (kvs : List (Int × Value)) (cs : List (Addr × Obj)),
    Cells L (some (.ref a)) (some (.ref b)) (some (.ref i)) (some (.ref x)) (some (.ref p)) cs → IntsAre va xs → IntsAre vb ys → Num xs → Num ys → IntsAre vx ws → Wid ws → op.IsDictOf (intKind prog w) kvs → Dk ws (xs ++ ys) kvs → (p == sysModules) = false → IntsAre vg (ys.map (sgn (xs.getD 0 0))) → P ([("signs", .ref g)] : List (Str × Value)) ((g, listOf vg.toArray ng) :: (p, op) :: (x, listOf vx.toArray nx) :: (a, listOf va.toArray na) :: (b, listOf vb.toArray nb) :: cs)) → P nl news
theorem st7 {se : Shared} (hKp : Kept se s) {H : Heap} {L fa : Addr} {dc : Value} {nl : List (Str × Value)} {news : List (Addr × Obj)} {uf : Str → Option Value} (X : (Mine.hd.heap_39 w.params).In H) (T : Top Mine.hd.view_39 (looseW Mine.hd.view_39 []) mean mg mb H)
  (J : J4 Challenge.rw_pd0146_01.row.prog w L nl news) (F : Fr H L s.heap (locsOf nl uf)) (N : News H L s.heap news) :
  wpAny (model Challenge.rw_pd0146_01.row.prog w) (callerA.deeper (lawEnv lawScope L fa dc)) (exec (lawAt 7) (lawEnv lawScope L fa dc)) (AfterG se H L (J5 Challenge.rw_pd0146_01.row.prog w L)) E s := by
  revert F N
  apply J
  clear J
  intro a b i x p va vb vx na nb nx xs ys ws op kvs cs1 hcs hva hvb hX hY hvx hW hop hdk hlo
  apply hcs
  clear hcs
  intro c1 c2 c3 c4 c5 d1 d2 d3 d4 d5 F N
  generalize hsc : lawScope = sc
  conv at hsc => lhs; whnf
  subst hsc
  generalize hst : lawAt 7 = st
  conv at hst => lhs; whnf
  subst hst
  unfold lawEnv
  (repeat' (first | (k_unfold; (try dsimp only)) | (k_end; kc_close) | (k_here; (with_reducible show wpAny _ _ (exec (PySem.Stmt.Assign (_ :: _) (PySem.Expr.ListComp _ _ _ _) _) _) _ _ _); refine stopHere ?_) | walk1 | (dsimp only; walk1) | (leave1; (try dsimp only))))
  unfold Stop
  have hla : va.length = xs.length := hva.length
  have hlb : vb.length = ys.length := hvb.length
  have hx0 := hX.lo
  have hx14 := hX.hi
  have hy14 := hY.hi
  refine' Assign_ListComp_W (h₀ := H) (cl := ?cl) F rfl ?a1 ?a2 ?a3 ?a4 ?a5 ?a6 ?a7 ?a8 ?_ (by intro _; rfl)
  case a1 => rfl
  case a2 => rfl
  case a3 => decide
  case a4 => rfl
  case a5 => decide
  case a6 => rfl
  case a7 => rfl
  case a8 => rfl
  k_steps
  refine srcList rfl F N (its := vb) (c := nb) (by k_mem) (by rw [sizeLine_eq]; lia) fun g1 => ?_
  refine compRest_ind (fun i us nw => nw = [(p, op), (x, W.listOf vx.toArray nx), (a, W.listOf va.toArray na), (b, W.listOf vb.toArray nb), (L + 1, c1), (L + 1 + 1, c2), (L + 1 + 1 + 1, c3), (L + 1 + 1 + 1 + 1, c4), (L + 1 + 1 + 1 + 1 + 1, c5)] ∧ IntsAre us ((ys.take i).map (sgn (xs.getD 0 0)))) ?e1 ?_ _ 0 [] _ (by rw [Nat.zero_add]) ⟨rfl, .nil⟩
  case e1 =>
    (intro j us _ hj; intro zqi; refine qE0A2 zqi fun zqr0 hus => ?_; clear zqi; subst zqr0; intro v I oI C oC D m₂ h tk E' hv hC hm F N off nne)
    (refine qE2A2 (ints_item hvb hv) fun k t zqr2 hk => ?_; subst zqr2)
    k_steps
    refine LCg.CompEnd.intro (by assumption) (by assumption) _ (fun p hp => hp) off (by k_mem) ⟨rfl, ?_⟩
    rw [List.take_add_one, hk, List.map_append]
    exact hus.append (IntsAre.cons _ _ .nil)
  (intro us _; intro zqi; refine qE0A2 zqi fun zqr0 hus => ?_; clear zqi; subst zqr0; intro D1 h1 tk1 F N off1)
  rw [hlb, List.take_length] at hus
  k_steps
  exact AfterG.intro F N (fun _ k => k a b i x p D1 va vb vx us na nb nx us.length xs ys ws op kvs _ (fun _ k => k _ _ _ _ _ d1 d2 d3 d4 d5) hva hvb hX hY hvx hW hop hdk hlo hus) (by refine ⟨?_, trivial⟩; with_unfolding_all rfl) (by first | exact subI [0, 1, 2, 3, 4, 5, 6, 7, 8, 9] rfl | exact subI [1, 2, 3, 4, 5, 6, 7, 8, 9, 10] rfl | exact subI [2, 3, 4, 5, 6, 7, 8, 9, 10, 11] rfl | exact subI [3, 4, 5, 6, 7, 8, 9, 10, 11, 12] rfl | exact ⟨by k_mem, by k_mem, by k_mem, by k_mem, by k_mem, by k_mem, by k_mem, by k_mem, by k_mem, by k_mem, trivial⟩) (by assumption)
end
end
-- P14
section
set_option maxRecDepth 100000
set_option maxHeartbeats 1000000
theorem sign_path {ws : List Int} (h : Wid ws) {a b : Int} (ha : 0 ≤ a ∧ a < 1000000) (hb : 0 ≤ b ∧ b < 1000000) : signOf (S (pathN ws a)) (S (pathN ws b)) = sgn a b := by
  unfold signOf sgn
  rw [S_cps, S_cps, decide_eq_decide.mpr (pathN_lt h hb ha), decide_eq_decide.mpr (pathN_lt h ha hb)]
end
-- L10
section
set_option maxRecDepth 100000
set_option maxHeartbeats 1000000
section
variable {w : World} {d u : Nat} {f : Option (List Env)} {g : Option (List Code)} {s : Shared} {E Q : Value → Shared → Prop} {mean : ExcName → Option Value} {mg mb : Str → Option Value}

theorem st8 {se : Shared} (hKp : Kept se s) {H : Heap} {L fa : Addr} {dc : Value} {nl : List (Str × Value)} {news : List (Addr × Obj)} {uf : Str → Option Value} (X : (Mine.hd.heap_39 w.params).In H) (T : Top Mine.hd.view_39 (looseW Mine.hd.view_39 []) mean mg mb H)
  (J : J5 Challenge.rw_pd0146_01.row.prog w L nl news) (F : Fr H L s.heap (locsOf nl uf)) (N : News H L s.heap news) :
  wpAny (model Challenge.rw_pd0146_01.row.prog w) (callerA.deeper (lawEnv lawScope L fa dc)) (exec (lawAt 8) (lawEnv lawScope L fa dc)) (AfterG se H L (J5 Challenge.rw_pd0146_01.row.prog w L)) E s := by
  have hJ := J
  revert F N hJ
  apply J
  clear J
  intro a b i x p g va vb vx vg na nb nx ng xs ys ws op kvs cs1 hcs hva hvb hX hY hvx hW hop hdk hlo hvg
  apply hcs
  clear hcs
  intro c1 c2 c3 c4 c5 d1 d2 d3 d4 d5 F N hJ
  generalize hsc : lawScope = sc
  conv at hsc => lhs; whnf
  subst hsc
  generalize hst : lawAt 8 = st
  conv at hst => lhs; whnf
  subst hst
  unfold lawEnv
  (repeat' (first | (k_unfold; (try dsimp only)) | (k_end; kc_close) | (k_here; (with_reducible show wpAny _ _ (eval (PySem.Expr.ListComp _ _ _ _) _) _ _ _); refine stopHere ?_) | walk1 | (dsimp only; walk1) | (leave1; (try dsimp only))))
  unfold Stop
  have hla : va.length = xs.length := hva.length
  have hlb : vb.length = ys.length := hvb.length
  have hx0 := hX.lo
  have hx14 := hX.hi
  have hy14 := hY.hi
  (refine qE1A1 (show ∃ q, xs[0]? = some q from ⟨xs[0], List.getElem?_eq_getElem (by lia)⟩) fun q hq => ?_)
  have hqd : xs.getD 0 0 = q := by rw [List.getD_eq_getElem?_getD, hq]; rfl
  have hqd2 : xs.getD (Int.toNat 0) 0 = q := hqd
  have hqm : q ∈ xs := List.mem_of_getElem? hq
  rw [hqd] at hvg
  (refine qE1A1 (hdk.get (List.mem_append_left ys hqm)) fun tq htq => ?_)
  refine' ListComp_W (h₀ := H) (L := L) (m := locsOf [("signs", .ref g)] uf) (cl := ?cl) F ?g1 ?g2 ?g3 ?g4 ?g5 ?_ (by intro _; rfl)
  case g1 => rfl
  case g2 => decide
  case g3 => rfl
  case g4 => decide
  case g5 => rfl
  k_steps
  refine srcList rfl F N (its := vb) (c := nb) (by k_mem) (by rw [sizeLine_eq]; lia) fun g1 => ?_
  refine compRest_ind (fun i us nw => nw = [(g, W.listOf vg.toArray ng), (p, op), (x, W.listOf vx.toArray nx), (a, W.listOf va.toArray na), (b, W.listOf vb.toArray nb), (L + 1, c1), (L + 1 + 1, c2), (L + 1 + 1 + 1, c3), (L + 1 + 1 + 1 + 1, c4), (L + 1 + 1 + 1 + 1 + 1, c5)] ∧ IntsAre us ((ys.take i).map (sgn q))) ?e1 ?_ _ 0 [] _ (by rw [Nat.zero_add]) ⟨rfl, .nil⟩
  case e1 =>
    (intro j us _ hj; intro zqi; refine qE0A2 zqi fun zqr0 hus => ?_; clear zqi; subst zqr0; intro v I oI C oC D m₂ h tk E' hv hC hm F N off nne)
    (refine qE2A2 (ints_item hvb hv) fun k t zqr2 hk => ?_; subst zqr2)
    have hkm : k ∈ ys := List.mem_of_getElem? hk
    (refine qE1A1 (hdk.get (List.mem_append_right xs hkm)) fun tk2 htk => ?_)
    (repeat' (first | (k_unfold; (try dsimp only)) | (k_end; kc_close) | (k_here; (with_reducible show wpAny _ _ (subscriptTail (PySem.Expr.Name _ _) (PySem.Expr.Subscript _ _ _) (Value.ref _) (Value.int _ _)) _ _ _); refine stopHere ?_) | walk1 | (dsimp only; walk1) | (leave1; (try dsimp only))))
    unfold Stop
    (rename Fr _ _ _ _ => kF)
    (rename News _ _ _ _ => kN)
    refine kda_item kN (by k_mem) hop (k := q) (by rw [hqd2]; simp [intKind, Value.isInt]) htq ?_
    (repeat' (first | (k_unfold; (try dsimp only)) | (k_end; kc_close) | (k_here; (with_reducible show wpAny _ _ (subscriptTail (PySem.Expr.Name _ _) (PySem.Expr.Name _ _) (Value.ref _) (Value.int _ _)) _ _ _); refine stopHere ?_) | walk1 | (dsimp only; walk1) | (leave1; (try dsimp only))))
    unfold Stop
    (rename Fr _ _ _ _ => kF)
    (rename News _ _ _ _ => kN)
    refine kda_item kN (by k_mem) hop (k := k) (by simp [intKind, Value.isInt]) htk ?_
    (repeat' (first | (k_unfold; (try dsimp only)) | (k_end; kc_close) | (k_here; (with_reducible show wpAny _ _ (call (Value.ref 49) [Value.str _ _, Value.str _ _]) _ _ _); refine stopHere ?_) | walk1 | (dsimp only; walk1) | (leave1; (try dsimp only))))
    unfold Stop
    (rename Fr _ _ _ _ => kF)
    (rename News _ _ _ _ => kN)
    refine strcoll_ (Frag.In.keeps X kF.keep) (Top.keeps T kF.keep) (by (first | omega | (dsimp only; omega) | (simp only [depth_deeper, depth_in1, depth_caller, Around.deeper]; omega) | (simp [Around.deeper]; omega))) ?_
    intro h3 tk3 t3 hk3
    rw [sign_path hW (hX.all q hqm) (hY.all k hkm)]
    refine LCg.CompEnd.intro (kF.grownK hk3) (kN.grown hk3) _ (fun p hp => hp) off (by k_mem) ⟨rfl, ?_⟩
    rw [List.take_add_one, hk, List.map_append]
    exact hus.append (IntsAre.cons _ _ .nil)
  (intro us _; intro zqi; refine qE0A2 zqi fun zqr0 hus => ?_; clear zqi; subst zqr0; intro D1 h1 tk1 F N off1)
  rw [hlb, List.take_length] at hus
  (repeat' (first | (k_unfold; (try dsimp only)) | (k_end; kc_close) | (k_here; (with_reducible show wpAny _ _ (compareOp CmpOp.NotEq (Value.ref _) (Value.ref _)) _ _ _); k_dflt (refine' ke_ne_ints (by kmk_list) (by kmk_list) (by (first | assumption | (repeat (first | exact IntsAre.nil | refine IntsAre.cons _ _ ?_)))) (by (first | assumption | (repeat (first | exact IntsAre.nil | refine IntsAre.cons _ _ ?_)))) (by (first | exact Nat.le_of_ble_eq_true rfl | ((try simp only [units_deeper, units_in1, cLine_is]); omega) | ((try simp only [units_deeper, units_in1, cLine_is]); dsimp only; omega))) ?_)) | walk1 | (dsimp only; walk1) | (leave1; (try dsimp only))))

  all_goals try ((rename ¬ _ => hno); exact absurd rfl hno)
  exact AfterG.intro (by assumption) (by assumption) hJ (by refine ⟨?_, trivial⟩; with_unfolding_all rfl) (by first | exact subI [0, 1, 2, 3, 4, 5, 6, 7, 8, 9] rfl | exact subI [1, 2, 3, 4, 5, 6, 7, 8, 9, 10] rfl | exact subI [2, 3, 4, 5, 6, 7, 8, 9, 10, 11] rfl | exact subI [3, 4, 5, 6, 7, 8, 9, 10, 11, 12] rfl | exact ⟨by k_mem, by k_mem, by k_mem, by k_mem, by k_mem, by k_mem, by k_mem, by k_mem, by k_mem, by k_mem, trivial⟩) (by assumption)
end
end
-- L11
section
set_option maxRecDepth 100000
set_option maxHeartbeats 1000000
section
variable {w : World} {d u : Nat} {f : Option (List Env)} {g : Option (List Code)} {s : Shared} {E Q : Value → Shared → Prop} {mean : ExcName → Option Value} {mg mb : Str → Option Value}

theorem st9 {se : Shared} (hKp : Kept se s) {H : Heap} {L fa : Addr} {dc : Value} {nl : List (Str × Value)} {news : List (Addr × Obj)} {uf : Str → Option Value} (X : (Mine.hd.heap_39 w.params).In H) (T : Top Mine.hd.view_39 (looseW Mine.hd.view_39 []) mean mg mb H)
  (J : J5 Challenge.rw_pd0146_01.row.prog w L nl news) (F : Fr H L s.heap (locsOf nl uf)) (N : News H L s.heap news) :
  wpAny (model Challenge.rw_pd0146_01.row.prog w) (callerA.deeper (lawEnv lawScope L fa dc)) (exec (lawAt 9) (lawEnv lawScope L fa dc)) (AfterG se H L (J5 Challenge.rw_pd0146_01.row.prog w L)) E s := by
  have hJ := J
  revert F N hJ
  apply J
  clear J
  intro a b i x p g va vb vx vg na nb nx ng xs ys ws op kvs cs1 hcs hva hvb hX hY hvx hW hop hdk hlo hvg
  apply hcs
  clear hcs
  intro c1 c2 c3 c4 c5 d1 d2 d3 d4 d5 F N hJ
  generalize hsc : lawScope = sc
  conv at hsc => lhs; whnf
  subst hsc
  generalize hst : lawAt 9 = st
  conv at hst => lhs; whnf
  subst hst
  unfold lawEnv
  (repeat' (first | (k_unfold; (try dsimp only)) | (k_end; kc_close) | (k_here; (with_reducible show wpAny _ _ (eval (PySem.Expr.ListComp _ _ _ _) _) _ _ _); refine stopHere ?_) | walk1 | (dsimp only; walk1) | (leave1; (try dsimp only))))
  unfold Stop
  have hla : va.length = xs.length := hva.length
  have hlb : vb.length = ys.length := hvb.length
  have hx0 := hX.lo
  have hx14 := hX.hi
  have hy14 := hY.hi
  (refine qE1A1 (show ∃ q, xs[0]? = some q from ⟨xs[0], List.getElem?_eq_getElem (by lia)⟩) fun q hq => ?_)
  have hqd : xs.getD 0 0 = q := by rw [List.getD_eq_getElem?_getD, hq]; rfl
  have hqd2 : xs.getD (Int.toNat 0) 0 = q := hqd
  have hqm : q ∈ xs := List.mem_of_getElem? hq
  rw [hqd] at hvg
  (refine qE1A1 (hdk.get (List.mem_append_left ys hqm)) fun tq htq => ?_)
  refine' ListComp_W (h₀ := H) (L := L) (m := locsOf [("signs", .ref g)] uf) (cl := ?cl) F ?g1 ?g2 ?g3 ?g4 ?g5 ?_ (by intro _; rfl)
  case g1 => rfl
  case g2 => decide
  case g3 => rfl
  case g4 => decide
  case g5 => rfl
  k_steps
  refine srcList rfl F N (its := vb) (c := nb) (by k_mem) (by rw [sizeLine_eq]; lia) fun g1 => ?_
  refine compRest_ind (fun i us nw => nw = [(g, W.listOf vg.toArray ng), (p, op), (x, W.listOf vx.toArray nx), (a, W.listOf va.toArray na), (b, W.listOf vb.toArray nb), (L + 1, c1), (L + 1 + 1, c2), (L + 1 + 1 + 1, c3), (L + 1 + 1 + 1 + 1, c4), (L + 1 + 1 + 1 + 1 + 1, c5)] ∧ IntsAre us ((ys.take i).map (sgn q))) ?e1 ?_ _ 0 [] _ (by rw [Nat.zero_add]) ⟨rfl, .nil⟩
  case e1 =>
    (intro j us _ hj; intro zqi; refine qE0A2 zqi fun zqr0 hus => ?_; clear zqi; subst zqr0; intro v I oI C oC D m₂ h tk E' hv hC hm F N off nne)
    (refine qE2A2 (ints_item hvb hv) fun k t zqr2 hk => ?_; subst zqr2)
    have hkm : k ∈ ys := List.mem_of_getElem? hk
    (refine qE1A1 (hdk.get (List.mem_append_right xs hkm)) fun tk2 htk => ?_)
    (repeat' (first | (k_unfold; (try dsimp only)) | (k_end; kc_close) | (k_here; (with_reducible show wpAny _ _ (subscriptTail (PySem.Expr.Name _ _) (PySem.Expr.Subscript _ _ _) (Value.ref _) (Value.int _ _)) _ _ _); refine stopHere ?_) | walk1 | (dsimp only; walk1) | (leave1; (try dsimp only))))
    unfold Stop
    (rename Fr _ _ _ _ => kF)
    (rename News _ _ _ _ => kN)
    refine kda_item kN (by k_mem) hop (k := q) (by rw [hqd2]; simp [intKind, Value.isInt]) htq ?_
    (repeat' (first | (k_unfold; (try dsimp only)) | (k_end; kc_close) | (k_here; (with_reducible show wpAny _ _ (subscriptTail (PySem.Expr.Name _ _) (PySem.Expr.Name _ _) (Value.ref _) (Value.int _ _)) _ _ _); refine stopHere ?_) | walk1 | (dsimp only; walk1) | (leave1; (try dsimp only))))
    unfold Stop
    (rename Fr _ _ _ _ => kF)
    (rename News _ _ _ _ => kN)
    refine kda_item kN (by k_mem) hop (k := k) (by simp [intKind, Value.isInt]) htk ?_
    (repeat' (first | (k_unfold; (try dsimp only)) | (k_end; kc_close) | (k_here; (with_reducible show wpAny _ _ (call (Value.ref 42) [Value.str _ _, Value.str _ _]) _ _ _); refine stopHere ?_) | walk1 | (dsimp only; walk1) | (leave1; (try dsimp only))))
    unfold Stop
    (rename Fr _ _ _ _ => kF)
    (rename News _ _ _ _ => kN)
    refine twc_ (Frag.In.keeps X kF.keep) (Top.keeps T kF.keep) (by (first | omega | (dsimp only; omega) | (simp only [depth_deeper, depth_in1, depth_caller, Around.deeper]; omega) | (simp [Around.deeper]; omega))) ?_
    intro h3 tk3 t3 hk3
    rw [sign_path hW (hX.all q hqm) (hY.all k hkm)]
    refine LCg.CompEnd.intro (kF.grownK hk3) (kN.grown hk3) _ (fun p hp => hp) off (by k_mem) ⟨rfl, ?_⟩
    rw [List.take_add_one, hk, List.map_append]
    exact hus.append (IntsAre.cons _ _ .nil)
  (intro us _; intro zqi; refine qE0A2 zqi fun zqr0 hus => ?_; clear zqi; subst zqr0; intro D1 h1 tk1 F N off1)
  rw [hlb, List.take_length] at hus
  (repeat' (first | (k_unfold; (try dsimp only)) | (k_end; kc_close) | (k_here; (with_reducible show wpAny _ _ (compareOp CmpOp.NotEq (Value.ref _) (Value.ref _)) _ _ _); k_dflt (refine' ke_ne_ints (by kmk_list) (by kmk_list) (by (first | assumption | (repeat (first | exact IntsAre.nil | refine IntsAre.cons _ _ ?_)))) (by (first | assumption | (repeat (first | exact IntsAre.nil | refine IntsAre.cons _ _ ?_)))) (by (first | exact Nat.le_of_ble_eq_true rfl | ((try simp only [units_deeper, units_in1, cLine_is]); omega) | ((try simp only [units_deeper, units_in1, cLine_is]); dsimp only; omega))) ?_)) | walk1 | (dsimp only; walk1) | (leave1; (try dsimp only))))

  all_goals try ((rename ¬ _ => hno); exact absurd rfl hno)
  exact AfterG.intro (by assumption) (by assumption) hJ (by refine ⟨?_, trivial⟩; with_unfolding_all rfl) (by first | exact subI [0, 1, 2, 3, 4, 5, 6, 7, 8, 9] rfl | exact subI [1, 2, 3, 4, 5, 6, 7, 8, 9, 10] rfl | exact subI [2, 3, 4, 5, 6, 7, 8, 9, 10, 11] rfl | exact subI [3, 4, 5, 6, 7, 8, 9, 10, 11, 12] rfl | exact ⟨by k_mem, by k_mem, by k_mem, by k_mem, by k_mem, by k_mem, by k_mem, by k_mem, by k_mem, by k_mem, trivial⟩) (by assumption)
end
end
-- C9
section
set_option maxRecDepth 100000
set_option maxHeartbeats 1000000
section
variable {w : World} {d u : Nat} {f : Option (List Env)} {g : Option (List Code)} {s : Shared} {E Q : Value → Shared → Prop} {mean : ExcName → Option Value} {mg mb : Str → Option Value}

noncomputable def DJ (l l2 L : Addr) (oL : Obj) (xs ys : List TX) (k : Nat) (nl : List (Str × Value)) (news : List (Addr × Obj)) : Prop :=
  ∀ P : List (Str × Value) → List (Addr × Obj) → Prop, (∀ (i j : Nat) (t1 t2 : Tok) (ma ua : Addr) (mv uv : List Value) (ms us : List TX) (c1 c2 : Nat) (sl : Array (Option Value)),
    @Ne Nat ua ma → @Ne Nat ua L → @Ne Nat ma L → StrsAre mv (ms.map S) → StrsAre uv (us.map S) → mv.length ≤ i → uv.length ≤ j → i ≤ xs.length → j ≤ ys.length → k + i + j = xs.length + ys.length →
    ms ++ (sld (xs.drop i) (ys.drop j)).1 = (sld xs ys).1 → us ++ (sld (xs.drop i) (ys.drop j)).2 = (sld xs ys).2 →
    P [("i", .int i t1), ("j", .int j t2), ("missing", .ref ma), ("unexpected", .ref ua), ("expected", .ref l), ("actual", .ref l2)] [(ua, listOf (List.toArray uv) c1), (ma, listOf (List.toArray mv) c2), (L, { oL with slots := sl })]) → P nl news
noncomputable def EJ (nm : Str) (nl0 : Tok → Tok → Tok → List (Str × Value)) (N0 : Tok → List (Addr × Obj)) (X : List TX) (e : TX) (i0 : Nat) (k : Nat) (nl : List (Str × Value)) (news : List (Addr × Obj)) : Prop :=
  ∀ P : List (Str × Value) → List (Addr × Obj) → Prop, (∀ (i' : Nat) (t te ta tj tn : Tok), i0 ≤ i' → i' ≤ X.length → k + i' = X.length → skipL e (X.drop i') = skipL e (X.drop i0) → P ((nm, .int i' t) :: nl0 te ta tj) (N0 tn)) → P nl news
noncomputable def SldC (g : Heap) (L' : Addr) (hx : Heap) (e' : Addr) (nl : List (Str × Value)) (u : Str → Option Value) (nw : List (Addr × Obj)) : Prop :=
  ∀ P : Prop, (∀ h vs, Fr g L' h (locsOf nl u) → News g L' h nw → NewX h hx e' "IndexError" vs → P) → (TT.HeldN g L' hx (locsOf nl u) e' "IndexError" nw → P) → P
noncomputable def SldP (s : Shared) (g : Heap) (L' l l2 L : Addr) (oL : Obj) (xs ys : List TX) (e : Value) (s' : Shared) : Prop :=
  ∀ P : Value → Shared → Prop, (∀ (e' : Addr) (hx : Heap) (tk : Nat) (u : Str → Option Value) (i j : Nat) (t1 t2 : Tok) (ma ua : Addr) (mv uv : List Value) (ms us : List TX) (c1 c2 : Nat) (sl : Array (Option Value)),
    @Ne Nat ua ma → @Ne Nat ua L → @Ne Nat ma L → StrsAre mv (ms.map S) → StrsAre uv (us.map S) → mv.length ≤ i → uv.length ≤ j → i ≤ xs.length → j ≤ ys.length →
    ms ++ xs.drop i = (sld xs ys).1 → us ++ ys.drop j = (sld xs ys).2 →
    SldC g L' hx e' [("i", .int i t1), ("j", .int j t2), ("missing", .ref ma), ("unexpected", .ref ua), ("expected", .ref l), ("actual", .ref l2)] u [(ua, listOf (List.toArray uv) c1), (ma, listOf (List.toArray mv) c2), (L, { oL with slots := sl })] → P (.ref e') { s with heap := hx, toks := tk }) → P e s'
noncomputable def SldH (s : Shared) (g : Heap) (L' l l2 L : Addr) (oL : Obj) (xs ys : List TX) (e : Value) (s' : Shared) : Prop :=
  ∀ P : Value → Shared → Prop, (∀ (e' : Addr) (hx : Heap) (tk : Nat) (u : Str → Option Value) (i j : Nat) (t1 t2 : Tok) (ma ua : Addr) (mv uv : List Value) (ms us : List TX) (c1 c2 : Nat) (sl : Array (Option Value)),
    @Ne Nat ua ma → @Ne Nat ua L → @Ne Nat ma L → StrsAre mv (ms.map S) → StrsAre uv (us.map S) → mv.length ≤ i → uv.length ≤ j → i ≤ xs.length → j ≤ ys.length →
    ms ++ xs.drop i = (sld xs ys).1 → us ++ ys.drop j = (sld xs ys).2 →
    TT.HeldN g L' hx (locsOf [("i", .int i t1), ("j", .int j t2), ("missing", .ref ma), ("unexpected", .ref ua), ("expected", .ref l), ("actual", .ref l2)] u) e' "IndexError" [(ua, listOf (List.toArray uv) c1), (ma, listOf (List.toArray mv) c2), (L, { oL with slots := sl })] → P (.ref e') { s with heap := hx, toks := tk }) → P e s'
noncomputable def FinP (s : Shared) (g : Heap) (L' l l2 L : Addr) (oL : Obj) (xs : List TX) (a e : TX) (j i1 : Nat) (t2 : Tok) (ma ua : Addr) (mv uv : List Value) (c1 c2 : Nat) (sl : Array (Option Value)) (e₁ : Value) (s₁ : Shared) : Prop :=
  ∀ P : Value → Shared → Prop, (∀ (e' : Addr) (hx h : Heap) (tk : Nat) (u : Str → Option Value) (t1' ta : Tok) (t0 : Value),
    Fr g L' h (locsOf [("i", .int xs.length t1'), ("j", .int j t2), ("missing", .ref ma), ("unexpected", .ref ua), ("expected", .ref l), ("actual", .ref l2), ("a", .str (S a) ta)] u) →
    News g L' h [(ua, listOf (List.toArray uv) c1), (ma, listOf (List.toArray mv) c2), (L, { oL with slots := sl })] → NewX h hx e' "IndexError" #[t0, .none, .none, .none, .bool false, .none] → skipL e (xs.drop i1) = [] → P (.ref e') { s with heap := hx, toks := tk }) → P e₁ s₁
noncomputable def SkipEnd (s : Shared) (g : Heap) (L' : Addr) (nm : Str) (nl0 : Tok → Tok → Tok → List (Str × Value)) (N0 : Tok → List (Addr × Obj)) (X : List TX) (e : TX) (i0 : Nat) (f : Flow) (s' : Shared) : Prop :=
  ∀ P : Flow → Shared → Prop, (∀ (h : Heap) (tk : Nat) (u : Str → Option Value) (i' : Nat) (t te ta tj tn : Tok), Fr g L' h (locsOf ((nm, .int i' t) :: nl0 te ta tj) u) → News g L' h (N0 tn) → i0 ≤ i' → i' ≤ X.length → skipL e (X.drop i0) = X.drop i' → P .next { s with heap := h, toks := tk }) → P f s'
theorem sld_note {prog : Program} {A₀ : Around} {g : Heap} {L' l l2 L a : Addr} {oL : Obj} {xs ys : List TX} {e : Value} {s' : Shared} {env : Env} {name : Str} {scope : Scope} {cd : Value} (hfr : A₀.frames = some [env]) (Fs : TI.Frs [env] [(L, oL)]) (h : SldP s g L' l l2 L oL xs ys e s') (hk : scope.kind = .function) :
    wpAny (model prog w) (A₀.deeper (envOf name scope L' a cd)) (noteFrame e (envOf name scope L' a cd)) (fun _ s₂ => SldH s g L' l l2 L oL xs ys e s₂) (fun _ _ => False) s' := by
  apply h
  clear h
  intro e' hx tk u i j t1 t2 ma ua mv uv ms us c1 c2 sl h1 h2 h3 h4 h5 h6 h7 h8 h9 h10 h11 hh
  refine hh _ (fun h vs F N hX => ?_) fun hh => ?_
  · refine noteH (new := [(ua, listOf (List.toArray uv) c1), (ma, listOf (List.toArray mv) c2)]) hfr (frs_sl Fs) F N ⟨h2, h3, trivial⟩ hX (fun h' sl' H => ?_) hk
    exact fun _ k => k e' h' tk u i j t1 t2 ma ua mv uv ms us c1 c2 sl' h1 h2 h3 h4 h5 h6 h7 h8 h9 h10 h11 H
  · refine noted_again (s := { s with heap := hx, toks := tk }) hh.held (fun _ _ => ?_)
    exact fun _ k => k e' hx tk u i j t1 t2 ma ua mv uv ms us c1 c2 sl h1 h2 h3 h4 h5 h6 h7 h8 h9 h10 h11 hh
set_option maxHeartbeats 4000000 in
theorem sld_ {env : Env} {h₀ : Heap} {L l l2 : Addr} {m : Str → Option Value} {news : List (Addr × Obj)} {vs vs2 : List Value} {xs ys : List TX}
  (F₀ : Fr h₀ L s.heap m) (N₀ : News h₀ L s.heap news) (X₀ : (Mine.hd.heap_39 w.params).In h₀) (T₀ : Top Mine.hd.view_39 (looseW Mine.hd.view_39 []) mean mg mb h₀) (hf : env.frame = some L) (hke : env.scope.kind = .function) (hA2 : d < 370)
  (hlL : l ≠ L) (hl2L : l2 ≠ L)
  (hl : s.heap.IsList l vs.toArray) (hi : StrsAre vs (xs.map S)) (hl2 : s.heap.IsList l2 vs2.toArray) (hi2 : StrsAre vs2 (ys.map S)) (hn5 : xs.length ≤ 14) (hn6 : ys.length ≤ 14)
  (hQ : ∀ h' tk r ma ua mv uv c1 c2 c3, Fr h₀ L h' m → News h₀ L h' ((r, { cls := .type "tuple", data := .seq #[.ref ma, .ref ua] c3 }) :: (ma, listOf (List.toArray mv) c1) :: (ua, listOf (List.toArray uv) c2) :: news) → StrsAre mv ((sld xs ys).1.map S) → StrsAre uv ((sld xs ys).2.map S) → Q (.ref r) {s with heap := h', toks := tk}) :
  wpAny (model Challenge.rw_pd0146_01.row.prog w) (Around.mk none d (some [env]) g u) (call (.ref 28) [.ref l, .ref l2]) Q E s := by
  refine' enterH (hid := []) (env := env) (binds := [("expected", .ref l), ("actual", .ref l2)]) F₀ X₀ T₀ News.nil hf hke ?k6 ?k7 (Nat.lt_trans hA2 (by decide)) (BindsTo.of_eq ?k8) ?k9 ?_ ?c1 ?c2 ?c3 ?c4
  (((case k6 => k_is); (case k7 => k_is); (case k8 => rfl); (case k9 => exact locs (by rfl)); (case c1 => rfl); (case c2 => rfl); (case c3 => rfl); (case c4 => decide)))
  intro g oL h₁ L' tiC tiF _ hk0 X T hup hsub F N
  rw [List.nil_append] at N
  have hn3 : vs.length = xs.length := by rw [hi.len_eq, List.length_map]
  have hn4 : vs2.length = ys.length := by rw [hi2.len_eq, List.length_map]
  have hlg : g.IsList l vs.toArray := by obtain ⟨o, h1, h2⟩ := hl; exact ⟨o, hup _ _ h1 hlL (fun q hq => by cases hq), h2⟩
  have hlg2 : g.IsList l2 vs2.toArray := by obtain ⟨o, h1, h2⟩ := hl2; exact ⟨o, hup _ _ h1 hl2L (fun q hq => by cases hq), h2⟩
  clear F₀ X₀ T₀ hl hl2
  (repeat' (first | (k_unfold; (try dsimp only)) | (k_end; kc_close) | (k_here; (with_reducible show wpAny _ _ (exec (PySem.Stmt.While (PySem.Expr.Constant _ _ _) (_ :: _) [] _) _) _ _ _); refine stopHere ?_) | walk1 | (dsimp only; walk1) | (leave1; (try dsimp only))))
  (rename Fr _ _ _ _ => kF)
  (rename News _ _ _ _ => kN)
  unfold Stop
  refine whileR (DJ l l2 L oL xs ys) (xs.length + ys.length) kF kN ?_ ?_ (by passes_own)
  · exact StartJ.mk (by first | exact agr (by with_unfolding_all rfl) | (refine ⟨?_, ?_, ?_, ?_, ?_, ?_, trivial⟩ <;> with_unfolding_all rfl)) (by first | exact subI [0, 1, 2] rfl | exact subI [1, 2, 3] rfl | exact subI [2, 3, 4] rfl | exact subI [3, 4, 5] rfl | exact ⟨by k_mem, by k_mem, by k_mem, trivial⟩) (fun _ k => k 0 0 _ _ _ _ ([]) ([]) ([]) ([]) _ _ oL.slots (by lia) (by lia) (by lia) StrsAre.nil StrsAre.nil (Nat.le_refl _) (Nat.le_refl _) (Nat.zero_le _) (Nat.zero_le _) (by simp) (by simp) (by simp))
  · intro k nl news h tk u J
    apply J
    clear J
    intro i j t1 t2 ma ua mv uv ms us c1 c2 sl hne hne2 hne3 hms hus hm hu hin hjn hk hm1 hu1 F N
    as_aux_lemma =>
    (repeat' (first | (k_unfold; (try dsimp only)) | (k_end; kc_close) | (k_here; (with_reducible show wpAny _ _ (exec (Stmt.Try _ (_ :: _) _ [] _) (envOf _ _ _ _ _)) _ _ _); refine wpAny_Try_except (stopHere ?_)) | walk1 | (dsimp only; walk1) | (leave1; (try dsimp only))))
    unfold Stop
    refine split_E (SldP s g L' l l2 L oL xs ys) PassesOwn.looking (fun hd A2 => PassesOwnAt.lookingOf (SameStack.mark _ _)) ?_ ?_
    · intro e₁ s₁ hP
      refine wpAny_mono (sld_note rfl tiF hP rfl) (fun _ s₂ H => ?_) (fun _ _ x => x.elim)
      apply H
      clear H
      intro e' hx tk u i j t1 t2 ma ua mv uv ms us c1 c2 sl h1 h2 h3 h4 h5 h6 h7 h8 h9 h10 h11 hh
      have hh2 := hh.held
      (repeat' (first | (k_unfold; (try dsimp only)) | (k_end; kc_close) | (k_here; (with_reducible show wpAny _ _ (subscriptTail (PySem.Expr.Name _ _) (PySem.Expr.Slice _ _ _ _) (Value.ref _) (Value.ref _)) _ _ _); (with_reducible show wpAny _ _ (subscriptTail _ (PySem.Expr.Slice _ _ none _) (Value.ref _) (Value.ref _)) _ _ _); k_dflt (refine' kms_slice_lit (by k_asm) (by k_asm) (by kmk_list) (by kmk_part) (by kmk_part) (by exact rfl) ?_ (by with_unfolding_all rfl) (by kmk_pure) (by (((try simp only [sizeLine_eq, List.length_cons, List.length_nil, List.length_append, List.length_replicate, List.length_map, Array.length_toList, List.size_toArray]); omega)))); intro zrDq zrhq zrFq zrNq zrl1; (try k_lt zrl1); (try k_sweep)) | (k_here; (with_reducible show wpAny _ _ (call (Value.builtin _) [Value.ref _, Value.ref _]) _ _ _); k_dflt (refine' ext_N (by k_asm) (by k_asm) (by k_mem) (by intro zrc; k_upd) (by ((refine Nat.le_trans (Nat.add_le_add_left (pick_le _ _ _) _) ?_; (((try simp only [sizeLine_eq, List.length_cons, List.length_nil, List.length_append, List.length_replicate, List.length_map, Array.length_toList, List.size_toArray]); omega))))) ?_); intro zrcq zrhq zrFq zrNq; (try k_sweep)) | walk1 | (dsimp only; walk1) | (leave1; (try dsimp only))))
      (try dsimp only)
      k_steps
      (try dsimp only [WPost])
      k_steps
      (rename Fr _ _ _ _ => kF2)
      (rename News _ _ _ _ => kN2)
      (refine qE0A2 (backN (fresh := [(_, { cls := Value.type "tuple", data := Data.seq #[Value.ref ma, Value.ref ua] 0 }), (ma, _), (ua, _)]) tiC hk0 hup (fun p hp q hq => by cases hq) N₀ kF2 kN2 (by k_mem) (by exact ⟨by k_mem, by k_ne, by k_mem, by k_ne, by k_mem, by k_ne, trivial⟩)) fun F9 N9 => ?_)
      exact hQ _ _ _ _ _ _ _ _ _ _ F9 N9 (strs_end (by assumption) hi h10) (strs_end (by assumption) hi2 h11)
    · intro E' hp' hpa' hE'
      by_cases h1 : i < xs.length
      · (refine qE1A2 (item_at h1) fun e he1 he2 => ?_)
        by_cases h2 : j < ys.length
        · (refine qE1A2 (item_at h2) fun a ha1 ha2 => ?_)
          have hde := drop_at he1
          have hda := drop_at ha1
          (repeat' (first | (k_unfold; (try dsimp only)) | (k_end; kc_close) | (k_here; (with_reducible show wpAny _ _ (subscriptTail (PySem.Expr.Name _ _) (PySem.Expr.Name _ _) (Value.ref _) (Value.int _ _)) _ _ _); (with_reducible show wpAny _ _ (subscriptTail _ _ (Value.ref _) (Value.int (Nat.cast _) _)) _ _ _); (with_reducible rename Fr _ _ _ _ => zrkF); first | (refine item_S0 zrkF (by assumption) (by assumption) (by assumption) (by omega) ?_; intro zrtq) | (refine item_S0out rfl zrkF (by assumption) (by assumption) (by omega) (by omega) ?_; intro zrhq zrtkq zreq zrxq) | (refine item_S0outH rfl (News.get (by assumption) (by k_mem)) (by assumption) (by assumption) zrkF (by assumption) (by assumption) (by omega) (by omega) ?_; intro zrhq zrtkq zreq zrvsq zrxq)) | (k_here; (with_reducible show wpAny _ _ (exec (PySem.Stmt.While (PySem.Expr.Compare _ _ _ _) (_ :: _) [] _) _) _ _ _); refine stopHere ?_) | (k_here; (with_reducible show wpAny _ _ (exec (Stmt.Try _ [] _ (_ :: _) _) _) _ _ _); refine wpAny_Try_finally (stopHere ?_)) | walk1 | (dsimp only; walk1) | (leave1; (try dsimp only))))
          · skip
            (rename Fr _ _ _ _ => kF)
            (rename News _ _ _ _ => kN)
            (rename @LT.lt (List Nat) _ _ _ => hlt)
            rw [S_cps, S_cps] at hlt
            rw [List.push_toArray] at kN
            rw [hde, hda, sld_lt _ _ hlt] at hm1 hu1
            dsimp only at hm1 hu1
            unfold Stop
            refine wpAny_mono (Q := SkipEnd s g L' "i" (fun te _ _ => [("j", .int j t2), ("missing", .ref ma), ("unexpected", .ref ua), ("expected", .ref l), ("actual", .ref l2), ("e", .str (S e) te)]) (fun tn => [(ua, listOf uv.toArray c1), (ma, listOf (mv ++ [Value.str (S e) tn]).toArray (c2 + 1)), (L, { oL with slots := sl })]) xs e (i + 1)) ?_ ?_ (fun _ _ x => x)
            refine whileR (EJ "i" (fun te _ _ => [("j", .int j t2), ("missing", .ref ma), ("unexpected", .ref ua), ("expected", .ref l), ("actual", .ref l2), ("e", .str (S e) te)]) (fun tn => [(ua, listOf uv.toArray c1), (ma, listOf (mv ++ [Value.str (S e) tn]).toArray (c2 + 1)), (L, { oL with slots := sl })]) xs e (i + 1)) (xs.length - (i + 1)) kF kN ?_ ?_ (by passes_own)
            · exact StartJ.mk (by first | exact agr (by with_unfolding_all rfl) | (refine ⟨?_, ?_, ?_, ?_, ?_, ?_, ?_, trivial⟩ <;> with_unfolding_all rfl)) (by first | exact subI [0, 1, 2] rfl | exact subI [1, 2, 3] rfl | exact subI [2, 3, 4] rfl | exact subI [3, 4, 5] rfl | exact ⟨by k_mem, by k_mem, by k_mem, trivial⟩) (fun _ k => k (i + 1) _ _ 0 0 _ (Nat.le_refl _) h1 (by (with_reducible exact ar34 ‹_›)) rfl)
            · intro k' nl news h tk u J
              apply J
              clear J
              intro i' t' te ta tj tn hi1 hi2' hi3 hi4 F N
              dsimp only at F N
              as_aux_lemma =>
              have hms2 : StrsAre (mv ++ [Value.str (S e) tn]) ((ms ++ [e]).map S) := by rw [List.map_append]; exact hms.append' (.cons _ _ .nil)
              have hml : (mv ++ [Value.str (S e) tn]).length ≤ i' := by rw [List.length_append, List.length_singleton]; lia
              by_cases h3 : i' < xs.length
              · (refine qE1A2 (item_at h3) fun x hx1 hx2 => ?_)
                (repeat' (first | (k_unfold; (try dsimp only)) | (k_end; kc_close) | (k_here; (with_reducible show wpAny _ _ (subscriptTail (PySem.Expr.Name _ _) (PySem.Expr.Name _ _) (Value.ref _) (Value.int _ _)) _ _ _); (with_reducible show wpAny _ _ (subscriptTail _ _ (Value.ref _) (Value.int (Nat.cast _) _)) _ _ _); (with_reducible rename Fr _ _ _ _ => zrkF); first | (refine item_S0 zrkF (by assumption) (by assumption) (by assumption) (by omega) ?_; intro zrtq) | (refine item_S0out rfl zrkF (by assumption) (by assumption) (by omega) (by omega) ?_; intro zrhq zrtkq zreq zrxq) | (refine item_S0outH rfl (News.get (by assumption) (by k_mem)) (by assumption) (by assumption) zrkF (by assumption) (by assumption) (by omega) (by omega) ?_; intro zrhq zrtkq zreq zrvsq zrxq)) | walk1 | (dsimp only; walk1) | (leave1; (try dsimp only))))
                · skip
                  (rename _ = true => hb)
                  exact wE (n' := k' - 1) (by assumption) (by assumption) (by lia) (fun _ k => k (i' + 1) _ _ 0 0 _ (by lia) (by lia) (by (with_reducible exact ar35 ‹_› ‹_›)) ((skip_nextS hx1 hb).trans hi4)) (by first | exact agr (by with_unfolding_all rfl) | (refine ⟨?_, ?_, ?_, ?_, ?_, ?_, ?_, trivial⟩ <;> with_unfolding_all rfl)) (by first | exact subI [0, 1, 2] rfl | exact subI [1, 2, 3] rfl | exact subI [2, 3, 4] rfl | exact subI [3, 4, 5] rfl | exact ⟨by k_mem, by k_mem, by k_mem, trivial⟩)
                · (rename _ = false => hb)
                  exact (fun _ k => k _ _ _ (i') _ _ 0 0 _ (by assumption) (by assumption) (by (with_reducible assumption)) (by (with_reducible assumption)) (by rw [← hi4, skip_hereS hx1 hb]))
              · have hix : i' = xs.length := by lia
                rw [← hi4, hix, List.drop_length, skipL, ← hda, sld_nil1] at hm1 hu1
                have hm1 : (ms ++ [e]) ++ xs.drop i' = (sld xs ys).1 := by rw [← hm1, hix, List.drop_length]; simp
                (repeat' (first | (k_unfold; (try dsimp only)) | (k_end; kc_close) | (k_here; (with_reducible show wpAny _ _ (subscriptTail (PySem.Expr.Name _ _) (PySem.Expr.Name _ _) (Value.ref _) (Value.int _ _)) _ _ _); (with_reducible show wpAny _ _ (subscriptTail _ _ (Value.ref _) (Value.int (Nat.cast _) _)) _ _ _); (with_reducible rename Fr _ _ _ _ => zrkF); first | (refine item_S0 zrkF (by assumption) (by assumption) (by assumption) (by omega) ?_; intro zrtq) | (refine item_S0out rfl zrkF (by assumption) (by assumption) (by omega) (by omega) ?_; intro zrhq zrtkq zreq zrxq) | (refine item_S0outH rfl (News.get (by assumption) (by k_mem)) (by assumption) (by assumption) zrkF (by assumption) (by assumption) (by omega) (by omega) ?_; intro zrhq zrtkq zreq zrvsq zrxq)) | walk1 | (dsimp only; walk1) | (leave1; (try dsimp only))))
                (rename Fr _ _ _ _ => kF2)
                (rename News _ _ _ _ => kN2)
                (rename Heap.NewExc _ _ _ _ => kX2)
                (refine qE1A1 (NewX.of kX2) fun tx kX3 => ?_)
                exact hE' _ _ (fun _ k => k _ _ _ _ (i') j _ _ ma ua _ uv (ms ++ [e]) us c1 _ sl hne hne2 hne3 (by assumption) (by assumption) hml hu (by (with_reducible assumption)) hjn hm1 hu1 (fun _ k1 _ => k1 _ _ (toLocs kF2 (by first | exact agr (by with_unfolding_all rfl) | (refine ⟨?_, ?_, ?_, ?_, ?_, ?_, trivial⟩ <;> with_unfolding_all rfl))) kN2 kX3))
            · intro f s₂ J
              apply J
              clear J
              intro h tk u i' t' te ta tj tn F N hi1 hi2' hi4
              dsimp only at F N
              have hms2 : StrsAre (mv ++ [Value.str (S e) tn]) ((ms ++ [e]).map S) := by rw [List.map_append]; exact StrsAre.append' (by assumption) (.cons _ _ .nil)
              have hml : (mv ++ [Value.str (S e) tn]).length ≤ i' := by rw [List.length_append, List.length_singleton]; lia
              rw [hi4, ← hda] at hm1 hu1
              k_steps
              exact wE (n' := xs.length + ys.length - i' - j) (by assumption) (by assumption) (ar22 (by assumption) (by assumption) (by assumption) (by lia)) (fun _ k => k (i') j _ _ ma ua _ _ (ms ++ [e]) us _ _ _ hne hne2 hne3 (by assumption) (by assumption) hml hu (by (with_reducible assumption)) hjn (by (with_reducible exact ar23 ‹_› ‹_›)) (by rw [← hm1]; simp) hu1) (by first | exact agr (by with_unfolding_all rfl) | (refine ⟨?_, ?_, ?_, ?_, ?_, ?_, trivial⟩ <;> with_unfolding_all rfl)) (by first | exact subI [0, 1, 2] rfl | exact subI [1, 2, 3] rfl | exact subI [2, 3, 4] rfl | exact subI [3, 4, 5] rfl | exact ⟨by k_mem, by k_mem, by k_mem, trivial⟩)
          · skip
            (rename Fr _ _ _ _ => kF)
            (rename News _ _ _ _ => kN)
            (rename ¬ @LT.lt (List Nat) _ _ _ => hlt0)
            (rename @LT.lt (List Nat) _ _ _ => hlt)
            rw [S_cps, S_cps] at hlt hlt0
            rw [List.push_toArray] at kN
            rw [hde, hda, sld_gt _ _ hlt0 hlt] at hm1 hu1
            dsimp only at hm1 hu1
            unfold Stop
            refine wpAny_mono (Q := SkipEnd s g L' "j" (fun ta _ _ => [("i", .int i t1), ("missing", .ref ma), ("unexpected", .ref ua), ("expected", .ref l), ("actual", .ref l2), ("a", .str (S a) ta)]) (fun tn => [(ua, listOf (uv ++ [Value.str (S a) tn]).toArray (c1 + 1)), (ma, listOf mv.toArray c2), (L, { oL with slots := sl })]) ys a (j + 1)) ?_ ?_ (fun _ _ x => x)
            refine whileR (EJ "j" (fun ta _ _ => [("i", .int i t1), ("missing", .ref ma), ("unexpected", .ref ua), ("expected", .ref l), ("actual", .ref l2), ("a", .str (S a) ta)]) (fun tn => [(ua, listOf (uv ++ [Value.str (S a) tn]).toArray (c1 + 1)), (ma, listOf mv.toArray c2), (L, { oL with slots := sl })]) ys a (j + 1)) (ys.length - (j + 1)) kF kN ?_ ?_ (by passes_own)
            · exact StartJ.mk (by first | exact agr (by with_unfolding_all rfl) | (refine ⟨?_, ?_, ?_, ?_, ?_, ?_, ?_, trivial⟩ <;> with_unfolding_all rfl)) (by first | exact subI [0, 1, 2] rfl | exact subI [1, 2, 3] rfl | exact subI [2, 3, 4] rfl | exact subI [3, 4, 5] rfl | exact ⟨by k_mem, by k_mem, by k_mem, trivial⟩) (fun _ k => k (j + 1) _ _ 0 0 _ (Nat.le_refl _) h2 (by (with_reducible exact ar34 ‹_›)) rfl)
            · intro k' nl news h tk u J
              apply J
              clear J
              intro j' t' te ta tj tn hi1 hi2' hi3 hi4 F N
              dsimp only at F N
              as_aux_lemma =>
              have hus2 : StrsAre (uv ++ [Value.str (S a) tn]) ((us ++ [a]).map S) := by rw [List.map_append]; exact StrsAre.append' (by assumption) (.cons _ _ .nil)
              have hul : (uv ++ [Value.str (S a) tn]).length ≤ j' := by rw [List.length_append, List.length_singleton]; lia
              by_cases h3 : j' < ys.length
              · (refine qE1A2 (item_at h3) fun x hx1 hx2 => ?_)
                (repeat' (first | (k_unfold; (try dsimp only)) | (k_end; kc_close) | (k_here; (with_reducible show wpAny _ _ (subscriptTail (PySem.Expr.Name _ _) (PySem.Expr.Name _ _) (Value.ref _) (Value.int _ _)) _ _ _); (with_reducible show wpAny _ _ (subscriptTail _ _ (Value.ref _) (Value.int (Nat.cast _) _)) _ _ _); (with_reducible rename Fr _ _ _ _ => zrkF); first | (refine item_S0 zrkF (by assumption) (by assumption) (by assumption) (by omega) ?_; intro zrtq) | (refine item_S0out rfl zrkF (by assumption) (by assumption) (by omega) (by omega) ?_; intro zrhq zrtkq zreq zrxq) | (refine item_S0outH rfl (News.get (by assumption) (by k_mem)) (by assumption) (by assumption) zrkF (by assumption) (by assumption) (by omega) (by omega) ?_; intro zrhq zrtkq zreq zrvsq zrxq)) | walk1 | (dsimp only; walk1) | (leave1; (try dsimp only))))
                · skip
                  (rename _ = true => hb)
                  exact wE (n' := k' - 1) (by assumption) (by assumption) (by lia) (fun _ k => k (j' + 1) _ _ 0 0 _ (by lia) (by lia) (by (with_reducible exact ar35 ‹_› ‹_›)) ((skip_nextS hx1 hb).trans hi4)) (by first | exact agr (by with_unfolding_all rfl) | (refine ⟨?_, ?_, ?_, ?_, ?_, ?_, ?_, trivial⟩ <;> with_unfolding_all rfl)) (by first | exact subI [0, 1, 2] rfl | exact subI [1, 2, 3] rfl | exact subI [2, 3, 4] rfl | exact subI [3, 4, 5] rfl | exact ⟨by k_mem, by k_mem, by k_mem, trivial⟩)
                · (rename _ = false => hb)
                  exact (fun _ k => k _ _ _ (j') _ _ 0 0 _ (by assumption) (by assumption) (by (with_reducible assumption)) (by (with_reducible assumption)) (by rw [← hi4, skip_hereS hx1 hb]))
              · have hix : j' = ys.length := by lia
                rw [← hi4, hix, List.drop_length, skipL, ← hde, sld_nil2] at hm1 hu1
                have hu1 : (us ++ [a]) ++ ys.drop j' = (sld xs ys).2 := by rw [← hu1, hix, List.drop_length]; simp
                (repeat' (first | (k_unfold; (try dsimp only)) | (k_end; kc_close) | (k_here; (with_reducible show wpAny _ _ (subscriptTail (PySem.Expr.Name _ _) (PySem.Expr.Name _ _) (Value.ref _) (Value.int _ _)) _ _ _); (with_reducible show wpAny _ _ (subscriptTail _ _ (Value.ref _) (Value.int (Nat.cast _) _)) _ _ _); (with_reducible rename Fr _ _ _ _ => zrkF); first | (refine item_S0 zrkF (by assumption) (by assumption) (by assumption) (by omega) ?_; intro zrtq) | (refine item_S0out rfl zrkF (by assumption) (by assumption) (by omega) (by omega) ?_; intro zrhq zrtkq zreq zrxq) | (refine item_S0outH rfl (News.get (by assumption) (by k_mem)) (by assumption) (by assumption) zrkF (by assumption) (by assumption) (by omega) (by omega) ?_; intro zrhq zrtkq zreq zrvsq zrxq)) | walk1 | (dsimp only; walk1) | (leave1; (try dsimp only))))
                (rename Fr _ _ _ _ => kF2)
                (rename News _ _ _ _ => kN2)
                (rename Heap.NewExc _ _ _ _ => kX2)
                (refine qE1A1 (NewX.of kX2) fun tx kX3 => ?_)
                exact hE' _ _ (fun _ k => k _ _ _ _ i (j') _ _ ma ua mv _ ms (us ++ [a]) _ c2 sl hne hne2 hne3 (by assumption) (by assumption) hm hul hin (by (with_reducible assumption)) hm1 hu1 (fun _ k1 _ => k1 _ _ (toLocs kF2 (by first | exact agr (by with_unfolding_all rfl) | (refine ⟨?_, ?_, ?_, ?_, ?_, ?_, trivial⟩ <;> with_unfolding_all rfl))) kN2 kX3))
            · intro f s₂ J
              apply J
              clear J
              intro h tk u j' t' te ta tj tn F N hi1 hi2' hi4
              dsimp only at F N
              have hus2 : StrsAre (uv ++ [Value.str (S a) tn]) ((us ++ [a]).map S) := by rw [List.map_append]; exact StrsAre.append' (by assumption) (.cons _ _ .nil)
              have hul : (uv ++ [Value.str (S a) tn]).length ≤ j' := by rw [List.length_append, List.length_singleton]; lia
              rw [hi4, ← hde] at hm1 hu1
              k_steps
              exact wE (n' := xs.length + ys.length - i - j') (by assumption) (by assumption) (ar22 (by assumption) (by assumption) (by assumption) (by lia)) (fun _ k => k i (j') _ _ ma ua _ _ ms (us ++ [a]) _ _ _ hne hne2 hne3 (by assumption) (by assumption) hm hul hin (by (with_reducible assumption)) (by (with_reducible exact ar23 ‹_› ‹_›)) hm1 (by rw [← hu1]; simp)) (by first | exact agr (by with_unfolding_all rfl) | (refine ⟨?_, ?_, ?_, ?_, ?_, ?_, trivial⟩ <;> with_unfolding_all rfl)) (by first | exact subI [0, 1, 2] rfl | exact subI [1, 2, 3] rfl | exact subI [2, 3, 4] rfl | exact subI [3, 4, 5] rfl | exact ⟨by k_mem, by k_mem, by k_mem, trivial⟩)
          · skip
            (rename Fr _ _ _ _ => kF)
            (rename News _ _ _ _ => kN)
            (rename ¬ @LT.lt (List Nat) _ _ _ => hlt1)
            revert hlt1
            (rename ¬ @LT.lt (List Nat) _ _ _ => hlt0)
            intro hlt1
            rw [S_cps, S_cps] at hlt0 hlt1
            rw [hde, hda, sld_eq _ _ hlt0 hlt1] at hm1 hu1
            unfold Stop
            refine split_E (FinP s g L' l l2 L oL xs a e j (i + 1) t2 ma ua mv uv c1 c2 sl) PassesOwn.looking (fun hd A2 => PassesOwnAt.lookingOf (SameStack.mark _ _)) ?_ ?_
            · intro e₁ s₁ J
              apply J
              clear J
              intro e' hx h tk u t1' ta t0 F N hX hsk
              as_aux_lemma =>
              refine noteX (new := [(ua, _), (ma, _)]) rfl (frs_sl tiF) F N ⟨hne2, hne3, trivial⟩ hX (fun h' sl' T oe oT ts F' N' q1 q2 q3 q4 q5 q6 => ?_) rfl
              have q7 : ((#[t0, Value.none, .none, .none, .bool false, .none] : Array Value).setIfInBounds 1 (.ref T))[1]? = some (.ref T) := by simp
              have q8 : ((#[t0, Value.none, .none, .none, .bool false, .none] : Array Value).setIfInBounds 1 (.ref T))[2]? = some .none := by simp
              refine ⟨ref_ne_byPass _, ?_⟩
              refine noted_again (s := { s with heap := h', toks := tk }) (heldOf F' N' q1 q2 q7 q3 q4 q5 q6).held (fun _ _ => ?_)
              refine flightX none F' N' q2 q7 q3 (Array.getElem?_eq_some_iff.mp q4).1 q5 q6 (fun hh2 oT' ts' F2 N2 d3 f3 => ?_)
              refine wpAny_passesOwnAt (hpa' _ _) ?_
              rw [hsk, sld_nil1] at hm1 hu1
              have hmx : ms ++ xs.drop xs.length = (sld xs ys).1 := by rw [List.drop_length]; exact hm1
              clear F N F' N'
              (repeat' (first | (k_unfold; (try dsimp only)) | (k_end; kc_close) | (k_here; (with_reducible show wpAny _ _ (exec (PySem.Stmt.While (PySem.Expr.Compare _ _ _ _) (_ :: _) [] _) _) _ _ _); refine stopHere ?_) | walk1 | (dsimp only; walk1) | (leave1; (try dsimp only))))
              (rename Fr _ _ _ _ => kF)
              (rename News _ _ _ _ => kN)
              unfold Stop
              refine whileR (EJ "j" (fun ta _ _ => [("i", .int xs.length t1'), ("missing", .ref ma), ("unexpected", .ref ua), ("expected", .ref l), ("actual", .ref l2), ("a", .str (S a) ta)]) (fun _ => [(e', oe), (T, oT'), (ua, listOf uv.toArray c1), (ma, listOf mv.toArray c2), (L, { oL with slots := sl' })]) ys a (j + 1)) (ys.length - (j + 1)) kF kN ?_ ?_ (hpa' _ _)
              · exact StartJ.mk (by first | exact agr (by with_unfolding_all rfl) | (refine ⟨?_, ?_, ?_, ?_, ?_, ?_, ?_, trivial⟩ <;> with_unfolding_all rfl)) (by first | exact subI [0, 1, 2, 3, 4] rfl | exact subI [1, 2, 3, 4, 5] rfl | exact subI [2, 3, 4, 5, 6] rfl | exact subI [3, 4, 5, 6, 7] rfl | exact ⟨by k_mem, by k_mem, by k_mem, by k_mem, by k_mem, trivial⟩) (fun _ k => k (j + 1) _ _ 0 0 0 (Nat.le_refl _) h2 (by (with_reducible exact ar34 ‹_›)) rfl)
              · intro k' nl news h tk u J
                apply J
                clear J
                intro j' t' te ta tj tn hi1 hi2' hi3 hi4 F N
                dsimp only at F N
                as_aux_lemma =>
                by_cases h3 : j' < ys.length
                · (refine qE1A2 (item_at h3) fun x hx1 hx2 => ?_)
                  (repeat' (first | (k_unfold; (try dsimp only)) | (k_end; kc_close) | (k_here; (with_reducible show wpAny _ _ (subscriptTail (PySem.Expr.Name _ _) (PySem.Expr.Name _ _) (Value.ref _) (Value.int _ _)) _ _ _); (with_reducible show wpAny _ _ (subscriptTail _ _ (Value.ref _) (Value.int (Nat.cast _) _)) _ _ _); (with_reducible rename Fr _ _ _ _ => zrkF); first | (refine item_S0 zrkF (by assumption) (by assumption) (by assumption) (by omega) ?_; intro zrtq) | (refine item_S0out rfl zrkF (by assumption) (by assumption) (by omega) (by omega) ?_; intro zrhq zrtkq zreq zrxq) | (refine item_S0outH rfl (News.get (by assumption) (by k_mem)) (by assumption) (by assumption) zrkF (by assumption) (by assumption) (by omega) (by omega) ?_; intro zrhq zrtkq zreq zrvsq zrxq)) | walk1 | (dsimp only; walk1) | (leave1; (try dsimp only))))
                  · skip
                    (rename _ = true => hb)
                    exact wE (n' := k' - 1) (by assumption) (by assumption) (by lia) (fun _ k => k (j' + 1) _ _ 0 0 0 (by lia) (by lia) (by (with_reducible exact ar35 ‹_› ‹_›)) ((skip_nextS hx1 hb).trans hi4)) (by first | exact agr (by with_unfolding_all rfl) | (refine ⟨?_, ?_, ?_, ?_, ?_, ?_, ?_, trivial⟩ <;> with_unfolding_all rfl)) (by first | exact subI [0, 1, 2, 3, 4] rfl | exact subI [1, 2, 3, 4, 5] rfl | exact subI [2, 3, 4, 5, 6] rfl | exact subI [3, 4, 5, 6, 7] rfl | exact ⟨by k_mem, by k_mem, by k_mem, by k_mem, by k_mem, trivial⟩)
                  · (rename _ = false => hb)
                    rw [← hi4, skip_hereS hx1 hb] at hu1
                    (rename Fr _ _ _ _ => kF2)
                    (rename News _ _ _ _ => kN2)
                    (try dsimp only)
                    refine passOnX (toLocs (nl := [("i", .int xs.length t1'), ("j", .int j' t'), ("missing", .ref ma), ("unexpected", .ref ua), ("expected", .ref l), ("actual", .ref l2)]) kF2 (by first | exact agr (by with_unfolding_all rfl) | (refine ⟨?_, ?_, ?_, ?_, ?_, ?_, trivial⟩ <;> with_unfolding_all rfl))) kN2 q1 q2 q7 d3 (Array.getElem?_eq_some_iff.mp f3).1 q5 q6 ?_
                    intro h3 H3
                    exact hE' _ _ (fun _ k => k (e') h3 _ _ xs.length (j') (t1') (t') ma ua mv uv ms us c1 c2 (sl') hne hne2 hne3 (by assumption) (by assumption) (by lia) (by lia) (Nat.le_refl _) (by (with_reducible assumption)) hmx hu1 (fun _ _ k2 => k2 H3))
                · have hix : j' = ys.length := by lia
                  rw [← hi4, hix, List.drop_length, skipL] at hu1
                  have hu2 : us ++ ys.drop j' = (sld xs ys).2 := by rw [hix, List.drop_length]; exact hu1
                  (repeat' (first | (k_unfold; (try dsimp only)) | (k_end; kc_close) | (k_here; (with_reducible show wpAny _ _ (subscriptTail (PySem.Expr.Name _ _) (PySem.Expr.Name _ _) (Value.ref _) (Value.int _ _)) _ _ _); (with_reducible show wpAny _ _ (subscriptTail _ _ (Value.ref _) (Value.int (Nat.cast _) _)) _ _ _); (with_reducible rename Fr _ _ _ _ => zrkF); first | (refine item_S0 zrkF (by assumption) (by assumption) (by assumption) (by omega) ?_; intro zrtq) | (refine item_S0out rfl zrkF (by assumption) (by assumption) (by omega) (by omega) ?_; intro zrhq zrtkq zreq zrxq) | (refine item_S0outH rfl (News.get (by assumption) (by k_mem)) (by assumption) (by assumption) zrkF (by assumption) (by assumption) (by omega) (by omega) ?_; intro zrhq zrtkq zreq zrvsq zrxq)) | walk1 | (dsimp only; walk1) | (leave1; (try dsimp only))))
                  (rename Fr _ _ _ _ => kF2)
                  (rename News _ _ _ _ => kN2)
                  (rename NewX _ _ _ _ _ => kX3)
                  exact hE' _ _ (fun _ k => k _ _ _ _ xs.length (j') _ _ ma ua mv uv ms us c1 c2 (sl') hne hne2 hne3 (by assumption) (by assumption) (by lia) (by lia) (Nat.le_refl _) (by (with_reducible assumption)) hmx hu2 (fun _ k1 _ => k1 _ _ (toLocs kF2 (by first | exact agr (by with_unfolding_all rfl) | (refine ⟨?_, ?_, ?_, ?_, ?_, ?_, trivial⟩ <;> with_unfolding_all rfl))) (SubL.news (by first | exact subI [0, 1, 2] rfl | exact subI [1, 2, 3] rfl | exact subI [2, 3, 4] rfl | exact subI [3, 4, 5] rfl | exact ⟨by k_mem, by k_mem, by k_mem, trivial⟩) kN2) kX3))
            · intro E1 hp1 hpa1 hE1
              (repeat' (first | (k_unfold; (try dsimp only)) | (k_end; kc_close) | (k_here; (with_reducible show wpAny _ _ (exec (PySem.Stmt.While (PySem.Expr.Compare _ _ _ _) (_ :: _) [] _) _) _ _ _); refine stopHere ?_) | walk1 | (dsimp only; walk1) | (leave1; (try dsimp only))))
              (rename Fr _ _ _ _ => kF)
              (rename News _ _ _ _ => kN)
              unfold Stop
              refine wpAny_mono (Q := SkipEnd s g L' "i" (fun te ta _ => [("j", .int j t2), ("missing", .ref ma), ("unexpected", .ref ua), ("expected", .ref l), ("actual", .ref l2), ("e", .str (S e) te), ("a", .str (S a) ta)]) (fun _ => [(ua, listOf uv.toArray c1), (ma, listOf mv.toArray c2), (L, { oL with slots := sl })]) xs e (i + 1)) ?_ ?_ (fun _ _ x => x)
              refine whileR (EJ "i" (fun te ta _ => [("j", .int j t2), ("missing", .ref ma), ("unexpected", .ref ua), ("expected", .ref l), ("actual", .ref l2), ("e", .str (S e) te), ("a", .str (S a) ta)]) (fun _ => [(ua, listOf uv.toArray c1), (ma, listOf mv.toArray c2), (L, { oL with slots := sl })]) xs e (i + 1)) (xs.length - (i + 1)) kF kN ?_ ?_ (by passes_own)
              · exact StartJ.mk (by first | exact agr (by with_unfolding_all rfl) | (refine ⟨?_, ?_, ?_, ?_, ?_, ?_, ?_, ?_, trivial⟩ <;> with_unfolding_all rfl)) (by first | exact subI [0, 1, 2] rfl | exact subI [1, 2, 3] rfl | exact subI [2, 3, 4] rfl | exact subI [3, 4, 5] rfl | exact ⟨by k_mem, by k_mem, by k_mem, trivial⟩) (fun _ k => k (i + 1) _ _ _ 0 0 (Nat.le_refl _) h1 (by (with_reducible exact ar34 ‹_›)) rfl)
              · intro k' nl news h tk u J
                apply J
                clear J
                intro i' t' te ta tj tn hi1 hi2' hi3 hi4 F N
                dsimp only at F N
                as_aux_lemma =>
                by_cases h3 : i' < xs.length
                · (refine qE1A2 (item_at h3) fun x hx1 hx2 => ?_)
                  (repeat' (first | (k_unfold; (try dsimp only)) | (k_end; kc_close) | (k_here; (with_reducible show wpAny _ _ (subscriptTail (PySem.Expr.Name _ _) (PySem.Expr.Name _ _) (Value.ref _) (Value.int _ _)) _ _ _); (with_reducible show wpAny _ _ (subscriptTail _ _ (Value.ref _) (Value.int (Nat.cast _) _)) _ _ _); (with_reducible rename Fr _ _ _ _ => zrkF); first | (refine item_S0 zrkF (by assumption) (by assumption) (by assumption) (by omega) ?_; intro zrtq) | (refine item_S0out rfl zrkF (by assumption) (by assumption) (by omega) (by omega) ?_; intro zrhq zrtkq zreq zrxq) | (refine item_S0outH rfl (News.get (by assumption) (by k_mem)) (by assumption) (by assumption) zrkF (by assumption) (by assumption) (by omega) (by omega) ?_; intro zrhq zrtkq zreq zrvsq zrxq)) | walk1 | (dsimp only; walk1) | (leave1; (try dsimp only))))
                  · skip
                    (rename _ = true => hb)
                    exact wE (n' := k' - 1) (by assumption) (by assumption) (by lia) (fun _ k => k (i' + 1) _ _ _ 0 0 (by lia) (by lia) (by (with_reducible exact ar35 ‹_› ‹_›)) ((skip_nextS hx1 hb).trans hi4)) (by first | exact agr (by with_unfolding_all rfl) | (refine ⟨?_, ?_, ?_, ?_, ?_, ?_, ?_, ?_, trivial⟩ <;> with_unfolding_all rfl)) (by first | exact subI [0, 1, 2] rfl | exact subI [1, 2, 3] rfl | exact subI [2, 3, 4] rfl | exact subI [3, 4, 5] rfl | exact ⟨by k_mem, by k_mem, by k_mem, trivial⟩)
                  · (rename _ = false => hb)
                    exact (fun _ k => k _ _ _ (i') _ _ _ 0 0 (by assumption) (by assumption) (by (with_reducible assumption)) (by (with_reducible assumption)) (by rw [← hi4, skip_hereS hx1 hb]))
                · have hix : i' = xs.length := by lia
                  subst hix
                  rw [List.drop_length, skipL] at hi4
                  (repeat' (first | (k_unfold; (try dsimp only)) | (k_end; kc_close) | (k_here; (with_reducible show wpAny _ _ (subscriptTail (PySem.Expr.Name _ _) (PySem.Expr.Name _ _) (Value.ref _) (Value.int _ _)) _ _ _); (with_reducible show wpAny _ _ (subscriptTail _ _ (Value.ref _) (Value.int (Nat.cast _) _)) _ _ _); (with_reducible rename Fr _ _ _ _ => zrkF); first | (refine item_S0 zrkF (by assumption) (by assumption) (by assumption) (by omega) ?_; intro zrtq) | (refine item_S0out rfl zrkF (by assumption) (by assumption) (by omega) (by omega) ?_; intro zrhq zrtkq zreq zrxq) | (refine item_S0outH rfl (News.get (by assumption) (by k_mem)) (by assumption) (by assumption) zrkF (by assumption) (by assumption) (by omega) (by omega) ?_; intro zrhq zrtkq zreq zrvsq zrxq)) | walk1 | (dsimp only; walk1) | (leave1; (try dsimp only))))
                  (rename Fr _ _ _ _ => kF2)
                  (rename News _ _ _ _ => kN2)
                  (rename Heap.NewExc _ _ _ _ => kX2)
                  (refine qE1A1 (NewX.of kX2) fun tx kX3 => ?_)
                  exact hE1 _ _ (fun _ k => k _ _ _ _ _ _ _ _ (toLocs kF2 (by first | exact agr (by with_unfolding_all rfl) | (refine ⟨?_, ?_, ?_, ?_, ?_, ?_, ?_, trivial⟩ <;> with_unfolding_all rfl))) kN2 kX3 hi4.symm)
              · intro f s₂ J
                apply J
                clear J
                intro h tk u i' t' te ta tj tn F N hi1 hi2' hi4
                dsimp only at F N
                as_aux_lemma =>
                rw [hi4] at hm1 hu1
                (repeat' (first | (k_unfold; (try dsimp only)) | (k_end; kc_close) | (k_here; (with_reducible show wpAny _ _ (exec (PySem.Stmt.While (PySem.Expr.Compare _ _ _ _) (_ :: _) [] _) _) _ _ _); refine stopHere ?_) | walk1 | (dsimp only; walk1) | (leave1; (try dsimp only))))
                (rename Fr _ _ _ _ => kF)
                (rename News _ _ _ _ => kN)
                unfold Stop
                refine wpAny_passesOwn hp' ?_
                refine wpAny_mono (Q := SkipEnd s g L' "j" (fun ta _ _ => [("i", .int i' t'), ("missing", .ref ma), ("unexpected", .ref ua), ("expected", .ref l), ("actual", .ref l2), ("a", .str (S a) ta)]) (fun _ => [(ua, listOf uv.toArray c1), (ma, listOf mv.toArray c2), (L, { oL with slots := sl })]) ys a (j + 1)) ?_ ?_ (fun _ _ x => x)
                refine whileR (EJ "j" (fun ta _ _ => [("i", .int i' t'), ("missing", .ref ma), ("unexpected", .ref ua), ("expected", .ref l), ("actual", .ref l2), ("a", .str (S a) ta)]) (fun _ => [(ua, listOf uv.toArray c1), (ma, listOf mv.toArray c2), (L, { oL with slots := sl })]) ys a (j + 1)) (ys.length - (j + 1)) kF kN ?_ ?_ (by passes_own)
                · exact StartJ.mk (by first | exact agr (by with_unfolding_all rfl) | (refine ⟨?_, ?_, ?_, ?_, ?_, ?_, ?_, trivial⟩ <;> with_unfolding_all rfl)) (by first | exact subI [0, 1, 2] rfl | exact subI [1, 2, 3] rfl | exact subI [2, 3, 4] rfl | exact subI [3, 4, 5] rfl | exact ⟨by k_mem, by k_mem, by k_mem, trivial⟩) (fun _ k => k (j + 1) _ _ 0 0 0 (Nat.le_refl _) h2 (by (with_reducible exact ar34 ‹_›)) rfl)
                · intro k' nl news h tk u J
                  apply J
                  clear J
                  intro j' tj' te ta tj tn hj1 hj2' hi3 hj4 F N
                  dsimp only at F N
                  as_aux_lemma =>
                  by_cases h3 : j' < ys.length
                  · (refine qE1A2 (item_at h3) fun x hx1 hx2 => ?_)
                    (repeat' (first | (k_unfold; (try dsimp only)) | (k_end; kc_close) | (k_here; (with_reducible show wpAny _ _ (subscriptTail (PySem.Expr.Name _ _) (PySem.Expr.Name _ _) (Value.ref _) (Value.int _ _)) _ _ _); (with_reducible show wpAny _ _ (subscriptTail _ _ (Value.ref _) (Value.int (Nat.cast _) _)) _ _ _); (with_reducible rename Fr _ _ _ _ => zrkF); first | (refine item_S0 zrkF (by assumption) (by assumption) (by assumption) (by omega) ?_; intro zrtq) | (refine item_S0out rfl zrkF (by assumption) (by assumption) (by omega) (by omega) ?_; intro zrhq zrtkq zreq zrxq) | (refine item_S0outH rfl (News.get (by assumption) (by k_mem)) (by assumption) (by assumption) zrkF (by assumption) (by assumption) (by omega) (by omega) ?_; intro zrhq zrtkq zreq zrvsq zrxq)) | walk1 | (dsimp only; walk1) | (leave1; (try dsimp only))))
                    · (rename _ = true => hb)
                      exact wE (n' := k' - 1) (by assumption) (by assumption) (by lia) (fun _ k => k (j' + 1) _ _ 0 0 0 (by lia) (by lia) (by (with_reducible exact ar35 ‹_› ‹_›)) ((skip_nextS hx1 hb).trans hj4)) (by first | exact agr (by with_unfolding_all rfl) | (refine ⟨?_, ?_, ?_, ?_, ?_, ?_, ?_, trivial⟩ <;> with_unfolding_all rfl)) (by first | exact subI [0, 1, 2] rfl | exact subI [1, 2, 3] rfl | exact subI [2, 3, 4] rfl | exact subI [3, 4, 5] rfl | exact ⟨by k_mem, by k_mem, by k_mem, trivial⟩)
                    · (rename _ = false => hb)
                      exact (fun _ k => k _ _ _ (j') _ _ 0 0 0 (by assumption) (by assumption) (by (with_reducible assumption)) (by (with_reducible assumption)) (by rw [← hj4, skip_hereS hx1 hb]))
                  · have hix : j' = ys.length := by lia
                    rw [← hj4, hix, List.drop_length, skipL, sld_nil2] at hm1 hu1
                    have hu2 : us ++ ys.drop j' = (sld xs ys).2 := by rw [hix, List.drop_length]; exact hu1
                    (repeat' (first | (k_unfold; (try dsimp only)) | (k_end; kc_close) | (k_here; (with_reducible show wpAny _ _ (subscriptTail (PySem.Expr.Name _ _) (PySem.Expr.Name _ _) (Value.ref _) (Value.int _ _)) _ _ _); (with_reducible show wpAny _ _ (subscriptTail _ _ (Value.ref _) (Value.int (Nat.cast _) _)) _ _ _); (with_reducible rename Fr _ _ _ _ => zrkF); first | (refine item_S0 zrkF (by assumption) (by assumption) (by assumption) (by omega) ?_; intro zrtq) | (refine item_S0out rfl zrkF (by assumption) (by assumption) (by omega) (by omega) ?_; intro zrhq zrtkq zreq zrxq) | (refine item_S0outH rfl (News.get (by assumption) (by k_mem)) (by assumption) (by assumption) zrkF (by assumption) (by assumption) (by omega) (by omega) ?_; intro zrhq zrtkq zreq zrvsq zrxq)) | walk1 | (dsimp only; walk1) | (leave1; (try dsimp only))))
                    (rename Fr _ _ _ _ => kF2)
                    (rename News _ _ _ _ => kN2)
                    (rename Heap.NewExc _ _ _ _ => kX2)
                    (refine qE1A1 (NewX.of kX2) fun tx kX3 => ?_)
                    exact hE' _ _ (fun _ k => k _ _ _ _ (i') (j') _ _ ma ua mv uv ms us c1 c2 sl hne hne2 hne3 (by assumption) (by assumption) (by lia) (by lia) (by (with_reducible assumption)) (by (with_reducible assumption)) hm1 hu2 (fun _ k1 _ => k1 _ _ (toLocs kF2 (by first | exact agr (by with_unfolding_all rfl) | (refine ⟨?_, ?_, ?_, ?_, ?_, ?_, trivial⟩ <;> with_unfolding_all rfl))) kN2 kX3))
                · intro f s₂ J
                  apply J
                  clear J
                  intro h tk u j' tj' te ta tj tn F N hj1 hj2' hj4
                  dsimp only at F N
                  as_aux_lemma =>
                  rw [hj4] at hm1 hu1
                  k_steps
                  exact wE (n' := xs.length + ys.length - i' - j') (by assumption) (by assumption) (ar22 (by assumption) (by assumption) (by assumption) (by lia)) (fun _ k => k (i') (j') _ _ ma ua _ _ ms us _ _ _ hne hne2 hne3 (by assumption) (by assumption) (by lia) (by lia) (by (with_reducible assumption)) (by (with_reducible assumption)) (by (with_reducible exact ar23 ‹_› ‹_›)) hm1 hu1) (by first | exact agr (by with_unfolding_all rfl) | (refine ⟨?_, ?_, ?_, ?_, ?_, ?_, trivial⟩ <;> with_unfolding_all rfl)) (by first | exact subI [0, 1, 2] rfl | exact subI [1, 2, 3] rfl | exact subI [2, 3, 4] rfl | exact subI [3, 4, 5] rfl | exact ⟨by k_mem, by k_mem, by k_mem, trivial⟩)
        · have hy0 : ys.drop j = [] := List.drop_eq_nil_of_le (by lia)
          rw [hy0, sld_nil2] at hm1 hu1
          rw [← hy0] at hu1
          (repeat' (first | (k_unfold; (try dsimp only)) | (k_end; kc_close) | (k_here; (with_reducible show wpAny _ _ (subscriptTail (PySem.Expr.Name _ _) (PySem.Expr.Name _ _) (Value.ref _) (Value.int _ _)) _ _ _); (with_reducible show wpAny _ _ (subscriptTail _ _ (Value.ref _) (Value.int (Nat.cast _) _)) _ _ _); (with_reducible rename Fr _ _ _ _ => zrkF); first | (refine item_S0 zrkF (by assumption) (by assumption) (by assumption) (by omega) ?_; intro zrtq) | (refine item_S0out rfl zrkF (by assumption) (by assumption) (by omega) (by omega) ?_; intro zrhq zrtkq zreq zrxq) | (refine item_S0outH rfl (News.get (by assumption) (by k_mem)) (by assumption) (by assumption) zrkF (by assumption) (by assumption) (by omega) (by omega) ?_; intro zrhq zrtkq zreq zrvsq zrxq)) | walk1 | (dsimp only; walk1) | (leave1; (try dsimp only))))
          (rename Fr _ _ _ _ => kF2)
          (rename News _ _ _ _ => kN2)
          (rename Heap.NewExc _ _ _ _ => kX2)
          (refine qE1A1 (NewX.of kX2) fun tx kX3 => ?_)
          exact hE' _ _ (fun _ k => k _ _ _ _ i j _ _ ma ua mv uv ms us c1 c2 sl hne hne2 hne3 (by assumption) (by assumption) hm hu hin hjn hm1 hu1 (fun _ k1 _ => k1 _ _ (toLocs kF2 (by first | exact agr (by with_unfolding_all rfl) | (refine ⟨?_, ?_, ?_, ?_, ?_, ?_, trivial⟩ <;> with_unfolding_all rfl))) kN2 kX3))
      · have hx0 : xs.drop i = [] := List.drop_eq_nil_of_le (by lia)
        rw [hx0, sld_nil1] at hm1 hu1
        rw [← hx0] at hm1
        (repeat' (first | (k_unfold; (try dsimp only)) | (k_end; kc_close) | (k_here; (with_reducible show wpAny _ _ (subscriptTail (PySem.Expr.Name _ _) (PySem.Expr.Name _ _) (Value.ref _) (Value.int _ _)) _ _ _); (with_reducible show wpAny _ _ (subscriptTail _ _ (Value.ref _) (Value.int (Nat.cast _) _)) _ _ _); (with_reducible rename Fr _ _ _ _ => zrkF); first | (refine item_S0 zrkF (by assumption) (by assumption) (by assumption) (by omega) ?_; intro zrtq) | (refine item_S0out rfl zrkF (by assumption) (by assumption) (by omega) (by omega) ?_; intro zrhq zrtkq zreq zrxq) | (refine item_S0outH rfl (News.get (by assumption) (by k_mem)) (by assumption) (by assumption) zrkF (by assumption) (by assumption) (by omega) (by omega) ?_; intro zrhq zrtkq zreq zrvsq zrxq)) | walk1 | (dsimp only; walk1) | (leave1; (try dsimp only))))
        (rename Fr _ _ _ _ => kF2)
        (rename News _ _ _ _ => kN2)
        (rename Heap.NewExc _ _ _ _ => kX2)
        (refine qE1A1 (NewX.of kX2) fun tx kX3 => ?_)
        exact hE' _ _ (fun _ k => k _ _ _ _ i j _ _ ma ua mv uv ms us c1 c2 sl hne hne2 hne3 (by assumption) (by assumption) hm hu hin hjn hm1 hu1 (fun _ k1 _ => k1 _ _ (toLocs kF2 (by first | exact agr (by with_unfolding_all rfl) | (refine ⟨?_, ?_, ?_, ?_, ?_, ?_, trivial⟩ <;> with_unfolding_all rfl))) kN2 kX3))
end
end
-- L12
section
set_option maxRecDepth 100000
set_option maxHeartbeats 1000000
section
variable {w : World} {d u : Nat} {f : Option (List Env)} {g : Option (List Code)} {s : Shared} {E Q : Value → Shared → Prop} {mean : ExcName → Option Value} {mg mb : Str → Option Value}

noncomputable def J6 (prog : Program) (w : World) (L : Addr) (nl : List (Str × Value)) (news : List (Addr × Obj)) : Prop :=
  ∀ P : List (Str × Value) → List (Addr × Obj) → Prop, (∀ (a b i x p mi un : Addr) (va vb vx mv uv : List Value) (na nb nx nm nu : Nat) (xs ys ws : List Int) (op : Obj) (kvs : List (Int × Value)) (cs : List (Addr × Obj)),
    Cells L (some (.ref a)) (some (.ref b)) (some (.ref i)) (some (.ref x)) (some (.ref p)) cs → IntsAre va xs → IntsAre vb ys → Num xs → Num ys → IntsAre vx ws → Wid ws → op.IsDictOf (intKind prog w) kvs → Dk ws (xs ++ ys) kvs → (p == sysModules) = false → StrsAre mv ((sld (xs.map (pathN ws)) (ys.map (pathN ws))).1.map S) → StrsAre uv ((sld (xs.map (pathN ws)) (ys.map (pathN ws))).2.map S) → P ([("missing", .ref mi), ("unexpected", .ref un)] : List (Str × Value)) ((mi, listOf mv.toArray nm) :: (un, listOf uv.toArray nu) :: (p, op) :: (x, listOf vx.toArray nx) :: (a, listOf va.toArray na) :: (b, listOf vb.toArray nb) :: cs)) → P nl news
theorem st10 {se : Shared} (hKp : Kept se s) {H : Heap} {L fa : Addr} {dc : Value} {nl : List (Str × Value)} {news : List (Addr × Obj)} {uf : Str → Option Value} (X : (Mine.hd.heap_39 w.params).In H) (T : Top Mine.hd.view_39 (looseW Mine.hd.view_39 []) mean mg mb H)
  (J : J5 Challenge.rw_pd0146_01.row.prog w L nl news) (F : Fr H L s.heap (locsOf nl uf)) (N : News H L s.heap news) :
  wpAny (model Challenge.rw_pd0146_01.row.prog w) (callerA.deeper (lawEnv lawScope L fa dc)) (exec (lawAt 10) (lawEnv lawScope L fa dc)) (AfterG se H L (J6 Challenge.rw_pd0146_01.row.prog w L)) E s := by
  revert F N
  apply J
  clear J
  intro a b i x p g va vb vx vg na nb nx ng xs ys ws op kvs cs1 hcs hva hvb hX hY hvx hW hop hdk hlo hvg
  apply hcs
  clear hcs
  intro c1 c2 c3 c4 c5 d1 d2 d3 d4 d5 F N
  generalize hsc : lawScope = sc
  conv at hsc => lhs; whnf
  subst hsc
  generalize hst : lawAt 10 = st
  conv at hst => lhs; whnf
  subst hst
  unfold lawEnv
  (repeat' (first | (k_unfold; (try dsimp only)) | (k_end; kc_close) | (k_here; (with_reducible show wpAny _ _ (eval (PySem.Expr.ListComp _ _ _ _) _) _ _ _); refine stopHere ?_) | walk1 | (dsimp only; walk1) | (leave1; (try dsimp only))))
  unfold Stop
  have hla : va.length = xs.length := hva.length
  have hlb : vb.length = ys.length := hvb.length
  have hx0 := hX.lo
  have hx14 := hX.hi
  have hy14 := hY.hi
  refine' ListComp_W (h₀ := H) (L := L) (m := locsOf [("signs", .ref g)] uf) (cl := ?cla) F ?ga1 ?ga2 ?ga3 ?ga4 ?ga5 ?_ (by intro _; rfl)
  case ga1 => rfl
  case ga2 => decide
  case ga3 => rfl
  case ga4 => decide
  case ga5 => rfl
  k_steps
  refine srcList rfl F N (its := va) (c := na) (by k_mem) (by rw [sizeLine_eq]; lia) fun g1 => ?_
  refine compRest_ind (fun i z9 nw => nw = [(g, W.listOf vg.toArray ng), (p, op), (x, W.listOf vx.toArray nx), (a, W.listOf va.toArray na), (b, W.listOf vb.toArray nb), (L + 1, c1), (L + 1 + 1, c2), (L + 1 + 1 + 1, c3), (L + 1 + 1 + 1 + 1, c4), (L + 1 + 1 + 1 + 1 + 1, c5)] ∧ StrsAre z9 ((((xs.take i).map (pathN ws)).map S))) ?ea ?_ _ 0 [] _ (by rw [Nat.zero_add]) ⟨rfl, .nil⟩
  case ea =>
    (intro j us _ hj; intro zqi; refine qE0A2 zqi fun zqr0 hus => ?_; clear zqi; subst zqr0; intro v I oI C oC D m₂ h tk E' hv hC hm F N off nne)
    (refine qE2A2 (ints_item hva hv) fun k t zqr2 hk => ?_; subst zqr2)
    have hkm : k ∈ xs := List.mem_of_getElem? hk
    (refine qE1A1 (hdk.get (List.mem_append_left ys hkm)) fun t2 ht2 => ?_)
    (repeat' (first | (k_unfold; (try dsimp only)) | (k_end; kc_close) | (k_here; (with_reducible show wpAny _ _ (subscriptTail (PySem.Expr.Name _ _) (PySem.Expr.Name _ _) (Value.ref _) (Value.int _ _)) _ _ _); refine stopHere ?_) | walk1 | (dsimp only; walk1) | (leave1; (try dsimp only))))
    unfold Stop
    (rename Fr _ _ _ _ => kF)
    (rename News _ _ _ _ => kN)
    refine kda_item kN (by k_mem) hop (k := k) (by simp [intKind, Value.isInt]) ht2 ?_
    refine LCg.CompEnd.intro kF kN _ (fun p hp => hp) off (by k_mem) ⟨rfl, ?_⟩
    rw [List.take_add_one, hk, List.map_append, List.map_append]
    exact KStt.strs_snoc hus
  (intro zs _; intro zqi; refine qE0A2 zqi fun zqr0 hzs => ?_; clear zqi; subst zqr0; intro D1 h1 tk1 F N off1)
  rw [hla, List.take_length] at hzs
  (repeat' (first | (k_unfold; (try dsimp only)) | (k_end; kc_close) | (k_here; (with_reducible show wpAny _ _ (eval (PySem.Expr.ListComp _ _ _ _) _) _ _ _); refine stopHere ?_) | walk1 | (dsimp only; walk1) | (leave1; (try dsimp only))))
  unfold Stop
  refine' ListComp_W (h₀ := H) (L := L) (m := locsOf [("signs", .ref g)] uf) (cl := ?clb) F ?gb1 ?gb2 ?gb3 ?gb4 ?gb5 ?_ (by intro _; rfl)
  case gb1 => rfl
  case gb2 => decide
  case gb3 => rfl
  case gb4 => decide
  case gb5 => rfl
  k_steps
  refine srcList rfl F N (its := vb) (c := nb) (by k_mem) (by rw [sizeLine_eq]; lia) fun g1 => ?_
  refine compRest_ind (fun i z9 nw => nw = [(D1, LCg.lst zs), (g, W.listOf vg.toArray ng), (p, op), (x, W.listOf vx.toArray nx), (a, W.listOf va.toArray na), (b, W.listOf vb.toArray nb), (L + 1, c1), (L + 1 + 1, c2), (L + 1 + 1 + 1, c3), (L + 1 + 1 + 1 + 1, c4), (L + 1 + 1 + 1 + 1 + 1, c5)] ∧ StrsAre z9 ((((ys.take i).map (pathN ws)).map S))) ?eb ?_ _ 0 [] _ (by rw [Nat.zero_add]) ⟨rfl, .nil⟩
  case eb =>
    (intro j us _ hj; intro zqi; refine qE0A2 zqi fun zqr0 hus => ?_; clear zqi; subst zqr0; intro v I oI C oC D m₂ h tk E' hv hC hm F N off nne)
    (refine qE2A2 (ints_item hvb hv) fun k t zqr2 hk => ?_; subst zqr2)
    have hkm : k ∈ ys := List.mem_of_getElem? hk
    (refine qE1A1 (hdk.get (List.mem_append_right xs hkm)) fun t2 ht2 => ?_)
    (repeat' (first | (k_unfold; (try dsimp only)) | (k_end; kc_close) | (k_here; (with_reducible show wpAny _ _ (subscriptTail (PySem.Expr.Name _ _) (PySem.Expr.Name _ _) (Value.ref _) (Value.int _ _)) _ _ _); refine stopHere ?_) | walk1 | (dsimp only; walk1) | (leave1; (try dsimp only))))
    unfold Stop
    (rename Fr _ _ _ _ => kF)
    (rename News _ _ _ _ => kN)
    refine kda_item kN (by k_mem) hop (k := k) (by simp [intKind, Value.isInt]) ht2 ?_
    refine LCg.CompEnd.intro kF kN _ (fun p hp => hp) off (by k_mem) ⟨rfl, ?_⟩
    rw [List.take_add_one, hk, List.map_append, List.map_append]
    exact KStt.strs_snoc hus
  (intro us _; intro zqi; refine qE0A2 zqi fun zqr0 hus => ?_; clear zqi; subst zqr0; intro D2 h2 tk2 F N off2)
  rw [hlb, List.take_length] at hus
  (repeat' (first | (k_unfold; (try dsimp only)) | (k_end; kc_close) | (k_here; (with_reducible show wpAny _ _ (call (Value.ref 28) [Value.ref _, Value.ref _]) _ _ _); refine stopHere ?_) | walk1 | (dsimp only; walk1) | (leave1; (try dsimp only))))
  unfold Stop
  refine sld_ (xs := xs.map (pathN ws)) (ys := ys.map (pathN ws)) F N X T rfl rfl (by (first | omega | (dsimp only; omega) | (simp only [depth_deeper, depth_in1, depth_caller, Around.deeper]; omega) | (simp [Around.deeper]; omega))) (N (D1, _) (by k_mem)).2.1 (N (D2, _) (by k_mem)).2.1 ⟨_, (N (D1, _) (by k_mem)).1, rfl, _, rfl⟩ hzs ⟨_, (N (D2, _) (by k_mem)).1, rfl, _, rfl⟩ hus (by rw [List.length_map]; (with_reducible assumption)) (by rw [List.length_map]; (with_reducible assumption)) ?_
  intro h3 tk3 r mi un mv uv e1 e2 e3 F N hmv huv
  clear hzs hus
  k_steps
  exact AfterG.intro (by assumption) (by assumption) (fun _ k => k a b i x p mi un va vb vx mv uv na nb nx e1 e2 xs ys ws op kvs _ (fun _ k => k _ _ _ _ _ d1 d2 d3 d4 d5) hva hvb hX hY hvx hW hop hdk hlo hmv huv) (by first | exact agr (by with_unfolding_all rfl) | (refine ⟨?_, ?_, trivial⟩ <;> with_unfolding_all rfl)) (by first | exact subI [0, 1, 2, 3, 4, 5, 6, 7, 8, 9, 10] rfl | exact subI [1, 2, 3, 4, 5, 6, 7, 8, 9, 10, 11] rfl | exact subI [2, 3, 4, 5, 6, 7, 8, 9, 10, 11, 12] rfl | exact subI [3, 4, 5, 6, 7, 8, 9, 10, 11, 12, 13] rfl | exact ⟨by k_mem, by k_mem, by k_mem, by k_mem, by k_mem, by k_mem, by k_mem, by k_mem, by k_mem, by k_mem, by k_mem, trivial⟩) (by assumption)
end
end
-- P15
section
set_option maxRecDepth 100000
set_option maxHeartbeats 1000000
theorem ex_max : ∀ {ms : List Int}, ms ≠ [] → ∃ M, IsMax M ms
  | [], h => absurd rfl h
  | [x], _ => ⟨x, by simp, by simp⟩
  | x :: y :: r, _ => by
    obtain ⟨M, h1, h2⟩ := ex_max (ms := y :: r) (by simp)
    by_cases q : M ≤ x
    · exact ⟨x, List.mem_cons_self, fun z hz => by
        rcases List.mem_cons.mp hz with e | hz
        · lia
        · have := h2 z hz; lia⟩
    · exact ⟨M, List.mem_cons_of_mem _ h1, fun z hz => by
        rcases List.mem_cons.mp hz with e | hz
        · lia
        · exact h2 z hz⟩
theorem ex_min : ∀ {ms : List Int}, ms ≠ [] → ∃ M, IsMin M ms
  | [], h => absurd rfl h
  | [x], _ => ⟨x, by simp, by simp⟩
  | x :: y :: r, _ => by
    obtain ⟨M, h1, h2⟩ := ex_min (ms := y :: r) (by simp)
    by_cases q : x ≤ M
    · exact ⟨x, List.mem_cons_self, fun z hz => by
        rcases List.mem_cons.mp hz with e | hz
        · lia
        · have := h2 z hz; lia⟩
    · exact ⟨M, List.mem_cons_of_mem _ h1, fun z hz => by
        rcases List.mem_cons.mp hz with e | hz
        · lia
        · exact h2 z hz⟩
theorem flat_sub {f g : Int → List Int} : ∀ {ks : List Int}, (∀ k ∈ ks, (f k).Sublist (g k)) → (ks.flatMap f).Sublist (ks.flatMap g)
  | [], _ => .refl _
  | k :: r, h => by
    rw [List.flatMap_cons, List.flatMap_cons]
    exact (h k List.mem_cons_self).append (flat_sub fun q hq => h q (List.mem_cons_of_mem _ hq))
theorem only_sub {xs ys ks : List Int} {M : Int} (hs : xs.Pairwise (· ≤ ·)) (h : Uniq ks xs) : (onlyL xs ys M ks).Sublist xs := by
  have e := group_all xs.length xs ks (Nat.le_refl _) hs h
  have h2 : (onlyL xs ys M ks).Sublist (ks.flatMap fun k => List.replicate (xs.count k) k) := by
    unfold onlyL
    refine flat_sub fun k hk => ?_
    split
    · exact List.nil_sublist _
    · refine List.replicate_sublist_replicate k |>.mpr ?_
      split
      · exact List.count_pos_iff.mpr ((h.mem k).mp hk)
      · exact Nat.le_refl _
  rwa [e] at h2
theorem only_eq {ws xs ys ks : List Int} {M : Int} (hw : Wid ws) (hX : Num xs) (hY : Num ys) (hM : IsMax M ys) (hU : Uniq ks xs) :
    (sld (xs.map (pathN ws)) (ys.map (pathN ws))).1 = (onlyL xs ys M ks).map (pathN ws) :=
  sld_only hw _ xs ys ks M (Nat.le_refl _) hX.rise hY.rise hX.all hY.all hU hM.2 (fun _ => hM.1) (fun q => by have := hY.lo; rw [q] at this; cases this)
theorem only_eq2 {ws xs ys ks : List Int} {M : Int} (hw : Wid ws) (hX : Num xs) (hY : Num ys) (hM : IsMax M xs) (hU : Uniq ks ys) :
    (sld (xs.map (pathN ws)) (ys.map (pathN ws))).2 = (onlyL ys xs M ks).map (pathN ws) := by
  rw [sld_swap hw _ xs ys (Nat.le_refl _) hX.all hY.all hX.rise hY.rise]
  exact only_eq hw hY hX hM hU
end
-- L13
section
set_option maxRecDepth 100000
set_option maxHeartbeats 1000000
section
variable {w : World} {d u : Nat} {f : Option (List Env)} {g : Option (List Code)} {s : Shared} {E Q : Value → Shared → Prop} {mean : ExcName → Option Value} {mg mb : Str → Option Value}

noncomputable def J7 (prog : Program) (w : World) (L : Addr) (nl : List (Str × Value)) (news : List (Addr × Obj)) : Prop :=
  ∀ P : List (Str × Value) → List (Addr × Obj) → Prop, (∀ (a b i x p mi un lo : Addr) (va vb vx mv uv lv : List Value) (na nb nx nm nu nlo : Nat) (xs ys ws ls : List Int) (op : Obj) (kvs : List (Int × Value)) (cs : List (Addr × Obj)),
    Cells L (some (.ref a)) (some (.ref b)) (some (.ref i)) (some (.ref x)) (some (.ref p)) cs → IntsAre va xs → IntsAre vb ys → Num xs → Num ys → IntsAre vx ws → Wid ws → op.IsDictOf (intKind prog w) kvs → Dk ws (xs ++ ys) kvs → (p == sysModules) = false → StrsAre mv ((ls.map (pathN ws)).map S) → StrsAre uv ((sld (xs.map (pathN ws)) (ys.map (pathN ws))).2.map S) → IntsAre lv ls → ls.Sublist xs → P ([("lost", .ref lo), ("missing", .ref mi), ("unexpected", .ref un)] : List (Str × Value)) ((lo, listOf lv.toArray nlo) :: (mi, listOf mv.toArray nm) :: (un, listOf uv.toArray nu) :: (p, op) :: (x, listOf vx.toArray nx) :: (a, listOf va.toArray na) :: (b, listOf vb.toArray nb) :: cs)) → P nl news
theorem st11 {se : Shared} (hKp : Kept se s) {H : Heap} {L fa : Addr} {dc : Value} {nl : List (Str × Value)} {news : List (Addr × Obj)} {uf : Str → Option Value} (X : (Mine.hd.heap_39 w.params).In H) (T : Top Mine.hd.view_39 (looseW Mine.hd.view_39 []) mean mg mb H)
  (J : J6 Challenge.rw_pd0146_01.row.prog w L nl news) (F : Fr H L s.heap (locsOf nl uf)) (N : News H L s.heap news) :
  wpAny (model Challenge.rw_pd0146_01.row.prog w) (callerA.deeper (lawEnv lawScope L fa dc)) (exec (lawAt 11) (lawEnv lawScope L fa dc)) (AfterG se H L (J7 Challenge.rw_pd0146_01.row.prog w L)) E s := by
  revert F N
  apply J
  clear J
  intro a b i x p mi un va vb vx mv uv na nb nx nm nu xs ys ws op kvs cs1 hcs hva hvb hX hY hvx hW hop hdk hlo hmv huv
  apply hcs
  clear hcs
  intro c1 c2 c3 c4 c5 d1 d2 d3 d4 d5 F N
  generalize hsc : lawScope = sc
  conv at hsc => lhs; whnf
  subst hsc
  generalize hst : lawAt 11 = st
  conv at hst => lhs; whnf
  subst hst
  unfold lawEnv
  (repeat' (first | (k_unfold; (try dsimp only)) | (k_end; kc_close) | (k_here; (with_reducible show wpAny _ _ (call (Value.ref 223) [Value.ref _, Value.ref _]) _ _ _); refine stopHere ?_) | walk1 | (dsimp only; walk1) | (leave1; (try dsimp only))))
  unfold Stop
  (rename Fr _ _ _ _ => kF)
  (rename News _ _ _ _ => kN)
  (refine qE1A1 (ex_max (ms := ys) (fun q => by have := hY.lo; rw [q] at this; cases this)) fun M hM => ?_)
  refine only_ (vs := va) (ns := xs) (ms := ys) (mx := M) (Frag.In.keeps X kF.keep) (Top.keeps T kF.keep) (by (first | omega | (dsimp only; omega) | (simp only [depth_deeper, depth_in1, depth_caller, Around.deeper]; omega) | (simp [Around.deeper]; omega))) (kN (a, _) (by k_mem)).1 hva ⟨_, (kN (b, _) (by k_mem)).1, rfl, _, rfl⟩ hvb hM hX.hi hY.hi hY.lo ?_
  intro h' tk dr lo lv nlo ks hk hi1 hi2 hU hlv
  have F2 := kF.grownK hk
  have N2 := addN kF kN hk hi1 hi2
  rw [only_eq hW hX hY hM hU] at hmv
  have hsb := only_sub (ys := ys) (M := M) hX.rise hU
  generalize onlyL xs ys M ks = ls at hmv hsb hlv
  clear kF kN hk hi1 hi2 hU hM
  k_steps
  exact AfterG.intro (by assumption) (by assumption) (fun _ k => k a b i x p mi un lo va vb vx mv uv lv na nb nx nm nu nlo xs ys ws ls op kvs _ (fun _ k => k _ _ _ _ _ d1 d2 d3 d4 d5) hva hvb hX hY hvx hW hop hdk hlo hmv huv hlv hsb) (by first | exact agr (by with_unfolding_all rfl) | (refine ⟨?_, ?_, ?_, trivial⟩ <;> with_unfolding_all rfl)) (by first | exact subI [0, 1, 2, 3, 4, 5, 6, 7, 8, 9, 10, 11] rfl | exact subI [1, 2, 3, 4, 5, 6, 7, 8, 9, 10, 11, 12] rfl | exact subI [2, 3, 4, 5, 6, 7, 8, 9, 10, 11, 12, 13] rfl | exact subI [3, 4, 5, 6, 7, 8, 9, 10, 11, 12, 13, 14] rfl | exact ⟨by k_mem, by k_mem, by k_mem, by k_mem, by k_mem, by k_mem, by k_mem, by k_mem, by k_mem, by k_mem, by k_mem, by k_mem, trivial⟩) (by assumption)
end
end
-- L14
section
set_option maxRecDepth 100000
set_option maxHeartbeats 1000000
section
variable {w : World} {d u : Nat} {f : Option (List Env)} {g : Option (List Code)} {s : Shared} {E Q : Value → Shared → Prop} {mean : ExcName → Option Value} {mg mb : Str → Option Value}

noncomputable def J8 (prog : Program) (w : World) (L : Addr) (nl : List (Str × Value)) (news : List (Addr × Obj)) : Prop :=
  ∀ P : List (Str × Value) → List (Addr × Obj) → Prop, (∀ (a b i x p mi un lo ga : Addr) (va vb vx mv uv lv gv : List Value) (na nb nx nm nu nlo nga : Nat) (xs ys ws ls gs : List Int) (op : Obj) (kvs : List (Int × Value)) (cs : List (Addr × Obj)),
    Cells L (some (.ref a)) (some (.ref b)) (some (.ref i)) (some (.ref x)) (some (.ref p)) cs → IntsAre va xs → IntsAre vb ys → Num xs → Num ys → IntsAre vx ws → Wid ws → op.IsDictOf (intKind prog w) kvs → Dk ws (xs ++ ys) kvs → (p == sysModules) = false → StrsAre mv ((ls.map (pathN ws)).map S) → StrsAre uv ((gs.map (pathN ws)).map S) → IntsAre lv ls → ls.Sublist xs → IntsAre gv gs → gs.Sublist ys → P ([("gained", .ref ga), ("lost", .ref lo), ("missing", .ref mi), ("unexpected", .ref un)] : List (Str × Value)) ((ga, listOf gv.toArray nga) :: (lo, listOf lv.toArray nlo) :: (mi, listOf mv.toArray nm) :: (un, listOf uv.toArray nu) :: (p, op) :: (x, listOf vx.toArray nx) :: (a, listOf va.toArray na) :: (b, listOf vb.toArray nb) :: cs)) → P nl news
theorem st12 {se : Shared} (hKp : Kept se s) {H : Heap} {L fa : Addr} {dc : Value} {nl : List (Str × Value)} {news : List (Addr × Obj)} {uf : Str → Option Value} (X : (Mine.hd.heap_39 w.params).In H) (T : Top Mine.hd.view_39 (looseW Mine.hd.view_39 []) mean mg mb H)
  (J : J7 Challenge.rw_pd0146_01.row.prog w L nl news) (F : Fr H L s.heap (locsOf nl uf)) (N : News H L s.heap news) :
  wpAny (model Challenge.rw_pd0146_01.row.prog w) (callerA.deeper (lawEnv lawScope L fa dc)) (exec (lawAt 12) (lawEnv lawScope L fa dc)) (AfterG se H L (J8 Challenge.rw_pd0146_01.row.prog w L)) E s := by
  revert F N
  apply J
  clear J
  intro a b i x p mi un lo va vb vx mv uv lv na nb nx nm nu nlo xs ys ws ls op kvs cs1 hcs hva hvb hX hY hvx hW hop hdk hlo hmv huv hlv hls
  apply hcs
  clear hcs
  intro c1 c2 c3 c4 c5 d1 d2 d3 d4 d5 F N
  generalize hsc : lawScope = sc
  conv at hsc => lhs; whnf
  subst hsc
  generalize hst : lawAt 12 = st
  conv at hst => lhs; whnf
  subst hst
  unfold lawEnv
  (repeat' (first | (k_unfold; (try dsimp only)) | (k_end; kc_close) | (k_here; (with_reducible show wpAny _ _ (call (Value.ref 223) [Value.ref _, Value.ref _]) _ _ _); refine stopHere ?_) | walk1 | (dsimp only; walk1) | (leave1; (try dsimp only))))
  unfold Stop
  (rename Fr _ _ _ _ => kF)
  (rename News _ _ _ _ => kN)
  (refine qE1A1 (ex_max (ms := xs) (fun q => by have := hX.lo; rw [q] at this; cases this)) fun M hM => ?_)
  refine only_ (vs := vb) (ns := ys) (ms := xs) (mx := M) (Frag.In.keeps X kF.keep) (Top.keeps T kF.keep) (by (first | omega | (dsimp only; omega) | (simp only [depth_deeper, depth_in1, depth_caller, Around.deeper]; omega) | (simp [Around.deeper]; omega))) (kN (b, _) (by k_mem)).1 hvb ⟨_, (kN (a, _) (by k_mem)).1, rfl, _, rfl⟩ hva hM hY.hi hX.hi hX.lo ?_
  intro h' tk dr ga gv nga ks hk hi1 hi2 hU hgv
  have F2 := kF.grownK hk
  have N2 := addN kF kN hk hi1 hi2
  rw [only_eq2 hW hX hY hM hU] at huv
  have hsb := only_sub (ys := xs) (M := M) hY.rise hU
  generalize onlyL ys xs M ks = gs at huv hsb hgv
  clear kF kN hk hi1 hi2 hU hM
  k_steps
  exact AfterG.intro (by assumption) (by assumption) (fun _ k => k a b i x p mi un lo ga va vb vx mv uv lv gv na nb nx nm nu nlo nga xs ys ws ls gs op kvs _ (fun _ k => k _ _ _ _ _ d1 d2 d3 d4 d5) hva hvb hX hY hvx hW hop hdk hlo hmv huv hlv hls hgv hsb) (by first | exact agr (by with_unfolding_all rfl) | (refine ⟨?_, ?_, ?_, ?_, trivial⟩ <;> with_unfolding_all rfl)) (by first | exact subI [0, 1, 2, 3, 4, 5, 6, 7, 8, 9, 10, 11, 12] rfl | exact subI [1, 2, 3, 4, 5, 6, 7, 8, 9, 10, 11, 12, 13] rfl | exact subI [2, 3, 4, 5, 6, 7, 8, 9, 10, 11, 12, 13, 14] rfl | exact subI [3, 4, 5, 6, 7, 8, 9, 10, 11, 12, 13, 14, 15] rfl | exact ⟨by k_mem, by k_mem, by k_mem, by k_mem, by k_mem, by k_mem, by k_mem, by k_mem, by k_mem, by k_mem, by k_mem, by k_mem, by k_mem, trivial⟩) (by assumption)
end
end
-- L15
section
set_option maxRecDepth 100000
set_option maxHeartbeats 1000000
section
variable {w : World} {d u : Nat} {f : Option (List Env)} {g : Option (List Code)} {s : Shared} {E Q : Value → Shared → Prop} {mean : ExcName → Option Value} {mg mb : Str → Option Value}

theorem st13 {se : Shared} (hKp : Kept se s) {H : Heap} {L fa : Addr} {dc : Value} {nl : List (Str × Value)} {news : List (Addr × Obj)} {uf : Str → Option Value} (X : (Mine.hd.heap_39 w.params).In H) (T : Top Mine.hd.view_39 (looseW Mine.hd.view_39 []) mean mg mb H)
  (J : J8 Challenge.rw_pd0146_01.row.prog w L nl news) (F : Fr H L s.heap (locsOf nl uf)) (N : News H L s.heap news) :
  wpAny (model Challenge.rw_pd0146_01.row.prog w) (callerA.deeper (lawEnv lawScope L fa dc)) (exec (lawAt 13) (lawEnv lawScope L fa dc)) (AfterG se H L (J8 Challenge.rw_pd0146_01.row.prog w L)) E s := by
  have hJ := J
  revert F N hJ
  apply J
  clear J
  intro a b i x p mi un lo ga va vb vx mv uv lv gv na nb nx nm nu nlo nga xs ys ws ls gs op kvs cs1 hcs hva hvb hX hY hvx hW hop hdk hlo hmv huv hlv hls hgv hgs
  apply hcs
  clear hcs
  intro c1 c2 c3 c4 c5 d1 d2 d3 d4 d5 F N hJ
  generalize hsc : lawScope = sc
  conv at hsc => lhs; whnf
  subst hsc
  generalize hst : lawAt 13 = st
  conv at hst => lhs; whnf
  subst hst
  unfold lawEnv
  (repeat' (first | (k_unfold; (try dsimp only)) | (k_end; kc_close) | (k_here; (with_reducible show wpAny _ _ (eval (PySem.Expr.ListComp _ _ _ _) _) _ _ _); refine stopHere ?_) | walk1 | (dsimp only; walk1) | (leave1; (try dsimp only))))
  unfold Stop
  have hl1 : lv.length = ls.length := hlv.length
  have hl2 : gv.length = gs.length := hgv.length
  have hl3 := hls.length_le
  have hl4 := hgs.length_le
  have hx14 := hX.hi
  have hy14 := hY.hi
  refine' ListComp_W (h₀ := H) (L := L) (m := locsOf [("gained", .ref ga), ("lost", .ref lo), ("missing", .ref mi), ("unexpected", .ref un)] uf) (cl := ?cla) F ?ga1 ?ga2 ?ga3 ?ga4 ?ga5 ?_ (by intro _; rfl)
  case ga1 => rfl
  case ga2 => decide
  case ga3 => rfl
  case ga4 => decide
  case ga5 => rfl
  k_steps
  refine srcList rfl F N (its := lv) (c := nlo) (by k_mem) (by rw [sizeLine_eq]; lia) fun g1 => ?_
  refine compRest_ind (fun i z9 nw => nw = [(ga, W.listOf gv.toArray nga), (lo, W.listOf lv.toArray nlo), (mi, W.listOf mv.toArray nm), (un, W.listOf uv.toArray nu), (p, op), (x, W.listOf vx.toArray nx), (a, W.listOf va.toArray na), (b, W.listOf vb.toArray nb), (L + 1, c1), (L + 1 + 1, c2), (L + 1 + 1 + 1, c3), (L + 1 + 1 + 1 + 1, c4), (L + 1 + 1 + 1 + 1 + 1, c5)] ∧ StrsAre z9 ((((ls.take i).map (pathN ws)).map S))) ?ea ?_ _ 0 [] _ (by rw [Nat.zero_add]) ⟨rfl, .nil⟩
  case ea =>
    (intro j us _ hj; intro zqi; refine qE0A2 zqi fun zqr0 hus => ?_; clear zqi; subst zqr0; intro v I oI C oC D m₂ h tk E' hv hC hm F N off nne)
    (refine qE2A2 (ints_item hlv hv) fun k t zqr2 hk => ?_; subst zqr2)
    have hkm : k ∈ ls := List.mem_of_getElem? hk
    (refine qE1A1 (hdk.get ((List.mem_append_left ys <| hls.subset hkm))) fun t2 ht2 => ?_)
    (repeat' (first | (k_unfold; (try dsimp only)) | (k_end; kc_close) | (k_here; (with_reducible show wpAny _ _ (subscriptTail (PySem.Expr.Name _ _) (PySem.Expr.Name _ _) (Value.ref _) (Value.int _ _)) _ _ _); refine stopHere ?_) | walk1 | (dsimp only; walk1) | (leave1; (try dsimp only))))
    unfold Stop
    (rename Fr _ _ _ _ => kF)
    (rename News _ _ _ _ => kN)
    refine kda_item kN (by k_mem) hop (k := k) (by simp [intKind, Value.isInt]) ht2 ?_
    refine LCg.CompEnd.intro kF kN _ (fun p hp => hp) off (by k_mem) ⟨rfl, ?_⟩
    rw [List.take_add_one, hk, List.map_append, List.map_append]
    exact KStt.strs_snoc hus
  (intro zs _; intro zqi; refine qE0A2 zqi fun zqr0 hzs => ?_; clear zqi; subst zqr0; intro D1 h1 tk1 F N off1)
  rw [hl1, List.take_length] at hzs
  (repeat' (first | (k_unfold; (try dsimp only)) | (k_end; kc_close) | (k_here; (with_reducible show wpAny _ _ (compareOp CmpOp.NotEq (Value.ref _) (Value.ref _)) _ _ _); refine stopHere ?_) | walk1 | (dsimp only; walk1) | (leave1; (try dsimp only))))
  unfold Stop
  refine ne_texts ⟨_, (N (mi, _) (by k_mem)).1, rfl, _, rfl⟩ ⟨_, (N (D1, _) (by k_mem)).1, rfl, _, rfl⟩ hmv hzs (okT_paths _ _) (okT_paths _ _) (show (4 : Nat) + 3 + 64 < 9900 by decide) ?_
  rw [decide_eq_true rfl]
  (repeat' (first | (k_unfold; (try dsimp only)) | (k_end; kc_close) | (k_here; (with_reducible show wpAny _ _ (eval (PySem.Expr.ListComp _ _ _ _) _) _ _ _); refine stopHere ?_) | walk1 | (dsimp only; walk1) | (leave1; (try dsimp only))))
  unfold Stop
  refine' ListComp_W (h₀ := H) (L := L) (m := locsOf [("gained", .ref ga), ("lost", .ref lo), ("missing", .ref mi), ("unexpected", .ref un)] uf) (cl := ?clb) F ?gb1 ?gb2 ?gb3 ?gb4 ?gb5 ?_ (by intro _; rfl)
  case gb1 => rfl
  case gb2 => decide
  case gb3 => rfl
  case gb4 => decide
  case gb5 => rfl
  k_steps
  refine srcList rfl F N (its := gv) (c := nga) (by k_mem) (by rw [sizeLine_eq]; lia) fun g1 => ?_
  refine compRest_ind (fun i z9 nw => nw = [(D1, LCg.lst zs), (ga, W.listOf gv.toArray nga), (lo, W.listOf lv.toArray nlo), (mi, W.listOf mv.toArray nm), (un, W.listOf uv.toArray nu), (p, op), (x, W.listOf vx.toArray nx), (a, W.listOf va.toArray na), (b, W.listOf vb.toArray nb), (L + 1, c1), (L + 1 + 1, c2), (L + 1 + 1 + 1, c3), (L + 1 + 1 + 1 + 1, c4), (L + 1 + 1 + 1 + 1 + 1, c5)] ∧ StrsAre z9 ((((gs.take i).map (pathN ws)).map S))) ?eb ?_ _ 0 [] _ (by rw [Nat.zero_add]) ⟨rfl, .nil⟩
  case eb =>
    (intro j us _ hj; intro zqi; refine qE0A2 zqi fun zqr0 hus => ?_; clear zqi; subst zqr0; intro v I oI C oC D m₂ h tk E' hv hC hm F N off nne)
    (refine qE2A2 (ints_item hgv hv) fun k t zqr2 hk => ?_; subst zqr2)
    have hkm : k ∈ gs := List.mem_of_getElem? hk
    (refine qE1A1 (hdk.get ((List.mem_append_right xs <| hgs.subset hkm))) fun t2 ht2 => ?_)
    (repeat' (first | (k_unfold; (try dsimp only)) | (k_end; kc_close) | (k_here; (with_reducible show wpAny _ _ (subscriptTail (PySem.Expr.Name _ _) (PySem.Expr.Name _ _) (Value.ref _) (Value.int _ _)) _ _ _); refine stopHere ?_) | walk1 | (dsimp only; walk1) | (leave1; (try dsimp only))))
    unfold Stop
    (rename Fr _ _ _ _ => kF)
    (rename News _ _ _ _ => kN)
    refine kda_item kN (by k_mem) hop (k := k) (by simp [intKind, Value.isInt]) ht2 ?_
    refine LCg.CompEnd.intro kF kN _ (fun p hp => hp) off (by k_mem) ⟨rfl, ?_⟩
    rw [List.take_add_one, hk, List.map_append, List.map_append]
    exact KStt.strs_snoc hus
  (intro us _; intro zqi; refine qE0A2 zqi fun zqr0 hus => ?_; clear zqi; subst zqr0; intro D2 h2 tk2 F N off2)
  rw [hl2, List.take_length] at hus
  (repeat' (first | (k_unfold; (try dsimp only)) | (k_end; kc_close) | (k_here; (with_reducible show wpAny _ _ (compareOp CmpOp.NotEq (Value.ref _) (Value.ref _)) _ _ _); refine stopHere ?_) | walk1 | (dsimp only; walk1) | (leave1; (try dsimp only))))
  unfold Stop
  refine ne_texts ⟨_, (N (un, _) (by k_mem)).1, rfl, _, rfl⟩ ⟨_, (N (D2, _) (by k_mem)).1, rfl, _, rfl⟩ huv hus (okT_paths _ _) (okT_paths _ _) (show (4 : Nat) + 3 + 64 < 9900 by decide) ?_
  rw [decide_eq_true rfl]
  k_steps
  exact AfterG.intro (by assumption) (by assumption) hJ (by first | exact agr (by with_unfolding_all rfl) | (refine ⟨?_, ?_, ?_, ?_, trivial⟩ <;> with_unfolding_all rfl)) (by first | exact subI [0, 1, 2, 3, 4, 5, 6, 7, 8, 9, 10, 11, 12] rfl | exact subI [1, 2, 3, 4, 5, 6, 7, 8, 9, 10, 11, 12, 13] rfl | exact subI [2, 3, 4, 5, 6, 7, 8, 9, 10, 11, 12, 13, 14] rfl | exact subI [3, 4, 5, 6, 7, 8, 9, 10, 11, 12, 13, 14, 15] rfl | exact ⟨by k_mem, by k_mem, by k_mem, by k_mem, by k_mem, by k_mem, by k_mem, by k_mem, by k_mem, by k_mem, by k_mem, by k_mem, by k_mem, trivial⟩) (by assumption)
end
end
-- L16
section
set_option maxRecDepth 100000
set_option maxHeartbeats 1000000
section
variable {w : World} {d u : Nat} {f : Option (List Env)} {g : Option (List Code)} {s : Shared} {E Q : Value → Shared → Prop} {mean : ExcName → Option Value} {mg mb : Str → Option Value}

theorem off_ne {D : Addr} : ∀ {l : List (Addr × Obj)}, LCg.Off1 D l → AllNe D l
  | [], _ => trivial
  | _ :: _, ⟨h1, h2⟩ => ⟨h1, off_ne h2⟩
noncomputable def J9 (prog : Program) (w : World) (L : Addr) (nl : List (Str × Value)) (news : List (Addr × Obj)) : Prop :=
  ∀ P : List (Str × Value) → List (Addr × Obj) → Prop, (∀ (a b i x p mi un lo ga wa : Addr) (va vb vx mv uv lv gv wv : List Value) (na nb nx nm nu nlo nga nwa : Nat) (xs ys ws ls gs : List Int) (op : Obj) (kvs : List (Int × Value)) (cs : List (Addr × Obj)),
    AllNe wa ((ga, listOf gv.toArray nga) :: (lo, listOf lv.toArray nlo) :: (mi, listOf mv.toArray nm) :: (un, listOf uv.toArray nu) :: (p, op) :: (x, listOf vx.toArray nx) :: (a, listOf va.toArray na) :: (b, listOf vb.toArray nb) :: cs) → Cells L (some (.ref a)) (some (.ref b)) (some (.ref i)) (some (.ref x)) (some (.ref p)) cs → IntsAre va xs → IntsAre vb ys → Num xs → Num ys → IntsAre vx ws → Wid ws → op.IsDictOf (intKind prog w) kvs → Dk ws (xs ++ ys) kvs → (p == sysModules) = false → StrsAre mv ((ls.map (pathN ws)).map S) → StrsAre uv ((gs.map (pathN ws)).map S) → IntsAre lv ls → ls.Sublist xs → IntsAre gv gs → gs.Sublist ys → StrsAre wv ((xs.map (pathN ws)).map S) → P ([("wanted", .ref wa), ("gained", .ref ga), ("lost", .ref lo), ("missing", .ref mi), ("unexpected", .ref un)] : List (Str × Value)) ((wa, listOf wv.toArray nwa) :: ((ga, listOf gv.toArray nga) :: (lo, listOf lv.toArray nlo) :: (mi, listOf mv.toArray nm) :: (un, listOf uv.toArray nu) :: (p, op) :: (x, listOf vx.toArray nx) :: (a, listOf va.toArray na) :: (b, listOf vb.toArray nb) :: cs))) → P nl news
theorem st14 {se : Shared} (hKp : Kept se s) {H : Heap} {L fa : Addr} {dc : Value} {nl : List (Str × Value)} {news : List (Addr × Obj)} {uf : Str → Option Value} (X : (Mine.hd.heap_39 w.params).In H) (T : Top Mine.hd.view_39 (looseW Mine.hd.view_39 []) mean mg mb H)
  (J : J8 Challenge.rw_pd0146_01.row.prog w L nl news) (F : Fr H L s.heap (locsOf nl uf)) (N : News H L s.heap news) :
  wpAny (model Challenge.rw_pd0146_01.row.prog w) (callerA.deeper (lawEnv lawScope L fa dc)) (exec (lawAt 14) (lawEnv lawScope L fa dc)) (AfterG se H L (J9 Challenge.rw_pd0146_01.row.prog w L)) E s := by
  revert F N
  apply J
  clear J
  intro a b i x p mi un lo ga va vb vx mv uv lv gv na nb nx nm nu nlo nga xs ys ws ls gs op kvs cs1 hcs hva hvb hX hY hvx hW hop hdk hlo hmv huv hlv hls hgv hgs
  apply hcs
  clear hcs
  intro c1 c2 c3 c4 c5 d1 d2 d3 d4 d5 F N
  generalize hsc : lawScope = sc
  conv at hsc => lhs; whnf
  subst hsc
  generalize hst : lawAt 14 = st
  conv at hst => lhs; whnf
  subst hst
  unfold lawEnv
  (repeat' (first | (k_unfold; (try dsimp only)) | (k_end; kc_close) | (k_here; (with_reducible show wpAny _ _ (exec (PySem.Stmt.Assign (_ :: _) (PySem.Expr.ListComp _ _ _ _) _) _) _ _ _); refine stopHere ?_) | walk1 | (dsimp only; walk1) | (leave1; (try dsimp only))))
  unfold Stop
  have hla : va.length = xs.length := hva.length
  have hx14 := hX.hi
  refine' Assign_ListComp_W (h₀ := H) (cl := ?cla) F rfl ?ga1 ?ga2 ?ga3 ?ga4 ?ga5 ?ga6 ?ga7 ?ga8 ?_ (by intro _; rfl)
  case ga1 => rfl
  case ga2 => rfl
  case ga3 => decide
  case ga4 => rfl
  case ga5 => decide
  case ga6 => rfl
  case ga7 => rfl
  case ga8 => rfl
  k_steps
  refine srcList rfl F N (its := va) (c := na) (by k_mem) (by rw [sizeLine_eq]; lia) fun g1 => ?_
  refine compRest_ind (fun i z9 nw => nw = [(ga, W.listOf gv.toArray nga), (lo, W.listOf lv.toArray nlo), (mi, W.listOf mv.toArray nm), (un, W.listOf uv.toArray nu), (p, op), (x, W.listOf vx.toArray nx), (a, W.listOf va.toArray na), (b, W.listOf vb.toArray nb), (L + 1, c1), (L + 1 + 1, c2), (L + 1 + 1 + 1, c3), (L + 1 + 1 + 1 + 1, c4), (L + 1 + 1 + 1 + 1 + 1, c5)] ∧ StrsAre z9 ((((xs.take i).map (pathN ws)).map S))) ?ea ?_ _ 0 [] _ (by rw [Nat.zero_add]) ⟨rfl, .nil⟩
  case ea =>
    (intro j us _ hj; intro zqi; refine qE0A2 zqi fun zqr0 hus => ?_; clear zqi; subst zqr0; intro v I oI C oC D m₂ h tk E' hv hC hm F N off nne)
    (refine qE2A2 (ints_item hva hv) fun k t zqr2 hk => ?_; subst zqr2)
    have hkm : k ∈ xs := List.mem_of_getElem? hk
    (refine qE1A1 (hdk.get ((List.mem_append_left ys hkm))) fun t2 ht2 => ?_)
    (repeat' (first | (k_unfold; (try dsimp only)) | (k_end; kc_close) | (k_here; (with_reducible show wpAny _ _ (subscriptTail (PySem.Expr.Name _ _) (PySem.Expr.Name _ _) (Value.ref _) (Value.int _ _)) _ _ _); refine stopHere ?_) | walk1 | (dsimp only; walk1) | (leave1; (try dsimp only))))
    unfold Stop
    (rename Fr _ _ _ _ => kF)
    (rename News _ _ _ _ => kN)
    refine kda_item kN (by k_mem) hop (k := k) (by simp [intKind, Value.isInt]) ht2 ?_
    refine LCg.CompEnd.intro kF kN _ (fun p hp => hp) off (by k_mem) ⟨rfl, ?_⟩
    rw [List.take_add_one, hk, List.map_append, List.map_append]
    exact KStt.strs_snoc hus
  (intro zs _; intro zqi; refine qE0A2 zqi fun zqr0 hzs => ?_; clear zqi; subst zqr0; intro D1 h1 tk1 F N off1)
  rw [hla, List.take_length] at hzs
  k_steps
  exact AfterG.intro (by assumption) (by assumption) (fun _ k => k a b i x p mi un lo ga D1 va vb vx mv uv lv gv zs na nb nx nm nu nlo nga zs.length xs ys ws ls gs op kvs _ (off_ne off1) (fun _ k => k _ _ _ _ _ d1 d2 d3 d4 d5) hva hvb hX hY hvx hW hop hdk hlo hmv huv hlv hls hgv hgs hzs) (by first | exact agr (by with_unfolding_all rfl) | (refine ⟨?_, ?_, ?_, ?_, ?_, trivial⟩ <;> with_unfolding_all rfl)) (by first | exact subI [0, 1, 2, 3, 4, 5, 6, 7, 8, 9, 10, 11, 12, 13] rfl | exact subI [1, 2, 3, 4, 5, 6, 7, 8, 9, 10, 11, 12, 13, 14] rfl | exact subI [2, 3, 4, 5, 6, 7, 8, 9, 10, 11, 12, 13, 14, 15] rfl | exact subI [3, 4, 5, 6, 7, 8, 9, 10, 11, 12, 13, 14, 15, 16] rfl | exact ⟨by k_mem, by k_mem, by k_mem, by k_mem, by k_mem, by k_mem, by k_mem, by k_mem, by k_mem, by k_mem, by k_mem, by k_mem, by k_mem, by k_mem, trivial⟩) (by assumption)
end
end
-- D1
section
set_option maxRecDepth 100000
set_option maxHeartbeats 1000000
section
variable {w : World} {d u : Nat} {f : Option (List Env)} {g : Option (List Code)} {s : Shared} {E Q : Value → Shared → Prop} {mean : ExcName → Option Value} {mg mb : Str → Option Value}

noncomputable def UJ (l l2 L : Addr) (oL : Obj) (xs ys : List TX) (k : Nat) (nl : List (Str × Value)) (news : List (Addr × Obj)) : Prop :=
  ∀ P : List (Str × Value) → List (Addr × Obj) → Prop, (∀ (ma : Addr) (mv uv ev : List Value) (R : List TX) (ms us : List TX) (c1 c2 c3 : Nat) (sl : Array (Option Value)), @Ne Nat ma l → @Ne Nat ma l2 → @Ne Nat ma L → StrsAre ev (R.reverse.map S) → StrsAre mv (ms.map S) → StrsAre uv (us.map S) → mv.length + R.length ≤ 14 → us.length ≤ 14 → k = R.length → ms ++ (uldR R us).1 = (uldR xs.reverse ys).1 → (uldR R us).2 = (uldR xs.reverse ys).2 → P ([("missing", .ref ma), ("expected", .ref l), ("actual", .ref l2)] : List (Str × Value)) [(ma, listOf (List.toArray mv) c1), (l, listOf (List.toArray ev) c2), (l2, listOf (List.toArray uv) c3), (L, { oL with slots := sl })]) → P nl news
theorem uld_ {env : Env} {h₀ : Heap} {L l l2 : Addr} {m : Str → Option Value} {rest : List (Addr × Obj)} {vs vs2 : List Value} {xs ys : List TX} {n1 n2 : Nat}
  (F₀ : Fr h₀ L s.heap m) (N₁ : News h₀ L s.heap [(l, listOf vs.toArray n1), (l2, listOf vs2.toArray n2)]) (N₀ : News h₀ L s.heap rest) (ho1 : AllNe l rest) (ho2 : AllNe l2 rest) (hll : @Ne Nat l l2) (X₀ : (Mine.hd.heap_39 w.params).In h₀) (T₀ : Top Mine.hd.view_39 (looseW Mine.hd.view_39 []) mean mg mb h₀) (hf : env.frame = some L) (hke : env.scope.kind = .function) (hA2 : d < 370)
  (hi : StrsAre vs (xs.map S)) (hi2 : StrsAre vs2 (ys.map S)) (hn5 : xs.length ≤ 14) (hn6 : ys.length ≤ 14)
  (hQ : ∀ h' tk r ma mv uv c1 c2 c3 c4, Fr h₀ L h' m → News h₀ L h' ((r, { cls := .type "tuple", data := .seq #[.ref ma, .ref l2] c4 }) :: (ma, listOf (List.toArray mv) c1) :: (l, listOf (List.toArray []) c2) :: (l2, listOf (List.toArray uv) c3) :: rest) → StrsAre mv ((uldR xs.reverse ys).1.map S) → StrsAre uv ((uldR xs.reverse ys).2.map S) → @Ne Nat ma l → @Ne Nat ma l2 → Q (.ref r) {s with heap := h', toks := tk}) :
  wpAny (model Challenge.rw_pd0146_01.row.prog w) (Around.mk none d (some [env]) g u) (call (.ref 35) [.ref l, .ref l2]) Q E s := by
  refine' enterH (hid := [(l, listOf vs.toArray n1), (l2, listOf vs2.toArray n2)]) (env := env) (binds := [("expected", .ref l), ("actual", .ref l2)]) F₀ X₀ T₀ N₁ hf hke ?k6 ?k7 (Nat.lt_trans hA2 (by decide)) (BindsTo.of_eq ?k8) ?k9 ?_ ?c1 ?c2 ?c3 ?c4
  (((case k6 => k_is); (case k7 => k_is); (case k8 => rfl); (case k9 => exact locs (by rfl)); (case c1 => rfl); (case c2 => rfl); (case c3 => rfl); (case c4 => decide)))
  intro g oL h₁ L' tiC tiF tiE hk0 X T hup hsub F N
  simp only [AllNe, and_true] at tiE
  rw [List.cons_append, List.cons_append, List.nil_append] at N
  have hlL : @Ne Nat l L := tiE.1
  have hl2L : @Ne Nat l2 L := tiE.2
  have hn3 : vs.length = xs.length := by rw [hi.len_eq, List.length_map]
  have hn4 : vs2.length = ys.length := by rw [hi2.len_eq, List.length_map]
  clear F₀ X₀ T₀
  (repeat' (first | (k_unfold; (try dsimp only)) | (k_end; kc_close) | (k_here; (with_reducible show wpAny _ _ (exec (PySem.Stmt.While (PySem.Expr.Name _ _) (_ :: _) [] _) _) _ _ _); refine stopHere ?_) | walk1 | (dsimp only; walk1) | (leave1; (try dsimp only))))
  (rename Fr _ _ _ _ => kF)
  (rename News _ _ _ _ => kN)
  unfold Stop
  refine whileR (UJ l l2 L oL xs ys) xs.length kF kN ?_ ?_ (by passes_own)
  · exact StartJ.mk (by first | exact agr (by with_unfolding_all rfl) | (refine ⟨?_, ?_, ?_, trivial⟩ <;> with_unfolding_all rfl)) (by first | exact subI [0, 1, 2, 3] rfl | exact subI [1, 2, 3, 4] rfl | exact subI [2, 3, 4, 5] rfl | exact subI [3, 4, 5, 6] rfl | exact ⟨by k_mem, by k_mem, by k_mem, by k_mem, trivial⟩) (fun _ k => k _ ([]) vs2 vs xs.reverse ([]) ys _ _ _ oL.slots (by lia) (by lia) (by lia) (by rw [List.reverse_reverse]; exact hi) StrsAre.nil hi2 (by simp; (with_reducible assumption)) (by (with_reducible assumption)) (by simp) (by simp) rfl)
  · intro k nl news h tk u J
    apply J
    clear J
    intro ma mv uv ev R ms us c1 c2 c3 sl hne1 hne2 hne3 hev hms hus hlen hul hk hm1 hu1 F N
    have hun : uv.length = us.length := by rw [hus.len_eq, List.length_map]
    cases R with
    | nil =>
      have he0 : ev = [] := by cases hev; rfl
      subst he0
      rw [uldR, List.append_nil] at hm1
      rw [uldR] at hu1
      (repeat' (first | (k_unfold; (try dsimp only)) | (k_end; kc_close) | (k_here; (with_reducible show wpAny _ _ (truthy (Value.ref _)) _ _ _); k_dflt (first | (refine' tr_0 (by k_asm) (by k_mem) (by (first | rfl | assumption)) ?_) | (refine' tr_1 (by k_asm) (by k_mem) (by (first | assumption | omega)) ?_))) | walk1 | (dsimp only; walk1) | (leave1; (try dsimp only))))
      (rename Fr _ _ _ _ => kF2)
      (rename News _ _ _ _ => kN2)
      obtain ⟨F9, N9⟩ := backN (fresh := [(_, { cls := Value.type "tuple", data := Data.seq #[Value.ref ma, Value.ref l2] 0 }), (ma, _), (l, _), (l2, _)]) tiC hk0 hup (fun p hp q hq => by
        (first | (revert q; refine alC ?_ (fun q hq => ?_)) | rcases List.mem_cons.mp hq with rfl | hq)
        · exact ho1.all p hp
        · rw [List.mem_singleton.mp hq]; exact ho2.all p hp) N₀ kF2 kN2 (by k_mem) (by exact ⟨by k_mem, by k_ne, by k_mem, by k_ne, by k_mem, by k_ne, by k_mem, by k_ne, trivial⟩)
      exact hQ _ _ _ _ _ _ _ _ _ _ F9 N9 (by rw [← hm1]; assumption) (by rw [← hu1]; assumption) hne1 hne2
    | cons x R =>
      rw [List.reverse_cons] at hev
      (refine qE2A2 (strs_snoc_inv hev) fun vi t zqr2 hvi => ?_; subst zqr2)
      have hvl : vi.length = R.length := by rw [hvi.len_eq, List.length_map, List.length_reverse]
      rw [List.length_cons] at hlen hk
      have hpos : 0 < (vi ++ [Value.str (S x) t]).length ∧ (vi ++ [Value.str (S x) t]).length ≤ 1000 := by
        rw [List.length_append, List.length_singleton]; lia
      by_cases hx : x ∈ us
      · rw [uldR, if_pos hx] at hm1 hu1
        (repeat' ((fail_if_success ((with_reducible show wpAny _ _ (call (Value.builtin "list.remove") _) _ _ _))); first | (k_unfold; (try dsimp only)) | (k_end; kc_close) | (k_here; (with_reducible show wpAny _ _ (truthy (Value.ref _)) _ _ _); k_dflt (first | (refine' tr_0 (by k_asm) (by k_mem) (by (first | rfl | assumption)) ?_) | (refine' tr_1 (by k_asm) (by k_mem) (by (first | assumption | omega)) ?_))) | (k_here; (show wpAny _ _ (call (Value.builtin _) [Value.ref _]) _ _ _); k_dflt (refine' pop_S (by k_asm) (by k_asm) (by k_upd) (by omega) ?_); intro zrhq zrFq zrNq; (try k_sweep)) | walk1 | (dsimp only; walk1) | (leave1; (try dsimp only))))
        k_dflt (refine' rm_S ?rF ?rN ?ri ?rx ?rU ?rz ?_; (case rF => k_asm); (case rN => k_asm); (case rx => assumption); (case rU => intro q; k_upd); (case ri => assumption); (case rz => lia))
        intro h' q' i' F' N'
        (repeat' (first | (k_unfold; (try dsimp only)) | (k_end; kc_close) | (k_here; (with_reducible show wpAny _ _ (truthy (Value.ref _)) _ _ _); k_dflt (first | (refine' tr_0 (by k_asm) (by k_mem) (by (first | rfl | assumption)) ?_) | (refine' tr_1 (by k_asm) (by k_mem) (by (first | assumption | omega)) ?_))) | (k_here; (show wpAny _ _ (call (Value.builtin _) [Value.ref _]) _ _ _); k_dflt (refine' pop_S (by k_asm) (by k_asm) (by k_upd) (by omega) ?_); intro zrhq zrFq zrNq; (try k_sweep)) | walk1 | (dsimp only; walk1) | (leave1; (try dsimp only))))
        (try dsimp only)
        (repeat' (first | (k_unfold; (try dsimp only)) | (k_end; kc_close) | (k_here; (with_reducible show wpAny _ _ (truthy (Value.ref _)) _ _ _); k_dflt (first | (refine' tr_0 (by k_asm) (by k_mem) (by (first | rfl | assumption)) ?_) | (refine' tr_1 (by k_asm) (by k_mem) (by (first | assumption | omega)) ?_))) | (k_here; (show wpAny _ _ (call (Value.builtin _) [Value.ref _]) _ _ _); k_dflt (refine' pop_S (by k_asm) (by k_asm) (by k_upd) (by omega) ?_); intro zrhq zrFq zrNq; (try k_sweep)) | walk1 | (dsimp only; walk1) | (leave1; (try dsimp only))))
        exact wE (n' := R.length) (by assumption) (by assumption) (by lia) (fun _ k => k ma mv _ vi R ms (us.erase x) _ _ _ _ hne1 hne2 hne3 (by assumption) (by assumption) (by assumption) (by lia) (Nat.le_trans (List.length_erase_le ..) hul) rfl hm1 hu1) (by first | exact agr (by with_unfolding_all rfl) | (refine ⟨?_, ?_, ?_, trivial⟩ <;> with_unfolding_all rfl)) (by first | exact subI [0, 1, 2, 3] rfl | exact subI [1, 2, 3, 4] rfl | exact subI [2, 3, 4, 5] rfl | exact subI [3, 4, 5, 6] rfl | exact ⟨by k_mem, by k_mem, by k_mem, by k_mem, trivial⟩)
      · rw [uldR, if_neg hx] at hm1 hu1
        (repeat' ((fail_if_success ((with_reducible show wpAny _ _ (call (Value.builtin "list.remove") _) _ _ _))); first | (k_unfold; (try dsimp only)) | (k_end; kc_close) | (k_here; (with_reducible show wpAny _ _ (truthy (Value.ref _)) _ _ _); k_dflt (first | (refine' tr_0 (by k_asm) (by k_mem) (by (first | rfl | assumption)) ?_) | (refine' tr_1 (by k_asm) (by k_mem) (by (first | assumption | omega)) ?_))) | (k_here; (show wpAny _ _ (call (Value.builtin _) [Value.ref _]) _ _ _); k_dflt (refine' pop_S (by k_asm) (by k_asm) (by k_upd) (by omega) ?_); intro zrhq zrFq zrNq; (try k_sweep)) | walk1 | (dsimp only; walk1) | (leave1; (try dsimp only))))
        k_dflt (refine' rm_Sout rfl ?rN2 ?rm2 ?ri2 ?rx2 ?_; (case rN2 => k_asm); (case rx2 => assumption); (case rm2 => k_mem); (case ri2 => assumption))
        intro h' tk' e' x'
        (repeat' (first | (k_unfold; (try dsimp only)) | (k_end; kc_close) | (k_here; (with_reducible show wpAny _ _ (truthy (Value.ref _)) _ _ _); k_dflt (first | (refine' tr_0 (by k_asm) (by k_mem) (by (first | rfl | assumption)) ?_) | (refine' tr_1 (by k_asm) (by k_mem) (by (first | assumption | omega)) ?_))) | (k_here; (show wpAny _ _ (call (Value.builtin _) [Value.ref _]) _ _ _); k_dflt (refine' pop_S (by k_asm) (by k_asm) (by k_upd) (by omega) ?_); intro zrhq zrFq zrNq; (try k_sweep)) | walk1 | (dsimp only; walk1) | (leave1; (try dsimp only))))
        (try dsimp only)
        (repeat' (first | (k_unfold; (try dsimp only)) | (k_end; kc_close) | (k_here; (with_reducible show wpAny _ _ (truthy (Value.ref _)) _ _ _); k_dflt (first | (refine' tr_0 (by k_asm) (by k_mem) (by (first | rfl | assumption)) ?_) | (refine' tr_1 (by k_asm) (by k_mem) (by (first | assumption | omega)) ?_))) | (k_here; (show wpAny _ _ (call (Value.builtin _) [Value.ref _]) _ _ _); k_dflt (refine' pop_S (by k_asm) (by k_asm) (by k_upd) (by omega) ?_); intro zrhq zrFq zrNq; (try k_sweep)) | walk1 | (dsimp only; walk1) | (leave1; (try dsimp only))))
        (rename News _ _ _ _ => kN2)
        rw [List.push_toArray] at kN2
        exact wE (n' := R.length) (by assumption) kN2 (by lia) (fun _ k => k ma (mv ++ [.str (S x) t]) uv vi R (ms ++ [x]) us _ _ _ _ hne1 hne2 hne3 (by assumption) (by rw [List.map_append]; exact StrsAre.append' (by assumption) (.cons _ _ .nil)) (by assumption) (by rw [List.length_append, List.length_singleton]; lia) hul rfl (by rw [← hm1]; simp) hu1) (by first | exact agr (by with_unfolding_all rfl) | (refine ⟨?_, ?_, ?_, trivial⟩ <;> with_unfolding_all rfl)) (by first | exact subI [0, 1, 2, 3] rfl | exact subI [1, 2, 3, 4] rfl | exact subI [2, 3, 4, 5] rfl | exact subI [3, 4, 5, 6] rfl | exact ⟨by k_mem, by k_mem, by k_mem, by k_mem, trivial⟩)
end
end
-- L17
section
set_option maxRecDepth 100000
set_option maxHeartbeats 1000000
section
variable {w : World} {d u : Nat} {f : Option (List Env)} {g : Option (List Code)} {s : Shared} {E Q : Value → Shared → Prop} {mean : ExcName → Option Value} {mg mb : Str → Option Value}

noncomputable def J10 (prog : Program) (w : World) (L : Addr) (nl : List (Str × Value)) (news : List (Addr × Obj)) : Prop :=
  ∀ P : List (Str × Value) → List (Addr × Obj) → Prop, (∀ (a b i x p mi un lo ga wa sh ov : Addr) (va vb vx mv uv lv gv sv ovv : List Value) (na nb nx nm nu nlo nga nwa nsh nov : Nat) (xs ys ws ls gs : List Int) (op : Obj) (kvs : List (Int × Value)) (cs : List (Addr × Obj)),
    Cells L (some (.ref a)) (some (.ref b)) (some (.ref i)) (some (.ref x)) (some (.ref p)) cs → IntsAre va xs → IntsAre vb ys → Num xs → Num ys → IntsAre vx ws → Wid ws → op.IsDictOf (intKind prog w) kvs → Dk ws (xs ++ ys) kvs → (p == sysModules) = false → StrsAre mv ((ls.map (pathN ws)).map S) → StrsAre uv ((gs.map (pathN ws)).map S) → IntsAre lv ls → ls.Sublist xs → IntsAre gv gs → gs.Sublist ys → StrsAre sv (((uldI xs.reverse ys).1.map (pathN ws)).map S) → StrsAre ovv (((uldI xs.reverse ys).2.map (pathN ws)).map S) → P ([("short", .ref sh), ("over", .ref ov), ("wanted", .ref wa), ("gained", .ref ga), ("lost", .ref lo), ("missing", .ref mi), ("unexpected", .ref un)] : List (Str × Value)) ((sh, listOf sv.toArray nsh) :: (wa, listOf (List.toArray []) nwa) :: (ov, listOf ovv.toArray nov) :: (ga, listOf gv.toArray nga) :: (lo, listOf lv.toArray nlo) :: (mi, listOf mv.toArray nm) :: (un, listOf uv.toArray nu) :: (p, op) :: (x, listOf vx.toArray nx) :: (a, listOf va.toArray na) :: (b, listOf vb.toArray nb) :: cs)) → P nl news
theorem st15 {se : Shared} (hKp : Kept se s) {H : Heap} {L fa : Addr} {dc : Value} {nl : List (Str × Value)} {news : List (Addr × Obj)} {uf : Str → Option Value} (X : (Mine.hd.heap_39 w.params).In H) (T : Top Mine.hd.view_39 (looseW Mine.hd.view_39 []) mean mg mb H)
  (J : J9 Challenge.rw_pd0146_01.row.prog w L nl news) (F : Fr H L s.heap (locsOf nl uf)) (N : News H L s.heap news) :
  wpAny (model Challenge.rw_pd0146_01.row.prog w) (callerA.deeper (lawEnv lawScope L fa dc)) (exec (lawAt 15) (lawEnv lawScope L fa dc)) (AfterG se H L (J10 Challenge.rw_pd0146_01.row.prog w L)) E s := by
  revert F N
  apply J
  clear J
  intro a b i x p mi un lo ga wa va vb vx mv uv lv gv wv na nb nx nm nu nlo nga nwa xs ys ws ls gs op kvs cs1 hne hcs hva hvb hX hY hvx hW hop hdk hlo hmv huv hlv hls hgv hgs hwv
  revert hne
  apply hcs
  clear hcs
  intro c1 c2 c3 c4 c5 d1 d2 d3 d4 d5 hne F N
  generalize hsc : lawScope = sc
  conv at hsc => lhs; whnf
  subst hsc
  generalize hst : lawAt 15 = st
  conv at hst => lhs; whnf
  subst hst
  unfold lawEnv
  (repeat' (first | (k_unfold; (try dsimp only)) | (k_end; kc_close) | (k_here; (with_reducible show wpAny _ _ (eval (PySem.Expr.ListComp _ _ _ _) _) _ _ _); refine stopHere ?_) | walk1 | (dsimp only; walk1) | (leave1; (try dsimp only))))
  unfold Stop
  have hlb : vb.length = ys.length := hvb.length
  have hx14 := hX.hi
  have hy14 := hY.hi
  refine' ListComp_W (h₀ := H) (L := L) (m := locsOf [("wanted", .ref wa), ("gained", .ref ga), ("lost", .ref lo), ("missing", .ref mi), ("unexpected", .ref un)] uf) (cl := ?clb) F ?gb1 ?gb2 ?gb3 ?gb4 ?gb5 ?_ (by intro _; rfl)
  case gb1 => rfl
  case gb2 => decide
  case gb3 => rfl
  case gb4 => decide
  case gb5 => rfl
  k_steps
  refine srcList rfl F N (its := vb) (c := nb) (by k_mem) (by rw [sizeLine_eq]; lia) fun g1 => ?_
  refine compRest_ind (fun i z9 nw => nw = [(wa, W.listOf wv.toArray nwa), (ga, W.listOf gv.toArray nga), (lo, W.listOf lv.toArray nlo), (mi, W.listOf mv.toArray nm), (un, W.listOf uv.toArray nu), (p, op), (x, W.listOf vx.toArray nx), (a, W.listOf va.toArray na), (b, W.listOf vb.toArray nb), (L + 1, c1), (L + 1 + 1, c2), (L + 1 + 1 + 1, c3), (L + 1 + 1 + 1 + 1, c4), (L + 1 + 1 + 1 + 1 + 1, c5)] ∧ StrsAre z9 ((((ys.take i).map (pathN ws)).map S))) ?eb ?_ _ 0 [] _ (by rw [Nat.zero_add]) ⟨rfl, .nil⟩
  case eb =>
    (intro j us _ hj; intro zqi; refine qE0A2 zqi fun zqr0 hus => ?_; clear zqi; subst zqr0; intro v I oI C oC D m₂ h tk E' hv hC hm F N off nne)
    (refine qE2A2 (ints_item hvb hv) fun k t zqr2 hk => ?_; subst zqr2)
    have hkm : k ∈ ys := List.mem_of_getElem? hk
    (refine qE1A1 (hdk.get ((List.mem_append_right xs hkm))) fun t2 ht2 => ?_)
    (repeat' (first | (k_unfold; (try dsimp only)) | (k_end; kc_close) | (k_here; (with_reducible show wpAny _ _ (subscriptTail (PySem.Expr.Name _ _) (PySem.Expr.Name _ _) (Value.ref _) (Value.int _ _)) _ _ _); refine stopHere ?_) | walk1 | (dsimp only; walk1) | (leave1; (try dsimp only))))
    unfold Stop
    (rename Fr _ _ _ _ => kF)
    (rename News _ _ _ _ => kN)
    refine kda_item kN (by k_mem) hop (k := k) (by simp [intKind, Value.isInt]) ht2 ?_
    refine LCg.CompEnd.intro kF kN _ (fun p hp => hp) off (by k_mem) ⟨rfl, ?_⟩
    rw [List.take_add_one, hk, List.map_append, List.map_append]
    exact KStt.strs_snoc hus
  (intro us _; intro zqi; refine qE0A2 zqi fun zqr0 hus => ?_; clear zqi; subst zqr0; intro D2 h2 tk2 F N off2)
  rw [hlb, List.take_length] at hus
  (repeat' (first | (k_unfold; (try dsimp only)) | (k_end; kc_close) | (k_here; (with_reducible show wpAny _ _ (call (Value.ref 35) [Value.ref _, Value.ref _]) _ _ _); refine stopHere ?_) | walk1 | (dsimp only; walk1) | (leave1; (try dsimp only))))
  unfold Stop
  refine uld_ (l := wa) (l2 := D2) (n1 := nwa) (n2 := us.length) (rest := [(ga, W.listOf gv.toArray nga), (lo, W.listOf lv.toArray nlo), (mi, W.listOf mv.toArray nm), (un, W.listOf uv.toArray nu), (p, op), (x, W.listOf vx.toArray nx), (a, W.listOf va.toArray na), (b, W.listOf vb.toArray nb), (L + 1, c1), (L + 1 + 1, c2), (L + 1 + 1 + 1, c3), (L + 1 + 1 + 1 + 1, c4), (L + 1 + 1 + 1 + 1 + 1, c5)]) (xs := xs.map (pathN ws)) (ys := ys.map (pathN ws)) F (fun q hq => N q ?sb1) (fun q hq => N q ?sb2) hne (off_ne off2.2) (fun e => off2.1 e) X T rfl rfl (by (first | omega | (dsimp only; omega) | (simp only [depth_deeper, depth_in1, depth_caller, Around.deeper]; omega) | (simp [Around.deeper]; omega))) hwv hus (by rw [List.length_map]; (with_reducible assumption)) (by rw [List.length_map]; (with_reducible assumption)) ?_
  case sb1 =>
    rcases List.mem_cons.mp hq with e | hq
    · rw [e]; k_mem
    · rw [List.mem_singleton.mp hq]; exact List.mem_cons_self
  case sb2 => exact List.mem_cons_of_mem _ (List.mem_cons_of_mem _ hq)
  intro h3 tk3 r sh sv ovv e1 e2 e3 e4 F N hsv hov n1 n2
  clear hwv hus
  have hR : uldR (xs.map (pathN ws)).reverse (ys.map (pathN ws)) = ((uldI xs.reverse ys).1.map (pathN ws), (uldI xs.reverse ys).2.map (pathN ws)) := by
    rw [← List.map_reverse]
    exact uldR_map _ _ fun z hz y hy => pathN_eq hW (hY.all y hy) (hX.all z (List.mem_reverse.mp hz))
  rw [hR] at hsv hov
  k_steps
  exact AfterG.intro (by assumption) (by assumption) (fun _ k => k a b i x p mi un lo ga wa sh D2 va vb vx mv uv lv gv sv ovv na nb nx nm nu nlo nga e2 e1 e3 xs ys ws ls gs op kvs _ (fun _ k => k _ _ _ _ _ d1 d2 d3 d4 d5) hva hvb hX hY hvx hW hop hdk hlo hmv huv hlv hls hgv hgs hsv hov) (by first | exact agr (by with_unfolding_all rfl) | (refine ⟨?_, ?_, ?_, ?_, ?_, ?_, ?_, trivial⟩ <;> with_unfolding_all rfl)) (by first | exact subI [0, 1, 2, 3, 4, 5, 6, 7, 8, 9, 10, 11, 12, 13, 14, 15] rfl | exact subI [1, 2, 3, 4, 5, 6, 7, 8, 9, 10, 11, 12, 13, 14, 15, 16] rfl | exact subI [2, 3, 4, 5, 6, 7, 8, 9, 10, 11, 12, 13, 14, 15, 16, 17] rfl | exact subI [3, 4, 5, 6, 7, 8, 9, 10, 11, 12, 13, 14, 15, 16, 17, 18] rfl | exact ⟨by k_mem, by k_mem, by k_mem, by k_mem, by k_mem, by k_mem, by k_mem, by k_mem, by k_mem, by k_mem, by k_mem, by k_mem, by k_mem, by k_mem, by k_mem, by k_mem, trivial⟩) (by assumption)
end
end
-- B10
section
open PyProof.Rows.LCg
set_option maxRecDepth 100000
set_option maxHeartbeats 3200000
theorem allNe_of {B : Addr} : ∀ {l : List (Addr × Obj)}, (∀ q ∈ l, @Ne Nat q.1 B) → AllNe B l
  | [], _ => trivial
  | q :: r, h => ⟨h q List.mem_cons_self, allNe_of fun z hz => h z (List.mem_cons_of_mem _ hz)⟩
section
variable {prog : Program} {w : World} {A : Around} {E : Value → Shared → Prop} {s : Shared} {h₀ : Heap} {L : Addr} {m : Str → Option Value} {news : List (Addr × Obj)}
theorem sorted_keys {p : Addr} {op : Obj} {kvs : List (Int × Value)} {Q : Value → Shared → Prop} (hh : A.handled = none) (F : Fr h₀ L s.heap m) (N : News h₀ L s.heap news) (hm : (p, op) ∈ news) (hd : op.IsDictOf (intKind prog w) kvs) (lo : (p == sysModules) = false) (hnd : (kvs.map (·.1)).Nodup) (hsz : kvs.length ≤ 60)
    (h : ∀ (B : Addr) (c : Nat) h' tk vs ks, Fr h₀ L h' m → News h₀ L h' ((B, listOf (List.toArray vs) c) :: news) → AllNe B news → IntsAre vs ks → ks.Pairwise (· < ·) → (∀ k, k ∈ ks ↔ k ∈ kvs.map (·.1)) → ks.length = kvs.length → Q (.ref B) { s with heap := h', toks := tk }) :
    wpAny (model prog w) A (call (.builtin "sorted") [.ref p]) Q E s := by
  (refine qE1A1 ((Heap.dictOf_iff.mpr ⟨op, (N _ hm).1, hd⟩ : s.heap.DictOf (intKind prog w) p kvs).dictAt) fun ep hat => ?_)
  refine kdu_sorted (kdl_dict (knd := intKind prog w) (kvs := kvs) (ep := ep) lo) hh F N hat (kdl_size (by lia)) fun B h' tk vs F' N' l1 hl hv => ?_
  have hi : IntsAre vs (kvs.map (·.1)) := ints_of (by rw [hl, List.length_map]) fun j v hvj => by
    (refine qE2A2 (hv j v hvj) fun k x hx hk => ?_)
    (refine qE1A1 (Value.isInt_shape hk) fun t zqr1 => ?_; subst zqr1)
    exact ⟨k, by rw [List.getElem?_map, hx]; rfl, t, rfl⟩
  have hoL : h'.get? B = some (seqObj "list" vs.toArray 0) := (N' (B, listOf vs.toArray 0) (.head _)).1
  refine wpAny_call_entry slot_list_sort ⟨_, hoL, rfl⟩ entry_list_sort (list_sort_tree hoL hi (by rw [hl]; lia) fun out ns' a1 a2 a3 => ⟨.none, rfl, ?_⟩) (args_list_sort _)
  (refine qE1A1 (sortedHeap_at (vs := vs) (out := out) hoL) fun e he => ?_)
  have hold : ∀ b o, b ≠ B → h'.get? b = some o → (sortedHeap h' B vs out).get? b = some o := fun b o hb eb => by
    rw [sortedHeap_old hb (Heap.lt_size eb)]; exact eb
  have hB0 := (N' (B, listOf vs.toArray 0) (.head _)).2
  have hnb : ∀ q ∈ news, @Ne Nat q.1 B := fun q hq => Nat.ne_of_lt (l1 q hq)
  have hmem2 : ∀ k, k ∈ ns' ↔ k ∈ kvs.map (·.1) := fun k => a2.mem_iff
  have hn2 : ns'.Nodup := a2.nodup_iff.mpr hnd
  have hne : AllNe B news := allNe_of hnb
  refine h B e _ tk out.toList ns' ⟨F'.ns.at' fun o eo => hold _ o (fun q => hB0.1 q.symm) eo, fun b o eo => hold _ _ (fun q => by rw [q, hB0.2] at eo; cases eo) (F'.keep b o eo), F'.above⟩ (fun q hq => ?_) hne a1 ((a3.and hn2).imp fun ⟨z1, z2⟩ => by lia) hmem2 (by rw [a2.length_eq, List.length_map])
  (first | (revert q; refine alC ?_ (fun q hq => ?_)) | rcases List.mem_cons.mp hq with rfl | hq)
  · exact ⟨by rw [Array.toArray_toList]; exact he, hB0⟩
  · exact ⟨hold _ _ (hnb q hq) (N' q (List.mem_cons_of_mem _ hq)).1, (N' q (List.mem_cons_of_mem _ hq)).2⟩
end
end
-- M6
section
open PyProof.Rows.LCg
set_option maxRecDepth 100000
set_option maxHeartbeats 2000000
noncomputable def joinN : List TX → TX
  | [] => []
  | [x] => x
  | x :: y :: r => x ++ 47 :: joinN (y :: r)
theorem sep_S : Str.ofString "/" = S [47] := slash
theorem join_S : ∀ A : List TX, Str.join (S [47]) (A.map S) = S (joinN A)
  | [] => rfl
  | [x] => rfl
  | x :: y :: r => by
    have ih := join_S (y :: r)
    rw [List.map_cons, List.map_cons] at *
    show S x ++ S [47] ++ Str.join (S [47]) (S y :: r.map S) = _
    rw [ih, S_app, S_app, joinN]; simp
theorem sep_split {a b : TX} : ∀ {x y : TX}, 47 ∉ x → 47 ∉ y → x ++ 47 :: a = y ++ 47 :: b → x = y ∧ a = b
  | [], [], _, _, h => ⟨rfl, by simpa using h⟩
  | [], c :: y, _, hy, h => by
    simp at h
    exact absurd h.1.symm (by intro q; exact hy (by rw [q]; exact List.mem_cons_self))
  | c :: x, [], hx, _, h => by
    simp at h
    exact absurd h.1 (by intro q; exact hx (by rw [q]; exact List.mem_cons_self))
  | c :: x, d :: y, hx, hy, h => by
    simp only [List.cons_append, List.cons.injEq] at h
    (refine qE0A2 (sep_split (fun q => hx (List.mem_cons_of_mem _ q)) (fun q => hy (List.mem_cons_of_mem _ q)) h.2) fun h1 h2 => ?_)
    exact ⟨by rw [h.1, h1], h2⟩
theorem join_uniq : ∀ {A B : List TX}, A ≠ [] → B ≠ [] → (∀ p ∈ A, 47 ∉ p) → (∀ p ∈ B, 47 ∉ p) → joinN A = joinN B → A = B
  | [], _, h, _, _, _, _ => absurd rfl h
  | _, [], _, h, _, _, _ => absurd rfl h
  | [x], [y], _, _, _, _, h => by simpa [joinN] using h
  | [x], y :: z :: r, _, _, hA, _, h => by
    exfalso
    have : 47 ∈ x := by
      have h' : x = y ++ 47 :: joinN (z :: r) := h
      rw [h']; simp
    exact hA x List.mem_cons_self this
  | x :: z :: r, [y], _, _, _, hB, h => by
    exfalso
    have : 47 ∈ y := by
      have h' : x ++ 47 :: joinN (z :: r) = y := h
      rw [← h']; simp
    exact hB y List.mem_cons_self this
  | x :: z :: r, y :: z' :: r', _, _, hA, hB, h => by
    (refine qE0A2 (sep_split (hA x List.mem_cons_self) (hB y List.mem_cons_self) (show x ++ 47 :: joinN (z :: r) = y ++ 47 :: joinN (z' :: r') from h)) fun h1 h2 => ?_)
    rw [h1, join_uniq (by simp) (by simp) (fun p hp => hA p (List.mem_cons_of_mem _ hp)) (fun p hp => hB p (List.mem_cons_of_mem _ hp)) h2]
theorem join_path : ∀ {names : List TX}, names ≠ [] → joinN ([] :: names) = pathL names
  | [], h => absurd rfl h
  | [x], _ => by simp [joinN, pathL]
  | x :: y :: r, _ => by
    have ih := join_path (names := y :: r) (by simp)
    have e : pathL (x :: y :: r) = 47 :: x ++ pathL (y :: r) := by simp [pathL]
    rw [e, ← ih]
    simp [joinN]
theorem split_path {names : List TX} (hne : names ≠ []) (hN : ∀ b ∈ names, IsName b) : Txt.split (S (pathL names)) (Str.ofString "/") = ([] :: names).map S := by
  rw [sep_S]
  have h1 := PySem.StrLaws.join_split (S (pathL names)) (S [47])
  have h2 : ∀ p ∈ Txt.split (S (pathL names)) (S [47]), 47 ∉ p.cps.toList := PySem.StrLaws.split_free (S (pathL names)) 47
  have e : Txt.split (S (pathL names)) (S [47]) = ((Txt.split (S (pathL names)) (S [47])).map (·.cps.toList)).map S := by
    rw [List.map_map]
    conv => lhs; rw [← List.map_id (Txt.split (S (pathL names)) (S [47]))]
    exact List.map_congr_left fun p _ => S_of p
  generalize (Txt.split (S (pathL names)) (S [47])).map (·.cps.toList) = A at e
  rw [e, join_S] at h1
  have h3 : joinN A = joinN ([] :: names) := by rw [join_path hne]; exact S_inj h1
  have hA : A ≠ [] := fun q => by
    rw [q, join_path hne] at h3
    cases names with
    | nil => exact hne rfl
    | cons x r => simp [joinN, pathL] at h3
  rw [e, join_uniq hA (by simp) (fun p hp => ?_) (fun p hp => ?_) h3]
  · have := h2 (S p) (by rw [e]; exact List.mem_map_of_mem hp)
    rwa [S_cps] at this
  · (first | (revert p; refine alC ?_ (fun p hp => ?_)) | rcases List.mem_cons.mp hp with rfl | hp)
    · simp
    · intro q; exact (hN p hp).2.1 47 q rfl
end
-- M7
section
open PyProof.Rows.LCg
set_option maxRecDepth 100000
set_option maxHeartbeats 2000000
noncomputable def HeldL (ls : List (Addr × Obj)) : List Value → List (List TX) → Prop
  | [], [] => True
  | v :: vs, n :: ns => (∃ (a : Addr) (ws : List Value) (c : Nat), v = .ref a ∧ (a, listOf ws.toArray c) ∈ ls ∧ StrsAre ws (n.map S)) ∧ HeldL ls vs ns
  | _, _ => False
theorem HeldL.more {ls ls' : List (Addr × Obj)} (hs : ∀ p ∈ ls, p ∈ ls') : ∀ {vs : List Value} {ns : List (List TX)}, HeldL ls vs ns → HeldL ls' vs ns
  | [], [], _ => trivial
  | _ :: _, _ :: _, ⟨⟨a, ws, c, e, hm, hw⟩, r⟩ => ⟨⟨a, ws, c, e, hs _ hm, hw⟩, HeldL.more hs r⟩
  | [], _ :: _, h => nomatch h
  | _ :: _, [], h => nomatch h
theorem HeldL.snoc {ls : List (Addr × Obj)} {a : Addr} {ws : List Value} {c : Nat} {n : List TX} (hm : (a, listOf ws.toArray c) ∈ ls) (hw : StrsAre ws (n.map S)) : ∀ {vs : List Value} {ns : List (List TX)}, HeldL ls vs ns → HeldL ls (vs ++ [.ref a]) (ns ++ [n])
  | [], [], _ => ⟨⟨a, ws, c, rfl, hm, hw⟩, trivial⟩
  | _ :: _, _ :: _, ⟨x, r⟩ => ⟨x, HeldL.snoc hm hw r⟩
  | [], _ :: _, h => nomatch h
  | _ :: _, [], h => nomatch h
theorem HeldL.len {ls : List (Addr × Obj)} : ∀ {vs : List Value} {ns : List (List TX)}, HeldL ls vs ns → vs.length = ns.length
  | [], [], _ => rfl
  | _ :: _, _ :: _, ⟨_, r⟩ => by simp [HeldL.len r]
  | [], _ :: _, h => nomatch h
  | _ :: _, [], h => nomatch h
theorem HeldL.get {ls : List (Addr × Obj)} : ∀ {vs : List Value} {ns : List (List TX)} {i : Nat} {v : Value}, HeldL ls vs ns → vs[i]? = some v → ∃ (n : List TX) (a : Addr) (ws : List Value) (c : Nat), ns[i]? = some n ∧ v = .ref a ∧ (a, listOf ws.toArray c) ∈ ls ∧ StrsAre ws (n.map S)
  | _ :: _, n :: _, 0, _, ⟨⟨a, ws, c, e, hm, hw⟩, _⟩, h => by
    simp at h; subst h
    exact ⟨n, a, ws, c, rfl, e, hm, hw⟩
  | _ :: _, _ :: _, i + 1, _, ⟨_, r⟩, h => by
    (refine qE4A2 (HeldL.get (i := i) r (by simpa using h)) fun n a ws c h1 h2 => ?_)
    exact ⟨n, a, ws, c, by simpa using h1, h2⟩
  | [], _, _, _, _, h => by simp at h
  | _ :: _, [], _, _, h, _ => nomatch h
noncomputable def SpJ (p1 p2 p3 : Addr × Obj) (nss : List (List TX)) (i : Nat) (ys : List Value) (news : List (Addr × Obj)) : Prop :=
  ∃ ls, news = p1 :: p2 :: p3 :: ls ∧ HeldL ls ys ((nss.take i).map ([] :: ·))
section
variable {prog : Program} {w : World} {A : Around} {E : Value → Shared → Prop} {s : Shared} {h₀ : Heap} {L : Addr} {m : Str → Option Value} {news : List (Addr × Obj)}
theorem split_N {names : List TX} {t u : Tok} {Q : Value → Shared → Prop} (F : Fr h₀ L s.heap m) (N : News h₀ L s.heap news) (hne : names ≠ []) (hN : ∀ b ∈ names, IsName b) (hz : names.length ≤ 10)
    (h : ∀ h' k a ws c, Fr h₀ L h' m → News h₀ L h' ((a, listOf (List.toArray ws) c) :: news) → (∀ p ∈ news, @Ne Nat p.1 a) → StrsAre ws (([] :: names).map S) → Q (.ref a) { s with heap := h', toks := k }) :
    wpAny (model prog w) A (call (.builtin "str.split") [.str (S (pathL names)) t, .str (Str.ofString "/") u]) Q E s := by
  have hl := path_len hN
  refine splitN1A F N rfl (fun l h' k e hA _ _ F' N' => ?_) (by rw [sizeLine_eq]; lia)
  rw [split_path hne hN] at e
  rw [e] at hA
  exact h h' k _ (strValues l) 0 F' N' (fun p hp => Nat.ne_of_lt (Heap.lt_size (N p hp).1)) hA
end
theorem SpJ.held {ls : List (Addr × Obj)} {ys ws : List Value} {nss : List (List TX)} {i : Nat} {nm : List TX} {a : Addr} {c : Nat} (hH : HeldL ls ys ((nss.take i).map ([] :: ·))) (hnm : nss[i]? = some nm) (hw : StrsAre ws (([] :: nm).map S)) :
    HeldL ((a, listOf ws.toArray c) :: ls) (ys ++ [.ref a]) ((nss.take (i + 1)).map ([] :: ·)) := by
  rw [List.take_add_one, hnm, List.map_append]
  exact (hH.more fun p hp => List.mem_cons_of_mem _ hp).snoc List.mem_cons_self hw
theorem rot3 {x I C D p1 p2 p3 : Addr × Obj} {ls : List (Addr × Obj)} : ∀ p ∈ I :: C :: D :: p1 :: p2 :: p3 :: x :: ls, p ∈ x :: I :: C :: D :: p1 :: p2 :: p3 :: ls :=
  fun _ hp => (List.perm_middle (l₁ := [I, C, D, p1, p2, p3]) (l₂ := ls) (a := x)).mem_iff.mp hp
theorem off3 {I C D a : Addr} {oI oC oD o : Obj} {p1 p2 p3 : Addr × Obj} {ls : List (Addr × Obj)} (off : Off3 I C D (p1 :: p2 :: p3 :: ls)) (n1 : ∀ p ∈ (I, oI) :: (C, oC) :: (D, oD) :: p1 :: p2 :: p3 :: ls, @Ne Nat p.1 a) : Off3 I C D (p1 :: p2 :: p3 :: (a, o) :: ls) :=
  ⟨off.1, off.2.1, off.2.2.1, ⟨(n1 _ List.mem_cons_self).symm, (n1 _ (List.mem_cons_of_mem _ List.mem_cons_self)).symm, (n1 _ (List.mem_cons_of_mem _ (List.mem_cons_of_mem _ List.mem_cons_self))).symm⟩, off.2.2.2⟩
end
-- B11
section
open PyProof.Rows.LCg
set_option maxRecDepth 100000
set_option maxHeartbeats 1000000
noncomputable def HeldT (f : Int → Int) (ls : List (Addr × Obj)) : List Value → List Int → Prop
  | [], [] => True
  | v :: vs, k :: ks => (∃ (t : Addr) (ot : Obj) (tq tm : Tok) (nt : Nat), v = .ref t ∧ (t, ot) ∈ ls ∧ ot.cls = .type "tuple" ∧ ot.data = .seq #[.int k tq, .int (f k) tm] nt) ∧ HeldT f ls vs ks
  | _, _ => False
theorem HeldT.more {f : Int → Int} {ls ls' : List (Addr × Obj)} (hs : ∀ p ∈ ls, p ∈ ls') : ∀ {vs : List Value} {ks : List Int}, HeldT f ls vs ks → HeldT f ls' vs ks
  | [], [], _ => trivial
  | _ :: _, _ :: _, ⟨⟨t, ot, tq, tm, nt, e, hm, r1⟩, r⟩ => ⟨⟨t, ot, tq, tm, nt, e, hs _ hm, r1⟩, HeldT.more hs r⟩
  | [], _ :: _, h => nomatch h
  | _ :: _, [], h => nomatch h
theorem HeldT.snoc {f : Int → Int} {ls : List (Addr × Obj)} {v : Value} {k : Int} (h : ∃ (t : Addr) (ot : Obj) (tq tm : Tok) (nt : Nat), v = .ref t ∧ (t, ot) ∈ ls ∧ ot.cls = .type "tuple" ∧ ot.data = .seq #[.int k tq, .int (f k) tm] nt) : ∀ {vs : List Value} {ks : List Int}, HeldT f ls vs ks → HeldT f ls (vs ++ [v]) (ks ++ [k])
  | [], [], _ => ⟨h, trivial⟩
  | _ :: _, _ :: _, ⟨x, r⟩ => ⟨x, HeldT.snoc h r⟩
  | [], _ :: _, h => nomatch h
  | _ :: _, [], h => nomatch h
theorem HeldT.len {f : Int → Int} {ls : List (Addr × Obj)} : ∀ {vs : List Value} {ks : List Int}, HeldT f ls vs ks → vs.length = ks.length
  | [], [], _ => rfl
  | _ :: _, _ :: _, ⟨_, r⟩ => by simp [HeldT.len r]
  | [], _ :: _, h => nomatch h
  | _ :: _, [], h => nomatch h
theorem HeldT.get {f : Int → Int} {ls : List (Addr × Obj)} : ∀ {vs : List Value} {ks : List Int} {i : Nat} {v : Value}, HeldT f ls vs ks → vs[i]? = some v → ∃ (t : Addr) (ot : Obj) (tq tm : Tok) (nt : Nat), v = .ref t ∧ (t, ot) ∈ ls ∧ ot.cls = .type "tuple" ∧ ot.data = .seq #[.int (ks.getD i 0) tq, .int (f (ks.getD i 0)) tm] nt
  | _ :: _, k :: ks, 0, _, ⟨x, _⟩, h => by simp at h; subst h; simpa using x
  | _ :: _, k :: ks, i + 1, _, ⟨_, r⟩, h => by
    have := HeldT.get (i := i) r (by simpa using h)
    simpa using this
  | [], _, _, _, _, h => by simp at h
  | _ :: _, [], _, _, h, _ => nomatch h
end
-- L18
section
set_option maxRecDepth 100000
set_option maxHeartbeats 1000000
section
variable {w : World} {d u : Nat} {f : Option (List Env)} {g : Option (List Code)} {s : Shared} {E Q : Value → Shared → Prop} {mean : ExcName → Option Value} {mg mb : Str → Option Value}

theorem mem_mid {pre tl : List (Addr × Obj)} {x : Addr × Obj} : ∀ q ∈ pre ++ x :: tl, q ∈ x :: (pre ++ tl) := fun q hq => by
  rcases List.mem_append.mp hq with h | h
  · exact List.mem_cons_of_mem _ (List.mem_append_left _ h)
  · rcases List.mem_cons.mp h with h | h
    · rw [h]; exact List.mem_cons_self
    · exact List.mem_cons_of_mem _ (List.mem_append_right _ h)
theorem off_mid {I C D T : Addr} {o : Obj} {tl : List (Addr × Obj)} : ∀ {pre : List (Addr × Obj)}, LCg.Off3 I C D (pre ++ tl) → ((@Ne Nat T I) ∧ (@Ne Nat T C) ∧ (@Ne Nat T D)) → LCg.Off3 I C D (pre ++ (T, o) :: tl)
  | [], h, h2 => ⟨h2, h⟩
  | _ :: _, h, h2 => ⟨h.1, off_mid h.2 h2⟩
noncomputable def moreF (xs ys : List Int) (k : Int) : Int := (xs.count k : Int) - (ys.count k : Int)
noncomputable def J11 (prog : Program) (w : World) (L : Addr) (nl : List (Str × Value)) (news : List (Addr × Obj)) : Prop :=
  ∀ P : List (Str × Value) → List (Addr × Obj) → Prop, (∀ (a b i x p mi un lo ga wa sh ov co : Addr) (va vb vx mv uv lv gv sv ovv cv : List Value) (na nb nx nm nu nlo nga nwa nsh nov nco : Nat) (xs ys ws ls gs ks : List Int) (op : Obj) (kvs : List (Int × Value)) (cs tl : List (Addr × Obj)),
    Cells L (some (.ref a)) (some (.ref b)) (some (.ref i)) (some (.ref x)) (some (.ref p)) cs → IntsAre va xs → IntsAre vb ys → Num xs → Num ys → IntsAre vx ws → Wid ws → op.IsDictOf (intKind prog w) kvs → Dk ws (xs ++ ys) kvs → (p == sysModules) = false → StrsAre mv ((ls.map (pathN ws)).map S) → StrsAre uv ((gs.map (pathN ws)).map S) → IntsAre lv ls → ls.Sublist xs → IntsAre gv gs → gs.Sublist ys → StrsAre sv (((uldI xs.reverse ys).1.map (pathN ws)).map S) → StrsAre ovv (((uldI xs.reverse ys).2.map (pathN ws)).map S) → ks.Pairwise (· < ·) → (∀ k, k ∈ ks ↔ k ∈ xs ++ ys) → ks.length ≤ 28 → HeldT (moreF xs ys) tl cv ks → P ([("counted", .ref co), ("short", .ref sh), ("over", .ref ov), ("wanted", .ref wa), ("gained", .ref ga), ("lost", .ref lo), ("missing", .ref mi), ("unexpected", .ref un)] : List (Str × Value)) ((co, listOf cv.toArray nco) :: (sh, listOf sv.toArray nsh) :: (wa, listOf (List.toArray []) nwa) :: (ov, listOf ovv.toArray nov) :: (ga, listOf gv.toArray nga) :: (lo, listOf lv.toArray nlo) :: (mi, listOf mv.toArray nm) :: (un, listOf uv.toArray nu) :: (p, op) :: (x, listOf vx.toArray nx) :: (a, listOf va.toArray na) :: (b, listOf vb.toArray nb) :: (cs ++ tl))) → P nl news
theorem st16 {se : Shared} (hKp : Kept se s) {H : Heap} {L fa : Addr} {dc : Value} {nl : List (Str × Value)} {news : List (Addr × Obj)} {uf : Str → Option Value} (X : (Mine.hd.heap_39 w.params).In H) (T : Top Mine.hd.view_39 (looseW Mine.hd.view_39 []) mean mg mb H)
  (J : J10 Challenge.rw_pd0146_01.row.prog w L nl news) (F : Fr H L s.heap (locsOf nl uf)) (N : News H L s.heap news) :
  wpAny (model Challenge.rw_pd0146_01.row.prog w) (callerA.deeper (lawEnv lawScope L fa dc)) (exec (lawAt 16) (lawEnv lawScope L fa dc)) (AfterG se H L (J11 Challenge.rw_pd0146_01.row.prog w L)) E s := by
  revert F N
  apply J
  clear J
  intro a b i x p mi un lo ga wa sh ov va vb vx mv uv lv gv sv ovv na nb nx nm nu nlo nga nwa nsh nov xs ys ws ls gs op kvs cs1 hcs hva hvb hX hY hvx hW hop hdk hlo hmv huv hlv hls hgv hgs hsv hov
  apply hcs
  clear hcs
  intro c1 c2 c3 c4 c5 d1 d2 d3 d4 d5 F N
  generalize hsc : lawScope = sc
  conv at hsc => lhs; whnf
  subst hsc
  generalize hst : lawAt 16 = st
  conv at hst => lhs; whnf
  subst hst
  unfold lawEnv
  (repeat' (first | (k_unfold; (try dsimp only)) | (k_end; kc_close) | (k_here; (with_reducible show wpAny _ _ (exec (PySem.Stmt.Assign (_ :: _) (PySem.Expr.ListComp _ _ _ _) _) _) _ _ _); refine stopHere ?_) | walk1 | (dsimp only; walk1) | (leave1; (try dsimp only))))
  unfold Stop
  have hx14 := hX.hi
  have hy14 := hY.hi
  have hla : va.length = xs.length := hva.length
  have hlb : vb.length = ys.length := hvb.length
  have hkl : kvs.length ≤ 28 := by
    have := hdk.len
    rw [List.length_append] at this; lia
  refine' Assign_ListComp_W (h₀ := H) (cl := ?cla) F rfl ?ga1 ?ga2 ?ga3 ?ga4 ?ga5 ?ga6 ?ga7 ?ga8 ?_ (by intro _; rfl)
  case ga1 => rfl
  case ga2 => rfl
  case ga3 => decide
  case ga4 => rfl
  case ga5 => decide
  case ga6 => rfl
  case ga7 => rfl
  case ga8 => rfl
  (repeat' (first | (k_unfold; (try dsimp only)) | (k_end; kc_close) | (k_here; (with_reducible show wpAny _ _ (call (Value.builtin "sorted") _) _ _ _); refine stopHere ?_) | walk1 | (dsimp only; walk1) | (leave1; (try dsimp only))))
  unfold Stop
  refine sorted_keys rfl F N (by k_mem) hop hlo hdk.nodup (by lia) ?_
  intro B nB h1 tk1 kv ks F N hnB hkv hrise hmem hkl2
  have hkvl : kv.length = ks.length := hkv.length
  refine srcList rfl F N (its := kv) (c := nB) (by k_mem) (by rw [sizeLine_eq]; lia) fun g1 => ?_
  refine compRest_ind (fun i z9 nw => ∃ tl, nw = (B, W.listOf kv.toArray nB) :: (sh, W.listOf sv.toArray nsh) :: (wa, W.listOf (List.toArray []) nwa) :: (ov, W.listOf ovv.toArray nov) :: (ga, W.listOf gv.toArray nga) :: (lo, W.listOf lv.toArray nlo) :: (mi, W.listOf mv.toArray nm) :: (un, W.listOf uv.toArray nu) :: (p, op) :: (x, W.listOf vx.toArray nx) :: (a, W.listOf va.toArray na) :: (b, W.listOf vb.toArray nb) :: (L + 1, c1) :: (L + 1 + 1, c2) :: (L + 1 + 1 + 1, c3) :: (L + 1 + 1 + 1 + 1, c4) :: (L + 1 + 1 + 1 + 1 + 1, c5) :: tl ∧ HeldT (moreF xs ys) tl z9 (ks.take i)) ?ea ?_ _ 0 [] _ (by rw [Nat.zero_add]) ⟨[], rfl, trivial⟩
  case ea =>
    (intro j us _ hj; intro zqi; refine qE1A2 zqi fun tl zqr1 hus => ?_; clear zqi; subst zqr1; intro v I oI C oC D m₂ h tk E' hv hC hm F N off nne)
    (refine qE2A2 (ints_item hkv hv) fun k t zqr2 hk => ?_; subst zqr2)
    k_steps
    (rename Fr _ _ _ _ => kF)
    (rename News _ _ _ _ => kN)
    (rename _ < _ ∧ _ => kl)
    (rename Addr => T9)
    refine LCg.CompEnd.intro kF kN _ (mem_mid (pre := [(I, oI), (C, oC), (D, LCg.lst us), (B, W.listOf kv.toArray nB), (sh, W.listOf sv.toArray nsh), (wa, W.listOf (List.toArray []) nwa), (ov, W.listOf ovv.toArray nov), (ga, W.listOf gv.toArray nga), (lo, W.listOf lv.toArray nlo), (mi, W.listOf mv.toArray nm), (un, W.listOf uv.toArray nu), (p, op), (x, W.listOf vx.toArray nx), (a, W.listOf va.toArray na), (b, W.listOf vb.toArray nb), (L + 1, c1), (L + 1 + 1, c2), (L + 1 + 1 + 1, c3), (L + 1 + 1 + 1 + 1, c4), (L + 1 + 1 + 1 + 1 + 1, c5)])) (off_mid (pre := [(B, W.listOf kv.toArray nB), (sh, W.listOf sv.toArray nsh), (wa, W.listOf (List.toArray []) nwa), (ov, W.listOf ovv.toArray nov), (ga, W.listOf gv.toArray nga), (lo, W.listOf lv.toArray nlo), (mi, W.listOf mv.toArray nm), (un, W.listOf uv.toArray nu), (p, op), (x, W.listOf vx.toArray nx), (a, W.listOf va.toArray na), (b, W.listOf vb.toArray nb), (L + 1, c1), (L + 1 + 1, c2), (L + 1 + 1 + 1, c3), (L + 1 + 1 + 1 + 1, c4), (L + 1 + 1 + 1 + 1 + 1, c5)]) off ⟨Nat.ne_of_gt kl.1, Nat.ne_of_gt kl.2.1, Nat.ne_of_gt kl.2.2.1⟩) (.head _) ⟨_, rfl, ?_⟩
    rw [List.take_add_one, hk]
    exact (hus.more fun q hq => List.mem_cons_of_mem _ hq).snoc ⟨T9, _, _, _, _, rfl, .head _, rfl, rfl⟩
  (intro us _; intro zqi; refine qE1A2 zqi fun tl zqr1 hus => ?_; clear zqi; subst zqr1; intro D1 h2 tk2 F N off1)
  rw [hkvl, List.take_length] at hus
  k_steps
  refine ⟨rfl, hKp, _, _, _, F, ?ag, ?sb, (fun _ k => k a b i x p mi un lo ga wa sh ov D1 va vb vx mv uv lv gv sv ovv us na nb nx nm nu nlo nga nwa nsh nov us.length xs ys ws ls gs ks op kvs _ tl (fun _ k => k _ _ _ _ _ d1 d2 d3 d4 d5) hva hvb hX hY hvx hW hop hdk hlo hmv huv hlv hls hgv hgs hsv hov hrise (fun k => (hmem k).trans (hdk.keys k)) (by lia) hus)⟩
  case ag => (first | exact agr (by with_unfolding_all rfl) | (refine ⟨?_, ?_, ?_, ?_, ?_, ?_, ?_, ?_, trivial⟩ <;> with_unfolding_all rfl))
  case sb =>
    intro q hq
    refine N q ?_
    rcases List.mem_cons.mp hq with e | hq
    · rw [e]; exact List.mem_cons_self
    · exact List.mem_cons_of_mem _ (List.mem_cons_of_mem _ hq)
end
end
-- B9
section
open PyProof.Rows.LCg
set_option maxRecDepth 100000
set_option maxHeartbeats 3200000
theorem mark_self {A : Around} (hh : A.handled = none) : A.mark none = A := by
  cases A; cases hh; rfl
section
variable {prog : Program} {w : World} {A : Around} {E : Value → Shared → Prop} {s : Shared} {R : Result → Shared → Prop}
theorem compTurn_two0 (elt tgt iter tgt2 iter2 : PySem.Expr) (scope : Scope) (pos : Pos) (it acc : Value) (env : Env) :
    compTurn (.ListComp elt [⟨tgt, iter, [], 0⟩, ⟨tgt2, iter2, [], 0⟩] scope pos) 0 it acc env = (standAt iter.pos >>= fun _ => pyNext it >>= fun r => match r with
      | none => pure (.done .next)
      | some v => letOwnedTupleGo tgt it v >>= fun _ => assign tgt env v >>= fun _ =>
        eval iter2 env >>= fun x => standAt iter2.pos >>= fun _ => foldedSetIterable iter2 env x >>= fun x => holding [x] (pyIter x) >>= fun i2 =>
          runOwn (.compStart (.ListComp elt [⟨tgt, iter, [], 0⟩, ⟨tgt2, iter2, [], 0⟩] scope pos) 1 i2 acc env) env >>= fun _ =>
          again (.compLoop (.ListComp elt [⟨tgt, iter, [], 0⟩, ⟨tgt2, iter2, [], 0⟩] scope pos) 0 it acc env)) := by rfl
theorem compTurn_two1 (elt tgt iter tgt2 iter2 : PySem.Expr) (scope : Scope) (pos : Pos) (it acc : Value) (env : Env) :
    compTurn (.ListComp elt [⟨tgt, iter, [], 0⟩, ⟨tgt2, iter2, [], 0⟩] scope pos) 1 it acc env = (standAt iter2.pos >>= fun _ => pyNext it >>= fun r => match r with
      | none => pure (.done .next)
      | some v => letOwnedTupleGo tgt2 it v >>= fun _ => assign tgt2 env v >>= fun _ =>
        (eval elt env >>= fun x => call (.builtin "list.append") [acc, x] >>= fun _ => pure ()) >>= fun _ =>
          again (.compLoop (.ListComp elt [⟨tgt, iter, [], 0⟩, ⟨tgt2, iter2, [], 0⟩] scope pos) 1 it acc env)) := by rfl
theorem loop_two1 {elt tgt iter iter2 : PySem.Expr} {x₃ : Str} {p₃ : Pos} {scope : Scope} {pos : Pos} {it acc : Value} {env : Env} (I : Nat → Shared → Prop)
    (turn : ∀ n s, I n s → wpAny (model prog w) A (pyNext it) (fun r s₁ => match r with
      | none => R (.ok .next) s₁
      | some v => wpAny (model prog w) A (assign (.Name x₃ p₃) env v) (fun _ s₂ =>
          wpAny (model prog w) A (eval elt env) (fun x s₄ =>
            wpAny (model prog w) A (call (.builtin "list.append") [acc, x]) (fun _ s₅ => ∃ m, m < n ∧ I m s₅) (notedBy (model prog w) A env fun e s' => R (.error e) s') s₄) (notedBy (model prog w) A env fun e s' => R (.error e) s') s₂)
          (notedBy (model prog w) A env fun e s' => R (.error e) s') s₁) (notedBy (model prog w) A env fun e s' => R (.error e) s') s)
    (n : Nat) (h : I n s) : codeAny (model prog w) A (.compLoop (.ListComp elt [⟨tgt, iter, [], 0⟩, ⟨.Name x₃ p₃, iter2, [], 0⟩] scope pos) 1 it acc env) R s := by
  refine codeAny_loop rfl I (fun n s hI => ?_) n h
  show wpAny (model prog w) A ((compTurn (.ListComp elt [⟨tgt, iter, [], 0⟩, ⟨.Name x₃ p₃, iter2, [], 0⟩] scope pos) 1 it acc env).onRaise (fun x => do noteFrame x env; theTreesLotGoes x)) _ _ s
  refine wpAny_noted ?_
  rw [compTurn_two1]
  refine wpAny_bind (wpAny_standAt (wpAny_bind (wpAny_mono (turn n s hI) (fun r s₁ h₁ => ?_) fun _ _ h' => h')))
  cases r with
  | none => exact wpAny_pure h₁
  | some v =>
    refine wpAny_bind (wpAny_of_eq (show letOwnedTupleGo (.Name x₃ p₃) it v = pure () from rfl) ?_)
    exact wpAny_bind (wpAny_mono h₁ (fun _ s₂ h₂ => wpAny_bind (wpAny_bind (wpAny_mono h₂ (fun x s₃ h₃ => wpAny_bind (wpAny_mono h₃
      (fun _ s₄ h₄ => wpAny_pure (wpAny_pure ⟨rfl, h₄⟩)) fun _ _ h' => h')) fun _ _ h' => h'))) fun _ _ h' => h')
theorem loop_two0 {elt tgt iter tgt2 iter2 : PySem.Expr} {scope : Scope} {pos : Pos} {it acc : Value} {env : Env} (hh : A.handled = none) (hf : ∀ x, foldedSetIterable iter2 env x = pure x) (I : Nat → Shared → Prop)
    (turn : ∀ n s, I n s → wpAny (model prog w) A (pyNext it) (fun r s₁ => match r with
      | none => R (.ok .next) s₁
      | some v => wpAny (model prog w) A (letOwnedTupleGo tgt it v) (fun _ s₀ => wpAny (model prog w) A (assign tgt env v) (fun _ s₂ =>
          wpAny (model prog w) A (eval iter2 env) (fun x s₃ => wpAny (model prog w) A (pyIter x) (fun i2 s₄ =>
            codeAny (model prog w) A (.compStart (.ListComp elt [⟨tgt, iter, [], 0⟩, ⟨tgt2, iter2, [], 0⟩] scope pos) 1 i2 acc env) (fun r s' => match r with
              | .ok _ => ∃ m, m < n ∧ I m s'
              | .error e => cameBackBy (model prog w) A env (notedBy (model prog w) A env fun e s' => R (.error e) s') e s') s₄) (notedBy (model prog w) A env fun e s' => R (.error e) s') s₃)
          (notedBy (model prog w) A env fun e s' => R (.error e) s') s₂) (notedBy (model prog w) A env fun e s' => R (.error e) s') s₀) (notedBy (model prog w) A env fun e s' => R (.error e) s') s₁) (notedBy (model prog w) A env fun e s' => R (.error e) s') s)
    (n : Nat) (h : I n s) : codeAny (model prog w) A (.compLoop (.ListComp elt [⟨tgt, iter, [], 0⟩, ⟨tgt2, iter2, [], 0⟩] scope pos) 0 it acc env) R s := by
  refine codeAny_loop rfl I (fun n s hI => ?_) n h
  show wpAny (model prog w) A ((compTurn (.ListComp elt [⟨tgt, iter, [], 0⟩, ⟨tgt2, iter2, [], 0⟩] scope pos) 0 it acc env).onRaise (fun x => do noteFrame x env; theTreesLotGoes x)) _ _ s
  refine wpAny_noted ?_
  rw [compTurn_two0]
  refine wpAny_bind (wpAny_standAt (wpAny_bind (wpAny_mono (turn n s hI) (fun r s₁ h₁ => ?_) fun _ _ h' => h')))
  cases r with
  | none => exact wpAny_pure h₁
  | some v =>
    refine wpAny_bind (wpAny_mono h₁ (fun _ s₀ h₀' => ?_) fun _ _ h' => h')
    refine wpAny_bind (wpAny_mono h₀' (fun _ s₂ h₂ => ?_) fun _ _ h' => h')
    refine wpAny_bind (wpAny_mono h₂ (fun x s₃ h₃ => ?_) fun _ _ h' => h')
    refine wpAny_bind (wpAny_standAt (wpAny_bind (wpAny_of_eq (hf x) (wpAny_bind (wpAny_holding (wpAny_mono h₃ (fun i2 s₄ h₄ => ?_) fun _ _ h' => h'))))))
    refine wpAny_bind (wpAny_runOwn ?_)
    rw [mark_self hh]
    refine codeAny_mono h₄ fun r s' hr => ?_
    cases r with
    | ok f => exact wpAny_pure ⟨rfl, hr⟩
    | error e => exact hr
theorem start_two1 {elt tgt iter tgt2 iter2 : PySem.Expr} {scope : Scope} {pos : Pos} {it acc : Value} {env : Env}
    (h0 : codeAny (model prog w) A (.compLoop (.ListComp elt [⟨tgt, iter, [], 0⟩, ⟨tgt2, iter2, [], 0⟩] scope pos) 1 it acc env) R s)
    (h : wpAny (model prog w) A (pyIter it) (fun it' s' => codeAny (model prog w) A (.compLoop (.ListComp elt [⟨tgt, iter, [], 0⟩, ⟨tgt2, iter2, [], 0⟩] scope pos) 1 it' acc env) R s')
      (notedBy (model prog w) A env fun x s' => R (.error x) s') s) :
    codeAny (model prog w) A (.compStart (.ListComp elt [⟨tgt, iter, [], 0⟩, ⟨tgt2, iter2, [], 0⟩] scope pos) 1 it acc env) R s := by
  refine codeAny_of_tree ?_
  show wpAny (model prog w) A ((compStart (.ListComp elt [⟨tgt, iter, [], 0⟩, ⟨tgt2, iter2, [], 0⟩] scope pos) 1 it acc env).onRaise (fun x => do noteFrame x env; standAt theWindowsPlace)) _ _ s
  refine wpAny_notedAt ?_
  unfold compStart
  show wpAny _ _ (ask >>= _) _ _ s
  refine wpAny_bind (wpAny_askSetting (wpAny_ite ?_))
  split
  · first
      | exact wpAny_bind (wpAny_pure (wpAny_pure (And.intro rfl h0)))
      | exact wpAny_pure (And.intro rfl h0)
  · first
      | exact wpAny_bind (wpAny_rule (wpAny_bind (wpAny_standAt (wpAny_bind (wpAny_mono h (fun it' s' h' => wpAny_pure (And.intro rfl h')) fun _ _ x => x)))))
      | (refine wpAny_bind (wpAny_rule ?_); show wpAny _ _ (standAt iter2.pos >>= _) _ _ s; exact wpAny_bind (wpAny_standAt (wpAny_bind (wpAny_mono h (fun it' s' h' => wpAny_pure (And.intro rfl h')) fun _ _ x => x))))
end
section
variable {prog : Program} {w : World} {A : Around} {E : Value → Shared → Prop} {s : Shared}
variable {h₀ : Heap} {L : Addr} {m : Str → Option Value} {env : Env}
noncomputable def L2O (s : Shared) (h₀ : Heap) (L I t' C D : Addr) (n : Nat) (m : Str → Option Value) (news : List (Addr × Obj)) (J : Nat → Nat → List Value → Prop) (k : Nat) (s' : Shared) : Prop :=
  ∀ P : Nat → Shared → Prop, (∀ (h' : Heap) (tk i : Nat) (m' : Str → Option Value) (ys : List Value), i ≤ n → h'.IsListIter I t' i → Fr h₀ L h' m → h'.Ns C m' → News h₀ L h' news → h'.get? D = some (lst ys) → J i 0 ys → P (n + 1 - i) { s with heap := h', toks := tk }) → P k s'
theorem L2O.mk {s : Shared} {h₀ : Heap} {L I t' C D : Addr} {n : Nat} {m : Str → Option Value} {news : List (Addr × Obj)} {J : Nat → Nat → List Value → Prop} {h' : Heap} {tk i : Nat} {m' : Str → Option Value} {ys : List Value}
    (a : i ≤ n) (b : h'.IsListIter I t' i) (c : Fr h₀ L h' m) (d : h'.Ns C m') (e : News h₀ L h' news) (f : h'.get? D = some (lst ys)) (g : J i 0 ys) : L2O s h₀ L I t' C D n m news J (n + 1 - i) { s with heap := h', toks := tk } := fun _ q => q h' tk i m' ys a b c d e f g
noncomputable def L2I (s : Shared) (h₀ : Heap) (L I I₂ C D : Addr) (n : Nat) (oI : Obj) (x : Str) (v : Value) (m : Str → Option Value) (news : List (Addr × Obj)) (J : Nat → List Value → Prop) (k : Nat) (s' : Shared) : Prop :=
  ∀ P : Nat → Shared → Prop, (∀ (h' : Heap) (tk j : Nat) (m' : Str → Option Value) (ys : List Value), j ≤ n → IsRangeIter h' I₂ (0 + (j : Nat) * 1) ((n : Int) - (j : Nat)) 1 → h'.get? I = some oI → Fr h₀ L h' m → h'.Ns C m' → m' x = some v → News h₀ L h' news → h'.get? D = some (lst ys) → J j ys → P (n + 1 - j) { s with heap := h', toks := tk }) → P k s'
theorem L2I.mk {s : Shared} {h₀ : Heap} {L I I₂ C D : Addr} {n : Nat} {oI : Obj} {x : Str} {v : Value} {m : Str → Option Value} {news : List (Addr × Obj)} {J : Nat → List Value → Prop} {h' : Heap} {tk j : Nat} {m' : Str → Option Value} {ys : List Value}
    (a : j ≤ n) (b : IsRangeIter h' I₂ (0 + (j : Nat) * 1) ((n : Int) - (j : Nat)) 1) (b2 : h'.get? I = some oI) (c : Fr h₀ L h' m) (d : h'.Ns C m') (d2 : m' x = some v) (e : News h₀ L h' news) (f : h'.get? D = some (lst ys)) (g : J j ys) : L2I s h₀ L I I₂ C D n oI x v m news J (n + 1 - j) { s with heap := h', toks := tk } := fun _ q => q h' tk j m' ys a b b2 c d d2 e f g
theorem ListComp_2 (J : Nat → Nat → List Value → Prop) (kq mo cnt : Nat → Int) {elt iter iter2 : PySem.Expr} {x x₂ x₃ : Str} {px px₂ p₃ tp : Pos} {kt} {scope : Scope} {cl : List (Str × Addr)} {pos : Pos} {Q : Value → Shared → Prop} {its : List Value} {t' : Addr} {c : Nat} {news : List (Addr × Obj)}
    (hclos : closureFor scope env = pure cl) (hcell : ∀ y ∈ scope.names, y.2 ≠ .cell) (hkind : scope.kind = .function)
    (hnames : ∀ y ∈ scope.names, y.2 = .local → scope.names.lookup y.1 = some .local) (hx : scope.names.lookup x = some .local) (hx₂ : scope.names.lookup x₂ = some .local) (hx₃ : scope.names.lookup x₃ = some .local) (hxx : x ≠ x₂) (hx3 : x ≠ x₃)
    (hf : ∀ C v, foldedSetIterable iter2 (compEnvC scope cl C env) v = pure v)
    (hh : A.handled = none) (h : ∀ Q' : Value → Shared → Prop, (∀ s', (∃ g k, s' = { s with heap := g, toks := k }) → Fr h₀ L s'.heap m → News h₀ L s'.heap news → Q' (.ref t') s') → wpAny (model prog w) A (eval iter env) Q' E s)
    (hm : (t', listOf its.toArray c) ∈ news) (hsz : its.length ≤ 1000) (hcs : ∀ i, i < its.length → -1000 ≤ cnt i ∧ cnt i ≤ 1000)
    (hits : ∀ i v, its[i]? = some v → ∃ (t : Addr) (ot : Obj) (tq tm : Tok) (nt : Nat), v = .ref t ∧ (t, ot) ∈ news ∧ ot.cls = .type "tuple" ∧ ot.data = .seq #[.int (kq i) tq, .int (mo i) tm] nt)
    (hin : ∀ (i : Nat) I oI C oC D oD m₂ h tk tq tm (E' : Value → Shared → Prop), i < its.length → NsObj oC m₂ → m₂ x = some (.int (kq i) tq) → m₂ x₂ = some (.int (mo i) tm) → Fr h₀ L h m → News h₀ L h ((I, oI) :: (C, oC) :: (D, oD) :: news) → Off3 I C D news → ((@Ne Nat I C) ∧ (@Ne Nat I D) ∧ (@Ne Nat C D)) →
      wpAny (model prog w) A (eval iter2 (compEnvC scope cl C env)) (fun xv s' => ∃ h' tk' r t u v, s' = { s with heap := h', toks := tk' } ∧ xv = .ref r ∧ IsRange h' r 0 (cnt i) 1 t u v ∧ Fr h₀ L h' m ∧ News h₀ L h' ((I, oI) :: (C, oC) :: (D, oD) :: news)) E' { s with heap := h, toks := tk })
    (hJ0 : J 0 0 []) (hJn : ∀ i ys, i < its.length → J i (cnt i).toNat ys → J (i + 1) 0 ys) (hJl : ∀ i j ys, J i j ys → ys.length ≤ sizeLine)
    (helt : ∀ (i j : Nat) ys I₂ o₂ I oI C oC D oD m₂ h tk tq (E' : Value → Shared → Prop), i < its.length → j < (cnt i).toNat → J i j ys → NsObj oC m₂ → m₂ x = some (.int (kq i) tq) → Fr h₀ L h m → News h₀ L h ((I₂, o₂) :: (I, oI) :: (C, oC) :: (D, oD) :: news) →
      wpAny (model prog w) A (eval elt (compEnvC scope cl C env)) (fun y s' => (∃ h' tk', s' = { s with heap := h', toks := tk' } ∧ Fr h₀ L h' m ∧ News h₀ L h' ((I₂, o₂) :: (I, oI) :: (C, oC) :: (D, oD) :: news)) ∧ J i (j + 1) (ys ++ [y])) E' { s with heap := h, toks := tk })
    (hQ : ∀ D ys h tk, Fr h₀ L h m → News h₀ L h ((D, lst ys) :: news) → Off1 D news → J its.length 0 ys → Q (.ref D) { s with heap := h, toks := tk })
    (hs : ∀ x, foldedSetIterable iter env x = pure x) :
    wpAny (model prog w) A (eval (.ListComp elt [⟨.Tuple [.Name x px, .Name x₂ px₂] kt tp, iter, [], 0⟩, ⟨.Name x₃ p₃, iter2, [], 0⟩] scope pos) env) Q E s := by
  rw [eval_ListComp]
  refine wpAny_comprehension_free (use := none) rfl hs hclos hkind hnames (h _ ?_)
  (intro s₀; intro zqi; refine qE2A1 zqi fun g0 k0 zqr2 => ?_; clear zqi; subst zqr2; intro F N)
  dsimp only at F N
  have ht : g0.IsList t' its.toArray := ⟨_, (N _ hm).1, rfl, _, rfl⟩
  have hlt : t' < g0.objs.size := Heap.lt_size (N _ hm).1
  refine wpAny_pyIter_list ht ?_
  dsimp only
  generalize hI : g0.objs.size = I at hlt ⊢
  have hIL : L ≠ I := by rw [← hI]; exact Nat.ne_of_lt F.ns.lt
  have hI₀ : h₀.get? I = none := by rw [← hI]; exact next_is_new F
  have offI : ∀ p ∈ news, p.1 ≠ I := fun p hp => by rw [← hI]; exact Nat.ne_of_lt (Heap.lt_size (N p hp).1)
  have hit : (g0.push { cls := .type "list_iterator", data := .fields #[.ref t', .int 0 0] }).IsListIter I t' 0 := ⟨_, by rw [← hI]; exact Heap.get?_push_size _ rfl, rfl, rfl⟩
  have F1 := F.push { cls := .type "list_iterator", data := .fields #[.ref t', .int 0 0] }
  have N1 : News h₀ L (g0.push { cls := .type "list_iterator", data := .fields #[.ref t', .int 0 0] }) news := fun p hp => ⟨Heap.get?_push_of_some _ (N p hp).1, (N p hp).2⟩
  have hI1 : I < (g0.push { cls := .type "list_iterator", data := .fields #[.ref t', .int 0 0] }).objs.size := by rw [Heap.size_push, hI]; exact Nat.lt_succ_self _
  generalize g0.push { cls := .type "list_iterator", data := .fields #[.ref t', .int 0 0] } = H1 at hit F1 N1 hI1 ⊢
  refine wpAny_newObj_type ?_
  refine wpAny_newFunctionEnv hcell (by intro y hy; simp at hy) (fun h₁ hns₁ hsb₁ => ?_) hkind
  dsimp only at hns₁ hsb₁ ⊢
  have hget0 : (H1.push { cls := .type "list", dict := none, data := .seq ([] : List Value).toArray }).get? H1.objs.size = some (lst []) := Heap.get?_push_size _ rfl
  have hz2 : (H1.push { cls := .type "list", dict := none, data := .seq ([] : List Value).toArray }).objs.size = H1.objs.size + 1 := Heap.size_push _ _
  have hk2 : ∀ b o, H1.get? b = some o → (H1.push { cls := .type "list", dict := none, data := .seq ([] : List Value).toArray }).get? b = some o := fun b o e => Heap.get?_push_of_some _ e
  generalize H1.push { cls := .type "list", dict := none, data := .seq ([] : List Value).toArray } = H2 at hns₁ hsb₁ hget0 hz2 hk2 ⊢
  generalize hDe : H1.objs.size = D at hget0 hz2 hI1 ⊢
  generalize hCe : H2.objs.size = C at hns₁ hsb₁ hz2 ⊢
  have hDC : D ≠ C := by rw [hz2]; exact Nat.ne_of_lt (Nat.lt_succ_self _)
  have hID : I ≠ D := Nat.ne_of_lt hI1
  have hIC : I ≠ C := by rw [hz2]; exact Nat.ne_of_lt (Nat.lt_succ_of_lt hI1)
  have low : ∀ b o, H1.get? b = some o → b ≠ D ∧ b ≠ C := fun b o e => by
    have := Heap.lt_size e
    rw [hDe] at this
    exact ⟨Nat.ne_of_lt this, by rw [hz2]; exact Nat.ne_of_lt (Nat.lt_succ_of_lt this)⟩
  have old : ∀ b o, H1.get? b = some o → h₁.get? b = some o := fun b o e => hsb₁.extBut b o (low b o e).2 (Heap.get?_push_of_some _ (hk2 b o e))
  (refine qE3A2 (F1.ns) fun oL _ _ hL _ => ?_)
  have hDL : D ≠ L := (low _ _ hL).1.symm
  have hCL : C ≠ L := (low _ _ hL).2.symm
  have fresh₀ : ∀ a, D ≤ a → h₀.get? a = none := fun a ha => by
    cases e : h₀.get? a with
    | none => rfl
    | some o' =>
      have := Heap.lt_size (F1.keep a o' e)
      rw [hDe] at this
      exact absurd this (Nat.not_lt.mpr ha)
  have hD₀ : h₀.get? D = none := fresh₀ _ (Nat.le_refl _)
  have hC₀ : h₀.get? C = none := fresh₀ _ (by rw [hz2]; exact Nat.le_succ _)
  have off₀ : Off3 I C D news := Off3.of fun p hp => ⟨offI p hp, (low _ _ (N1 p hp).1).2, (low _ _ (N1 p hp).1).1⟩
  have off3 := off₀.mem
  have hS1 : h₁.get? D = some (lst []) := hsb₁.extBut _ _ hDC (Heap.get?_push_of_some _ hget0)
  have loop : ∀ s₃ : Shared, s₃ = { s with heap := h₁, toks := k0 + ([] : List (Str × Value)).length } →
      codeAny (model prog w) A (.compLoop (.ListComp elt [⟨.Tuple [.Name x px, .Name x₂ px₂] kt tp, iter, [], 0⟩, ⟨.Name x₃ p₃, iter2, [], 0⟩] scope pos) 0 (.ref I) (.ref D) (compEnvC scope cl C env))
        (compPost (model prog w) A E none Q (.ref D) C) s₃ := by
    rintro s₃ rfl
    refine loop_two0 hh (hf C)
      (L2O s h₀ L I t' C D its.length m news J) ?_ (its.length + 1)
      (L2O.mk (ys := []) (Nat.zero_le _) (hit.at fun o e => old _ _ e) (F1.keeps old) hns₁ (N1.grown old) hS1 hJ0)
    intro k s' J9
    apply J9
    clear J9
    intro h' tk i m' ys hi hit' F' hn' N' hS' hj
    have ht' : h'.IsList t' its.toArray := ⟨_, (N' _ hm).1, rfl, _, rfl⟩
    by_cases hlt : i < its.length
    · refine wpAny_pyNext_list_item hit' ht' (x := its[i]) (by simp [hlt]) fun h₂ hit₂ hs₂ => ?_
      (refine qE5A4 (hits i its[i] (by simp [hlt])) fun t ot tq tm nt hv hmt hct hdt => ?_)
      rw [hv]
      have N₂ : News h₀ L h₂ news := fun p hp => ⟨hs₂.extBut _ _ (off3 p hp).1 (N' p hp).1, (N' p hp).2⟩
      have htup : IsTup h₂ t #[.int (kq i) tq, .int (mo i) tm] := ⟨ot, (N₂ _ hmt).1, hct, nt, hdt⟩
      refine wpAny_letOwnedTupleGo_listiter hit₂ ?_
      refine assign_Tuple_tuple hh htup rfl rfl fun h₅ he => ?_
      have he' : ∀ b o, h₂.get? b = some o → h₅.get? b = some o := fun b o e => he b o (Nat.ne_of_lt (Heap.lt_size e)) e
      refine assignInOrder_cons (wpAny_assign_Name (wpAny_storeName_local (lookup_relabel_local hx) ((hn'.sameBut hs₂ (Ne.symm hIC)).at' fun o e => he' _ o e) (fun h₆ hn₆ hs₆ => ?_) (by simp [compEnvC, relabel, hkind])))
      refine assignInOrder_cons (wpAny_assign_Name (wpAny_storeName_local (lookup_relabel_local hx₂) hn₆ (fun h₃ hn₃ hs₃ => ?_) (by simp [compEnvC, relabel, hkind])))
      refine assignInOrder_nil ?_
      (refine qE1A2 (ns_obj hn₃) fun oC heC hoC => ?_)
      have up2 : ∀ b o, b ≠ C → h₂.get? b = some o → h₃.get? b = some o := fun b o hb e => hs₃.extBut b o hb (hs₆.extBut b o hb (he' b o e))
      have up : ∀ b o, b ≠ I → b ≠ C → h'.get? b = some o → h₃.get? b = some o := fun b o hb1 hb2 e => up2 b o hb2 (hs₂.extBut b o hb1 e)
      (refine qE1A3 (id hit₂) fun oI heI r1 r2 => ?_)
      have hI3 : h₃.get? I = some oI := up2 _ _ hIC heI
      have F₃ : Fr h₀ L h₃ m := (((F'.change hs₂ (Ne.symm hIL) hI₀).keeps he').change hs₆ hCL hC₀).change hs₃ hCL hC₀
      have hD3 : h₃.get? D = some (lst ys) := up _ _ (Ne.symm hID) hDC hS'
      have N₃ : News h₀ L h₃ ((I, oI) :: (C, oC) :: (D, lst ys) :: news) := fun p hp => by
        (first | (revert p; refine alC ?_ (fun p hp => ?_)) | rcases List.mem_cons.mp hp with rfl | hp)
        · exact ⟨hI3, Ne.symm hIL, hI₀⟩
        (first | (revert p; refine alC ?_ (fun p hp => ?_)) | rcases List.mem_cons.mp hp with rfl | hp)
        · exact ⟨heC, hCL, hC₀⟩
        (first | (revert p; refine alC ?_ (fun p hp => ?_)) | rcases List.mem_cons.mp hp with rfl | hp)
        · exact ⟨hD3, hDL, hD₀⟩
        · exact ⟨up _ _ (off3 p hp).1 (off3 p hp).2.1 (N' p hp).1, (N' p hp).2⟩
      refine wpAny_mono (hin i I oI C oC D (lst ys) _ h₃ _ tq tm _ hlt hoC (by simp [hxx]) (by simp) F₃ N₃ off₀ ⟨hIC, hID, Ne.symm hDC⟩) (fun xv s₄ h₄ => ?_) fun _ _ e => e
      obtain ⟨h₄, tk₄, r, rt, ru, rv, rfl, rfl, hr, F₄, N₄⟩ := h₄
      have hc1 := hcs i hlt
      generalize hcn : cnt i = cn at hr hc1
      have hsz2 : Builtin.Range.rangeSize 0 cn 1 = ((cn.toNat : Nat) : Int) := by unfold Builtin.Range.rangeSize; simp; split <;> lia
      refine wpAny_pyIter_range hr (small_one (by lia) (by lia) (by lia) (by lia)) ?_
      rw [hsz2]
      dsimp only
      have low4 : ∀ b o, h₄.get? b = some o → b ≠ h₄.objs.size := fun b o e => Nat.ne_of_lt (Heap.lt_size e)
      have hp4 : ∀ b o, h₄.get? b = some o → (h₄.push { cls := .type "range_iterator", data := .fields #[rawInt 0, rawInt ((cn.toNat : Nat) : Int), rawInt 1] }).get? b = some o := fun b o e => Heap.get?_push_of_some _ e
      have hR4 : IsRangeIter (h₄.push { cls := .type "range_iterator", data := .fields #[rawInt 0, rawInt ((cn.toNat : Nat) : Int), rawInt 1] }) h₄.objs.size 0 ((cn.toNat : Nat) : Int) 1 := Heap.get?_push_size _ rfl
      have F5 := F₄.push { cls := .type "range_iterator", data := .fields #[rawInt 0, rawInt ((cn.toNat : Nat) : Int), rawInt 1] }
      have h₀4 : h₀.get? h₄.objs.size = none := next_is_new F₄
      have hL4 : L ≠ h₄.objs.size := Nat.ne_of_lt F₄.ns.lt
      generalize h₄.push { cls := .type "range_iterator", data := .fields #[rawInt 0, rawInt ((cn.toNat : Nat) : Int), rawInt 1] } = h₅' at hp4 hR4 F5 ⊢
      generalize h₄.objs.size = I₂ at low4 hR4 h₀4 hL4 ⊢
      have zI := (N₄ (I, oI) List.mem_cons_self).1
      have zC := (N₄ (C, oC) (List.mem_cons_of_mem _ List.mem_cons_self)).1
      have zD := (N₄ (D, lst ys) (List.mem_cons_of_mem _ (List.mem_cons_of_mem _ List.mem_cons_self))).1
      have N₄' : News h₀ L h₄ news := fun p hp => N₄ p (List.mem_cons_of_mem _ (List.mem_cons_of_mem _ (List.mem_cons_of_mem _ hp)))
      have n2I : I ≠ I₂ := low4 _ _ zI
      have n2C : C ≠ I₂ := low4 _ _ zC
      have n2D : D ≠ I₂ := low4 _ _ zD
      have off2 : ∀ p ∈ news, p.1 ≠ I₂ := fun p hp => low4 _ _ (N₄' p hp).1
      have loop1 : ∀ s₅ : Shared, s₅ = { s with heap := h₅', toks := tk₄ } → codeAny (model prog w) A (.compLoop (.ListComp elt [⟨.Tuple [.Name x px, .Name x₂ px₂] kt tp, iter, [], 0⟩, ⟨.Name x₃ p₃, iter2, [], 0⟩] scope pos) 1 (.ref I₂) (.ref D) (compEnvC scope cl C env))
          (fun r s' => match r with
            | .ok _ => ∃ q, q < its.length + 1 - i ∧ L2O s h₀ L I t' C D its.length m news J q s'
            | .error e => cameBackBy (model prog w) A (compEnvC scope cl C env) (notedBy (model prog w) A (compEnvC scope cl C env) fun e s' => compPost (model prog w) A E none Q (.ref D) C (.error e) s') e s') s₅ := by
        rintro s₅ rfl
        refine loop_two1 (L2I s h₀ L I I₂ C D cn.toNat oI x (.int (kq i) tq) m news (J i)) ?_ (cn.toNat + 1)
          (L2I.mk (ys := ys) (Nat.zero_le _) (by simpa using hR4) (hp4 _ _ zI) F5 (hoC.ns (hp4 _ _ zC)) (by simp [hxx]) (N₄'.grown hp4) (hp4 _ _ zD) hj)
        intro k s' J9
        apply J9
        clear J9
        intro h' tk j m' ys hij hit' hI' F' hn' hmx N' hS' hj
        have W := Walks.range (prog := prog) (w := w) hh I₂ 0 1 cn.toNat
        by_cases hlj : j < cn.toNat
        · refine W.item j _ _ _ hlj hit' fun v h₂ tk₂ hPv hst₂ hk₂ => ?_
          have hk2' : ∀ b o, b ≠ I₂ → h'.get? b = some o → h₂.get? b = some o := fun b o hb e => hk₂ b o (by simpa using hb) e
          have F2 : Fr h₀ L h₂ m := ⟨F'.ns.at' fun o e => hk2' _ o hL4 e, fun b o e => hk2' b o (fun q => by rw [q, h₀4] at e; cases e) (F'.keep b o e), F'.above⟩
          refine wpAny_assign_Name (wpAny_storeName_local (lookup_relabel_local hx₃) (hn'.at' fun o e => hk2' _ o n2C e) (fun h₃ hn₃ hs₃ => ?_) (by simp [compEnvC, relabel, hkind]))
          obtain ⟨oC', heC', hoC'⟩ := ns_obj hn₃
          have up3 : ∀ b o, b ≠ I₂ → b ≠ C → h'.get? b = some o → h₃.get? b = some o := fun b o hb1 hb2 e => hs₃.extBut b o hb2 (hk2' b o hb1 e)
          have F3 : Fr h₀ L h₃ m := F2.change hs₃ hCL hC₀
          have hR3 : h₃.get? I₂ = h₂.get? I₂ := hs₃.2 _ (Ne.symm n2C)
          have N3 : News h₀ L h₃ ((I₂, _) :: (I, oI) :: (C, oC') :: (D, lst ys) :: news) := fun p hp => by
            (first | (revert p; refine alC ?_ (fun p hp => ?_)) | rcases List.mem_cons.mp hp with rfl | hp)
            · exact ⟨hR3.trans hst₂, Ne.symm hL4, h₀4⟩
            (first | (revert p; refine alC ?_ (fun p hp => ?_)) | rcases List.mem_cons.mp hp with rfl | hp)
            · exact ⟨up3 _ _ n2I hIC hI', Ne.symm hIL, hI₀⟩
            (first | (revert p; refine alC ?_ (fun p hp => ?_)) | rcases List.mem_cons.mp hp with rfl | hp)
            · exact ⟨heC', hCL, hC₀⟩
            (first | (revert p; refine alC ?_ (fun p hp => ?_)) | rcases List.mem_cons.mp hp with rfl | hp)
            · exact ⟨up3 _ _ n2D hDC hS', hDL, hD₀⟩
            · exact ⟨up3 _ _ (off2 p hp) (off3 p hp).2.1 (N' p hp).1, (N' p hp).2⟩
          have hmx3 : (fun z => if z = x₃ then some v else m' z) x = some (.int (kq i) tq) := by simp [hx3, hmx]
          refine wpAny_mono (helt i j ys I₂ _ I oI C oC' D (lst ys) _ h₃ _ tq _ hlt (by rw [hcn]; exact hlj) hj hoC' hmx3 F3 N3) (fun y s₄ h₄ => ?_) fun _ _ e => e
          obtain ⟨⟨h₆, tk₆, rfl, F6, N6⟩, hj6⟩ := h₄
          have y2 := (N6 _ List.mem_cons_self).1
          have yI := (N6 (I, oI) (List.mem_cons_of_mem _ List.mem_cons_self)).1
          have yC := (N6 (C, oC') (List.mem_cons_of_mem _ (List.mem_cons_of_mem _ List.mem_cons_self))).1
          have yD := (N6 (D, lst ys) (List.mem_cons_of_mem _ (List.mem_cons_of_mem _ (List.mem_cons_of_mem _ List.mem_cons_self)))).1
          have N6' : News h₀ L h₆ news := fun p hp => N6 p (List.mem_cons_of_mem _ (List.mem_cons_of_mem _ (List.mem_cons_of_mem _ (List.mem_cons_of_mem _ hp))))
          refine append_at (hsz := by rw [List.size_toArray]; exact hJl _ _ _ hj) yD fun h₇ hs₇ hD₇ => ?_
          exact ⟨cn.toNat + 1 - (j + 1), by (with_reducible refine ar1 ?_; lia), L2I.mk (ys := ys ++ [y]) hlj ((hs₇.2 _ (Ne.symm n2D)).trans y2) ((hs₇.2 _ hID).trans yI) (F6.change hs₇ hDL hD₀) ((hoC'.ns yC).sameBut hs₇ (Ne.symm hDC)) hmx3 (fun p hp => ⟨(hs₇.2 p.1 (off3 p hp).2.2).trans (N6' p hp).1, (N6' p hp).2⟩) (hD₇.trans (congrArg some (lst_snoc ys y))) hj6⟩
        · obtain rfl : j = cn.toNat := Nat.le_antisymm hij (Nat.not_lt.mp hlj)
          refine W.done _ _ _ hit' fun h₂ tk₂ hk₂ => ?_
          have hk2' : ∀ b o, b ≠ I₂ → h'.get? b = some o → h₂.get? b = some o := fun b o hb e => hk₂ b o (by simpa using hb) e
          have F2 : Fr h₀ L h₂ m := ⟨F'.ns.at' fun o e => hk2' _ o hL4 e, fun b o e => hk2' b o (fun q => by rw [q, h₀4] at e; cases e) (F'.keep b o e), F'.above⟩
          exact ⟨its.length + 1 - (i + 1), by (with_reducible refine ar1 ?_; lia), L2O.mk (ys := ys) hlt ⟨oI, hk2' _ _ n2I hI', r1, r2⟩ F2 (hn'.at' fun o e => hk2' _ o n2C e) (fun p hp => ⟨hk2' _ _ (off2 p hp) (N' p hp).1, (N' p hp).2⟩) (hk2' _ _ n2D hS') (hJn i ys hlt (by rw [hcn]; exact hj))⟩
      exact start_two1 (loop1 _ rfl) (wpAny_pyIter_rangeiter hR4 (loop1 _ rfl))
    · obtain rfl : i = its.length := Nat.le_antisymm hi (Nat.not_lt.mp hlt)
      refine wpAny_pyNext_list_end hh hit' ht' (by simp) fun h₂ hk₂ => ?_
      have k2 : ∀ b o, b ≠ I → h'.get? b = some o → h₂.get? b = some o := fun b o hb e => hk₂ b o hb e
      have F2 : Fr h₀ L h₂ m := ⟨F'.ns.at' fun o e => k2 _ o hIL e, fun b o e => k2 b o (fun q => by rw [q, hI₀] at e; cases e) (F'.keep b o e), F'.above⟩
      refine ⟨m', hn'.at' fun o e => k2 _ o (Ne.symm hIC) e, fun h'' hs'' => hQ D ys h'' tk (F2.change hs'' hCL hC₀) (fun p hp => ?_) off₀.one hj⟩
      (first | (revert p; refine alC ?_ (fun p hp => ?_)) | rcases List.mem_cons.mp hp with rfl | hp)
      · exact ⟨(hs''.2 D hDC).trans (k2 _ _ (Ne.symm hID) hS'), hDL, hD₀⟩
      · exact ⟨(hs''.2 p.1 (off3 p hp).2.1).trans (k2 _ _ (off3 p hp).1 (N' p hp).1), (N' p hp).2⟩
  have htI1 : h₁.IsListIter I t' 0 := hit.at fun o e => old _ _ e
  exact codeAny_compStart_list (loop _ rfl) (wpAny_pyIter_listiter htI1 (loop _ rfl))
end
end
-- L19
section
set_option maxRecDepth 100000
set_option maxHeartbeats 1000000
section
variable {w : World} {d u : Nat} {f : Option (List Env)} {g : Option (List Code)} {s : Shared} {E Q : Value → Shared → Prop} {mean : ExcName → Option Value} {mg mb : Str → Option Value}

noncomputable def CntJ (ks ws : List Int) (f : Int → Int) (i j : Nat) (zs : List Value) : Prop :=
  j ≤ (f (ks.getD i 0)).toNat ∧ StrsAre zs (((((ks.take i).flatMap fun k => List.replicate (f k).toNat k) ++ List.replicate j (ks.getD i 0)).map (pathN ws)).map S)
theorem CntJ.zero {ks ws : List Int} {f : Int → Int} : CntJ ks ws f 0 0 [] := ⟨Nat.zero_le _, .nil⟩
theorem CntJ.next {ks ws : List Int} {f : Int → Int} {i : Nat} {zs : List Value} (h : CntJ ks ws f i (f (ks.getD i 0)).toNat zs) (hi : i < ks.length) : CntJ ks ws f (i + 1) 0 zs := by
  refine ⟨Nat.zero_le _, ?_⟩
  have hk : ks[i]? = some (ks.getD i 0) := by rw [List.getD_eq_getElem?_getD, List.getElem?_eq_getElem hi]; rfl
  rw [List.take_add_one, hk, List.flatMap_append]
  have := h.2
  simpa using this
theorem CntJ.snoc {ks ws : List Int} {f : Int → Int} {i j : Nat} {zs : List Value} {t : Tok} (h : CntJ ks ws f i j zs) (hj : j < (f (ks.getD i 0)).toNat) : CntJ ks ws f i (j + 1) (zs ++ [.str (S (pathN ws (ks.getD i 0))) t]) := by
  refine ⟨hj, ?_⟩
  rw [List.replicate_succ', ← List.append_assoc, List.map_append, List.map_append]
  exact KStt.strs_snoc h.2
theorem flat_cnt {f : Int → Int} {n : Nat} (hf : ∀ k, (f k).toNat ≤ n) : ∀ ks : List Int, (ks.flatMap fun k => List.replicate (f k).toNat k).length ≤ n * ks.length
  | [] => by simp
  | k :: r => by
    have := flat_cnt hf r
    have := hf k
    rw [List.flatMap_cons, List.length_append, List.length_replicate, List.length_cons, Nat.mul_succ]
    lia
theorem CntJ.size {ks ws : List Int} {f : Int → Int} {i j : Nat} {zs : List Value} (h : CntJ ks ws f i j zs) (hk : ks.length ≤ 28) (hf : ∀ k, -14 ≤ f k ∧ f k ≤ 14) : zs.length ≤ sizeLine := by
  have h1 := h.1
  have h2 := h.2.len_eq
  have h3 := flat_cnt (n := 14) (fun k => show (f k).toNat ≤ 14 by have := hf k; (with_reducible refine arT ?_; lia)) (ks.take i)
  have h4 := List.length_take_le' i ks
  have h5 := hf (ks.getD i 0)
  rw [List.length_map, List.length_map, List.length_append, List.length_replicate] at h2
  rw [sizeLine_eq]
  lia
theorem mem_tl {pre tl : List (Addr × Obj)} {q : Addr × Obj} (h : q ∈ tl) : q ∈ pre ++ tl := List.mem_append_right _ h
theorem more_bd {xs ys : List Int} (hx : xs.length ≤ 14) (hy : ys.length ≤ 14) (k : Int) : -14 ≤ moreF xs ys k ∧ moreF xs ys k ≤ 14 := by
  have h1 := List.count_le_length (a := k) (l := xs)
  have h2 := List.count_le_length (a := k) (l := ys)
  unfold moreF
  lia
theorem st17 {se : Shared} (hKp : Kept se s) {H : Heap} {L fa : Addr} {dc : Value} {nl : List (Str × Value)} {news : List (Addr × Obj)} {uf : Str → Option Value} (X : (Mine.hd.heap_39 w.params).In H) (T : Top Mine.hd.view_39 (looseW Mine.hd.view_39 []) mean mg mb H)
  (J : J11 Challenge.rw_pd0146_01.row.prog w L nl news) (F : Fr H L s.heap (locsOf nl uf)) (N : News H L s.heap news) :
  wpAny (model Challenge.rw_pd0146_01.row.prog w) (callerA.deeper (lawEnv lawScope L fa dc)) (exec (lawAt 17) (lawEnv lawScope L fa dc)) (AfterG se H L (J11 Challenge.rw_pd0146_01.row.prog w L)) E s := by
  have hJ := J
  revert F N hJ
  apply J
  clear J
  intro a b i x p mi un lo ga wa sh ov co va vb vx mv uv lv gv sv ovv cv na nb nx nm nu nlo nga nwa nsh nov nco xs ys ws ls gs ks op kvs cs1 tl hcs hva hvb hX hY hvx hW hop hdk hlo hmv huv hlv hls hgv hgs hsv hov hrise hmem hkl hcv
  apply hcs
  clear hcs
  intro c1 c2 c3 c4 c5 d1 d2 d3 d4 d5 F N hJ
  dsimp only [List.cons_append, List.nil_append] at N hJ
  generalize hsc : lawScope = sc
  conv at hsc => lhs; whnf
  subst hsc
  generalize hst : lawAt 17 = st
  conv at hst => lhs; whnf
  subst hst
  unfold lawEnv
  have hx14 := hX.hi
  have hy14 := hY.hi
  have hcl : cv.length = ks.length := hcv.len
  have hbd : ∀ k, -14 ≤ -moreF xs ys k ∧ -moreF xs ys k ≤ 14 := fun k => by have := more_bd hx14 hy14 k; lia
  (repeat' (first | (k_unfold; (try dsimp only)) | (k_end; kc_close) | (k_here; (with_reducible show wpAny _ _ (compareOp CmpOp.NotEq (Value.ref _) (Value.ref _)) _ _ _); refine stopHere ?_) | walk1 | (dsimp only; walk1) | (leave1; (try dsimp only))))
  unfold Stop
  (rename Fr _ _ _ _ => kF)
  (rename News _ _ _ _ => kN)
  refine ne_texts (X := []) (Y := []) ⟨_, (kN (wa, _) (by k_mem)).1, rfl, _, rfl⟩ ⟨_, (kN _ (.head _)).1, rfl, _, rfl⟩ .nil .nil (fun x hx => nomatch hx) (fun x hx => nomatch hx) (show (4 : Nat) + 3 + 64 < 9900 by decide) ?_
  rw [decide_eq_true rfl]
  replace kN : News H L _ ((co, W.listOf cv.toArray nco) :: (sh, W.listOf sv.toArray nsh) :: (wa, W.listOf (List.toArray []) nwa) :: (ov, W.listOf ovv.toArray nov) :: (ga, W.listOf gv.toArray nga) :: (lo, W.listOf lv.toArray nlo) :: (mi, W.listOf mv.toArray nm) :: (un, W.listOf uv.toArray nu) :: (p, op) :: (x, W.listOf vx.toArray nx) :: (a, W.listOf va.toArray na) :: (b, W.listOf vb.toArray nb) :: (L + 1, c1) :: (L + 1 + 1, c2) :: (L + 1 + 1 + 1, c3) :: (L + 1 + 1 + 1 + 1, c4) :: (L + 1 + 1 + 1 + 1 + 1, c5) :: tl) := fun q hq => kN q (List.mem_cons_of_mem _ hq)
  (repeat' (first | (k_unfold; (try dsimp only)) | (k_end; kc_close) | (k_here; (with_reducible show wpAny _ _ (eval (PySem.Expr.ListComp _ _ _ _) _) _ _ _); refine stopHere ?_) | walk1 | (dsimp only; walk1) | (leave1; (try dsimp only))))
  unfold Stop
  refine' ListComp_2 (h₀ := H) (L := L) (m := locsOf [("counted", .ref co), ("short", .ref sh), ("over", .ref ov), ("wanted", .ref wa), ("gained", .ref ga), ("lost", .ref lo), ("missing", .ref mi), ("unexpected", .ref un)] uf) (cl := ?cl9) (its := cv) (t' := co) (c := nco) (news := (co, W.listOf cv.toArray nco) :: (sh, W.listOf sv.toArray nsh) :: (wa, W.listOf (List.toArray []) nwa) :: (ov, W.listOf ovv.toArray nov) :: (ga, W.listOf gv.toArray nga) :: (lo, W.listOf lv.toArray nlo) :: (mi, W.listOf mv.toArray nm) :: (un, W.listOf uv.toArray nu) :: (p, op) :: (x, W.listOf vx.toArray nx) :: (a, W.listOf va.toArray na) :: (b, W.listOf vb.toArray nb) :: (L + 1, c1) :: (L + 1 + 1, c2) :: (L + 1 + 1 + 1, c3) :: (L + 1 + 1 + 1 + 1, c4) :: (L + 1 + 1 + 1 + 1 + 1, c5) :: tl) (fun i j z9 => CntJ ks ws (fun k => -moreF xs ys k) i j z9) (fun i => ks.getD i 0) (fun i => moreF xs ys (ks.getD i 0)) (fun i => (fun k => -moreF xs ys k) (ks.getD i 0)) ?u1 ?u2 ?u3 ?u4 ?u5 ?u6 ?u7 ?u8 ?u9 ?u10 rfl ?u11 (by k_mem) ?u12 ?u13 ?u14 ?u15 ?u16 ?u17 ?u18 ?u19 ?u20 (by intro _; rfl)
  case u1 => rfl
  case u2 => decide
  case u3 => rfl
  case u4 => decide
  case u5 => rfl
  case u6 => rfl
  case u7 => rfl
  case u8 => decide
  case u9 => decide
  case u10 => intro C v; rfl
  case u11 =>
    intro Q' hQ'
    k_steps
    exact hQ' _ ⟨_, _, rfl⟩ (by assumption) (by assumption)
  case u12 => lia
  case u13 => exact fun i _ => ⟨Int.le_trans (by decide) (hbd (ks.getD i 0)).1, Int.le_trans (hbd (ks.getD i 0)).2 (by decide)⟩
  case u14 =>
    intro i v hv
    (refine qE5A4 (hcv.get hv) fun t ot tq tm nt e hm r1 r2 => ?_)
    exact ⟨t, ot, tq, tm, nt, e, ((mem_tl (pre := [(co, W.listOf cv.toArray nco), (sh, W.listOf sv.toArray nsh), (wa, W.listOf (List.toArray []) nwa), (ov, W.listOf ovv.toArray nov), (ga, W.listOf gv.toArray nga), (lo, W.listOf lv.toArray nlo), (mi, W.listOf mv.toArray nm), (un, W.listOf uv.toArray nu), (p, op), (x, W.listOf vx.toArray nx), (a, W.listOf va.toArray na), (b, W.listOf vb.toArray nb), (L + 1, c1), (L + 1 + 1, c2), (L + 1 + 1 + 1, c3), (L + 1 + 1 + 1 + 1, c4), (L + 1 + 1 + 1 + 1 + 1, c5)]) hm)), r1, r2⟩
  case u15 =>
    intro i I oI C oC D oD m₂ h tk tq tm E' hi hC h1 h2 F N off nne
    have hb := hbd (ks.getD i 0)
    k_steps
    · assumption
    · assumption
  case u16 => exact CntJ.zero
  case u17 => exact fun i z h1 h2 => h2.next (by lia)
  case u18 => exact fun i j z h1 => h1.size hkl hbd
  case u19 =>
    intro i j z I₂ o₂ I oI C oC D oD m₂ h tk tq E' hi hj hj2 hC h1 F N
    have hkk : ks[i]? = some (ks.getD i 0) := by rw [List.getD_eq_getElem?_getD, List.getElem?_eq_getElem (by lia)]; rfl
    (refine qE1A1 (hdk.get ((hmem _).mp (List.mem_of_getElem? hkk))) fun t2 ht2 => ?_)
    (repeat' (first | (k_unfold; (try dsimp only)) | (k_end; kc_close) | (k_here; (with_reducible show wpAny _ _ (subscriptTail (PySem.Expr.Name _ _) (PySem.Expr.Name _ _) (Value.ref _) (Value.int _ _)) _ _ _); refine stopHere ?_) | walk1 | (dsimp only; walk1) | (leave1; (try dsimp only))))
    unfold Stop
    (rename Fr _ _ _ _ => kF9)
    (rename News _ _ _ _ => kN9)
    refine kda_item kN9 (by k_mem) hop (k := ks.getD i 0) (by simp [intKind, Value.isInt]) ht2 ?_
    exact ⟨⟨_, _, rfl, kF9, kN9⟩, hj2.snoc hj⟩
  intro D1 zs h1 tk1 F N off1 hz
  have e0 : (uldI xs.reverse ys).2 = ks.flatMap fun k => List.replicate (-moreF xs ys k).toNat k := by
    rw [uld_over hY.rise hrise fun q hq => (hmem q).mpr (List.mem_append_right _ hq)]
    refine flat_congr fun k _ => ?_
    have : (-moreF xs ys k).toNat = ys.count k - xs.count k := by unfold moreF; rw [Int.neg_sub]; exact Int.toNat_sub _ _
    rw [this]
  have hz2 : StrsAre zs (((uldI xs.reverse ys).2.map (pathN ws)).map S) := by
    have h := hz.2
    rw [hcl, List.take_length, List.replicate_zero, List.append_nil] at h
    rw [e0]; exact h
  refine ne_texts ⟨_, (N (ov, _) (by k_mem)).1, rfl, _, rfl⟩ ⟨_, (N (D1, _) (by k_mem)).1, rfl, _, rfl⟩ hov hz2 (okT_paths _ _) (okT_paths _ _) (show (4 : Nat) + 3 + 64 < 9900 by decide) ?_
  rw [decide_eq_true rfl]
  k_steps
  exact ⟨rfl, hKp, _, _, _, F, by (first | exact agr (by with_unfolding_all rfl) | (refine ⟨?_, ?_, ?_, ?_, ?_, ?_, ?_, ?_, trivial⟩ <;> with_unfolding_all rfl)), fun q hq => N q (List.mem_cons_of_mem _ hq), hJ⟩
end
end
-- L20
section
set_option maxRecDepth 100000
set_option maxHeartbeats 1000000
section
variable {w : World} {d u : Nat} {f : Option (List Env)} {g : Option (List Code)} {s : Shared} {E Q : Value → Shared → Prop} {mean : ExcName → Option Value} {mg mb : Str → Option Value}

theorem strs_rev {vs : List Value} {xs : List Str} (h : StrsAre vs xs) : StrsAre vs.reverse xs.reverse := by
  induction h with
  | nil => exact .nil
  | cons y t _ ih => rw [List.reverse_cons, List.reverse_cons]; exact KStt.strs_snoc ih
theorem st18 {se : Shared} (hKp : Kept se s) {H : Heap} {L fa : Addr} {dc : Value} {nl : List (Str × Value)} {news : List (Addr × Obj)} {uf : Str → Option Value} (X : (Mine.hd.heap_39 w.params).In H) (T : Top Mine.hd.view_39 (looseW Mine.hd.view_39 []) mean mg mb H)
  (J : J11 Challenge.rw_pd0146_01.row.prog w L nl news) (F : Fr H L s.heap (locsOf nl uf)) (N : News H L s.heap news) :
  wpAny (model Challenge.rw_pd0146_01.row.prog w) (callerA.deeper (lawEnv lawScope L fa dc)) (exec (lawAt 18) (lawEnv lawScope L fa dc)) (AfterG se H L (J11 Challenge.rw_pd0146_01.row.prog w L)) E s := by
  have hJ := J
  revert F N hJ
  apply J
  clear J
  intro a b i x p mi un lo ga wa sh ov co va vb vx mv uv lv gv sv ovv cv na nb nx nm nu nlo nga nwa nsh nov nco xs ys ws ls gs ks op kvs cs1 tl hcs hva hvb hX hY hvx hW hop hdk hlo hmv huv hlv hls hgv hgs hsv hov hrise hmem hkl hcv
  apply hcs
  clear hcs
  intro c1 c2 c3 c4 c5 d1 d2 d3 d4 d5 F N hJ
  dsimp only [List.cons_append, List.nil_append] at N hJ
  generalize hsc : lawScope = sc
  conv at hsc => lhs; whnf
  subst hsc
  generalize hst : lawAt 18 = st
  conv at hst => lhs; whnf
  subst hst
  unfold lawEnv
  have hx14 := hX.hi
  have hy14 := hY.hi
  have hcl : cv.length = ks.length := hcv.len
  have hbd : ∀ k, -14 ≤ moreF xs ys k ∧ moreF xs ys k ≤ 14 := more_bd hx14 hy14
  have hsl : sv.length ≤ 14 := by
    rw [hsv.len_eq, List.length_map, List.length_map]
    have := (uldI_sub xs.reverse ys).1.length_le
    rw [List.length_reverse] at this; lia
  have hsv2 : StrsAre sv.reverse (((uldI xs.reverse ys).1.reverse.map (pathN ws)).map S) := by
    rw [List.map_reverse, List.map_reverse]; exact strs_rev hsv
  (repeat' (first | (k_unfold; (try dsimp only)) | (k_end; kc_close) | (k_here; (with_reducible show wpAny _ _ (subscriptTail (PySem.Expr.Name _ _) (PySem.Expr.Slice _ _ _ _) (Value.ref _) (Value.ref _)) _ _ _); (with_reducible show wpAny _ _ (subscriptTail _ (PySem.Expr.Slice none none (some _) _) (Value.ref _) (Value.ref _)) _ _ _); k_dflt (refine' krv_lit (by k_asm) (by k_asm) (by kmk_list) (by exact IsPart.int _ _) (by exact congrArg List.reverse (List.toList_toArray ..)) ?_ (by with_unfolding_all rfl) (by kmk_pure) (by (((try simp only [sizeLine_eq, List.length_cons, List.length_nil, List.length_append, List.length_replicate, List.length_map, Array.length_toList, List.size_toArray]); omega)))); intro zrDq zrhq zrFq zrNq zrl1; (try k_lt zrl1); (try k_sweep)) | (k_here; (with_reducible show wpAny _ _ (eval (PySem.Expr.ListComp _ _ _ _) _) _ _ _); refine stopHere ?_) | walk1 | (dsimp only; walk1) | (leave1; (try dsimp only))))
  unfold Stop
  (rename Addr => D9)
  refine' ListComp_2 (h₀ := H) (L := L) (m := locsOf [("counted", .ref co), ("short", .ref sh), ("over", .ref ov), ("wanted", .ref wa), ("gained", .ref ga), ("lost", .ref lo), ("missing", .ref mi), ("unexpected", .ref un)] uf) (cl := ?cl9) (its := cv) (t' := co) (c := nco) (news := (D9, W.listOf sv.reverse.toArray 0) :: (co, W.listOf cv.toArray nco) :: (sh, W.listOf sv.toArray nsh) :: (wa, W.listOf (List.toArray []) nwa) :: (ov, W.listOf ovv.toArray nov) :: (ga, W.listOf gv.toArray nga) :: (lo, W.listOf lv.toArray nlo) :: (mi, W.listOf mv.toArray nm) :: (un, W.listOf uv.toArray nu) :: (p, op) :: (x, W.listOf vx.toArray nx) :: (a, W.listOf va.toArray na) :: (b, W.listOf vb.toArray nb) :: (L + 1, c1) :: (L + 1 + 1, c2) :: (L + 1 + 1 + 1, c3) :: (L + 1 + 1 + 1 + 1, c4) :: (L + 1 + 1 + 1 + 1 + 1, c5) :: tl) (fun i j z9 => CntJ ks ws (fun k => moreF xs ys k) i j z9) (fun i => ks.getD i 0) (fun i => moreF xs ys (ks.getD i 0)) (fun i => (fun k => moreF xs ys k) (ks.getD i 0)) ?u1 ?u2 ?u3 ?u4 ?u5 ?u6 ?u7 ?u8 ?u9 ?u10 rfl ?u11 (by k_mem) ?u12 ?u13 ?u14 ?u15 ?u16 ?u17 ?u18 ?u19 ?u20 (by intro _; rfl)
  case u1 => rfl
  case u2 => decide
  case u3 => rfl
  case u4 => decide
  case u5 => rfl
  case u6 => rfl
  case u7 => rfl
  case u8 => decide
  case u9 => decide
  case u10 => intro C v; rfl
  case u11 =>
    intro Q' hQ'
    k_steps
    exact hQ' _ ⟨_, _, rfl⟩ (by assumption) (by assumption)
  case u12 => lia
  case u13 => exact fun i _ => ⟨Int.le_trans (by decide) (hbd (ks.getD i 0)).1, Int.le_trans (hbd (ks.getD i 0)).2 (by decide)⟩
  case u14 =>
    intro i v hv
    (refine qE5A4 (hcv.get hv) fun t ot tq tm nt e hm r1 r2 => ?_)
    exact ⟨t, ot, tq, tm, nt, e, ((mem_tl (pre := [(D9, W.listOf sv.reverse.toArray 0), (co, W.listOf cv.toArray nco), (sh, W.listOf sv.toArray nsh), (wa, W.listOf (List.toArray []) nwa), (ov, W.listOf ovv.toArray nov), (ga, W.listOf gv.toArray nga), (lo, W.listOf lv.toArray nlo), (mi, W.listOf mv.toArray nm), (un, W.listOf uv.toArray nu), (p, op), (x, W.listOf vx.toArray nx), (a, W.listOf va.toArray na), (b, W.listOf vb.toArray nb), (L + 1, c1), (L + 1 + 1, c2), (L + 1 + 1 + 1, c3), (L + 1 + 1 + 1 + 1, c4), (L + 1 + 1 + 1 + 1 + 1, c5)]) hm)), r1, r2⟩
  case u15 =>
    intro i I oI C oC D oD m₂ h tk tq tm E' hi hC h1 h2 F N off nne
    have hb := hbd (ks.getD i 0)
    k_steps
    · assumption
    · assumption
  case u16 => exact CntJ.zero
  case u17 => exact fun i z h1 h2 => h2.next (by lia)
  case u18 => exact fun i j z h1 => h1.size hkl hbd
  case u19 =>
    intro i j z I₂ o₂ I oI C oC D oD m₂ h tk tq E' hi hj hj2 hC h1 F N
    have hkk : ks[i]? = some (ks.getD i 0) := by rw [List.getD_eq_getElem?_getD, List.getElem?_eq_getElem (by lia)]; rfl
    (refine qE1A1 (hdk.get ((hmem _).mp (List.mem_of_getElem? hkk))) fun t2 ht2 => ?_)
    (repeat' (first | (k_unfold; (try dsimp only)) | (k_end; kc_close) | (k_here; (with_reducible show wpAny _ _ (subscriptTail (PySem.Expr.Name _ _) (PySem.Expr.Name _ _) (Value.ref _) (Value.int _ _)) _ _ _); refine stopHere ?_) | walk1 | (dsimp only; walk1) | (leave1; (try dsimp only))))
    unfold Stop
    (rename Fr _ _ _ _ => kF9)
    (rename News _ _ _ _ => kN9)
    refine kda_item kN9 (by k_mem) hop (k := ks.getD i 0) (by simp [intKind, Value.isInt]) ht2 ?_
    exact ⟨⟨_, _, rfl, kF9, kN9⟩, hj2.snoc hj⟩
  intro D1 zs h1 tk1 F N off1 hz
  have e0 : (uldI xs.reverse ys).1.reverse = ks.flatMap fun k => List.replicate (moreF xs ys k).toNat k := by
    rw [uld_short hX.rise hrise fun q hq => (hmem q).mpr (List.mem_append_left _ hq)]
    refine flat_congr fun k _ => ?_
    have : (moreF xs ys k).toNat = xs.count k - ys.count k := by unfold moreF; exact Int.toNat_sub _ _
    rw [this]
  have hz2 : StrsAre zs (((uldI xs.reverse ys).1.reverse.map (pathN ws)).map S) := by
    have h := hz.2
    rw [hcl, List.take_length, List.replicate_zero, List.append_nil] at h
    rw [e0]; exact h
  refine ne_texts ⟨_, (N (D9, _) (by k_mem)).1, rfl, _, rfl⟩ ⟨_, (N (D1, _) (by k_mem)).1, rfl, _, rfl⟩ hsv2 hz2 (okT_paths _ _) (okT_paths _ _) (show (4 : Nat) + 3 + 64 < 9900 by decide) ?_
  rw [decide_eq_true rfl]
  k_steps
  exact ⟨rfl, hKp, _, _, _, F, by (first | exact agr (by with_unfolding_all rfl) | (refine ⟨?_, ?_, ?_, ?_, ?_, ?_, ?_, ?_, trivial⟩ <;> with_unfolding_all rfl)), fun q hq => N q (List.mem_cons_of_mem _ (List.mem_cons_of_mem _ hq)), hJ⟩
end
end
-- M8
section
open PyProof.Rows.LCg
set_option maxRecDepth 100000
set_option maxHeartbeats 2000000
theorem starts_path {names : List TX} : PySem.Txt.startswith (S (pathL names)) (Str.ofString "/") = true := by
  have zqb : ∃ r, pathL names = [47] ++ r := by
    unfold pathL
    split
    · exact ⟨[], rfl⟩
    · cases names with
      | nil => contradiction
      | cons a b => exact ⟨_, rfl⟩
  (refine qE1A1 zqb fun r e => ?_; clear zqb)
  rw [sep_S, e, ← S_app]
  exact KT.starts_app _ _
section
variable {prog : Program} {w : World} {A : Around} {E : Value → Shared → Prop} {s : Shared} {h₀ : Heap} {L : Addr} {m : Str → Option Value} {news : List (Addr × Obj)}
theorem assign_true {x : Str} {k : Nat} {p q : Pos} {env : Env} {a : Addr} {Q : Unit → Shared → Prop} (hh : A.handled = none) (hS : TrueSet prog w s.heap a 1) (F : Fr h₀ L s.heap m) (N : News h₀ L s.heap news)
    (h : ∀ h' d tk, Fr h₀ L h' m → News h₀ L h' news → wpAny (model prog w) A (storeName env x (.bool true)) Q E { s with heap := h', drawn := d, toks := tk }) :
    wpAny (model prog w) A (assign (.Tuple [.Name x p] k q) env (.ref a)) Q E s := by
  show wpAny _ _ (standAt _ >>= fun _ => holding [Value.ref a] (unpackItems (.ref a) 1 none) >>= _) _ _ _
  refine wpAny_bind (wpAny_standAt (wpAny_bind (wpAny_holding (unpack_true hh hS fun h' d tk hk => ?_))))
  show wpAny _ _ (holding _ (assign (.Name x p) env (.bool true)) >>= _) _ _ _
  refine wpAny_bind (wpAny_holding (assign_Name (wpAny_mono (h h' d tk (F.keeps hk) (N.grown hk)) (fun _ _ hq => ?_) fun _ _ e => e)))
  exact wpAny_pure hq
variable {env : Env}
theorem compRestT_ind {ct elt : PySem.Expr} {x : Str} {scope : Scope} {cl : List (Str × Addr)} {S : List (Addr × Obj) → Prop} {P : Nat → Value → Prop} {Fin : List Value → List (Addr × Obj) → Prop} {n : Nat} (J : Nat → List Value → List (Addr × Obj) → Prop)
    (step : ∀ i ys news, i < n → J i ys news → ∀ v I oI C oC D m₂ h tk (E' : Value → Shared → Prop), P i v → NsObj oC m₂ → m₂ x = some v → Fr h₀ L h m → News h₀ L h ((I, oI) :: (C, oC) :: (D, lst ys) :: news) → Off3 I C D news → ((@Ne Nat I C) ∧ (@Ne Nat I D) ∧ (@Ne Nat C D)) →
      wpAny (model prog w) A (isTrue ct (compEnvC scope cl C env) (eval ct (compEnvC scope cl C env))) (fun ok s' => if ok = true then
        wpAny (model prog w) A (eval elt (compEnvC scope cl C env)) (CompEnd h₀ L m { s with heap := h, toks := tk } I oI C oC D (lst ys) S (fun y news' => J (i + 1) (ys ++ [y]) news')) E' s'
        else CompEnd h₀ L m { s with heap := h, toks := tk } I oI C oC D (lst ys) S (fun _ news' => J (i + 1) ys news') Value.none s') E' { s with heap := h, toks := tk })
    (fin : ∀ ys news, J n ys news → Fin ys news) : ∀ k i ys news, i + k = n → J i ys news → LCt.CompRestT prog w A h₀ L m env ct elt x scope cl s S P Fin k i ys news
  | 0, i, ys, news, e, hj => LCt.CompRestT.zero (fin ys news (by have : i = n := by lia
                                                                 rw [← this]; exact hj))
  | k + 1, i, ys, news, e, hj => LCt.CompRestT.succ fun v I oI C oC D m₂ h tk E' hP hC hx F N off ne =>
    wpAny_mono (step i ys news (by lia) hj v I oI C oC D m₂ h tk E' hP hC hx F N off ne) (fun ok s₁ h₁ => by
      by_cases hk : ok = true
      · rw [if_pos hk] at h₁ ⊢
        exact wpAny_mono h₁ (fun y s₂ ⟨h', tk', news', e1, e2, e3, e4, e5, e6⟩ => ⟨h', tk', news', e1, e2, e3, e4, e5, compRestT_ind J step fin k (i + 1) (ys ++ [y]) news' (by lia) e6⟩) fun _ _ e => e
      · rw [if_neg hk] at h₁ ⊢
        (refine qE3A6 (h₁) fun h' tk' news' e1 e2 e3 e4 e5 e6 => ?_; (try clear h₁))
        exact ⟨h', tk', news', e1, e2, e3, e4, e5, compRestT_ind J step fin k (i + 1) ys news' (by lia) e6⟩) fun _ _ e => e
end
noncomputable def FlJ (p1 p2 p3 p4 : Addr × Obj) (ls : List (Addr × Obj)) (nss : List (List TX)) (i : Nat) (ys : List Value) (news : List (Addr × Obj)) : Prop :=
  ∃ ls2, news = p1 :: p2 :: p3 :: p4 :: ls2 ∧ (∀ p ∈ ls, p ∈ ls2) ∧ HeldL ls2 ys (nss.take i)
section
variable {prog : Program} {w : World} {A : Around} {E : Value → Shared → Prop} {s : Shared} {Q : Bool → Shared → Prop}
theorem truthy_yes {y : TX} {t : Tok} (hne : y ≠ []) (hz : y.length ≤ 1000) (h : Q true { s with toks := s.toks + 1 + 1 }) : wpAny (model prog w) A (truthy (.str (S y) t)) Q E s := by
  refine PySem.P.truthy_str (by rw [S_len]; lia) ?_
  have : ((S y).length : Int) ≠ 0 := by
    rw [S_len]
    have := List.length_pos_iff.mpr hne
    lia
  rw [(by simpa using this : (((S y).length : Int) != 0) = true)]
  exact h
theorem truthy_not {t : Tok} (h : Q false { s with toks := s.toks + 1 + 1 }) : wpAny (model prog w) A (truthy (.str (S []) t)) Q E s := by
  refine PySem.P.truthy_str (by rw [S_len]; simp) ?_
  exact h
end
theorem rot4 {x I C D p1 p2 p3 p4 : Addr × Obj} {ls : List (Addr × Obj)} : ∀ p ∈ I :: C :: D :: p1 :: p2 :: p3 :: p4 :: x :: ls, p ∈ x :: I :: C :: D :: p1 :: p2 :: p3 :: p4 :: ls :=
  fun _ hp => (List.perm_middle (l₁ := [I, C, D, p1, p2, p3, p4]) (l₂ := ls) (a := x)).mem_iff.mp hp
theorem off4 {I C D a : Addr} {oI oC oD o : Obj} {p1 p2 p3 p4 : Addr × Obj} {ls : List (Addr × Obj)} (off : Off3 I C D (p1 :: p2 :: p3 :: p4 :: ls)) (n1 : Off1 a ((I, oI) :: (C, oC) :: (D, oD) :: p1 :: p2 :: p3 :: p4 :: ls)) : Off3 I C D (p1 :: p2 :: p3 :: p4 :: (a, o) :: ls) :=
  ⟨off.1, off.2.1, off.2.2.1, off.2.2.2.1, ⟨Ne.symm n1.1, Ne.symm n1.2.1, Ne.symm n1.2.2.1⟩, off.2.2.2.2⟩
theorem FlJ.held {ls : List (Addr × Obj)} {ys ws : List Value} {nss : List (List TX)} {i : Nat} {nm : List TX} {a : Addr} {c : Nat} (hH : HeldL ls ys (nss.take i)) (hnm : nss[i]? = some nm) (hw : StrsAre ws (nm.map S)) :
    HeldL ((a, listOf ws.toArray c) :: ls) (ys ++ [.ref a]) (nss.take (i + 1)) := by
  rw [List.take_add_one, hnm]
  exact (hH.more fun p hp => List.mem_cons_of_mem _ hp).snoc List.mem_cons_self hw
end
-- N1
section
open PyProof.Rows.LCg
open AutoSeq1 (wpAny_loadPart')
set_option maxRecDepth 100000
set_option maxHeartbeats 2000000
theorem S_list (x : TX) : (S x).cps.toList = x := S_cps x
theorem lt_loop (l b : Addr) (X Y : List TX) (vs us : List Value) (hX : StrsAre vs (X.map S)) (hY : StrsAre us (Y.map S)) (n n2 : Nat) (k : Nat) :
    ∀ i : Nat, X.length - i = k → i ≤ X.length → i ≤ Y.length → Meets (Builtin.«list.__eq__.loop» ⟨[.ref l, .ref b, rawInt i, rawInt 0], []⟩)
      (fun _ R s => s.heap.get? l = some { cls := .type "list", dict := none, data := .seq vs.toArray n, slots := #[] } ∧ s.heap.get? b = some { cls := .type "list", dict := none, data := .seq us.toArray n2, slots := #[] } ∧
        R (.ok (.ret (.bool (decide (X.drop i < Y.drop i))))) s) := by
  have hlx : vs.length = X.length := by rw [hX.len_eq, List.length_map]
  have hly : us.length = Y.length := by rw [hY.len_eq, List.length_map]
  induction k with
  | zero =>
    intro i hk hi1 hi2 prog w A R s h
    obtain ⟨hp, g, d, tk, os⟩ := s; obtain ⟨hl, hb, h⟩ := h
    have hd : X.drop i = [] := List.drop_of_length_le (by lia)
    wp_walk using wpAny_loadPart' hl, wpAny_loadPart' hb
    have h1 : vs.toArray[((i : Nat) : Int).toNat]? = none := by simp; lia
    rw [h1]
    wp_walk using wpAny_loadPart' hl, wpAny_loadPart' hb
    refine (show R (.ok (.ret (.bool (decide (vs.toArray.size < us.toArray.size))))) _ from ?_)
    have e : decide (vs.toArray.size < us.toArray.size) = decide (X.drop i < Y.drop i) := by
      rw [hd, List.size_toArray, List.size_toArray, hlx, hly]
      refine decide_eq_decide.mpr ?_
      by_cases q : i = Y.length
      · rw [List.drop_of_length_le (Nat.le_of_eq q.symm)]
        first | exact ⟨fun z => absurd z (by lia), fun z => absurd z (List.not_lt_nil _)⟩ | exact ⟨fun _ => List.nil_lt_cons _ _, fun _ => by omega⟩
      · have q2 : i < Y.length := by lia
        rw [List.drop_eq_getElem_cons q2]
        first | exact ⟨fun z => absurd z (by omega), fun z => absurd z (List.not_lt_nil _)⟩ | exact ⟨fun _ => List.nil_lt_cons _ _, fun _ => by lia⟩
    rw [e]; exact h
  | succ k ih =>
    intro i hk hi1 hi2 prog w A R s h
    obtain ⟨hp, g, d, tk, os⟩ := s; obtain ⟨hl, hb, h⟩ := h
    have hlt : i < X.length := by (with_reducible exact ar5 ‹_›)
    (refine qE1A1 (hX.get i (S X[i]) (by simp [hlt])) fun t hv => ?_)
    have h1 : vs.toArray[((i : Nat) : Int).toNat]? = some (.str (S X[i]) t) := by simpa using hv
    wp_walk using wpAny_loadPart' hl, wpAny_loadPart' hb
    rw [h1]
    by_cases q : i = Y.length
    · have h2 : us.toArray[((i : Nat) : Int).toNat]? = none := by simp; lia
      rw [h2]
      wp_walk using wpAny_loadPart' hl, wpAny_loadPart' hb
      refine (show R (.ok (.ret (.bool (decide (vs.toArray.size < us.toArray.size))))) _ from ?_)
      have e : decide (vs.toArray.size < us.toArray.size) = decide (X.drop i < Y.drop i) := by
        rw [List.drop_of_length_le (Nat.le_of_eq q.symm), List.size_toArray, List.size_toArray, hlx, hly, List.drop_eq_getElem_cons hlt]
        refine decide_eq_decide.mpr ?_
        first | exact ⟨fun z => absurd z (by lia), fun z => absurd z (List.not_lt_nil _)⟩ | exact ⟨fun _ => List.nil_lt_cons _ _, fun _ => by omega⟩
      rw [e]; exact h
    · have hlt2 : i < Y.length := by lia
      (refine qE1A1 (hY.get i (S Y[i]) (by simp [hlt2])) fun u hu => ?_)
      have h2 : us.toArray[((i : Nat) : Int).toNat]? = some (.str (S Y[i]) u) := by simpa using hu
      rw [h2]
      refine wpAny_bind (SeqRoads2.EqGives.str _ _ t u prog w A.in1 _ _ _ ?_)
      have hc : ((i : Int) + 1) = ((i + 1 : Nat) : Int) := by push_cast; rfl
      rw [List.drop_eq_getElem_cons hlt, List.drop_eq_getElem_cons hlt2] at h
      rw [S_list, S_list]
      by_cases hxy : X[i] = Y[i]
      · rw [beq_iff_eq.mpr hxy]
        wp_walk
        rw [hc]
        refine ⟨plainId_quiet MeetsSeq3.plain_eq_loop _, codeAny_builtin MeetsSeq3.entry_eq_loop (by
          rw [Around.under_plainId MeetsSeq3.plain_eq_loop _]
          refine ih (i + 1) (by (with_reducible exact ar2 ‹_›)) (by lia) (by lia) prog w A R _ ⟨hl, hb, ?_⟩
          have e : decide (X.drop (i + 1) < Y.drop (i + 1)) = decide (X[i] :: X.drop (i + 1) < Y[i] :: Y.drop (i + 1)) := by
            refine decide_eq_decide.mpr ?_
            rw [hxy, List.cons_lt_cons_iff]
            simp [List.lt_irrefl]
          rw [e]; exact h)⟩
      · rw [beq_eq_false_iff_ne.mpr hxy]
        wp_walk using wpAny_loadPart' hl, wpAny_loadPart' hb
        rw [h1, h2]
        (show wpAny _ _ (richCompare .Lt _ _ >>= _) _ _ _)
        refine wpAny_bind (richCompare_gives (op := .Lt) (typeIs_str _ _ t) (typeIs_str _ _ u) F.slot_str_lt F.entry_str_lt (F.args_str_lt_2 _ _) (gives_str_lt _ _ t u) (by simp [Made.takes]) ?_)
        (show wpAny _ _ (ret (.bool (decide ((S X[i]).cps.toList < (S Y[i]).cps.toList)))) _ _ _)
        refine wpAny_pure ?_
        refine (show R (.ok (.ret (.bool (decide ((S X[i]).cps.toList < (S Y[i]).cps.toList))))) _ from ?_)
        rw [S_list, S_list]
        have e : decide (X[i] < Y[i]) = decide (X[i] :: X.drop (i + 1) < Y[i] :: Y.drop (i + 1)) := by
          refine decide_eq_decide.mpr ?_
          rw [List.cons_lt_cons_iff]
          simp [hxy, Ne.symm hxy]
        rw [e]; exact h
theorem list_lt (l b : Addr) (X Y : List TX) (vs us : List Value) (hX : StrsAre vs (X.map S)) (hY : StrsAre us (Y.map S)) (n n2 : Nat) :
    Meets (Builtin.«list.__lt__» ⟨[.ref l, .ref b], []⟩)
      (fun _ R s => s.heap.get? l = some { cls := .type "list", dict := none, data := .seq vs.toArray n, slots := #[] } ∧ s.heap.get? b = some { cls := .type "list", dict := none, data := .seq us.toArray n2, slots := #[] } ∧
        R (.ok (.ret (.bool (decide (X < Y))))) s) := by
  intro prog w A R s h
  obtain ⟨hp, g, d, tk, os⟩ := s; obtain ⟨hl, hb, h⟩ := h
  have f3 := AutoSeq1.sub_list_list
  wp_walk using wpAny_loadPart' hl, wpAny_loadPart' hb
  exact ⟨plainId_quiet MeetsSeq3.plain_eq_loop _, codeAny_builtin MeetsSeq3.entry_eq_loop (by
    rw [Around.under_plainId MeetsSeq3.plain_eq_loop _]
    exact lt_loop l b X Y vs us hX hY n n2 _ 0 rfl (Nat.zero_le _) (Nat.zero_le _) prog w A R _ ⟨hl, hb, by simpa using h⟩)⟩
theorem rc_lt {prog : Program} {w : World} {A : Around} {E Q : Value → Shared → Prop} {s : Shared} {l b : Addr} {X Y : List TX} {vs us : List Value} {n n2 : Nat} (hX : StrsAre vs (X.map S)) (hY : StrsAre us (Y.map S))
    (hl : s.heap.get? l = some (listOf vs.toArray n)) (hb : s.heap.get? b = some (listOf us.toArray n2)) (hu : A.units < cLine) (h : Q (.bool (decide (X < Y))) s) : wpAny (model prog w) A (richCompare .Lt (.ref l) (.ref b)) Q E s :=
  richCompare_meets_room (op := .Lt) ⟨_, hl, rfl⟩ ⟨_, hb, rfl⟩ F.slot_list_lt F.entry_list_lt (F.args_list_lt_2 _ _) (list_lt l b X Y vs us hX hY n n2)
    ⟨hl, hb, show Value.bool _ ≠ Value.notImplemented ∧ Q (.bool _) s from ⟨(fun x => nomatch x), h⟩⟩ hu
theorem gt_loop (l b : Addr) (X Y : List TX) (vs us : List Value) (hX : StrsAre vs (X.map S)) (hY : StrsAre us (Y.map S)) (n n2 : Nat) (k : Nat) :
    ∀ i : Nat, X.length - i = k → i ≤ X.length → i ≤ Y.length → Meets (Builtin.«list.__eq__.loop» ⟨[.ref l, .ref b, rawInt i, rawInt 4], []⟩)
      (fun _ R s => s.heap.get? l = some { cls := .type "list", dict := none, data := .seq vs.toArray n, slots := #[] } ∧ s.heap.get? b = some { cls := .type "list", dict := none, data := .seq us.toArray n2, slots := #[] } ∧
        R (.ok (.ret (.bool (decide (Y.drop i < X.drop i))))) s) := by
  have hlx : vs.length = X.length := by rw [hX.len_eq, List.length_map]
  have hly : us.length = Y.length := by rw [hY.len_eq, List.length_map]
  induction k with
  | zero =>
    intro i hk hi1 hi2 prog w A R s h
    obtain ⟨hp, g, d, tk, os⟩ := s; obtain ⟨hl, hb, h⟩ := h
    have hd : X.drop i = [] := List.drop_of_length_le (by lia)
    wp_walk using wpAny_loadPart' hl, wpAny_loadPart' hb
    have h1 : vs.toArray[((i : Nat) : Int).toNat]? = none := by simp; lia
    rw [h1]
    wp_walk using wpAny_loadPart' hl, wpAny_loadPart' hb
    refine (show R (.ok (.ret (.bool (decide (vs.toArray.size > us.toArray.size))))) _ from ?_)
    have e : decide (vs.toArray.size > us.toArray.size) = decide (Y.drop i < X.drop i) := by
      rw [hd, List.size_toArray, List.size_toArray, hlx, hly]
      refine decide_eq_decide.mpr ?_
      by_cases q : i = Y.length
      · rw [List.drop_of_length_le (Nat.le_of_eq q.symm)]
        first | exact ⟨fun z => absurd z (by lia), fun z => absurd z (List.not_lt_nil _)⟩ | exact ⟨fun _ => List.nil_lt_cons _ _, fun _ => by omega⟩
      · have q2 : i < Y.length := by lia
        rw [List.drop_eq_getElem_cons q2]
        first | exact ⟨fun z => absurd z (by lia), fun z => absurd z (List.not_lt_nil _)⟩ | exact ⟨fun _ => List.nil_lt_cons _ _, fun _ => by omega⟩
    rw [e]; exact h
  | succ k ih =>
    intro i hk hi1 hi2 prog w A R s h
    obtain ⟨hp, g, d, tk, os⟩ := s; obtain ⟨hl, hb, h⟩ := h
    have hlt : i < X.length := by (with_reducible exact ar5 ‹_›)
    (refine qE1A1 (hX.get i (S X[i]) (by simp [hlt])) fun t hv => ?_)
    have h1 : vs.toArray[((i : Nat) : Int).toNat]? = some (.str (S X[i]) t) := by simpa using hv
    wp_walk using wpAny_loadPart' hl, wpAny_loadPart' hb
    rw [h1]
    by_cases q : i = Y.length
    · have h2 : us.toArray[((i : Nat) : Int).toNat]? = none := by simp; lia
      rw [h2]
      wp_walk using wpAny_loadPart' hl, wpAny_loadPart' hb
      refine (show R (.ok (.ret (.bool (decide (vs.toArray.size > us.toArray.size))))) _ from ?_)
      have e : decide (vs.toArray.size > us.toArray.size) = decide (Y.drop i < X.drop i) := by
        rw [List.drop_of_length_le (Nat.le_of_eq q.symm), List.size_toArray, List.size_toArray, hlx, hly, List.drop_eq_getElem_cons hlt]
        refine decide_eq_decide.mpr ?_
        first | exact ⟨fun z => absurd z (by omega), fun z => absurd z (List.not_lt_nil _)⟩ | exact ⟨fun _ => List.nil_lt_cons _ _, fun _ => by lia⟩
      rw [e]; exact h
    · have hlt2 : i < Y.length := by lia
      (refine qE1A1 (hY.get i (S Y[i]) (by simp [hlt2])) fun u hu => ?_)
      have h2 : us.toArray[((i : Nat) : Int).toNat]? = some (.str (S Y[i]) u) := by simpa using hu
      rw [h2]
      refine wpAny_bind (SeqRoads2.EqGives.str _ _ t u prog w A.in1 _ _ _ ?_)
      have hc : ((i : Int) + 1) = ((i + 1 : Nat) : Int) := by push_cast; rfl
      rw [List.drop_eq_getElem_cons hlt, List.drop_eq_getElem_cons hlt2] at h
      rw [S_list, S_list]
      by_cases hxy : X[i] = Y[i]
      · rw [beq_iff_eq.mpr hxy]
        wp_walk
        rw [hc]
        refine ⟨plainId_quiet MeetsSeq3.plain_eq_loop _, codeAny_builtin MeetsSeq3.entry_eq_loop (by
          rw [Around.under_plainId MeetsSeq3.plain_eq_loop _]
          refine ih (i + 1) (by (with_reducible exact ar2 ‹_›)) (by lia) (by lia) prog w A R _ ⟨hl, hb, ?_⟩
          have e : decide (Y.drop (i + 1) < X.drop (i + 1)) = decide (Y[i] :: Y.drop (i + 1) < X[i] :: X.drop (i + 1)) := by
            refine decide_eq_decide.mpr ?_
            rw [hxy, List.cons_lt_cons_iff]
            simp [List.lt_irrefl]
          rw [e]; exact h)⟩
      · rw [beq_eq_false_iff_ne.mpr hxy]
        wp_walk using wpAny_loadPart' hl, wpAny_loadPart' hb
        rw [h1, h2]
        (show wpAny _ _ (richCompare .Gt _ _ >>= _) _ _ _)
        refine wpAny_bind (richCompare_gives (op := .Gt) (typeIs_str _ _ t) (typeIs_str _ _ u) F.slot_str_gt F.entry_str_gt (F.args_str_gt_2 _ _) (gives_str_gt _ _ t u) (by simp [Made.takes]) ?_)
        (show wpAny _ _ (ret (.bool (decide ((S Y[i]).cps.toList < (S X[i]).cps.toList)))) _ _ _)
        refine wpAny_pure ?_
        refine (show R (.ok (.ret (.bool (decide ((S Y[i]).cps.toList < (S X[i]).cps.toList))))) _ from ?_)
        rw [S_list, S_list]
        have e : decide (Y[i] < X[i]) = decide (Y[i] :: Y.drop (i + 1) < X[i] :: X.drop (i + 1)) := by
          refine decide_eq_decide.mpr ?_
          rw [List.cons_lt_cons_iff]
          simp [hxy, Ne.symm hxy]
        rw [e]; exact h
theorem list_gt (l b : Addr) (X Y : List TX) (vs us : List Value) (hX : StrsAre vs (X.map S)) (hY : StrsAre us (Y.map S)) (n n2 : Nat) :
    Meets (Builtin.«list.__gt__» ⟨[.ref l, .ref b], []⟩)
      (fun _ R s => s.heap.get? l = some { cls := .type "list", dict := none, data := .seq vs.toArray n, slots := #[] } ∧ s.heap.get? b = some { cls := .type "list", dict := none, data := .seq us.toArray n2, slots := #[] } ∧
        R (.ok (.ret (.bool (decide (Y < X))))) s) := by
  intro prog w A R s h
  obtain ⟨hp, g, d, tk, os⟩ := s; obtain ⟨hl, hb, h⟩ := h
  have f3 := AutoSeq1.sub_list_list
  wp_walk using wpAny_loadPart' hl, wpAny_loadPart' hb
  exact ⟨plainId_quiet MeetsSeq3.plain_eq_loop _, codeAny_builtin MeetsSeq3.entry_eq_loop (by
    rw [Around.under_plainId MeetsSeq3.plain_eq_loop _]
    exact gt_loop l b X Y vs us hX hY n n2 _ 0 rfl (Nat.zero_le _) (Nat.zero_le _) prog w A R _ ⟨hl, hb, by simpa using h⟩)⟩
theorem rc_gt {prog : Program} {w : World} {A : Around} {E Q : Value → Shared → Prop} {s : Shared} {l b : Addr} {X Y : List TX} {vs us : List Value} {n n2 : Nat} (hX : StrsAre vs (X.map S)) (hY : StrsAre us (Y.map S))
    (hl : s.heap.get? l = some (listOf vs.toArray n)) (hb : s.heap.get? b = some (listOf us.toArray n2)) (hu : A.units < cLine) (h : Q (.bool (decide (Y < X))) s) : wpAny (model prog w) A (richCompare .Gt (.ref l) (.ref b)) Q E s :=
  richCompare_meets_room (op := .Gt) ⟨_, hl, rfl⟩ ⟨_, hb, rfl⟩ F.slot_list_gt F.entry_list_gt (F.args_list_gt_2 _ _) (list_gt l b X Y vs us hX hY n n2)
    ⟨hl, hb, show Value.bool _ ≠ Value.notImplemented ∧ Q (.bool _) s from ⟨(fun x => nomatch x), h⟩⟩ hu
end
-- N2
section
open PyProof.Rows.LCg
set_option maxRecDepth 100000
set_option maxHeartbeats 2000000
noncomputable def CmpH (prog : Program) (w : World) (A : Around) (op : CmpOp) (P : Nat → Value → Prop) (bt : Nat → Nat → Bool) (K : Heap → Prop) : Prop :=
  ∀ i j vi vj (s : Shared) (Q : Value → Shared → Prop) (E : Value → Shared → Prop), P i vi → P j vj → K s.heap → Q (.bool (bt i j)) s → wpAny (model prog w) A (richCompare op vi vj) Q E s
section
variable {prog : Program} {w : World} {A : Around} {R : Result → Shared → Prop} {I : Addr} {fp wr : List Addr} {n : Nat} {P : Nat → Value → Prop} {St : Nat → Heap → Prop} {K : Heap → Prop}
theorem minH_loop (W : Walks prog w A.in1 I fp wr n P St) (bt : Nat → Nat → Bool) (hcmp : CmpH prog w A.in1 .Lt P bt K) (S : Addr) (hSf : S ∉ fp) (hK : ∀ h h' : Heap, K h → (∀ b o, b ∉ wr → b ≠ S → h.get? b = some o → h'.get? b = some o) → K h') :
    ∀ (k j : Nat) (s : Shared) (vb : Value) (c : Nat), n - (j + 1) = k → j + 1 ≤ n → St (j + 1) s.heap → K s.heap → P (argBest bt j) vb →
    s.heap.get? S = some { cls := .type "list", dict := none, data := .seq #[vb, vb] c, slots := #[] } →
    (∀ v h' tk, P (argBest bt (n - 1)) v → (∀ b o, b ∉ wr → b ≠ S → s.heap.get? b = some o → h'.get? b = some o) → R (.ok (.ret v)) { s with heap := h', toks := tk }) →
    codeAny (model prog w) A (.builtin "min.loop" ⟨[.ref I, .none, .ref S], []⟩) R s := by
  have hSw : S ∉ wr := fun h => hSf (W.sub _ h)
  have hname : (toString "min" ++ toString ".loop" : String) = "min.loop" := by decide
  intro k
  induction k with
  | zero =>
    intro j s vb c hk hj hst hKs hPb hS hR
    have hin : j + 1 = n := by (with_reducible exact ar6 ‹_› ‹_›)
    refine codeAny_builtin F.entry_min_loop ?_
    rw [Around.under_plainId F.plain_min_loop _]
    show wpAny _ A.in1 (seqItems? (.ref S) >>= _) _ _ s
    refine wpAny_bind (wpAny_seqItems hS rfl ?_)
    show wpAny _ A.in1 (tryCatch (pyNext (.ref I)) _ >>= _) _ _ s
    refine wpAny_bind (wpAny_tryCatch (W.done s _ _ (hin ▸ hst) fun h' tk hk' => ?_))
    have hS' := hk' S _ hSw hS
    show wpAny _ A.in1 (updateSeq S (fun _ => #[]) >>= _) _ _ _
    refine wpAny_bind ?_
    refine wpAny_updateSeq hS' rfl (wpAny_bind (wpAny_letGo (wpAny_pure ?_)))
    refine hR vb _ tk (by rw [← hin]; exact hPb) fun b o hbw hbS e => (Heap.get?_update_other _ _ (Ne.symm hbS)).trans (hk' b o hbw e)
  | succ k ih =>
    intro j s vb c hk hj hst hKs hPb hS hR
    have hlt : j + 1 < n := by (with_reducible exact ar5 ‹_›)
    refine codeAny_builtin F.entry_min_loop ?_
    rw [Around.under_plainId F.plain_min_loop _]
    show wpAny _ A.in1 (seqItems? (.ref S) >>= _) _ _ s
    refine wpAny_bind (wpAny_seqItems hS rfl ?_)
    show wpAny _ A.in1 (tryCatch (pyNext (.ref I)) _ >>= _) _ _ s
    refine wpAny_bind (wpAny_tryCatch (W.item (j + 1) s _ _ hlt hst fun v h' tk hP hst' hk' => ?_))
    have hS' := hk' S _ hSw hS
    have hKs' : K h' := hK _ _ hKs fun b o hbw _ e => hk' b o hbw e
    show wpAny _ A.in1 (tryCatch (holding [v, v] (richCompare .Lt v vb >>= _)) _ >>= _) _ _ _
    refine wpAny_bind (wpAny_tryCatch (wpAny_holding (wpAny_bind (hcmp (j + 1) (argBest bt j) v vb _ _ _ hP hPb hKs' ?_))))
    refine wpAny_bind (wpAny_holding (wpAny_truthy_bool ?_))
    refine wpAny_bind (wpAny_letGo (wpAny_pure ?_))
    cases hb : bt (j + 1) (argBest bt j) with
    | true =>
      simp only [if_true]
      refine wpAny_bind ?_
      refine wpAny_updateSeq hS' rfl (wpAny_bind (wpAny_letGo ?_))
      rw [hname]
      refine wpAny_pure ⟨plainId_quiet F.plain_min_loop _, ih (j + 1) _ v _ (by (with_reducible exact ar2 ‹_›)) hlt (W.frame _ _ _ hst' fun b hbf o e => ?_) (hK _ _ hKs' fun b o hbw hbS e => (Heap.get?_update_other _ _ (Ne.symm hbS)).trans e) (by simp only [argBest, hb, if_true]; exact hP) (Heap.get?_update_self _ hS' rfl)
        fun v' h'' tk'' hP' hk'' => ?_⟩
      · exact (Heap.get?_update_other _ _ (fun h : S = b => hSf (by rw [h]; exact hbf))).trans e
      · exact hR v' h'' tk'' hP' fun b o hbw hbS e => hk'' b o hbw hbS ((Heap.get?_update_other _ _ (Ne.symm hbS)).trans (hk' b o hbw e))
    | false =>
      simp only [Bool.false_eq_true, if_false]
      refine wpAny_bind (wpAny_letGo ?_)
      rw [hname]
      refine wpAny_pure ⟨plainId_quiet F.plain_min_loop _, ih (j + 1) _ vb c (by (with_reducible exact ar2 ‹_›)) hlt hst' hKs' (by simp only [argBest, hb, Bool.false_eq_true, if_false]; exact hPb) hS' fun v' h'' tk'' hP' hk'' => ?_⟩
      exact hR v' h'' tk'' hP' fun b o hbw hbS e => hk'' b o hbw hbS (hk' b o hbw e)
theorem minH_first (W : Walks prog w A.in1 I fp wr n P St) (bt : Nat → Nat → Bool) (hcmp : CmpH prog w A.in1 .Lt P bt K) (S : Addr) (hSf : S ∉ fp) (hK : ∀ h h' : Heap, K h → (∀ b o, b ∉ wr → b ≠ S → h.get? b = some o → h'.get? b = some o) → K h') (hn : 0 < n) {s : Shared} {c : Nat} (hst : St 0 s.heap) (hKs : K s.heap)
    (hS : s.heap.get? S = some { cls := .type "list", dict := none, data := .seq #[] c, slots := #[] })
    (hR : ∀ v h' tk, P (argBest bt (n - 1)) v → (∀ b o, b ∉ wr → b ≠ S → s.heap.get? b = some o → h'.get? b = some o) → R (.ok (.ret v)) { s with heap := h', toks := tk }) :
    codeAny (model prog w) A (.builtin "min.loop" ⟨[.ref I, .none, .ref S], []⟩) R s := by
  have hSw : S ∉ wr := fun h => hSf (W.sub _ h)
  have hname : (toString "min" ++ toString ".loop" : String) = "min.loop" := by decide
  refine codeAny_builtin F.entry_min_loop ?_
  rw [Around.under_plainId F.plain_min_loop _]
  show wpAny _ A.in1 (seqItems? (.ref S) >>= _) _ _ s
  refine wpAny_bind (wpAny_seqItems hS rfl ?_)
  show wpAny _ A.in1 (tryCatch (pyNext (.ref I)) _ >>= _) _ _ s
  refine wpAny_bind (wpAny_tryCatch (W.item 0 s _ _ hn hst fun v h' tk hP hst' hk' => ?_))
  have hS' := hk' S _ hSw hS
  have hKs' : K h' := hK _ _ hKs fun b o hbw _ e => hk' b o hbw e
  show wpAny _ A.in1 (updateSeq S (fun _ => #[v, v]) >>= _) _ _ _
  refine wpAny_bind ?_
  refine wpAny_updateSeq hS' rfl ?_
  rw [hname]
  refine wpAny_pure ⟨plainId_quiet F.plain_min_loop _, minH_loop W bt hcmp S hSf hK _ 0 _ v _ rfl hn (W.frame _ _ _ hst' fun b hbf o e => ?_) (hK _ _ hKs' fun b o hbw hbS e => (Heap.get?_update_other _ _ (Ne.symm hbS)).trans e) hP (Heap.get?_update_self _ hS' rfl) fun v' h'' tk'' hP' hk'' => ?_⟩
  · exact (Heap.get?_update_other _ _ (fun h : S = b => hSf (by rw [h]; exact hbf))).trans e
  · exact hR v' h'' tk'' hP' fun b o hbw hbS e => hk'' b o hbw hbS ((Heap.get?_update_other _ _ (Ne.symm hbS)).trans (hk' b o hbw e))
theorem min_listH {l : Addr} {its : Array Value} {bt : Nat → Nat → Bool} {Q E : Value → Shared → Prop} {s : Shared} (hh : A.handled = none) (hl : s.heap.IsList l its) (hne : 0 < its.size)
    (hcmp : CmpH prog w A.in1 .Lt (fun i v => its[i]? = some v) bt (fun h => ∀ b o, s.heap.get? b = some o → h.get? b = some o))
    (h : ∀ v h' tk, its[argBest bt (its.size - 1)]? = some v → (∀ b o, s.heap.get? b = some o → h'.get? b = some o) → Q v { s with heap := h', toks := tk }) :
    wpAny (model prog w) A (call (.builtin "min") [.ref l]) Q E s := by
  have hlt : l < s.heap.objs.size := by obtain ⟨_, e, _⟩ := hl; exact Heap.lt_size e
  have hname : (toString "min" ++ toString ".loop" : String) = "min.loop" := by decide
  refine call_function_tree F.kind_min F.plain_min F.entry_min (F.args_min1 _) ?_
  show wpAny _ A.in1 (Builtin.Builtins.bindParams "min" ["key", "default"] 0 ⟨[], []⟩ >>= _) _ _ s
  refine wpAny_bind (wpAny_of_eq (show Builtin.Builtins.bindParams "min" ["key", "default"] 0 ⟨[], []⟩ = pure [none, none] from rfl) ?_)
  refine wpAny_bind (wpAny_pure ?_)
  refine wpAny_bind (wpAny_pyIter_list hl ?_)
  refine wpAny_bind (wpAny_newObj_type ?_)
  rw [hname]
  have hz : (s.heap.push { cls := .type "list_iterator", data := .fields #[.ref l, .int 0 0] }).objs.size = s.heap.objs.size + 1 := Heap.size_push _ _
  have hk0 : ∀ b o, s.heap.get? b = some o → (s.heap.push { cls := .type "list_iterator", data := .fields #[.ref l, .int 0 0] }).get? b = some o := fun b o e => Heap.get?_push_of_some _ e
  have hit : (s.heap.push { cls := .type "list_iterator", data := .fields #[.ref l, .int 0 0] }).IsListIter s.heap.objs.size l 0 := ⟨_, Heap.get?_push_size _ rfl, rfl, rfl⟩
  dsimp only
  generalize s.heap.push { cls := .type "list_iterator", data := .fields #[.ref l, .int 0 0] } = H1 at hz hk0 hit ⊢
  have hnI : ∀ b o, s.heap.get? b = some o → b ≠ s.heap.objs.size := fun b o e => Nat.ne_of_lt (Heap.lt_size e)
  have hnS : ∀ b o, s.heap.get? b = some o → b ≠ H1.objs.size := fun b o e => Nat.ne_of_lt (Heap.lt_size (hk0 b o e))
  refine wpAny_pure ⟨plainId_quiet F.plain_min_loop _, minH_first (K := fun h => ∀ b o, s.heap.get? b = some o → h.get? b = some o) (Walks.list (A := A.in1) hh _ l (Nat.ne_of_lt hlt) its) bt hcmp H1.objs.size ?_ ?_ hne ⟨?_, ?_⟩ ?_ (Heap.get?_push_size _ rfl) fun v h' tk hP hk => ?_⟩
  · intro hm
    rw [hz] at hm
    rcases List.mem_cons.mp hm with e | hm
    · exact absurd e (Nat.succ_ne_self _)
    · rw [List.mem_singleton] at hm
      exact absurd hm (Nat.ne_of_gt (Nat.lt_succ_of_lt hlt))
  · intro h1 h2 hK hk b o e
    exact hk b o (fun hm => hnI b o e (by simpa using hm)) (hnS b o e) (hK b o e)
  · (refine qE1A2 (hit) fun o e r => ?_; (try clear hit))
    exact ⟨o, Heap.get?_push_of_some _ e, r⟩
  · (refine qE1A2 (hl) fun o e r => ?_; (try clear hl))
    exact ⟨o, Heap.get?_push_of_some _ (hk0 _ _ e), r⟩
  · exact fun b o e => Heap.get?_push_of_some _ (hk0 b o e)
  · exact h v h' tk (by simpa using hP) fun b o e => hk b o (fun hm => hnI b o e (by simpa using hm)) (hnS b o e) (Heap.get?_push_of_some _ (hk0 b o e))
theorem maxH_loop (W : Walks prog w A.in1 I fp wr n P St) (bt : Nat → Nat → Bool) (hcmp : CmpH prog w A.in1 .Gt P bt K) (S : Addr) (hSf : S ∉ fp) (hK : ∀ h h' : Heap, K h → (∀ b o, b ∉ wr → b ≠ S → h.get? b = some o → h'.get? b = some o) → K h') :
    ∀ (k j : Nat) (s : Shared) (vb : Value) (c : Nat), n - (j + 1) = k → j + 1 ≤ n → St (j + 1) s.heap → K s.heap → P (argBest bt j) vb →
    s.heap.get? S = some { cls := .type "list", dict := none, data := .seq #[vb, vb] c, slots := #[] } →
    (∀ v h' tk, P (argBest bt (n - 1)) v → (∀ b o, b ∉ wr → b ≠ S → s.heap.get? b = some o → h'.get? b = some o) → R (.ok (.ret v)) { s with heap := h', toks := tk }) →
    codeAny (model prog w) A (.builtin "max.loop" ⟨[.ref I, .none, .ref S], []⟩) R s := by
  have hSw : S ∉ wr := fun h => hSf (W.sub _ h)
  have hname : (toString "max" ++ toString ".loop" : String) = "max.loop" := by decide
  intro k
  induction k with
  | zero =>
    intro j s vb c hk hj hst hKs hPb hS hR
    have hin : j + 1 = n := by (with_reducible exact ar6 ‹_› ‹_›)
    refine codeAny_builtin F.entry_max_loop ?_
    rw [Around.under_plainId F.plain_max_loop _]
    show wpAny _ A.in1 (seqItems? (.ref S) >>= _) _ _ s
    refine wpAny_bind (wpAny_seqItems hS rfl ?_)
    show wpAny _ A.in1 (tryCatch (pyNext (.ref I)) _ >>= _) _ _ s
    refine wpAny_bind (wpAny_tryCatch (W.done s _ _ (hin ▸ hst) fun h' tk hk' => ?_))
    have hS' := hk' S _ hSw hS
    show wpAny _ A.in1 (updateSeq S (fun _ => #[]) >>= _) _ _ _
    refine wpAny_bind ?_
    refine wpAny_updateSeq hS' rfl (wpAny_bind (wpAny_letGo (wpAny_pure ?_)))
    refine hR vb _ tk (by rw [← hin]; exact hPb) fun b o hbw hbS e => (Heap.get?_update_other _ _ (Ne.symm hbS)).trans (hk' b o hbw e)
  | succ k ih =>
    intro j s vb c hk hj hst hKs hPb hS hR
    have hlt : j + 1 < n := by (with_reducible exact ar5 ‹_›)
    refine codeAny_builtin F.entry_max_loop ?_
    rw [Around.under_plainId F.plain_max_loop _]
    show wpAny _ A.in1 (seqItems? (.ref S) >>= _) _ _ s
    refine wpAny_bind (wpAny_seqItems hS rfl ?_)
    show wpAny _ A.in1 (tryCatch (pyNext (.ref I)) _ >>= _) _ _ s
    refine wpAny_bind (wpAny_tryCatch (W.item (j + 1) s _ _ hlt hst fun v h' tk hP hst' hk' => ?_))
    have hS' := hk' S _ hSw hS
    have hKs' : K h' := hK _ _ hKs fun b o hbw _ e => hk' b o hbw e
    show wpAny _ A.in1 (tryCatch (holding [v, v] (richCompare .Gt v vb >>= _)) _ >>= _) _ _ _
    refine wpAny_bind (wpAny_tryCatch (wpAny_holding (wpAny_bind (hcmp (j + 1) (argBest bt j) v vb _ _ _ hP hPb hKs' ?_))))
    refine wpAny_bind (wpAny_holding (wpAny_truthy_bool ?_))
    refine wpAny_bind (wpAny_letGo (wpAny_pure ?_))
    cases hb : bt (j + 1) (argBest bt j) with
    | true =>
      simp only [if_true]
      refine wpAny_bind ?_
      refine wpAny_updateSeq hS' rfl (wpAny_bind (wpAny_letGo ?_))
      rw [hname]
      refine wpAny_pure ⟨plainId_quiet F.plain_max_loop _, ih (j + 1) _ v _ (by (with_reducible exact ar2 ‹_›)) hlt (W.frame _ _ _ hst' fun b hbf o e => ?_) (hK _ _ hKs' fun b o hbw hbS e => (Heap.get?_update_other _ _ (Ne.symm hbS)).trans e) (by simp only [argBest, hb, if_true]; exact hP) (Heap.get?_update_self _ hS' rfl)
        fun v' h'' tk'' hP' hk'' => ?_⟩
      · exact (Heap.get?_update_other _ _ (fun h : S = b => hSf (by rw [h]; exact hbf))).trans e
      · exact hR v' h'' tk'' hP' fun b o hbw hbS e => hk'' b o hbw hbS ((Heap.get?_update_other _ _ (Ne.symm hbS)).trans (hk' b o hbw e))
    | false =>
      simp only [Bool.false_eq_true, if_false]
      refine wpAny_bind (wpAny_letGo ?_)
      rw [hname]
      refine wpAny_pure ⟨plainId_quiet F.plain_max_loop _, ih (j + 1) _ vb c (by (with_reducible exact ar2 ‹_›)) hlt hst' hKs' (by simp only [argBest, hb, Bool.false_eq_true, if_false]; exact hPb) hS' fun v' h'' tk'' hP' hk'' => ?_⟩
      exact hR v' h'' tk'' hP' fun b o hbw hbS e => hk'' b o hbw hbS (hk' b o hbw e)
theorem maxH_first (W : Walks prog w A.in1 I fp wr n P St) (bt : Nat → Nat → Bool) (hcmp : CmpH prog w A.in1 .Gt P bt K) (S : Addr) (hSf : S ∉ fp) (hK : ∀ h h' : Heap, K h → (∀ b o, b ∉ wr → b ≠ S → h.get? b = some o → h'.get? b = some o) → K h') (hn : 0 < n) {s : Shared} {c : Nat} (hst : St 0 s.heap) (hKs : K s.heap)
    (hS : s.heap.get? S = some { cls := .type "list", dict := none, data := .seq #[] c, slots := #[] })
    (hR : ∀ v h' tk, P (argBest bt (n - 1)) v → (∀ b o, b ∉ wr → b ≠ S → s.heap.get? b = some o → h'.get? b = some o) → R (.ok (.ret v)) { s with heap := h', toks := tk }) :
    codeAny (model prog w) A (.builtin "max.loop" ⟨[.ref I, .none, .ref S], []⟩) R s := by
  have hSw : S ∉ wr := fun h => hSf (W.sub _ h)
  have hname : (toString "max" ++ toString ".loop" : String) = "max.loop" := by decide
  refine codeAny_builtin F.entry_max_loop ?_
  rw [Around.under_plainId F.plain_max_loop _]
  show wpAny _ A.in1 (seqItems? (.ref S) >>= _) _ _ s
  refine wpAny_bind (wpAny_seqItems hS rfl ?_)
  show wpAny _ A.in1 (tryCatch (pyNext (.ref I)) _ >>= _) _ _ s
  refine wpAny_bind (wpAny_tryCatch (W.item 0 s _ _ hn hst fun v h' tk hP hst' hk' => ?_))
  have hS' := hk' S _ hSw hS
  have hKs' : K h' := hK _ _ hKs fun b o hbw _ e => hk' b o hbw e
  show wpAny _ A.in1 (updateSeq S (fun _ => #[v, v]) >>= _) _ _ _
  refine wpAny_bind ?_
  refine wpAny_updateSeq hS' rfl ?_
  rw [hname]
  refine wpAny_pure ⟨plainId_quiet F.plain_max_loop _, maxH_loop W bt hcmp S hSf hK _ 0 _ v _ rfl hn (W.frame _ _ _ hst' fun b hbf o e => ?_) (hK _ _ hKs' fun b o hbw hbS e => (Heap.get?_update_other _ _ (Ne.symm hbS)).trans e) hP (Heap.get?_update_self _ hS' rfl) fun v' h'' tk'' hP' hk'' => ?_⟩
  · exact (Heap.get?_update_other _ _ (fun h : S = b => hSf (by rw [h]; exact hbf))).trans e
  · exact hR v' h'' tk'' hP' fun b o hbw hbS e => hk'' b o hbw hbS ((Heap.get?_update_other _ _ (Ne.symm hbS)).trans (hk' b o hbw e))
theorem max_listH {l : Addr} {its : Array Value} {bt : Nat → Nat → Bool} {Q E : Value → Shared → Prop} {s : Shared} (hh : A.handled = none) (hl : s.heap.IsList l its) (hne : 0 < its.size)
    (hcmp : CmpH prog w A.in1 .Gt (fun i v => its[i]? = some v) bt (fun h => ∀ b o, s.heap.get? b = some o → h.get? b = some o))
    (h : ∀ v h' tk, its[argBest bt (its.size - 1)]? = some v → (∀ b o, s.heap.get? b = some o → h'.get? b = some o) → Q v { s with heap := h', toks := tk }) :
    wpAny (model prog w) A (call (.builtin "max") [.ref l]) Q E s := by
  have hlt : l < s.heap.objs.size := by obtain ⟨_, e, _⟩ := hl; exact Heap.lt_size e
  have hname : (toString "max" ++ toString ".loop" : String) = "max.loop" := by decide
  refine call_function_tree F.kind_max F.plain_max F.entry_max (F.args_max1 _) ?_
  show wpAny _ A.in1 (Builtin.Builtins.bindParams "max" ["key", "default"] 0 ⟨[], []⟩ >>= _) _ _ s
  refine wpAny_bind (wpAny_of_eq (show Builtin.Builtins.bindParams "max" ["key", "default"] 0 ⟨[], []⟩ = pure [none, none] from rfl) ?_)
  refine wpAny_bind (wpAny_pure ?_)
  refine wpAny_bind (wpAny_pyIter_list hl ?_)
  refine wpAny_bind (wpAny_newObj_type ?_)
  rw [hname]
  have hz : (s.heap.push { cls := .type "list_iterator", data := .fields #[.ref l, .int 0 0] }).objs.size = s.heap.objs.size + 1 := Heap.size_push _ _
  have hk0 : ∀ b o, s.heap.get? b = some o → (s.heap.push { cls := .type "list_iterator", data := .fields #[.ref l, .int 0 0] }).get? b = some o := fun b o e => Heap.get?_push_of_some _ e
  have hit : (s.heap.push { cls := .type "list_iterator", data := .fields #[.ref l, .int 0 0] }).IsListIter s.heap.objs.size l 0 := ⟨_, Heap.get?_push_size _ rfl, rfl, rfl⟩
  dsimp only
  generalize s.heap.push { cls := .type "list_iterator", data := .fields #[.ref l, .int 0 0] } = H1 at hz hk0 hit ⊢
  have hnI : ∀ b o, s.heap.get? b = some o → b ≠ s.heap.objs.size := fun b o e => Nat.ne_of_lt (Heap.lt_size e)
  have hnS : ∀ b o, s.heap.get? b = some o → b ≠ H1.objs.size := fun b o e => Nat.ne_of_lt (Heap.lt_size (hk0 b o e))
  refine wpAny_pure ⟨plainId_quiet F.plain_max_loop _, maxH_first (K := fun h => ∀ b o, s.heap.get? b = some o → h.get? b = some o) (Walks.list (A := A.in1) hh _ l (Nat.ne_of_lt hlt) its) bt hcmp H1.objs.size ?_ ?_ hne ⟨?_, ?_⟩ ?_ (Heap.get?_push_size _ rfl) fun v h' tk hP hk => ?_⟩
  · intro hm
    rw [hz] at hm
    rcases List.mem_cons.mp hm with e | hm
    · exact absurd e (Nat.succ_ne_self _)
    · rw [List.mem_singleton] at hm
      exact absurd hm (Nat.ne_of_gt (Nat.lt_succ_of_lt hlt))
  · intro h1 h2 hK hk b o e
    exact hk b o (fun hm => hnI b o e (by simpa using hm)) (hnS b o e) (hK b o e)
  · (refine qE1A2 (hit) fun o e r => ?_; (try clear hit))
    exact ⟨o, Heap.get?_push_of_some _ e, r⟩
  · (refine qE1A2 (hl) fun o e r => ?_; (try clear hl))
    exact ⟨o, Heap.get?_push_of_some _ (hk0 _ _ e), r⟩
  · exact fun b o e => Heap.get?_push_of_some _ (hk0 b o e)
  · exact h v h' tk (by simpa using hP) fun b o e => hk b o (fun hm => hnI b o e (by simpa using hm)) (hnS b o e) (Heap.get?_push_of_some _ (hk0 b o e))
end
end
-- N3
section
open PyProof.Rows.LCg
set_option maxRecDepth 100000
set_option maxHeartbeats 2000000
theorem argBest_top {bt : Nat → Nat → Bool} (tr : ∀ i j k, bt i j = true → bt j k = true → bt i k = true) (ir : ∀ i, bt i i = false) : ∀ k j, j ≤ k → bt j (argBest bt k) = false
  | 0, j, h => by
    have : j = 0 := by lia
    subst this
    exact ir 0
  | k + 1, j, h => by
    rw [argBest]
    cases hb : bt (k + 1) (argBest bt k) with
    | true =>
      rw [if_pos rfl]
      by_cases q : j = k + 1
      · rw [q]; exact ir _
      · have ih := argBest_top tr ir k j (by lia)
        cases hj : bt j (k + 1) with
        | false => rfl
        | true => rw [tr _ _ _ hj hb] at ih; exact ih
    | false =>
      rw [if_neg (by decide)]
      by_cases q : j = k + 1
      · rw [q]; exact hb
      · exact argBest_top tr ir k j (by lia)
section
variable {prog : Program} {w : World} {A : Around} {E : Value → Shared → Prop} {s : Shared} {h₀ : Heap} {L : Addr} {m : Str → Option Value} {news : List (Addr × Obj)}
theorem min_held {Dq : Addr} {vs : List Value} {nss : List (List TX)} {ls : List (Addr × Obj)} {Q : Value → Shared → Prop} (hh : A.handled = none) (F : Fr h₀ L s.heap m) (N : News h₀ L s.heap news) (hl : (Dq, lst vs) ∈ news) (hs : ∀ p ∈ ls, p ∈ news) (hH : HeldL ls vs nss) (hne : nss ≠ []) (hu : A.units + 64 < cLine)
    (h : ∀ h' tk nm a ws c, nm ∈ nss → (∀ x ∈ nss, ¬ x < nm) → (a, listOf (List.toArray ws) c) ∈ ls → StrsAre ws (nm.map S) → Fr h₀ L h' m → News h₀ L h' news → Q (.ref a) { s with heap := h', toks := tk }) :
    wpAny (model prog w) A (call (.builtin "min") [.ref Dq]) Q E s := by
  have hlen : vs.length = nss.length := hH.len
  have hpos : 0 < nss.length := List.length_pos_iff.mpr hne
  refine min_listH (its := vs.toArray) (bt := fun i j => decide (nss.getD i [] < nss.getD j [])) hh ⟨_, (N _ hl).1, rfl, _, rfl⟩ (by rw [List.size_toArray, hlen]; exact hpos) ?_ ?_
  · intro i j vi vj s' Q' E' hi hj hK hQ
    (refine qE4A4 (hH.get (by simpa using hi)) fun n1 a1 w1 c1 e1 zqr5 m1 t1 => ?_; subst zqr5)
    (refine qE4A4 (hH.get (by simpa using hj)) fun n2 a2 w2 c2 e2 zqr5 m2 t2 => ?_; subst zqr5)
    refine rc_lt t1 t2 (hK _ _ (N _ (hs _ m1)).1) (hK _ _ (N _ (hs _ m2)).1) (by unfold Around.in1; dsimp only; lia) ?_
    have g1 : nss.getD i [] = n1 := by rw [List.getD_eq_getElem?_getD, e1]; rfl
    have g2 : nss.getD j [] = n2 := by rw [List.getD_eq_getElem?_getD, e2]; rfl
    rw [← g1, ← g2]
    exact hQ
  · intro v h' tk hv hk
    rw [List.size_toArray, hlen, List.getElem?_toArray] at hv
    (refine qE4A4 (hH.get hv) fun n1 a1 w1 c1 e1 zqr5 m1 t1 => ?_; subst zqr5)
    have g1 : nss.getD (argBest (fun i j => decide (nss.getD i [] < nss.getD j [])) (nss.length - 1)) [] = n1 := by rw [List.getD_eq_getElem?_getD, e1]; rfl
    refine h h' tk n1 a1 w1 c1 (List.mem_of_getElem? e1) (fun x hx => ?_) m1 t1 (F.grownK hk) (N.grown hk)
    obtain ⟨j, hj, rfl⟩ := List.getElem_of_mem hx
    have q := argBest_top (bt := fun i j => decide (nss.getD i [] < nss.getD j [])) (fun i j k h1 h2 => by
      simp only [decide_eq_true_eq] at h1 h2 ⊢
      exact List.lt_trans h1 h2) (fun i => by simp only [decide_eq_false_iff_not]; exact List.lt_irrefl _) (nss.length - 1) j (by lia)
    simp only [decide_eq_false_iff_not] at q
    rw [g1, List.getD_eq_getElem?_getD, List.getElem?_eq_getElem hj] at q
    exact q
theorem max_held {Dq : Addr} {vs : List Value} {nss : List (List TX)} {ls : List (Addr × Obj)} {Q : Value → Shared → Prop} (hh : A.handled = none) (F : Fr h₀ L s.heap m) (N : News h₀ L s.heap news) (hl : (Dq, lst vs) ∈ news) (hs : ∀ p ∈ ls, p ∈ news) (hH : HeldL ls vs nss) (hne : nss ≠ []) (hu : A.units + 64 < cLine)
    (h : ∀ h' tk nm a ws c, nm ∈ nss → (∀ x ∈ nss, ¬ nm < x) → (a, listOf (List.toArray ws) c) ∈ ls → StrsAre ws (nm.map S) → Fr h₀ L h' m → News h₀ L h' news → Q (.ref a) { s with heap := h', toks := tk }) :
    wpAny (model prog w) A (call (.builtin "max") [.ref Dq]) Q E s := by
  have hlen : vs.length = nss.length := hH.len
  have hpos : 0 < nss.length := List.length_pos_iff.mpr hne
  refine max_listH (its := vs.toArray) (bt := fun i j => decide (nss.getD j [] < nss.getD i [])) hh ⟨_, (N _ hl).1, rfl, _, rfl⟩ (by rw [List.size_toArray, hlen]; exact hpos) ?_ ?_
  · intro i j vi vj s' Q' E' hi hj hK hQ
    (refine qE4A4 (hH.get (by simpa using hi)) fun n1 a1 w1 c1 e1 zqr5 m1 t1 => ?_; subst zqr5)
    (refine qE4A4 (hH.get (by simpa using hj)) fun n2 a2 w2 c2 e2 zqr5 m2 t2 => ?_; subst zqr5)
    refine rc_gt t1 t2 (hK _ _ (N _ (hs _ m1)).1) (hK _ _ (N _ (hs _ m2)).1) (by unfold Around.in1; dsimp only; lia) ?_
    have g1 : nss.getD i [] = n1 := by rw [List.getD_eq_getElem?_getD, e1]; rfl
    have g2 : nss.getD j [] = n2 := by rw [List.getD_eq_getElem?_getD, e2]; rfl
    rw [← g1, ← g2]
    exact hQ
  · intro v h' tk hv hk
    rw [List.size_toArray, hlen, List.getElem?_toArray] at hv
    (refine qE4A4 (hH.get hv) fun n1 a1 w1 c1 e1 zqr5 m1 t1 => ?_; subst zqr5)
    have g1 : nss.getD (argBest (fun i j => decide (nss.getD j [] < nss.getD i [])) (nss.length - 1)) [] = n1 := by rw [List.getD_eq_getElem?_getD, e1]; rfl
    refine h h' tk n1 a1 w1 c1 (List.mem_of_getElem? e1) (fun x hx => ?_) m1 t1 (F.grownK hk) (N.grown hk)
    obtain ⟨j, hj, rfl⟩ := List.getElem_of_mem hx
    have q := argBest_top (bt := fun i j => decide (nss.getD j [] < nss.getD i [])) (fun i j k h1 h2 => by
      simp only [decide_eq_true_eq] at h1 h2 ⊢
      exact List.lt_trans h2 h1) (fun i => by simp only [decide_eq_false_iff_not]; exact List.lt_irrefl _) (nss.length - 1) j (by lia)
    simp only [decide_eq_false_iff_not] at q
    rw [g1, List.getD_eq_getElem?_getD, List.getElem?_eq_getElem hj] at q
    exact q
end
end
-- N4
section
open PyProof.Rows.LCg
set_option maxRecDepth 100000
set_option maxHeartbeats 2000000
noncomputable def EnumEnd (h₀ : Heap) (L : Addr) (own news : List (Addr × Obj)) (Jn : List (Str × Value) → Prop) (s₁ : Shared) (B : Shared → Prop) (f : Flow) (s₂ : Shared) : Prop :=
  match f with
  | .brk => B s₂
  | .ret _ => False
  | _ => ∃ h' tk m' nl, s₂ = { s₁ with heap := h', toks := tk } ∧ Fr h₀ L h' m' ∧ Agree nl m' ∧ News h₀ L h' (news ++ own) ∧ Jn nl
theorem EnumEnd.go {h₀ h' : Heap} {L : Addr} {own news : List (Addr × Obj)} {Jn : List (Str × Value) → Prop} {s₁ : Shared} {B : Shared → Prop} {tk : Nat} {m' : Str → Option Value} {nl : List (Str × Value)} (F : Fr h₀ L h' m') (ha : Agree nl m') (N : News h₀ L h' (news ++ own)) (hj : Jn nl) :
    EnumEnd h₀ L own news Jn s₁ B .next { s₁ with heap := h', toks := tk } := ⟨h', tk, m', nl, rfl, F, ha, N, hj⟩
section
variable {prog : Program} {w : World} {A : Around} {E : Value → Shared → Prop} {s : Shared} {h₀ : Heap} {m : Str → Option Value} {news : List (Addr × Obj)} {env : Env}
theorem enumN (B : Shared → Prop) (J : Nat → List (Str × Value) → Prop) {l : Addr} {ws : List Value} {c : Nat} {xi xc : Str} {body : List Stmt} {Q : Flow → Shared → Prop} (hh : A.handled = none) (F : Fr h₀ env.locals s.heap m) (N : News h₀ env.locals s.heap news)
    (hm : (l, listOf ws.toArray c) ∈ news) (start : ∃ nl, Agree nl m ∧ J 0 nl)
    (turn : ∀ i v t nl own h tk u, ws[i]? = some v → J i nl → Fr h₀ env.locals h (fun y => if y = xc then some v else if y = xi then some (.int (i : Nat) t) else locsOf nl u y) → News h₀ env.locals h (news ++ own) →
      wpAny (model prog w) A (execs body env) (EnumEnd h₀ env.locals own news (J (i + 1)) { s with heap := h, toks := tk } B) E { s with heap := h, toks := tk })
    (done : ∀ nl h tk u, J ws.length nl → Fr h₀ env.locals h (locsOf nl u) → News h₀ env.locals h news → B { s with heap := h, toks := tk })
    (tail : ∀ s', B s' → Q .next s') :
    wpAny (model prog w) A (call (.type "enumerate") [.ref l]) (fun xv s₁ => wpAny (model prog w) A (pyIter xv) (fun it s₂ => PairAt3 prog w A h₀ env xi xc body Q E it s₂) E s₁) E s := by
  have hls : s.heap.IsList l ws.toArray := ⟨_, (N _ hm).1, rfl, _, rfl⟩
  have hl2 : l < s.heap.objs.size := Heap.lt_size (N _ hm).1
  have hLs : env.locals < s.heap.objs.size := F.ns.lt
  have hab : h₀.objs.size ≤ env.locals := F.above
  have hlL : l ≠ env.locals := (N _ hm).2.1
  refine call_enumerate_list hls fun h' he hit hsz hk => ?_
  have F' : Fr h₀ env.locals h' m := ⟨F.ns.keeps hk, fun b o e => hk b o (F.keep b o e), F.above⟩
  have N' : News h₀ env.locals h' news := fun p hp => ⟨hk _ _ (N p hp).1, (N p hp).2⟩
  refine wpAny_pyIter_enum he ?_
  have hef : s.heap.objs.size + 1 ∉ [s.heap.objs.size, l] := by
    intro hm
    rcases List.mem_cons.mp hm with e | hm
    · exact Nat.succ_ne_self _ e
    · exact Nat.ne_of_gt (Nat.lt_succ_of_lt hl2) (List.mem_singleton.mp hm)
  refine ⟨s.heap.objs.size + 1, (s.heap.objs.size + 1) :: [s.heap.objs.size, l], [s.heap.objs.size + 1, s.heap.objs.size], ws.toArray.size, _, _, _, (fun i v0 v1 => ∃ t, v0 = .int i t ∧ ws.toArray[i]? = some v1), m, news,
    (fun i m' news' => news' = news ∧ ∃ nl, Agree nl m' ∧ J i nl), rfl,
    WalksT.enumerateD (Draws.list (A := A.in1) hh s.heap.objs.size l (Nat.ne_of_lt hl2) ws.toArray) _ (Nat.succ_ne_self _) hef (by simp), ?_, ?_, ?_, ?_, ⟨⟨_, by simpa using he⟩, hit, hls.at fun o e => hk l o e⟩, F', N', ⟨rfl, start⟩, ?_, ?_⟩
  · (intro i vals; intro zqi; refine qE2A2 zqi fun t x hPx zqr3 => ?_; clear zqi; subst zqr3)
    exact ⟨_, _, rfl, t, rfl, hPx⟩
  · intro hm
    rcases List.mem_cons.mp hm with e | hm
    · exact Nat.ne_of_lt (Nat.lt_succ_of_lt hLs) e
    · rcases List.mem_cons.mp hm with e | hm
      · exact Nat.ne_of_lt hLs e
      · exact hlL (List.mem_singleton.mp hm).symm
  · intro b hb
    rcases List.mem_cons.mp hb with rfl | hb
    · exact Heap.get?_none_of_le (Nat.le_trans hab (Nat.le_of_lt (Nat.lt_succ_of_lt hLs)))
    · rw [List.mem_singleton.mp hb]; exact Heap.get?_none_of_le (Nat.le_trans hab (Nat.le_of_lt hLs))
  · intro p hp hb
    have hq1 : p.1 < s.heap.objs.size := Heap.lt_size (N p hp).1
    rcases List.mem_cons.mp hb with e1 | hb
    · exact Nat.ne_of_lt (Nat.lt_succ_of_lt hq1) e1
    · exact Nat.ne_of_lt hq1 (List.mem_singleton.mp hb)
  · (intro i v0 v1 m₁ news₁ s₁ own; intro zqi; refine qE2A1 zqi fun h tk zqr2 => ?_; clear zqi; subst zqr2; intro _; intro zqi; refine qE1A2 zqi fun t zqr1 hPx => ?_; clear zqi; subst zqr1; rintro ⟨rfl, nl, ha, hj⟩; intro _ _ F₁ N₁)
    rw [← locsOf_agree ha] at F₁
    refine wpAny_mono (turn i v1 t nl own h tk m₁ (by simpa using hPx) hj F₁ (fun p hp => N₁ p (by
      rcases List.mem_append.mp hp with q | q
      · exact List.mem_append_right _ q
      · exact List.mem_append_left _ q))) (fun f s₂ h₂ => ?_) fun _ _ e => e
    cases f with
    | brk => exact tail _ h₂
    | ret v => exact h₂.elim
    | next =>
      (refine qE4A5 (h₂) fun h' tk' m' nl' e F₂ ha₂ N₂ hj₂ => ?_; (try clear h₂))
      exact ⟨rfl, h', tk', m', _, e, F₂, (fun p hp => N₂ p (by
        rcases List.mem_append.mp hp with q | q
        · exact List.mem_append_right _ q
        · exact List.mem_append_left _ q)), rfl, rfl, nl', ha₂, hj₂⟩
    | cont =>
      (refine qE4A5 (h₂) fun h' tk' m' nl' e F₂ ha₂ N₂ hj₂ => ?_; (try clear h₂))
      exact ⟨rfl, h', tk', m', _, e, F₂, (fun p hp => N₂ p (by
        rcases List.mem_append.mp hp with q | q
        · exact List.mem_append_right _ q
        · exact List.mem_append_left _ q)), rfl, rfl, nl', ha₂, hj₂⟩
  · (intro h tk m' news' F₁ N₁ _; rintro ⟨rfl, nl, ha, hj⟩)
    rw [← locsOf_agree ha] at F₁
    exact tail _ (done nl h tk m' (by simpa using hj) F₁ N₁)
theorem item_SN {L l : Addr} {vs : List Value} {c : Nat} {X : List TX} {i : Nat} {x : TX} {u : Tok} {nx ny : Str} {px py : Pos} {Q : Value → Shared → Prop} (N : News h₀ L s.heap news) (hm : (l, listOf vs.toArray c) ∈ news) (hi : StrsAre vs (X.map S)) (hx : X[i]? = some x) (hfit : (i : Int) < 2 ^ 63) (h : ∀ t', Q (.str (S x) t') s) :
    wpAny (model prog w) A (subscriptTail (.Name nx px) (.Name ny py) (.ref l) (.int i u)) Q E s := by
  have e : (X.map S)[i]? = some (S x) := by rw [List.getElem?_map, hx]; rfl
  (refine qE1A1 (hi.at e) fun t ht => ?_)
  exact item_listL ⟨_, (N _ hm).1, rfl, _, rfl⟩ (Int.natCast_nonneg i) hfit (by rw [Int.toNat_natCast]; exact ht) (h t) rfl fun _ => rfl
end
theorem pick_take (l : List Value) (i : Nat) (h : i ≤ l.length) : kms_pick l none (some (i : Int)) = l.take i := by
  unfold kms_pick kms_lo kms_hi
  dsimp only
  rw [if_neg (by lia), Int.toNat_natCast, Nat.min_eq_left h]
  simp
theorem strs_take : ∀ {vs : List Value} {xs : List Str} (i : Nat), StrsAre vs xs → StrsAre (vs.take i) (xs.take i)
  | _, _, 0, _ => by rw [List.take_zero, List.take_zero]; exact .nil
  | _, _, _ + 1, .nil => by rw [List.take_nil, List.take_nil]; exact .nil
  | _, _, i + 1, .cons x t r => by rw [List.take_succ_cons, List.take_succ_cons]; exact .cons x t (strs_take i r)
noncomputable def ComJ (a1 a2 : Addr) (X Y : List TX) (i : Nat) (nl : List (Str × Value)) : Prop :=
  nl = ([("isabs", .bool true), ("s1", .ref a1), ("s2", .ref a2), ("common", .ref a1)] : List (Str × Value)) ∧ X.take i = Y.take i
theorem com_same : ∀ X : List TX, comL X X = X
  | [] => rfl
  | x :: r => by rw [comL, if_pos rfl, com_same r]
theorem com_stop : ∀ {X Y : List TX} {i : Nat} {x y : TX}, X.take i = Y.take i → X[i]? = some x → Y[i]? = some y → x ≠ y → comL X Y = X.take i
  | [], _, _, _, _, _, h, _, _ => by simp at h
  | _, [], _, _, _, _, _, h, _ => by simp at h
  | a :: X, b :: Y, 0, x, y, _, h1, h2, hne => by
    simp at h1 h2
    subst h1; subst h2
    rw [comL, if_neg hne, List.take_zero]
  | a :: X, b :: Y, i + 1, x, y, h, h1, h2, hne => by
    simp only [List.take_succ_cons, List.cons.injEq] at h
    simp at h1 h2
    rw [comL, if_pos h.1, List.take_succ_cons, com_stop h.2 h1 h2 hne]
noncomputable def ComB (h₀ : Heap) (L : Addr) (s : Shared) (pc ps : Addr × Obj) (X : List TX) (s' : Shared) : Prop :=
  ∃ h tk u aC wsC cC, s' = { s with heap := h, toks := tk } ∧ Fr h₀ L h (locsOf ([("isabs", .bool true), ("common", .ref aC)] : List (Str × Value)) u) ∧ News h₀ L h [(aC, listOf (List.toArray wsC) cC), pc, ps] ∧ StrsAre wsC (X.map S)
theorem ComB.intro {h₀ h : Heap} {L aC : Addr} {s : Shared} {pc ps : Addr × Obj} {X : List TX} {wsC : List Value} {cC tk : Nat} {m' : Str → Option Value} {big : List (Addr × Obj)} (F : Fr h₀ L h m') (ha : Agree ([("isabs", .bool true), ("common", .ref aC)] : List (Str × Value)) m') (N : News h₀ L h big)
    (h1 : (aC, listOf (List.toArray wsC) cC) ∈ big) (h2 : pc ∈ big) (h3 : ps ∈ big) (hw : StrsAre wsC (X.map S)) : ComB h₀ L s pc ps X { s with heap := h, toks := tk } := by
  refine ⟨h, tk, m', aC, wsC, cC, rfl, by rw [locsOf_agree ha]; exact F, fun p hp => N p ?_, hw⟩
  simp only [List.mem_cons, List.not_mem_nil, or_false] at hp
  rcases hp with rfl | rfl | rfl <;> assumption
theorem joinN_len : ∀ {X : List TX}, (∀ b ∈ X, b.length ≤ 6) → (joinN X).length ≤ 7 * X.length
  | [], _ => by simp [joinN]
  | [x], h => by
    have := h x List.mem_cons_self
    simp only [joinN, List.length_cons, List.length_nil]; lia
  | x :: y :: r, h => by
    have h1 := h x List.mem_cons_self
    have ih := joinN_len (X := y :: r) fun b hb => h b (List.mem_cons_of_mem _ hb)
    have e : (x :: y :: r).length = (y :: r).length + 1 := rfl
    rw [joinN, List.length_append, List.length_cons, e]
    lia
theorem path_join (X : List TX) : [47] ++ joinN X = pathL X := by
  cases X with
  | nil => rfl
  | cons x r => rw [← join_path (by simp)]; rfl
theorem com_sub : ∀ {X Y : List TX}, ∀ b ∈ comL X Y, b ∈ X
  | [], Y, b, h => by cases Y <;> simp [comL] at h
  | _ :: _, [], _, h => by simp [comL] at h
  | x :: X, y :: Y, b, h => by
    rw [comL] at h
    by_cases q : x = y
    · rw [if_pos q] at h
      rcases List.mem_cons.mp h with e | h
      · rw [e]; exact List.mem_cons_self
      · exact List.mem_cons_of_mem _ (com_sub b h)
    · rw [if_neg q] at h; cases h
theorem com_len : ∀ {X Y : List TX}, (comL X Y).length ≤ X.length
  | [], Y => by cases Y <;> simp [comL]
  | _ :: _, [] => by simp [comL]
  | x :: X, y :: Y => by
    rw [comL]
    by_cases q : x = y
    · rw [if_pos q, List.length_cons, List.length_cons]; exact Nat.succ_le_succ com_len
    · rw [if_neg q]; simp
section
variable {prog : Program} {w : World} {A : Around} {E : Value → Shared → Prop} {s : Shared} {h₀ : Heap} {L : Addr} {news : List (Addr × Obj)}
theorem join_N {a : Addr} {ws : List Value} {c : Nat} {X : List TX} {t : Tok} {Q : Value → Shared → Prop} (N : News h₀ L s.heap news) (hm : (a, listOf ws.toArray c) ∈ news) (hw : StrsAre ws (X.map S)) (hX : ∀ b ∈ X, b.length ≤ 6) (hn : X.length ≤ 1000)
    (h : ∀ t' k, Q (.str (S (joinN X)) t') { s with toks := k }) : wpAny (model prog w) A (call (.builtin "str.join") [.str (Str.ofString "/") t, .ref a]) Q E s := by
  refine KT.join_B (l := X) (g := S) 6 ⟨_, (N _ hm).1, rfl, _, rfl⟩ (by have := hw.carried; rw [List.map_map] at this; exact this) (fun b hb => by rw [S_len]; exact hX b hb) (by lia) (by rw [sep_S, S_len]; decide) fun t' k => ?_
  have e : PySem.Txt.join (Str.ofString "/") (X.map S) = S (joinN X) := by
    rw [← join_S, sep_S]
    exact StrLaws.glued_eq_join _ _
  rw [e]
  exact h t' k
end
end
-- M9
section
set_option maxRecDepth 100000
set_option maxHeartbeats 1000000
section
variable {w : World} {d u : Nat} {f : Option (List Env)} {g : Option (List Code)} {s : Shared} {E Q : Value → Shared → Prop} {mean : ExcName → Option Value} {mg mb : Str → Option Value}

theorem fsOk {prog0 : Program} {vs : List Value} {xs : List TX} {h₀ : Heap} (e : prog0 = Challenge.rw_pd0146_01.row.prog) (X : (Mine.hd.heap_39 w.params).In h₀) (T : Top Mine.hd.view_39 (looseW Mine.hd.view_39 []) mean mg mb h₀) (h : StrsAre vs (xs.map S)) : FnOk prog0 w 129 vs.toArray (fun i v => ∃ (y : TX) (t : Tok), xs[i]? = some y ∧ v = Value.str (S y) t) h₀ := by
  subst e
  intro A' i x s' Q E hh hd hx hk hQ
  (refine qE2A2 (strs_items h hx) fun y t e1 zqr3 => ?_; subst zqr3)
  obtain ⟨a1, a2, a3, a4, a5⟩ := A'
  dsimp only at hh hd
  subst hh
  exact fspath_ (Frag.In.keeps X hk) (Top.keeps T hk) (by lia) fun h' tk hk' => hQ _ h' tk ⟨y, t, e1, rfl⟩ hk'
theorem cp_ {l : Addr} {vs : List Value} {nss : List (List TX)} (X : (Mine.hd.heap_39 w.params).In s.heap) (T : Top Mine.hd.view_39 (looseW Mine.hd.view_39 []) mean mg mb s.heap) (hA2 : d < 360) (hun : u < 9000)
  (hl : s.heap.IsList l vs.toArray) (hi : StrsAre vs ((nss.map pathL).map S)) (hv2 : nss.length ≤ 14) (hne : nss ≠ []) {k : Nat} (hk : ∀ n ∈ nss, n.length = k) (hNm : ∀ n ∈ nss, n ≠ [] ∧ n.length ≤ 6 ∧ (∀ b ∈ n, IsName b) ∧ ∀ b ∈ n, b ≠ [46])
  (hQ : ∀ nm1 nm2 h' tk dr t, nm1 ∈ nss → nm2 ∈ nss → (∀ x ∈ nss, ¬ x < nm1) → (∀ x ∈ nss, ¬ nm2 < x) → Keeps s.heap h' → Q (.str (S (pathL (comL nm1 nm2))) t) {s with heap := h', toks := tk, drawn := dr}) :
  wpAny (model Challenge.rw_pd0146_01.row.prog w) (Around.mk none d f g u) (call (.ref 162) [.ref l]) Q E s := by
  refine' enterCC (binds := [("paths", .ref l)]) X T.nolimit ?k6 ?k7 (Nat.lt_trans hA2 (by decide)) (BindsTo.of_eq ?k8) ?k9 ?kD ?_ ?c1 ?c2 ?c3
  (((case k6 => k_is); (case k7 => k_is); (case k8 => rfl); (case k9 => exact rfl); (case kD => decide); (case c1 => rfl); (case c2 => rfl); (case c3 => rfl)))
  intro h₁ L' tk cells F N Y
  refine wpAny_noRaise ?_
  k_cells Y
  have hn3 : vs.length = nss.length := by rw [hi.len_eq, List.length_map, List.length_map]
  (repeat' (first | (k_unfold; (try dsimp only)) | (k_end; kc_close) | (k_here; (with_reducible show wpAny _ _ (call (Value.type "map") [Value.ref _, Value.ref _]) _ _ _); k_dflt (refine' mapN (by k_asm) (by k_asm) (by assumption) ?_); intro zrhq zrIq zrTq zrMq zrFq zrNq zrn1 zrn2 zrn3) | (k_here; (with_reducible show wpAny _ _ (call (Value.type "tuple") [Value.ref _]) _ _ _); refine stopHere ?_) | walk1 | (dsimp only; walk1) | (leave1; (try dsimp only))))
  unfold Stop
  (rename Fr _ _ _ _ => kF)
  (rename News _ _ _ _ => kN)
  refine tupleMapN kF kN hl rfl (show _ ≤ 370 from by (first | omega | (dsimp only; omega) | (simp only [depth_deeper, depth_in1, depth_caller, Around.deeper]; omega) | (simp [Around.deeper]; omega))) (by assumption) (by assumption) (by assumption) (by rw [List.size_toArray, sizeLine_eq]; lia) (fsOk rfl X T hi) ?_
  clear kF kN
  intro h' tk' D acc F N offD hacc
  have hS := strs_of_items (xs := nss.map pathL) (acc := acc.toList) (by rw [List.length_map, Array.length_toList, hacc.1, List.size_toArray, hn3]) (fun j v hj => hacc.2 j v (by simpa using hj))
  (refine qE1A1 (show ∃ ps : List Value, acc = ps.toArray from ⟨acc.toList, by simp⟩) fun ps zqr1 => ?_; subst zqr1)
  have hpl : ps.length = nss.length := by have := hacc.1; simpa [hn3] using this
  clear hacc
  simp only [List.mem_cons, List.not_mem_nil, or_false, forall_eq_or_imp, forall_eq] at offD
  rw [List.toList_toArray] at hS
  (refine qE2A1 (show ∃ a b, nss = a :: b from List.exists_cons_of_ne_nil hne) fun ns0 nss' zqr2 => ?_; subst zqr2)
  rw [List.map_cons, List.map_cons] at hS
  (refine qE2A2 (strs_cons_inv hS) fun t0 ps' zqr2 hS' => ?_; subst zqr2)
  rw [List.length_cons, List.length_cons] at hpl
  rw [List.length_cons] at hv2
  (repeat' (first | (k_unfold; (try dsimp only)) | (k_end; kc_close) | (k_here; (with_reducible show wpAny _ _ (truthy (Value.ref _)) _ _ _); k_dflt (refine' tup_true (by k_asm) (by k_mem) (by (((try simp only [sizeLine_eq, List.length_cons, List.length_nil, List.length_append, List.length_replicate, List.length_map, Array.length_toList, List.size_toArray]); omega))) ?_)) | (k_here; (with_reducible show wpAny _ _ (subscriptTail (PySem.Expr.Name _ _) (PySem.Expr.Constant _ _ _) (Value.ref _) (Value.int _ _)) _ _ _); (with_reducible show wpAny _ _ (subscriptTail _ _ (Value.ref _) (Value.int 0 _)) _ _ _); k_dflt (refine' tup_head (by k_asm) (by k_mem) ?_ (by with_unfolding_all rfl))) | (k_here; (with_reducible show wpAny _ _ (exec (Stmt.Try _ (_ :: _) _ [] _) _) _ _ _); refine wpAny_Try_except (noRaise ?_)) | (k_here; (with_reducible show wpAny _ _ (exec (PySem.Stmt.Assign (_ :: _) (PySem.Expr.ListComp _ _ _ _) _) _) _ _ _); refine stopHere ?_) | walk1 | (dsimp only; walk1) | (leave1; (try dsimp only))))
  unfold Stop
  (rename Fr _ _ _ _ => kF)
  (rename News _ _ _ _ => kN)
  rename_i os dS _ _ _ _ oc dC _ _
  (refine qE1A1 (show ∃ t, os.data = Data.cell (some (Value.str (Str.ofString "/") t)) from ⟨_, dS⟩) fun tS dS => ?_)
  (refine qE1A1 (show ∃ t, oc.data = Data.cell (some (Value.str (Str.ofString ".") t)) from ⟨_, dC⟩) fun tC dC => ?_)
  (refine qE0A2 (offD) fun hD1 hD2 => ?_; (try clear offD))
  refine genStop (P := fun s' => wpAny _ _ _ _ _ s') (s := s) [("paths", .ref D)] [(D, tupA (Value.str (S (pathL ns0)) t0 :: ps').toArray), (L' + 1 + 1, oc), (L' + 1, os)] kF kN (by first | exact agr (by with_unfolding_all rfl) | (refine ⟨?_, trivial⟩ <;> with_unfolding_all rfl)) (by first | exact subI [0, 1, 2] rfl | exact subI [1, 2, 3] rfl | exact subI [2, 3, 4] rfl | exact subI [3, 4, 5] rfl | exact ⟨by k_mem, by k_mem, by k_mem, trivial⟩) rfl ?_
  (revert hQ; revert hD2; revert hD1; revert hNm; revert hk; revert hv2; revert hpl; revert hS; revert dC; revert dS; revert hun; revert hA2; revert T; revert X; kjx_bare; (try law_clear); intro X T hA2 hun dS dC hS hpl hv2 hk hNm hD1 hD2 hQ)
  intro h tk u F N
  have hPl : (Value.str (S (pathL ns0)) t0 :: ps').length = (ns0 :: nss').length := hpl
  have hS2 : StrsAre (Value.str (S (pathL ns0)) t0 :: ps') (((ns0 :: nss').map pathL).map S) := hS
  refine' Assign_ListComp_W (h₀ := s.heap) (cl := ?cl) F rfl ?a1 ?a2 ?a3 ?a4 ?a5 ?a6 ?a7 ?a8 ?_ (by intro _; rfl)
  case a1 => rfl
  case a2 => rfl
  case a3 => decide
  case a4 => rfl
  case a5 => decide
  case a6 => rfl
  case a7 => rfl
  case a8 => rfl
  (repeat' ((fail_if_success (apply srcTup)); first | (k_unfold; (try dsimp only)) | (k_end; kc_close) | walk1 | (dsimp only; walk1) | (leave1; (try dsimp only))))
  refine srcTup rfl F N (by k_mem) (by rw [sizeLine_eq, List.size_toArray, hPl]; rw [List.length_cons]; lia) fun h5 => ?_
  refine compRest_ind (SpJ (D, tupA (Value.str (S (pathL ns0)) t0 :: ps').toArray) (L' + 1 + 1, oc) (L' + 1, os) (ns0 :: nss')) ?spstep ?_ _ 0 [] _ (by rw [Nat.zero_add]) ⟨[], rfl, trivial⟩
  case spstep =>
    (intro i ys news hi; intro zqi; refine qE1A2 zqi fun ls zqr1 hH => ?_; clear zqi; subst zqr1; intro v I oI C oC D' m₂ h tk E' hP hC hx F N off ne)
    (refine qE2A2 (strs_items hS2 hP) fun y ty hy zqr3 => ?_; subst zqr3)
    have zqb : ∃ nm, (ns0 :: nss')[i]? = some nm ∧ y = pathL nm := by
      rw [List.getElem?_map] at hy
      cases q : (ns0 :: nss')[i]? with
      | none => rw [q] at hy; cases hy
      | some nm => rw [q] at hy; exact ⟨nm, rfl, (Option.some.inj hy).symm⟩
    (refine qE1A2 zqb fun nm hnm zqr2 => ?_; clear zqb; subst zqr2)
    (refine qE0A4 (hNm nm (List.mem_of_getElem? hnm)) fun hn1 hn2 hn3 hn4 => ?_)
    (repeat' (first | (k_unfold; (try dsimp only)) | (k_end; kc_close) | (k_here; (show wpAny _ _ (call (Value.builtin _) [Value.str (S (pathL _)) _, Value.str _ _]) _ _ _); k_dflt (refine' split_N (by k_asm) (by k_asm) (by assumption) (by assumption) (by omega) ?_); intro zrhq zrkq zraq zrwsq zrcq zrFq zrNq zrn1 zrs1) | walk1 | (dsimp only; walk1) | (leave1; (try dsimp only))))
    (rename ∀ p ∈ _, _ => hA)
    exact LCg.CompEnd.intro (by assumption) (by assumption) (_ :: _ :: _ :: (_, _) :: ls) rot3 (off3 off hA) (by k_mem) ⟨_, rfl, SpJ.held hH hnm (by assumption)⟩
  (intro ys news; intro zqi; refine qE1A2 zqi fun ls zqr1 hH => ?_; clear zqi; subst zqr1; intro Dp h2 tk2 F N offD)
  rw [List.size_toArray, hPl, List.take_length] at hH
  (repeat' (first | (k_unfold; (try dsimp only)) | (k_end; kc_close) | (k_here; (with_reducible show wpAny _ _ (exec (Stmt.Try _ (_ :: _) _ [] _) _) _ _ _); refine wpAny_Try_except (noRaise ?_)) | walk1 | (dsimp only; walk1) | (leave1; (try dsimp only))))
  refine' SetComp_true (cl := ?cl) (its := (Value.str (S (pathL ns0)) t0 :: ps').toArray) ?b1 ?b2 ?b3 ?b4 ?b5 rfl F N (by k_mem) ?b6 ?b7 ?b8 ?b9 ?_ (by intro _; rfl)
  case b1 => rfl
  case b2 => decide
  case b3 => rfl
  case b4 => decide
  case b5 => rfl
  case b6 => rw [List.size_toArray, hPl, List.length_cons]; lia
  case b7 => rw [List.size_toArray, List.length_cons]; lia
  case b8 =>
    intro Q' hQ'
    k_steps
    exact hQ'
  case b9 =>
    intro i v I oI C oC D' oD m₂ h tk E' hP hC hx F N off ne
    (refine qE2A2 (strs_items hS2 hP) fun y ty hy zqr3 => ?_; subst zqr3)
    have zqb : ∃ nm, (ns0 :: nss')[i]? = some nm ∧ y = pathL nm := by
      rw [List.getElem?_map] at hy
      cases q : (ns0 :: nss')[i]? with
      | none => rw [q] at hy; cases hy
      | some nm => rw [q] at hy; exact ⟨nm, rfl, (Option.some.inj hy).symm⟩
    (refine qE1A2 zqb fun nm hnm zqr2 => ?_; clear zqb; subst zqr2)
    (refine qE0A4 (hNm nm (List.mem_of_getElem? hnm)) fun hn1 hn2 hn3 hn4 => ?_)
    k_steps
    rw [starts_path]
    exact LCg.CompEnd.intro (by assumption) (by assumption) _ (fun p hp => hp) off trivial ⟨rfl, rfl⟩
  intro Ds oDs h3 tk3 F N offS hTS
  k_steps
  refine assign_true rfl hTS F (fun p hp => N p (List.mem_cons_of_mem _ hp)) fun h4 dr tk4 F N => ?_
  (repeat' (first | (k_unfold; (try dsimp only)) | (k_end; kc_close) | (k_here; (with_reducible show wpAny _ _ (exec (PySem.Stmt.Assign (_ :: _) (PySem.Expr.ListComp _ _ _ _) _) _) _ _ _); refine stopHere ?_) | walk1 | (dsimp only; walk1) | (leave1; (try dsimp only))))
  unfold Stop
  (rename Fr _ _ _ _ => kF)
  (rename News _ _ _ _ => kN)
  have hyl : ys.length = (ns0 :: nss').length := by rw [hH.len, List.length_map]
  refine' LCg.Assign_ListComp_U (h₀ := s.heap) (cl := ?cm) kF rfl ?d1 ?d2 ?d3 ?d4 ?d5 ?d6 ?d7 ?d8 ?_
  case d1 => rfl
  case d2 => rfl
  case d3 => decide
  case d4 => rfl
  case d5 => decide
  case d6 => rfl
  case d7 => rfl
  case d8 => rfl
  (repeat' ((fail_if_success (apply LCg.CompSrc.ledger)); first | (k_unfold; (try dsimp only)) | (k_end; kc_close) | walk1 | (dsimp only; walk1) | (leave1; (try dsimp only))))
  refine LCg.CompSrc.ledger rfl kF kN (by k_mem) (by rw [sizeLine_eq, List.size_toArray, hyl, List.length_cons]; lia) fun h6 => ?_
  clear kF kN
  refine compRest_ind (FlJ (Dp, LCg.lst ys) (D, tupA (Value.str (S (pathL ns0)) t0 :: ps').toArray) (L' + 1 + 1, oc) (L' + 1, os) ls (ns0 :: nss')) ?flstep ?_ _ 0 [] _ (by rw [Nat.zero_add]) ⟨ls, rfl, fun p hp => hp, trivial⟩
  case flstep =>
    (intro i zs news hi; intro zqi; refine qE1A3 zqi fun ls2 zqr1 hLs hH2 => ?_; clear zqi; subst zqr1; intro v I oI C oC D' m₂ h tk E' hP hC hx F N off ne)
    (refine qE4A4 (hH.get (by simpa using hP)) fun nm a ws c hnm zqr5 hma hws => ?_; subst zqr5)
    have hma2 := hLs _ hma
    (repeat' (first | (k_unfold; (try dsimp only)) | (k_end; kc_close) | (k_here; (with_reducible show wpAny _ _ (eval (PySem.Expr.ListComp _ _ _ _) _) _ _ _); refine stopHere ?_) | walk1 | (dsimp only; walk1) | (leave1; (try dsimp only))))
    unfold Stop
    refine' LCt.ListComp_T (h₀ := s.heap) (cl := ?ce) F ?e1 ?e2 ?e3 ?e4 ?e5 ?_
    case e1 => rfl
    case e2 => decide
    case e3 => rfl
    case e4 => decide
    case e5 => rfl
    have zqb : ∃ nm0, (ns0 :: nss')[i]? = some nm0 ∧ nm = [] :: nm0 := by
      rw [List.getElem?_map] at hnm
      cases q : (ns0 :: nss')[i]? with
      | none => rw [q] at hnm; cases hnm
      | some z => rw [q] at hnm; exact ⟨z, rfl, (Option.some.inj hnm).symm⟩
    (refine qE1A2 zqb fun nm0 hnm0 zqr2 => ?_; clear zqb; subst zqr2)
    (refine qE0A4 (hNm nm0 (List.mem_of_getElem? hnm0)) fun hn1 hn2 hn3 hn4 => ?_)
    have hwl : ws.length = nm0.length + 1 := by rw [hws.len_eq, List.length_map, List.length_cons]
    (repeat' ((fail_if_success (apply LCt.CompSrcT.ledger)); first | (k_unfold; (try dsimp only)) | (k_end; kc_close) | walk1 | (dsimp only; walk1) | (leave1; (try dsimp only))))
    refine LCt.CompSrcT.ledger rfl F N (its := ws.toArray) (k := c) (by simp only [List.mem_cons]; exact Or.inr (Or.inr (Or.inr (Or.inr (Or.inr (Or.inr (Or.inr hma2))))))) (by rw [sizeLine_eq, List.size_toArray, hwl]; lia) fun h7 => ?_
    refine compRestT_ind (fun j xs news => news = (I, oI) :: (C, oC) :: (D', LCg.lst zs) :: (Dp, LCg.lst ys) :: (D, tupA (Value.str (S (pathL ns0)) t0 :: ps').toArray) :: (L' + 1 + 1, oc) :: (L' + 1, os) :: ls2 ∧ StrsAre xs ((nm0.take (j - 1)).map S)) ?fcstep ?_ _ 0 [] _ (by rw [Nat.zero_add]) ⟨rfl, .nil⟩
    case fcstep =>
      (intro j xs _ hj; intro zqi; refine qE0A2 zqi fun zqr0 hxs => ?_; clear zqi; subst zqr0; intro v I2 oI2 C2 oC2 D2 m3 h8 tk8 E2 hP2 hC2 hx2 F N off2 ne2)
      (refine qE2A2 (strs_items hws hP2) fun y ty hy zqr3 => ?_; subst zqr3)
      k_steps
      cases j with
      | zero =>
        obtain rfl : y = [] := by simpa using hy.symm
        refine truthy_not ?_
        k_steps
        exact LCg.CompEnd.intro (by assumption) (by assumption) _ (fun p hp => hp) off2 (.inr ⟨_, by simp only [List.mem_cons]; exact Or.inr (Or.inr (Or.inr (Or.inr (Or.inr (Or.inr (Or.inr hma2)))))), rfl, _, rfl⟩) ⟨rfl, hxs⟩
      | succ j =>
        have hy' : nm0[j]? = some y := by simpa using hy
        have hym := List.mem_of_getElem? hy'
        have hy2 : (S y != Str.ofString ".") = true := by
          rw [bne_iff_ne]
          intro q
          exact hn4 y hym (S_inj q)
        have hyz := (hn3 y hym).2.2
        refine truthy_yes (hn3 y hym).1 (by lia) ?_
        k_steps
        refine LCg.CompEnd.intro (by assumption) (by assumption) _ (fun p hp => hp) off2 (.inr ⟨_, by simp only [List.mem_cons]; exact Or.inr (Or.inr (Or.inr (Or.inr (Or.inr (Or.inr (Or.inr hma2)))))), rfl, _, rfl⟩) ⟨rfl, ?_⟩
        rw [Nat.add_sub_cancel] at hxs ⊢
        rw [List.take_add_one, hy', List.map_append]
        exact KStt.strs_snoc hxs
    (intro xs _; intro zqi; refine qE0A2 zqi fun zqr0 hxs => ?_; clear zqi; subst zqr0; intro Dn h9 tk9 F N offN)
    rw [List.size_toArray, hwl, Nat.add_sub_cancel, List.take_length] at hxs
    k_steps
    exact LCg.CompEnd.intro F N ((Dp, LCg.lst ys) :: (D, tupA (Value.str (S (pathL ns0)) t0 :: ps').toArray) :: (L' + 1 + 1, oc) :: (L' + 1, os) :: (Dn, LCg.lst xs) :: ls2) rot4 (off4 off offN) (.inr ⟨_, .head _, rfl, _, rfl⟩) ⟨_, rfl, fun p hp => List.mem_cons_of_mem _ (hLs p hp), FlJ.held hH2 hnm0 hxs⟩
  (intro zs news; intro zqi; refine qE1A3 zqi fun ls2 zqr1 hLs hH2 => ?_; clear zqi; subst zqr1; intro Dq h6' tk6 F N offQ)
  rw [List.size_toArray, hyl, List.take_length] at hH2
  have hs2 : ∀ p ∈ ls2, p ∈ (Dq, LCg.lst zs) :: (Dp, LCg.lst ys) :: (D, tupA (Value.str (S (pathL ns0)) t0 :: ps').toArray) :: (L' + 1 + 1, oc) :: (L' + 1, os) :: ls2 := fun p hp => by simp [hp]
  (repeat' ((fail_if_success ((with_reducible show wpAny _ _ (call (Value.builtin "min") _) _ _ _))); first | (k_unfold; (try dsimp only)) | (k_end; kc_close) | walk1 | (dsimp only; walk1) | (leave1; (try dsimp only))))
  refine min_held rfl F N (.head _) hs2 hH2 (by simp) (by (first | exact Nat.le_of_ble_eq_true rfl | ((try simp only [units_deeper, units_in1, cLine_is]); omega) | ((try simp only [units_deeper, units_in1, cLine_is]); dsimp only; omega))) ?_
  intro h7 tk7 nm1 a1 ws1 c1 hm1 hmin hin1 hws1 F N
  (repeat' ((fail_if_success ((with_reducible show wpAny _ _ (call (Value.builtin "max") _) _ _ _))); first | (k_unfold; (try dsimp only)) | (k_end; kc_close) | walk1 | (dsimp only; walk1) | (leave1; (try dsimp only))))
  (rename Fr _ _ _ _ => kF)
  (rename News _ _ _ _ => kN)
  refine max_held rfl kF kN (.head _) hs2 hH2 (by simp) (by (first | exact Nat.le_of_ble_eq_true rfl | ((try simp only [units_deeper, units_in1, cLine_is]); omega) | ((try simp only [units_deeper, units_in1, cLine_is]); dsimp only; omega))) ?_
  clear kF kN
  intro h8 tk8 nm2 a2 ws2 c2 hm2 hmax hin2 hws2 F N
  (repeat' (first | (k_unfold; (try dsimp only)) | (k_end; kc_close) | (k_here; (with_reducible show wpAny _ _ (call (Value.type "enumerate") [Value.ref _]) _ _ _); refine stopHere ?_) | walk1 | (dsimp only; walk1) | (leave1; (try dsimp only))))
  unfold Stop
  have hl12 : nm1.length = nm2.length := (hk _ hm1).trans (hk _ hm2).symm
  have hz1 : nm1.length ≤ 6 := (hNm _ hm1).2.1
  have hw1 : ws1.length = nm1.length := by rw [hws1.len_eq, List.length_map]
  have hw2 : ws2.length = nm2.length := by rw [hws2.len_eq, List.length_map]
  (rename Fr _ _ _ _ => kF)
  (rename News _ _ _ _ => kN)
  refine genStop (P := fun s' => wpAny _ _ _ _ _ s') (s := { s with drawn := dr }) [("isabs", .bool true), ("s1", .ref a1), ("s2", .ref a2), ("common", .ref a1)] [(a1, W.listOf ws1.toArray c1), (a2, W.listOf ws2.toArray c2), (L' + 1 + 1, oc), (L' + 1, os)] kF kN (by first | exact agr (by with_unfolding_all rfl) | (refine ⟨?_, ?_, ?_, ?_, trivial⟩ <;> with_unfolding_all rfl)) (by exact ⟨hs2 _ hin1, hs2 _ hin2, by k_mem, by k_mem, trivial⟩) rfl ?_
  (revert hw2; revert hw1; revert hz1; revert hl12; revert hws2; revert hws1; revert hmax; revert hmin; revert hm2; revert hm1; revert hQ; revert hNm; revert hk; revert dC; revert dS; revert hun; revert hA2; revert T; revert X; kjx_bare; (try law_clear); intro X T hA2 hun dS dC hk hNm hQ hm1 hm2 hmin hmax hws1 hws2 hl12 hz1 hw1 hw2)
  intro h9 tk9 u9 F N
  refine enumN (ComB s.heap L' { s with drawn := dr } (L' + 1 + 1, oc) (L' + 1, os) (comL nm1 nm2)) (news := [(a1, W.listOf ws1.toArray c1), (a2, W.listOf ws2.toArray c2), (L' + 1 + 1, oc), (L' + 1, os)]) (ComJ a1 a2 nm1 nm2) rfl F N (.head _) ⟨_, (by first | exact agr (by with_unfolding_all rfl) | (refine ⟨?_, ?_, ?_, ?_, trivial⟩ <;> with_unfolding_all rfl)), rfl, rfl⟩ ?eturn ?edone ?etail
  case eturn =>
    (intro i v t nl own h tk u hv; intro zqi; refine qE0A2 zqi fun zqr0 hEq => ?_; clear zqi; subst zqr0; intro F N)
    (refine qE2A2 (strs_items hws1 (by simpa using hv)) fun y ty hy zqr3 => ?_; subst zqr3)
    replace N : News s.heap L' h ((a1, W.listOf ws1.toArray c1) :: (a2, W.listOf ws2.toArray c2) :: (L' + 1 + 1, oc) :: (L' + 1, os) :: own) := N
    have hil : i < nm1.length := (List.getElem?_eq_some_iff.mp hy).1
    have hy2 : nm2[i]? = some nm2[i] := List.getElem?_eq_getElem (by lia)
    generalize nm2[i] = y2 at hy2
    (repeat' ((fail_if_success ((with_reducible show wpAny _ _ (subscriptTail _ _ _ _) _ _ _))); first | (k_unfold; (try dsimp only)) | (k_end; kc_close) | walk1 | (dsimp only; walk1) | (leave1; (try dsimp only))))
    (rename News _ _ _ _ => kN)
    refine item_SN kN (by k_mem) hws2 hy2 (by lia) fun t2 => ?_
    by_cases hxy : y = y2
    · subst hxy
      have hb : (S y != S y) = false := by simp
      k_steps
      refine EnumEnd.go (by assumption) (by first | exact agr (by with_unfolding_all rfl) | (refine ⟨?_, ?_, ?_, ?_, trivial⟩ <;> with_unfolding_all rfl)) (by assumption) ⟨rfl, ?_⟩
      rw [List.take_add_one, List.take_add_one, hEq, hy, hy2]
    · have hb : (S y != S y2) = true := by
        rw [bne_iff_ne]
        exact fun q => hxy (S_inj q)
      have hpk : kms_pick ws1.toArray.toList none (some (i : Int)) = ws1.take i := pick_take _ _ (by rw [hw1]; lia)
      (repeat' (first | (k_unfold; (try dsimp only)) | (k_end; kc_close) | (k_here; (with_reducible show wpAny _ _ (subscriptTail (PySem.Expr.Name _ _) (PySem.Expr.Slice _ _ _ _) (Value.ref _) (Value.ref _)) _ _ _); (with_reducible show wpAny _ _ (subscriptTail _ (PySem.Expr.Slice _ _ none _) (Value.ref _) (Value.ref _)) _ _ _); k_dflt (refine' kms_slice_lit (by k_asm) (by k_asm) (by kmk_list) (by kmk_part) (by kmk_part) (by exact rfl) ?_ (by with_unfolding_all rfl) (by kmk_pure) (by (((try simp only [sizeLine_eq, List.length_cons, List.length_nil, List.length_append, List.length_replicate, List.length_map, Array.length_toList, List.size_toArray]); omega)))); intro zrDq zrhq zrFq zrNq zrl1; (try k_lt zrl1); (try k_sweep)) | walk1 | (dsimp only; walk1) | (leave1; (try dsimp only))))
      dsimp only [EnumEnd]
      refine ComB.intro (by assumption) (by first | exact agr (by with_unfolding_all rfl) | (refine ⟨?_, ?_, trivial⟩ <;> with_unfolding_all rfl)) (by assumption) (.head _) (by k_mem) (by k_mem) ?_
      rw [hpk, com_stop hEq hy hy2 hxy, List.map_take]
      exact strs_take _ hws1
  case edone =>
    (intro nl h tk u; intro zqi; refine qE0A2 zqi fun zqr0 hEq => ?_; clear zqi; subst zqr0; intro F N)
    refine ComB.intro F (by first | exact agr (by with_unfolding_all rfl) | (refine ⟨?_, ?_, trivial⟩ <;> with_unfolding_all rfl)) N (.head _) (by k_mem) (by k_mem) ?_
    rw [hw1, List.take_length, hl12, List.take_length] at hEq
    rw [← hEq, com_same]
    exact hws1
  case etail =>
    (intro _; rintro ⟨h, tk, u, aC, wsC, cC, rfl, F, N, hws⟩)
    have hcz : ∀ b ∈ comL nm1 nm2, b.length ≤ 6 := fun b hb => ((hNm _ hm1).2.2.1 b (com_sub b hb)).2.2
    have hcl : (comL nm1 nm2).length ≤ 6 := Nat.le_trans com_len hz1
    (repeat' ((fail_if_success ((with_reducible show wpAny _ _ (call (Value.builtin "str.join") _) _ _ _))); first | (k_unfold; (try dsimp only)) | (k_end; kc_close) | walk1 | (dsimp only; walk1) | (leave1; (try dsimp only))))
    (rename News _ _ _ _ => kN)
    refine join_N kN (.head _) hws hcz (by lia) fun t' k' => ?_
    clear kN
    have hjl : (S (joinN (comL nm1 nm2))).length ≤ 42 := by
      rw [S_len]
      have := joinN_len hcz
      lia
    generalize hjn : S (joinN (comL nm1 nm2)) = J at hjl
    k_steps
    rw [← hjn, sep_S, S_app, path_join]
    exact hQ nm1 nm2 _ _ _ _ hm1 hm2 hmin hmax (Fr.keep (by assumption))
end
end
-- N5
section
set_option maxRecDepth 100000
set_option maxHeartbeats 1000000
section
variable {M : Model} {A : Around} {E : Value → Shared → Prop} {s : Shared}
theorem leavesNewW {base h : Heap} {env : Env} {outer : List Env} {L e : Addr} {X : String} {Q : Unit → Shared → Prop} (hfr : A.frames = some (env :: outer)) (hf : env.frame = some L) (hkb : base.StaysIn h) (hl : h.FunFrames base (env :: outer)) (hx : Heap.NewExc h s.heap e X)
    (hQ : ∀ h' a0, Heap.FlyingW base outer e (.type X) a0 h' → s.heap.UpToSlots h' → Q () { s with heap := h' }) : wpAny M A (leaving env (.ref e)) Q E s := by
  (refine qE2A3 (hx.there) fun ob tp he hcls hd => ?_)
  have hen : base.get? e = none := by
    cases hq : base.get? e with
    | none => rfl
    | some o' => have := hkb e o' hq; rw [hx.new] at this; cases this
  refine wpAny_leaving_firstW (a0 := tp) hfr (hl.of_keeps fun b o hb _ => ⟨o, hx.keeps b o hb, rfl⟩) hf he (fun b o hb => hx.keeps b o (hkb b o hb)) hen hd rfl (by simp) fun h' hL => ?_
  obtain ⟨k1, ⟨_, _, k2⟩, k3, k4⟩ := hL
  rw [hcls] at k3
  exact hQ h' tp ⟨k1, hen, k2, k3⟩ k4
end
end
-- N6
section
set_option maxRecDepth 100000
set_option maxHeartbeats 1000000
theorem chunks_dot : ∀ (ws : List Int) (low : Int) (n : Nat), ∀ b ∈ chunks ws low n, b ≠ [46]
  | [], _, _, b, h => by cases h
  | w :: r, low, n, b, h => by
    rw [chunks] at h
    rcases List.mem_cons.mp h with e | h
    · subst e
      intro q
      have := digW_dig w.toNat (n / 10 ^ (low - w).toNat) 46 (by rw [q]; exact List.mem_cons_self)
      lia
    · exact chunks_dot r _ n b h
theorem wid_len : ∀ {ws : List Int}, (∀ w ∈ ws, 1 ≤ w) → (ws.length : Int) ≤ ws.sum
  | [], _ => by simp
  | w :: r, h => by
    have h1 := h w List.mem_cons_self
    have ih := wid_len fun x hx => h x (List.mem_cons_of_mem _ hx)
    rw [List.sum_cons, List.length_cons]; lia
theorem share_eq {ws ms : List Int} {mn mx : Int} (hw : ∀ i ∈ ws, 1 ≤ i ∧ i ≤ 6) (hsum : ws.sum = 6) (hmn : IsMin mn ms) (hmx : IsMax mx ms) (hmr : ∀ x ∈ ms, 0 ≤ x ∧ x < 1000000) {nm1 nm2 : List TX}
    (h1 : nm1 ∈ ms.map fun x => chunks ws 6 x.toNat) (h2 : nm2 ∈ ms.map fun x => chunks ws 6 x.toNat) (hn1 : ∀ x ∈ ms.map fun x => chunks ws 6 x.toNat, ¬ x < nm1) (hn2 : ∀ x ∈ ms.map fun x => chunks ws 6 x.toNat, ¬ nm2 < x) :
    comL nm1 nm2 = chunks (ws.take (cntL mn.toNat mx.toNat ws 6)) 6 mn.toNat := by
  have hw1 : ∀ i ∈ ws, 1 ≤ i := fun i hi => (hw i hi).1
  (refine qE1A2 (List.mem_map.mp h1) fun a ha zqr2 => ?_; subst zqr2)
  (refine qE1A2 (List.mem_map.mp h2) fun b hb zqr2 => ?_; subst zqr2)
  have q1 := hn1 _ (List.mem_map_of_mem hmn.1)
  have q2 := hn2 _ (List.mem_map_of_mem hmx.1)
  rw [chunks_lt ws 6 _ _ hw1 hsum] at q1 q2
  have r1 := hmr _ ha
  have r2 := hmr _ hb
  have r3 := hmr _ hmn.1
  have r4 := hmr _ hmx.1
  have g1 := hmn.2 _ ha
  have g2 := hmx.2 _ hb
  have e6 : (10 : Nat) ^ (6 : Int).toNat = 1000000 := by decide
  have t (x : Int) (h : 0 ≤ x ∧ x < 1000000) : x.toNat < 1000000 := (Int.toNat_lt h.1).mpr h.2
  rw [e6, Nat.mod_eq_of_lt (t _ r1), Nat.mod_eq_of_lt (t _ r3)] at q1
  rw [e6, Nat.mod_eq_of_lt (t _ r4), Nat.mod_eq_of_lt (t _ r2)] at q2
  have e1 : a = mn := Int.le_antisymm (Int.not_lt.mp fun z => q1 ((ar17 r3.1 r1.1).mpr z)) g1
  have e2 : b = mx := Int.le_antisymm g2 (Int.not_lt.mp fun z => q2 ((ar17 r2.1 r4.1).mpr z))
  subst e1; subst e2
  exact com_cnt _ _ ws 6 hw1 hsum (by rw [e6, Nat.div_eq_of_lt (t _ r1), Nat.div_eq_of_lt (t _ r2)])
end
-- M11
section
set_option maxRecDepth 100000
set_option maxHeartbeats 1000000
section
variable {w : World} {d u : Nat} {f : Option (List Env)} {g : Option (List Code)} {s : Shared} {E Q : Value → Shared → Prop} {mean : ExcName → Option Value} {mg mb : Str → Option Value}

theorem holdsN_ {l l2 l3 : Addr} {vs vs2 vs3 : List Value} {ns ms : List Int} {mn mx : Int} (X : (Mine.hd.heap_39 w.params).In s.heap) (T : Top Mine.hd.view_39 (looseW Mine.hd.view_39 []) mean mg mb s.heap) (hA2 : d < 350) (hun : u < 8000)
  (hl : s.heap.IsList l vs.toArray) (hi : IntsAre vs ns) (hw : ∀ i ∈ ns, 1 ≤ i ∧ i ≤ 6) (hsum : ns.sum = 6) (hl2 : s.heap.IsList l2 vs2.toArray) (hi2 : IntsAre vs2 ms) (hmn : IsMin mn ms) (hmx : IsMax mx ms) (hms2 : ms.length ≤ 14) (hmr : ∀ x ∈ ms, 0 ≤ x ∧ x < 1000000)
  (hl3 : s.heap.IsList l3 vs3.toArray) (hi3 : StrsAre vs3 ((ms.map (pathN ns)).map S))
  (hQ : ∀ h' tk dr, Keeps s.heap h' → Q (.bool true) {s with heap := h', toks := tk, drawn := dr}) :
  wpAny (model Challenge.rw_pd0146_01.row.prog w) (Around.mk none d f g u) (call (.ref 230) [.ref l, .ref l2, .ref l3]) Q E s := by
  have hw1 : ∀ i ∈ ns, 1 ≤ i := fun i hi => (hw i hi).1
  have hnl : (ns.length : Int) ≤ 6 := hsum ▸ wid_len hw1
  have hvl : vs.length = ns.length := hi.length
  have hne : ms ≠ [] := fun q => by have := hmn.1; rw [q] at this; cases this
  have hms1 : 1 ≤ ms.length := List.length_pos_iff.mpr hne
  have hn0 : ns ≠ [] := fun q => by rw [q] at hsum; simp at hsum
  have hi3' : StrsAre vs3 (((ms.map fun x => chunks ns 6 x.toNat).map pathL).map S) := by
    have e : (ms.map fun x => chunks ns 6 x.toNat).map pathL = ms.map (pathN ns) := by rw [List.map_map]; rfl
    rw [e]; exact hi3
  refine' enterC (binds := [("widths", .ref l), ("numbers", .ref l2), ("paths", .ref l3)]) X T.nolimit ?k6 ?k7 (Nat.lt_trans hA2 (by decide)) (BindsTo.of_eq ?k8) ?k9 ?_ ?c1 ?c2 ?c3 ?c4
  (((case k6 => k_is); (case k7 => k_is); (case k8 => rfl); (case k9 => exact locs (by rfl)); (case c1 => rfl); (case c2 => rfl); (case c3 => rfl); (case c4 => decide)))
  intro h₁ L' F N
  refine wpAny_noRaise ?_
  (repeat' (first | (k_unfold; (try dsimp only)) | (k_end; kc_close) | (k_here; (with_reducible show wpAny _ _ (exec (Stmt.Try _ (_ :: _) _ [] _) _) _ _ _); refine wpAny_Try_except (noRaise ?_)) | (k_here; (with_reducible show wpAny _ _ (call (Value.ref 162) [Value.ref _]) _ _ _); refine stopHere ?_) | walk1 | (dsimp only; walk1) | (leave1; (try dsimp only))))
  unfold Stop
  (rename Fr _ _ _ _ => kF)
  (rename News _ _ _ _ => kN)
  refine cp_ (nss := ms.map fun x => chunks ns 6 x.toNat) (k := ns.length) (Frag.In.keeps X kF.keep) (Top.keeps T kF.keep) (by (first | omega | (dsimp only; omega) | (simp only [depth_deeper, depth_in1, depth_caller, Around.deeper]; omega) | (simp [Around.deeper]; omega))) (by (first | exact Nat.le_of_ble_eq_true rfl | ((try simp only [units_deeper, units_in1, cLine_is]); omega) | ((try simp only [units_deeper, units_in1, cLine_is]); dsimp only; omega))) (hl3.at fun o e => kF.keep _ _ e) hi3' (by rw [List.length_map]; exact hms2) (by simpa using hne) ?kk ?kn ?_
  case kk =>
    intro n hn
    (refine qE1A2 (List.mem_map.mp hn) fun x _ zqr2 => ?_; subst zqr2)
    exact chunks_len _ _ _
  case kn =>
    intro n hn
    (refine qE1A2 (List.mem_map.mp hn) fun x _ zqr2 => ?_; subst zqr2)
    refine ⟨fun q => hn0 ?_, by rw [chunks_len]; lia, chunks_name _ _ _ hw, chunks_dot _ _ _⟩
    have := congrArg List.length q
    rw [chunks_len] at this
    exact List.length_eq_zero_iff.mp this
  intro nm1 nm2 h2 tk2 dr2 t2 m1 m2 b1 b2 hk2
  rw [share_eq hw hsum hmn hmx hmr m1 m2 b1 b2]
  replace kF := kF.grownK hk2
  replace kN := kN.grown hk2
  clear m1 m2 b1 b2 hk2 hi3 hi3'
  dsimp only
  (repeat' (first | (k_unfold; (try dsimp only)) | (k_end; kc_close) | (k_here; (with_reducible show wpAny _ _ (compareOp CmpOp.NotEq (Value.ref _) (Value.ref _)) _ _ _); k_dflt (refine' ke_ne_ints (by kmk_list) (by kmk_list) (by (first | assumption | (repeat (first | exact IntsAre.nil | refine IntsAre.cons _ _ ?_)))) (by (first | assumption | (repeat (first | exact IntsAre.nil | refine IntsAre.cons _ _ ?_)))) (by (first | exact Nat.le_of_ble_eq_true rfl | ((try simp only [units_deeper, units_in1, cLine_is]); omega) | ((try simp only [units_deeper, units_in1, cLine_is]); dsimp only; omega))) ?_)) | (k_here; (with_reducible show wpAny _ _ (call (Value.ref 216) [Value.ref _, Value.ref _]) _ _ _); refine stopHere ?_) | walk1 | (dsimp only; walk1) | (leave1; (try dsimp only))))
  unfold Stop
  (rename Fr _ _ _ _ => kF)
  (rename News _ _ _ _ => kN)
  refine shared_ (Frag.In.keeps X kF.keep) (Top.keeps T kF.keep) (by (first | omega | (dsimp only; omega) | (simp only [depth_deeper, depth_in1, depth_caller, Around.deeper]; omega) | (simp [Around.deeper]; omega))) (hl.at fun o e => kF.keep _ _ e) hi (by lia) (by lia) hw hsum (hl2.at fun o e => kF.keep _ _ e) hi2 hmn hmx hms1 hms2 hmr ?_
  intro h3 tk3 t3 hk3
  replace kF := kF.grownK hk3
  replace kN := kN.grown hk3
  clear hk3
  dsimp only
  k_steps
  rw [beq_self_eq_true]
  exact hQ _ _ _ (Fr.keep (by assumption))
end
end
-- M10
section
set_option maxRecDepth 100000
set_option maxHeartbeats 1000000
section
variable {w : World} {d u : Nat} {f : Option (List Env)} {g : Option (List Code)} {s : Shared} {E Q : Value → Shared → Prop} {mean : ExcName → Option Value} {mg mb : Str → Option Value}

theorem cpX_ {base : Heap} {envs : List Env} {frs : List (Addr × Obj)} {l : Addr} (X : (Mine.hd.heap_39 w.params).In s.heap) (T : Top Mine.hd.view_39 (looseW Mine.hd.view_39 []) mean mg mb s.heap) (hA2 : d < 360)
  (hl : s.heap.IsList l #[]) (hbs : base.StaysIn s.heap) (hbz : base.objs.size ≤ s.heap.objs.size) (Fs : TI.Frs envs frs) (hfrs : ∀ p ∈ frs, s.heap.get? p.1 = some p.2 ∧ base.get? p.1 = none) (hff : f = some envs)
  (hE : ∀ h' tk e a0, Heap.FlyingW base envs e (.type "ValueError") a0 h' → s.heap.UpToSlots h' → E (.ref e) {s with heap := h', toks := tk}) :
  wpAny (model Challenge.rw_pd0146_01.row.prog w) (Around.mk none d f g u) (call (.ref 162) [.ref l]) Q E s := by
  subst hff
  refine' enterCC (binds := [("paths", .ref l)]) X T.nolimit ?k6 ?k7 (Nat.lt_trans hA2 (by decide)) (BindsTo.of_eq ?k8) ?k9 ?kD ?_ ?c1 ?c2 ?c3
  (((case k6 => k_is); (case k7 => k_is); (case k8 => rfl); (case k9 => exact rfl); (case kD => decide); (case c1 => rfl); (case c2 => rfl); (case c3 => rfl)))
  intro h₁ L' tk cells F N Y
  k_cells Y
  (repeat' (first | (k_unfold; (try dsimp only)) | (k_end; kc_close) | (k_here; (with_reducible show wpAny _ _ (call (Value.type "map") [Value.ref _, Value.ref _]) _ _ _); k_dflt (refine' mapN (by k_asm) (by k_asm) (by assumption) ?_); intro zrhq zrIq zrTq zrMq zrFq zrNq zrn1 zrn2 zrn3) | (k_here; (with_reducible show wpAny _ _ (call (Value.type "tuple") [Value.ref _]) _ _ _); refine stopHere ?_) | walk1 | (dsimp only; walk1) | (leave1; (try dsimp only))))
  unfold Stop
  (rename Fr _ _ _ _ => kF)
  (rename News _ _ _ _ => kN)
  refine tupleMapN kF kN hl rfl (show _ ≤ 370 from by (first | omega | (dsimp only; omega) | (simp only [depth_deeper, depth_in1, depth_caller, Around.deeper]; omega) | (simp [Around.deeper]; omega))) (by assumption) (by assumption) (by assumption) (by decide) (f := 129) (P := fun _ _ => False) (fun A' i x s' Q E hh hd hx hk hQ => by simp at hx) ?_
  clear kF kN
  intro h' tk' D acc F N offD hacc
  obtain rfl : acc = #[] := Array.eq_empty_of_size_eq_zero hacc.1
  (repeat' (first | (k_unfold; (try dsimp only)) | (k_end; kc_close) | (k_here; (with_reducible show wpAny _ _ (truthy (Value.ref _)) _ _ _); k_dflt (refine' tup_false (by k_asm) (by k_mem) ?_)) | (k_here; (with_reducible show wpAny _ _ (exec (PySem.Stmt.Raise (some _) none _) _) _ _ _); refine Raise_new rfl ?_) | (k_here; (with_reducible show wpAny _ _ (leaving _ (Value.ref _)) _ _ _); refine stopHere ?_) | walk1 | (dsimp only; walk1) | (leave1; (try dsimp only))))
  unfold Stop
  (rename Heap.NewExc _ _ _ _ => kX)
  (rename Fr _ _ _ _ => kF)
  refine leavesNewW (base := base) (outer := envs) rfl rfl (fun b o e => kF.keep b o (hbs b o e)) ?ff kX fun h5 a0 FW up => ?_
  case ff =>
    exact Heap.FunFrames.cons (show ScopeKind.function ≠ ScopeKind.module by decide) rfl kF.ns (Heap.get?_none_of_le (Nat.le_trans hbz kF.above)) (frsFun Fs (fun p hp => kF.keep _ _ (hfrs p hp).1) fun p hp => (hfrs p hp).2)
  exact hE _ _ _ a0 FW fun b o e1 hn => up b o (kX.keeps b o (kF.keep b o e1)) hn
end
end
-- M12
section
set_option maxRecDepth 100000
set_option maxHeartbeats 1000000
section
variable {w : World} {d u : Nat} {f : Option (List Env)} {g : Option (List Code)} {s : Shared} {E Q : Value → Shared → Prop} {mean : ExcName → Option Value} {mg mb : Str → Option Value}

theorem holdsE_ {env : Env} {h₀ : Heap} {L l l2 l3 : Addr} {m : Str → Option Value} {news : List (Addr × Obj)}
  (F₀ : Fr h₀ L s.heap m) (N₀ : News h₀ L s.heap news) (X₀ : (Mine.hd.heap_39 w.params).In h₀) (T₀ : Top Mine.hd.view_39 (looseW Mine.hd.view_39 []) mean mg mb h₀) (hf : env.frame = some L) (hke : env.scope.kind = .function) (hA2 : d < 350) (hun : u < 8000)
  (hl2L : l2 ≠ L) (hl3L : l3 ≠ L) (hl2 : s.heap.IsList l2 #[]) (hl3 : s.heap.IsList l3 #[])
  (hQ : ∀ h' tk, Fr h₀ L h' m → News h₀ L h' news → Q (.bool true) {s with heap := h', toks := tk}) :
  wpAny (model Challenge.rw_pd0146_01.row.prog w) (Around.mk none d (some [env]) g u) (call (.ref 230) [.ref l, .ref l2, .ref l3]) Q E s := by
  refine' enterH (hid := []) (env := env) (binds := [("widths", .ref l), ("numbers", .ref l2), ("paths", .ref l3)]) F₀ X₀ T₀ News.nil hf hke ?k6 ?k7 (Nat.lt_trans hA2 (by decide)) (BindsTo.of_eq ?k8) ?k9 ?_ ?c1 ?c2 ?c3 ?c4
  (((case k6 => k_is); (case k7 => k_is); (case k8 => rfl); (case k9 => exact locs (by rfl)); (case c1 => rfl); (case c2 => rfl); (case c3 => rfl); (case c4 => decide)))
  intro g oL h₁ L' tiC tiF _ hk0 X T hup hsub F N
  rw [List.nil_append] at N
  have hlg : g.IsList l3 #[] := by obtain ⟨o, h1, h2⟩ := hl3; exact ⟨o, hup _ _ h1 hl3L (fun q hq => by cases hq), h2⟩
  have hlg2 : g.IsList l2 (List.toArray []) := by obtain ⟨o, h1, h2⟩ := hl2; exact ⟨o, hup _ _ h1 hl2L (fun q hq => by cases hq), h2⟩
  clear F₀ X₀ T₀ hl2 hl3
  (repeat' (first | (k_unfold; (try dsimp only)) | (k_end; kc_close) | (k_here; (with_reducible show wpAny _ _ (call (Value.ref 162) [Value.ref _]) _ _ _); refine stopHere ?_) | walk1 | (dsimp only; walk1) | (leave1; (try dsimp only))))
  unfold Stop
  (refine qE3A3 (F.ns) fun oL' eL pL hL1 hL2 hL3 => ?_)
  have NL := N _ List.mem_cons_self
  refine cpX_ (base := g) (envs := [_, env]) (frs := [(L', oL'), (L, oL)]) (Frag.In.keeps X F.keep) (Top.keeps T F.keep) (by (first | omega | (dsimp only; omega) | (simp only [depth_deeper, depth_in1, depth_caller, Around.deeper]; omega) | (simp [Around.deeper]; omega))) (Heap.IsList.at hlg fun o e => F.keep _ _ e) F.keep (Nat.le_trans F.above (Nat.le_of_lt F.ns.lt)) ⟨show ScopeKind.function ≠ ScopeKind.module by decide, rfl, ⟨eL, pL, hL2⟩, tiF⟩ ?frs rfl ?_
  case frs =>
    intro p hp
    (first | (revert p; refine alC ?_ (fun p hp => ?_)) | rcases List.mem_cons.mp hp with rfl | hp)
    · exact ⟨hL1, Heap.get?_none_of_le F.above⟩
    · rw [List.mem_singleton.mp hp]
      exact ⟨NL.1, NL.2.2⟩
  intro h5 tk5 e a0 FW up
  refine wpAny_looks_onW rfl rfl FW fun h6 HW up6 => ?_
  (refine qE1A1 (heldUp F N tiC.dict HW (up.trans up6)) fun sl hh => ?_)
  have tiF2 := frs_sl (sl := sl) tiF
  have hh2 := hh.held
  clear HW up up6 FW tiF NL hL1 hL2 hL3 F N
  k_steps
  (rename Fr _ _ _ _ => kF2)
  (rename News _ _ _ _ => kN2)
  (refine qE0A2 (backN (fresh := []) tiC hk0 hup (fun p hp q hq => by cases hq) N₀ kF2 kN2 (by k_mem) (by exact trivial)) fun F9 N9 => ?_)
  exact hQ _ _ F9 N9
end
end
-- L21
section
set_option maxRecDepth 100000
set_option maxHeartbeats 1000000
section
variable {w : World} {d u : Nat} {f : Option (List Env)} {g : Option (List Code)} {s : Shared} {E Q : Value → Shared → Prop} {mean : ExcName → Option Value} {mg mb : Str → Option Value}

theorem holds_ {env : Env} {h₀ : Heap} {L l l2 l3 : Addr} {m : Str → Option Value} {news : List (Addr × Obj)} {vs vs2 vs3 : List Value} {ns ms : List Int}
  (F₀ : Fr h₀ L s.heap m) (N₀ : News h₀ L s.heap news) (X₀ : (Mine.hd.heap_39 w.params).In h₀) (T₀ : Top Mine.hd.view_39 (looseW Mine.hd.view_39 []) mean mg mb h₀) (hf : env.frame = some L) (hke : env.scope.kind = .function) (hA2 : d < 350) (hun : u < 8000)
  (hl2L : l2 ≠ L) (hl3L : l3 ≠ L) (hl : s.heap.IsList l vs.toArray) (hi : IntsAre vs ns) (hW : Wid ns) (hl2 : s.heap.IsList l2 vs2.toArray) (hi2 : IntsAre vs2 ms) (hms : ms.length ≤ 14) (hmr : ∀ x ∈ ms, 0 ≤ x ∧ x < 1000000)
  (hl3 : s.heap.IsList l3 vs3.toArray) (hi3 : StrsAre vs3 ((ms.map (pathN ns)).map S))
  (hQ : ∀ h' tk dr, Fr h₀ L h' m → News h₀ L h' news → Q (.bool true) {s with heap := h', toks := tk, drawn := dr}) :
  wpAny (model Challenge.rw_pd0146_01.row.prog w) (Around.mk none d (some [env]) g u) (call (.ref 230) [.ref l, .ref l2, .ref l3]) Q E s := by
  by_cases hne : ms = []
  · subst hne
    cases hi2
    cases hi3
    exact holdsE_ F₀ N₀ X₀ T₀ hf hke hA2 hun hl2L hl3L hl2 hl3 fun h' tk F N => hQ h' tk s.drawn F N
  · (refine qE1A1 (ex_min hne) fun mn hmn => ?_)
    (refine qE1A1 (ex_max hne) fun mx hmx => ?_)
    exact holdsN_ (Frag.In.keeps X₀ F₀.keep) (Top.keeps T₀ F₀.keep) hA2 hun hl hi hW.all hW.sum hl2 hi2 hmn hmx hms hmr hl3 hi3 fun h' tk dr hk => hQ h' tk dr (F₀.grownK hk) (N₀.grown hk)
noncomputable def LawEnd (se : Shared) (H : Heap) (L : Addr) (fl : Flow) (s' : Shared) : Prop := fl = .ret (.bool true) ∧ Kept se s' ∧ ∃ m, Fr H L s'.heap m
theorem st19 {se : Shared} (hKp : Kept se s) {H : Heap} {L fa : Addr} {dc : Value} {nl : List (Str × Value)} {news : List (Addr × Obj)} {uf : Str → Option Value} (X : (Mine.hd.heap_39 w.params).In H) (T : Top Mine.hd.view_39 (looseW Mine.hd.view_39 []) mean mg mb H)
  (J : J11 Challenge.rw_pd0146_01.row.prog w L nl news) (F : Fr H L s.heap (locsOf nl uf)) (N : News H L s.heap news) :
  wpAny (model Challenge.rw_pd0146_01.row.prog w) (callerA.deeper (lawEnv lawScope L fa dc)) (exec (lawAt 19) (lawEnv lawScope L fa dc)) (LawEnd se H L) E s := by
  revert F N
  apply J
  clear J
  intro a b i x p mi un lo ga wa sh ov co va vb vx mv uv lv gv sv ovv cv na nb nx nm nu nlo nga nwa nsh nov nco xs ys ws ls gs ks op kvs cs1 tl hcs hva hvb hX hY hvx hW hop hdk hlo hmv huv hlv hls hgv hgs hsv hov hrise hmem hkl hcv
  apply hcs
  clear hcs
  intro c1 c2 c3 c4 c5 d1 d2 d3 d4 d5 F N
  dsimp only [List.cons_append, List.nil_append] at N
  generalize hsc : lawScope = sc
  conv at hsc => lhs; whnf
  subst hsc
  generalize hst : lawAt 19 = st
  conv at hst => lhs; whnf
  subst hst
  unfold lawEnv
  have hl3 := Nat.le_trans hls.length_le hX.hi
  have hl4 := Nat.le_trans hgs.length_le hY.hi
  (repeat' (first | (k_unfold; (try dsimp only)) | (k_end; kc_close) | (k_here; (with_reducible show wpAny _ _ (call (Value.ref 230) [Value.ref _, Value.ref _, Value.ref _]) _ _ _); refine stopHere ?_) | walk1 | (dsimp only; walk1) | (leave1; (try dsimp only))))
  unfold Stop
  refine holds_ F N X T rfl rfl (by (first | omega | (dsimp only; omega) | (simp only [depth_deeper, depth_in1, depth_caller, Around.deeper]; omega) | (simp [Around.deeper]; omega))) (show (4 : Nat) + 3 < 8000 by decide) (N (lo, _) (by k_mem)).2.1 (N (mi, _) (by k_mem)).2.1 ⟨_, (N (x, _) (by k_mem)).1, rfl, _, rfl⟩ hvx hW ⟨_, (N (lo, _) (by k_mem)).1, rfl, _, rfl⟩ hlv hl3 (fun q hq => hX.all q (hls.subset hq)) ⟨_, (N (mi, _) (by k_mem)).1, rfl, _, rfl⟩ hmv ?_
  intro h1 tk1 dr1 F1 N1
  clear F N
  (repeat' (first | (k_unfold; (try dsimp only)) | (k_end; kc_close) | (k_here; (with_reducible show wpAny _ _ (call (Value.ref 230) [Value.ref _, Value.ref _, Value.ref _]) _ _ _); refine stopHere ?_) | walk1 | (dsimp only; walk1) | (leave1; (try dsimp only))))
  unfold Stop
  refine holds_ F1 N1 X T rfl rfl (by (first | omega | (dsimp only; omega) | (simp only [depth_deeper, depth_in1, depth_caller, Around.deeper]; omega) | (simp [Around.deeper]; omega))) (show (4 : Nat) + 3 < 8000 by decide) (N1 (ga, _) (by k_mem)).2.1 (N1 (un, _) (by k_mem)).2.1 ⟨_, (N1 (x, _) (by k_mem)).1, rfl, _, rfl⟩ hvx hW ⟨_, (N1 (ga, _) (by k_mem)).1, rfl, _, rfl⟩ hgv hl4 (fun q hq => hY.all q (hgs.subset hq)) ⟨_, (N1 (un, _) (by k_mem)).1, rfl, _, rfl⟩ huv ?_
  intro h2 tk2 dr2 F2 N2
  k_steps
  exact ⟨rfl, hKp, _, F2⟩
end
end
-- L22
section
set_option maxRecDepth 100000
set_option maxHeartbeats 1000000
section
variable {w : World} {d u : Nat} {f : Option (List Env)} {g : Option (List Code)} {s : Shared} {E Q : Value → Shared → Prop} {mean : ExcName → Option Value} {mg mb : Str → Option Value}

theorem lawBody_eq : lawBody = [lawAt 0, lawAt 1, lawAt 2, lawAt 3, lawAt 4, lawAt 5, lawAt 6, lawAt 7, lawAt 8, lawAt 9, lawAt 10, lawAt 11, lawAt 12, lawAt 13, lawAt 14, lawAt 15, lawAt 16, lawAt 17, lawAt 18, lawAt 19] := rfl
theorem law_body {se : Shared} (hKp : Kept se s) {H : Heap} {L fa l : Addr} {dc : Value} {vs : List Value} {ns : List Int} {cs : List (Addr × Obj)} {uf : Str → Option Value} {Q : Flow → Shared → Prop} (X : (Mine.hd.heap_39 w.params).In H) (T : Top Mine.hd.view_39 (looseW Mine.hd.view_39 []) mean mg mb H) (hl : H.IsList l vs.toArray) (hi : IntsAre vs ns) (hv2 : ns.length ≤ 63)
  (F : Fr H L s.heap (locsOf [("script", .ref l)] uf)) (hc : Cells L none none none none none cs) (N : News H L s.heap cs)
  (hQ : ∀ s', LawEnd se H L (.ret (.bool true)) s' → Q (.ret (.bool true)) s') :
  wpAny (model Challenge.rw_pd0146_01.row.prog w) (callerA.deeper (lawEnv lawScope L fa dc)) (execs lawBody (lawEnv lawScope L fa dc)) Q E s := by
  rw [lawBody_eq]
  refine execs_go (st0 hKp X T hl hi hv2 F hc N) fun s1 _ _ _ k1 J1 F1 N1 => ?_
  clear F N hKp hc
  refine execs_go (st1 k1 X T J1 F1 N1) fun s2 _ _ _ k2 J2 F2 N2 => ?_
  clear J1 F1 N1
  refine execs_go (st2 k2 X T J2 F2 N2) fun s1 _ _ _ k1 J1 F1 N1 => ?_
  refine execs_go (st3 k1 X T J1 F1 N1) fun s2 _ _ _ k2 J2 F2 N2 => ?_
  refine execs_go (st4 k2 X T J2 F2 N2) fun s1 _ _ _ k1 J1 F1 N1 => ?_
  refine execs_go (st5 k1 X T J1 F1 N1) fun s2 _ _ _ k2 J2 F2 N2 => ?_
  refine execs_go (st6 k2 X T J2 F2 N2) fun s1 _ _ _ k1 J1 F1 N1 => ?_
  refine execs_go (st7 k1 X T J1 F1 N1) fun s2 _ _ _ k2 J2 F2 N2 => ?_
  refine execs_go (st8 k2 X T J2 F2 N2) fun s1 _ _ _ k1 J1 F1 N1 => ?_
  refine execs_go (st9 k1 X T J1 F1 N1) fun s2 _ _ _ k2 J2 F2 N2 => ?_
  refine execs_go (st10 k2 X T J2 F2 N2) fun s1 _ _ _ k1 J1 F1 N1 => ?_
  refine execs_go (st11 k1 X T J1 F1 N1) fun s2 _ _ _ k2 J2 F2 N2 => ?_
  refine execs_go (st12 k2 X T J2 F2 N2) fun s1 _ _ _ k1 J1 F1 N1 => ?_
  refine execs_go (st13 k1 X T J1 F1 N1) fun s2 _ _ _ k2 J2 F2 N2 => ?_
  refine execs_go (st14 k2 X T J2 F2 N2) fun s1 _ _ _ k1 J1 F1 N1 => ?_
  refine execs_go (st15 k1 X T J1 F1 N1) fun s2 _ _ _ k2 J2 F2 N2 => ?_
  refine execs_go (st16 k2 X T J2 F2 N2) fun s1 _ _ _ k1 J1 F1 N1 => ?_
  refine execs_go (st17 k1 X T J1 F1 N1) fun s2 _ _ _ k2 J2 F2 N2 => ?_
  refine execs_go (st18 k2 X T J2 F2 N2) fun s1 _ _ _ k1 J1 F1 N1 => ?_
  refine wpAny_execs_cons (wpAny_mono (st19 k1 X T J1 F1 N1) (fun fl s' p => ?_) fun _ _ e => e)
  (refine qE0A2 (id p) fun zqr0 p2 => ?_; subst zqr0)
  exact hQ s' p
end
end
-- L23
section
set_option maxRecDepth 100000
set_option maxHeartbeats 1000000
section
variable {w : World} {d u : Nat} {f : Option (List Env)} {g : Option (List Code)} {s : Shared} {E Q : Value → Shared → Prop} {mean : ExcName → Option Value} {mg mb : Str → Option Value}

set_option pp.deepTerms false in
set_option pp.deepTerms.threshold 3 in
theorem law_ : Challenge.rw_pd0146_01.Holds := by
  refine Mine.hd ?_
  k_fill
  intro w s₀ s₁ mg mb G Y fa o pm cd doc dV kV ho hd hcd hD hmg hg args vals as hpre hlay hrd hwl hlo
  have KX := kIn_of Y
  refine Ground.open G ?_
  intro T B D TE TW
  try (refine guard_noD D (by decide +kernel) ?_; clear D)
  have TA := at_of_top T
  try (obtain ⟨_, _, he, B0⟩ := based_of_top T rfl hmg ho hd; have he' : cd = _ := he; subst he'; clear he)
  clear hmg
  wrow_args hpre hlay hrd hwl hlo
  all_goals (
    first | refine callC_kw (enter_call ?_) | refine enter_call ?_ | refine callC_kw (enter_callW ?_) | refine enter_callW ?_ | w_how
    w_top on
    have K0 := below_caller (Top.heap T)
    w_call any ho hd hcd hD T F
    clear hd TA
    k_drop
    skip)
  rename_i c5 c4 c3 c2 c1 e5 e4 e3 e2 e1 N0 X0
  (rename Heap.IsList _ _ _ => hL)
  (rename IntsAre _ _ => hI)
  (rename ¬ (_ : Int) < _ => hlen)
  refine law_body (se := s₁) (cs := [(s₁.heap.objs.size + 1, c1), (s₁.heap.objs.size + 1 + 1, c2), (s₁.heap.objs.size + 1 + 1 + 1, c3), (s₁.heap.objs.size + 1 + 1 + 1 + 1, c4), (s₁.heap.objs.size + 1 + 1 + 1 + 1 + 1, c5)]) ?kp KX T hL hI (by lia) (toLocs F ?ag) (fun _ k => k c1 c2 c3 c4 c5 (e1.trans (by with_unfolding_all rfl)) (e2.trans (by with_unfolding_all rfl)) (e3.trans (by with_unfolding_all rfl)) (e4.trans (by with_unfolding_all rfl)) (e5.trans (by with_unfolding_all rfl))) ?news ?fin
  case kp => exact ⟨rfl, .of_eq hg⟩
  case ag => (refine ⟨?_, trivial⟩; with_unfolding_all rfl)
  case news =>
    exact alC (N0 _ (by k_mem)) (alC (N0 _ (by k_mem)) (alC (N0 _ (by k_mem)) (alC (N0 _ (by k_mem)) (alC (N0 _ (by k_mem)) (fun _ h => nomatch h)))))
  case fin =>
    rintro s' ⟨_, ⟨ho, hb⟩, m, F'⟩
    refine ⟨.inl ⟨_, _, [], rfl, fun _ => rfl, ReadsW.bool true, ?post, fun _ => ⟨List.nodup_nil, fun _ hm => nomatch hm⟩⟩, OldK.of_keep F'.keep, ho, hb⟩
    case post => kc_post
end
end
end Mine
theorem PySem.Challenge.cw_pd0146_01_holds : PySem.Challenge.rw_pd0146_01.Holds :=
  Mine.law_
