import PyProof.Rows.All
import Wide.All
import OpenK.AllK
import Wide.FinOn
import Lean
import PySem.Challenge.RW_to0012_01
set_option Elab.async false
section
open PySem PySem.W PyProof.Rows
set_option Elab.async false
set_option maxRecDepth 100000
set_option maxHeartbeats 8000000
namespace Mine
theorem same0 : PySem.W.namesOk = PySem.W.namesOk := rfl
end Mine
name_quick tw9011979029575296479 for PySem.W.namesOk by Mine.same0
name_quick tw1258717718454355964 for PySem.W.namesOk by Mine.same0
name_quick tw4636218855388986860 for PySem.W.namesOk by Mine.same0
name_quick tw7721631327575515661 for PySem.W.namesOk by Mine.same0
name_quick tw7275051467321613617 for PySem.W.namesOk by Mine.same0
name_quick tw10528696920762540405 for PySem.W.namesOk by Mine.same0
name_quick tw12233582284571471492 for PySem.W.namesOk by Mine.same0
name_quick tw17730448691065144110 for PySem.W.namesOk by Mine.same0
name_quick tw3619232141914619222 for PySem.W.namesOk by Mine.same0
name_quick tw1829445100760108279 for PySem.W.namesOk by Mine.same0
name_quick tw1355338860687761863 for PySem.W.namesOk by Mine.same0
name_quick tw12268644228514654432 for PySem.W.namesOk by Mine.same0
name_quick tw704327219915372674 for PySem.W.namesOk by Mine.same0
name_quick tw10010936943081839664 for PySem.W.namesOk by Mine.same0
name_quick tw151948405760981731 for PySem.W.namesOk by Mine.same0
name_quick tw14376985748213822385 for PySem.W.namesOk by Mine.same0
name_quick tw14311459727803291754 for PySem.W.namesOk by Mine.same0
name_quick tw15007238320947547705 for PySem.W.namesOk by Mine.same0
name_quick tw15168306246750427876 for PySem.W.namesOk by Mine.same0
name_quick tw951843321253372498 for PySem.W.namesOk by Mine.same0
name_quick tw14386061602966655976 for PySem.W.namesOk by Mine.same0
name_quick tw3891137856419664920 for PySem.W.namesOk by Mine.same0
name_quick tw4658958612460137192 for PySem.W.namesOk by Mine.same0
name_quick tw17964007177503468958 for PySem.W.namesOk by Mine.same0
name_quick tw5040193762218094904 for PySem.W.namesOk by Mine.same0
name_quick tw17888162413812561239 for PySem.W.namesOk by Mine.same0
name_quick tw14108194823987119177 for PySem.W.namesOk by Mine.same0
name_quick tw3577408171920636059 for PySem.W.namesOk by Mine.same0
name_quick tw2354135333415324597 for PySem.W.namesOk by Mine.same0
name_quick tw15172853278717766862 for PySem.W.namesOk by Mine.same0
name_quick tw16804044748790271530 for PySem.W.namesOk by Mine.same0
name_quick tw14126943448341045398 for PySem.W.namesOk by Mine.same0
name_quick tw12700139031502230420 for PySem.W.namesOk by Mine.same0
name_quick tw6589095468515690095 for PySem.W.namesOk by Mine.same0
name_quick tw10948738476641704880 for PySem.W.namesOk by Mine.same0
name_quick tw17975652961387846372 for PySem.W.namesOk by Mine.same0
name_quick tw11520701649476022134 for PySem.W.namesOk by Mine.same0
name_quick tw14333388528381170442 for PySem.W.namesOk by Mine.same0
name_quick tw3362959441861295915 for PySem.W.namesOk by Mine.same0
name_quick tw8579058602437062094 for PySem.W.namesOk by Mine.same0
name_quick tw16817318245366136608 for PySem.W.namesOk by Mine.same0
name_quick tw4292500188555128830 for PySem.W.namesOk by Mine.same0
name_quick tw16531745337717519161 for PySem.W.namesOk by Mine.same0
name_quick tw14884601019740666482 for PySem.W.namesOk by Mine.same0
name_quick tw17069979004554194336 for PySem.W.namesOk by Mine.same0
name_quick tw1719230996375869582 for PySem.W.namesOk by Mine.same0
name_quick tw14834023430324568649 for PySem.W.namesOk by Mine.same0
name_quick tw15263041282635125899 for PySem.W.namesOk by Mine.same0
name_quick tw5721027456603625697 for PySem.W.namesOk by Mine.same0
name_quick tw13317431791736044220 for PySem.W.namesOk by Mine.same0
name_quick tw6122645084068987007 for PySem.W.namesOk by Mine.same0
name_quick tw1537898542681612871 for PySem.W.namesOk by Mine.same0
name_quick tw5515242420486718171 for PySem.W.namesOk by Mine.same0
name_quick tw14714103240675001986 for PySem.W.namesOk by Mine.same0
name_quick tw8860024209350480642 for PySem.W.namesOk by Mine.same0
name_quick tw3778451253796500701 for PySem.W.namesOk by Mine.same0
name_quick tw9596927277562908302 for PySem.W.namesOk by Mine.same0
name_quick tw17476080006546285661 for PySem.W.namesOk by Mine.same0
name_quick tw3282434896037501709 for PySem.W.namesOk by Mine.same0
name_quick tw2627984346626558326 for PySem.W.namesOk by Mine.same0
name_quick tw16350708796919097252 for PySem.W.namesOk by Mine.same0
name_quick tw17696380409005109617 for PySem.W.namesOk by Mine.same0
name_quick tw2283851925072248500 for PySem.W.namesOk by Mine.same0
name_quick tw17954471519018878134 for PySem.W.namesOk by Mine.same0
name_quick tw4302124980754421698 for PySem.W.namesOk by Mine.same0
name_quick tw11588390666370768167 for PySem.W.namesOk by Mine.same0
name_quick tw12767683915131110723 for PySem.W.namesOk by Mine.same0
name_quick tw17000155066101142889 for PySem.W.namesOk by Mine.same0
name_quick tw4444965560193506482 for PySem.W.namesOk by Mine.same0
name_quick tw2509020472811716534 for PySem.W.namesOk by Mine.same0
name_quick tw10887116778572429059 for PySem.W.namesOk by Mine.same0
name_quick tw5349121933718820234 for PySem.W.namesOk by Mine.same0
name_quick tw15980859228951719591 for PySem.W.namesOk by Mine.same0
name_quick tw17532440430192770315 for PySem.W.namesOk by Mine.same0
name_quick tw2478078296215019888 for PySem.W.namesOk by Mine.same0
name_quick tw8206430501311747189 for PySem.W.namesOk by Mine.same0
name_quick tw3105397867545767578 for PySem.W.namesOk by Mine.same0
name_quick tw3976722010076183465 for PySem.W.namesOk by Mine.same0
name_quick tw1258299570235058372 for PySem.W.namesOk by Mine.same0
name_quick tw17672482021469178181 for PySem.W.namesOk by Mine.same0
name_quick tw3972328310683599613 for PySem.W.namesOk by Mine.same0
name_quick tw6679490504615227074 for PySem.W.namesOk by Mine.same0
name_quick tw8693227569615203950 for PySem.W.namesOk by Mine.same0
name_quick tw8753696776887207221 for PySem.W.namesOk by Mine.same0
name_quick tw6380047634161181297 for PySem.W.namesOk by Mine.same0
name_quick tw13678640442995254988 for PySem.W.namesOk by Mine.same0
name_quick tw1702518465993881591 for PySem.W.namesOk by Mine.same0
name_quick tw4549333791460862111 for PySem.W.namesOk by Mine.same0
name_quick tw8075568018651887793 for PySem.W.namesOk by Mine.same0
name_quick tw15066959818950650227 for PySem.W.namesOk by Mine.same0
name_quick tw4090926877573551719 for PySem.W.namesOk by Mine.same0
name_quick tw13335737130258781183 for PySem.W.namesOk by Mine.same0
name_quick tw6996786202571425517 for PySem.W.namesOk by Mine.same0
name_quick tw11313170107247368264 for PySem.W.namesOk by Mine.same0
name_quick tw10942035263794033107 for PySem.W.namesOk by Mine.same0
name_quick tw2862820112641550484 for PySem.W.namesOk by Mine.same0
name_quick tw13254397897704925713 for PySem.W.namesOk by Mine.same0
name_quick tw7269565832213808900 for PySem.W.namesOk by Mine.same0
name_quick tw12945451867199242903 for PySem.W.namesOk by Mine.same0
name_quick tw6957269047217186779 for PySem.W.namesOk by Mine.same0
name_quick tw4016919884179927283 for PySem.W.namesOk by Mine.same0
name_quick tw1962928258387122110 for PySem.W.namesOk by Mine.same0
name_quick tw16241802466949684156 for PySem.W.namesOk by Mine.same0
name_quick tw9315938663221665524 for PySem.W.namesOk by Mine.same0
name_quick tw10996506086634736982 for PySem.W.namesOk by Mine.same0
name_quick tw1333364371103165705 for PySem.W.namesOk by Mine.same0
name_quick tw8603108125212654177 for PySem.W.namesOk by Mine.same0
name_quick tw5591276700874282246 for PySem.W.namesOk by Mine.same0
name_quick tw16916688483869632129 for PySem.W.namesOk by Mine.same0
name_quick tw8703263022893421829 for PySem.W.namesOk by Mine.same0
name_quick tw6434138532213402376 for PySem.W.namesOk by Mine.same0
name_quick tw9948023125614773506 for PySem.W.namesOk by Mine.same0
name_quick tw16519947266957812712 for PySem.W.namesOk by Mine.same0
name_quick tw4933834842325187142 for PySem.W.namesOk by Mine.same0
name_quick tw10938465397075749097 for PySem.W.namesOk by Mine.same0
name_quick tw1414301608579184545 for PySem.W.namesOk by Mine.same0
name_quick tw17018628822417861297 for PySem.W.namesOk by Mine.same0
name_quick tw15475462885187679331 for PySem.W.namesOk by Mine.same0
name_quick tw3636048126100218174 for PySem.W.namesOk by Mine.same0
name_quick tw5706481520468235054 for PySem.W.namesOk by Mine.same0
name_quick tw6929956602132211858 for PySem.W.namesOk by Mine.same0
name_quick tw392140993173905013 for PySem.W.namesOk by Mine.same0
name_quick tw18056578402003937789 for PySem.W.namesOk by Mine.same0
name_quick tw10810343834524570367 for PySem.W.namesOk by Mine.same0
name_quick tw8537084889766193716 for PySem.W.namesOk by Mine.same0
name_quick tw11502282260701905712 for PySem.W.namesOk by Mine.same0
name_quick tw15112985482279097393 for PySem.W.namesOk by Mine.same0
name_quick tw3830411482411394332 for PySem.W.namesOk by Mine.same0
name_quick tw7892128664451923741 for PySem.W.namesOk by Mine.same0
name_quick tw6733733256287894996 for PySem.W.namesOk by Mine.same0
name_quick tw4552823106982906706 for PySem.W.namesOk by Mine.same0
name_quick tw6448080314894763839 for PySem.W.namesOk by Mine.same0
name_quick tw4679858250743294509 for PySem.W.namesOk by Mine.same0
name_quick tw13145125596335152023 for PySem.W.namesOk by Mine.same0
name_quick tw9908251947323293946 for PySem.W.namesOk by Mine.same0
name_quick tw5032809538720368765 for PySem.W.namesOk by Mine.same0
name_quick tw18345786424863182364 for PySem.W.namesOk by Mine.same0
name_quick tw9407582987413476825 for PySem.W.namesOk by Mine.same0
name_quick tw7276740287692124622 for PySem.W.namesOk by Mine.same0
name_quick tw16089473817093885840 for PySem.W.namesOk by Mine.same0
name_quick tw1437513875802745899 for PySem.W.namesOk by Mine.same0
name_quick tw1092655722715705105 for PySem.W.namesOk by Mine.same0
name_quick tw17775911367859382282 for PySem.W.namesOk by Mine.same0
name_quick tw14904524295806243326 for PySem.W.namesOk by Mine.same0
name_quick tw12866136484021002089 for PySem.W.namesOk by Mine.same0
name_quick tw11420187438672877268 for PySem.W.namesOk by Mine.same0
name_quick tw14823778421630974403 for PySem.W.namesOk by Mine.same0
name_quick tw7745614565497352828 for PySem.W.namesOk by Mine.same0
name_quick tw12299960069397203266 for PySem.W.namesOk by Mine.same0
name_quick tw6683783046931543321 for PySem.W.namesOk by Mine.same0
name_quick tw4797165386629745026 for PySem.W.namesOk by Mine.same0
name_quick tw14979626087600564940 for PySem.W.namesOk by Mine.same0
name_quick tw16738253418868177509 for PySem.W.namesOk by Mine.same0
name_quick tw470574548607681690 for PySem.W.namesOk by Mine.same0
name_quick tw2408619945344806742 for PySem.W.namesOk by Mine.same0
name_quick tw8424611434330503625 for PySem.W.namesOk by Mine.same0
name_quick tw13900631225919944168 for PySem.W.namesOk by Mine.same0
name_quick tw9862997608875712007 for PySem.W.namesOk by Mine.same0
name_quick tw8376441433122354887 for PySem.W.namesOk by Mine.same0
name_quick tw4980102563643897964 for PySem.W.namesOk by Mine.same0
name_quick tw15894407043143930727 for PySem.W.namesOk by Mine.same0
name_quick tw12750523984047038209 for PySem.W.namesOk by Mine.same0
name_quick tw11729385059970357855 for PySem.W.namesOk by Mine.same0
name_quick tw13981391230805400906 for PySem.W.namesOk by Mine.same0
name_quick tw15512758368177026203 for PySem.W.namesOk by Mine.same0
name_quick tw14326252917377295143 for PySem.W.namesOk by Mine.same0
name_quick tw16414604833108395602 for PySem.W.namesOk by Mine.same0
name_quick tw1377046205977697930 for PySem.W.namesOk by Mine.same0
name_quick tw9564595351457756722 for PySem.W.namesOk by Mine.same0
name_quick tw2719445374943340272 for PySem.W.namesOk by Mine.same0
name_quick tw15480198773659482676 for PySem.W.namesOk by Mine.same0
name_quick tw16049961110935095269 for PySem.W.namesOk by Mine.same0
name_quick tw788995980369251910 for PySem.W.namesOk by Mine.same0
name_quick tw12609378947248592450 for PySem.W.namesOk by Mine.same0
name_quick tw18211773271919218964 for PySem.W.namesOk by Mine.same0
name_quick tw9467589175468403638 for PySem.W.namesOk by Mine.same0
name_quick tw127480219056107784 for PySem.W.namesOk by Mine.same0
name_quick tw117213463901210413 for PySem.W.namesOk by Mine.same0
name_quick tw15742981410569661332 for PySem.W.namesOk by Mine.same0
name_quick tw4775785305629353868 for PySem.W.namesOk by Mine.same0
name_quick tw5902227825499142635 for PySem.W.namesOk by Mine.same0
name_quick tw9445461356028520223 for PySem.W.namesOk by Mine.same0
name_quick tw3764465048917985505 for PySem.W.namesOk by Mine.same0
name_quick tw17279654841073493023 for PySem.W.namesOk by Mine.same0
name_quick tw10424941004445345732 for PySem.W.namesOk by Mine.same0
name_quick tw13512673800721320934 for PySem.W.namesOk by Mine.same0
namespace Mine
open_top hd for PySem.Challenge.rw_to0012_01
end Mine
end
section
namespace Mine
open PySem PySem.Sre
theorem runFor_succ (n : Nat) (m : M) : M.runFor (n + 1) m = M.runFor n m.step := by
  show (if m.outcome.isSome then m else M.runFor n m.step) = _
  split
  · rename_i h
    have e : m.step = m := by unfold M.step; rw [if_pos h]
    rw [e]
    cases n with
    | zero => rfl
    | succ n => show m = (if m.outcome.isSome then m else _); rw [if_pos h]
  · rfl
theorem runFor_add (a b : Nat) (m : M) : M.runFor (a + b) m = M.runFor b (M.runFor a m) := by
  induction a generalizing m with
  | zero => rw [Nat.zero_add]; rfl
  | succ a ih => rw [Nat.add_right_comm, runFor_succ, runFor_succ, ih]
theorem runFor_done (n : Nat) {m : M} (h : m.outcome.isSome = true) : M.runFor n m = m := by
  cases n with
  | zero => rfl
  | succ n => show (if m.outcome.isSome then m else _) = m; rw [if_pos h]

noncomputable def c1 : Array Nat := #[14, 4, 0, 1, 1, 6, 1, 16, 46, 1]
noncomputable def c2 : Array Nat := #[14, 9, 4, 1, 2, 16, 10, 16, 13, 0, 7, 7, 16, 13, 16, 10, 15, 18, 5, 16, 10, 15, 13, 11, 16, 13, 5, 5, 0, 16, 10, 1, 15, 2, 0, 1]

/-- the first code's machine, about to try at s -/
noncomputable def at1 (t : Array Nat) (s : Nat) (first must : Bool) (sn : Seen) : M :=
  { code := c1, text := t, lim := t.size, start := s, lastStart := t.size, wholeText := false, mustAdvance := must, pc := 5, pos := s, handed := s, outermost := first,
    marks := #[], lastmark := -1, lastindex := -1, loops := #[], inner := none, frames := [{ wait := .nextStart, pc := 5, pos := s, outermost := first }], weight := 1, answer := none, seen := sn, outcome := none }
noncomputable def bol (t : Array Nat) (s : Nat) : Bool := s == 0 || t.getD (s - 1) 0 == 10

noncomputable def sn1 (sn : Seen) : Seen := (sn.add 6).add 44
theorem step_at_no {t : Array Nat} {s : Nat} {first must : Bool} {sn : Seen} (h : bol t s = false) : (at1 t s first must sn).step = { at1 t s first must (sn1 sn) with answer := some false } := by
  show (if (s == 0 || t.getD (s - 1) 0 == 10) = true then _ else _) = _
  unfold bol at h
  rw [h]
  rfl
theorem step_at_yes {t : Array Nat} {s : Nat} {first must : Bool} {sn : Seen} (h : bol t s = true) : (at1 t s first must sn).step = { at1 t s first must (sn1 sn) with pc := 7 } := by
  show (if (s == 0 || t.getD (s - 1) 0 == 10) = true then _ else _) = _
  unfold bol at h
  rw [h]
  rfl
theorem step_lit_end {t : Array Nat} {s : Nat} {first must : Bool} {sn : Seen} (h : t.size ≤ s) :
    ({ at1 t s first must sn with pc := 7 } : M).step = { at1 t s first must (sn.add 16) with pc := 7, answer := some false } := by
  show (if s ≥ t.size then _ else _) = _
  rw [if_pos h]
  rfl
theorem step_lit_no {t : Array Nat} {s : Nat} {first must : Bool} {sn : Seen} (h : s < t.size) (hc : (t.getD s 0 == 46) = false) :
    ({ at1 t s first must sn with pc := 7 } : M).step = { at1 t s first must (sn.add 16) with pc := 7, answer := some false } := by
  show (if s ≥ t.size then _ else (match (Except.ok (t.getD s 0 == 46, sn.add 16) : Except String (Bool × Seen)) with | .error why => _ | .ok (false, seen) => _ | .ok (true, seen) => _)) = _
  rw [if_neg (Nat.not_le.mpr h), hc]
  rfl
theorem step_lit_yes {t : Array Nat} {s : Nat} {first must : Bool} {sn : Seen} (h : s < t.size) (hc : (t.getD s 0 == 46) = true) :
    ({ at1 t s first must sn with pc := 7 } : M).step = { at1 t s first must (sn.add 16) with pc := 9, pos := s + 1 } := by
  show (if s ≥ t.size then _ else (match (Except.ok (t.getD s 0 == 46, sn.add 16) : Except String (Bool × Seen)) with | .error why => _ | .ok (false, seen) => _ | .ok (true, seen) => _)) = _
  rw [if_neg (Nat.not_le.mpr h), hc]
  rfl
theorem step_suc {t : Array Nat} {s : Nat} {first must : Bool} {sn : Seen} :
    ({ at1 t s first must sn with pc := 9, pos := s + 1 } : M).step = { at1 t s first must (sn.add 1) with pc := 9, pos := s + 1, handed := s + 1, answer := some true } := by
  show (if (first && ((false && _) || (must && (s + 1 == s)))) = true then _ else _) = _
  have e : (s + 1 == s) = false := by simp
  rw [e]
  simp
  rfl
theorem step_res_on {t : Array Nat} {s p : Nat} {first must : Bool} {sn : Seen} (h : s < t.size) :
    ({ at1 t s first must sn with pc := p, answer := some false } : M).step = at1 t (s + 1) false false sn := by
  show (if s < t.size then _ else _) = _
  rw [if_pos h]
  rfl
theorem step_res_end {t : Array Nat} {s p : Nat} {first must : Bool} {sn : Seen} (h : ¬ s < t.size) :
    ({ at1 t s first must sn with pc := p, answer := some false } : M).step = { at1 t s first must sn with frames := [], weight := 0, answer := some false } := by
  show (if s < t.size then _ else _) = _
  rw [if_neg h]
  rfl
theorem step_fin_no {t : Array Nat} {s : Nat} {first must : Bool} {sn : Seen} :
    ({ at1 t s first must sn with frames := [], weight := 0, answer := some false } : M).step = { at1 t s first must sn with frames := [], weight := 0, answer := some false, outcome := some .failed } := rfl
theorem step_res_yes {t : Array Nat} {s : Nat} {first must : Bool} {sn : Seen} :
    ({ at1 t s first must sn with pc := 9, pos := s + 1, handed := s + 1, answer := some true } : M).step = { at1 t s first must sn with handed := s + 1, frames := [], weight := 0, answer := some true } := rfl
theorem step_fin_yes {t : Array Nat} {s : Nat} {first must : Bool} {sn : Seen} :
    ({ at1 t s first must sn with handed := s + 1, frames := [], weight := 0, answer := some true } : M).step = { at1 t s first must sn with handed := s + 1, frames := [], weight := 0, answer := some true, outcome := some .matched } := rfl

/-- the machine answers within so many steps -/
noncomputable def Ends (m : M) (k : Nat) (P : M → Prop) : Prop := (M.runFor k m).outcome.isSome = true ∧ P (M.runFor k m)
theorem Ends.step {m : M} {k : Nat} {P : M → Prop} (h : Ends m.step k P) : Ends m (k + 1) P := by
  unfold Ends
  rw [runFor_succ]
  exact h
theorem Ends.now {m : M} {k : Nat} {P : M → Prop} (h : m.outcome.isSome = true) (p : P m) : Ends m k P := by
  unfold Ends
  rw [runFor_done k h]
  exact ⟨h, p⟩
theorem Ends.more {m : M} {k k' : Nat} {P : M → Prop} (h : Ends m k P) (hk : k ≤ k') : Ends m k' P := by
  obtain ⟨d, rfl⟩ := Nat.le.dest hk
  unfold Ends
  rw [runFor_add, runFor_done d h.1]
  exact h

noncomputable def hit1 (t : Array Nat) (s : Nat) : Bool := bol t s && (t.getD s 0 == 46)
/-- what the first code finds from s on: the least place of a dot at a line's begin -/
noncomputable def find1 (t : Array Nat) : Nat → Nat → Option Nat
  | 0, _ => none
  | n + 1, s => if hit1 t s then some s else find1 t n (s + 1)
noncomputable def Says1 (r : Option Nat) (m : M) : Prop := match r with
  | some s => (∃ b, m.outcome = some b ∧ b = .matched) ∧ m.start = s ∧ m.handed = s + 1
  | none => ∃ b, m.outcome = some b ∧ b = .failed
theorem ends1 (t : Array Nat) : ∀ (n s : Nat), s + n = t.size → ∀ (first must : Bool) (sn : Seen), Ends (at1 t s first must sn) (3 * n + 6) (Says1 (find1 t n s))
  | 0, s, hs, first, must, sn => by
    have hse : ¬ s < t.size := by omega
    cases hb : bol t s with
    | false =>
      refine Ends.step ?_
      rw [step_at_no hb]
      refine Ends.step ?_
      rw [step_res_end hse]
      refine Ends.step ?_
      rw [step_fin_no]
      exact Ends.now rfl ⟨_, rfl, rfl⟩
    | true =>
      refine Ends.step ?_
      rw [step_at_yes hb]
      refine Ends.step ?_
      rw [step_lit_end (by omega)]
      refine Ends.step ?_
      rw [step_res_end hse]
      refine Ends.step ?_
      rw [step_fin_no]
      exact Ends.now rfl ⟨_, rfl, rfl⟩
  | n + 1, s, hs, first, must, sn => by
    have hse : s < t.size := by omega
    have go : ∀ sn', Ends (at1 t (s + 1) false false sn') (3 * n + 6) (Says1 (find1 t n (s + 1))) := fun sn' => ends1 t n (s + 1) (by omega) false false sn'
    cases hb : bol t s with
    | false =>
      have e : find1 t (n + 1) s = find1 t n (s + 1) := by simp [find1, hit1, hb]
      rw [e]
      refine Ends.more (k := 3 * n + 6 + 1 + 1) ?_ (by omega)
      refine Ends.step ?_
      rw [step_at_no hb]
      refine Ends.step ?_
      rw [step_res_on hse]
      exact go _
    | true =>
      cases hc : (t.getD s 0 == 46) with
      | false =>
        have e : find1 t (n + 1) s = find1 t n (s + 1) := by simp only [find1, hit1, hb, hc]; rfl
        rw [e]
        refine Ends.more (k := 3 * n + 6 + 1 + 1 + 1) ?_ (by omega)
        refine Ends.step ?_
        rw [step_at_yes hb]
        refine Ends.step ?_
        rw [step_lit_no hse hc]
        refine Ends.step ?_
        rw [step_res_on hse]
        exact go _
      | true =>
        have e : find1 t (n + 1) s = some s := by simp only [find1, hit1, hb, hc]; rfl
        rw [e]
        refine Ends.more (k := 3 * n + 4 + 1 + 1 + 1 + 1 + 1) ?_ (by omega)
        refine Ends.step ?_
        rw [step_at_yes hb]
        refine Ends.step ?_
        rw [step_lit_yes hse hc]
        refine Ends.step ?_
        rw [step_suc]
        refine Ends.step ?_
        rw [step_res_yes]
        refine Ends.step ?_
        rw [step_fin_yes]
        exact Ends.now rfl ⟨⟨_, rfl, rfl⟩, rfl, rfl⟩
end Mine
end
section
namespace Mine
open PySem PySem.Sre
/-- the second code's machine, somewhere inside a try at s -/
noncomputable def st2 (t : Array Nat) (s pc pos hd : Nat) (om : Bool) (fr : List PySem.Sre.Frame) (wt : Nat) (an : Option Bool) (sn : Seen) : M :=
  { code := c2, text := t, lim := t.size, start := s, lastStart := t.size, wholeText := false, mustAdvance := false, pc := pc, pos := pos, handed := hd, outermost := om,
    marks := #[], lastmark := -1, lastindex := -1, loops := #[], inner := none, frames := fr, weight := wt, answer := an, seen := sn, outcome := none }
noncomputable def fS (s : Nat) (first : Bool) : PySem.Sre.Frame := { wait := .nextStart, pc := 10, pos := s, outermost := first }
noncomputable def fB (s pc : Nat) (first : Bool) : PySem.Sre.Frame := { wait := .nextBranch, pc := pc, pos := s, outermost := first, kept := { lastmark := -1, lastindex := -1, whole := false, marks := #[] } }
noncomputable def fN (s : Nat) (first : Bool) : PySem.Sre.Frame := { wait := .lookNot, pc := 26, pos := s + 1, outermost := first, kept := { lastmark := -1, lastindex := -1, whole := false, marks := #[] } }
section
variable {t : Array Nat} {s : Nat} {f : Bool} {sn : Seen}
theorem b1 : (st2 t s 10 s s f [fS s f] 1 none sn).step = st2 t s 12 s s f [fB s 11 f, fS s f] 2 none (sn.add 7) := rfl
theorem l12_no (h : (s) < t.size) (hc : (t.getD (s) 0 == 13) = false) : (st2 t s 12 (s) (s) f [fB s 11 f, fS s f] 2 none sn).step = st2 t s 12 (s) (s) f [fB s 11 f, fS s f] 2 (some false) (sn.add 16) := by
  show (if (s) ≥ t.size then _ else (match (Except.ok (t.getD (s) 0 == 13, sn.add 16) : Except String (Bool × Seen)) with | .error why => _ | .ok (false, seen) => _ | .ok (true, seen) => _)) = _
  rw [if_neg (Nat.not_le.mpr h), hc]
  rfl
theorem l12_yes (h : (s) < t.size) (hc : (t.getD (s) 0 == 13) = true) : (st2 t s 12 (s) (s) f [fB s 11 f, fS s f] 2 none sn).step = st2 t s 14 (s + 1) (s) f [fB s 11 f, fS s f] 2 none (sn.add 16) := by
  show (if (s) ≥ t.size then _ else (match (Except.ok (t.getD (s) 0 == 13, sn.add 16) : Except String (Bool × Seen)) with | .error why => _ | .ok (false, seen) => _ | .ok (true, seen) => _)) = _
  rw [if_neg (Nat.not_le.mpr h), hc]
  rfl
theorem l12_end (h : t.size ≤ (s)) : (st2 t s 12 (s) (s) f [fB s 11 f, fS s f] 2 none sn).step = st2 t s 12 (s) (s) f [fB s 11 f, fS s f] 2 (some false) (sn.add 16) := by
  show (if (s) ≥ t.size then _ else _) = _
  rw [if_pos h]
  rfl

theorem l14_no (h : (s + 1) < t.size) (hc : (t.getD (s + 1) 0 == 10) = false) : (st2 t s 14 (s + 1) (s) f [fB s 11 f, fS s f] 2 none sn).step = st2 t s 14 (s + 1) (s) f [fB s 11 f, fS s f] 2 (some false) (sn.add 16) := by
  show (if (s + 1) ≥ t.size then _ else (match (Except.ok (t.getD (s + 1) 0 == 10, sn.add 16) : Except String (Bool × Seen)) with | .error why => _ | .ok (false, seen) => _ | .ok (true, seen) => _)) = _
  rw [if_neg (Nat.not_le.mpr h), hc]
  rfl
theorem l14_yes (h : (s + 1) < t.size) (hc : (t.getD (s + 1) 0 == 10) = true) : (st2 t s 14 (s + 1) (s) f [fB s 11 f, fS s f] 2 none sn).step = st2 t s 16 (s + 1 + 1) (s) f [fB s 11 f, fS s f] 2 none (sn.add 16) := by
  show (if (s + 1) ≥ t.size then _ else (match (Except.ok (t.getD (s + 1) 0 == 10, sn.add 16) : Except String (Bool × Seen)) with | .error why => _ | .ok (false, seen) => _ | .ok (true, seen) => _)) = _
  rw [if_neg (Nat.not_le.mpr h), hc]
  rfl
theorem l14_end (h : t.size ≤ (s + 1)) : (st2 t s 14 (s + 1) (s) f [fB s 11 f, fS s f] 2 none sn).step = st2 t s 14 (s + 1) (s) f [fB s 11 f, fS s f] 2 (some false) (sn.add 16) := by
  show (if (s + 1) ≥ t.size then _ else _) = _
  rw [if_pos h]
  rfl

theorem l19_no (h : (s) < t.size) (hc : (t.getD (s) 0 == 10) = false) : (st2 t s 19 (s) (s) f [fB s 18 f, fS s f] 2 none sn).step = st2 t s 19 (s) (s) f [fB s 18 f, fS s f] 2 (some false) (sn.add 16) := by
  show (if (s) ≥ t.size then _ else (match (Except.ok (t.getD (s) 0 == 10, sn.add 16) : Except String (Bool × Seen)) with | .error why => _ | .ok (false, seen) => _ | .ok (true, seen) => _)) = _
  rw [if_neg (Nat.not_le.mpr h), hc]
  rfl
theorem l19_yes (h : (s) < t.size) (hc : (t.getD (s) 0 == 10) = true) : (st2 t s 19 (s) (s) f [fB s 18 f, fS s f] 2 none sn).step = st2 t s 21 (s + 1) (s) f [fB s 18 f, fS s f] 2 none (sn.add 16) := by
  show (if (s) ≥ t.size then _ else (match (Except.ok (t.getD (s) 0 == 10, sn.add 16) : Except String (Bool × Seen)) with | .error why => _ | .ok (false, seen) => _ | .ok (true, seen) => _)) = _
  rw [if_neg (Nat.not_le.mpr h), hc]
  rfl
theorem l19_end (h : t.size ≤ (s)) : (st2 t s 19 (s) (s) f [fB s 18 f, fS s f] 2 none sn).step = st2 t s 19 (s) (s) f [fB s 18 f, fS s f] 2 (some false) (sn.add 16) := by
  show (if (s) ≥ t.size then _ else _) = _
  rw [if_pos h]
  rfl

theorem l24_no (h : (s) < t.size) (hc : (t.getD (s) 0 == 13) = false) : (st2 t s 24 (s) (s) f [fB s 23 f, fS s f] 2 none sn).step = st2 t s 24 (s) (s) f [fB s 23 f, fS s f] 2 (some false) (sn.add 16) := by
  show (if (s) ≥ t.size then _ else (match (Except.ok (t.getD (s) 0 == 13, sn.add 16) : Except String (Bool × Seen)) with | .error why => _ | .ok (false, seen) => _ | .ok (true, seen) => _)) = _
  rw [if_neg (Nat.not_le.mpr h), hc]
  rfl
theorem l24_yes (h : (s) < t.size) (hc : (t.getD (s) 0 == 13) = true) : (st2 t s 24 (s) (s) f [fB s 23 f, fS s f] 2 none sn).step = st2 t s 26 (s + 1) (s) f [fB s 23 f, fS s f] 2 none (sn.add 16) := by
  show (if (s) ≥ t.size then _ else (match (Except.ok (t.getD (s) 0 == 13, sn.add 16) : Except String (Bool × Seen)) with | .error why => _ | .ok (false, seen) => _ | .ok (true, seen) => _)) = _
  rw [if_neg (Nat.not_le.mpr h), hc]
  rfl
theorem l24_end (h : t.size ≤ (s)) : (st2 t s 24 (s) (s) f [fB s 23 f, fS s f] 2 none sn).step = st2 t s 24 (s) (s) f [fB s 23 f, fS s f] 2 (some false) (sn.add 16) := by
  show (if (s) ≥ t.size then _ else _) = _
  rw [if_pos h]
  rfl

theorem l29_no (h : (s + 1) < t.size) (hc : (t.getD (s + 1) 0 == 10) = false) : (st2 t s 29 (s + 1) (s + 1) false [fN s f, fB s 23 f, fS s f] 3 none sn).step = st2 t s 29 (s + 1) (s + 1) false [fN s f, fB s 23 f, fS s f] 3 (some false) (sn.add 16) := by
  show (if (s + 1) ≥ t.size then _ else (match (Except.ok (t.getD (s + 1) 0 == 10, sn.add 16) : Except String (Bool × Seen)) with | .error why => _ | .ok (false, seen) => _ | .ok (true, seen) => _)) = _
  rw [if_neg (Nat.not_le.mpr h), hc]
  rfl
theorem l29_yes (h : (s + 1) < t.size) (hc : (t.getD (s + 1) 0 == 10) = true) : (st2 t s 29 (s + 1) (s + 1) false [fN s f, fB s 23 f, fS s f] 3 none sn).step = st2 t s 31 (s + 1 + 1) (s + 1) false [fN s f, fB s 23 f, fS s f] 3 none (sn.add 16) := by
  show (if (s + 1) ≥ t.size then _ else (match (Except.ok (t.getD (s + 1) 0 == 10, sn.add 16) : Except String (Bool × Seen)) with | .error why => _ | .ok (false, seen) => _ | .ok (true, seen) => _)) = _
  rw [if_neg (Nat.not_le.mpr h), hc]
  rfl
theorem l29_end (h : t.size ≤ (s + 1)) : (st2 t s 29 (s + 1) (s + 1) false [fN s f, fB s 23 f, fS s f] 3 none sn).step = st2 t s 29 (s + 1) (s + 1) false [fN s f, fB s 23 f, fS s f] 3 (some false) (sn.add 16) := by
  show (if (s + 1) ≥ t.size then _ else _) = _
  rw [if_pos h]
  rfl

theorem b2 {p q : Nat} : (st2 t s p q s f [fB s 11 f, fS s f] 2 (some false) sn).step = st2 t s 19 s s f [fB s 18 f, fS s f] 2 none sn := rfl
theorem b3 {p q : Nat} : (st2 t s p q s f [fB s 18 f, fS s f] 2 (some false) sn).step = st2 t s 24 s s f [fB s 23 f, fS s f] 2 none sn := rfl
theorem j16 {q hd wt : Nat} {fr : List PySem.Sre.Frame} : (st2 t s 16 q hd f fr wt none sn).step = st2 t s 35 q hd f fr wt none (sn.add 15) := rfl
theorem j21 {q hd wt : Nat} {fr : List PySem.Sre.Frame} : (st2 t s 21 q hd f fr wt none sn).step = st2 t s 35 q hd f fr wt none (sn.add 15) := rfl
theorem j32 {q hd wt : Nat} {fr : List PySem.Sre.Frame} : (st2 t s 32 q hd f fr wt none sn).step = st2 t s 35 q hd f fr wt none (sn.add 15) := rfl
theorem u35 {q hd wt : Nat} {fr : List PySem.Sre.Frame} : (st2 t s 35 q hd f fr wt none sn).step = st2 t s 35 q q f fr wt (some true) (sn.add 1) := by
  show (if (f && ((false && _) || (false && _))) = true then _ else _) = _
  cases f <;> rfl
theorem a26 : (st2 t s 26 (s + 1) s f [fB s 23 f, fS s f] 2 none sn).step = st2 t s 29 (s + 1) (s + 1) false [fN s f, fB s 23 f, fS s f] 3 none (sn.add 5) := rfl
theorem n29 : (st2 t s 29 (s + 1) (s + 1) false [fN s f, fB s 23 f, fS s f] 3 (some false) sn).step = st2 t s 32 (s + 1) (s + 1) f [fB s 23 f, fS s f] 2 none sn := rfl
theorem rB {p q hd x : Nat} : (st2 t s p q hd f [fB s x f, fS s f] 2 (some true) sn).step = st2 t s x s hd f [fS s f] 1 (some true) sn := rfl
theorem rS {p q hd : Nat} : (st2 t s p q hd f [fS s f] 1 (some true) sn).step = st2 t s 10 s hd f [] 0 (some true) sn := rfl
theorem rF {p q hd : Nat} : (st2 t s p q hd f [] 0 (some true) sn).step = { st2 t s p q hd f [] 0 (some true) sn with outcome := some .matched } := rfl
theorem rN {p q hd : Nat} : (st2 t s p q hd f [] 0 (some false) sn).step = { st2 t s p q hd f [] 0 (some false) sn with outcome := some .failed } := rfl
end
noncomputable def Says2 (r : Option (Nat × Nat)) (m : M) : Prop := match r with
  | some (s, e) => (∃ b, m.outcome = some b ∧ b = .matched) ∧ m.start = s ∧ m.handed = e
  | none => ∃ b, m.outcome = some b ∧ b = .failed
/-- where the break that begins at s ends -/
noncomputable def brk2 (t : Array Nat) (s : Nat) : Nat := if t.getD s 0 == 13 && decide (s + 1 < t.size) && t.getD (s + 1) 0 == 10 then s + 2 else s + 1
theorem tail2 {t : Array Nat} {s q x : Nat} {f : Bool} {sn : Seen} {hd : Nat} : Ends (st2 t s 35 q hd f [fB s x f, fS s f] 2 none sn) 4 (Says2 (some (s, q))) := by
  refine Ends.step ?_
  rw [u35]
  refine Ends.step ?_
  rw [rB]
  refine Ends.step ?_
  rw [rS]
  refine Ends.step ?_
  rw [rF]
  exact Ends.now rfl ⟨⟨_, rfl, rfl⟩, rfl, rfl⟩
theorem ends2 {t : Array Nat} {s : Nat} {f : Bool} {sn : Seen} (h : s < t.size) (hc : (t.getD s 0 == 13 || t.getD s 0 == 10) = true) : Ends (st2 t s 10 s s f [fS s f] 1 none sn) 20 (Says2 (some (s, brk2 t s))) := by
  cases h13 : (t.getD s 0 == 13) with
  | false =>
    have h10 : (t.getD s 0 == 10) = true := by rw [h13] at hc; exact hc
    have e : brk2 t s = s + 1 := by unfold brk2; rw [h13]; rfl
    rw [e]
    refine Ends.more (k := 4 + 1 + 1 + 1 + 1 + 1) ?_ (by omega)
    refine Ends.step ?_
    rw [b1]
    refine Ends.step ?_
    rw [l12_no h h13]
    refine Ends.step ?_
    rw [b2]
    refine Ends.step ?_
    rw [l19_yes h h10]
    refine Ends.step ?_
    rw [j21]
    exact tail2
  | true =>
    have h10 : (t.getD s 0 == 10) = false := by
      have e := eq_of_beq h13
      rw [e]; rfl
    by_cases hn : s + 1 < t.size ∧ (t.getD (s + 1) 0 == 10) = true
    · have e : brk2 t s = s + 2 := by unfold brk2; rw [h13, decide_eq_true hn.1, hn.2]; rfl
      rw [e]
      refine Ends.more (k := 4 + 1 + 1 + 1 + 1) ?_ (by omega)
      refine Ends.step ?_
      rw [b1]
      refine Ends.step ?_
      rw [l12_yes h h13]
      refine Ends.step ?_
      rw [l14_yes hn.1 hn.2]
      refine Ends.step ?_
      rw [j16]
      exact tail2
    · have e : brk2 t s = s + 1 := by
        unfold brk2
        rw [if_neg]
        intro q
        simp only [Bool.and_eq_true, decide_eq_true_eq] at q
        exact hn ⟨q.1.2, q.2⟩
      rw [e]
      have a14 : (st2 t s 14 (s + 1) s f [fB s 11 f, fS s f] 2 none (sn.add 7 |>.add 16)).step = st2 t s 14 (s + 1) s f [fB s 11 f, fS s f] 2 (some false) ((sn.add 7 |>.add 16).add 16) := by
        by_cases hl : s + 1 < t.size
        · exact l14_no hl (by cases q : (t.getD (s + 1) 0 == 10) with | false => rfl | true => exact absurd ⟨hl, q⟩ hn)
        · exact l14_end (Nat.not_lt.mp hl)
      have a29 : ∀ sn' : Seen, (st2 t s 29 (s + 1) (s + 1) false [fN s f, fB s 23 f, fS s f] 3 none sn').step = st2 t s 29 (s + 1) (s + 1) false [fN s f, fB s 23 f, fS s f] 3 (some false) (sn'.add 16) := fun sn' => by
        by_cases hl : s + 1 < t.size
        · exact l29_no hl (by cases q : (t.getD (s + 1) 0 == 10) with | false => rfl | true => exact absurd ⟨hl, q⟩ hn)
        · exact l29_end (Nat.not_lt.mp hl)
      refine Ends.more (k := 4 + 1 + 1 + 1 + 1 + 1 + 1 + 1 + 1 + 1 + 1 + 1) ?_ (by omega)
      refine Ends.step ?_
      rw [b1]
      refine Ends.step ?_
      rw [l12_yes h h13]
      refine Ends.step ?_
      rw [a14]
      refine Ends.step ?_
      rw [b2]
      refine Ends.step ?_
      rw [l19_no h h10]
      refine Ends.step ?_
      rw [b3]
      refine Ends.step ?_
      rw [l24_yes h h13]
      refine Ends.step ?_
      rw [a26]
      refine Ends.step ?_
      rw [a29]
      refine Ends.step ?_
      rw [n29]
      refine Ends.step ?_
      rw [j32]
      exact tail2
end Mine
end
section
namespace Mine
open PySem PySem.Sre
theorem search1 (t : Array Nat) (pos : Nat) (hp : pos ≤ t.size) (must : Bool) : Ends (forSearch c1 t 0 pos t.size must) (3 * (t.size - pos) + 6) (Says1 (find1 t (t.size - pos) pos)) := by
  by_cases h : t.size - pos < 1
  · have e : forSearch c1 t 0 pos t.size must = { at1 t pos true must (({} : Seen).add 14) with lastStart := 0, frames := [], weight := 0, answer := some false } := by
      show (if (decide (pos > t.size) || decide (t.size - pos < 1)) = true then _ else _) = _
      rw [decide_eq_true h, Bool.or_true]
      rfl
    rw [e]
    have z : t.size - pos = 0 := by omega
    rw [z]
    refine Ends.more (k := 0 + 1) ?_ (by omega)
    refine Ends.step ?_
    exact Ends.now rfl ⟨_, rfl, rfl⟩
  · have e : forSearch c1 t 0 pos t.size must = at1 t pos true must (({} : Seen).add 14) := by
      show (if (decide (pos > t.size) || decide (t.size - pos < 1)) = true then _ else _) = _
      rw [decide_eq_false h, decide_eq_false (by omega)]
      rfl
    rw [e]
    exact ends1 t _ pos (by omega) true must _

noncomputable def brkAt (t : Array Nat) (s : Nat) : Bool := t.getD s 0 == 13 || t.getD s 0 == 10
noncomputable def find2 (t : Array Nat) : Nat → Nat → Option Nat
  | 0, _ => none
  | n + 1, s => if brkAt t s then some s else find2 t n (s + 1)
theorem inSet2 (c : Nat) (sn : Seen) : ∃ sn', inSet c2 c c2.size 5 true sn = .ok (c == 13 || c == 10, sn') := by
  by_cases h10 : (c == 10) = true
  · refine ⟨sn.add 16, ?_⟩
    show (if (c == 10) = true then _ else _) = _
    rw [if_pos h10, h10, Bool.or_true]
    rfl
  · by_cases h13 : (c == 13) = true
    · refine ⟨(sn.add 16).add 16, ?_⟩
      show (if (c == 10) = true then _ else (if (c == 13) = true then _ else _)) = _
      rw [if_neg h10, if_pos h13, h13, Bool.true_or]
      rfl
    · refine ⟨((sn.add 16).add 16).add 0, ?_⟩
      show (if (c == 10) = true then _ else (if (c == 13) = true then _ else _)) = _
      rw [if_neg h10, if_neg h13]
      have e10 : (c == 10) = false := by cases q : (c == 10) with | false => rfl | true => exact absurd q h10
      have e13 : (c == 13) = false := by cases q : (c == 13) with | false => rfl | true => exact absurd q h13
      rw [e10, e13]
      rfl
theorem admitted2 {m : M} {t : Array Nat} (hc : m.code = c2) (ht : m.text = t) (hl : m.lim = t.size) : ∀ (n s : Nat), s + n = t.size → ∀ (k : Nat) (sn : Seen), n < k → ∃ sn', M.admitted m k s sn = .ok (find2 t n s, sn')
  | 0, s, hs, k + 1, sn, _ => by
    refine ⟨sn, ?_⟩
    show (if s ≥ m.lim then _ else _) = _
    rw [if_pos (by omega)]
    rfl
  | n + 1, s, hs, k + 1, sn, hk => by
    obtain ⟨sn', e⟩ := inSet2 (t.getD s 0) sn
    show ∃ sn'', (if s ≥ m.lim then (Except.ok (none, sn) : Except String (Option Nat × Seen)) else (match inSet m.code (m.text.getD s 0) m.code.size 5 true sn with
      | .ok (true, seen) => .ok (some s, seen)
      | .ok (false, seen) => M.admitted m k (s + 1) seen
      | .error why => .error why)) = _
    rw [if_neg (by omega), hc, ht, e]
    cases hb : brkAt t s with
    | true =>
      have hb' : (t.getD s 0 == 13 || t.getD s 0 == 10) = true := hb
      refine ⟨sn', ?_⟩
      rw [hb']
      simp [find2, hb]
    | false =>
      have hb' : (t.getD s 0 == 13 || t.getD s 0 == 10) = false := hb
      rw [hb']
      obtain ⟨sn2, e2⟩ := admitted2 hc ht hl n (s + 1) (by omega) k sn' (by omega)
      refine ⟨sn2, ?_⟩
      show M.admitted m k (s + 1) sn' = _
      rw [e2]
      simp [find2, hb]
theorem find2_some {t : Array Nat} : ∀ {n s r : Nat}, find2 t n s = some r → s ≤ r ∧ r < s + n ∧ brkAt t r = true
  | 0, _, _, h => by cases h
  | n + 1, s, r, h => by
    unfold find2 at h
    split at h
    · rename_i hb; cases h; exact ⟨Nat.le_refl _, by omega, hb⟩
    · have := find2_some h; exact ⟨by omega, by omega, this.2.2⟩
theorem find1_some {t : Array Nat} : ∀ {n s r : Nat}, find1 t n s = some r → s ≤ r ∧ r < s + n ∧ hit1 t r = true
  | 0, _, _, h => by cases h
  | n + 1, s, r, h => by
    unfold find1 at h
    split at h
    · rename_i hb; cases h; exact ⟨Nat.le_refl _, by omega, hb⟩
    · have := find1_some h; exact ⟨by omega, by omega, this.2.2⟩
theorem from_none {m : M} {s : Nat} {first : Bool} {sn' : Seen} (h : m.hasFirstSet = true) (e : M.admitted m (m.lim + 1 - s) s m.seen = .ok (none, sn')) : m.attemptFrom s first = { m with seen := sn' }.say false := by
  unfold M.attemptFrom
  rw [h, e]
  rfl
theorem from_some {m : M} {s r : Nat} {first : Bool} {sn' : Seen} (h : m.hasFirstSet = true) (e : M.admitted m (m.lim + 1 - s) s m.seen = .ok (some r, sn')) : m.attemptFrom s first = { m with mustAdvance := false, seen := sn' }.attemptAt r first := by
  unfold M.attemptFrom
  rw [h, e]
  rfl
theorem search2 (t : Array Nat) (pos : Nat) (hp : pos ≤ t.size) (must : Bool) : Ends (forSearch c2 t 0 pos t.size must) 20 (Says2 ((find2 t (t.size - pos) pos).map fun s => (s, brk2 t s))) := by
  by_cases h : t.size - pos < 1
  · have z : t.size - pos = 0 := by omega
    have e : forSearch c2 t 0 pos t.size must = { st2 t pos 10 pos pos true [] 0 (some false) (({} : Seen).add 14) with lastStart := 0, mustAdvance := must } := by
      show (if (decide (pos > t.size) || decide (t.size - pos < 1)) = true then _ else _) = _
      rw [decide_eq_true h, Bool.or_true]
      rfl
    rw [e, z]
    refine Ends.more (k := 0 + 1) ?_ (by omega)
    refine Ends.step ?_
    exact Ends.now rfl ⟨_, rfl, rfl⟩
  · have e : forSearch c2 t 0 pos t.size must = M.attemptFrom { st2 t pos 10 pos pos true [] 0 none (({} : Seen).add 14) with mustAdvance := must } pos true := by
      show (if (decide (pos > t.size) || decide (t.size - pos < 1)) = true then _ else _) = _
      rw [decide_eq_false h, decide_eq_false (by omega)]
      rfl
    rw [e]
    obtain ⟨sn', ea⟩ := admitted2 (t := t) (m := { st2 t pos 10 pos pos true [] 0 none (({} : Seen).add 14) with mustAdvance := must }) rfl rfl rfl (t.size - pos) pos (by omega) (t.size + 1 - pos) (({} : Seen).add 14) (by omega)
    cases hf : find2 t (t.size - pos) pos with
    | none =>
      rw [hf] at ea
      have e2 : M.attemptFrom { st2 t pos 10 pos pos true [] 0 none (({} : Seen).add 14) with mustAdvance := must } pos true = { st2 t pos 10 pos pos true [] 0 (some false) sn' with mustAdvance := must } := by
        rw [from_none (sn' := sn') rfl ea]
        rfl
      rw [e2]
      refine Ends.more (k := 0 + 1) ?_ (by omega)
      refine Ends.step ?_
      exact Ends.now rfl ⟨_, rfl, rfl⟩
    | some r =>
      rw [hf] at ea
      have hr := find2_some hf
      have e2 : M.attemptFrom { st2 t pos 10 pos pos true [] 0 none (({} : Seen).add 14) with mustAdvance := must } pos true = st2 t r 10 r r true [fS r true] 1 none sn' := by
        rw [from_some (sn' := sn') rfl ea]
        rfl
      rw [e2]
      exact ends2 (by omega) hr.2.2
end Mine
end
section
namespace Mine
open PySem PySem.Sre PySem.Builtin.Re
section
variable {prog : Program} {w : World} {A : Around} {E : Value → Shared → Prop} {s : Shared}
theorem reDrive_any {Q : M → Shared → Prop} : ∀ (k : Nat) (m : M) (N : Nat), N ≤ 4 * k → 0 < k → (M.runFor N m).outcome.isSome = true → Q (M.runFor N m) s → wpAny (model prog w) A (reDrive k m) Q E s
  | 0, _, _, _, h, _, _ => absurd h (Nat.lt_irrefl _)
  | k + 1, m, N, hN, _, ho, hq => by
    show wpAny _ A (if (M.runFor reTurnSteps m).outcome.isSome then pure (M.runFor reTurnSteps m) else do rule "sre.turn"; reDrive k (M.runFor reTurnSteps m)) Q E s
    have e4 : reTurnSteps = 4 := rfl
    rw [e4]
    by_cases h4 : (M.runFor 4 m).outcome.isSome = true
    · rw [if_pos h4]
      have e : M.runFor 4 m = M.runFor N m := by
        by_cases hle : N ≤ 4
        · obtain ⟨d, hd⟩ := Nat.le.dest hle
          rw [← hd, runFor_add, runFor_done d ho]
        · obtain ⟨d, hd⟩ := Nat.le.dest (Nat.le_of_not_le hle)
          rw [← hd, runFor_add, runFor_done d h4]
      rw [e]
      exact wpAny_pure hq
    · rw [if_neg h4]
      have hlt : ¬ N ≤ 4 := fun hle => by
        obtain ⟨d, hd⟩ := Nat.le.dest hle
        rw [← hd, runFor_add, runFor_done d ho] at h4
        exact h4 ho
      obtain ⟨d, hd⟩ := Nat.le.dest (Nat.le_of_not_le hlt)
      subst hd
      rw [runFor_add] at ho hq
      have hk : 0 < k := by
        cases k with
        | zero => omega
        | succ k => omega
      exact wpAny_bind (wpAny_rule (reDrive_any k _ d (by omega) hk ho hq))
theorem reRun_any {m : M} {N : Nat} {P : M → Prop} {Q : Option M → Shared → Prop} (h : Ends m N P) (hN : N ≤ 4 * 2 ^ 64)
    (hm : ∀ m', P m' → m'.outcome = some .matched → Q (some m') s) (hf : ∀ m', P m' → m'.outcome = some .failed → Q none s)
    (hb : ∀ m', P m' → m'.outcome = some .matched ∨ m'.outcome = some .failed) : wpAny (model prog w) A (reRunToEnd m) Q E s := by
  unfold reRunToEnd
  refine wpAny_bind (reDrive_any (2 ^ 64) m N hN (by decide) h.1 ?_)
  have hp := h.2
  generalize M.runFor N m = m' at hp
  refine wpAny_bind (wpAny_forIn_list _ (fun _ _ s' => s' = s) _ (fun x rest b s' e => ?_) (fun b s' e => ?_) _ _ rfl)
  · subst e
    split
    · exact wpAny_bind (wpAny_rule (wpAny_pure rfl))
    · exact wpAny_pure rfl
  · subst e
    rcases hb m' hp with e | e
    · rw [e]
      exact wpAny_pure (hm m' hp e)
    · rw [e]
      exact wpAny_pure (hf m' hp e)
theorem found1 {t : Array Nat} {pos : Nat} (hp : pos ≤ t.size) (hs : t.size ≤ 2 ^ 30) (must : Bool) {Q : Option M → Shared → Prop}
    (hm : ∀ m' r, find1 t (t.size - pos) pos = some r → m'.start = r → m'.handed = r + 1 → Q (some m') s) (hf : find1 t (t.size - pos) pos = none → Q none s) :
    wpAny (model prog w) A (reRunToEnd (forSearch c1 t 0 pos t.size must)) Q E s := by
  have e30 : (2 : Nat) ^ 30 = 1073741824 := by decide
  have e64 : (4 : Nat) * 2 ^ 64 = 73786976294838206464 := by decide
  refine reRun_any (search1 t pos hp must) (by rw [e64]; omega) (fun m' h ho => ?_) (fun m' h ho => ?_) (fun m' h => ?_)
  · cases hr : find1 t (t.size - pos) pos with
    | some r => rw [hr] at h; exact hm m' r hr h.2.1 h.2.2
    | none => rw [hr] at h; obtain ⟨b, e, rfl⟩ := h; rw [e] at ho; cases ho
  · cases hr : find1 t (t.size - pos) pos with
    | some r => rw [hr] at h; obtain ⟨⟨b, e, rfl⟩, _⟩ := h; rw [e] at ho; cases ho
    | none => exact hf hr
  · cases hr : find1 t (t.size - pos) pos with
    | some r => rw [hr] at h; obtain ⟨⟨b, e, rfl⟩, _⟩ := h; exact .inl e
    | none => rw [hr] at h; obtain ⟨b, e, rfl⟩ := h; exact .inr e
theorem found2 {t : Array Nat} {pos : Nat} (hp : pos ≤ t.size) (must : Bool) {Q : Option M → Shared → Prop}
    (hm : ∀ m' r, find2 t (t.size - pos) pos = some r → m'.start = r → m'.handed = brk2 t r → Q (some m') s) (hf : find2 t (t.size - pos) pos = none → Q none s) :
    wpAny (model prog w) A (reRunToEnd (forSearch c2 t 0 pos t.size must)) Q E s := by
  have e64 : (4 : Nat) * 2 ^ 64 = 73786976294838206464 := by decide
  refine reRun_any (search2 t pos hp must) (by rw [e64]; omega) (fun m' h ho => ?_) (fun m' h ho => ?_) (fun m' h => ?_)
  · cases hr : find2 t (t.size - pos) pos with
    | some r => rw [hr] at h; exact hm m' r hr h.2.1 h.2.2
    | none => rw [hr] at h; obtain ⟨b, e, rfl⟩ := h; rw [e] at ho; cases ho
  · cases hr : find2 t (t.size - pos) pos with
    | some r => rw [hr] at h; obtain ⟨⟨b, e, rfl⟩, _⟩ := h; rw [e] at ho; cases ho
    | none => exact hf hr
  · cases hr : find2 t (t.size - pos) pos with
    | some r => rw [hr] at h; obtain ⟨⟨b, e, rfl⟩, _⟩ := h; exact .inl e
    | none => rw [hr] at h; obtain ⟨b, e, rfl⟩ := h; exact .inr e
end
end Mine
end
section
namespace Mine
open PySem PySem.Sre PySem.Builtin.Re
set_option maxRecDepth 100000
theorem plainAttrs_pat : PlainAttrs "re.Pattern" :=
  ⟨⟨"object.__getattribute__", by rw [typeLookup_type, builtinLookup_eq_fast]; kernel_rfl, by decide +kernel⟩, by rw [typeLookup_type, builtinLookup_eq_fast]; kernel_rfl⟩
theorem slot_pat_sub : Slot "re.Pattern" "sub" "re.Pattern.sub" :=
  .of (owner := "re.Pattern") (n := "sub") (by rw [typeLookup_type, builtinLookup_eq_fast]; kernel_rfl) (by decide +kernel) (by decide +kernel) (by decide +kernel)
    (by first | exact .inl (by decide +kernel) | exact .inr (by decide +kernel)) (by rw [isSubtype_type]; kernel_rfl)
theorem type_pat_sub : typeOf (.builtin "re.Pattern.sub") = pure (.type "method_descriptor") := by show builtinType _ = _; rw [builtinType_eq_fast]; kernel_rfl
theorem entry_pat_sub : entryFor table "re.Pattern.sub" = some Builtin.«re.Pattern.sub» := entryFor_of_tree (by kernel_rfl)
theorem entry_pat_loop : entryFor table "re.Pattern.sub.loop" = some Builtin.«re.Pattern.sub.loop» := entryFor_of_tree (by kernel_rfl)
theorem owner_pat : Manifest.owners.lookup "re.Pattern" = some Manifest.sig_re_Pattern := by kernel_rfl
theorem args_pat_sub_3 (a b c : Value) : argsOk "re.Pattern.sub" ⟨[a, b, c], []⟩ := by
  unfold argsOk; rw [signature?_of (id := "re.Pattern.sub") (n := ['b', 'u', 's']) (o := ['n', 'r', 'e', 't', 't', 'a', 'P', '.', 'e', 'r']) (by kernel_rfl) owner_pat]; kernel_rfl
end Mine
end
section
namespace Mine
open PySem PySem.Sre PySem.Builtin.Re
set_option maxRecDepth 100000
/-- a compiled pattern of this code, for texts, without groups -/
noncomputable def IsPat (h : Heap) (a : Addr) (code : Array Nat) : Prop :=
  ∃ o vs ct oc cv n, h.get? a = some o ∧ o.cls = .type "re.Pattern" ∧ o.dict = none ∧ o.data = .fields vs ∧ vs.getD 2 .none = .int 0 0 ∧ vs.getD 5 .none = .ref ct ∧ vs.getD 6 .none = .int 0 0 ∧
    h.get? ct = some oc ∧ oc.data = .seq cv n ∧ (cv.map reRawOf).map (·.toNat) = code
theorem IsPat.keeps {h h' : Heap} {a : Addr} {code : Array Nat} (x : IsPat h a code) (k : ∀ b o, h.get? b = some o → h'.get? b = some o) : IsPat h' a code :=
  let ⟨o, vs, ct, oc, cv, n, e1, c, d, e2, e3, e4, e5, e6, e7, e8⟩ := x
  ⟨o, vs, ct, oc, cv, n, k _ _ e1, c, d, e2, e3, e4, e5, k _ _ e6, e7, e8⟩
section
variable {prog : Program} {w : World} {A : Around} {E : Value → Shared → Prop} {s : Shared}
noncomputable def tgt (a : Addr) (x : Str) (tx : Tok) (code : Array Nat) : ReTarget := { pattern := .ref a, string := .str x tx, code := code, text := x.cps, kind := 0, groups := 0, pos := 0, lim := x.cps.size }
theorem whole_any {a : Addr} {code : Array Nat} {x : Str} {tx : Tok} {Q : ReTarget → Shared → Prop} (P : IsPat s.heap a code) (h : Q (tgt a x tx code) s) :
    wpAny (model prog w) A (reWholeTarget (.ref a) (.str x tx)) Q E s := by
  obtain ⟨o, vs, ct, oc, cv, n, e1, _, _, e2, e3, e4, e5, e6, e7, e8⟩ := P
  unfold reWholeTarget
  refine wpAny_bind (wpAny_fieldsOf e1 e2 ?_)
  refine wpAny_bind (m := reTextOf (.str x tx)) (wpAny_of_eq (a := (x.cps, 0)) rfl ?_)
  rw [e3, e4, e5]
  dsimp only
  rw [if_neg (by decide), if_neg (by decide)]
  refine wpAny_bind (m := reNoCollectionInside _ _) (wpAny_of_eq (a := ()) rfl ?_)
  refine wpAny_bind ?_
  unfold reRawItems
  refine wpAny_bind (wpAny_seqItems e6 e7 ?_)
  refine wpAny_pure ?_
  refine wpAny_pure ?_
  have e : ((some cv).getD #[]).map reRawOf = cv.map reRawOf := rfl
  rw [e, e8]
  exact h
end
end Mine
end
section
namespace Mine
open PySem PySem.Sre PySem.Builtin.Re PyProof.Rows
set_option maxRecDepth 100000
noncomputable def pieces (nx : Nat → Option (Nat × Nat)) (rp : Str) (t : Array Nat) : Nat → Nat → List Str
  | 0, _ => []
  | k + 1, p => match nx p with
    | none => if p < t.size then [⟨t.extract p t.size⟩] else []
    | some (r, e) => (if p < r then [⟨t.extract p r⟩] else []) ++ (rp :: pieces nx rp t k e)
structure Finds (prog : Program) (w : World) (code : Array Nat) (t : Array Nat) (nx : Nat → Option (Nat × Nat)) : Prop where
  run : ∀ {A : Around} {E : Value → Shared → Prop} {s : Shared} {p : Nat} {must : Bool} {Q : Option M → Shared → Prop}, p ≤ t.size →
    (∀ m' r e, nx p = some (r, e) → m'.start = r → m'.handed = e → Q (some m') s) → (nx p = none → Q none s) → wpAny (model prog w) A (reRunToEnd (forSearch code t 0 p t.size must)) Q E s
  lo : ∀ {p r e : Nat}, nx p = some (r, e) → p ≤ r ∧ r < e ∧ e ≤ t.size
theorem StrsAre.snoc : ∀ {vs : List Value} {ys : List Str} (y : Str) (t : Tok), StrsAre vs ys → StrsAre (vs ++ [.str y t]) (ys ++ [y])
  | _, _, y, t, .nil => .cons y t .nil
  | _, _, y, t, .cons z u r => .cons z u (StrsAre.snoc y t r)
theorem StrsAre.len : ∀ {vs : List Value} {ys : List Str}, StrsAre vs ys → vs.length = ys.length
  | _, _, .nil => rfl
  | _, _, .cons _ _ r => congrArg (· + 1) (StrsAre.len r)
section
variable {prog : Program} {w : World} {A : Around} {E : Value → Shared → Prop} {s : Shared}
abbrev lob (arr : Array Value) (n : Nat) : Obj := { cls := .type "list", data := .seq arr n }
theorem push_any {l : Addr} {arr : Array Value} {n : Nat} {ys : List Str} {y : Str} {t : Tok} {Q : Unit → Shared → Prop} (ho : s.heap.get? l = some (lob arr n)) (hi : StrsAre arr.toList ys) (hsz : arr.size ≤ 1000000)
    (h : ∀ h' arr' n', h'.get? l = some (lob arr' n') → arr'.size = arr.size + 1 → StrsAre arr'.toList (ys ++ [y]) → (∀ b o, b ≠ l → s.heap.get? b = some o → h'.get? b = some o) → Q () { s with heap := h' }) :
    wpAny (model prog w) A (updateSeq l (·.push (.str y t))) Q E s := by
  have e24 : sizeLine = 16777216 := rfl
  refine wpAny_updateSeq ho rfl ?_ (by omega) (by rw [Array.size_push]; omega)
  refine h _ (arr.push (.str y t)) (if (arr.push (Value.str y t)).size == arr.size then n else n + 1) (Heap.get?_update_self _ ho rfl) (Array.size_push ..) ?_ ?_
  · rw [Array.toList_push]; exact StrsAre.snoc y t hi
  · intro b o hb e
    exact (Heap.get?_update_other _ _ (Ne.symm hb)).trans e
end
end Mine
end
section
namespace Mine
open PySem PySem.Sre PySem.Builtin.Re PyProof.Rows
set_option maxRecDepth 100000
section
variable {prog : Program} {w : World} {A : Around} {E : Value → Shared → Prop}
theorem loop_quiet (args : Args) : (Code.builtin "re.Pattern.sub.loop" args).quiet = true := plainId_quiet (by decide +kernel) args
theorem slice_any {s : Shared} {t : Array Nat} {b e : Nat} {Q : Value → Shared → Prop} (hs : t.size ≤ 1000000) (h : ∀ tk, Q (.str ⟨t.extract b e⟩ tk) { s with toks := s.toks + 1 }) : wpAny (model prog w) A (reSlice t 0 b e) Q E s := by
  show wpAny _ _ (mkStr ⟨t.extract b e⟩) _ _ _
  refine wpAny_mkStr (h _) ?_
  have e24 : sizeLine = 16777216 := rfl
  show (t.extract b e).size ≤ sizeLine
  rw [Array.size_extract, e24]
  omega
theorem loop_any {g₀ : Heap} {a l : Addr} {code : Array Nat} {x rp : Str} {tx tr : Tok} {nx : Nat → Option (Nat × Nat)} (P : IsPat g₀ a code) (hl₀ : g₀.get? l = none) (Fi : Finds prog w code x.cps nx) (hx : x.cps.size ≤ 1000) (hrp : rp.length ≤ 10) {R : Result → Shared → Prop} :
    ∀ (k p : Nat) (s : Shared) (arr : Array Value) (n : Nat) (ys : List Str) (nn : Int) (must : Bool), (∀ b o, g₀.get? b = some o → s.heap.get? b = some o) → s.heap.get? l = some (lob arr n) → StrsAre arr.toList ys → p ≤ x.cps.size → x.cps.size - p < k →
      arr.size + 2 * (x.cps.size - p) ≤ 3000 → (∀ y ∈ ys, y.length ≤ 1000) →
      (∀ h' tk t', (∀ b o, b ≠ l → s.heap.get? b = some o → h'.get? b = some o) → R (.ok (.ret (.str (Txt.join ⟨x.cps.extract 0 0⟩ (ys ++ pieces nx rp x.cps k p)) t'))) { s with heap := h', toks := tk }) →
      codeAny (model prog w) A (.builtin "re.Pattern.sub.loop" ⟨[.ref a, .str x tx, .str rp tr, rawInt 0, rawInt 0, .int nn 0, rawInt p, rawInt p, .bool must, .ref l, .bool false], []⟩) R s
  | 0, _, _, _, _, _, _, _, _, _, _, _, h, _, _, _ => absurd h (Nat.not_lt_zero _)
  | k + 1, p, s, arr, n, ys, nn, must, hk, ho, hi, hp, hlt, hsz, hys, hR => by
    refine codeAny_builtin entry_pat_loop ?_
    unfold Builtin.«re.Pattern.sub.loop»
    dsimp only [rawInt]
    refine wpAny_bind (whole_any (P.keeps hk) ?_)
    refine wpAny_bind (m := (if ((0 : Int) == 0) = true then reLiteralCannotBeTurned (.str rp tr) else pure ())) (wpAny_of_eq (a := ()) rfl ?_)
    rw [if_neg (show ¬ (((0 : Int) != 0 && decide (nn ≥ 0)) = true) from by simp)]
    have ep : ((p : Nat) : Int).toNat = p := Int.toNat_natCast p
    rw [ep]
    refine wpAny_bind ?_
    refine Fi.run (p := p) hp (fun m' r e hnx hst hhd => ?_) (fun hnx => ?_)
    · have lo := Fi.lo hnx
      dsimp only
      simp only [hst, hhd]
      have hpc : pieces nx rp x.cps (k + 1) p = (if p < r then [⟨x.cps.extract p r⟩] else []) ++ (rp :: pieces nx rp x.cps k e) := by
        simp only [pieces, hnx]
      have tail : ∀ (h₁ : Heap) (tk₁ : Nat) (arr₁ : Array Value) (n₁ : Nat) (ys₁ : List Str), (∀ b o, b ≠ l → s.heap.get? b = some o → h₁.get? b = some o) → h₁.get? l = some (lob arr₁ n₁) → StrsAre arr₁.toList ys₁ → arr₁.size ≤ arr.size + 1 →
          ys₁ = ys ++ (if p < r then [⟨x.cps.extract p r⟩] else []) → (∀ y ∈ ys₁, y.length ≤ 1000) → ∀ (A' : Around) (E' : Value → Shared → Prop),
          wpAny (model prog w) A' (do updateSeq l (·.push (.str rp tr)); again (.builtin "re.Pattern.sub.loop" ⟨[.ref a, .str x tx, .str rp tr, .int 0 0, .int 0 0, .int (nn + 1) 0, .int (e : Nat) 0, .int (e : Nat) 0, .bool (e == r), .ref l, .bool false], []⟩))
            (fun fin s' => match fin with | .done f => R (.ok f) s' | .again c' => c'.quiet = true ∧ codeAny (model prog w) A c' R s') E' { s with heap := h₁, toks := tk₁ } := by
        intro h₁ tk₁ arr₁ n₁ ys₁ hk₁ ho₁ hi₁ hz₁ hy₁ hl₁ A' E'
        refine wpAny_bind (push_any (s := { s with heap := h₁, toks := tk₁ }) ho₁ hi₁ (by omega) fun h₂ arr₂ n₂ ho₂ hz₂ hi₂ hk₂ => ?_)
        refine wpAny_pure ⟨loop_quiet _, ?_⟩
        refine loop_any P hl₀ Fi hx hrp k e { s with heap := h₂, toks := tk₁ } arr₂ n₂ (ys₁ ++ [rp]) (nn + 1) (e == r) (fun b o hb => ?_) ho₂ hi₂ lo.2.2 (by omega) (by omega) (fun y hy => ?_) (fun h' tk t' hk' => ?_)
        · have hne : b ≠ l := fun q => by rw [q, hl₀] at hb; cases hb
          exact hk₂ b o hne (hk₁ b o hne (hk b o hb))
        · rcases List.mem_append.mp hy with hy | hy
          · exact hl₁ y hy
          · rw [List.mem_singleton.mp hy]; omega
        · have := hR h' tk t' fun b o hb ho => hk' b o hb (hk₂ b o hb (hk₁ b o hb ho))
          rw [hpc] at this
          rw [hy₁, List.append_assoc, List.append_assoc]
          exact this
      by_cases hpr : p < r
      · rw [if_pos hpr]
        refine wpAny_bind (slice_any (t := x.cps) (by omega) fun tk => ?_)
        refine wpAny_bind (push_any ho hi (by omega) fun h₂ arr₂ n₂ ho₂ hz₂ hi₂ hk₂ => ?_)
        rw [if_pos (by rfl)]
        refine wpAny_bind (wpAny_pure ?_)
        rw [if_pos (by rfl)]
        refine tail h₂ _ arr₂ n₂ _ hk₂ ho₂ hi₂ (by omega) (by rw [if_pos hpr]) (fun y hy => ?_) _ _
        rcases List.mem_append.mp hy with hy | hy
        · exact hys y hy
        · rw [List.mem_singleton.mp hy]
          show (x.cps.extract p r).size ≤ 1000
          rw [Array.size_extract]; omega
      · rw [if_neg hpr]
        rw [if_pos (by rfl)]
        refine wpAny_bind (wpAny_pure ?_)
        rw [if_pos (by rfl)]
        exact tail s.heap s.toks arr n ys (fun _ _ _ e => e) ho hi (by omega) (by rw [if_neg hpr, List.append_nil]) hys _ _
    · dsimp only
      have hpc : pieces nx rp x.cps (k + 1) p = if p < x.cps.size then [⟨x.cps.extract p x.cps.size⟩] else [] := by
        simp only [pieces, hnx]
      have tail : ∀ (h₁ : Heap) (tk₁ : Nat) (arr₁ : Array Value) (n₁ : Nat) (ys₁ : List Str), (∀ b o, b ≠ l → s.heap.get? b = some o → h₁.get? b = some o) → h₁.get? l = some (lob arr₁ n₁) → StrsAre arr₁.toList ys₁ → arr₁.size ≤ arr.size + 1 →
          ys₁ = ys ++ (if p < x.cps.size then [⟨x.cps.extract p x.cps.size⟩] else []) → (∀ y ∈ ys₁, y.length ≤ 1000) → ∀ (tj : Tok) (tk₂ : Nat) (A' : Around) (E' : Value → Shared → Prop),
          wpAny (model prog w) A' (do
              let text ← if ((← seqItems? (.ref l)).getD #[]).isEmpty then pure (Value.str ⟨x.cps.extract 0 0⟩ tj) else call (.builtin "str.join") [.str ⟨x.cps.extract 0 0⟩ tj, .ref l]
              ret text)
            (fun fin s' => match fin with | .done f => R (.ok f) s' | .again c' => c'.quiet = true ∧ codeAny (model prog w) A c' R s') E' { s with heap := h₁, toks := tk₂ } := by
        intro h₁ tk₁ arr₁ n₁ ys₁ hk₁ ho₁ hi₁ hz₁ hy₁ hl₁ tj tk₂ A' E'
        refine wpAny_bind (wpAny_seqItems ho₁ rfl ?_)
        show wpAny _ _ (if arr₁.isEmpty = true then (do let text ← pure (Value.str ⟨x.cps.extract 0 0⟩ tj); ret text) else (do let text ← call (.builtin "str.join") [.str ⟨x.cps.extract 0 0⟩ tj, .ref l]; ret text)) _ _ _
        by_cases hem : arr₁.isEmpty = true
        · rw [if_pos hem]
          refine wpAny_bind (wpAny_pure (wpAny_pure ?_))
          have hr := hR h₁ tk₂ tj hk₁
          rw [hpc, ← hy₁] at hr
          have hys0 : ys₁ = [] := by
            have h2 := StrsAre.len hi₁
            have h3 : arr₁.size = 0 := by simpa using hem
            rw [Array.length_toList, h3] at h2
            exact List.length_eq_zero_iff.mp h2.symm
          rw [hys0] at hr
          have ej : Txt.join ⟨x.cps.extract 0 0⟩ [] = (⟨x.cps.extract 0 0⟩ : Str) := by
            have e0 : x.cps.extract 0 0 = #[] := by simp
            rw [e0]; rfl
          rw [ej] at hr
          exact hr
        · rw [if_neg hem]
          refine wpAny_bind (join_list ⟨_, ho₁, rfl, n₁, rfl⟩ hi₁ ?_ (fun t' k' => ?_))
          · have e0 : (⟨x.cps.extract 0 0⟩ : Str).length = 0 := by show (x.cps.extract 0 0).size = 0; simp
            rw [e0, Nat.mul_zero, Nat.add_zero]
            have h1 := StrLaws.sumLen_le ys₁ hl₁
            have h2 := StrsAre.len hi₁
            rw [Array.length_toList] at h2
            omega
          · refine wpAny_pure ?_
            have hr := hR h₁ k' t' hk₁
            rw [hpc, ← hy₁] at hr
            exact hr
      by_cases hpr : p < x.cps.size
      · rw [if_pos (show p < (tgt a x tx code).lim from hpr)]
        refine wpAny_bind (slice_any (t := x.cps) (by omega) fun tk => ?_)
        refine wpAny_bind (push_any ho hi (by omega) fun h₂ arr₂ n₂ ho₂ hz₂ hi₂ hk₂ => ?_)
        refine wpAny_bind (slice_any (t := x.cps) (by omega) fun tk' => ?_)
        refine tail h₂ s.toks arr₂ n₂ _ hk₂ ho₂ hi₂ (by omega) (by rw [if_pos hpr]; rfl) (fun y hy => ?_) _ _ _ _
        rcases List.mem_append.mp hy with hy | hy
        · exact hys y hy
        · rw [List.mem_singleton.mp hy]
          show (x.cps.extract p x.cps.size).size ≤ 1000
          rw [Array.size_extract]; omega
      · rw [if_neg (show ¬ p < (tgt a x tx code).lim from hpr)]
        refine wpAny_bind (slice_any (t := x.cps) (by omega) fun tk' => ?_)
        exact tail s.heap s.toks arr n ys (fun _ _ _ e => e) ho hi (by omega) (by rw [if_neg hpr, List.append_nil]) hys _ _ _ _
end
end Mine
end
section
namespace Mine
open PySem PySem.Sre PySem.Builtin.Re PyProof.Rows
set_option maxRecDepth 100000
theorem str_no_call : typeLookup (.type "str") "__call__" = pure none := by rw [typeLookup_type, builtinLookup_eq_fast]; kernel_rfl
section
variable {prog : Program} {w : World} {A : Around} {E : Value → Shared → Prop} {s : Shared}
theorem sub_any {a : Addr} {code : Array Nat} {x rp : Str} {tx tr : Tok} {nx : Nat → Option (Nat × Nat)} {Q : Value → Shared → Prop} (P : IsPat s.heap a code) (Fi : Finds prog w code x.cps nx) (hx : x.cps.size ≤ 1000) (hrp : rp.length ≤ 10)
    (hesc : rp.cps.contains 92 = false)
    (h : ∀ h' tk t', (∀ b o, s.heap.get? b = some o → h'.get? b = some o) → Q (.str (Txt.join ⟨x.cps.extract 0 0⟩ (pieces nx rp x.cps (x.cps.size + 1) 0)) t') { s with heap := h', toks := tk }) :
    wpAny (model prog w) A (call (.builtin "re.Pattern.sub") [.ref a, .str rp tr, .str x tx]) Q E s := by
  have hT : s.TypeIs (.ref a) "re.Pattern" := by obtain ⟨o, vs, ct, oc, cv, n, e1, hc, _⟩ := P; exact ⟨o, e1, hc⟩
  refine wpAny_call (codeAny_call_builtin slot_pat_sub.plain entry_pat_sub (slot_pat_sub.check _ _ _ _ _ _ _ _ hT (args_pat_sub_3 _ _ _) ?_))
  unfold Builtin.«re.Pattern.sub» reSubstitute
  dsimp only
  refine wpAny_bind (m := reNamed "re.Pattern.sub" "sub" ["repl", "string", "count"] 2 [Value.str rp tr, Value.str x tx] []) (wpAny_of_eq (a := [some (Value.str rp tr), some (Value.str x tx), none]) rfl ?_)
  dsimp only
  refine wpAny_bind (wpAny_pure ?_)
  refine wpAny_bind (wpAny_specialOf (typeIs_str _ _ _) str_no_call ?_)
  have hn : ¬ ((none : Option Value).isSome = true) := by decide
  rw [if_neg hn]
  refine wpAny_bind (m := asStr? (.str rp tr)) (wpAny_of_eq (a := some rp) rfl ?_)
  dsimp only
  refine wpAny_bind (wpAny_pure ?_)
  rw [if_neg hn]
  rw [if_pos (show (!rp.cps.contains 92) = true from by rw [hesc]; rfl)]
  refine wpAny_bind (wpAny_pure ?_)
  dsimp only
  refine wpAny_bind (wpAny_holding (whole_any P ?_))
  rw [if_neg (show ¬ (((0 : Int) == 1) = true) from by decide)]
  refine wpAny_bind (wpAny_newObj_type ?_ (by size_fits))
  refine wpAny_pure ⟨loop_quiet _, ?_⟩
  have hfresh : s.heap.get? s.heap.objs.size = none := by
    cases e : s.heap.get? s.heap.objs.size with
    | none => rfl
    | some o => exact absurd (Heap.lt_size e) (Nat.lt_irrefl _)
  refine loop_any (g₀ := s.heap) (l := s.heap.objs.size) P hfresh Fi hx hrp (x.cps.size + 1) 0 _ #[] 0 [] 0 false (fun b o e => Heap.get?_push_of_some _ e) (Heap.get?_push_size _ rfl) .nil (Nat.zero_le _) (by omega) (by show 0 + _ ≤ _; omega) (fun y hy => by cases hy) (fun h' tk t' hk => ?_)
  have hne : ∀ b o, s.heap.get? b = some o → b ≠ s.heap.objs.size := fun b o e => Nat.ne_of_lt (Heap.lt_size e)
  exact h h' tk t' fun b o e => hk b o (hne b o e) (Heap.get?_push_of_some _ e)
end
end Mine
end
section
namespace Mine
open PySem PySem.Sre PySem.Builtin.Re PyProof.Rows
set_option maxRecDepth 100000
noncomputable def nx1 (t : Array Nat) (p : Nat) : Option (Nat × Nat) := (find1 t (t.size - p) p).map fun r => (r, r + 1)
noncomputable def nx2 (t : Array Nat) (p : Nat) : Option (Nat × Nat) := (find2 t (t.size - p) p).map fun r => (r, brk2 t r)
theorem nx1_lo {t : Array Nat} {p r e : Nat} (h : nx1 t p = some (r, e)) : p ≤ r ∧ r < e ∧ e ≤ t.size := by
    unfold nx1 at h
    cases hr : find1 t (t.size - p) p with
    | none => rw [hr] at h; cases h
    | some q =>
      rw [hr] at h
      cases h
      have := find1_some hr
      by_cases hp : p ≤ t.size
      · omega
      · have z : t.size - p = 0 := by omega
        rw [z] at hr; cases hr
theorem nx2_lo {t : Array Nat} {p r e : Nat} (h : nx2 t p = some (r, e)) : p ≤ r ∧ r < e ∧ e ≤ t.size := by
    unfold nx2 at h
    cases hr : find2 t (t.size - p) p with
    | none => rw [hr] at h; cases h
    | some q =>
      rw [hr] at h
      cases h
      have := find2_some hr
      by_cases hp : p ≤ t.size
      · refine ⟨this.1, ?_, ?_⟩
        · unfold brk2; split <;> omega
        · unfold brk2
          split
          · rename_i hq
            simp only [Bool.and_eq_true, decide_eq_true_eq] at hq
            omega
          · omega
      · have z : t.size - p = 0 := by omega
        rw [z] at hr; cases hr
theorem finds1 {prog : Program} {w : World} {t : Array Nat} (ht : t.size ≤ 1000) : Finds prog w c1 t (nx1 t) where
  run := fun {A E s p must Q} hp hm hf => by
    refine found1 hp (by have : (2:Nat)^30 = 1073741824 := by decide
                         omega) must (fun m' r hr h1 h2 => hm m' r (r + 1) ?_ h1 h2) (fun hr => hf ?_)
    · unfold nx1; rw [hr]; rfl
    · unfold nx1; rw [hr]; rfl
  lo := nx1_lo
theorem finds2 {prog : Program} {w : World} {t : Array Nat} : Finds prog w c2 t (nx2 t) where
  run := fun {A E s p must Q} hp hm hf => by
    refine found2 hp must (fun m' r hr h1 h2 => hm m' r (brk2 t r) ?_ h1 h2) (fun hr => hf ?_)
    · unfold nx2; rw [hr]; rfl
    · unfold nx2; rw [hr]; rfl
  lo := nx2_lo
/-- what the two patterns make of a text, as the program's calls give it -/
noncomputable def sub1 (x : Str) : Str := Txt.join ⟨x.cps.extract 0 0⟩ (pieces (nx1 x.cps) ⟨#[46, 46]⟩ x.cps (x.cps.size + 1) 0)
noncomputable def sub2 (x : Str) : Str := Txt.join ⟨x.cps.extract 0 0⟩ (pieces (nx2 x.cps) ⟨#[13, 10]⟩ x.cps (x.cps.size + 1) 0)
noncomputable def quoted (x : Str) : Str := sub1 (sub2 x)
end Mine
end
section
namespace Mine
open PySem PySem.Sre PySem.Builtin.Re PyProof.Rows
theorem pieces_sum {nx : Nat → Option (Nat × Nat)} {rp : Str} {t : Array Nat} (hlo : ∀ p r e : Nat, nx p = some (r, e) → p ≤ r ∧ r < e ∧ e ≤ t.size) :
    ∀ (k p : Nat), p ≤ t.size → ((pieces nx rp t k p).map (·.length)).sum ≤ (t.size - p) + (t.size - p) * rp.length
  | 0, _, _ => Nat.zero_le _
  | k + 1, p, hp => by
    unfold pieces
    split
    · split
      · show (t.extract p t.size).size + 0 ≤ _
        rw [Array.size_extract]; omega
      · exact Nat.zero_le _
    · rename_i r e hn
      have lo := hlo _ _ _ hn
      have ih := pieces_sum (rp := rp) hlo k e lo.2.2
      have h1 : ((if p < r then [(⟨t.extract p r⟩ : Str)] else []).map (·.length)).sum ≤ r - p := by
        split
        · show (t.extract p r).size + 0 ≤ _
          rw [Array.size_extract]; omega
        · exact Nat.zero_le _
      rw [List.map_append, List.sum_append, List.map_cons, List.sum_cons]
      obtain ⟨d, hd⟩ : ∃ d, t.size - p = (t.size - e) + 1 + d := ⟨t.size - p - (t.size - e) - 1, by omega⟩
      have h2 : (t.size - p) * rp.length = (t.size - e) * rp.length + rp.length + d * rp.length := by rw [hd, Nat.add_mul, Nat.add_mul, Nat.one_mul]
      omega
theorem sub2_le {x : Str} (hx : x.cps.size ≤ 200) : (sub2 x).cps.size ≤ 1000 := by
  have h := pieces_sum (nx := nx2 x.cps) (t := x.cps) (rp := ⟨#[13, 10]⟩) (fun p r e h => nx2_lo h) (x.cps.size + 1) 0 (Nat.zero_le _)
  have hj := StrLaws.join_length_le (⟨x.cps.extract 0 0⟩ : Str) (pieces (nx2 x.cps) ⟨#[13, 10]⟩ x.cps (x.cps.size + 1) 0)
  have e0 : (⟨x.cps.extract 0 0⟩ : Str).length = 0 := by show (x.cps.extract 0 0).size = 0; simp
  rw [e0] at hj
  have e2 : (⟨#[13, 10]⟩ : Str).length = 2 := rfl
  rw [e2] at h
  show (sub2 x).length ≤ 1000
  unfold sub2
  refine Nat.le_trans (m := ((pieces (nx2 x.cps) ⟨#[13, 10]⟩ x.cps (x.cps.size + 1) 0).map (·.length)).sum) ?_ (by omega)
  rw [Nat.mul_zero, Nat.add_zero] at hj
  have e := eq_of_beq (join_closes (sep := (⟨x.cps.extract 0 0⟩ : Str)) (ys := pieces (nx2 x.cps) ⟨#[13, 10]⟩ x.cps (x.cps.size + 1) 0) rfl)
  rw [e]
  exact hj
end Mine
end
section
namespace Mine
open PySem PySem.Sre PySem.Builtin.Re PyProof.Rows
/-- line ends made whole, as a function of lists (the flag: a return stands just ahead, its end is laid) -/
noncomputable def q2 : Bool → List Nat → List Nat
  | _, [] => []
  | cr, c :: r => if c = 13 then 13 :: 10 :: q2 true r else if c = 10 then (if cr then q2 false r else 13 :: 10 :: q2 false r) else c :: q2 false r
/-- dots doubled at a line's begin -/
noncomputable def q1 : Bool → List Nat → List Nat
  | _, [] => []
  | b, c :: r => (if b && c == 46 then [46, 46] else [c]) ++ q1 (c == 10) r
theorem join_nil_toList : ∀ ys : List Str, (Str.join (⟨#[]⟩ : Str) ys).cps.toList = (ys.map fun y => y.cps.toList).flatten
  | [] => rfl
  | [y] => by show y.cps.toList = _; simp
  | y :: z :: r => by
    have ih := join_nil_toList (z :: r)
    have e : Str.join (⟨#[]⟩ : Str) (y :: z :: r) = y ++ (⟨#[]⟩ : Str) ++ Str.join (⟨#[]⟩ : Str) (z :: r) := rfl
    rw [e, Str.cps_append, Str.cps_append, List.map_cons, List.flatten_cons, ← ih]
    simp
theorem drop_step {t : Array Nat} {s : Nat} (h : s < t.size) : t.toList.drop s = t.getD s 0 :: t.toList.drop (s + 1) := by
  have h' : s < t.toList.length := by simpa using h
  rw [List.drop_eq_getElem_cons h']
  congr 1
  simp [Array.getD, h]
theorem drop_all {t : Array Nat} {s : Nat} (h : t.size ≤ s) : t.toList.drop s = [] := List.drop_eq_nil_of_le (by simpa using h)
theorem q2_plain {c : Nat} {r : List Nat} {b : Bool} (h1 : c ≠ 13) (h2 : c ≠ 10) : q2 b (c :: r) = c :: q2 false r := by
  rw [q2, if_neg h1, if_neg h2]
theorem q2_flag {c : Nat} {r : List Nat} (h2 : c ≠ 10) : q2 true (c :: r) = q2 false (c :: r) := by
  rw [q2, q2, if_neg h2, if_neg h2]
theorem brk_false {t : Array Nat} {s : Nat} (h : brkAt t s = false) : t.getD s 0 ≠ 13 ∧ t.getD s 0 ≠ 10 := by
  unfold brkAt at h
  simp only [Bool.or_eq_false_iff, beq_eq_false_iff_ne] at h
  exact h
theorem q2_none {t : Array Nat} : ∀ (n s : Nat), s + n = t.size → find2 t n s = none → q2 false (t.toList.drop s) = t.toList.drop s
  | 0, s, hs, _ => by rw [drop_all (by omega)]; rfl
  | n + 1, s, hs, h => by
    unfold find2 at h
    split at h
    · cases h
    · rename_i hb
      have hb' := brk_false (by simpa using hb)
      rw [drop_step (by omega), q2_plain hb'.1 hb'.2, q2_none n (s + 1) (by omega) h]
theorem q2_some {t : Array Nat} : ∀ (n s r : Nat), s + n = t.size → find2 t n s = some r → q2 false (t.toList.drop s) = (t.toList.drop s).take (r - s) ++ q2 false (t.toList.drop r)
  | 0, s, r, hs, h => by cases h
  | n + 1, s, r, hs, h => by
    unfold find2 at h
    split at h
    · cases h; rw [Nat.sub_self]; rfl
    · rename_i hb
      have hb' := brk_false (by simpa using hb)
      have hr := find2_some h
      have e : r - s = (r - (s + 1)) + 1 := by omega
      rw [drop_step (by omega), q2_plain hb'.1 hb'.2, q2_some n (s + 1) r (by omega) h, e, List.take_succ_cons, List.cons_append]
theorem q2_brk {t : Array Nat} {r : Nat} (h : r < t.size) (hb : brkAt t r = true) : q2 false (t.toList.drop r) = 13 :: 10 :: q2 false (t.toList.drop (brk2 t r)) := by
  rw [drop_step h]
  unfold brk2
  by_cases h13 : t.getD r 0 = 13
  · rw [h13, q2, if_pos rfl]
    by_cases h1 : r + 1 < t.size
    · rw [drop_step h1]
      by_cases h10 : t.getD (r + 1) 0 = 10
      · rw [h10, q2, if_neg (by decide), if_pos rfl, if_pos rfl, decide_eq_true h1]
        rfl
      · have e : (t.getD (r + 1) 0 == 10) = false := by rw [beq_eq_false_iff_ne]; exact h10
        rw [e, Bool.and_false, if_neg (by decide), q2_flag h10, drop_step h1]
    · rw [decide_eq_false h1, drop_all (by omega), Bool.and_false, Bool.false_and, if_neg (by decide), drop_all (by omega)]
      rfl
  · have h10 : t.getD r 0 = 10 := by
      unfold brkAt at hb
      rw [Bool.or_eq_true, beq_iff_eq, beq_iff_eq] at hb
      exact hb.resolve_left h13
    have e : (t.getD r 0 == 13) = false := by rw [beq_eq_false_iff_ne]; exact h13
    rw [e, Bool.false_and, Bool.false_and, h10, q2, if_neg (by decide), if_pos rfl, if_neg (by decide), if_neg (by decide)]
theorem pieces_q2 {t : Array Nat} : ∀ (k p : Nat), p ≤ t.size → t.size - p < k → ((pieces (nx2 t) ⟨#[13, 10]⟩ t k p).map fun y => y.cps.toList).flatten = q2 false (t.toList.drop p)
  | 0, _, _, h => absurd h (Nat.not_lt_zero _)
  | k + 1, p, hp, hk => by
    have hnx : nx2 t p = (find2 t (t.size - p) p).map fun r => (r, brk2 t r) := rfl
    cases hf : find2 t (t.size - p) p with
    | none =>
      rw [hf] at hnx
      have e : pieces (nx2 t) ⟨#[13, 10]⟩ t (k + 1) p = if p < t.size then [⟨t.extract p t.size⟩] else [] := by simp only [pieces, hnx]; rfl
      rw [e, q2_none _ p (by omega) hf]
      split
      · simp
        rw [List.take_of_length_le (by simp)]
      · rw [drop_all (by omega)]; rfl
    | some r =>
      rw [hf] at hnx
      have hr := find2_some hf
      have lo := nx2_lo (t := t) (p := p) (r := r) (e := brk2 t r) hnx
      have e : pieces (nx2 t) ⟨#[13, 10]⟩ t (k + 1) p = (if p < r then [⟨t.extract p r⟩] else []) ++ (⟨#[13, 10]⟩ :: pieces (nx2 t) ⟨#[13, 10]⟩ t k (brk2 t r)) := by simp only [pieces, hnx]; rfl
      rw [e, q2_some _ p r (by omega) hf, q2_brk (by omega) hr.2.2, List.map_append, List.flatten_append, List.map_cons, List.flatten_cons, pieces_q2 k (brk2 t r) lo.2.2 (by omega)]
      congr 1
      split
      · simp
      · have z : r - p = 0 := by omega
        rw [z]; rfl
theorem sub2_is (x : Str) : (sub2 x).cps.toList = q2 false x.cps.toList := by
  have e := eq_of_beq (join_closes (sep := (⟨x.cps.extract 0 0⟩ : Str)) (sep' := (⟨#[]⟩ : Str)) (ys := pieces (nx2 x.cps) ⟨#[13, 10]⟩ x.cps (x.cps.size + 1) 0) (by simp))
  unfold sub2
  rw [e, join_nil_toList, pieces_q2 _ 0 (Nat.zero_le _) (by omega)]
  rfl
theorem bol_succ {t : Array Nat} {s : Nat} : bol t (s + 1) = (t.getD s 0 == 10) := by
  unfold bol
  rw [show (s + 1 == 0) = false from rfl, Bool.false_or, Nat.add_sub_cancel]
theorem q1_step {t : Array Nat} {s : Nat} (h : s < t.size) : q1 (bol t s) (t.toList.drop s) = (if hit1 t s then [46, 46] else [t.getD s 0]) ++ q1 (bol t (s + 1)) (t.toList.drop (s + 1)) := by
  rw [drop_step h, q1, bol_succ]
  rfl
theorem q1_none {t : Array Nat} : ∀ (n s : Nat), s + n = t.size → find1 t n s = none → q1 (bol t s) (t.toList.drop s) = t.toList.drop s
  | 0, s, hs, _ => by rw [drop_all (by omega)]; cases bol t s <;> rfl
  | n + 1, s, hs, h => by
    unfold find1 at h
    split at h
    · cases h
    · rename_i hb
      rw [q1_step (by omega), if_neg hb, q1_none n (s + 1) (by omega) h, drop_step (show s < t.size by omega)]
      rfl
theorem q1_some {t : Array Nat} : ∀ (n s r : Nat), s + n = t.size → find1 t n s = some r → q1 (bol t s) (t.toList.drop s) = (t.toList.drop s).take (r - s) ++ q1 (bol t r) (t.toList.drop r)
  | 0, s, r, hs, h => by cases h
  | n + 1, s, r, hs, h => by
    unfold find1 at h
    split at h
    · cases h; rw [Nat.sub_self]; rfl
    · rename_i hb
      have hr := find1_some h
      have e : r - s = (r - (s + 1)) + 1 := by omega
      rw [q1_step (by omega), if_neg hb, q1_some n (s + 1) r (by omega) h, e, drop_step (show s < t.size by omega), List.take_succ_cons]
      rfl
theorem pieces_q1 {t : Array Nat} : ∀ (k p : Nat), p ≤ t.size → t.size - p < k → ((pieces (nx1 t) ⟨#[46, 46]⟩ t k p).map fun y => y.cps.toList).flatten = q1 (bol t p) (t.toList.drop p)
  | 0, _, _, h => absurd h (Nat.not_lt_zero _)
  | k + 1, p, hp, hk => by
    have hnx : nx1 t p = (find1 t (t.size - p) p).map fun r => (r, r + 1) := rfl
    cases hf : find1 t (t.size - p) p with
    | none =>
      rw [hf] at hnx
      have e : pieces (nx1 t) ⟨#[46, 46]⟩ t (k + 1) p = if p < t.size then [⟨t.extract p t.size⟩] else [] := by simp only [pieces, hnx]; rfl
      rw [e, q1_none _ p (by omega) hf]
      split
      · simp
        rw [List.take_of_length_le (by simp)]
      · rw [drop_all (by omega)]; rfl
    | some r =>
      rw [hf] at hnx
      have hr := find1_some hf
      have lo := nx1_lo (t := t) (p := p) (r := r) (e := r + 1) hnx
      have e : pieces (nx1 t) ⟨#[46, 46]⟩ t (k + 1) p = (if p < r then [⟨t.extract p r⟩] else []) ++ (⟨#[46, 46]⟩ :: pieces (nx1 t) ⟨#[46, 46]⟩ t k (r + 1)) := by simp only [pieces, hnx]; rfl
      rw [e, q1_some _ p r (by omega) hf, q1_step (show r < t.size by omega), if_pos hr.2.2, List.map_append, List.flatten_append, List.map_cons, List.flatten_cons, pieces_q1 k (r + 1) lo.2.2 (by omega)]
      congr 1
      split
      · simp
      · have z : r - p = 0 := by omega
        rw [z]; rfl
theorem sub1_is (x : Str) : (sub1 x).cps.toList = q1 true x.cps.toList := by
  have e := eq_of_beq (join_closes (sep := (⟨x.cps.extract 0 0⟩ : Str)) (sep' := (⟨#[]⟩ : Str)) (ys := pieces (nx1 x.cps) ⟨#[46, 46]⟩ x.cps (x.cps.size + 1) 0) (by simp))
  unfold sub1
  rw [e, join_nil_toList, pieces_q1 _ 0 (Nat.zero_le _) (by omega)]
  rfl
theorem quoted_is (x : Str) : (quoted x).cps.toList = q1 true (q2 false x.cps.toList) := by
  unfold quoted
  rw [sub1_is, sub2_is]
end Mine
end
section
namespace Mine
open PySem
noncomputable def endL (j : Nat) : List Nat := match j with | 0 => [10] | 1 => [13] | _ => [13, 10]
noncomputable def rowL (d a j : Nat) : List Nat := List.replicate d 46 ++ List.replicate a 97 ++ endL j
noncomputable def lenRow (d a : Nat) : Nat := d + (if 0 < d then 1 else 0) + a + 2
theorem len_rows : ∀ d < 5, ∀ a < 5, ∀ j < 3, ∀ s < 4, (q1 true (q2 false (List.replicate s (rowL d a j)).flatten)).length = s * lenRow d a := by decide +kernel
/-- the nineteen rows of the first three numbers, and what comes of each -/
noncomputable def signL (k : Nat) : List Nat := if k = 18 then [46, 46] else [(#[40, 41, 91, 93, 58, 44, 59, 43, 45, 42, 47, 124, 38, 60, 62, 61, 46, 37] : Array Nat).getD k 0]
noncomputable def sentL (k : Nat) : List Nat := if k = 18 then [46, 46, 46] else if k = 16 then [46, 46] else signL k
theorem one_row : ∀ k < 19, ∀ j < 3, q1 true (q2 false (signL k ++ endL j)) = sentL k ++ [13, 10] := by decide +kernel
/-- a whole row ahead of other text is sent by itself -/
theorem row_ahead : ∀ k < 19, ∀ j < 3, ∀ r : List Nat, r.head? ≠ some 10 → q1 true (q2 false (signL k ++ endL j ++ r)) = sentL k ++ 13 :: 10 :: q1 true (q2 false r) := by
  intro k hk j hj r hr
  have e : q2 true r = q2 false r := by
    cases r with
    | nil => rfl
    | cons c r => exact q2_flag (by simpa using hr)
  have hj' : j = 0 ∨ j = 1 ∨ j = 2 := by omega
  have hk' : k = 0 ∨ k = 1 ∨ k = 2 ∨ k = 3 ∨ k = 4 ∨ k = 5 ∨ k = 6 ∨ k = 7 ∨ k = 8 ∨ k = 9 ∨ k = 10 ∨ k = 11 ∨ k = 12 ∨ k = 13 ∨ k = 14 ∨ k = 15 ∨ k = 16 ∨ k = 17 ∨ k = 18 := by omega
  rcases hj' with rfl | rfl | rfl
  · rcases hk' with rfl|rfl|rfl|rfl|rfl|rfl|rfl|rfl|rfl|rfl|rfl|rfl|rfl|rfl|rfl|rfl|rfl|rfl|rfl <;> rfl
  · rcases hk' with rfl|rfl|rfl|rfl|rfl|rfl|rfl|rfl|rfl|rfl|rfl|rfl|rfl|rfl|rfl|rfl|rfl|rfl|rfl <;> (rw [← e]; rfl)
  · rcases hk' with rfl|rfl|rfl|rfl|rfl|rfl|rfl|rfl|rfl|rfl|rfl|rfl|rfl|rfl|rfl|rfl|rfl|rfl|rfl <;> rfl
end Mine
end
section
open PySem PySem.W PyProof.Rows
set_option Elab.async false
namespace Mine
abbrev Lo3 : List Str := [Str.ofString "_twin_re_1", Str.ofString "_twin_re_2", Str.ofString "EXACT_TOKEN_TYPES"]
/-- what a caller of the law's own helpers has in hand -/
structure Here (w : World) (mean : ExcName → Option Value) (mg mb : Str → Option Value) (env : Env) (base h₀ : Heap) (L : Addr) (h : Heap) (m : Str → Option Value) (news : List (Addr × Obj)) : Prop where
  B : Below callerA base [] h₀
  F : Fr h₀ L h m
  X : (hd.heap_39 w.params).In h₀
  N : News h₀ L h news
  T : Top hd.view_39 (looseW hd.view_39 [Str.ofString "_twin_re_1", Str.ofString "_twin_re_2", Str.ofString "EXACT_TOKEN_TYPES"]) mean mg mb h₀
  GL : Glob 0 mg mb (List.map itemOf (recsOf hd.view_39)) (scalarsOf [] ++ constsW hd.view_39) [] (namesW hd.view_39 [Str.ofString "_twin_re_1", Str.ofString "_twin_re_2", Str.ofString "EXACT_TOKEN_TYPES"]) base
  M : ∃ a o, BMod base mainGlobals mg a o
  hf : env.frame = some L
  hk : env.scope.kind = .function
end Mine
end
section
open PySem PySem.W PyProof.Rows
set_option Elab.async false
namespace Mine
/-- an equation that omega does not see -/
structure Eqv (v x : Int) : Prop where
  h : v = x
theorem ite_joinI {M : Model} {A : Around} {E : Value → Shared → Prop} {s : Shared} {c : Prop} [Decidable c] {x y : Sem Value} {vx vy : Int} {Q : Value → Shared → Prop}
    (hx : c → ∀ Q' : Value → Shared → Prop, (∀ t tk, Q' (.int vx t) { s with toks := tk }) → wpAny M A x Q' E s)
    (hy : ¬ c → ∀ Q' : Value → Shared → Prop, (∀ t tk, Q' (.int vy t) { s with toks := tk }) → wpAny M A y Q' E s)
    (h : ∀ t tk, Q (.int (if c then vx else vy) t) { s with toks := tk }) : if c then wpAny M A x Q E s else wpAny M A y Q E s := by
  by_cases hc : c
  · rw [if_pos hc]; refine hx hc Q fun t tk => ?_; have := h t tk; rwa [if_pos hc] at this
  · rw [if_neg hc]; refine hy hc Q fun t tk => ?_; have := h t tk; rwa [if_neg hc] at this
end Mine
namespace Mine
open PyProof.V PySem.Spec PySem.Calls
theorem iter_rangeTurns {prog : Program} {w : World} {A : Around} {E : Value → Shared → Prop} {s : Shared} {env : Env} {h₀ : Heap} {x : Str} {px : Pos} {body : List Stmt} {Q : Flow → Shared → Prop}
    {r : Addr} {a₀ b₀ : Int} {t₀ u₀ v₀ : Tok} {n : Nat} {xs : List Itm} {m₀ : Str → Option Value} {news : List (Addr × Obj)}
    (hh : A.handled = none) (hr : IsRange s.heap r a₀ b₀ 1 t₀ u₀ v₀) (hsmall : Builtin.Range.small a₀ b₀ 1 = true) (hn : Builtin.Range.rangeSize a₀ b₀ 1 = (n : Int))
    (hx : n = xs.length) (hxs : ∀ i, i < n → xs[i]? = some (.tok fun t => .int (a₀ + (i : Int) * 1) t))
    (F : Fr h₀ env.locals s.heap m₀) (N : News h₀ env.locals s.heap news)
    (rest₀ : ∀ I : Addr, (∀ p ∈ news, p.1 < I) → ItemsRest prog w A E h₀ env (.Name x px) body Q s [(I, "range_iterator")] [] xs m₀ news) :
    wpAny (model prog w) A (pyIter (.ref r)) (fun it s₂ => TurnsAt prog w A h₀ env (.Name x px) body Q E it s₂) E s := by
  refine wpAny_pyIter_range hr hsmall ?_
  refine ktu_core (tk0 := s.toks) (keep := []) (KTurns.ofWalks (Walks.range hh s.heap.objs.size a₀ 1 n).bound fun i v s Q E st q => wpAny_pure q) hx (fun i v h hp => ?_) (fun i h st => ?_) (fun b hb => ?_) (fun b hb => by simpa using hb) (fun b hb => ?_) ?_ (fun p hp hI => ?_) ?_ (F.push _) (fun p hp => ⟨Heap.get?_push_of_some _ (N p hp).1, (N p hp).2⟩) trivial (rest₀ _ fun p hp => Heap.lt_size (N p hp).1)
  · obtain ⟨hi, t, rfl⟩ := hp
    exact ⟨_, hxs i hi, t, rfl⟩
  · exact ⟨[(s.heap.objs.size, _)], ⟨⟨rfl, rfl⟩, trivial⟩, fun p hp => by rw [List.mem_singleton.mp hp]; exact st⟩
  · have hb' : b = s.heap.objs.size := by simpa using hb
    rw [hb']
    exact ⟨List.mem_singleton.mpr rfl, next_is_new F⟩
  · exact .inl (by simpa using hb)
  · intro hI
    exact absurd F.ns.lt (List.mem_singleton.mp hI ▸ Nat.lt_irrefl _)
  · exact absurd (Heap.lt_size (N p hp).1) ((List.mem_singleton.mp hI) ▸ Nat.lt_irrefl _)
  · show IsRangeIter _ _ _ _ _
    rw [hn]; simpa using Heap.get?_push_size _ rfl
end Mine
namespace Mine
open PyProof.V PySem.Spec PySem.Calls
theorem mulOk_small {a b : Int} (hlo : -1000000 ≤ a) (hhi : a ≤ 1000000) : IntMulOk a b :=
  .of_left (intBits_le_iff.mpr (by have : (2:Nat)^64 = 18446744073709551616 := by decide
                                   omega))
theorem mulG {prog : Program} {w : World} {A : Around} {E : Value → Shared → Prop} {s : Shared} {a b : Int} {t u : Tok} {Q : Value → Shared → Prop} (hlo : -1000000 ≤ a) (hhi : a ≤ 1000000)
    (h : ∀ v, Eqv v (a * b) → Q (.int v s.toks) { s with toks := s.toks + 1 }) : wpAny (model prog w) A (binaryOp .Mult (.int a t) (.int b u)) Q E s :=
  mul_int (h _ ⟨rfl⟩) (mulOk_small hlo hhi)
theorem ite_joinG {M : Model} {A : Around} {E : Value → Shared → Prop} {s : Shared} {c : Prop} [Decidable c] {x y : Sem Value} {vx vy : Int} {Q : Value → Shared → Prop}
    (hx : c → ∀ Q' : Value → Shared → Prop, (∀ t tk, Q' (.int vx t) { s with toks := tk }) → wpAny M A x Q' E s)
    (hy : ¬ c → ∀ Q' : Value → Shared → Prop, (∀ t tk, Q' (.int vy t) { s with toks := tk }) → wpAny M A y Q' E s)
    (h : ∀ v t tk, Eqv v (if c then vx else vy) → Q (.int v t) { s with toks := tk }) : if c then wpAny M A x Q E s else wpAny M A y Q E s :=
  ite_joinI hx hy fun t tk => h _ t tk ⟨rfl⟩
theorem ledList {h₀ h : Heap} {L l : Addr} {news : List (Addr × Obj)} {vs : List Value} {n : Nat} (N : News h₀ L h news) (hm : (l, ({ cls := .type "list", data := .seq vs.toArray n } : Obj)) ∈ news) : h.IsList l vs.toArray :=
  ⟨_, (N _ hm).1, rfl, n, rfl⟩
end Mine
namespace Mine
open PyProof.V PySem.Spec PySem.Calls
section
variable {prog : Program} {w : World} {A : Around} {E : Value → Shared → Prop} {s : Shared} {h₀ : Heap} {L : Addr} {m : Str → Option Value} {news : List (Addr × Obj)}
theorem sumL {l : Addr} {arr : Array Value} {n : Nat} {ns : List Int} {Q : Value → Shared → Prop} (hh : A.handled = none) (F : Fr h₀ L s.heap m) (N : News h₀ L s.heap news)
    (hm : (l, ({ cls := .type "list", data := .seq arr n } : Obj)) ∈ news) (hi : IntsAre arr.toList ns)
    (h : ∀ v h' tk t', Eqv v ns.sum → Fr h₀ L h' m → News h₀ L h' news → Q (.int v t') { s with heap := h', toks := tk }) :
    wpAny (model prog w) A (call (.builtin "sum") [.ref l]) Q E s :=
  sumK (vs := arr.toList) hh F N ⟨_, (N _ hm).1, rfl, n, rfl⟩ hi fun h' tk t' F' N' => h _ h' tk t' ⟨rfl⟩ F' N'
theorem maxL {l : Addr} {arr : Array Value} {n : Nat} {ns : List Int} {Q : Value → Shared → Prop} (hh : A.handled = none) (F : Fr h₀ L s.heap m) (N : News h₀ L s.heap news)
    (hm : (l, ({ cls := .type "list", data := .seq arr n } : Obj)) ∈ news) (hi : IntsAre arr.toList ns) (hne : 0 < ns.length)
    (h : ∀ h' M (t : Tok) tk, Fr h₀ L h' m → News h₀ L h' news → M ∈ ns → (∀ a, a ∈ ns → a ≤ M) → Q (.int M t) { s with heap := h', toks := tk }) :
    wpAny (model prog w) A (call (.builtin "max") [.ref l]) Q E s :=
  max_list_N (vs := arr.toList) hh F N ⟨_, (N _ hm).1, rfl, n, rfl⟩ hi hne h
end
end Mine
namespace Mine
inductive MarkJ : Prop | mk
end Mine
namespace Mine
open PyProof.V PySem.Spec PySem.Calls
theorem itemL {prog : Program} {w : World} {A : Around} {E : Value → Shared → Prop} {s : Shared} {h₀ : Heap} {L : Addr} {news : List (Addr × Obj)} {value slice : PySem.Expr} {l : Addr} {arr : Array Value} {n : Nat} {k : Int} {u : Tok} {v : Value} {Q : Value → Shared → Prop}
    (N : News h₀ L s.heap news) (hm : (l, ({ cls := .type "list", data := .seq arr n } : Obj)) ∈ news) (h0 : 0 ≤ k) (hhi : k < 2 ^ 63) (hx : arr.toList[k.toNat]? = some v) (h : Q v s)
    (hs : subscripted slice false (.ref l) (.int k u) = operate [.ref l, .int k u] (getItem (.ref l) (.int k u)) := by with_unfolding_all rfl) :
    wpAny (model prog w) A (subscriptTail value slice (.ref l) (.int k u)) Q E s :=
  have hl : s.heap.IsList l arr := ⟨_, (N _ hm).1, rfl, n, rfl⟩
  tail_any hl.typeIs slot_list_getitem.lookup (wpAny_getItem_list hl h0 hhi (by simpa using hx) h) hs
end Mine
namespace Mine
theorem dropNews {h₀ h : Heap} {L : Addr} {p : Addr × Obj} {news : List (Addr × Obj)} (N : News h₀ L h (p :: news)) : News h₀ L h news := fun q hq => N q (List.mem_cons_of_mem _ hq)
end Mine
end
section
open PySem PySem.W PyProof.Rows
set_option Elab.async false
namespace Mine
theorem ite_joinI2 {M : Model} {A : Around} {E : Value → Shared → Prop} {s : Shared} {c : Prop} [Decidable c] {x y : Sem Value} {vx vy : Int} {Q : Value → Shared → Prop}
    (hh : (c → ∀ Q' : Value → Shared → Prop, (∀ t tk, Q' (.int vx t) { s with toks := tk }) → wpAny M A x Q' E s) ∧
      (¬ c → ∀ Q' : Value → Shared → Prop, (∀ t tk, Q' (.int vy t) { s with toks := tk }) → wpAny M A y Q' E s))
    (h : ∀ t tk, Q (.int (if c then vx else vy) t) { s with toks := tk }) : if c then wpAny M A x Q E s else wpAny M A y Q E s := ite_joinI hh.1 hh.2 h
theorem ite_joinG2 {M : Model} {A : Around} {E : Value → Shared → Prop} {s : Shared} {c : Prop} [Decidable c] {x y : Sem Value} {vx vy : Int} {Q : Value → Shared → Prop}
    (hh : (c → ∀ Q' : Value → Shared → Prop, (∀ t tk, Q' (.int vx t) { s with toks := tk }) → wpAny M A x Q' E s) ∧
      (¬ c → ∀ Q' : Value → Shared → Prop, (∀ t tk, Q' (.int vy t) { s with toks := tk }) → wpAny M A y Q' E s))
    (h : ∀ v t tk, Eqv v (if c then vx else vy) → Q (.int v t) { s with toks := tk }) : if c then wpAny M A x Q E s else wpAny M A y Q E s := ite_joinG hh.1 hh.2 h
end Mine
end
section
open PySem PySem.W PyProof.Rows
set_option Elab.async false
set_option maxRecDepth 100000
set_option maxHeartbeats 8000000
namespace Mine
open PyProof.V PySem.Spec PySem.Calls
section
variable {prog : Program} {w : World} {A : Around} {E : Value → Shared → Prop} {s : Shared} {h₀ : Heap} {L : Addr} {m : Str → Option Value} {news : List (Addr × Obj)}
theorem max2E {a b : Int} {t u : Tok} {Q : Value → Shared → Prop} (hh : A.handled = none) (F : Fr h₀ L s.heap m) (N : News h₀ L s.heap news)
    (h : ∀ h' tk t', Fr h₀ L h' m → News h₀ L h' news → Q (.int (max a b) t') { s with heap := h', toks := tk }) :
    wpAny (model prog w) A (call (.builtin "max") [.int a t, .int b u]) Q E s := by
  refine max_two_N hh F N fun h' tk F' N' => ?_
  have e : (if b > a then b else a) = max a b := by split <;> omega
  rw [e]; exact h h' tk _ F' N'
theorem max2G {a b : Int} {t u : Tok} {Q : Value → Shared → Prop} (hh : A.handled = none) (F : Fr h₀ L s.heap m) (N : News h₀ L s.heap news)
    (h : ∀ v h' tk t', Eqv v (max a b) → Fr h₀ L h' m → News h₀ L h' news → Q (.int v t') { s with heap := h', toks := tk }) :
    wpAny (model prog w) A (call (.builtin "max") [.int a t, .int b u]) Q E s :=
  max2E hh F N fun h' tk t' F' N' => h _ h' tk t' ⟨rfl⟩ F' N'
theorem itemZ {value slice : PySem.Expr} {l : Addr} {arr : Array Value} {n : Nat} {k : Int} {u : Tok} {v : Value} {Q : Value → Shared → Prop} (j : Nat)
    (N : News h₀ L s.heap news) (hm : (l, ({ cls := .type "list", data := .seq arr n } : Obj)) ∈ news) (hk : k = (j : Int)) (hj : j < 100) (hx : arr.toList[j]? = some v) (h : Q v s)
    (hs : subscripted slice false (.ref l) (.int k u) = operate [.ref l, .int k u] (getItem (.ref l) (.int k u)) := by with_unfolding_all rfl) :
    wpAny (model prog w) A (subscriptTail value slice (.ref l) (.int k u)) Q E s :=
  itemL N hm (by omega) (by have : (2 : Int) ^ 63 = 9223372036854775808 := by decide
                            omega) (by rw [hk]; simpa using hx) h hs
/-- a statement that sets one name, in one of three ways -/
theorem set3 {st : Stmt} {env : Env} {x y : Str} {p z e0 e1 e2 : Int} {ta : Tok} {Q : Flow → Shared → Prop} (F : Fr h₀ L s.heap m) (_N : News h₀ L s.heap news) (ha : m y = some (.int (p - (1 + z)) ta)) (hz : 0 ≤ z ∧ z ≤ 2)
    (h0 : Fr h₀ L s.heap (fun q => if q = y then some (.int (p - (1 + 0)) ta) else m q) → ∀ Q' : Flow → Shared → Prop, (∀ t h tk, Fr h₀ L h (fun q => if q = x then some (.int e0 t) else if q = y then some (.int (p - (1 + 0)) ta) else m q) → News h₀ L h news → Q' .next { s with heap := h, toks := tk }) → wpAny (model prog w) A (exec st env) Q' E s)
    (h1 : Fr h₀ L s.heap (fun q => if q = y then some (.int (p - (1 + 1)) ta) else m q) → ∀ Q' : Flow → Shared → Prop, (∀ t h tk, Fr h₀ L h (fun q => if q = x then some (.int e1 t) else if q = y then some (.int (p - (1 + 1)) ta) else m q) → News h₀ L h news → Q' .next { s with heap := h, toks := tk }) → wpAny (model prog w) A (exec st env) Q' E s)
    (h2 : Fr h₀ L s.heap (fun q => if q = y then some (.int (p - (1 + 2)) ta) else m q) → ∀ Q' : Flow → Shared → Prop, (∀ t h tk, Fr h₀ L h (fun q => if q = x then some (.int e2 t) else if q = y then some (.int (p - (1 + 2)) ta) else m q) → News h₀ L h news → Q' .next { s with heap := h, toks := tk }) → wpAny (model prog w) A (exec st env) Q' E s)
    (hk : ∀ v t h tk, Eqv v (if z = 0 then e0 else if z = 1 then e1 else e2) → Fr h₀ L h (fun q => if q = x then some (.int v t) else m q) → News h₀ L h news → Q .next { s with heap := h, toks := tk }) :
    wpAny (model prog w) A (exec st env) Q E s := by
  have hz' : z = 0 ∨ z = 1 ∨ z = 2 := by omega
  have top : ∀ j : Int, z = j → (fun q => if q = y then some (Value.int (p - (1 + j)) ta) else m q) = m := by
    rintro j rfl
    funext q
    by_cases hq : q = y
    · rw [if_pos hq, hq, ha]
    · rw [if_neg hq]
  have top' : ∀ (j e : Int) (t : Tok), z = j → (fun q => if q = x then some (Value.int e t) else if q = y then some (Value.int (p - (1 + j)) ta) else m q) = fun q => if q = x then some (Value.int e t) else m q := by
    intro j e t hj
    funext q
    by_cases hq : q = x
    · rw [if_pos hq, if_pos hq]
    · rw [if_neg hq, if_neg hq]
      exact congrFun (top j hj) q
  rcases hz' with h | h | h
  · exact h0 (by rw [top 0 h]; exact F) Q fun t h' tk F N => hk e0 t h' tk ⟨by rw [if_pos h]⟩ (by rw [top' 0 e0 t h] at F; exact F) N
  · exact h1 (by rw [top 1 h]; exact F) Q fun t h' tk F N => hk e1 t h' tk ⟨by rw [if_neg (by omega), if_pos h]⟩ (by rw [top' 1 e1 t h] at F; exact F) N
  · exact h2 (by rw [top 2 h]; exact F) Q fun t h' tk F N => hk e2 t h' tk ⟨by rw [if_neg (by omega), if_neg (by omega)]⟩ (by rw [top' 2 e2 t h] at F; exact F) N
/-- the same when the name holds its old value for one of the ways: see to it that the frame's map has the name on top -/
theorem fr_top {x : Str} {v : Value} {h : Heap} (hx : m x = some v) (F : Fr h₀ L h m) : Fr h₀ L h (fun y => if y = x then some v else m y) := by
  have e : (fun y => if y = x then some v else m y) = m := by
    funext y
    by_cases hy : y = x
    · rw [if_pos hy, hy, hx]
    · rw [if_neg hy]
  rw [e]; exact F
end
theorem itePos {c : Prop} [Decidable c] {x y : Prop} (h : c) (hx : x) : if c then x else y := by rw [if_pos h]; exact hx
theorem iteNeg {c : Prop} [Decidable c] {x y : Prop} (h : ¬ c) (hy : y) : if c then x else y := by rw [if_neg h]; exact hy
inductive MarkL : Prop | mk
end Mine
end
section
open PySem PySem.W PyProof.Rows
set_option Elab.async false
namespace Mine
section
variable {prog : Program} {w : World} {A₀ A : Around} {E : Value → Shared → Prop} {s : Shared} {base h₀ : Heap} {outer : List Env} {L : Addr} {m mg mb : Str → Option Value} {env : Env} {news : List (Addr × Obj)} {K : Frag} {p : Program} {loose : List Str} {mean : ExcName → Option Value}
/-- what a heap was keeps on being -/
noncomputable def Kept (h h' : Heap) : Prop := ∀ b o, h.get? b = some o → h'.get? b = some o
/-- all of a heap but the ledger stands in the ground -/
noncomputable def Ground (h : Heap) (news : List (Addr × Obj)) (g : Heap) : Prop := ∀ b o, h.get? b = some o → b ∉ news.map (·.1) → g.get? b = some o
theorem enterG {R : Result → Shared → Prop} {name qual : Str} {params : Arguments} {body : List Stmt} {scope : Scope} {dV kV doc pm cdv ct oc : Value} {an od : Option Addr} {osl : Array (Option Value)} {f : Addr} {args : Args} {binds : List (Str × Value)}
    (B : Below A₀ base outer h₀) (F : Fr h₀ L s.heap m) (X₀ : K.In h₀) (N : News h₀ L s.heap news) (T : Top p loose mean mg mb h₀) (hA : A.frames = some (env :: outer)) (hf : env.frame = some L) (hke : env.scope.kind = .function)
    (ho : K.lookup f = some ⟨oc, od, .func (fnOf name qual params body scope dV kV doc pm an cdv ct), osl⟩) (hcd : codeIn K cdv qual = true) (hroom : A.depth < recursionLimit)
    (hbind : BindsTo s (fnOf name qual params body scope dV kV doc pm an cdv ct) args binds) (hloc : ∀ y ∈ binds, scope.names.lookup y.1 = some .local)
    (h : ∀ g L' h₁, Ground s.heap news g → Fr h₀ L g m → Fr g L' h₁ (fun y => binds.reverse.lookup y) → News g L' h₁ news → Below A base (env :: outer) g → K.In g → Top p loose mean mg mb g → (∀ p ∈ news, p.1 < L') →
      wpAny (model prog w) (A.deeper (envOf qual scope L' f cdv)) (execs body (envOf qual scope L' f cdv))
        (fun fl s' => LeaveK h₀ L m g R (match fl with | .ret v => v | _ => .none) s')
        (fun e s' => wpAny (model prog w) (A.deeper (envOf qual scope L' f cdv)) (leaving (envOf qual scope L' f cdv) e) (fun _ s'' => R (.error e) s'') (fun e' s'' => R (.error e') s'') s')
        { s with heap := h₁, toks := s.toks + binds.length })
    (hco : scope.isCoroutine = false) (hgen : scope.isGenerator = false) (hk : scope.kind = .function)
    (hcell : ∀ x ∈ scope.names, x.2 ≠ .cell) : codeAny (model prog w) A (.call (.ref f) args) R s := by
  obtain ⟨FG, BG, st, lv⟩ := groundX (R := R) B F N hA hf hke
  refine codeAny_call_def (fd := fnOf name qual params body scope dV kV doc pm an cdv ct) (body := body) (binds := binds) hroom ((X₀.keeps F.keep) _ _ ho) rfl (T.nolimit.keeps F.keep) (codeRec_of (X₀.keeps F.keep) hcd) rfl hbind hcell hloc (fun h₁ hns hk₁ => ?_) hco hgen hk
  exact wpAny_mono (h _ s.heap.objs.size h₁ (fun b o e hb => hideAll_get _ e hb) FG ⟨hns, fun b o e => hk₁ b o (of_hideAll _ e), Nat.le_of_eq (hideAll_size _ _)⟩
    (fun p hp => ⟨hk₁ _ _ (N p hp).1, Nat.ne_of_lt (Heap.lt_size (N p hp).1), hideAll_none _ (List.mem_map_of_mem hp)⟩) BG (X₀.keeps st) (T.keeps st) (fun p hp => Heap.lt_size (N p hp).1)) (fun fl s' hl => lv _ _ hl) fun _ _ y => y
theorem enterGC {R : Result → Shared → Prop} {name qual : Str} {params : Arguments} {body : List Stmt} {scope : Scope} {dV kV doc pm cdv ct oc : Value} {an od : Option Addr} {osl : Array (Option Value)} {f : Addr} {args : Args} {binds : List (Str × Value)}
    (B : Below A₀ base outer h₀) (F : Fr h₀ L s.heap m) (X₀ : K.In h₀) (N : News h₀ L s.heap news) (T : Top p loose mean mg mb h₀) (hA : A.frames = some (env :: outer)) (hf : env.frame = some L) (hke : env.scope.kind = .function)
    (ho : K.lookup f = some ⟨oc, od, .func (fnOf name qual params body scope dV kV doc pm an cdv ct), osl⟩) (hcd : codeIn K cdv qual = true) (hroom : A.depth < recursionLimit)
    (hbind : BindsTo s (fnOf name qual params body scope dV kV doc pm an cdv ct) args binds) (hkind : (binds.all fun y => scope.names.lookup y.1 == some .local || scope.names.lookup y.1 == some .cell) = true)
    (hnd : ((cellsFrom 0 scope.names []).map (·.1)).Nodup)
    (h : ∀ g L' h₁ tk cells, Ground s.heap news g → Fr h₀ L g m → Fr g L' h₁ (bindL (envOfC qual scope L' f cdv).kindOf binds fun _ => none) → News g L' h₁ (cells ++ news) →
      CellsAre (bindC (envOfC qual scope L' f cdv).kindOf binds fun _ => none) (cellsFrom (L' + 1) scope.names []) cells → Below A base (env :: outer) g → K.In g → Top p loose mean mg mb g → (∀ p ∈ news, p.1 < L') →
      wpAny (model prog w) (A.deeper (envOfC qual scope L' f cdv)) (execs body (envOfC qual scope L' f cdv))
        (fun fl s' => LeaveK h₀ L m g R (match fl with | .ret v => v | _ => .none) s')
        (fun e s' => wpAny (model prog w) (A.deeper (envOfC qual scope L' f cdv)) (leaving (envOfC qual scope L' f cdv) e) (fun _ s'' => R (.error e) s'') (fun e' s'' => R (.error e') s'') s')
        { s with heap := h₁, toks := tk })
    (hco : scope.isCoroutine = false) (hgen : scope.isGenerator = false) (hk : scope.kind = .function) : codeAny (model prog w) A (.call (.ref f) args) R s := by
  obtain ⟨FG, BG, st, lv⟩ := groundX (R := R) B F N hA hf hke
  refine codeAny_call_function hroom ((X₀.keeps F.keep) _ _ ho) rfl hco hgen rfl (codeRec_of (X₀.keeps F.keep) hcd) (hbind _ _ _ _ ?_)
  refine wpAny_newFunctionEnv_cells hk (kindsX hkind _) fun env' he s' x => ?_
  subst he
  refine ⟨(T.nolimit.keeps F.keep).keeps x.toInCall.keep, codeAny_func ?_⟩
  obtain ⟨h₁, tk, rfl, _⟩ := x.done
  have hk₁ := x.toInCall.keep
  obtain ⟨cells, NC, Y⟩ := Cl.news (h₀ := s.heap) (Nat.le_refl _) fun n c hm => ⟨x.cell n c (lookup_of_mem_nodup (cellsFrom_names scope.names 0 (s.heap.objs.size + 1) [] [] rfl ▸ hnd) hm), x.above n c hm⟩
  refine wpAny_mono (h _ s.heap.objs.size h₁ tk cells (fun b o e hb => hideAll_get _ e hb) FG ⟨x.toInCall.ns, fun b o e => hk₁ b o (of_hideAll _ e), Nat.le_of_eq (hideAll_size _ _)⟩ (fun p hp => ?_) Y BG (X₀.keeps st) (T.keeps st) (fun p hp => Heap.lt_size (N p hp).1)) (fun fl s' hl => lv _ _ hl) fun _ _ y => y
  rcases List.mem_append.mp hp with hp | hp
  · refine ⟨(NC p hp).1, (NC p hp).2.1, ?_⟩
    cases q : (hideAll s.heap (news.map (·.1))).get? p.1 with
    | none => rfl
    | some o => have := of_hideAll _ q; rw [(NC p hp).2.2] at this; cases this
  · exact ⟨hk₁ _ _ (N p hp).1, Nat.ne_of_lt (Heap.lt_size (N p hp).1), hideAll_none _ (List.mem_map_of_mem hp)⟩
theorem endG {s₀ : Shared} {g : Heap} {R : Result → Shared → Prop} {v : Value} {s' : Shared} {L' : Addr} {m' : Str → Option Value} {news' : List (Addr × Obj)} {N₀ : News h₀ L s₀.heap news}
    (G : Ground s₀.heap news g) (F : Fr g L' s'.heap m') (N : News g L' s'.heap news') (sub : ∀ p ∈ news, p ∈ news')
    (k : Fr h₀ L s'.heap m → Kept s₀.heap s'.heap → (∀ p ∈ news', s'.heap.get? p.1 = some p.2) → (∀ p ∈ news', p.1 ∉ news.map (·.1) → s₀.heap.get? p.1 = none) → R (.ok (.ret v)) s') : LeaveK h₀ L m g R v s' := by
  refine ⟨L', m', news', F, N, fun F₂ _ => k F₂ (fun b o e => ?_) (fun p hp => (N p hp).1) fun p hp hb => ?_⟩
  · by_cases hb : b ∈ news.map (·.1)
    · obtain ⟨p, hp, rfl⟩ := List.mem_map.mp hb
      have := (N₀ p hp).1
      rw [e] at this
      rw [(N p (sub p hp)).1]; exact this.symm
    · exact F.keep b o (G b o e hb)
  · cases q : s₀.heap.get? p.1 with
    | none => rfl
    | some o => have := G _ _ q hb; rw [(N p hp).2.2] at this; cases this
theorem keptOf {g h₁ h' : Heap} {L' : Addr} {m' : Str → Option Value} {news' : List (Addr × Obj)} (G : Ground h₁ news g) (N₀ : News h₀ L h₁ news) (F : Fr g L' h' m') (N : News h₀ L h' news') (sub : ∀ p ∈ news, p ∈ news') : Kept h₁ h' := fun b o e => by
  by_cases hb : b ∈ news.map (·.1)
  · obtain ⟨p, hp, rfl⟩ := List.mem_map.mp hb
    have := (N₀ p hp).1
    rw [e] at this
    rw [(N p (sub p hp)).1]; exact this.symm
  · exact F.keep b o (G b o e hb)
theorem freshOf {g h₁ h' : Heap} {L' D : Addr} {o : Obj} {news' : List (Addr × Obj)} (G : Ground h₁ news g) (N : News g L' h' news') (hm : (D, o) ∈ news') (hD : D ∉ news.map (·.1)) : h₁.get? D = none := by
  cases q : h₁.get? D with
  | none => rfl
  | some o => have := G _ _ q hD; rw [(N _ hm).2.2] at this; cases this
/-- a caller's ledger after a call that made one thing -/
theorem newsAt {h h' : Heap} {D : Addr} {o : Obj} (F : Fr h₀ L h m) (N : News h₀ L h news) (k : Kept h h') (hD : h'.get? D = some o) (hn : h.get? D = none) : News h₀ L h' ((D, o) :: news) := by
  intro p hp
  rcases List.mem_cons.mp hp with rfl | hp
  · refine ⟨hD, fun q => ?_, ?_⟩
    · obtain ⟨oL, es, ep, hL, _⟩ := F.ns
      rw [show D = L from q, hL] at hn; cases hn
    · cases q : h₀.get? D with
      | none => rfl
      | some o' => have := F.keep _ _ q; rw [hn] at this; cases this
  · exact ⟨k _ _ (N p hp).1, (N p hp).2⟩
theorem apartAt {h : Heap} {D : Addr} (N : News h₀ L h news) (hn : h.get? D = none) : ∀ p ∈ news, @Ne Nat p.1 D := fun p hp q => by
  have := (N p hp).1
  rw [show p.1 = D from q, hn] at this; cases this
end
end Mine
end
section
open PySem PySem.W PyProof.Rows
set_option Elab.async false
set_option maxRecDepth 100000
set_option maxHeartbeats 8000000
namespace Mine
section
variable {w : World} {mean : ExcName → Option Value} {mg mb : Str → Option Value} {env : Env} {outer : List Env} {A₀ A : Around} {base h₀ : Heap} {L : Addr} {m : Str → Option Value} {news : List (Addr × Obj)} {s : Shared} {Q E : Value → Shared → Prop} {a b : Int} {t u : Tok}
theorem add_law
    (hA : A.frames = some (env :: outer)) (hf : env.frame = some L) (hk : env.scope.kind = .function)
    (B : Below A₀ base outer h₀) (F : Fr h₀ L s.heap m) (X : (hd.heap_39 w.params).In h₀) (N : News h₀ L s.heap news) (T : Top hd.view_39 (looseW hd.view_39 [Str.ofString "_twin_re_1", Str.ofString "_twin_re_2", Str.ofString "EXACT_TOKEN_TYPES"]) mean mg mb h₀)
    (hr : A.depth < recursionLimit)
    (h : ∀ h' tk t', Fr h₀ L h' m → News h₀ L h' news → Q (.int (a + b) t') { s with heap := h', toks := tk }) :
    wpAny (model PySem.Challenge.rw_to0012_01.row.prog w) A (call (.ref 69) [.int a t, .int b u]) Q E s := by
  w_top off
  have kf : ((hd.heap_39 w.params).In h₀ ∧ PySem.Challenge.rw_to0012_01.row.prog = PySem.Challenge.rw_to0012_01.row.prog → True) := by k_fill; exact fun _ => trivial
  clear kf
  refine wpAny_call ?_
  k_dflt (refine' code_def ?k1 ?k2 ?k3 ?k4 ?k5 ?kA ?kF ?kK ?k6 ?k7 ?k8 ?k9 ?kB ?_ ?c2 ?c3 ?c4 ?c5; (case kA => exact hA); (case kF => assumption); (case kK => assumption); (case k1 => exact B); (case k2 => k_asm); (case k3 => k_asm); (case k4 => k_asm); (case k5 => k_asm); (case k6 => k_is); (case k7 => k_is); (case k8 => exact hr); (case k9 => first | exact BindsTo.of_eq rfl | exact binds_K (by k_in) rfl (by k_is) rfl rfl rfl); (case c5 => decide); (case kB => exact locs rfl); (case c2 => exact rfl); (case c3 => exact rfl); (case c4 => exact rfl); k_whole; intro g' L' h' FG' F' N' B' X' T'; (try dsimp only))
  repeat' (first | exact h _ _ _ (by assumption) (by assumption) | (k_unfold; (try dsimp only)) | walk1 | (dsimp only; walk1) | (leave1; try dsimp only))
theorem sub_law
    (hA : A.frames = some (env :: outer)) (hf : env.frame = some L) (hk : env.scope.kind = .function)
    (B : Below A₀ base outer h₀) (F : Fr h₀ L s.heap m) (X : (hd.heap_39 w.params).In h₀) (N : News h₀ L s.heap news) (T : Top hd.view_39 (looseW hd.view_39 [Str.ofString "_twin_re_1", Str.ofString "_twin_re_2", Str.ofString "EXACT_TOKEN_TYPES"]) mean mg mb h₀)
    (hr : A.depth < recursionLimit)
    (h : ∀ h' tk t', Fr h₀ L h' m → News h₀ L h' news → Q (.int (a - b) t') { s with heap := h', toks := tk }) :
    wpAny (model PySem.Challenge.rw_to0012_01.row.prog w) A (call (.ref 76) [.int a t, .int b u]) Q E s := by
  w_top off
  have kf : ((hd.heap_39 w.params).In h₀ ∧ PySem.Challenge.rw_to0012_01.row.prog = PySem.Challenge.rw_to0012_01.row.prog → True) := by k_fill; exact fun _ => trivial
  clear kf
  refine wpAny_call ?_
  k_dflt (refine' code_def ?k1 ?k2 ?k3 ?k4 ?k5 ?kA ?kF ?kK ?k6 ?k7 ?k8 ?k9 ?kB ?_ ?c2 ?c3 ?c4 ?c5; (case kA => exact hA); (case kF => assumption); (case kK => assumption); (case k1 => exact B); (case k2 => k_asm); (case k3 => k_asm); (case k4 => k_asm); (case k5 => k_asm); (case k6 => k_is); (case k7 => k_is); (case k8 => exact hr); (case k9 => first | exact BindsTo.of_eq rfl | exact binds_K (by k_in) rfl (by k_is) rfl rfl rfl); (case c5 => decide); (case kB => exact locs rfl); (case c2 => exact rfl); (case c3 => exact rfl); (case c4 => exact rfl); k_whole; intro g' L' h' FG' F' N' B' X' T'; (try dsimp only))
  repeat' (first | exact h _ _ _ (by assumption) (by assumption) | (k_unfold; (try dsimp only)) | walk1 | (dsimp only; walk1) | (leave1; try dsimp only))
theorem ge_law
    (hA : A.frames = some (env :: outer)) (hf : env.frame = some L) (hk : env.scope.kind = .function)
    (B : Below A₀ base outer h₀) (F : Fr h₀ L s.heap m) (X : (hd.heap_39 w.params).In h₀) (N : News h₀ L s.heap news) (T : Top hd.view_39 (looseW hd.view_39 [Str.ofString "_twin_re_1", Str.ofString "_twin_re_2", Str.ofString "EXACT_TOKEN_TYPES"]) mean mg mb h₀)
    (hr : A.depth < recursionLimit)
    (h : ∀ h' tk, Fr h₀ L h' m → News h₀ L h' news → Q (.bool (decide (a ≥ b))) { s with heap := h', toks := tk }) :
    wpAny (model PySem.Challenge.rw_to0012_01.row.prog w) A (call (.ref 62) [.int a t, .int b u]) Q E s := by
  w_top off
  have kf : ((hd.heap_39 w.params).In h₀ ∧ PySem.Challenge.rw_to0012_01.row.prog = PySem.Challenge.rw_to0012_01.row.prog → True) := by k_fill; exact fun _ => trivial
  clear kf
  refine wpAny_call ?_
  k_dflt (refine' code_def ?k1 ?k2 ?k3 ?k4 ?k5 ?kA ?kF ?kK ?k6 ?k7 ?k8 ?k9 ?kB ?_ ?c2 ?c3 ?c4 ?c5; (case kA => exact hA); (case kF => assumption); (case kK => assumption); (case k1 => exact B); (case k2 => k_asm); (case k3 => k_asm); (case k4 => k_asm); (case k5 => k_asm); (case k6 => k_is); (case k7 => k_is); (case k8 => exact hr); (case k9 => first | exact BindsTo.of_eq rfl | exact binds_K (by k_in) rfl (by k_is) rfl rfl rfl); (case c5 => decide); (case kB => exact locs rfl); (case c2 => exact rfl); (case c3 => exact rfl); (case c4 => exact rfl); k_whole; intro g' L' h' FG' F' N' B' X' T'; (try dsimp only))
  repeat' (first | exact h _ _ (by assumption) (by assumption) | (k_unfold; (try dsimp only)) | walk1 | (dsimp only; walk1) | (leave1; try dsimp only))
end
end Mine
end
section
open PySem PySem.W PyProof.Rows
set_option Elab.async false
set_option maxRecDepth 100000
set_option maxHeartbeats 8000000
namespace Mine
section
variable {prog : Program} {w : World} {A : Around} {E : Value → Shared → Prop} {s : Shared} {h₀ : Heap} {L : Addr} {m : Str → Option Value} {news : List (Addr × Obj)}
theorem getSub {a : Addr} {code : Array Nat} {pl : Sem Bool} {Q : Value × List Value → Shared → Prop} (P : IsPat s.heap a code) (h : Q (.builtin "re.Pattern.sub", [.ref a]) s) :
    wpAny (model prog w) A (getMethod (.ref a) "sub" pl) Q E s :=
  getMethod_builtin (by obtain ⟨o, vs, ct, oc, cv, n, e1, hc, _⟩ := P; exact ⟨o, e1, hc⟩) plainAttrs_pat slot_pat_sub type_pat_sub
    (fun b e => by cases e; obtain ⟨o, vs, ct, oc, cv, n, e1, hc, hd, _⟩ := P; exact ⟨o, e1, hd⟩) h
theorem pat36 {h : Heap} (X : (hd.heap_39 w.params).In h) : IsPat h 36 c1 :=
  ⟨_, _, _, _, _, _, X 36 _ rfl, rfl, rfl, rfl, rfl, rfl, rfl, X 35 _ rfl, rfl, by decide +kernel⟩
theorem pat41 {h : Heap} (X : (hd.heap_39 w.params).In h) : IsPat h 41 c2 :=
  ⟨_, _, _, _, _, _, X 41 _ rfl, rfl, rfl, rfl, rfl, rfl, rfl, X 40 _ rfl, rfl, by decide +kernel⟩
theorem subK1 {x : Str} {tx tr : Tok} {Q : Value → Shared → Prop} (F : Fr h₀ L s.heap m) (N : News h₀ L s.heap news) (P : IsPat s.heap 36 c1) (hx : x.cps.size ≤ 1000)
    (h : ∀ h' tk t', Fr h₀ L h' m → News h₀ L h' news → Q (.str (sub1 x) t') { s with heap := h', toks := tk }) :
    wpAny (model prog w) A (call (.builtin "re.Pattern.sub") [.ref 36, .str (Str.ofString "..") tr, .str x tx]) Q E s :=
  sub_any P (finds1 hx) hx (by decide +kernel) (by decide +kernel) fun h' tk t' k => h h' tk t' (F.keeps k) (N.grown k)
theorem subK2 {x : Str} {tx tr : Tok} {Q : Value → Shared → Prop} (F : Fr h₀ L s.heap m) (N : News h₀ L s.heap news) (P : IsPat s.heap 41 c2) (hx : x.cps.size ≤ 1000)
    (h : ∀ h' tk t', Fr h₀ L h' m → News h₀ L h' news → Q (.str (sub2 x) t') { s with heap := h', toks := tk }) :
    wpAny (model prog w) A (call (.builtin "re.Pattern.sub") [.ref 41, .str (Str.ofString "\r\n") tr, .str x tx]) Q E s :=
  sub_any P finds2 hx (by decide +kernel) (by decide +kernel) fun h' tk t' k => h h' tk t' (F.keeps k) (N.grown k)
end
end Mine
end
section
open PySem PySem.W PyProof.Rows
set_option Elab.async false
set_option maxRecDepth 100000
set_option maxHeartbeats 8000000
namespace Mine
theorem fmlo {n k : Int} (h : 0 < k) : 0 ≤ n.fmod k := by
  rw [Int.fmod_eq_emod_of_nonneg _ (Int.le_of_lt h)]; exact Int.emod_nonneg _ (by omega)
theorem fm5 {n : Int} : n.fmod 5 ≤ ((4 : Nat) : Int) := by
  rw [Int.fmod_eq_emod_of_nonneg _ (by decide)]; omega
theorem fm3 {n : Int} : n.fmod 3 < 3 := by
  rw [Int.fmod_eq_emod_of_nonneg _ (by decide)]; omega
theorem foldl_app (a : Array Nat) : ∀ (k : Nat) (acc : Array Nat), ((List.replicate k a).foldl (· ++ ·) acc).toList = acc.toList ++ (List.replicate k a.toList).flatten
  | 0, acc => by simp
  | k + 1, acc => by
    rw [List.replicate_succ, List.foldl_cons, foldl_app a k]
    simp [List.replicate_succ]
theorem mul_list (x : Str) (n : Int) : (Txt.mul x n).cps.toList = (List.replicate n.toNat x.cps.toList).flatten := by
  unfold Txt.mul
  by_cases h1 : n < 1
  · rw [if_pos h1]
    have e : n.toNat = 0 := by omega
    rw [e]; rfl
  · rw [if_neg h1]
    by_cases h2 : (n == 1 || x.length == 0) = true
    · rw [if_pos h2]
      rcases (Bool.or_eq_true _ _).mp h2 with h | h
      · have e : n = 1 := by simpa using h
        subst e; simp
      · have e : x.cps.toList = [] := by
          have : x.cps.size = 0 := by simpa [Str.length] using h
          simpa using this
        rw [e]; simp
    · rw [if_neg h2]
      show ((List.replicate n.toNat x.cps).foldl (· ++ ·) #[]).toList = _
      rw [foldl_app]; simp
theorem mul_size {x : Str} {n : Int} {a b : Nat} (hx : x.cps.size ≤ a) (h1 : n ≤ (b : Int)) : (Txt.mul x n).cps.size ≤ a * b := by
  have e : (Txt.mul x n).cps.size = (Txt.mul x n).cps.toList.length := by simp
  rw [e, mul_list, List.length_flatten]
  have : (List.map List.length (List.replicate n.toNat x.cps.toList)).sum = n.toNat * x.cps.size := by simp
  rw [this, Nat.mul_comm]
  exact Nat.mul_le_mul hx (by omega)
section
variable {prog : Program} {w : World} {A : Around} {E : Value → Shared → Prop} {s : Shared} {h₀ : Heap} {L : Addr} {m : Str → Option Value} {news : List (Addr × Obj)}
theorem mulT {x : Str} {n : Int} {a b : Nat} {t u : Tok} {Q : Value → Shared → Prop} (hx : x.cps.size ≤ a) (h0 : 0 ≤ n) (h1 : n ≤ (b : Int)) (ha : a ≤ 100) (hb : b ≤ 100)
    (h : ∀ v t' k, v.cps.toList = (List.replicate n.toNat x.cps.toList).flatten → v.cps.size ≤ a * b → Q (.str v t') { s with toks := k }) :
    wpAny (model prog w) A (binaryOp .Mult (.str x t) (.int n u)) Q E s := by
  refine SB.mul ?_ fun t' k => h _ t' k (mul_list x n) (mul_size hx h1)
  refine ⟨?_, fun _ _ => ?_, fun _ _ => ?_⟩
  · simp; omega
  · have hn : n ≤ 100 := by omega
    have hl : x.length ≤ 100 := Nat.le_trans hx ha
    intro hc
    have : ((2 ^ 63 - 1 : Int)) / n ≥ (2 ^ 63 - 1) / 100 := by
      rename_i hn1 _
      have hp : 0 < n := by omega
      rw [ge_iff_le, Int.le_ediv_iff_mul_le hp]
      have : (2 ^ 63 - 1 : Int) / 100 * n ≤ (2 ^ 63 - 1 : Int) / 100 * 100 := Int.mul_le_mul_of_nonneg_left hn (by decide)
      have e : (2 ^ 63 - 1 : Int) / 100 * 100 ≤ 2 ^ 63 - 1 := by decide
      omega
    have e : ((2 ^ 63 - 1 : Int)) / 100 = 92233720368547758 := by decide
    omega
  · have hn : n.toNat ≤ 100 := by omega
    have hl : x.length ≤ 100 := Nat.le_trans hx ha
    have := Nat.mul_le_mul hl hn
    exact decide_eq_false (Nat.not_lt.mpr (Nat.le_trans this (by decide)))
theorem addT {x y : Str} {t u : Tok} {Q : Value → Shared → Prop} (hx : x.cps.size ≤ 1000) (hy : y.cps.size ≤ 1000)
    (h : ∀ v t' k, v.cps.toList = x.cps.toList ++ y.cps.toList → v.cps.size = x.cps.size + y.cps.size → Q (.str v t') { s with toks := k }) :
    wpAny (model prog w) A (binaryOp .Add (.str x t) (.str y u)) Q E s :=
  SB.add (fun t' k => h _ t' k (by show (x.cps ++ y.cps).toList = _; simp) (by show (x.cps ++ y.cps).size = _; simp)) (by
    show x.cps.size + y.cps.size ≤ 2 ^ 24
    have e : (2 : Nat) ^ 24 = 16777216 := by decide
    omega)
theorem endT {value slice : PySem.Expr} {l : Addr} {n : Nat} {k : Int} {u t0 t1 t2 : Tok} {Q : Value → Shared → Prop}
    (N : News h₀ L s.heap news) (hm : (l, ({ cls := .type "list", data := .seq #[.str (Str.ofString "\n") t0, .str (Str.ofString "\r") t1, .str (Str.ofString "\r\n") t2] n } : Obj)) ∈ news) (h0 : 0 ≤ k) (hhi : k < 3)
    (h : ∀ v t, v.cps.toList = endL k.toNat → v.cps.size ≤ 2 → Q (.str v t) s)
    (hs : subscripted slice false (.ref l) (.int k u) = operate [.ref l, .int k u] (getItem (.ref l) (.int k u)) := by with_unfolding_all rfl) :
    wpAny (model prog w) A (subscriptTail value slice (.ref l) (.int k u)) Q E s := by
  have hk : k = 0 ∨ k = 1 ∨ k = 2 := by omega
  rcases hk with rfl | rfl | rfl
  · exact itemL N hm (by decide) (by decide) (v := .str (Str.ofString "\n") t0) rfl (h _ _ (by decide +kernel) (by decide +kernel)) hs
  · exact itemL N hm (by decide) (by decide) (v := .str (Str.ofString "\r") t1) rfl (h _ _ (by decide +kernel) (by decide +kernel)) hs
  · exact itemL N hm (by decide) (by decide) (v := .str (Str.ofString "\r\n") t2) rfl (h _ _ (by decide +kernel) (by decide +kernel)) hs
theorem rowLen {z row a b ab c : Str} {n z0 : Int} (h0 : 0 ≤ n) (hs : 1 ≤ z0 ∧ z0 ≤ 3) (hz : z.cps.toList = (List.replicate z0.toNat row.cps.toList).flatten) (hr : row.cps.toList = ab.cps.toList ++ c.cps.toList)
    (hab : ab.cps.toList = a.cps.toList ++ b.cps.toList) (ha : a.cps.toList = (List.replicate (n.fmod 5).toNat (Str.ofString ".").cps.toList).flatten)
    (hb : b.cps.toList = (List.replicate ((n.fdiv 5).fmod 5).toNat (Str.ofString "a").cps.toList).flatten) (hc : c.cps.toList = endL ((n.fdiv 25).fmod 3).toNat) :
    ((sub1 (sub2 z)).cps.size : Int) = z0 * (n % 5 + (if 0 < n % 5 then 1 else 0) + n / 5 % 5 + 2) := by
  rw [Int.fmod_eq_emod_of_nonneg _ (by decide)] at ha hb hc
  rw [Int.fdiv_eq_ediv_of_nonneg _ (by decide)] at hb hc
  obtain ⟨d, hd⟩ : ∃ d : Nat, n % 5 = d := ⟨(n % 5).toNat, by omega⟩
  obtain ⟨e, he⟩ : ∃ e : Nat, n / 5 % 5 = e := ⟨(n / 5 % 5).toNat, by omega⟩
  obtain ⟨j, hj⟩ : ∃ j : Nat, n / 25 % 3 = j := ⟨(n / 25 % 3).toNat, by omega⟩
  obtain ⟨k, hk⟩ : ∃ k : Nat, z0 = k := ⟨z0.toNat, by omega⟩
  rw [hd] at ha; rw [he] at hb; rw [hj] at hc; subst hk
  rw [hd, he]
  have e1 : (Str.ofString ".").cps.toList = [46] := by decide +kernel
  have e2 : (Str.ofString "a").cps.toList = [97] := by decide +kernel
  rw [e1] at ha; rw [e2] at hb
  simp only [Int.toNat_natCast] at ha hb hc hz
  have fl : ∀ (k c : Nat), (List.replicate k [c]).flatten = List.replicate k c := fun k c => by
    induction k with
    | zero => rfl
    | succ k ih => rw [List.replicate_succ, List.flatten_cons, ih]; rfl
  rw [fl] at ha hb
  have er : row.cps.toList = rowL d e j := by rw [hr, hab, ha, hb, hc]; rfl
  rw [er] at hz
  have q := quoted_is z
  have L := len_rows d (by omega) e (by omega) j (by omega) k (by omega)
  have : (sub1 (sub2 z)).cps.size = k * lenRow d e := by
    rw [← L, ← hz, ← q]; simp [quoted]
  rw [this]
  unfold lenRow
  rw [Int.natCast_mul]
  have e3 : ((d + (if 0 < d then 1 else 0) + e + 2 : Nat) : Int) = (d : Int) + (if 0 < (d : Int) then 1 else 0) + e + 2 := by
    split
    · rename_i h; rw [if_pos (by omega)]; omega
    · rename_i h; rw [if_neg (by omega)]; omega
  rw [e3]
theorem lenT {z row a b ab c : Str} {n z0 : Int} {t : Tok} {Q : Value → Shared → Prop} (hz : z.cps.toList = (List.replicate z0.toNat row.cps.toList).flatten) (hr : row.cps.toList = ab.cps.toList ++ c.cps.toList)
    (hab : ab.cps.toList = a.cps.toList ++ b.cps.toList) (ha : a.cps.toList = (List.replicate (n.fmod 5).toNat (Str.ofString ".").cps.toList).flatten)
    (hb : b.cps.toList = (List.replicate ((n.fdiv 5).fmod 5).toNat (Str.ofString "a").cps.toList).flatten) (hc : c.cps.toList = endL ((n.fdiv 25).fmod 3).toNat)
    (hsz : z.cps.size ≤ 200) (h0 : 0 ≤ n) (hs : 1 ≤ z0 ∧ z0 ≤ 3)
    (h : ∀ v t' k, v = z0 * (n % 5 + (if 0 < n % 5 then 1 else 0) + n / 5 % 5 + 2) → 0 ≤ v → v ≤ 100 → Q (.int v t') { s with toks := k }) :
    wpAny (model prog w) A (call (.builtin "len") [.str (sub1 (sub2 z)) t]) Q E s := by
  have R := rowLen h0 hs hz hr hab ha hb hc
  have b0 : ((sub1 (sub2 z)).cps.size : Int) ≤ 100 := by
    rw [R]
    have : n % 5 + (if 0 < n % 5 then 1 else 0) + n / 5 % 5 + 2 ≤ 12 := by split <;> omega
    have h3 : 0 ≤ n % 5 + (if 0 < n % 5 then 1 else 0) + n / 5 % 5 + 2 := by split <;> omega
    have := Int.mul_le_mul hs.2 this h3 (by decide)
    omega
  refine P.len_str (by show ¬ ((sub1 (sub2 z)).cps.size : Int) ≥ 2 ^ 63; have : (2 : Int) ^ 63 = 9223372036854775808 := by decide
                       omega) (h _ _ _ R (by omega) b0)
end
end Mine
end
section
open PySem PySem.W PyProof.Rows
set_option Elab.async false
set_option maxRecDepth 100000
set_option maxHeartbeats 8000000
namespace Mine
theorem carr_inv {ys : List Value} {c : Str} {ds : List PyData} (h : CarriedAll ys (PyData.str c :: ds)) : ∃ t ys', ys = .str c t :: ys' ∧ CarriedAll ys' ds := by
  cases h with
  | cons h1 h2 => cases h1; exact ⟨_, _, rfl, h2⟩
theorem carr_inv0 {ys : List Value} (h : CarriedAll ys []) : ys = [] := by cases h; rfl
theorem signs18 {ys : List Value} (h : CarriedAll ys (List.map PyData.str (signs (Str.ofString "()[]:,;+-*/|&<>=.%")))) : ∃ t0 t1 t2 t3 t4 t5 t6 t7 t8 t9 t10 t11 t12 t13 t14 t15 t16 t17 : Tok, ys = [.str (Str.ofString "(") t0, .str (Str.ofString ")") t1, .str (Str.ofString "[") t2, .str (Str.ofString "]") t3, .str (Str.ofString ":") t4, .str (Str.ofString ",") t5, .str (Str.ofString ";") t6, .str (Str.ofString "+") t7, .str (Str.ofString "-") t8, .str (Str.ofString "*") t9, .str (Str.ofString "/") t10, .str (Str.ofString "|") t11, .str (Str.ofString "&") t12, .str (Str.ofString "<") t13, .str (Str.ofString ">") t14, .str (Str.ofString "=") t15, .str (Str.ofString ".") t16, .str (Str.ofString "%") t17] := by
  have e : signs (Str.ofString "()[]:,;+-*/|&<>=.%") = [Str.ofString "(", Str.ofString ")", Str.ofString "[", Str.ofString "]", Str.ofString ":", Str.ofString ",", Str.ofString ";", Str.ofString "+", Str.ofString "-", Str.ofString "*", Str.ofString "/", Str.ofString "|", Str.ofString "&", Str.ofString "<", Str.ofString ">", Str.ofString "=", Str.ofString ".", Str.ofString "%"] := by decide +kernel
  rw [e] at h
  simp only [List.map_cons, List.map_nil] at h
  obtain ⟨t0, y0, rfl, g1⟩ := carr_inv h
  obtain ⟨t1, y1, rfl, g2⟩ := carr_inv g1
  obtain ⟨t2, y2, rfl, g3⟩ := carr_inv g2
  obtain ⟨t3, y3, rfl, g4⟩ := carr_inv g3
  obtain ⟨t4, y4, rfl, g5⟩ := carr_inv g4
  obtain ⟨t5, y5, rfl, g6⟩ := carr_inv g5
  obtain ⟨t6, y6, rfl, g7⟩ := carr_inv g6
  obtain ⟨t7, y7, rfl, g8⟩ := carr_inv g7
  obtain ⟨t8, y8, rfl, g9⟩ := carr_inv g8
  obtain ⟨t9, y9, rfl, g10⟩ := carr_inv g9
  obtain ⟨t10, y10, rfl, g11⟩ := carr_inv g10
  obtain ⟨t11, y11, rfl, g12⟩ := carr_inv g11
  obtain ⟨t12, y12, rfl, g13⟩ := carr_inv g12
  obtain ⟨t13, y13, rfl, g14⟩ := carr_inv g13
  obtain ⟨t14, y14, rfl, g15⟩ := carr_inv g14
  obtain ⟨t15, y15, rfl, g16⟩ := carr_inv g15
  obtain ⟨t16, y16, rfl, g17⟩ := carr_inv g16
  obtain ⟨t17, y17, rfl, g18⟩ := carr_inv g17
  obtain rfl := carr_inv0 g18
  exact ⟨t0, t1, t2, t3, t4, t5, t6, t7, t8, t9, t10, t11, t12, t13, t14, t15, t16, t17, rfl⟩
section
variable {prog : Program} {w : World} {A : Around} {E : Value → Shared → Prop} {s : Shared} {h₀ : Heap} {L : Addr} {m : Str → Option Value} {news : List (Addr × Obj)}
theorem signT {value slice : PySem.Expr} {l : Addr} {n : Nat} {k : Int} {u t0 t1 t2 t3 t4 t5 t6 t7 t8 t9 t10 t11 t12 t13 t14 t15 t16 t17 t18 : Tok} {Q : Value → Shared → Prop}
    (N : News h₀ L s.heap news) (hm : (l, ({ cls := .type "list", data := .seq #[.str (Str.ofString "(") t0, .str (Str.ofString ")") t1, .str (Str.ofString "[") t2, .str (Str.ofString "]") t3, .str (Str.ofString ":") t4, .str (Str.ofString ",") t5, .str (Str.ofString ";") t6, .str (Str.ofString "+") t7, .str (Str.ofString "-") t8, .str (Str.ofString "*") t9, .str (Str.ofString "/") t10, .str (Str.ofString "|") t11, .str (Str.ofString "&") t12, .str (Str.ofString "<") t13, .str (Str.ofString ">") t14, .str (Str.ofString "=") t15, .str (Str.ofString ".") t16, .str (Str.ofString "%") t17, .str (Str.ofString "..") t18] n } : Obj)) ∈ news) (h0 : 0 ≤ k) (hhi : k < 19)
    (h : ∀ v t, v.cps.toList = signL k.toNat → v.cps.size ≤ 2 → Q (.str v t) s)
    (hs : subscripted slice false (.ref l) (.int k u) = operate [.ref l, .int k u] (getItem (.ref l) (.int k u)) := by with_unfolding_all rfl) :
    wpAny (model prog w) A (subscriptTail value slice (.ref l) (.int k u)) Q E s := by
  have hk : k = 0 ∨ k = 1 ∨ k = 2 ∨ k = 3 ∨ k = 4 ∨ k = 5 ∨ k = 6 ∨ k = 7 ∨ k = 8 ∨ k = 9 ∨ k = 10 ∨ k = 11 ∨ k = 12 ∨ k = 13 ∨ k = 14 ∨ k = 15 ∨ k = 16 ∨ k = 17 ∨ k = 18 := by omega
  rcases hk with rfl | rfl | rfl | rfl | rfl | rfl | rfl | rfl | rfl | rfl | rfl | rfl | rfl | rfl | rfl | rfl | rfl | rfl | rfl
  · exact itemL N hm (by decide) (by decide) (v := .str (Str.ofString "(") t0) rfl (h _ _ (by decide +kernel) (by decide +kernel)) hs
  · exact itemL N hm (by decide) (by decide) (v := .str (Str.ofString ")") t1) rfl (h _ _ (by decide +kernel) (by decide +kernel)) hs
  · exact itemL N hm (by decide) (by decide) (v := .str (Str.ofString "[") t2) rfl (h _ _ (by decide +kernel) (by decide +kernel)) hs
  · exact itemL N hm (by decide) (by decide) (v := .str (Str.ofString "]") t3) rfl (h _ _ (by decide +kernel) (by decide +kernel)) hs
  · exact itemL N hm (by decide) (by decide) (v := .str (Str.ofString ":") t4) rfl (h _ _ (by decide +kernel) (by decide +kernel)) hs
  · exact itemL N hm (by decide) (by decide) (v := .str (Str.ofString ",") t5) rfl (h _ _ (by decide +kernel) (by decide +kernel)) hs
  · exact itemL N hm (by decide) (by decide) (v := .str (Str.ofString ";") t6) rfl (h _ _ (by decide +kernel) (by decide +kernel)) hs
  · exact itemL N hm (by decide) (by decide) (v := .str (Str.ofString "+") t7) rfl (h _ _ (by decide +kernel) (by decide +kernel)) hs
  · exact itemL N hm (by decide) (by decide) (v := .str (Str.ofString "-") t8) rfl (h _ _ (by decide +kernel) (by decide +kernel)) hs
  · exact itemL N hm (by decide) (by decide) (v := .str (Str.ofString "*") t9) rfl (h _ _ (by decide +kernel) (by decide +kernel)) hs
  · exact itemL N hm (by decide) (by decide) (v := .str (Str.ofString "/") t10) rfl (h _ _ (by decide +kernel) (by decide +kernel)) hs
  · exact itemL N hm (by decide) (by decide) (v := .str (Str.ofString "|") t11) rfl (h _ _ (by decide +kernel) (by decide +kernel)) hs
  · exact itemL N hm (by decide) (by decide) (v := .str (Str.ofString "&") t12) rfl (h _ _ (by decide +kernel) (by decide +kernel)) hs
  · exact itemL N hm (by decide) (by decide) (v := .str (Str.ofString "<") t13) rfl (h _ _ (by decide +kernel) (by decide +kernel)) hs
  · exact itemL N hm (by decide) (by decide) (v := .str (Str.ofString ">") t14) rfl (h _ _ (by decide +kernel) (by decide +kernel)) hs
  · exact itemL N hm (by decide) (by decide) (v := .str (Str.ofString "=") t15) rfl (h _ _ (by decide +kernel) (by decide +kernel)) hs
  · exact itemL N hm (by decide) (by decide) (v := .str (Str.ofString ".") t16) rfl (h _ _ (by decide +kernel) (by decide +kernel)) hs
  · exact itemL N hm (by decide) (by decide) (v := .str (Str.ofString "%") t17) rfl (h _ _ (by decide +kernel) (by decide +kernel)) hs
  · exact itemL N hm (by decide) (by decide) (v := .str (Str.ofString "..") t18) rfl (h _ _ (by decide +kernel) (by decide +kernel)) hs
end
theorem fm19 {n : Int} : n.fmod 19 < 19 := by
  rw [Int.fmod_eq_emod_of_nonneg _ (by decide)]; omega
end Mine
end
section
open PySem
set_option maxRecDepth 100000
set_option maxHeartbeats 4000000
namespace Mine
noncomputable def sep2 : Str := Str.ofString "\r\n"
/-- every sign but the two of a row's end is made a nought -/
noncomputable def dim (c : Nat) : Nat := if c = 13 ∨ c = 10 then c else 0
theorem dim13 {c : Nat} : dim c = 13 ↔ c = 13 := by unfold dim; split <;> omega
theorem dim10 {c : Nat} : dim c = 10 ↔ c = 10 := by unfold dim; split <;> omega
theorem dim_end : ∀ (l : List Nat), List.map dim l = [13, 10] ↔ l = [13, 10]
  | [] => by simp
  | [a] => by simp
  | [a, b] => by simp [dim13, dim10]
  | a :: b :: c :: r => by simp
theorem sep2_cps : sep2.cps = #[13, 10] := by decide +kernel
theorem subAt_dim (x : Str) (i : Nat) : Builtin.Str.subAt ⟨x.cps.map dim⟩ sep2 i = Builtin.Str.subAt x sep2 i := by
  unfold Builtin.Str.subAt
  rw [sep2_cps]
  show ((x.cps.map dim).extract i _ == #[13, 10]) = (x.cps.extract i _ == #[13, 10])
  rw [← Array.map_extract, Bool.eq_iff_iff, beq_iff_eq, beq_iff_eq]
  have e : ∀ y : Array Nat, y = #[13, 10] ↔ y.toList = [13, 10] := fun y => ⟨fun h => by rw [h], fun h => by rw [← Array.toArray_toList (xs := y), h]⟩
  rw [e, e, Array.toList_map, dim_end]
theorem occ_dim (x : Str) (lo hi k : Nat) : Builtin.Str.occurrences ⟨x.cps.map dim⟩ sep2 lo hi k = Builtin.Str.occurrences x sep2 lo hi k := by
  unfold Builtin.Str.occurrences
  simp only [subAt_dim]
theorem kind_pos (x : Str) : 1 ≤ Builtin.Str.strKind x := by
  unfold Builtin.Str.strKind
  split
  · decide
  · split <;> decide
theorem drop_two (u v w : List Nat) : List.drop (u.length + v.length) (u ++ (v ++ w)) = w := by rw [← List.append_assoc, ← List.length_append, List.drop_left]
/-- three rows' text is split at their ends -/
theorem split3 {a b c : List Nat} (ha : List.map dim a = List.replicate a.length 0) (hb : List.map dim b = List.replicate b.length 0) (hc : List.map dim c = List.replicate c.length 0)
    (la : 0 < a.length ∧ a.length < 4) (lb : 0 < b.length ∧ b.length < 4) (lc : 0 < c.length ∧ c.length < 4) :
    Txt.split ⟨(a ++ [13, 10] ++ (b ++ [13, 10] ++ (c ++ [13, 10]))).toArray⟩ sep2 = [⟨a.toArray⟩, ⟨b.toArray⟩, ⟨c.toArray⟩, ⟨#[]⟩] := by
  have hx : ∀ p < 3, ∀ q < 3, ∀ r < 3,
      Builtin.Str.occurrences ⟨(List.replicate (p + 1) 0 ++ [13, 10] ++ (List.replicate (q + 1) 0 ++ [13, 10] ++ (List.replicate (r + 1) 0 ++ [13, 10]))).toArray⟩ sep2 0 ((p + 1) + 2 + ((q + 1) + 2 + ((r + 1) + 2))) ((p + 1) + 2 + ((q + 1) + 2 + ((r + 1) + 2)) + 1) = [p + 1, p + 1 + 2 + (q + 1), p + 1 + 2 + (q + 1 + 2) + (r + 1)] := by decide +kernel
  have hx : ∀ p q r, 0 < p ∧ p < 4 → 0 < q ∧ q < 4 → 0 < r ∧ r < 4 →
      Builtin.Str.occurrences ⟨(List.replicate p 0 ++ [13, 10] ++ (List.replicate q 0 ++ [13, 10] ++ (List.replicate r 0 ++ [13, 10]))).toArray⟩ sep2 0 (p + 2 + (q + 2 + (r + 2))) (p + 2 + (q + 2 + (r + 2)) + 1) = [p, p + 2 + q, p + 2 + (q + 2) + r] := by
    intro p q r hp hq hr
    obtain ⟨p, rfl⟩ : ∃ p', p = p' + 1 := ⟨p - 1, by omega⟩
    obtain ⟨q, rfl⟩ : ∃ q', q = q' + 1 := ⟨q - 1, by omega⟩
    obtain ⟨r, rfl⟩ : ∃ r', r = r' + 1 := ⟨r - 1, by omega⟩
    exact hx p (by omega) q (by omega) r (by omega)
  have hl : (⟨(a ++ [13, 10] ++ (b ++ [13, 10] ++ (c ++ [13, 10]))).toArray⟩ : Str).length = a.length + 2 + (b.length + 2 + (c.length + 2)) := by simp [Str.length]; omega
  have ho : Builtin.Str.occurrences ⟨(a ++ [13, 10] ++ (b ++ [13, 10] ++ (c ++ [13, 10]))).toArray⟩ sep2 0 (a.length + 2 + (b.length + 2 + (c.length + 2))) (a.length + 2 + (b.length + 2 + (c.length + 2)) + 1) = [a.length, a.length + 2 + b.length, a.length + 2 + (b.length + 2) + c.length] := by
    rw [← occ_dim, ← hx _ _ _ la lb lc]
    congr 2
    rw [List.map_toArray]
    congr 1
    simp only [List.map_append, ha, hb, hc]
    rfl
  unfold Txt.split
  rw [hl]
  have k1 : sep2.length = 2 := by decide +kernel
  have k2 : Builtin.Str.strKind sep2 = 1 := by decide +kernel
  rw [k1, k2]
  have c1 : ¬ (decide (a.length + 2 + (b.length + 2 + (c.length + 2)) < 2) || decide (Builtin.Str.strKind ⟨(a ++ [13, 10] ++ (b ++ [13, 10] ++ (c ++ [13, 10]))).toArray⟩ < 1)) = true := by
    have := kind_pos ⟨(a ++ [13, 10] ++ (b ++ [13, 10] ++ (c ++ [13, 10]))).toArray⟩
    simp only [Bool.or_eq_true, decide_eq_true_eq]
    omega
  rw [if_neg c1, ho]
  rw [if_neg (by simp)]
  unfold Builtin.Str.partsBetween
  rw [hl]
  simp only [List.map_cons, List.map_nil, List.cons_append, List.nil_append, List.zip_cons_cons, List.zip_nil_right, Builtin.Str.strSub]
  have ex : ∀ (l : List Nat) (i j : Nat), l.toArray.extract i j = ((l.drop i).take (j - i)).toArray := fun l i j => by simp
  congr 1
  · rw [ex]; congr 2; simp
  · congr 1
    · rw [ex]; congr 2
      rw [show a.length + 2 = (a ++ [13, 10]).length by simp, List.drop_left]
      simp
    · congr 1
      · rw [ex]; congr 2
        have hd : List.drop (a.length + 2 + b.length + 2) (a ++ [13, 10] ++ (b ++ [13, 10] ++ (c ++ [13, 10]))) = c ++ [13, 10] := by
          rw [show a.length + 2 + b.length + 2 = (a ++ [13, 10]).length + (b ++ [13, 10]).length by simp; omega]
          exact drop_two _ _ _
        rw [hd, show a.length + 2 + (b.length + 2) + c.length - (a.length + 2 + b.length + 2) = c.length by omega, List.take_left]
      · congr 1
        rw [ex]; congr 2
        simp; omega
theorem sent_dim : ∀ k < 19, List.map dim (sentL k) = List.replicate (sentL k).length 0 ∧ 0 < (sentL k).length ∧ (sentL k).length < 4 := by decide +kernel
end Mine
end
section
open PySem PySem.W PyProof.Rows
set_option Elab.async false
set_option maxRecDepth 100000
set_option maxHeartbeats 8000000
namespace Mine
theorem sign_head : ∀ k < 19, ∀ r : List Nat, (signL k ++ r).head? ≠ some 10 := by
  intro k hk r
  have : ∀ k < 19, ∃ c, (signL k).head? = some c ∧ c ≠ 10 := by
    intro k hk
    have hd : ∀ k < 19, (signL k).headD 0 ≠ 10 ∧ signL k ≠ [] := by decide +kernel
    obtain ⟨h1, h2⟩ := hd k hk
    cases e : signL k with
    | nil => exact absurd e h2
    | cons c r => exact ⟨c, rfl, by rw [e] at h1; exact h1⟩
  obtain ⟨c, h1, h2⟩ := this k hk
  cases e : signL k with
  | nil => rw [e] at h1; cases h1
  | cons d r' =>
    rw [e] at h1
    cases h1
    intro q
    exact h2 (by simpa using q)
theorem sent3 {k0 k1 k2 j0 j1 j2 : Nat} (h0 : k0 < 19) (h1 : k1 < 19) (h2 : k2 < 19) (g0 : j0 < 3) (g1 : j1 < 3) (g2 : j2 < 3) :
    q1 true (q2 false (signL k0 ++ endL j0 ++ (signL k1 ++ endL j1 ++ (signL k2 ++ endL j2)))) = sentL k0 ++ [13, 10] ++ (sentL k1 ++ [13, 10] ++ (sentL k2 ++ [13, 10])) := by
  rw [row_ahead k0 h0 j0 g0 _ (by rw [List.append_assoc]; exact sign_head k1 h1 _), row_ahead k1 h1 j1 g1 _ (sign_head k2 h2 _), one_row k2 h2 j2 g2]
  simp
theorem pairs4 {α β : Type} {l : List (α × β)} {a b c d : α} (h : l.map (·.1) = [a, b, c, d]) : ∃ t0 t1 t2 t3, l = [(a, t0), (b, t1), (c, t2), (d, t3)] := by
  match l, h with
  | [(a', t0), (b', t1), (c', t2), (d', t3)], h =>
    simp only [List.map_cons, List.map_nil, List.cons.injEq, and_true] at h
    obtain ⟨rfl, rfl, rfl, rfl⟩ := h
    exact ⟨t0, t1, t2, t3, rfl⟩
noncomputable def sentS (n : Int) : Str := ⟨(sentL (n.fmod 19).toNat).toArray⟩
theorem fm19' (n : Int) : (n.fmod 19).toNat < 19 := by
  have := fm19 (n := n); omega
theorem fm3' (n : Int) : (n.fmod 3).toNat < 3 := by
  have := fm3 (n := n); omega
section
variable {prog : Program} {w : World} {A : Around} {E : Value → Shared → Prop} {s : Shared} {h₀ : Heap} {L : Addr} {m : Str → Option Value} {news : List (Addr × Obj)}
theorem mail_is {n0 n1 n2 : Int} {mail m5 m4 m3 m2 m1 s0 s1 s2 e0 e1 e2 : Str}
    (c6 : mail.cps.toList = m5.cps.toList ++ e2.cps.toList) (c5 : m5.cps.toList = m4.cps.toList ++ s2.cps.toList) (c4 : m4.cps.toList = m3.cps.toList ++ e1.cps.toList)
    (c3 : m3.cps.toList = m2.cps.toList ++ s1.cps.toList) (c2 : m2.cps.toList = m1.cps.toList ++ e0.cps.toList) (c1 : m1.cps.toList = (Str.ofString "").cps.toList ++ s0.cps.toList)
    (a0 : s0.cps.toList = signL (n0.fmod 19).toNat) (a1 : s1.cps.toList = signL (n1.fmod 19).toNat) (a2 : s2.cps.toList = signL (n2.fmod 19).toNat)
    (b0 : e0.cps.toList = endL ((n0.fdiv 19).fmod 3).toNat) (b1 : e1.cps.toList = endL ((n1.fdiv 19).fmod 3).toNat) (b2 : e2.cps.toList = endL ((n2.fdiv 19).fmod 3).toNat) :
    sub1 (sub2 mail) = ⟨((sentS n0).cps.toList ++ [13, 10] ++ ((sentS n1).cps.toList ++ [13, 10] ++ ((sentS n2).cps.toList ++ [13, 10]))).toArray⟩ := by
  have z : (Str.ofString "").cps.toList = [] := by decide +kernel
  have e : mail.cps.toList = signL (n0.fmod 19).toNat ++ endL ((n0.fdiv 19).fmod 3).toNat ++ (signL (n1.fmod 19).toNat ++ endL ((n1.fdiv 19).fmod 3).toNat ++ (signL (n2.fmod 19).toNat ++ endL ((n2.fdiv 19).fmod 3).toNat)) := by
    rw [c6, c5, c4, c3, c2, c1, z, a0, a1, a2, b0, b1, b2]
    simp
  have q := quoted_is mail
  rw [e, sent3 (fm19' n0) (fm19' n1) (fm19' n2) (fm3' _) (fm3' _) (fm3' _)] at q
  have ext : ∀ (x : Str) (l : List Nat), x.cps.toList = l → x = ⟨l.toArray⟩ := by
    intro x l h
    obtain ⟨c⟩ := x
    show Str.mk c = _
    rw [← h]
  exact ext _ _ q
theorem splitT {n0 n1 n2 : Int} {mail m5 m4 m3 m2 m1 s0 s1 s2 e0 e1 e2 : Str} {t u : Tok} {Q : Value → Shared → Prop} (F : Fr h₀ L s.heap m) (N : News h₀ L s.heap news)
    (c6 : mail.cps.toList = m5.cps.toList ++ e2.cps.toList) (c5 : m5.cps.toList = m4.cps.toList ++ s2.cps.toList) (c4 : m4.cps.toList = m3.cps.toList ++ e1.cps.toList)
    (c3 : m3.cps.toList = m2.cps.toList ++ s1.cps.toList) (c2 : m2.cps.toList = m1.cps.toList ++ e0.cps.toList) (c1 : m1.cps.toList = (Str.ofString "").cps.toList ++ s0.cps.toList)
    (a0 : s0.cps.toList = signL (n0.fmod 19).toNat) (a1 : s1.cps.toList = signL (n1.fmod 19).toNat) (a2 : s2.cps.toList = signL (n2.fmod 19).toNat)
    (b0 : e0.cps.toList = endL ((n0.fdiv 19).fmod 3).toNat) (b1 : e1.cps.toList = endL ((n1.fdiv 19).fmod 3).toNat) (b2 : e2.cps.toList = endL ((n2.fdiv 19).fmod 3).toNat)
    (h : ∀ D h' k t0 t1 t2 t3, Fr h₀ L h' m → News h₀ L h' ((D, listOf #[.str (sentS n0) t0, .str (sentS n1) t1, .str (sentS n2) t2, .str ⟨#[]⟩ t3] 0) :: news) → (∀ p ∈ news, p.1 < D) → Q (.ref D) { s with heap := h', toks := k }) :
    wpAny (model prog w) A (call (.builtin "str.split") [.str (sub1 (sub2 mail)) t, .str (Str.ofString "\r\n") u]) Q E s := by
  rw [mail_is c6 c5 c4 c3 c2 c1 a0 a1 a2 b0 b1 b2]
  have p0 := sent_dim _ (fm19' n0); have p1 := sent_dim _ (fm19' n1); have p2 := sent_dim _ (fm19' n2)
  refine KSpl.split1 F N (by decide +kernel) (fun D l h' k e _ F' N' l1 => ?_) ?_
  · have e' : l.map (·.1) = [sentS n0, sentS n1, sentS n2, ⟨#[]⟩] := e.trans (split3 (a := sentL (n0.fmod 19).toNat) (b := sentL (n1.fmod 19).toNat) (c := sentL (n2.fmod 19).toNat) p0.1 p1.1 p2.1 p0.2 p1.2 p2.2)
    obtain ⟨t0, t1, t2, t3, rfl⟩ := pairs4 e'
    exact h D h' k t0 t1 t2 t3 F' N' l1
  · show (((sentL (n0.fmod 19).toNat) ++ [13, 10] ++ ((sentL (n1.fmod 19).toNat) ++ [13, 10] ++ ((sentL (n2.fmod 19).toNat) ++ [13, 10]))).toArray).size + 2 ≤ 2 ^ 24
    have e : (2 : Nat) ^ 24 = 16777216 := by decide
    simp only [List.size_toArray, List.length_append, List.length_cons, List.length_nil]
    omega
end
end Mine
end
section
namespace Mine
/-- a row of leaving times beside the greatest lateness M -/
structure RowOk (W w0 w1 w2 M a b d : Int) : Prop where
  ha : a ≤ M + w0
  hb : b ≤ M + w0 + w1
  hd : d = M + w0 + w1 + w2
  e0 : W = w0 → a = M + w0
  e1 : W = w1 → b = M + w0 + w1
structure Line (W w0 w1 w2 : Int) : Prop where
  n0 : 0 ≤ w0
  n1 : 0 ≤ w1
  n2 : 0 ≤ w2
  l0 : w0 ≤ W
  l1 : w1 ≤ W
  l2 : w2 ≤ W
  is : W = w0 ∨ W = w1 ∨ W = w2
/-- the greatest lateness -/
noncomputable def late (W : Int) : Int → List Int → Int
  | c, [] => c
  | c, x :: r => late W (max x (c + W)) r
theorem row0 {W w0 w1 w2 c a b d : Int} (ha : a = c + w0) (hb : b = a + w1) (hd : d = b + w2) : RowOk W w0 w1 w2 c a b d := by
  refine ⟨?_, ?_, ?_, ?_, ?_⟩ <;> omega
theorem up_two {v a b u : Int} (h : v = max a b) (ha : a ≤ u) (hb : b ≤ u) : v ≤ u := h ▸ Int.max_le.mpr ⟨ha, hb⟩
theorem lo_l {v a b : Int} (h : v = max a b) : a ≤ v := h ▸ Int.le_max_left ..
theorem lo_r {v a b : Int} (h : v = max a b) : b ≤ v := h ▸ Int.le_max_right ..
theorem or_lo {v a b : Int} (h : v = max a b) : v = a ∨ v = b := by omega
theorem rowS {W w0 w1 w2 M M' c a' b' d' x y a b d v1 v2 v3 : Int} (L : Line W w0 w1 w2) (hM : M' = max c (M + W)) (R : RowOk W w0 w1 w2 M a' b' d')
    (h1 : v1 = max c a') (h2 : v2 = max a b') (h3 : v3 = max b d')
    (hx : x ≤ M + w0 + w1) (hy : y ≤ M + w0 + w1 + w2)
    (ha : v1 + w0 ≤ a ∧ (a ≤ v1 + w0 ∨ a ≤ x)) (hb : v2 + w1 ≤ b ∧ (b ≤ v2 + w1 ∨ b ≤ y)) (hd : d = v3 + w2) : RowOk W w0 w1 w2 M' a b d := by
  obtain ⟨n0, n1, n2, l0, l1, l2, is⟩ := L
  obtain ⟨ra, rb, rd, r0, r1⟩ := R
  have hM1 := lo_l hM
  have hM2 := lo_r hM
  have hM3 := or_lo hM
  have g1 := lo_l h1
  have g1' := lo_r h1
  have g1'' : v1 ≤ M' := up_two h1 hM1 (by clear h1 h2 h3 hM ha hb is hM3 r0 r1; omega)
  have g2 := lo_l h2
  have g2' := lo_r h2
  have g3 := lo_l h3
  have g3' := lo_r h3
  clear h1 hM
  have ua : a ≤ M' + w0 := by clear h2 h3 hb is hM3 r0 r1; omega
  have g2'' : v2 ≤ M' + w0 := up_two h2 ua (by clear h2 h3 ha hb is hM3 r0 r1; omega)
  have ub : b ≤ M' + w0 + w1 := by clear h2 h3 ha is hM3 r0 r1; omega
  have g3'' : v3 ≤ M' + w0 + w1 := up_two h3 ub (by clear h2 h3 ha hb is hM3 r0 r1; omega)
  clear h2 h3
  have ha := ha.1
  have hb := hb.1
  have e0 : W = w0 → a = M' + w0 := fun h => by have := r0 h; clear r0 r1 is; omega
  have e1 : W = w1 → b = M' + w0 + w1 := fun h => by have := r1 h; clear r0 r1 is; omega
  clear r0 r1
  refine ⟨ua, ub, ?_, e0, e1⟩
  have hdu : d ≤ M' + w0 + w1 + w2 := by clear e0 e1 is hM3; omega
  rcases is with h | h | h
  · have := e0 h; clear e0 e1 hM3; omega
  · have := e1 h; clear e0 e1 hM3; omega
  · clear e0 e1
    rcases hM3 with q | q <;> omega
end Mine
end
section
namespace Mine
noncomputable def Bk (base U e : Int) : Prop := base ≤ e ∧ (e ≤ base ∨ e ≤ U)
theorem Bk.same {base U : Int} : Bk base U base := ⟨Int.le_refl _, .inl (Int.le_refl _)⟩
theorem Bk.mx {base U y : Int} (h : y ≤ U) : Bk base U (max base y) := by
  refine ⟨Int.le_max_left .., ?_⟩
  rcases or_lo (rfl : max base y = max base y) with q | q
  · exact .inl (by rw [q]; exact Int.le_refl _)
  · exact .inr (by rw [q]; exact h)
theorem Bk.ite {z e0 e1 e2 a base U : Int} (h : Eqv a (if z = 0 then e0 else if z = 1 then e1 else e2)) (h0 : Bk base U e0) (h1 : Bk base U e1) (h2 : Bk base U e2) : Bk base U a := by
  rw [h.h]
  split
  · exact h0
  · split
    · exact h1
    · exact h2
theorem ite3_same {z e a : Int} (h : Eqv a (if z = 0 then e else if z = 1 then e else e)) : a = e := by rw [h.h]; split <;> (try split) <;> rfl
section
variable {W w0 w1 w2 : Int}
theorem up_late (L : Line W w0 w1 w2) {c M : Int} : M ≤ max c (M + W) := by
  have := Int.le_max_right c (M + W)
  have := L.n0; have := L.l0
  omega
theorem RowOk.b_le {M M' a b d : Int} (R : RowOk W w0 w1 w2 M a b d) (h : M ≤ M') : b ≤ M' + w0 + w1 := by have := R.hb; omega
theorem RowOk.d_le {M M' a b d : Int} (R : RowOk W w0 w1 w2 M a b d) (h : M ≤ M') : d ≤ M' + w0 + w1 + w2 := by have := R.hd; omega
theorem RowOk.day {M a b d : Int} (R : RowOk W w0 w1 w2 M a b d) : d = M + (w0 + w1 + w2) := by have := R.hd; omega
/-- the greatest lateness, the newest first -/
noncomputable def topM (W : Int) : Int → List Int → Int
  | c, [] => c
  | c, d :: r => max c (topM W d r + W)
/-- when the mails leave the line, whatever the longest time is -/
structure Runs5 (c0 c1 c2 c3 c4 w0 w1 w2 y0 y1 y2 y3 y4 : Int) : Prop where
  ex : ∀ W, Line W w0 w1 w2 → y0 = topM W c0 [] + (w0 + w1 + w2) ∧ y1 = topM W c1 [c0] + (w0 + w1 + w2) ∧ y2 = topM W c2 [c1, c0] + (w0 + w1 + w2) ∧
    y3 = topM W c3 [c2, c1, c0] + (w0 + w1 + w2) ∧ y4 = topM W c4 [c3, c2, c1, c0] + (w0 + w1 + w2)
end
end Mine
end
section
set_option maxRecDepth 10000
set_option maxHeartbeats 4000000
namespace Mine
noncomputable def wk (n : Int) : Int := if n % 19 = 16 then 46 else if n % 19 = 18 then 52 else 7 + n % 19
noncomputable def rz (n z : Int) : Int := z * ((n % 5 + if 0 < n % 5 then 1 else 0) + n / 5 % 5 + 2)
/-- what _law_due tells -/
structure Due5 (n0 n1 n2 n3 n4 n5 n6 n7 s0 s1 s2 s3 s4 y0 y1 y2 y3 y4 : Int) : Prop where
  ex : ∃ W c0 c1 c2 c3 c4 : Int, Line W (wk n0) (wk n1) (wk n2) ∧
    c0 = rz n3 s0 ∧ c1 = c0 + rz n4 s1 ∧ c2 = c1 + rz n5 s2 ∧ c3 = c2 + rz n6 s3 ∧ c4 = c3 + rz n7 s4 ∧
    y0 = topM W c0 [] + (wk n0 + wk n1 + wk n2) ∧ y1 = topM W c1 [c0] + (wk n0 + wk n1 + wk n2) ∧ y2 = topM W c2 [c1, c0] + (wk n0 + wk n1 + wk n2) ∧
    y3 = topM W c3 [c2, c1, c0] + (wk n0 + wk n1 + wk n2) ∧ y4 = topM W c4 [c3, c2, c1, c0] + (wk n0 + wk n1 + wk n2)
theorem wk_is {n j : Int} (h : Eqv j (if (n.fmod 19 == 16) = true then 46 else if (n.fmod 19 == 18) = true then 52 else 7 + n.fmod 19)) : j = wk n := by
  rw [h.h, Int.fmod_eq_emod_of_nonneg _ (by decide)]
  unfold wk
  simp only [beq_iff_eq]
theorem rz_is {n z e v : Int} (he : Eqv e (if decide (0 < n.fmod 5) = true then 1 else 0)) (hv : Eqv v (z * (n.fmod 5 + e + (n.fdiv 5).fmod 5 + 2))) : v = rz n z := by
  have he := he.h
  rw [Int.fmod_eq_emod_of_nonneg _ (by decide)] at he
  rw [hv.h, Int.fmod_eq_emod_of_nonneg _ (by decide), Int.fmod_eq_emod_of_nonneg _ (by decide), Int.fdiv_eq_ediv_of_nonneg _ (by decide)]
  unfold rz
  rw [he]
  simp only [decide_eq_true_eq]
theorem wk_nn {n : Int} : 0 ≤ wk n := by
  unfold wk
  split
  · decide
  · split
    · decide
    · omega
theorem line_is {j0 j1 j2 W : Int} (n0 : 0 ≤ j0) (n1 : 0 ≤ j1) (n2 : 0 ≤ j2) (hm : W ∈ [j0, j1, j2]) (hu : ∀ a : Int, a ∈ [j0, j1, j2] → a ≤ W) : Line W j0 j1 j2 := by
  refine ⟨n0, n1, n2, hu _ (by simp), hu _ (by simp), hu _ (by simp), ?_⟩
  simpa using hm
noncomputable def wsum (W : Int) : Int → List Int → List Int
  | _, [] => []
  | k, c :: r => (c + k * W) :: wsum W (k + 1) r
theorem top_max {W : Int} : ∀ (r : List Int) (c k : Int), (topM W c r + k * W) ∈ wsum W k (c :: r) ∧ ∀ a ∈ wsum W k (c :: r), a ≤ topM W c r + k * W
  | [], c, k => ⟨List.mem_cons_self, fun a h => by rw [List.mem_singleton.mp h]; exact Int.le_refl _⟩
  | d :: r, c, k => by
    obtain ⟨h1, h2⟩ := top_max r d (k + 1)
    have e : topM W d r + (k + 1) * W = topM W d r + W + k * W := by rw [Int.add_mul, Int.one_mul]; omega
    rw [e] at h1 h2
    show (max c (topM W d r + W) + k * W) ∈ (c + k * W) :: wsum W (k + 1) (d :: r) ∧ ∀ a ∈ (c + k * W) :: wsum W (k + 1) (d :: r), a ≤ max c (topM W d r + W) + k * W
    generalize topM W d r + W = T at h1 h2
    have l := Int.le_max_left c T
    have u := Int.le_max_right c T
    refine ⟨?_, fun a h => ?_⟩
    · rcases or_lo (rfl : max c T = max c T) with q | q
      · rw [q]; exact List.mem_cons_self
      · rw [q]; exact List.mem_cons_of_mem _ h1
    · rcases List.mem_cons.mp h with rfl | h
      · exact Int.add_le_add_right l _
      · exact Int.le_trans (h2 a h) (Int.add_le_add_right u _)
theorem top_is {W M c : Int} {r l : List Int} (hm : M ∈ l) (hu : ∀ a : Int, a ∈ l → a ≤ M) (e : l.reverse = wsum W 0 (c :: r)) : M = topM W c r := by
  obtain ⟨h1, h2⟩ := top_max (W := W) r c 0
  rw [Int.zero_mul, Int.add_zero, ← e] at h1 h2
  exact Int.le_antisymm (h2 M (List.mem_reverse.mpr hm)) (hu _ (List.mem_reverse.mp h1))
theorem sum3 {v j0 j1 j2 n0 n1 n2 : Int} (h : Eqv v [j0, j1, j2].sum) (e0 : j0 = wk n0) (e1 : j1 = wk n1) (e2 : j2 = wk n2) : v = wk n0 + wk n1 + wk n2 := by
  rw [h.h, e0, e1, e2]; simp [Int.add_assoc]
theorem line3 {W j0 j1 j2 n0 n1 n2 : Int} (e0 : j0 = wk n0) (e1 : j1 = wk n1) (e2 : j2 = wk n2) (hm : W ∈ [j0, j1, j2]) (hu : ∀ a : Int, a ∈ [j0, j1, j2] → a ≤ W) : Line W (wk n0) (wk n1) (wk n2) := by
  subst e0 e1 e2; exact line_is wk_nn wk_nn wk_nn hm hu
theorem day_is {v M T S : Int} (hv : v = S) (hM : M = T) : v + M = T + S := by rw [hv, hM, Int.add_comm]
end Mine
end
section
open PySem PySem.W PyProof.Rows
namespace Mine
theorem ints_inv {v : List Value} {a : Int} {r : List Int} (h : IntsAre v (a :: r)) : ∃ t v', v = .int a t :: v' ∧ IntsAre v' r := by
  cases h
  exact ⟨_, _, rfl, by assumption⟩
theorem ints_inv0 {v : List Value} (h : IntsAre v []) : v = [] := by cases h; rfl
noncomputable def InB (n : Int) : Prop := 0 ≤ n ∧ n < 1000000
theorem eight_of {ws : List Value} : ∀ {R : List Int}, IntsAre ws R → R.length = 8 → (∀ r ∈ R, InB r) →
    ∃ n0 n1 n2 n3 n4 n5 n6 n7 : Int, ∃ t0 t1 t2 t3 t4 t5 t6 t7 : Tok, ws = [.int n0 t0, .int n1 t1, .int n2 t2, .int n3 t3, .int n4 t4, .int n5 t5, .int n6 t6, .int n7 t7] ∧
      InB n0 ∧ InB n1 ∧ InB n2 ∧ InB n3 ∧ InB n4 ∧ InB n5 ∧ InB n6 ∧ InB n7
  | [n0, n1, n2, n3, n4, n5, n6, n7], h, _, hb => by
    obtain ⟨t0, v0, rfl, h1⟩ := ints_inv h
    obtain ⟨t1, v1, rfl, h2⟩ := ints_inv h1
    obtain ⟨t2, v2, rfl, h3⟩ := ints_inv h2
    obtain ⟨t3, v3, rfl, h4⟩ := ints_inv h3
    obtain ⟨t4, v4, rfl, h5⟩ := ints_inv h4
    obtain ⟨t5, v5, rfl, h6⟩ := ints_inv h5
    obtain ⟨t6, v6, rfl, h7⟩ := ints_inv h6
    obtain ⟨t7, v7, rfl, h8⟩ := ints_inv h7
    obtain rfl := ints_inv0 h8
    exact ⟨n0, n1, n2, n3, n4, n5, n6, n7, t0, t1, t2, t3, t4, t5, t6, t7, rfl, hb _ (by simp), hb _ (by simp), hb _ (by simp), hb _ (by simp), hb _ (by simp), hb _ (by simp), hb _ (by simp), hb _ (by simp)⟩
theorem eight {ws : List Value} {ns : List Int}
    (h : IntsAre ws (List.map (fun k' : Int => k'.fmod (10 ^ Int.toNat 6)) (List.take 8 ns) ++ List.drop ((((List.map (fun k' : Int => k'.fmod (10 ^ Int.toNat 6)) (List.take 8 ns)).length : Nat) : Int)).toNat [58, 28, 41, 27, 9, 74, 50, 22])) :
    ∃ n0 n1 n2 n3 n4 n5 n6 n7 : Int, ∃ t0 t1 t2 t3 t4 t5 t6 t7 : Tok, ws = [.int n0 t0, .int n1 t1, .int n2 t2, .int n3 t3, .int n4 t4, .int n5 t5, .int n6 t6, .int n7 t7] ∧
      InB n0 ∧ InB n1 ∧ InB n2 ∧ InB n3 ∧ InB n4 ∧ InB n5 ∧ InB n6 ∧ InB n7 := by
  refine eight_of h ?_ ?_
  · rw [Int.toNat_natCast, List.length_append, List.length_drop, List.length_map, List.length_take]
    show min 8 ns.length + (8 - min 8 ns.length) = 8
    omega
  · intro r hr
    rcases List.mem_append.mp hr with hr | hr
    · obtain ⟨x, _, rfl⟩ := List.mem_map.mp hr
      have e : (10 : Int) ^ Int.toNat 6 = 1000000 := by decide
      show InB (x.fmod (10 ^ Int.toNat 6))
      rw [e, Int.fmod_eq_emod_of_nonneg _ (by decide)]
      exact ⟨Int.emod_nonneg _ (by decide), Int.emod_lt_of_pos _ (by decide)⟩
    · have hr := List.mem_of_mem_drop hr
      have : ∀ r ∈ ([58, 28, 41, 27, 9, 74, 50, 22] : List Int), InB r := by
        unfold InB
        decide
      exact this r hr
end Mine
end
section
open PySem PySem.W PyProof.Rows
set_option Elab.async false
set_option maxRecDepth 100000
set_option maxHeartbeats 8000000
namespace Mine
open PySem.Spec PySem.Calls PyProof.Rows.LCg
/-- what a block's iterable must be: it makes one iterator that walks -/
noncomputable def SrcX (prog : Program) (w : World) (A : Around) (h₀ : Heap) (L : Addr) (m : Str → Option Value) (env : Env) (elt : PySem.Expr) (x : Str) (scope : Scope) (cl : List (Str × Addr)) (Fin : Shared → List Value → List (Addr × Obj) → Prop) (E : Value → Shared → Prop) (xv : Value) (s₁ : Shared) : Prop :=
  ∃ (n : Nat) (P : Nat → Value → Prop) (S : List (Addr × Obj) → Prop) (news : List (Addr × Obj)), Fr h₀ L s₁.heap m ∧ News h₀ L s₁.heap news ∧ S news ∧ n ≤ sizeLine ∧
    (∀ Q' : Value → Shared → Prop, (∀ (o : Obj) (fp : List Addr) (St : Nat → Heap → Prop), Walks prog w A s₁.heap.objs.size fp [s₁.heap.objs.size] n P St → (∀ b ∈ fp, b < (s₁.heap.push o).objs.size) → St 0 (s₁.heap.push o) →
      (∀ i h, St i h → ∃ o, h.get? s₁.heap.objs.size = some o) →
      (∀ i h h' o nw, St i h → h.get? s₁.heap.objs.size = some o → h'.get? s₁.heap.objs.size = some o → (∀ b o, h₀.get? b = some o → h'.get? b = some o) → News h₀ L h' nw → S nw → St i h') →
      Q' (.ref s₁.heap.objs.size) { s₁ with heap := s₁.heap.push o }) → wpAny (model prog w) A (pyIter xv) Q' E s₁) ∧
    ∀ s₂ : Shared, (∃ h, s₂ = { s₁ with heap := h }) → CompRest prog w A h₀ L m env elt x scope cl s₂ S P (Fin s₂) n 0 [] news
section
variable {prog : Program} {w : World} {A : Around} {E : Value → Shared → Prop} {s : Shared} {h₀ : Heap} {L : Addr} {m : Str → Option Value} {env : Env}
theorem ListComp_X {elt iter : PySem.Expr} {x : Str} {px : Pos} {scope : Scope} {cl : List (Str × Addr)} {pos : Pos} {Q : Value → Shared → Prop} (F₀ : Fr h₀ L s.heap m)
    (hclos : closureFor scope env = pure cl) (hcell : ∀ y ∈ scope.names, y.2 ≠ .cell) (hkind : scope.kind = .function)
    (hnames : ∀ y ∈ scope.names, y.2 = .local → scope.names.lookup y.1 = some .local) (hx : scope.names.lookup x = some .local)
    (h : wpAny (model prog w) A (eval iter env) (SrcX prog w A h₀ L m env elt x scope cl (fun s₂ => FinE h₀ L m s₂ Q) E) E s)
    (hs : ∀ x, foldedSetIterable iter env x = pure x := by intro _; rfl) :
    wpAny (model prog w) A (eval (.ListComp elt [⟨.Name x px, iter, [], 0⟩] scope pos) env) Q E s := by
  rw [eval_ListComp]
  refine wpAny_comprehension_free (use := none) rfl hs hclos hkind hnames (wpAny_mono h (fun xv s₁ h₁ => ?_) fun _ _ e => e)
  obtain ⟨n, P, S, news, F, N, hS, hsz, it, R⟩ := h₁
  refine it _ fun o fp St W hfp hst hIo hSt => ?_
  have up : ∀ b o', s₁.heap.get? b = some o' → (s₁.heap.push o).get? b = some o' := fun b o' e => Heap.get?_push_of_some _ e
  refine block_U W hsz hIo hSt hcell hkind hx hst hfp (F.keeps up) (N.grown up) (Nat.ne_of_lt F.ns.lt) (next_is_new F) (fun p hp => Nat.ne_of_lt (Heap.lt_size (N p hp).1)) hS (R _ ⟨_, rfl⟩) ?_
  intro D C h' tk m' ys news' F' N' o1 hn hC₀ hD₀ hCL hDL hCD offC fin
  refine ⟨m', hn, fun h'' hs'' => fin D h'' tk (F'.change hs'' hCL hC₀) (fun p hp => ?_) o1⟩
  refine ⟨hs''.extBut _ _ ?_ (N' p hp).1, (N' p hp).2⟩
  rcases List.mem_cons.mp hp with rfl | hp
  · exact Ne.symm hCD
  · exact offC p hp
theorem Assign_ListComp_X {elt iter : PySem.Expr} {x y : Str} {px py : Pos} {scope : Scope} {cl : List (Str × Addr)} {pos spos : Pos} {Q : Flow → Shared → Prop} (F₀ : Fr h₀ L s.heap m) (hLe : env.locals = L)
    (hsw : swapsWith (.ListComp elt [⟨.Name x px, iter, [], 0⟩] scope pos) (some (.Name y py)) spos.line env = pure true)
    (hclos : closureFor scope env = pure cl) (hcell : ∀ z ∈ scope.names, z.2 ≠ .cell) (hkind : scope.kind = .function)
    (hnames : ∀ z ∈ scope.names, z.2 = .local → scope.names.lookup z.1 = some .local) (hx : scope.names.lookup x = some .local)
    (hy : env.kindOf y = some .local) (hp : (env.scope.kind == .class || (env.scope.kind == .module && env.locals != env.globals)) = false)
    (h : wpAny (model prog w) A (eval iter env) (SrcX prog w A h₀ L m env elt x scope cl (fun s₂ => FinA h₀ L m s₂ y Q) E) E s)
    (hs : ∀ x, foldedSetIterable iter env x = pure x := by intro _; rfl) :
    wpAny (model prog w) A (exec (.Assign [.Name y py] (.ListComp elt [⟨.Name x px, iter, [], 0⟩] scope pos) spos) env) Q E s := by
  subst hLe
  rw [exec_Assign_Name_used _ _ _ _ hsw]
  refine wpAny_bind (wpAny_standAt (wpAny_bind ?_))
  show wpAny _ A (do let _ ← comprehension (.ListComp elt [⟨.Name x px, iter, [], 0⟩] scope pos) scope env _ (newList []) false (eval iter env) (some (assign (.Name y py) env))) _ _ s
  refine wpAny_bind (wpAny_mono (wpAny_comprehension_free (use := some (assign (.Name y py) env)) (Q := fun _ s' => Q .next s') rfl hs hclos hkind hnames
    (wpAny_mono h (fun xv s₁ h₁ => ?_) fun _ _ e => e)) (fun _ s' hq => wpAny_pure (wpAny_pure hq)) fun _ _ e => e)
  obtain ⟨n, P, S, news, F, N, hS, hsz, it, R⟩ := h₁
  refine it _ fun o fp St W hfp hst hIo hSt => ?_
  have up : ∀ b o', s₁.heap.get? b = some o' → (s₁.heap.push o).get? b = some o' := fun b o' e => Heap.get?_push_of_some _ e
  refine block_U W hsz hIo hSt hcell hkind hx hst hfp (F.keeps up) (N.grown up) (Nat.ne_of_lt F.ns.lt) (next_is_new F) (fun p hp => Nat.ne_of_lt (Heap.lt_size (N p hp).1)) hS (R _ ⟨_, rfl⟩) ?_
  intro D C h' tk m' ys news' F' N' o1 hn hC₀ hD₀ hCL hDL hCD offC fin
  show wpAny _ A (assign (.Name y py) env (.ref D)) _ _ _
  refine wpAny_assign_Name (wpAny_storeName_local hy F'.ns (fun h₂ hn₂ hs₂ => ?_) hp)
  have hL₀ : h₀.get? env.locals = none := Heap.get?_none_of_le F'.above
  have F₂ : Fr h₀ env.locals h₂ (fun z => if z = y then some (.ref D) else m z) := ⟨hn₂, fun b o e => hs₂.extBut b o (fun q => by rw [q, hL₀] at e; cases e) (F'.keep b o e), F'.above⟩
  refine ⟨m', hn.sameBut hs₂ hCL, fun h'' hs'' => fin D h'' _ (F₂.change hs'' hCL hC₀) (fun p hp => ?_) o1⟩
  have z : h₂.get? p.1 = some p.2 := hs₂.extBut _ _ (N' p hp).2.1 (N' p hp).1
  refine ⟨hs''.extBut _ _ ?_ z, (N' p hp).2⟩
  rcases List.mem_cons.mp hp with rfl | hp
  · exact Ne.symm hCD
  · exact offC p hp
noncomputable def TupAt (T : Addr) (its : Array Value) (news : List (Addr × Obj)) : Prop := False ∨ ∃ o, (T, o) ∈ news ∧ o.cls = .type "tuple" ∧ ∃ n, o.data = .seq its n
/-- a block over a tuple of the ledger -/
theorem tupleX {elt : PySem.Expr} {x : Str} {scope : Scope} {cl : List (Str × Addr)} {Fin : Shared → List Value → List (Addr × Obj) → Prop} {T : Addr} {its : Array Value} {k : Nat} {news : List (Addr × Obj)} {s₁ : Shared}
    (hh : A.handled = none) (F : Fr h₀ L s₁.heap m) (N : News h₀ L s₁.heap news) (hm : (T, ({ cls := .type "tuple", data := .seq its k } : Obj)) ∈ news) (hsz : its.size ≤ sizeLine)
    (h : ∀ g, CompRest prog w A h₀ L m env elt x scope cl { s₁ with heap := g } (TupAt T its) (fun i v => its[i]? = some v) (Fin { s₁ with heap := g }) its.size 0 [] news) :
    SrcX prog w A h₀ L m env elt x scope cl Fin E (.ref T) s₁ := by
  have hT : s₁.heap.IsTuple T its := ⟨_, (N _ hm).1, rfl, _, rfl⟩
  have hlt : T < s₁.heap.objs.size := Heap.lt_size (N _ hm).1
  refine ⟨_, _, TupAt T its, news, F, N, .inr ⟨_, hm, rfl, _, rfl⟩, hsz, fun Q' hq => ?_, fun _ ⟨g, e⟩ => e ▸ h g⟩
  refine wpAny_pyIter_tuple hT (hq _ [_, T] _ (Walks.tuple hh s₁.heap.objs.size T (Nat.ne_of_lt hlt) its) (fun b hb => ?_) ⟨⟨_, Heap.get?_push_size _ rfl, rfl, rfl⟩, hT.push _⟩ (fun i h st => ?_) fun i h h' o nw st e e' k N S => ?_)
  · rw [Heap.size_push]
    rcases List.mem_cons.mp hb with rfl | hb
    · exact Nat.lt_succ_self _
    · rw [List.mem_singleton.mp hb]; exact Nat.lt_succ_of_lt hlt
  · obtain ⟨o, e, _⟩ := st.1; exact ⟨o, e⟩
  · refine ⟨by obtain ⟨o', q, r⟩ := st.1; rw [e] at q; cases q; exact ⟨o, e', r⟩, ?_⟩
    rcases S with S | ⟨o₂, hm₂, r⟩
    · exact S.elim
    · exact ⟨o₂, (N _ hm₂).1, r⟩
/-- a block over a text of two dots -/
theorem dotsX {elt : PySem.Expr} {x : Str} {scope : Scope} {cl : List (Str × Addr)} {Fin : Shared → List Value → List (Addr × Obj) → Prop} {y : Str} {t : Tok} {news : List (Addr × Obj)} {s₁ : Shared}
    (hh : A.handled = none) (F : Fr h₀ L s₁.heap m) (N : News h₀ L s₁.heap news) (hy : y.cps = #[46, 46])
    (h : ∀ g, CompRest prog w A h₀ L m env elt x scope cl { s₁ with heap := g } (fun _ => True) (fun _ v => ∃ t, v = .str (Str.ofString ".") t) (Fin { s₁ with heap := g }) 2 0 [] news) :
    SrcX prog w A h₀ L m env elt x scope cl Fin E (.str y t) s₁ := by
  refine ⟨2, _, fun _ => True, news, F, N, trivial, by decide, fun Q' hq => ?_, fun _ ⟨g, e⟩ => e ▸ h g⟩
  have W := Walks.strAscii (prog := prog) (w := w) hh s₁.heap.objs.size y t
  have hn : y.cps.size = 2 := by rw [hy]; rfl
  rw [hn] at W
  refine wpAny_pyIter_ascii (by rw [hy]; decide +kernel) (hq _ _ _ { sub := W.sub, frame := W.frame, done := W.done, self := W.self, item := fun i s Q E hi st hQ => W.item i s Q E hi st fun v h' tk hP => hQ v h' tk ?_ } (fun b hb => ?_) ⟨_, Heap.get?_push_size _ rfl, rfl, rfl⟩ (fun i h st => ?_) fun i h h' o nw st e e' _ _ _ => ?_)
  · obtain ⟨c, t', hc, rfl⟩ := hP
    have : c = 46 := by
      rw [hy] at hc
      match i, hi, hc with
      | 0, _, hc => exact (Option.some.inj hc).symm
      | 1, _, hc => exact (Option.some.inj hc).symm
    subst this
    exact ⟨t', by rw [show (Str.ofString ".") = ⟨#[46]⟩ by decide +kernel]⟩
  · rw [List.mem_singleton.mp hb, Heap.size_push]; exact Nat.lt_succ_self _
  · obtain ⟨o, e, _⟩ := st; exact ⟨o, e⟩
  · obtain ⟨o', q, r⟩ := st; rw [e] at q; cases q; exact ⟨o, e', r⟩
end
end Mine
end
section
open PySem PySem.W PyProof.Rows
set_option Elab.async false
set_option maxRecDepth 100000
set_option maxHeartbeats 8000000
namespace Mine
open PyProof.V
noncomputable def whole (n : Int) : Int := if n % 19 = 16 then 0 else wk n
noncomputable def wholeK (k : Nat) : Int := if k = 16 then 0 else if k = 18 then 52 else 7 + k
theorem whole_k {n : Int} : wholeK (n.fmod 19).toNat = whole n := by
  rw [Int.fmod_eq_emod_of_nonneg _ (by decide)]
  unfold wholeK whole wk
  have : 0 ≤ n % 19 := Int.emod_nonneg _ (by decide)
  repeat' split
  all_goals omega
noncomputable def isInt : PyData → Int → Bool
  | .int i, k => i == k
  | _, _ => false
theorem isInt_eq {d : PyData} {k : Int} (h : isInt d k = true) : d = .int k := by
  cases d <;> first | (simp [isInt] at h; done) | (simp only [isInt, beq_iff_eq] at h; rw [h])
theorem look_is {n : Int} {v : Value} {D : List (PyData × PyData)} (hD : ∀ k < 19, isInt ((PySem.Spec.lookup (PyData.str ⟨(sentL k).toArray⟩) D).getD (PyData.int 0)) (wholeK k) = true)
    (hv : Flat v ((PySem.Spec.lookup (PyData.str (sentS n)) D).getD (PyData.int 0))) : ∃ t, v = .int (whole n) t := by
  have e := isInt_eq (hD _ (fm19' n))
  have hv' : Flat v (PyData.int (wholeK (n.fmod 19).toNat)) := e ▸ hv
  rw [whole_k] at hv'
  exact Flat.int_inv hv'
theorem dots_of {n : Int} (h : ¬ 0 < whole n) : (sentS n).cps = #[46, 46] := by
  have e : n % 19 = 16 := by
    unfold whole wk at h
    split at h
    · assumption
    · split at h <;> omega
  unfold sentS
  rw [Int.fmod_eq_emod_of_nonneg _ (by decide), e]
  decide +kernel
theorem work_is {n v : Int} (h : Eqv v (if 0 < whole n then whole n else [23, 23].sum)) : v = wk n := by
  rw [h.h]
  split
  · rename_i h
    unfold whole at h ⊢
    split
    · rename_i q; rw [if_pos q] at h; omega
    · rfl
  · rename_i h
    have e : n % 19 = 16 := by
      unfold whole wk at h
      split at h
      · assumption
      · split at h <;> omega
    unfold wk
    rw [if_pos e]; decide
theorem subJ {h₀ h : Heap} {L : Addr} {news news' : List (Addr × Obj)} (N : News h₀ L h news') (hs : ∀ p ∈ news, p ∈ news') : News h₀ L h news := fun p hp => N p (hs p hp)
theorem ite_joinH {M : Model} {A : Around} {E : Value → Shared → Prop} {s : Shared} {h₀ : Heap} {L : Addr} {m : Str → Option Value} {news : List (Addr × Obj)} {c : Prop} [Decidable c] {x y : Sem Value} {vx vy : Int} {Q : Value → Shared → Prop} (_F : Fr h₀ L s.heap m) (_N : News h₀ L s.heap news)
    (hx : c → ∀ Q' : Value → Shared → Prop, (∀ t h' tk, Fr h₀ L h' m → News h₀ L h' news → Q' (.int vx t) { s with heap := h', toks := tk }) → wpAny M A x Q' E s)
    (hy : ¬ c → ∀ Q' : Value → Shared → Prop, (∀ t h' tk, Fr h₀ L h' m → News h₀ L h' news → Q' (.int vy t) { s with heap := h', toks := tk }) → wpAny M A y Q' E s)
    (h : ∀ v t h' tk, Eqv v (if c then vx else vy) → Fr h₀ L h' m → News h₀ L h' news → Q (.int v t) { s with heap := h', toks := tk }) : if c then wpAny M A x Q E s else wpAny M A y Q E s := by
  by_cases hc : c
  · rw [if_pos hc]; exact hx hc Q fun t h' tk F N => h _ t h' tk ⟨by rw [if_pos hc]⟩ F N
  · rw [if_neg hc]; exact hy hc Q fun t h' tk F N => h _ t h' tk ⟨by rw [if_neg hc]⟩ F N
theorem sumE {prog : Program} {w : World} {A : Around} {E : Value → Shared → Prop} {s : Shared} {h₀ : Heap} {L : Addr} {m : Str → Option Value} {news : List (Addr × Obj)} {l : Addr} {arr : Array Value} {n : Nat} {ns : List Int} {Q : Value → Shared → Prop} (hh : A.handled = none) (F : Fr h₀ L s.heap m) (N : News h₀ L s.heap news)
    (hm : (l, ({ cls := .type "list", data := .seq arr n } : Obj)) ∈ news) (hi : IntsAre arr.toList ns)
    (h : ∀ h' tk t', Fr h₀ L h' m → News h₀ L h' news → Q (.int ns.sum t') { s with heap := h', toks := tk }) :
    wpAny (model prog w) A (call (.builtin "sum") [.ref l]) Q E s :=
  sumK (vs := arr.toList) hh F N ⟨_, (N _ hm).1, rfl, n, rfl⟩ hi fun h' tk t' F' N' => h h' tk t' F' N'
end Mine
end
section
namespace Mine
section
variable {W a b c : Int}
theorem Line.p021 (L : Line W a b c) : Line W a c b := ⟨L.n0, L.n2, L.n1, L.l0, L.l2, L.l1, by have := L.is; omega⟩
theorem Line.p102 (L : Line W a b c) : Line W b a c := ⟨L.n1, L.n0, L.n2, L.l1, L.l0, L.l2, by have := L.is; omega⟩
theorem Line.p120 (L : Line W a b c) : Line W b c a := L.p102.p021
theorem Line.p201 (L : Line W a b c) : Line W c a b := L.p021.p102
theorem Line.p210 (L : Line W a b c) : Line W c b a := L.p120.p102
end
/-- in whatever order the hands stand, the mails leave when they are due -/
theorem same {n0 n1 n2 n3 n4 n5 n6 n7 s0 s1 s2 s3 s4 Y0 Y1 Y2 Y3 Y4 c0 c1 c2 c3 c4 w0 w1 w2 x y z z0 z1 z2 z3 z4 : Int}
    (D : Due5 n0 n1 n2 n3 n4 n5 n6 n7 s0 s1 s2 s3 s4 Y0 Y1 Y2 Y3 Y4)
    (e0 : Eqv c0 (s0 * ((n3 % 5 + if 0 < n3 % 5 then 1 else 0) + n3 / 5 % 5 + 2))) (e1 : Eqv c1 (c0 + s1 * ((n4 % 5 + if 0 < n4 % 5 then 1 else 0) + n4 / 5 % 5 + 2)))
    (e2 : Eqv c2 (c1 + s2 * ((n5 % 5 + if 0 < n5 % 5 then 1 else 0) + n5 / 5 % 5 + 2))) (e3 : Eqv c3 (c2 + s3 * ((n6 % 5 + if 0 < n6 % 5 then 1 else 0) + n6 / 5 % 5 + 2)))
    (e4 : Eqv c4 (c3 + s4 * ((n7 % 5 + if 0 < n7 % 5 then 1 else 0) + n7 / 5 % 5 + 2)))
    (h0 : w0 = wk n0) (h1 : w1 = wk n1) (h2 : w2 = wk n2)
    (R : Runs5 c0 c1 c2 c3 c4 x y z z0 z1 z2 z3 z4) (hp : ∀ W, Line W w0 w1 w2 → Line W x y z) (hs : x + y + z = w0 + w1 + w2) :
    z0 = Y0 ∧ z1 = Y1 ∧ z2 = Y2 ∧ z3 = Y3 ∧ z4 = Y4 := by
  obtain ⟨W, d0, d1, d2, d3, d4, L, g0, g1, g2, g3, g4, y0, y1, y2, y3, y4⟩ := D.ex
  subst h0 h1 h2
  obtain ⟨t0, t1, t2, t3, t4⟩ := R.ex W (hp W L)
  have f0 : c0 = d0 := e0.h.trans g0.symm
  subst f0
  have f1 : c1 = d1 := e1.h.trans g1.symm
  subst f1
  have f2 : c2 = d2 := e2.h.trans g2.symm
  subst f2
  have f3 : c3 = d3 := e3.h.trans g3.symm
  subst f3
  have f4 : c4 = d4 := e4.h.trans g4.symm
  subst f4
  refine ⟨?_, ?_, ?_, ?_, ?_⟩
  · rw [t0, y0, hs]
  · rw [t1, y1, hs]
  · rw [t2, y2, hs]
  · rw [t3, y3, hs]
  · rw [t4, y4, hs]
end Mine
end
section
open PySem PySem.W PyProof.Rows
set_option Elab.async false
set_option maxRecDepth 100000
set_option maxHeartbeats 8000000
namespace Mine
open PySem.Calls
section
variable {prog : Program} {w : World} {A : Around} {E : Value → Shared → Prop} {s : Shared} {h₀ : Heap} {L : Addr} {m : Str → Option Value} {news : List (Addr × Obj)}
/-- a list of one thing, six times -/
theorem six {l : Addr} {v : Value} {n : Nat} {u : Tok} {Q : Value → Shared → Prop} (F₀ : Fr h₀ L s.heap m) (N : News h₀ L s.heap news) (hm : (l, ({ cls := .type "list", data := .seq #[v] n } : Obj)) ∈ news)
    (h : ∀ D h', Fr h₀ L h' m → News h₀ L h' ((D, listOf #[v, v, v, v, v, v] 0) :: news) → (∀ p ∈ news, p.1 < D) → Q (.ref D) { s with heap := h' }) : wpAny (model prog w) A (binaryOp .Mult (.ref l) (.int 6 u)) Q E s := by
  have ho := (N _ hm).1
  refine wpAny_binaryOp_repeat_ref (T := "list") (U := "int") (by decide) ⟨_, ho, rfl⟩ (fun s' => typeIs_int s' 6 u) noFill_list_mul F.fills_int_mul F.slot_int_rmul repeat_list F.slot_int_index.lookup
    (call_meets F.slot_int_rmul (typeIs_int s 6 u) F.entry_int_rmul (F.args_int_rmul_2 _ _) (lm_int_rmul_list_any 6 u l #[v] n _ _)
      ⟨ho, rfl, ⟨_, ho, rfl⟩, call_meets F.slot_list_mul ⟨_, ho, rfl⟩ F.entry_list_mul (F.args_list_mul_2 _ _)
        (lm_list_mul_any l #[v] n _ _ 6 u (by simp [Builtin.List.listFitsIndex]) (by simp) (by simp [Builtin.List.listTooLong, sizeLine]))
        ⟨ho, ?_⟩⟩)
  have N' := News.push F₀ N { cls := Value.type "list", data := Data.seq (List.foldl (fun x1 x2 => x1 ++ x2) #[] (List.replicate (if (#[v] : Array Value).isEmpty = true then 0 else (6 : Int).toNat) #[v])) }
  exact h _ _ (F₀.push _) N' (fun p hp => Heap.lt_size (N p hp).1)
end
end Mine
end
section
open PySem PySem.W PyProof.Rows
namespace Mine
theorem newsAt3 {h₀ h h' : Heap} {L D A B : Addr} {m : Str → Option Value} {news : List (Addr × Obj)} {oD oA oB : Obj} (F : Fr h₀ L h m) (N : News h₀ L h news) (k : Kept h h') (hD : h'.get? D = some oD) (hA : h'.get? A = some oA) (hB : h'.get? B = some oB)
    (fD : h.get? D = none) (fA : h.get? A = none) (fB : h.get? B = none) : News h₀ L h' ((D, oD) :: (A, oA) :: (B, oB) :: news) := by
  intro p hp
  rcases List.mem_cons.mp hp with rfl | hp
  · exact newsAt F N k hD fD _ List.mem_cons_self
  · rcases List.mem_cons.mp hp with rfl | hp
    · exact newsAt F N k hA fA _ List.mem_cons_self
    · exact newsAt F N k hB fB p hp
theorem neAt {d a : Addr} {o : Obj} {l : List (Addr × Obj)} (h : ∀ p ∈ l, @Ne Nat p.1 d) (m : (a, o) ∈ l) : @Ne Nat a d := h _ m
noncomputable def In3 (n : Int) : Prop := 1 ≤ n ∧ n ≤ 3
theorem five_of {ws : List Value} : ∀ {zs : List Int}, IntsAre ws ((zs ++ [1, 1]).take 5) → (zs.length = 3 ∨ zs.length = 5) → (∀ z ∈ zs, 1 ≤ z ∧ z ≤ 3) →
    ∃ s0 s1 s2 s3 s4 : Int, ∃ u0 u1 u2 u3 u4 : Tok, ws = [.int s0 u0, .int s1 u1, .int s2 u2, .int s3 u3, .int s4 u4] ∧ (1 ≤ s0 ∧ s0 ≤ 3) ∧ (1 ≤ s1 ∧ s1 ≤ 3) ∧ (1 ≤ s2 ∧ s2 ≤ 3) ∧ (1 ≤ s3 ∧ s3 ≤ 3) ∧ (1 ≤ s4 ∧ s4 ≤ 3)
  | [a, b, c], h, _, hb => by
    obtain ⟨t0, v0, rfl, h1⟩ := ints_inv (r := [b, c, 1, 1]) h
    obtain ⟨t1, v1, rfl, h2⟩ := ints_inv h1
    obtain ⟨t2, v2, rfl, h3⟩ := ints_inv h2
    obtain ⟨t3, v3, rfl, h4⟩ := ints_inv h3
    obtain ⟨t4, v4, rfl, h5⟩ := ints_inv h4
    obtain rfl := ints_inv0 h5
    exact ⟨a, b, c, 1, 1, t0, t1, t2, t3, t4, rfl, hb _ (by simp), hb _ (by simp), hb _ (by simp), by decide, by decide⟩
  | [a, b, c, d, e], h, _, hb => by
    obtain ⟨t0, v0, rfl, h1⟩ := ints_inv (r := [b, c, d, e]) h
    obtain ⟨t1, v1, rfl, h2⟩ := ints_inv h1
    obtain ⟨t2, v2, rfl, h3⟩ := ints_inv h2
    obtain ⟨t3, v3, rfl, h4⟩ := ints_inv h3
    obtain ⟨t4, v4, rfl, h5⟩ := ints_inv h4
    obtain rfl := ints_inv0 h5
    exact ⟨a, b, c, d, e, t0, t1, t2, t3, t4, rfl, hb _ (by simp), hb _ (by simp), hb _ (by simp), hb _ (by simp), hb _ (by simp)⟩
theorem sum_nn {v : Int} {l : List Int} (h : Eqv v l.sum) (hl : ∀ x ∈ l, 0 ≤ x) : 0 ≤ v := by
  rw [h.h]
  clear h
  induction l with
  | nil => decide
  | cons a r ih =>
    rw [List.sum_cons]
    have h1 := hl a List.mem_cons_self
    have h2 := ih fun x hx => hl x (List.mem_cons_of_mem _ hx)
    omega
end Mine
end
section
open PySem PySem.W PyProof.Rows
set_option Elab.async false
set_option maxRecDepth 100000
set_option maxHeartbeats 8000000
namespace Mine
theorem law_cmp {w : World} {A : Around} {E : Value → Shared → Prop} {s : Shared} {Q : Value → Shared → Prop} {h₀ : Heap} {L : Addr} {m : Str → Option Value} {news : List (Addr × Obj)} {lv S e d1 d2 d3 d4 d5 d6 : Addr} {kl ks ke k1 k2 k3 k4 k5 k6 : Nat}
   {n0 n1 n2 n3 n4 n5 n6 n7 s0 s1 s2 s3 s4 Y0 Y1 Y2 Y3 Y4 c0 c1 c2 c3 c4 w0 w1 w2 y10 y11 y12 y13 y14 y20 y21 y22 y23 y24 y30 y31 y32 y33 y34 y40 y41 y42 y43 y44 y50 y51 y52 y53 y54 y60 y61 y62 y63 y64 : Int} {t0 t1 t2 t3 t4 z10 z11 z12 z13 z14 z20 z21 z22 z23 z24 z30 z31 z32 z33 z34 z40 z41 z42 z43 z44 z50 z51 z52 z53 z54 z60 z61 z62 z63 z64 : Tok}
   (F : Fr h₀ L s.heap m) (N : News h₀ L s.heap news) (hu : A.units + 64 < cLine)
   (ml : (lv, listOf #[.ref d1, .ref d2, .ref d3, .ref d4, .ref d5, .ref d6] kl) ∈ news) (ms : (S, listOf #[.ref e, .ref e, .ref e, .ref e, .ref e, .ref e] ks) ∈ news)
   (me : (e, listOf #[.int Y0 t0, .int Y1 t1, .int Y2 t2, .int Y3 t3, .int Y4 t4] ke) ∈ news)
   (p1 : (d1, listOf #[.int y10 z10, .int y11 z11, .int y12 z12, .int y13 z13, .int y14 z14] k1) ∈ news)
   (p2 : (d2, listOf #[.int y20 z20, .int y21 z21, .int y22 z22, .int y23 z23, .int y24 z24] k2) ∈ news)
   (p3 : (d3, listOf #[.int y30 z30, .int y31 z31, .int y32 z32, .int y33 z33, .int y34 z34] k3) ∈ news)
   (p4 : (d4, listOf #[.int y40 z40, .int y41 z41, .int y42 z42, .int y43 z43, .int y44 z44] k4) ∈ news)
   (p5 : (d5, listOf #[.int y50 z50, .int y51 z51, .int y52 z52, .int y53 z53, .int y54 z54] k5) ∈ news)
   (p6 : (d6, listOf #[.int y60 z60, .int y61 z61, .int y62 z62, .int y63 z63, .int y64 z64] k6) ∈ news)
   (D : Due5 n0 n1 n2 n3 n4 n5 n6 n7 s0 s1 s2 s3 s4 Y0 Y1 Y2 Y3 Y4)
   (e0 : Eqv c0 (s0 * ((n3 % 5 + if 0 < n3 % 5 then 1 else 0) + n3 / 5 % 5 + 2))) (e1 : Eqv c1 (c0 + s1 * ((n4 % 5 + if 0 < n4 % 5 then 1 else 0) + n4 / 5 % 5 + 2)))
   (e2 : Eqv c2 (c1 + s2 * ((n5 % 5 + if 0 < n5 % 5 then 1 else 0) + n5 / 5 % 5 + 2))) (e3 : Eqv c3 (c2 + s3 * ((n6 % 5 + if 0 < n6 % 5 then 1 else 0) + n6 / 5 % 5 + 2)))
   (e4 : Eqv c4 (c3 + s4 * ((n7 % 5 + if 0 < n7 % 5 then 1 else 0) + n7 / 5 % 5 + 2)))
   (h0 : w0 = wk n0) (h1 : w1 = wk n1) (h2 : w2 = wk n2)
   (R1 : Runs5 c0 c1 c2 c3 c4 w0 w1 w2 y10 y11 y12 y13 y14)
   (R2 : Runs5 c0 c1 c2 c3 c4 w0 w2 w1 y20 y21 y22 y23 y24)
   (R3 : Runs5 c0 c1 c2 c3 c4 w1 w0 w2 y30 y31 y32 y33 y34)
   (R4 : Runs5 c0 c1 c2 c3 c4 w1 w2 w0 y40 y41 y42 y43 y44)
   (R5 : Runs5 c0 c1 c2 c3 c4 w2 w0 w1 y50 y51 y52 y53 y54)
   (R6 : Runs5 c0 c1 c2 c3 c4 w2 w1 w0 y60 y61 y62 y63 y64)
   (hQ : Q (.bool true) s) : wpAny (model PySem.Challenge.rw_to0012_01.row.prog w) A (compareOp .Eq (.ref lv) (.ref S)) Q E s := by
  obtain ⟨q10, q11, q12, q13, q14⟩ := same D e0 e1 e2 e3 e4 h0 h1 h2 R1 (fun _ L => L) (by omega)
  obtain ⟨q20, q21, q22, q23, q24⟩ := same D e0 e1 e2 e3 e4 h0 h1 h2 R2 (fun _ L => L.p021) (by omega)
  obtain ⟨q30, q31, q32, q33, q34⟩ := same D e0 e1 e2 e3 e4 h0 h1 h2 R3 (fun _ L => L.p102) (by omega)
  obtain ⟨q40, q41, q42, q43, q44⟩ := same D e0 e1 e2 e3 e4 h0 h1 h2 R4 (fun _ L => L.p120) (by omega)
  obtain ⟨q50, q51, q52, q53, q54⟩ := same D e0 e1 e2 e3 e4 h0 h1 h2 R5 (fun _ L => L.p201) (by omega)
  obtain ⟨q60, q61, q62, q63, q64⟩ := same D e0 e1 e2 e3 e4 h0 h1 h2 R6 (fun _ L => L.p210) (by omega)
  have hb : ∀ b, b = true → Q (.bool b) s := fun b hb => hb ▸ hQ
  clear D e0 e1 e2 e3 e4 h0 h1 h2 R1 R2 R3 R4 R5 R6 hQ
  refine eq_dataH (by ked_read) (by ked_read) (by ked_shaped) (by ked_shaped) hu (hb _ ?_)
  simp only [PyData.eqv, PyData.eqvAll, beq_self_eq_true, decide_true, Bool.and_true, Bool.and_self, q10, q11, q12, q13, q14, q20, q21, q22, q23, q24, q30, q31, q32, q33, q34, q40, q41, q42, q43, q44, q50, q51, q52, q53, q54, q60, q61, q62, q63, q64]
end Mine
end
section
open PySem PySem.W PyProof.Rows
set_option Elab.async false
set_option maxRecDepth 100000
set_option maxHeartbeats 8000000
namespace Mine
/-- law has given True back -/
noncomputable def LawDone (h₀ : Heap) (L : Addr) (s : Shared) (fl : Flow) (s' : Shared) : Prop :=
  fl = .ret (.bool true) ∧ ∃ m h' tk gs, s' = { s with heap := h', toks := tk, gens := gs } ∧ Fr h₀ L h' m ∧ AllBare gs
section
variable {M : Model} {A : Around} {E : Value → Shared → Prop} {s : Shared} {h₀ h : Heap} {L : Addr} {m : Str → Option Value} {news : List (Addr × Obj)}
theorem lawPost {c : Sem Flow} {Q : Flow → Shared → Prop} {E : Value → Shared → Prop} (F : Fr h₀ L s.heap m) (walk : wpAny M A c (LawDone h₀ L s) (fun _ _ => False) s)
    (close : ∀ m h' tk gs, Fr h₀ L h' m → AllBare gs → Q (.ret (.bool true)) { s with heap := h', toks := tk, gens := gs }) : wpAny M A c Q E s :=
  wpAny_mono walk (fun fl s' ⟨e, m, h', tk, gs, e', F', b⟩ => by subst e; subst e'; exact close m h' tk gs F' b) fun _ _ x => x.elim
noncomputable def pickM {α : Type} : List Bool → List α → List α
  | [], l => l
  | true :: bs, a :: l => a :: pickM bs l
  | false :: bs, _ :: l => pickM bs l
  | true :: _, [] => []
  | false :: _, [] => []
theorem pickM_sub {α : Type} : ∀ (bs : List Bool) (l : List α), ∀ x ∈ pickM bs l, x ∈ l
  | [], _, x, h => h
  | true :: bs, a :: l, x, h => by
    rcases List.mem_cons.mp h with rfl | h
    · exact List.mem_cons_self
    · exact List.mem_cons_of_mem _ (pickM_sub bs l x h)
  | false :: bs, a :: l, x, h => List.mem_cons_of_mem _ (pickM_sub bs l x h)
  | true :: _, [], x, h => nomatch h
  | false :: _, [], x, h => nomatch h
theorem pickNews (N : News h₀ L h news) (bs : List Bool) : News h₀ L h (pickM bs news) := fun p hp => N p (pickM_sub bs news p hp)
/-- what a list stands apart from -/
noncomputable def PackNe (l : Addr) (news : List (Addr × Obj)) : Prop := ∀ p ∈ news, @Ne Nat p.1 l
theorem packAll {l : Addr} (_F : Fr h₀ L h m) (_e : m (Str.ofString "leaves") = some (.ref l)) (bs : List Bool) (_N : News h₀ L h news) (q : PackNe l (pickM bs news)) : PackNe l (pickM bs news) := q
theorem packNil {l : Addr} : PackNe l [] := fun _ h => nomatch h
theorem packCons {l : Addr} {a : Addr × Obj} {r : List (Addr × Obj)} (h : @Ne Nat a.1 l) (q : PackNe l r) : PackNe l (a :: r) := fun p hp => by
  rcases List.mem_cons.mp hp with rfl | hp
  · exact h
  · exact q p hp
theorem packOne {l : Addr} {a : Addr × Obj} {r : List (Addr × Obj)} (_F : Fr h₀ L h m) (_e : m (Str.ofString "leaves") = some (.ref l)) (_N : News h₀ L h (a :: r)) (q : @Ne Nat a.1 l) : PackNe l [a] := packCons q packNil
theorem packI {d : Addr × Obj} {a1 a0 : Addr} {o1 o0 : Obj} {rest : List (Addr × Obj)} (_N : News h₀ L h (d :: (a1, o1) :: (a0, o0) :: rest)) (q : PackNe a1 (d :: rest)) (q0 : PackNe a0 (d :: rest)) : PackNe a1 (d :: rest) ∧ PackNe a0 (d :: rest) := ⟨q, q0⟩
theorem packI1 {d : Addr × Obj} {a1 a0 : Addr} {o1 o0 : Obj} {rest : List (Addr × Obj)} (_N : News h₀ L h (d :: (a1, o1) :: (a0, o0) :: rest)) (q : @Ne Nat d.1 a1) (q0 : @Ne Nat d.1 a0) : PackNe a1 [d] ∧ PackNe a0 [d] := ⟨packCons q packNil, packCons q0 packNil⟩
/-- a copy that will be opened -/
structure PackU (l : Addr) (news : List (Addr × Obj)) : Prop where
  h : PackNe l news
theorem packHead {l a : Addr} {o : Obj} {r : List (Addr × Obj)} (q : PackU l ((a, o) :: r)) : @Ne Nat a l ∧ PackU l r := ⟨q.h _ List.mem_cons_self, ⟨fun p hp => q.h p (List.mem_cons_of_mem _ hp)⟩⟩
structure PackK (l : Addr) (news : List (Addr × Obj)) : Prop where
  h : PackNe l news
structure MarkP : Prop where
end
end Mine
end
section
open PySem PySem.W PyProof.Rows
set_option Elab.async false
set_option maxRecDepth 100000
set_option maxHeartbeats 8000000
namespace Mine
noncomputable def fnBody (w : World) (a : Addr) : List Stmt := match (hd.heap_39 w.params).lookup a with
  | some ⟨_, _, .func fd, _⟩ => (match fd.body with | .stmts b => b | _ => [])
  | _ => []
noncomputable def fnScope (w : World) (a : Addr) : Scope := match (hd.heap_39 w.params).lookup a with
  | some ⟨_, _, .func fd, _⟩ => fd.scope
  | _ => default
noncomputable def stNth : List Stmt → Nat → Stmt
  | s :: _, 0 => s
  | _ :: r, i + 1 => stNth r i
  | [], _ => .Pass default
noncomputable def forBody : Stmt → List Stmt
  | .For _ _ b _ _ => b
  | _ => []
theorem fnPart {w : World} {a : Addr} {oc : Value} {od : Option Addr} {osl : Array (Option Value)} {name qual : Str} {params : Arguments} {body : List Stmt} {scope : Scope} {dV kV doc pm cdv ct : Value} {an : Option Addr} {Q : List Stmt → Scope → Prop}
    (hk : (hd.heap_39 w.params).lookup a = some ⟨oc, od, .func (fnOf name qual params body scope dV kV doc pm an cdv ct), osl⟩) (h : Q body scope) : Q (fnBody w a) (fnScope w a) := by
  have e1 : fnBody w a = body := by unfold fnBody; rw [hk]
  have e2 : fnScope w a = scope := by unfold fnScope; rw [hk]
  rw [e1, e2]; exact h
noncomputable def chainM (m : Str → Option Value) : List (Str × Value) → Str → Option Value
  | [] => m
  | (x, v) :: l => fun y => if y = x then some v else chainM m l y
theorem chainM_eq {m : Str → Option Value} : ∀ {l : List (Str × Value)}, (∀ q ∈ l, m q.1 = some q.2) → chainM m l = m
  | [], _ => rfl
  | (x, v) :: l, e => by
    funext y
    show (if y = x then some v else chainM m l y) = m y
    rw [chainM_eq fun q hq => e q (List.mem_cons_of_mem _ hq)]
    by_cases q : y = x
    · rw [if_pos q, q, e (x, v) List.mem_cons_self]
    · rw [if_neg q]
theorem frGets {h₀ : Heap} {L : Addr} {h : Heap} {m : Str → Option Value} (l : List (Str × Value)) (e : ∀ q ∈ l, m q.1 = some q.2) (F : Fr h₀ L h m) : Fr h₀ L h (chainM m l) := by
  rw [chainM_eq e]; exact F
theorem frEq {h₀ : Heap} {L : Addr} {h : Heap} {m m' : Str → Option Value} (F : Fr h₀ L h m) (e : m = m') : Fr h₀ L h m' := e ▸ F
theorem shape2 {h₀ : Heap} {L : Addr} {h : Heap} {m rest : Str → Option Value} {a b : Str} {va vb : Option Value} (F : Fr h₀ L h (fun z => if z = a then va else if z = b then vb else rest z)) (e : ∀ z, ¬ z = a → ¬ z = b → rest z = m z) :
    Fr h₀ L h (fun z => if z = a then va else if z = b then vb else m z) := by
  refine frEq F (funext fun z => ?_)
  by_cases q1 : z = a
  · rw [if_pos q1, if_pos q1]
  · rw [if_neg q1, if_neg q1]
    by_cases q2 : z = b
    · rw [if_pos q2, if_pos q2]
    · rw [if_neg q2, if_neg q2]; exact e z q1 q2
theorem shape1 {h₀ : Heap} {L : Addr} {h : Heap} {m rest : Str → Option Value} {a : Str} {va : Option Value} (F : Fr h₀ L h (fun z => if z = a then va else rest z)) (e : ∀ z, ¬ z = a → rest z = m z) :
    Fr h₀ L h (fun z => if z = a then va else m z) := by
  refine frEq F (funext fun z => ?_)
  by_cases q1 : z = a
  · rw [if_pos q1, if_pos q1]
  · rw [if_neg q1, if_neg q1]; exact e z q1
theorem updOf {d : Addr} {o : Obj} {l : List (Addr × Obj)} {g : Obj → List (Addr × Obj)} (u : UpdF d o l g) (o' : Obj) : Upd d o o' l (g o') := by
  induction u with
  | head h => exact Upd.head h
  | tail h _ ih => exact Upd.tail h ih
theorem updMem {d : Addr} {o : Obj} {l : List (Addr × Obj)} {g : Obj → List (Addr × Obj)} (u : UpdF d o l g) : (d, o) ∈ l := by
  induction u with
  | head h => exact List.mem_cons_self
  | tail h _ ih => exact List.mem_cons_of_mem _ ih
theorem allNil {m : Str → Option Value} : ∀ q ∈ ([] : List (Str × Value)), m q.1 = some q.2 := fun _ h => nomatch h
theorem allCons {m : Str → Option Value} {x : Str} {v : Value} {l : List (Str × Value)} (h : m x = some v) (e : ∀ q ∈ l, m q.1 = some q.2) : ∀ q ∈ (x, v) :: l, m q.1 = some q.2 := fun q hq => by
  rcases List.mem_cons.mp hq with rfl | hq
  · exact h
  · exact e q hq
theorem fnBody_eq {w : World} {a : Addr} {oc : Value} {od : Option Addr} {osl : Array (Option Value)} {name qual : Str} {params : Arguments} {body : List Stmt} {scope : Scope} {dV kV doc pm cdv ct : Value} {an : Option Addr}
    (hk : (hd.heap_39 w.params).lookup a = some ⟨oc, od, .func (fnOf name qual params body scope dV kV doc pm an cdv ct), osl⟩) : fnBody w a = body ∧ fnScope w a = scope := by
  refine fnPart (Q := fun b c => b = body ∧ c = scope) hk ⟨rfl, rfl⟩
theorem append_KL {prog : Program} {w : World} {A : Around} {E : Value → Shared → Prop} {s : Shared} {h₀ : Heap} {L D : Addr} {m : Str → Option Value} {news news' : List (Addr × Obj)} {its : Array Value} {n : Nat} {x : Value} {o' : Obj} {Q : Value → Shared → Prop} (F : Fr h₀ L s.heap m) (N : News h₀ L s.heap news) (U : Upd D (listOf its n) o' news news') (e : o' = listOf (its.push x) (n + 1))
    (h : ∀ h', Fr h₀ L h' m → News h₀ L h' news' → Q .none { s with heap := h' }) (hsz : its.size ≤ sizeLine) : wpAny (model prog w) A (call (.builtin "list.append") [.ref D, x]) Q E s := by
  subst e
  exact append_K F N U h hsz
end Mine
end
section
open PySem PySem.W PyProof.Rows
set_option Elab.async false
set_option maxRecDepth 100000
set_option maxHeartbeats 8000000
namespace Mine
noncomputable def defBody : Stmt → List Stmt
  | .FunctionDef _ _ b _ _ _ _ _ _ _ => b
  | _ => []
noncomputable def defScope : Stmt → Scope
  | .FunctionDef _ _ _ _ _ _ sc _ _ _ => sc
  | _ => default
noncomputable def forTarget : Stmt → PySem.Expr
  | .For t _ _ _ _ => t
  | _ => .Name (Str.ofString "") ⟨0, 0, 0, 0⟩
noncomputable def topDef (i : Nat) : Stmt := stNth PySem.Challenge.pw_to0012_01.main.body i
section
variable {prog : Program} {w : World} {A : Around} {E : Value → Shared → Prop} {s : Shared} {env : Env} {h₀ : Heap} {target : PySem.Expr} {body : List Stmt} {Q : Flow → Shared → Prop} {m : Str → Option Value} {news news' : List (Addr × Obj)}
theorem itemsSub {ws : List (Addr × String)} {keep : List (Addr × Obj)} {a : Itm} {r : List Itm} (sub : ∀ p ∈ news', p ∈ news) (R : ItemsRest prog w A E h₀ env target body Q s ws keep (a :: r) m news') :
    ItemsRest prog w A E h₀ env target body Q s ws keep (a :: r) m news := by
  intro v h tk hv F
  have q := R v h tk hv F
  have go : ∀ (ws : List (Addr × String)) {k k' : List (Addr × Obj) → Prop}, (∀ l, k' l → k l) → AllObj ws k' → AllObj ws k := by
    intro ws
    induction ws with
    | nil => intro k k' f x; exact f _ x
    | cons a ws ih => intro k k' f x o ho; exact ih (fun l y => f _ y) (x o ho)
  refine go ws (fun l y N => y fun p hp => ?_) q
  rcases List.mem_append.mp hp with hp | hp
  · exact N p (List.mem_append_left _ hp)
  · exact N p (List.mem_append_right _ (sub p hp))
theorem unrAt {L : Addr} {s₁ : Shared} {its : List (Addr × Obj)} {rest : (Str → Option Value) → List (Addr × Obj) → Prop} {h' : Heap} {tk : Nat} (F : Fr h₀ L h' m) (N : News h₀ L h' (its ++ news))
    (off : ∀ p ∈ news, ∀ q ∈ its, p.1 ≠ q.1) (r : rest m news) : UnrEndW h₀ L s₁ its rest { s₁ with heap := h', toks := tk } := ⟨h', tk, m, news, rfl, F, N, off, r⟩
theorem unrAt2 {L I1 I0 : Addr} {o1 o0 : Obj} {s₁ : Shared} {rest : (Str → Option Value) → List (Addr × Obj) → Prop} {h' : Heap} {tk : Nat} (F : Fr h₀ L h' m) (N : News h₀ L h' ((I1, o1) :: (I0, o0) :: news))
    (off : ∀ p ∈ news, @Ne Nat p.1 I1 ∧ @Ne Nat p.1 I0) (r : rest m news) : UnrEndW h₀ L s₁ [(I1, o1), (I0, o0)] rest { s₁ with heap := h', toks := tk } :=
  unrAt F N (fun p hp q hq => by
    rcases List.mem_cons.mp hq with rfl | hq
    · exact (off p hp).1
    · rw [List.mem_singleton.mp hq]; exact (off p hp).2) r
end
theorem subLcons {a : Addr × Obj} : ∀ {keep l : List (Addr × Obj)}, SubL keep l → SubL keep (a :: l)
  | [], _, _ => trivial
  | _ :: _, _, h => ⟨List.mem_cons_of_mem _ h.1, subLcons h.2⟩
theorem updAddr {d : Addr} {o o' : Obj} {l : List (Addr × Obj)} {g : Obj → List (Addr × Obj)} (u : UpdF d o l g) : ∀ p ∈ g o', ∃ q ∈ l, q.1 = p.1 := by
  induction u with
  | head h =>
    intro p hp
    rcases List.mem_cons.mp hp with rfl | hp
    · exact ⟨_, List.mem_cons_self, rfl⟩
    · exact ⟨p, List.mem_cons_of_mem _ hp, rfl⟩
  | tail h _ ih =>
    intro p hp
    rcases List.mem_cons.mp hp with rfl | hp
    · exact ⟨_, List.mem_cons_self, rfl⟩
    · obtain ⟨q, hq, e⟩ := ih p hp
      exact ⟨q, List.mem_cons_of_mem _ hq, e⟩
theorem newsSub {h₀ h : Heap} {L : Addr} {news news' : List (Addr × Obj)} (N : News h₀ L h news) (sub : ∀ p ∈ news', p ∈ news) : News h₀ L h news' := fun p hp => N p (sub p hp)
section
variable {prog : Program} {w : World} {A : Around} {E : Value → Shared → Prop} {s : Shared} {h₀ : Heap} {L : Addr} {m : Str → Option Value} {env : Env}
open PyProof.Rows.LCg in
theorem compSame {I C D : Addr} {oI oC oD : Obj} {s₁ : Shared} {S : List (Addr × Obj) → Prop} {rest : Value → List (Addr × Obj) → Prop} {y : Value} {h' : Heap} {tk : Nat} {news : List (Addr × Obj)}
    (F : Fr h₀ L h' m) (N : News h₀ L h' ((I, oI) :: (C, oC) :: (D, oD) :: news)) (off : Off3 I C D news) (hS : S news) (r : rest y news) : CompEnd h₀ L m s₁ I oI C oC D oD S rest y { s₁ with heap := h', toks := tk } :=
  ⟨h', tk, news, rfl, F, N, off, hS, r⟩
end
theorem newsTl {h₀ h : Heap} {L : Addr} {a : Addr × Obj} {l : List (Addr × Obj)} (N : News h₀ L h (a :: l)) : News h₀ L h l := newsSub N fun _ hp => List.mem_cons_of_mem _ hp
theorem r5 : ∀ i, i < 5 → ([.tok fun t => .int 0 t, .tok fun t => .int 1 t, .tok fun t => .int 2 t, .tok fun t => .int 3 t, .tok fun t => .int 4 t] : List Itm)[i]? = some (.tok fun t => .int ((0 : Int) + (i : Int) * 1) t) := by
  intro i hi
  match i, hi with
  | 0, _ => rfl
  | 1, _ => rfl
  | 2, _ => rfl
  | 3, _ => rfl
  | 4, _ => rfl
theorem shape2s {h₀ : Heap} {L : Addr} {h : Heap} {m rest : Str → Option Value} {a b : Str} {va vb : Option Value} (ab : ¬ a = b) (F : Fr h₀ L h (fun z => if z = b then vb else if z = a then va else rest z)) (e : ∀ z, ¬ z = a → ¬ z = b → rest z = m z) :
    Fr h₀ L h (fun z => if z = a then va else if z = b then vb else m z) := by
  refine frEq F (funext fun z => ?_)
  by_cases q1 : z = a
  · rw [if_pos q1, if_pos q1, if_neg (q1 ▸ ab)]
  · rw [if_neg q1, if_neg q1]
    by_cases q2 : z = b
    · rw [if_pos q2, if_pos q2]
    · rw [if_neg q2, if_neg q2]; exact e z q1 q2
noncomputable def nth {α : Type} : List α → Nat → Option α
  | [], _ => none
  | a :: _, 0 => some a
  | _ :: r, i + 1 => nth r i
theorem memAt {α : Type} {p : α} : ∀ {l : List α} (i : Nat), nth l i = some p → p ∈ l
  | [], _, h => nomatch h
  | a :: _, 0, h => by cases h; exact List.Mem.head _
  | _ :: _, i + 1, h => List.Mem.tail _ (memAt i h)
theorem ltAll {d a : Addr} {o : Obj} {l : List (Addr × Obj)} (h : ∀ p ∈ l, p.1 < d) (m : (a, o) ∈ l) : @Ne Nat a d := Nat.ne_of_lt (h _ m)
theorem gtAll {d a : Addr} {o : Obj} {l : List (Addr × Obj)} (h : ∀ p ∈ l, p.1 < d) (m : (a, o) ∈ l) : @Ne Nat d a := Nat.ne_of_gt (h _ m)
theorem gtAllS {d a k : Addr} {o : Obj} {l : List (Addr × Obj)} (h : ∀ p ∈ l, p.1 < d) (m : (a, o) ∈ l) : @Ne Nat (d + k) a := Nat.ne_of_gt (Nat.lt_add_right k (h _ m))
theorem ltAllS {d a k : Addr} {o : Obj} {l : List (Addr × Obj)} (h : ∀ p ∈ l, p.1 < d) (m : (a, o) ∈ l) : @Ne Nat a (d + k) := Nat.ne_of_lt (Nat.lt_add_right k (h _ m))
theorem offAll {d a : Addr} {o : Obj} {l : List (Addr × Obj)} (h : LCg.Off1 d l) (m : (a, o) ∈ l) : @Ne Nat a d := by
  induction l with
  | nil => cases m
  | cons q r ih =>
    rcases List.mem_cons.mp m with rfl | m
    · exact h.1
    · exact ih h.2 m
theorem neAllOf {d : Addr} {l : List (Addr × Obj)} (h : ∀ p ∈ l, p.1 < d) : ∀ p ∈ l, p.1 ≠ d := fun p hp => Nat.ne_of_lt (h p hp)
theorem neAllOff {d : Addr} {l : List (Addr × Obj)} (h : LCg.Off1 d l) : ∀ p ∈ l, p.1 ≠ d := fun _ hp => offAll h hp
theorem ltAllS2 {d a k j : Addr} {o : Obj} {l : List (Addr × Obj)} (h : ∀ p ∈ l, p.1 < d) (m : (a, o) ∈ l) : @Ne Nat a (d + k + j) := Nat.ne_of_lt (Nat.lt_add_right j (Nat.lt_add_right k (h _ m)))
theorem ltAllS3 {d a k j i : Addr} {o : Obj} {l : List (Addr × Obj)} (h : ∀ p ∈ l, p.1 < d) (m : (a, o) ∈ l) : @Ne Nat a (d + k + j + i) := Nat.ne_of_lt (Nat.lt_add_right i (Nat.lt_add_right j (Nat.lt_add_right k (h _ m))))
end Mine
end
section
open PySem PySem.W PyProof.Rows
set_option Elab.async false
set_option maxRecDepth 100000
set_option maxHeartbeats 8000000
namespace Mine
theorem allObjOf : ∀ {ws : List (Addr × String)} {k : List (Addr × Obj) → Prop}, (∀ its, Objs ws its → k its) → AllObj ws k
  | [], _, h => h [] trivial
  | w :: _, _, h => fun o ho => allObjOf fun its hi => h ((w.1, o) :: its) ⟨⟨rfl, ho⟩, hi⟩
theorem objsAddr : ∀ {ws : List (Addr × String)} {its : List (Addr × Obj)}, Objs ws its → ∀ q ∈ its, ∃ v ∈ ws, v.1 = q.1
  | [], [], _, _, hq => nomatch hq
  | w :: _, p :: _, h, q, hq => by
    rcases List.mem_cons.mp hq with rfl | hq
    · exact ⟨w, List.mem_cons_self, h.1.1.symm⟩
    · obtain ⟨v, hv, e⟩ := objsAddr h.2 q hq
      exact ⟨v, List.mem_cons_of_mem _ hv, e⟩
  | [], _ :: _, h, _, _ => (show False from h).elim
theorem updApp {d : Addr} {o : Obj} {l : List (Addr × Obj)} {g : Obj → List (Addr × Obj)} (U : UpdF d o l g) : ∀ {its : List (Addr × Obj)}, (∀ q ∈ its, q.1 ≠ d) → UpdF d o (its ++ l) (fun o => its ++ g o)
  | [], _ => U
  | q :: _, h => UpdF.tail (h q List.mem_cons_self) (updApp U fun q' hq => h q' (List.mem_cons_of_mem _ hq))
theorem updAgain {d : Addr} {o : Obj} {l : List (Addr × Obj)} {g : Obj → List (Addr × Obj)} (U : UpdF d o l g) (o' : Obj) : UpdF d o' (g o') g := by
  induction U with
  | head h => exact UpdF.head h
  | tail h _ ih => exact UpdF.tail h ih
theorem updOther {d : Addr} {o : Obj} {l : List (Addr × Obj)} {g : Obj → List (Addr × Obj)} (U : UpdF d o l g) (o' : Obj) : ∀ p ∈ l, p.1 ≠ d → p ∈ g o' := by
  induction U with
  | head h =>
    intro p hp hd
    rcases List.mem_cons.mp hp with rfl | hp
    · exact absurd rfl hd
    · exact List.mem_cons_of_mem _ hp
  | tail h _ ih =>
    intro p hp hd
    rcases List.mem_cons.mp hp with rfl | hp
    · exact List.mem_cons_self
    · exact List.mem_cons_of_mem _ (ih p hp hd)
theorem updKeep {d : Addr} {o : Obj} {l : List (Addr × Obj)} {g : Obj → List (Addr × Obj)} (U : UpdF d o l g) (o' : Obj) : ∀ {keep : List (Addr × Obj)}, SubL keep l → (∀ p ∈ keep, p.1 ≠ d) → SubL keep (g o')
  | [], _, _ => trivial
  | p :: _, k, h => ⟨updOther U o' p k.1 (h p List.mem_cons_self), updKeep U o' k.2 fun q hq => h q (List.mem_cons_of_mem _ hq)⟩
noncomputable def OffA (ws : List (Addr × String)) (l : List (Addr × Obj)) : Prop := ∀ p ∈ l, ∀ q ∈ ws, @Ne Nat p.1 q.1
theorem updOff {d : Addr} {o : Obj} {l : List (Addr × Obj)} {g : Obj → List (Addr × Obj)} {ws : List (Addr × String)} (U : UpdF d o l g) (o' : Obj) (h : OffA ws l) : OffA ws (g o') := fun p hp q hq => by
  obtain ⟨p', hp', e⟩ := updAddr U p hp
  exact e ▸ h p' hp' q hq
noncomputable def LeW (I : Nat) : List (Addr × String) → Prop
  | [] => True
  | q :: r => @LE.le Nat _ I q.1 ∧ LeW I r
theorem LeW.at {I : Nat} : ∀ {ws : List (Addr × String)}, LeW I ws → ∀ q ∈ ws, @LE.le Nat _ I q.1
  | _ :: _, h, q, hq => by
    rcases List.mem_cons.mp hq with rfl | hq
    · exact h.1
    · exact LeW.at h.2 q hq
theorem offOf {I : Addr} {l : List (Addr × Obj)} {ws : List (Addr × String)} (h : ∀ p ∈ l, p.1 < I) (hw : LeW I ws) : OffA ws l := fun p hp q hq => Nat.ne_of_lt (Nat.lt_of_lt_of_le (h p hp) (hw.at q hq))
theorem turnStart {P : Prop} {d : Addr} {o : Obj} {l : List (Addr × Obj)} {g : Obj → List (Addr × Obj)} {ws : List (Addr × String)} {keep : List (Addr × Obj)} (U : UpdF d o l g) (K : SubL keep l) (D : ∀ p ∈ keep, p.1 ≠ d) (O : OffA ws l)
    (h : UpdF d o l g → SubL keep l → (∀ p ∈ keep, p.1 ≠ d) → OffA ws l → P) : P := h U K D O
theorem pair_turn {prog : Program} {w : World} {A : Around} {E : Value → Shared → Prop} {h₀ : Heap} {cn : Str} {cs : Scope} {L a : Addr} {ccd : Value} {cl : List (Str × Addr)} {x1 x2 : Str} {kk : Nat} {pos p1 p2 : Pos} {body : List Stmt}
    {Q : Flow → Shared → Prop} {s : Shared} {ws : List (Addr × String)} {keep : List (Addr × Obj)} {f : Tok → Value} {x : Value} {r : List Itm} {m : Str → Option Value} {news : List (Addr × Obj)} {env : Env} {d : Addr} {o : Obj} {g : Obj → List (Addr × Obj)}
    (he : env = envX cn cs L a ccd cl) (hh : A.handled = none) (hk : cs.kind = .function) (hx1 : (envX cn cs L a ccd cl).kindOf x1 = some .local) (hx2 : (envX cn cs L a ccd cl).kindOf x2 = some .local)
    (U : UpdF d o news g) (K : SubL keep news) (D : ∀ p ∈ keep, p.1 ≠ d) (O : OffA ws news)
    (step : ∀ its h tk t, Fr h₀ L h (fun y => if y = x2 then some x else if y = x1 then some (f t) else m y) → News h₀ L h (its ++ news) → UpdF d o (its ++ news) (fun o => its ++ g o) →
      ∀ Q1 : Flow → Shared → Prop, (∀ h' tk' m' o', Fr h₀ L h' m' → News h₀ L h' (its ++ g o') → ItemsRest prog w A E h₀ env (.Tuple [.Name x1 p1, .Name x2 p2] kk pos) body Q s ws keep r m' (g o') → Q1 .next { s with heap := h', toks := tk' }) →
        wpAny (model prog w) A (execs body env) Q1 E { s with heap := h, toks := tk }) :
    ItemsRest prog w A E h₀ env (.Tuple [.Name x1 p1, .Name x2 p2] kk pos) body Q s ws keep (.pair f x :: r) m news := by
  subst he
  refine ItemsRest.pair fun T t h tk hT F => allObjOf fun its hi N => ?_
  have oI : ∀ p ∈ its, p.1 ≠ d := fun q hq => by
    obtain ⟨v, hv, e⟩ := objsAddr hi q hq
    exact e ▸ Ne.symm (O _ (updMem U) v hv)
  refine unpackN_ F N hT hh rfl rfl fun h1 F1 N1 => ?_
  refine assignInOrder_cons (assign_Name (storeX_L F1 N1 (fun h2 F2 N2 => ?_) hk hx1))
  refine assignInOrder_cons (assign_Name (storeX_L F2 N2 (fun h3 F3 N3 => ?_) hk hx2))
  refine assignInOrder_nil ?_
  refine step its h3 _ t F3 N3 (updApp U oI) _ (fun h' tk' m' o' F' N' R => ?_)
  refine unrAt F' N' (fun p hp q hq => ?_) ⟨updKeep U o' K D, R⟩
  obtain ⟨v, hv, e⟩ := objsAddr hi q hq
  exact e ▸ updOff U o' O p hp v hv
theorem startM {prog : Program} {w : World} {A : Around} {E : Value → Shared → Prop} {h₀ : Heap} {env : Env} {target : PySem.Expr} {body : List Stmt} {Q : Flow → Shared → Prop} {s : Shared} {ws : List (Addr × String)} {keep : List (Addr × Obj)}
    {r : List Itm} {m : Str → Option Value} {news : List (Addr × Obj)} {d : Addr} {o : Obj} {g : Obj → List (Addr × Obj)} (nm : Str) (_ : m nm = some (.ref d)) (U : UpdF d o news g) (K : SubL keep news) (D : ∀ p ∈ keep, p.1 ≠ d) (O : OffA ws news)
    (h : UpdF d o news g → SubL keep news → (∀ p ∈ keep, p.1 ≠ d) → OffA ws news → ItemsRest prog w A E h₀ env target body Q s ws keep r m news) : ItemsRest prog w A E h₀ env target body Q s ws keep r m news := h U K D O
theorem startC {prog : Program} {w : World} {A : Around} {E : Value → Shared → Prop} {h₀ : Heap} {env : Env} {target : PySem.Expr} {body : List Stmt} {Q : Flow → Shared → Prop} {s : Shared} {ws : List (Addr × String)} {keep : List (Addr × Obj)}
    {r : List Itm} {m : Str → Option Value} {news : List (Addr × Obj)} {d : Addr} {o oc : Obj} {g : Obj → List (Addr × Obj)} (c : Addr) (_ : (c, oc) ∈ news) (_ : oc.data = .cell (some (.ref d))) (U : UpdF d o news g) (K : SubL keep news) (D : ∀ p ∈ keep, p.1 ≠ d) (O : OffA ws news)
    (h : UpdF d o news g → SubL keep news → (∀ p ∈ keep, p.1 ≠ d) → OffA ws news → ItemsRest prog w A E h₀ env target body Q s ws keep r m news) : ItemsRest prog w A E h₀ env target body Q s ws keep r m news := h U K D O
end Mine
end
section
open PySem PySem.W PyProof.Rows
set_option Elab.async false
set_option maxRecDepth 100000
namespace Mine
theorem due5_of {n0 n1 n2 n3 n4 n5 n6 n7 s0 s1 s2 s3 s4 j0 j1 j2 e0 e1 e2 e3 e4 z0 z1 z2 z3 z4 W v0 v1 v2 v3 v4 x00 x10 x11 x20 x21 x22 x30 x31 x32 x33 x40 x41 x42 x43 x44 M0 M1 M2 M3 M4 : Int}
    (h0 : Eqv j0 (if (n0.fmod 19 == 16) = true then 46 else if (n0.fmod 19 == 18) = true then 52 else 7 + n0.fmod 19))
    (h1 : Eqv j1 (if (n1.fmod 19 == 16) = true then 46 else if (n1.fmod 19 == 18) = true then 52 else 7 + n1.fmod 19))
    (h2 : Eqv j2 (if (n2.fmod 19 == 16) = true then 46 else if (n2.fmod 19 == 18) = true then 52 else 7 + n2.fmod 19))
    (h3 : Eqv e0 (if decide (0 < n3.fmod 5) = true then 1 else 0))
    (h4 : Eqv z0 (s0 * (n3.fmod 5 + e0 + (n3.fdiv 5).fmod 5 + 2)))
    (h5 : Eqv e1 (if decide (0 < n4.fmod 5) = true then 1 else 0))
    (h6 : Eqv z1 (s1 * (n4.fmod 5 + e1 + (n4.fdiv 5).fmod 5 + 2)))
    (h7 : Eqv e2 (if decide (0 < n5.fmod 5) = true then 1 else 0))
    (h8 : Eqv z2 (s2 * (n5.fmod 5 + e2 + (n5.fdiv 5).fmod 5 + 2)))
    (h9 : Eqv e3 (if decide (0 < n6.fmod 5) = true then 1 else 0))
    (h10 : Eqv z3 (s3 * (n6.fmod 5 + e3 + (n6.fdiv 5).fmod 5 + 2)))
    (h11 : Eqv e4 (if decide (0 < n7.fmod 5) = true then 1 else 0))
    (h12 : Eqv z4 (s4 * (n7.fmod 5 + e4 + (n7.fdiv 5).fmod 5 + 2)))
    (h13 : W ∈ [j0, j1, j2])
    (h14 : (∀ a : Int, a ∈ [j0, j1, j2] → a ≤ W))
    (h15 : Eqv v0 [j0, j1, j2].sum)
    (h16 : M0 ∈ [0 + z0 + x00])
    (h17 : (∀ a : Int, a ∈ [0 + z0 + x00] → a ≤ M0))
    (h18 : Eqv x00 ((0 - (0 + (((0 : Nat)) : Int))) * W))
    (h19 : Eqv v1 [j0, j1, j2].sum)
    (h20 : M1 ∈ [0 + z0 + x10, 0 + z0 + z1 + x11])
    (h21 : (∀ a : Int, a ∈ [0 + z0 + x10, 0 + z0 + z1 + x11] → a ≤ M1))
    (h22 : Eqv x10 ((1 - (0 + (((0 : Nat)) : Int))) * W))
    (h23 : Eqv x11 ((1 - (0 + (((0 + 1 : Nat)) : Int))) * W))
    (h24 : Eqv v2 [j0, j1, j2].sum)
    (h25 : M2 ∈ [0 + z0 + x20, 0 + z0 + z1 + x21, 0 + z0 + z1 + z2 + x22])
    (h26 : (∀ a : Int, a ∈ [0 + z0 + x20, 0 + z0 + z1 + x21, 0 + z0 + z1 + z2 + x22] → a ≤ M2))
    (h27 : Eqv x20 ((2 - (0 + (((0 : Nat)) : Int))) * W))
    (h28 : Eqv x21 ((2 - (0 + (((0 + 1 : Nat)) : Int))) * W))
    (h29 : Eqv x22 ((2 - (0 + (((0 + 1 + 1 : Nat)) : Int))) * W))
    (h30 : Eqv v3 [j0, j1, j2].sum)
    (h31 : M3 ∈ [0 + z0 + x30, 0 + z0 + z1 + x31, 0 + z0 + z1 + z2 + x32, 0 + z0 + z1 + z2 + z3 + x33])
    (h32 : (∀ a : Int, a ∈ [0 + z0 + x30, 0 + z0 + z1 + x31, 0 + z0 + z1 + z2 + x32, 0 + z0 + z1 + z2 + z3 + x33] → a ≤ M3))
    (h33 : Eqv x30 ((3 - (0 + (((0 : Nat)) : Int))) * W))
    (h34 : Eqv x31 ((3 - (0 + (((0 + 1 : Nat)) : Int))) * W))
    (h35 : Eqv x32 ((3 - (0 + (((0 + 1 + 1 : Nat)) : Int))) * W))
    (h36 : Eqv x33 ((3 - (0 + (((0 + 1 + 1 + 1 : Nat)) : Int))) * W))
    (h37 : Eqv v4 [j0, j1, j2].sum)
    (h38 : M4 ∈ [0 + z0 + x40, 0 + z0 + z1 + x41, 0 + z0 + z1 + z2 + x42, 0 + z0 + z1 + z2 + z3 + x43, 0 + z0 + z1 + z2 + z3 + z4 + x44])
    (h39 : (∀ a : Int, a ∈ [0 + z0 + x40, 0 + z0 + z1 + x41, 0 + z0 + z1 + z2 + x42, 0 + z0 + z1 + z2 + z3 + x43, 0 + z0 + z1 + z2 + z3 + z4 + x44] → a ≤ M4))
    (h40 : Eqv x40 ((4 - (0 + (((0 : Nat)) : Int))) * W))
    (h41 : Eqv x41 ((4 - (0 + (((0 + 1 : Nat)) : Int))) * W))
    (h42 : Eqv x42 ((4 - (0 + (((0 + 1 + 1 : Nat)) : Int))) * W))
    (h43 : Eqv x43 ((4 - (0 + (((0 + 1 + 1 + 1 : Nat)) : Int))) * W))
    (h44 : Eqv x44 ((4 - (0 + (((0 + 1 + 1 + 1 + 1 : Nat)) : Int))) * W))
    : Due5 n0 n1 n2 n3 n4 n5 n6 n7 s0 s1 s2 s3 s4 (v0 + M0) (v1 + M1) (v2 + M2) (v3 + M3) (v4 + M4) := by
  have k0 := wk_is h0
  have k1 := wk_is h1
  have k2 := wk_is h2
  exact ⟨⟨W, 0 + z0, 0 + z0 + z1, 0 + z0 + z1 + z2, 0 + z0 + z1 + z2 + z3, 0 + z0 + z1 + z2 + z3 + z4, line3 k0 k1 k2 h13 h14, (Int.zero_add _).trans (rz_is h3 h4), congrArg (fun z => 0 + z0 + z) (rz_is h5 h6), congrArg (fun z => 0 + z0 + z1 + z) (rz_is h7 h8), congrArg (fun z => 0 + z0 + z1 + z2 + z) (rz_is h9 h10), congrArg (fun z => 0 + z0 + z1 + z2 + z3 + z) (rz_is h11 h12), day_is (sum3 h15 k0 k1 k2) (top_is h16 h17 (by rw [h18.h]; rfl)), day_is (sum3 h19 k0 k1 k2) (top_is h20 h21 (by rw [h22.h, h23.h]; rfl)), day_is (sum3 h24 k0 k1 k2) (top_is h25 h26 (by rw [h27.h, h28.h, h29.h]; rfl)), day_is (sum3 h30 k0 k1 k2) (top_is h31 h32 (by rw [h33.h, h34.h, h35.h, h36.h]; rfl)), day_is (sum3 h37 k0 k1 k2) (top_is h38 h39 (by rw [h40.h, h41.h, h42.h, h43.h, h44.h]; rfl))⟩⟩
theorem runs5_of {c0 c1 c2 c3 c4 w0 w1 w2 r0 r1 a0 b0 p1 a1 q1 b1 m1 p2 a2 q2 b2 m2 p3 a3 q3 b3 m3 p4 a4 q4 b4 m4 : Int}
    (h0 : Eqv a0 (if r0 = 0 then c0 + w0 else if r0 = 1 then c0 + w0 else c0 + w0))
    (h1 : Eqv b0 (if r1 = 0 then a0 + w1 else if r1 = 1 then a0 + w1 else a0 + w1))
    (h2 : Eqv p1 (max c1 a0))
    (h3 : Eqv a1 (if r0 = 0 then max (p1 + w0) b0 else if r0 = 1 then p1 + w0 else p1 + w0))
    (h4 : Eqv q1 (max a1 b0))
    (h5 : Eqv b1 (if r1 = 0 then max (q1 + w1) (b0 + w2) else if r1 = 1 then q1 + w1 else q1 + w1))
    (h6 : Eqv m1 (max b1 (b0 + w2)))
    (h7 : Eqv p2 (max c2 a1))
    (h8 : Eqv a2 (if r0 = 0 then max (p2 + w0) b1 else if r0 = 1 then max (p2 + w0) b0 else p2 + w0))
    (h9 : Eqv q2 (max a2 b1))
    (h10 : Eqv b2 (if r1 = 0 then max (q2 + w1) (m1 + w2) else if r1 = 1 then max (q2 + w1) (b0 + w2) else q2 + w1))
    (h11 : Eqv m2 (max b2 (m1 + w2)))
    (h12 : Eqv p3 (max c3 a2))
    (h13 : Eqv a3 (if r0 = 0 then max (p3 + w0) b2 else if r0 = 1 then max (p3 + w0) b1 else max (p3 + w0) b0))
    (h14 : Eqv q3 (max a3 b2))
    (h15 : Eqv b3 (if r1 = 0 then max (q3 + w1) (m2 + w2) else if r1 = 1 then max (q3 + w1) (m1 + w2) else max (q3 + w1) (b0 + w2)))
    (h16 : Eqv m3 (max b3 (m2 + w2)))
    (h17 : Eqv p4 (max c4 a3))
    (h18 : Eqv a4 (if r0 = 0 then max (p4 + w0) b3 else if r0 = 1 then max (p4 + w0) b2 else max (p4 + w0) b1))
    (h19 : Eqv q4 (max a4 b3))
    (h20 : Eqv b4 (if r1 = 0 then max (q4 + w1) (m3 + w2) else if r1 = 1 then max (q4 + w1) (m2 + w2) else max (q4 + w1) (m1 + w2)))
    (h21 : Eqv m4 (max b4 (m3 + w2)))
    : Runs5 c0 c1 c2 c3 c4 w0 w1 w2 (b0 + w2) (m1 + w2) (m2 + w2) (m3 + w2) (m4 + w2) :=
  ⟨fun W L => by
  have R0 : RowOk W w0 w1 w2 (topM W c0 []) a0 b0 (b0 + w2) := row0 (ite3_same h0) (ite3_same h1) rfl
  have u1 := up_late L (c := c1) (M := topM W c0 [])
  have R1 : RowOk W w0 w1 w2 (topM W c1 [c0]) a1 b1 (m1 + w2) :=
    rowS (x := topM W c0 [] + w0 + w1) (y := topM W c0 [] + w0 + w1 + w2) L rfl R0 h2.h h4.h h6.h (Int.le_refl _) (Int.le_refl _)
      (Bk.ite h3 (.mx (R0.b_le (Int.le_refl _))) .same .same) (Bk.ite h5 (.mx (R0.d_le (Int.le_refl _))) .same .same) rfl
  have u2 := up_late L (c := c2) (M := topM W c1 [c0])
  have R2 : RowOk W w0 w1 w2 (topM W c2 [c1, c0]) a2 b2 (m2 + w2) :=
    rowS (x := topM W c1 [c0] + w0 + w1) (y := topM W c1 [c0] + w0 + w1 + w2) L rfl R1 h7.h h9.h h11.h (Int.le_refl _) (Int.le_refl _)
      (Bk.ite h8 (.mx (R1.b_le (Int.le_refl _))) (.mx (R0.b_le u1)) .same) (Bk.ite h10 (.mx (R1.d_le (Int.le_refl _))) (.mx (R0.d_le u1)) .same) rfl
  have u3 := up_late L (c := c3) (M := topM W c2 [c1, c0])
  have R3 : RowOk W w0 w1 w2 (topM W c3 [c2, c1, c0]) a3 b3 (m3 + w2) :=
    rowS (x := topM W c2 [c1, c0] + w0 + w1) (y := topM W c2 [c1, c0] + w0 + w1 + w2) L rfl R2 h12.h h14.h h16.h (Int.le_refl _) (Int.le_refl _)
      (Bk.ite h13 (.mx (R2.b_le (Int.le_refl _))) (.mx (R1.b_le u2)) (.mx (R0.b_le (Int.le_trans u1 u2)))) (Bk.ite h15 (.mx (R2.d_le (Int.le_refl _))) (.mx (R1.d_le u2)) (.mx (R0.d_le (Int.le_trans u1 u2)))) rfl
  have R4 : RowOk W w0 w1 w2 (topM W c4 [c3, c2, c1, c0]) a4 b4 (m4 + w2) :=
    rowS (x := topM W c3 [c2, c1, c0] + w0 + w1) (y := topM W c3 [c2, c1, c0] + w0 + w1 + w2) L rfl R3 h17.h h19.h h21.h (Int.le_refl _) (Int.le_refl _)
      (Bk.ite h18 (.mx (R3.b_le (Int.le_refl _))) (.mx (R2.b_le u3)) (.mx (R1.b_le (Int.le_trans u2 u3)))) (Bk.ite h20 (.mx (R3.d_le (Int.le_refl _))) (.mx (R2.d_le u3)) (.mx (R1.d_le (Int.le_trans u2 u3)))) rfl
  exact ⟨R0.day, R1.day, R2.day, R3.day, R4.day⟩⟩
end Mine
end
section
open PySem
set_option Elab.async false
namespace Mine
open Sem (wp)
section
variable {prog : Program} {w : World} {A : Around} {E : Value → Shared → Prop} {s : Shared}

theorem nextOf_range_item {it : Addr} {x left step : Int} {Q : Value → Shared → Prop} (hit : IsRangeIter s.heap it x left step) (hleft : 0 < left)
    (hQ : ∀ h', IsRangeIter h' it (x + step) (left - 1) step → Heap.SameBut it s.heap h' → Q (.int x s.toks) { s with heap := h', toks := s.toks + 1 }) :
    wpAny (model prog w) A (Builtin.SmallTypes.nextOf (.ref it)) Q E s := by
  have hT : s.TypeIs (.ref it) "range_iterator" := ⟨_, hit, rfl⟩
  unfold Builtin.SmallTypes.nextOf
  refine wpAny_bind (wpAny_callSpecial?_slot (name := Str.ofString "__next__") hT F.slot_range_iterator_next
    (call_meets F.slot_range_iterator_next hT F.entry_range_iterator_next (F.args_range_iterator_next_1 _) (AutoRange.range_iterator___next___range_iterator_1 it x left step (by omega)) ⟨hit, ?_⟩))
  exact wpAny_pure (hQ _ (Heap.get?_update_self _ (Heap.get?_update_self _ hit rfl) rfl) ((Heap.SameBut.update ..).trans (Heap.SameBut.update ..)))

theorem nextOf_range_end {it : Addr} {x left step : Int} {Q : Value → Shared → Prop} (hh : A.handled = none) (hit : IsRangeIter s.heap it x left step) (hleft : left ≤ 0)
    (hE : ∀ h' e, Heap.ExtBut it s.heap h' → (∃ o, h'.get? e = some o ∧ o.cls = .type "StopIteration") → E (.ref e) { s with heap := h' }) :
    wpAny (model prog w) A (Builtin.SmallTypes.nextOf (.ref it)) Q E s := by
  have hT : s.TypeIs (.ref it) "range_iterator" := ⟨_, hit, rfl⟩
  unfold Builtin.SmallTypes.nextOf
  refine wpAny_bind (wpAny_callSpecial?_slot (name := Str.ofString "__next__") hT F.slot_range_iterator_next
    (wpAny_call_entry F.slot_range_iterator_next hT F.entry_range_iterator_next ?_ (F.args_range_iterator_next_1 _)))
  show wpAny _ _ (field (.ref it) 0 >>= _) _ _ s
  refine wpAny_bind (wpAny_field hit rfl (x := rawInt x) rfl ?_)
  show wpAny _ _ (field (.ref it) 1 >>= _) _ _ s
  refine wpAny_bind (wpAny_field hit rfl (x := rawInt left) rfl ?_)
  show wpAny _ _ (field (.ref it) 2 >>= _) _ _ s
  refine wpAny_bind (wpAny_field hit rfl (x := rawInt step) rfl ?_)
  show wpAny _ _ (if left ≤ 0 then _ else _) _ _ s
  rw [if_pos hleft]
  refine wpAny_bind (wpAny_rule ?_)
  refine wpAny_bind ?_
  show wpAny _ _ (newExc (.type "StopIteration") [] >>= _) _ _ _
  refine wpAny_bind ?_
  simp only [newExc, newTuple]
  refine wpAny_bind (wpAny_newObj_type ?_ (by size_fits))
  refine wpAny_bind (m := firstArgMember _ _) (wpAny_of_eq (a := Value.none) (by first | rfl | (simp only [firstArgMember]; rfl)) ?_)
  refine wpAny_newObj_type ?_ (by size_fits)
  simp only [raiseNew]
  refine wpAny_bind (wpAny_handled ?_)
  first | rw [show A.in1.handled = none from hh] | rw [hh]
  refine wpAny_bind (wpAny_pure (wpAny_throw ?_))
  exact hE _ _ (((Heap.ExtBut.refl it s.heap).push _).push _) ⟨_, Heap.get?_push_size _ rfl, rfl⟩

theorem nextOf_gen {a : Addr} {g n : Nat} {gs : GenState} {P : Nat → Shared → Shared → Prop} {Y : Protocol} {Q : Value → Shared → Prop} (hh : A.handled = none)
    (hl : s.heap.NoLimit) (hroom : A.depth < recursionLimit)
    (hg : s.heap.IsGen a g) (hgs : s.gens[g]? = some gs)
    (hgo : gs.Goes (model prog w) A.in1 (fun n s₀ r s₁ => r = .ok (.ret .none) ∧ P n s₀ s₁) Y n (.send .none) (s.setGen g .running))
    (hY : ∀ v s₁ gs', gs'.bare = true → Y (n - 1) (s.setGen g .running) v s₁ (fun r' s'' => match n with
        | 0 => False
        | m + 1 => gs'.Goes (model prog w) A.in1 (fun n s₀ r s₁ => r = .ok (.ret .none) ∧ P n s₀ s₁) Y m r' s'') → Q v (s₁.setGen g gs'))
    (hP : ∀ s₁, P n (s.setGen g .running) s₁ → ∀ h' e, (∀ b o, s₁.heap.get? b = some o → h'.get? b = some o) → (∃ o, h'.get? e = some o ∧ o.cls = .type "StopIteration") → E (.ref e) { s₁.setGen g .finished with heap := h' }) :
    wpAny (model prog w) A (Builtin.SmallTypes.nextOf (.ref a)) Q E s := by
  unfold Builtin.SmallTypes.nextOf
  refine wpAny_bind (wpAny_callSpecial?_slot (name := Str.ofString "__next__") hg.typeIs slot_gen_next
    (wpAny_call_entry slot_gen_next hg.typeIs entry_gen_next ?_ (args_gen_next _)))
  show wpAny _ _ (Builtin.Generator.genWake (.ref a) (.send .none)) _ _ s
  unfold Builtin.Generator.genWake
  refine wpAny_bind (wpAny_holding (wpAny_genNumber hg (wpAny_bind (wpAny_genState hgs ?_))))
  cases gs with
  | running => exact hgo.elim
  | finished => exact hgo.elim
  | _ =>
    refine wpAny_bind (wpAny_roomToWake hl hroom ?_)
    show wpAny _ _ (.resume g (.send .none) [] _) _ _ s
    refine wpAny_resumeQ hgs hgo (fun x s₁ hx => ?_) (fun v s₁ gs' hb hv => ?_)
    · obtain ⟨rfl, hp⟩ := hx
      show wpAny _ _ (newExc (.type "StopIteration") [] >>= _) _ _ _
      refine wpAny_bind ?_
      simp only [newExc, newTuple]
      refine wpAny_bind (wpAny_newObj_type ?_ (by size_fits))
      refine wpAny_bind (m := firstArgMember _ _) (wpAny_of_eq (a := Value.none) (by first | rfl | (simp only [firstArgMember]; rfl)) ?_)
      refine wpAny_newObj_type ?_ (by size_fits)
      simp only [raiseNew]
      refine wpAny_bind (wpAny_bind (wpAny_handled ?_))
      rw [show A.in1.handled = none from hh]
      refine wpAny_throw ?_
      exact hP s₁ hp _ _ (fun b o hb => Heap.get?_push_of_some _ (Heap.get?_push_of_some _ hb)) ⟨_, Heap.get?_push_size _ rfl, rfl⟩
    · exact wpAny_pure ⟨v, rfl, wpAny_pure (hY v s₁ gs' hb hv)⟩
end
end Mine
end
section
open PySem
set_option Elab.async false
namespace Mine
open Sem (wp)

noncomputable def zr1 (h : Heap) : Heap := h.push { cls := .type "range_iterator", data := .fields #[rawInt 0, rawInt (Builtin.Range.rangeSize 0 5 1), rawInt 1] }
noncomputable def zr2 (h : Heap) (ga : Addr) : Heap := (zr1 h).push { cls := .type "tuple", data := .seq #[.ref h.objs.size, .ref ga] }
noncomputable def zr3 (h : Heap) (ga : Addr) : Heap := (zr2 h ga).push { cls := .type "tuple", data := .seq #[.none, .none] }
noncomputable def zr4 (h : Heap) (ga : Addr) : Heap := (zr3 h ga).push { cls := .type "zip", data := .fields #[.none, .bool false, .bool false, .ref (zr1 h).objs.size, .ref (zr2 h ga).objs.size] }

theorem small5 : Builtin.Range.small 0 5 1 = true := by decide +kernel
theorem size5 : Builtin.Range.rangeSize 0 5 1 = 5 := by decide +kernel

theorem meets_zip_rg (r ga : Addr) (t u v : Tok) (g : Nat) :
    Meets (Builtin.«zip.__new__» ⟨[.type "zip", .ref r, .ref ga], []⟩) (fun _ R s => IsRange s.heap r 0 5 1 t u v ∧ s.heap.IsGen ga g ∧
      R (.ok (.ret (.ref (zr3 s.heap ga).objs.size))) { s with heap := zr4 s.heap ga }) :=
  .of_wp fun prog w A R s h => by
    obtain ⟨hp, g', d, tk, os⟩ := s; obtain ⟨hl1, hl2, h⟩ := h
    have hsub := sub_zip
    have hL2 : Heap.IsGen (Shared.heap ⟨hp.push { cls := .type "range_iterator", data := .fields #[rawInt 0, rawInt (Builtin.Range.rangeSize 0 5 1), rawInt 1] }, g', d, tk, os⟩) ga g := Heap.IsGen.push hl2 _
    have hL1 : IsRange (Shared.heap ⟨hp, g', d, tk, os⟩) r 0 5 1 t u v := hl1
    have s5 := small5
    wp_walk using wpAny_pyIter_range hL1 small5, wpAny_pyIter_gen hL2
    exact ⟨_, rfl, h⟩

section
variable {prog : Program} {w : World} {A : Around} {E : Value → Shared → Prop} {s : Shared}

theorem call_zip_rg {r ga : Addr} {t u v : Tok} {g : Nat} {Q : Value → Shared → Prop} (hl1 : IsRange s.heap r 0 5 1 t u v) (hl2 : s.heap.IsGen ga g)
    (h : ∀ h', IsZip h' (s.heap.objs.size + 3) (s.heap.objs.size + 1) (s.heap.objs.size + 2) .none → IsPair h' (s.heap.objs.size + 1) (.ref s.heap.objs.size) (.ref ga) →
      IsPair h' (s.heap.objs.size + 2) .none .none → IsRangeIter h' s.heap.objs.size 0 5 1 → h'.objs.size = s.heap.objs.size + 4 →
      (∀ c o, s.heap.get? c = some o → h'.get? c = some o) → Q (.ref (s.heap.objs.size + 3)) { s with heap := h' }) :
    wpAny (model prog w) A (call (.type "zip") [.ref r, .ref ga]) Q E s := by
  refine callType_new F.called_zip (by decide) (F.typeCall_zip_2 _ _) (F.newCall_zip_2 _ _) (fun obj => F.args_object_init_3 obj _ _) F.entry_zip_new
    (meets_zip_rg r ga t u v g) ⟨hl1, hl2, ?_⟩
  have z1 : (zr1 s.heap).objs.size = s.heap.objs.size + 1 := Heap.size_push ..
  have z2 : (zr2 s.heap ga).objs.size = s.heap.objs.size + 2 := by unfold zr2; rw [Heap.size_push, z1]
  have z3 : (zr3 s.heap ga).objs.size = s.heap.objs.size + 3 := by unfold zr3; rw [Heap.size_push, z2]
  have z4 : (zr4 s.heap ga).objs.size = s.heap.objs.size + 4 := by unfold zr4; rw [Heap.size_push, z3]
  have g4 : (zr4 s.heap ga).get? (zr3 s.heap ga).objs.size = some _ := Heap.get?_push_size _ rfl
  have g3 : (zr4 s.heap ga).get? (zr2 s.heap ga).objs.size = some _ := Heap.get?_push_of_some _ (Heap.get?_push_size _ rfl)
  have g2 : (zr4 s.heap ga).get? (zr1 s.heap).objs.size = some _ := Heap.get?_push_of_some _ (Heap.get?_push_of_some _ (Heap.get?_push_size _ rfl))
  have g1 : (zr4 s.heap ga).get? s.heap.objs.size = some _ := Heap.get?_push_of_some _ (Heap.get?_push_of_some _ (Heap.get?_push_of_some _ (Heap.get?_push_size _ rfl)))
  show _ ∧ _
  rw [z1, z2, z3] at g4
  rw [z2] at g3
  rw [z1] at g2
  rw [size5] at g1
  rw [z3]
  exact ⟨⟨_, g4, rfl⟩, h _ g4 g2 g3 g1 z4 fun c o x =>
    Heap.get?_push_of_some _ (Heap.get?_push_of_some _ (Heap.get?_push_of_some _ (Heap.get?_push_of_some _ x)))⟩
end
end Mine
end
section
open PySem
set_option Elab.async false
namespace Mine
open Sem (wp)
section
variable {prog : Program} {w : World} {A : Around} {E : Value → Shared → Prop} {s : Shared}

theorem neAdd {B i j : Nat} (h : i ≠ j) : B + i ≠ B + j := fun e => h (Nat.add_left_cancel e)
theorem neAdd0 {B j : Nat} (h : 0 ≠ j) : B ≠ B + j := fun e => h (Nat.add_left_cancel (n := B) e)
theorem zipn_item {B ga : Nat} {k : Int} {a b : Value} {G : Value → Shared → Prop} {Q : Value → Shared → Prop}
    (hz : IsZip s.heap (B + 3) (B + 1) (B + 2) .none) (hTI : IsPair s.heap (B + 1) (.ref B) (.ref ga)) (hTO : IsPair s.heap (B + 2) a b)
    (h1 : IsRangeIter s.heap B k (5 - k) 1) (hk : k < 5)
    (hgen : ∀ h₁ (Q' E' : Value → Shared → Prop), (∀ c o, c ≠ B → c ≠ B + 2 → c ≠ B + 3 → s.heap.get? c = some o → h₁.get? c = some o) →
      (∀ y s₂, G y s₂ → (∀ c o, (c = B ∨ c = B + 1 ∨ c = B + 2 ∨ c = B + 3) → h₁.get? c = some o → s₂.heap.get? c = some o) → Q' y s₂) →
      wpAny (model prog w) A (Builtin.SmallTypes.nextOf (.ref ga)) Q' E' { s with heap := h₁, toks := s.toks + 1 })
    (hQ : ∀ y s₂ h' (T : Addr), G y s₂ → IsZip h' (B + 3) (B + 1) (B + 2) (rawInt T) → IsPair h' (B + 1) (.ref B) (.ref ga) → IsPair h' (B + 2) (.int k s.toks) y →
      IsRangeIter h' B (k + 1) (5 - (k + 1)) 1 → IsPair h' T (.int k s.toks) y → s₂.heap.get? T = none → T = s₂.heap.objs.size → h'.objs.size = s₂.heap.objs.size + 1 →
      (∀ c o, c ≠ B + 2 → c ≠ B + 3 → s₂.heap.get? c = some o → h'.get? c = some o) → Q (.ref T) { s₂ with heap := h' }) :
    wpAny (model prog w) A (Builtin.«zip.__next__» ⟨[.ref (B + 3)], []⟩) (fun fin s' => ∃ v, fin = .done (.ret v) ∧ Q v s') E s := by
  have n03 : @Ne Nat (B) (B + 3) := neAdd0 (by decide)
  have n02 : @Ne Nat (B) (B + 2) := neAdd0 (by decide)
  have n01 : @Ne Nat (B) (B + 1) := neAdd0 (by decide)
  have n12 : @Ne Nat (B + 1) (B + 2) := neAdd (by decide)
  have n13 : @Ne Nat (B + 1) (B + 3) := neAdd (by decide)
  have n23 : @Ne Nat (B + 2) (B + 3) := neAdd (by decide)
  show wpAny _ _ (field (.ref (B + 3)) 2 >>= _) _ _ _
  refine wpAny_bind (wpAny_field hz rfl (x := .bool false) rfl ?_)
  show wpAny _ _ (field (.ref (B + 3)) 3 >>= _) _ _ _
  refine wpAny_bind (wpAny_field hz rfl (x := .ref (B + 1)) rfl ?_)
  refine wpAny_bind (wpAny_seqItems hTI rfl ?_)
  show wpAny _ _ (Builtin.SmallTypes.ownedTupleIsFree (.ref (B + 3)) >>= _) _ _ _
  refine wpAny_bind ?_
  unfold Builtin.SmallTypes.ownedTupleIsFree
  refine wpAny_bind (wpAny_field hz rfl (x := .none) rfl (wpAny_pure ?_))
  simp only [if_true]
  refine wpAny_bind (wpAny_rule ?_)
  refine wpAny_bind (wpAny_field hz rfl (x := .ref (B + 2)) rfl ?_)
  refine wpAny_bind (wpAny_setField_rec hz (by simp) fun h₁ hz₁ hs₁ => ?_)
  replace hz₁ : IsZip h₁ (B + 3) (B + 1) (B + 2) .ellipsis := hz₁
  refine wpAny_bind ?_
  simp only [List.zipIdx_cons, List.zipIdx_nil, List.forIn_cons, List.forIn_nil]
  refine wpAny_bind (wpAny_bind (wpAny_onRaise ?_))
  show wpAny _ _ (Builtin.SmallTypes.nextOf (.ref B) >>= _) _ _ _
  refine wpAny_bind (nextOf_range_item (show IsRangeIter h₁ B k (5 - k) 1 from hs₁.extBut _ _ n03 h1) (by omega) fun h₂ h1₂ hs₂ => wpAny_pure ?_)
  have hTO₂ : IsPair h₂ (B + 2) a b := hs₂.extBut _ _ n02.symm (hs₁.extBut _ _ n23 hTO)
  refine wpAny_bind (wpAny_seqItems hTO₂ rfl ?_)
  refine wpAny_bind (wpAny_updateSeq_pair hTO₂ fun h₃ hTO₃ hs₃ => ?_)
  replace hTO₃ : IsPair h₃ (B + 2) (.int k s.toks) b := hTO₃
  refine wpAny_bind (wpAny_letGo (wpAny_pure ?_))
  refine wpAny_bind (wpAny_bind (wpAny_onRaise ?_))
  show wpAny _ _ (Builtin.SmallTypes.nextOf (.ref ga) >>= _) _ _ _
  refine wpAny_bind (hgen h₃ _ _ (fun c o c1 c2 c3 e => hs₃.extBut _ _ c2 (hs₂.extBut _ _ c1 (hs₁.extBut _ _ c3 e))) fun y s₂ hG up => wpAny_pure ?_)
  have hTO₄ : IsPair s₂.heap (B + 2) (.int k s.toks) b := up _ _ (.inr (.inr (.inl rfl))) hTO₃
  refine wpAny_bind (wpAny_seqItems hTO₄ rfl ?_)
  refine wpAny_bind (wpAny_updateSeq_pair hTO₄ fun h₅ hTO₅ hs₅ => ?_)
  replace hTO₅ : IsPair h₅ (B + 2) (.int k s.toks) y := hTO₅
  refine wpAny_bind (wpAny_letGo (wpAny_pure (wpAny_pure ?_)))
  refine wpAny_bind (wpAny_seqItems hTO₅ rfl ?_)
  refine wpAny_bind (wpAny_newTuple ?_)
  have hz₅ : IsZip h₅ (B + 3) (B + 1) (B + 2) .ellipsis := hs₅.extBut _ _ n23.symm (up _ _ (.inr (.inr (.inr rfl))) (hs₃.extBut _ _ n23.symm (hs₂.extBut _ _ n03.symm hz₁)))
  have hTI₅ : IsPair h₅ (B + 1) (.ref B) (.ref ga) := hs₅.extBut _ _ n12 (up _ _ (.inr (.inl rfl)) (hs₃.extBut _ _ n12 (hs₂.extBut _ _ n01.symm (hs₁.extBut _ _ n13 hTI))))
  have h1₅ : IsRangeIter h₅ B (k + 1) (5 - k - 1) 1 := hs₅.extBut _ _ n02 (up _ _ (.inl rfl) (hs₃.extBut _ _ n02 h1₂))
  have hzlt : B + 3 < h₅.objs.size := Heap.lt_size hz₅
  show wpAny _ _ (Builtin.SmallTypes.ownedTupleHandOut (.ref (B + 3)) (.ref h₅.objs.size) >>= _) _ _ _
  refine wpAny_bind ?_
  unfold Builtin.SmallTypes.ownedTupleHandOut
  have hz₆ : IsZip (h₅.push { cls := .type "tuple", data := .seq #[.int k s.toks, y] }) (B + 3) (B + 1) (B + 2) .ellipsis := Heap.get?_push_of_some _ hz₅
  refine wpAny_bind (wpAny_setField_rec hz₆ (by simp) fun h₇ hz₇ hs₇ => ?_)
  replace hz₇ : IsZip h₇ (B + 3) (B + 1) (B + 2) (rawInt h₅.objs.size) := hz₇
  refine wpAny_setField_rec hz₇ (by simp) fun h₈ hz₈ hs₈ => ?_
  replace hz₈ : IsZip h₈ (B + 3) (B + 1) (B + 2) (rawInt h₅.objs.size) := hz₈
  have up8 : ∀ c o, c ≠ B + 3 → h₅.get? c = some o → h₈.get? c = some o := fun c o c1 e => hs₈.extBut _ _ c1 (hs₇.extBut _ _ c1 (Heap.get?_push_of_some _ e))
  have hT₈ : IsPair h₈ h₅.objs.size (.int k s.toks) y := hs₈.extBut _ _ (Nat.ne_of_gt hzlt) (hs₇.extBut _ _ (Nat.ne_of_gt hzlt) (Heap.get?_push_size _ rfl))
  refine wpAny_pure ⟨_, rfl, ?_⟩
  have hsz : h₅.objs.size = s₂.heap.objs.size := hs₅.1
  have hsz8 : h₈.objs.size = s₂.heap.objs.size + 1 := by rw [hs₈.1, hs₇.1, Heap.size_push, hsz]
  refine hQ y s₂ h₈ _ hG hz₈ (up8 _ _ n13 hTI₅) (up8 _ _ n23 hTO₅) (by have := up8 _ _ n03 h1₅; rw [show (5 - k - 1 : Int) = 5 - (k + 1) by omega] at this; exact this) hT₈ ?_ hsz hsz8 fun c o c2 c3 e => up8 _ _ c3 (hs₅.extBut _ _ c2 e)
  rw [hsz]
  exact Heap.get?_none_of_le (Nat.le_refl _)

theorem zipn_end_range {B ga : Nat} {k : Int} {a b : Value} {Q : Fin → Shared → Prop} (hh : A.handled = none)
    (hz : IsZip s.heap (B + 3) (B + 1) (B + 2) .none) (hTI : IsPair s.heap (B + 1) (.ref B) (.ref ga)) (hTO : IsPair s.heap (B + 2) a b)
    (h1 : IsRangeIter s.heap B k (5 - k) 1) (hk : 5 ≤ k)
    (hE : ∀ h' e, (∀ c o, c ≠ B → c ≠ B + 2 → c ≠ B + 3 → s.heap.get? c = some o → h'.get? c = some o) → (∃ o, h'.get? e = some o ∧ o.cls = .type "StopIteration") → E (.ref e) { s with heap := h' }) :
    wpAny (model prog w) A (Builtin.«zip.__next__» ⟨[.ref (B + 3)], []⟩) Q E s := by
  have n03 : @Ne Nat (B) (B + 3) := neAdd0 (by decide)
  show wpAny _ _ (field (.ref (B + 3)) 2 >>= _) _ _ _
  refine wpAny_bind (wpAny_field hz rfl (x := .bool false) rfl ?_)
  show wpAny _ _ (field (.ref (B + 3)) 3 >>= _) _ _ _
  refine wpAny_bind (wpAny_field hz rfl (x := .ref (B + 1)) rfl ?_)
  refine wpAny_bind (wpAny_seqItems hTI rfl ?_)
  show wpAny _ _ (Builtin.SmallTypes.ownedTupleIsFree (.ref (B + 3)) >>= _) _ _ _
  refine wpAny_bind ?_
  unfold Builtin.SmallTypes.ownedTupleIsFree
  refine wpAny_bind (wpAny_field hz rfl (x := .none) rfl (wpAny_pure ?_))
  simp only [if_true]
  refine wpAny_bind (wpAny_rule ?_)
  refine wpAny_bind (wpAny_field hz rfl (x := .ref (B + 2)) rfl ?_)
  refine wpAny_bind (wpAny_setField_rec hz (by simp) fun h₁ hz₁ hs₁ => ?_)
  replace hz₁ : IsZip h₁ (B + 3) (B + 1) (B + 2) .ellipsis := hz₁
  refine wpAny_bind ?_
  simp only [List.zipIdx_cons, List.zipIdx_nil, List.forIn_cons, List.forIn_nil]
  refine wpAny_bind (wpAny_bind (wpAny_onRaise ?_))
  show wpAny _ _ (Builtin.SmallTypes.nextOf (.ref B) >>= _) _ _ _
  refine wpAny_bind (nextOf_range_end hh (show IsRangeIter h₁ B k (5 - k) 1 from hs₁.extBut _ _ n03 h1) (by omega) fun h₂ e hs₂ he => ?_)
  obtain ⟨oe, hoe, hce⟩ := he
  have hz₂ : IsZip h₂ (B + 3) (B + 1) (B + 2) .ellipsis := hs₂ _ _ n03.symm hz₁
  have hez : e ≠ B + 3 := fun x => by subst x; rw [hz₂] at hoe; cases hoe; simp at hce
  refine wpAny_setField_rec hz₂ (by simp) fun h₃ _ hs₃ => hE h₃ e (fun c o c1 _ c3 x => hs₃.extBut _ _ c3 (hs₂ _ _ c1 (hs₁.extBut _ _ c3 x))) ⟨oe, hs₃.extBut _ _ hez hoe, hce⟩

theorem zipn_end_gen {B ga : Nat} {k : Int} {a b : Value} {G : Shared → Prop} {Q : Fin → Shared → Prop}
    (hz : IsZip s.heap (B + 3) (B + 1) (B + 2) .none) (hTI : IsPair s.heap (B + 1) (.ref B) (.ref ga)) (hTO : IsPair s.heap (B + 2) a b)
    (h1 : IsRangeIter s.heap B k (5 - k) 1) (hk : k < 5)
    (hgen : ∀ h₁ (Q' E' : Value → Shared → Prop), (∀ c o, c ≠ B → c ≠ B + 2 → c ≠ B + 3 → s.heap.get? c = some o → h₁.get? c = some o) →
      (∀ e s₂, G s₂ → (∃ o, s₂.heap.get? e = some o ∧ o.cls = .type "StopIteration") → (∀ c o, (c = B ∨ c = B + 1 ∨ c = B + 2 ∨ c = B + 3) → h₁.get? c = some o → s₂.heap.get? c = some o) → E' (.ref e) s₂) →
      wpAny (model prog w) A (Builtin.SmallTypes.nextOf (.ref ga)) Q' E' { s with heap := h₁, toks := s.toks + 1 })
    (hE : ∀ s₂ h' e, G s₂ → (∀ c o, c ≠ B + 2 → c ≠ B + 3 → s₂.heap.get? c = some o → h'.get? c = some o) → (∃ o, h'.get? e = some o ∧ o.cls = .type "StopIteration") → E (.ref e) { s₂ with heap := h' }) :
    wpAny (model prog w) A (Builtin.«zip.__next__» ⟨[.ref (B + 3)], []⟩) Q E s := by
  have n03 : @Ne Nat (B) (B + 3) := neAdd0 (by decide)
  have n02 : @Ne Nat (B) (B + 2) := neAdd0 (by decide)
  have n23 : @Ne Nat (B + 2) (B + 3) := neAdd (by decide)
  show wpAny _ _ (field (.ref (B + 3)) 2 >>= _) _ _ _
  refine wpAny_bind (wpAny_field hz rfl (x := .bool false) rfl ?_)
  show wpAny _ _ (field (.ref (B + 3)) 3 >>= _) _ _ _
  refine wpAny_bind (wpAny_field hz rfl (x := .ref (B + 1)) rfl ?_)
  refine wpAny_bind (wpAny_seqItems hTI rfl ?_)
  show wpAny _ _ (Builtin.SmallTypes.ownedTupleIsFree (.ref (B + 3)) >>= _) _ _ _
  refine wpAny_bind ?_
  unfold Builtin.SmallTypes.ownedTupleIsFree
  refine wpAny_bind (wpAny_field hz rfl (x := .none) rfl (wpAny_pure ?_))
  simp only [if_true]
  refine wpAny_bind (wpAny_rule ?_)
  refine wpAny_bind (wpAny_field hz rfl (x := .ref (B + 2)) rfl ?_)
  refine wpAny_bind (wpAny_setField_rec hz (by simp) fun h₁ hz₁ hs₁ => ?_)
  replace hz₁ : IsZip h₁ (B + 3) (B + 1) (B + 2) .ellipsis := hz₁
  refine wpAny_bind ?_
  simp only [List.zipIdx_cons, List.zipIdx_nil, List.forIn_cons, List.forIn_nil]
  refine wpAny_bind (wpAny_bind (wpAny_onRaise ?_))
  show wpAny _ _ (Builtin.SmallTypes.nextOf (.ref B) >>= _) _ _ _
  refine wpAny_bind (nextOf_range_item (show IsRangeIter h₁ B k (5 - k) 1 from hs₁.extBut _ _ n03 h1) (by omega) fun h₂ h1₂ hs₂ => wpAny_pure ?_)
  have hTO₂ : IsPair h₂ (B + 2) a b := hs₂.extBut _ _ n02.symm (hs₁.extBut _ _ n23 hTO)
  refine wpAny_bind (wpAny_seqItems hTO₂ rfl ?_)
  refine wpAny_bind (wpAny_updateSeq_pair hTO₂ fun h₃ hTO₃ hs₃ => ?_)
  refine wpAny_bind (wpAny_letGo (wpAny_pure ?_))
  refine wpAny_bind (wpAny_bind (wpAny_onRaise ?_))
  show wpAny _ _ (Builtin.SmallTypes.nextOf (.ref ga) >>= _) _ _ _
  refine wpAny_bind (hgen h₃ _ _ (fun c o c1 c2 c3 e => hs₃.extBut _ _ c2 (hs₂.extBut _ _ c1 (hs₁.extBut _ _ c3 e))) fun e s₂ hG he up => ?_)
  obtain ⟨oe, hoe, hce⟩ := he
  have hz₄ : IsZip s₂.heap (B + 3) (B + 1) (B + 2) .ellipsis := up _ _ (.inr (.inr (.inr rfl))) (hs₃.extBut _ _ n23.symm (hs₂.extBut _ _ n03.symm hz₁))
  have hez : e ≠ B + 3 := fun x => by subst x; rw [hz₄] at hoe; cases hoe; simp at hce
  refine wpAny_setField_rec hz₄ (by simp) fun h₅ _ hs₅ => hE s₂ h₅ e hG (fun c o _ c3 x => hs₅.extBut _ _ c3 x) ⟨oe, hs₅.extBut _ _ hez hoe, hce⟩

theorem pyNext_zip_item {z : Addr} {Q : Option Value → Shared → Prop} {o : Obj} (hz : s.heap.get? z = some o) (hc : o.cls = .type "zip")
    (h : wpAny (model prog w) A.in1 (Builtin.«zip.__next__» ⟨[.ref z], []⟩) (fun fin s' => ∃ v, fin = .done (.ret v) ∧ Q (some v) s') (fun _ _ => False) s) :
    wpAny (model prog w) A (pyNext (.ref z)) Q E s := by
  have hT : s.TypeIs (.ref z) "zip" := ⟨_, hz, hc⟩
  unfold pyNext
  exact wpAny_bind (wpAny_attempt (wpAny_callSpecial?_slot (name := Str.ofString "__next__") hT F.slot_zip_next
    (wpAny_call_entry F.slot_zip_next hT F.entry_zip_next
      (wpAny_mono h (fun fin s' hx => by obtain ⟨v, rfl, hq⟩ := hx; exact ⟨v, rfl, wpAny_pure hq⟩) fun _ _ e => e.elim) (F.args_zip_next_1 _))))

theorem pyNext_zip_end {z : Addr} {Q : Option Value → Shared → Prop} {o : Obj} (hz : s.heap.get? z = some o) (hc : o.cls = .type "zip")
    (h : wpAny (model prog w) A.in1 (Builtin.«zip.__next__» ⟨[.ref z], []⟩) (fun _ _ => False) (fun x s' => ∃ e, x = .ref e ∧ (∃ o, s'.heap.get? e = some o ∧ o.cls = .type "StopIteration") ∧ Q none s') s) :
    wpAny (model prog w) A (pyNext (.ref z)) Q E s := by
  have hT : s.TypeIs (.ref z) "zip" := ⟨_, hz, hc⟩
  unfold pyNext
  refine wpAny_bind (wpAny_attempt (wpAny_callSpecial?_slot (name := Str.ofString "__next__") hT F.slot_zip_next
    (wpAny_call_entry F.slot_zip_next hT F.entry_zip_next (wpAny_mono h (fun fin s' hx => hx.elim) fun x s' he => ?_) (F.args_zip_next_1 _))))
  obtain ⟨e, rfl, ⟨o, ho, hc⟩, hq⟩ := he
  refine wpAny_bind (wpAny_isInstance (T := "StopIteration") (b := true) ⟨o, ho, hc⟩ isSubtype_stop ?_)
  exact wpAny_pure hq
end
end Mine
end
section
open PySem
set_option Elab.async false
namespace Mine
open Sem (wp)
section
variable {prog : Program} {w : World} {A : Around} {R : GenEnd} {Y : Protocol} {n : Nat} {s₀ : Shared} {c : Code} {fs : List Frame} {s : Shared} {env : Env}
  {K : Flow → Sem Fin} {H : Value → Sem Fin} {gd : Bool → Bool} {lv : List Value → List Value}

theorem seg_If {test : Expr} {body orelse : List Stmt} {pos : Pos} (b : Bool)
    (h : wpAny (model prog w) (A.over c fs) (isTrue test env (eval test env)) (fun b' s' => b' = b ∧ Seg (model prog w) A R Y n s₀ c ((execs (if b then body else orelse) env).wrap K H gd lv) fs s') (fun _ _ => False) s) :
    Seg (model prog w) A R Y n s₀ c ((exec (.If test body orelse pos) env).wrap K H gd lv) fs s := by
  rw [exec_If]
  refine seg_at ?_
  show Seg _ A R Y n s₀ c (((isTrue test env (eval test env)) >>= fun b => if b = true then execs body env else execs orelse env).wrap K H gd lv) fs s
  rw [Sem.bind_eq_wrap', Sem.wrap_wrap]
  refine seg_wrap (wpAny_mono h (fun b' s' hb => ?_) fun x s' hx => hx.elim)
  obtain ⟨rfl, hb⟩ := hb
  cases b' <;> exact hb

theorem seg_For {target iter : Expr} {body orelse : List Stmt} {pos : Pos}
    (h : wpAny (model prog w) (A.over c fs) (eval iter env) (fun x s₁ => wpAny (model prog w) (A.over c fs) (pyIter x) (fun it s₂ =>
      ∀ p, Seg (model prog w) A R Y n s₀ (.forLoop target it body orelse env) ((model prog w).den (.forLoop target it body orelse env))
      (.ret (fun r => ((match r with | .ok f => (.pure f : Sem Flow) | .error e => .raise e).onRaise fun (x : Value) => do
        if (← field x 1) == Value.none then unsupported "frame.own-activation:exception-without-traceback"
        setFlight x env.frame).wrap K H gd lv) none (gd false) (lv []) c p [] :: fs) s₂) (fun _ _ => False) s₁) (fun _ _ => False) s)
    (hs : ∀ x, foldedSetIterable iter env x = pure x := by intro _; rfl) :
    Seg (model prog w) A R Y n s₀ c ((exec (.For target iter body orelse pos) env).wrap K H gd lv) fs s := by
  rw [exec_For]
  refine seg_at ?_
  show Seg _ A R Y n s₀ c ((eval iter env >>= fun x => foldedSetIterable iter env x >>= fun x => standAt iter.pos >>= fun _ => holding [x] (pyIter x) >>= fun it => runOwn (.forLoop target it body orelse env) env).wrap K H gd lv) fs s
  rw [Sem.bind_eq_wrap', Sem.wrap_wrap]
  refine seg_wrap (wpAny_mono h (fun x s₁ h₁ => ?_) fun x s' hx => hx.elim)
  rw [hs]
  show Seg _ A R Y n s₀ c ((standAt iter.pos >>= fun _ => holding [x] (pyIter x) >>= fun it => runOwn (.forLoop target it body orelse env) env).wrap K H _ _) fs s₁
  refine seg_at ?_
  show Seg _ A R Y n s₀ c ((holding [x] (pyIter x) >>= fun it => runOwn (.forLoop target it body orelse env) env).wrap K H _ _) fs s₁
  rw [Sem.bind_eq_wrap', Sem.wrap_wrap]
  refine seg_wrap (wpAny_holding (wpAny_mono h₁ (fun it s₂ h₂ => ?_) fun x s' hx => hx.elim))
  exact seg_call h₂

theorem seg_forLoop {target : Expr} {it : Value} {body orelse : List Stmt}
    (h : wpAny (model prog w) (A.over (.forLoop target it body orelse env) fs) (pyNext it) (fun r s₁ => match r with
      | none => Seg (model prog w) A R Y n s₀ (.block orelse env) ((model prog w).den (.block orelse env)) fs s₁
      | some v => wpAny (model prog w) (A.over (.forLoop target it body orelse env) fs) (letOwnedTupleGo target it v) (fun _ s₂ => wpAny (model prog w) (A.over (.forLoop target it body orelse env) fs) (assign target env v) (fun _ s' =>
          Seg (model prog w) A R Y n s₀ (.forLoop target it body orelse env) ((execs body env).wrap (fun f => match f with
            | .next | .cont => .pure (.again (.forLoop target it body orelse env))
            | .brk => .pure (.done .next)
            | .ret v => .pure (.done (.ret v))) (fun e => (do noteFrame e env; theTreesLotGoes e : Sem Unit).wrap (fun _ => .raise e) .raise id id) id id) fs s') (fun _ _ => False) s₂) (fun _ _ => False) s₁)
      (fun _ _ => False) s) :
    Seg (model prog w) A R Y n s₀ (.forLoop target it body orelse env) ((model prog w).den (.forLoop target it body orelse env)) fs s := by
  show Seg _ A R Y n s₀ _ ((forTurn target it body orelse env).onRaise (fun x => do noteFrame x env; theTreesLotGoes x)) fs s
  unfold forTurn
  rw [Sem.onRaise_eq_wrap]
  refine seg_at ?_
  show Seg _ A R Y n s₀ _ ((((pyNext it).onRaise (fun _ => standAt { target.pos with line := 0 })) >>= _).wrap _ _ _ _) fs s
  rw [Sem.bind_eq_wrap', Sem.wrap_wrap]
  refine seg_wrap (wpAny_onRaise (wpAny_mono h (fun r s₁ h₁ => ?_) fun x s' hx => hx.elim))
  cases r with
  | none => exact seg_again rfl h₁
  | some v =>
    show Seg _ A R Y n s₀ _ ((letOwnedTupleGo target it v >>= fun _ => assign target env v >>= fun _ => execs body env >>= _).wrap _ _ _ _) fs s₁
    rw [Sem.bind_eq_wrap', Sem.wrap_wrap]
    refine seg_wrap (wpAny_mono h₁ (fun _ s₂ h₂ => ?_) fun x s' hx => hx.elim)
    show Seg _ A R Y n s₀ _ ((assign target env v >>= fun _ => execs body env >>= _).wrap _ _ _ _) fs s₂
    rw [Sem.bind_eq_wrap', Sem.wrap_wrap]
    refine seg_wrap (wpAny_mono h₂ (fun _ s₃ h₃ => ?_) fun x s' hx => hx.elim)
    show Seg _ A R Y n s₀ _ ((execs body env >>= _).wrap _ _ _ _) fs s₃
    rw [Sem.bind_eq_wrap', Sem.wrap_wrap]
    rw [Sem.wrap_congr (execs body env) _ _ (K' := fun f => match f with
            | .next | .cont => .pure (.again (.forLoop target it body orelse env))
            | .brk => .pure (.done .next)
            | .ret v => .pure (.done (.ret v))) (H' := (fun e => (do noteFrame e env; theTreesLotGoes e : Sem Unit).wrap (fun _ => .raise e) .raise id id))
        (fun f => by cases f <;> rfl)
        (fun e => by first | exact Sem.bind_eq_wrap _ _ | (show (do noteFrame e env; theTreesLotGoes e : Sem Unit).bind (fun _ => .raise e) = _; rw [Sem.bind_eq_wrap]))]
    exact h₃

theorem seg_Return_none {pos : Pos} (h : Seg (model prog w) A R Y n s₀ c (K (.ret .none)) fs s) : Seg (model prog w) A R Y n s₀ c ((exec (.Return none pos) env).wrap K H gd lv) fs s := by
  rw [exec_Return_none]
  exact seg_at h

theorem seg_block_nil (h : Seg (model prog w) A R Y n s₀ (.block [] env) (.pure (.done .next)) fs s) : Seg (model prog w) A R Y n s₀ (.block [] env) ((model prog w).den (.block [] env)) fs s := h

/-- a statement that yields nothing -/
theorem seg_exec {st : Stmt} (h : wpAny (model prog w) (A.over c fs) (exec st env) (fun f s' => Seg (model prog w) A R Y n s₀ c (K f) fs s') (fun _ _ => False) s) :
    Seg (model prog w) A R Y n s₀ c ((exec st env).wrap K H gd lv) fs s := seg_wrap (wpAny_mono h (fun _ _ x => x) fun _ _ x => x.elim)
end
end Mine
end
section
open PySem PySem.W PyProof.Rows
set_option Elab.async false
set_option maxRecDepth 100000
set_option maxHeartbeats 8000000
namespace Mine
noncomputable def GY (val : Nat → Value) (fin : Nat → Prop) (out : List Addr) (Lg S₀ : Addr) : Protocol := fun n s₀ v s₁ kap =>
  (v = val n ∧ ¬ fin (n + 1)) ∧ (∃ h tk, s₁ = { s₀ with heap := h, toks := tk } ∧ ∀ b o, b ≠ Lg → b < S₀ → s₀.heap.get? b = some o → h.get? b = some o) ∧
  (n ≠ 0 → ∀ s₂ : Shared, (∀ b o, b ∉ out → s₁.heap.get? b = some o → s₂.heap.get? b = some o) → kap (.send .none) s₂)
noncomputable def GP (fin : Nat → Prop) (Lg S₀ : Addr) (n : Nat) (s₀ s₁ : Shared) : Prop :=
  fin n ∧ ∃ h tk, s₁ = { s₀ with heap := h, toks := tk } ∧ ∀ b o, b ≠ Lg → b < S₀ → s₀.heap.get? b = some o → h.get? b = some o
abbrev GR (fin : Nat → Prop) (Lg S₀ : Addr) : GenEnd := fun n s₀ r s₁ => r = .ok (.ret .none) ∧ GP fin Lg S₀ n s₀ s₁
structure GSet (h₀ : Heap) (Lg l S₀ : Addr) (out : List Addr) : Prop where
  above : h₀.objs.size ≤ Lg
  LS : Lg < S₀
  lL : l ≠ Lg
  lS : l < S₀
  out : ∀ b ∈ out, b < S₀ ∧ b ≠ Lg ∧ b ≠ l ∧ h₀.get? b = none
structure GIn (h₀ : Heap) (Lg l S₀ it : Addr) (items : Array Value) (i : Nat) (last : Value) (h : Heap) : Prop where
  fr : ∃ m, Fr h₀ Lg h m ∧ m (Str.ofString "last_interval") = some last
  iter : h.IsListIter it l i
  list : h.IsList l items
  S : S₀ ≤ it
abbrev GStep (Lg S₀ : Addr) (s₀ s₁ : Shared) : Prop := ∃ h tk, s₁ = { s₀ with heap := h, toks := tk } ∧ ∀ b o, b ≠ Lg → b < S₀ → s₀.heap.get? b = some o → h.get? b = some o
section
variable {h₀ : Heap} {Lg l S₀ it : Addr} {items : Array Value} {i : Nat} {last : Value} {h h' : Heap} {out : List Addr}
theorem frQuiet {m : Str → Option Value} (F : Fr h₀ Lg h m) (G : GSet h₀ Lg l S₀ out) (q : ∀ b o, b ∉ out → h.get? b = some o → h'.get? b = some o) : Fr h₀ Lg h' m := by
  have nL : Lg ∉ out := fun b => (G.out _ b).2.1 rfl
  refine ⟨?_, fun b o e => q b o (fun hb => ?_) (F.keep b o e), F.above⟩
  · obtain ⟨o, es, ep, ho, r⟩ := F.ns
    exact ⟨o, es, ep, q _ _ nL ho, r⟩
  · rw [(G.out _ hb).2.2.2] at e; cases e
theorem GIn.quiet (X : GIn h₀ Lg l S₀ it items i last h) (G : GSet h₀ Lg l S₀ out) (q : ∀ b o, b ∉ out → h.get? b = some o → h'.get? b = some o) : GIn h₀ Lg l S₀ it items i last h' := by
  obtain ⟨⟨m, F, e⟩, I, Li, S⟩ := X
  have nL : Lg ∉ out := fun b => (G.out _ b).2.1 rfl
  have nl : l ∉ out := fun b => (G.out _ b).2.2.1 rfl
  have ni : it ∉ out := fun b => Nat.lt_irrefl _ (Nat.lt_of_lt_of_le (G.out _ b).1 S)
  refine ⟨⟨m, ⟨?_, fun b o e => q b o (fun hb => ?_) (F.keep b o e), F.above⟩, e⟩, I.at fun o e => q _ o ni e, Li.at fun o e => q _ o nl e, S⟩
  · obtain ⟨o, es, ep, ho, r⟩ := F.ns
    exact ⟨o, es, ep, q _ _ nL ho, r⟩
  · rw [(G.out _ hb).2.2.2] at e; cases e
end
section
variable {M : Model} {A : Around} {E : Value → Shared → Prop} {s : Shared} {name : Str} {scope : Scope} {L a : Addr} {cd : Value} {h₀ : Heap} {m : Str → Option Value}
theorem stS {x : Str} {v : Value} {Q : Unit → Shared → Prop} (F : Fr h₀ L s.heap m)
    (h : ∀ h', Fr h₀ L h' (fun y => if y = x then some v else m y) → Heap.SameBut L s.heap h' → Q () { s with heap := h', toks := s.toks + 1 })
    (hk : scope.kind = .function := by rfl) (hl : (envOf name scope L a cd).kindOf x = some .local := by rfl) :
    wpAny M A (storeName (envOf name scope L a cd) x v) Q E s :=
  wpAny_storeName_local hl F.ns (fun h' hn hs => h h' (F.set hn hs) hs)
    (by show (scope.kind == .class || (scope.kind == .module && L != mainGlobals)) = false; rw [hk]; rfl)
theorem frLast {h : Heap} {x : Str} {v : Value} (F : Fr h₀ L h m) (e : m x = some v) : Fr h₀ L h (fun y => if y = x then some v else m y) := by
  have : (fun y => if y = x then some v else m y) = m := by
    funext y
    by_cases q : y = x
    · rw [if_pos q, q, e]
    · rw [if_neg q]
  rw [this]; exact F
end
inductive Plan (val : Nat → Value) (fin : Nat → Prop) (items : Array Value) : Nat → Value → Nat → Prop
  | item {i last n y t} : items[i]? = some (.int y t) → y ≠ 127 → y ≠ 0 → (val n = .int y t ∧ ¬ fin (n + 1)) → (n ≠ 0 → Plan val fin items (i + 1) (.int y t) n) → Plan val fin items i last (n + 1)
  | stop {i last n t} : items[i]? = some (.int 127 t) → fin n → Plan val fin items i last n
  | done {i last n} : items[i]? = none → fin n → Plan val fin items i last n
  | zero {i n t v tv} : items[i]? = some (.int 0 t) → (∀ k, k < n → val k = .int v tv ∧ ¬ fin (k + 1)) → Plan val fin items i (.int v tv) n
section
variable {M : Model} {A : Around} {R : GenEnd} {Y : Protocol} {c : Code} {t : Sem Fin} {fs : List Frame} {h₀ : Heap} {Lg l S₀ it : Addr} {items : Array Value} {val : Nat → Value} {fin : Nat → Prop}
theorem for_ind
   (item : ∀ n i last y t' s₀ s₁, items[i]? = some (.int y t') → y ≠ 127 → y ≠ 0 → (val n = .int y t' ∧ ¬ fin (n + 1)) → (n ≠ 0 → ∀ s₀' s₁', GIn h₀ Lg l S₀ it items (i + 1) (.int y t') s₁'.heap → GStep Lg S₀ s₀' s₁' → Seg M A R Y n s₀' c t fs s₁') → GIn h₀ Lg l S₀ it items i last s₁.heap → GStep Lg S₀ s₀ s₁ → Seg M A R Y (n + 1) s₀ c t fs s₁)
   (stop : ∀ n i last t' s₀ s₁, items[i]? = some (.int 127 t') → fin n → GIn h₀ Lg l S₀ it items i last s₁.heap → GStep Lg S₀ s₀ s₁ → Seg M A R Y n s₀ c t fs s₁)
   (done : ∀ n i last s₀ s₁, items[i]? = none → fin n → GIn h₀ Lg l S₀ it items i last s₁.heap → GStep Lg S₀ s₀ s₁ → Seg M A R Y n s₀ c t fs s₁)
   (zero : ∀ n i t' v tv s₀ s₁, items[i]? = some (.int 0 t') → (∀ k, k < n → val k = .int v tv ∧ ¬ fin (k + 1)) → n ≠ 0 → GIn h₀ Lg l S₀ it items i (.int v tv) s₁.heap → GStep Lg S₀ s₀ s₁ → Seg M A R Y n s₀ c t fs s₁)
   {n i : Nat} {last : Value} (P : Plan val fin items i last n) : n ≠ 0 → ∀ s₀ s₁, GIn h₀ Lg l S₀ it items i last s₁.heap → GStep Lg S₀ s₀ s₁ → Seg M A R Y n s₀ c t fs s₁ := by
  induction P with
  | item h1 h2 h3 h4 _ ih => exact fun _ s₀ s₁ g st => item _ _ _ _ _ s₀ s₁ h1 h2 h3 h4 (fun hn s₀' s₁' => ih hn hn s₀' s₁') g st
  | stop h1 h2 => exact fun _ s₀ s₁ g st => stop _ _ _ _ s₀ s₁ h1 h2 g st
  | done h1 h2 => exact fun _ s₀ s₁ g st => done _ _ _ s₀ s₁ h1 h2 g st
  | zero h1 h2 => exact fun hn s₀ s₁ g st => zero _ _ _ _ _ s₀ s₁ h1 h2 hn g st
theorem while_ind {i : Nat} {last : Value}
   (turn : ∀ n s₀ s₁, (val n = last ∧ ¬ fin (n + 1)) → (n ≠ 0 → ∀ s₀' s₁', GIn h₀ Lg l S₀ it items i last s₁'.heap → GStep Lg S₀ s₀' s₁' → Seg M A R Y n s₀' c t fs s₁') → GIn h₀ Lg l S₀ it items i last s₁.heap → GStep Lg S₀ s₀ s₁ → Seg M A R Y (n + 1) s₀ c t fs s₁)
   : ∀ n, (∀ k, k < n → val k = last ∧ ¬ fin (k + 1)) → n ≠ 0 → ∀ s₀ s₁, GIn h₀ Lg l S₀ it items i last s₁.heap → GStep Lg S₀ s₀ s₁ → Seg M A R Y n s₀ c t fs s₁
  | 0, _, hn => absurd rfl hn
  | n + 1, hv, _ => fun s₀ s₁ g st => turn n s₀ s₁ (hv n (Nat.lt_succ_self n)) (fun hn => while_ind turn n (fun k hk => hv k (Nat.lt_succ_of_lt hk)) hn) g st
end
end Mine
end
section
open PySem PySem.W PyProof.Rows
set_option Elab.async false
set_option maxRecDepth 100000
set_option maxHeartbeats 8000000
namespace Mine
local macro_rules | `(tactic| walk_at "storeName") => `(tactic| (k_here; (with_reducible rename Fr _ _ _ _ => kF); k_dflt (refine' stS kF ?_; clear kF; intro h' kF' sb')))
theorem gi_pack (w : World) (h₀ : Heap) (X : (hd.heap_39 w.params).In h₀) (mean : ExcName → Option Value) (mg mb : Str → Option Value)
   (T : Top hd.view_39 (looseW hd.view_39 [Str.ofString "_twin_re_1", Str.ofString "_twin_re_2", Str.ofString "EXACT_TOKEN_TYPES"]) mean mg mb h₀) :
   ∃ oc od osl name qual params body scope dV kV doc pm an cdv ct,
   ((hd.heap_39 w.params).lookup 55 = some ⟨oc, od, .func (fnOf name qual params body scope dV kV doc pm an cdv ct), osl⟩ ∧ codeIn (hd.heap_39 w.params) cdv qual = true ∧ scope.isCoroutine = false ∧ scope.isGenerator = true ∧ scope.kind = .function ∧ (∀ x ∈ scope.names, x.2 ≠ .cell) ∧ scope.names.lookup (Str.ofString "grouping") = some .local ∧ ∀ s v, BindsTo s (fnOf name qual params body scope dV kV doc pm an cdv ct) ⟨[v], []⟩ [(Str.ofString "grouping", v)]) ∧
   (∀ (Lg l S₀ : Addr) (out : List Addr) (items : Array Value) (val : Nat → Value) (fin : Nat → Prop) (A : Around) (n : Nat) (s : Shared) (m : Str → Option Value), A.handled = none → GSet h₀ Lg l S₀ out →
     Fr h₀ Lg s.heap m → m (Str.ofString "grouping") = some (.ref l) → s.heap.IsList l items → S₀ ≤ s.heap.objs.size → Plan val fin items 0 .none n → n ≠ 0 →
     Seg (model PySem.Challenge.rw_to0012_01.row.prog w) A (GR fin Lg S₀) (GY val fin out Lg S₀) n s (.func body (envOf qual scope Lg 55 cdv)) ((model PySem.Challenge.rw_to0012_01.row.prog w).den (.func body (envOf qual scope Lg 55 cdv))) [] s) := by
  w_top off
  have kf : ((hd.heap_39 w.params).In h₀ ∧ PySem.Challenge.rw_to0012_01.row.prog = PySem.Challenge.rw_to0012_01.row.prog → True) := by k_fill; exact fun _ => trivial
  clear kf
  refine ⟨_, _, _, _, _, _, _, _, _, _, _, _, _, _, _, ⟨by k_is, by k_is, rfl, rfl, rfl, by decide, rfl, fun _ _ => BindsTo.of_eq rfl⟩, ?_⟩
  intro Lg l S₀ out items val fin A n s m hh G F hm hl hS P hn
  refine seg_func ?_
  refine seg_execs_cons (seg_exec ?_)
  repeat' (first | (k_unfold; (try dsimp only)) | walk1 | (dsimp only; walk1))
  rename Heap.SameBut _ _ _ => sb1
  rename Fr _ _ _ _ => F1
  have F1' := frLast (x := Str.ofString "grouping") F1 (by rw [if_neg (by decide)]; exact hm)
  clear F1
  rename Heap => h1
  refine seg_execs_cons (seg_For ?_)
  walk1
  refine wpAny_pyIter_list (hl.extBut sb1.extBut G.lL) ?_
  intro p
  have hl1 : h1.IsList l items := hl.extBut sb1.extBut G.lL
  refine for_ind (h₀ := h₀) (l := l) (it := h1.objs.size) (items := items) (i := 0) (last := .none) ?item ?stop ?done ?zero P hn s _ ⟨⟨_, F1'.keeps fun b o e => Heap.get?_push_of_some _ e, rfl⟩, ⟨_, Heap.get?_push_size _ rfl, rfl, rfl⟩, hl1.push _, by rw [sb1.1]; exact hS⟩ ⟨_, _, rfl, fun b o n1 _ e => Heap.get?_push_of_some _ (sb1.extBut _ _ n1 e)⟩
  case item =>
    intro n i last y t' s₀ s₁ hx h127 h0 hval next g st
    obtain ⟨h₁, tk₁, rfl, up₁⟩ := st
    obtain ⟨⟨m, F, hm⟩, I, Li, S⟩ := g
    refine seg_forLoop (wpAny_pyNext_list_item I Li hx fun h₂ I₂ sb₂ => ?_)
    refine wpAny_pure ?_
    have iS : @Ne Nat h1.objs.size Lg := by rw [sb1.1]; exact Nat.ne_of_gt (Nat.lt_of_lt_of_le G.LS hS)
    have i0 : h₀.get? h1.objs.size = none := Heap.get?_none_of_le (by rw [sb1.1]; exact Nat.le_trans G.above (Nat.le_of_lt (Nat.lt_of_lt_of_le G.LS hS)))
    have F₂ := (frLast (F.change sb₂ iS i0) hm)
    clear F F1'
    walk1
    walk1
    rename Heap.SameBut Lg _ _ => sb₃
    rename Fr _ _ _ _ => F₃
    rename_i h₃
    refine seg_execs_cons (seg_If false ?_)
    repeat' (first | (k_unfold; (try dsimp only)) | walk1 | (dsimp only; walk1))
    · exact beq_false_of_ne h127
    refine seg_execs_cons (seg_If false ?_)
    repeat' (first | (k_unfold; (try dsimp only)) | walk1 | (dsimp only; walk1))
    · exact beq_false_of_ne h0
    refine seg_execs_cons (seg_Expr_Yield rfl rfl rfl ?_)
    walk1
    intro kap hk
    have I₃ : h₃.IsListIter h1.objs.size l (i + 1) := I₂.extBut sb₃.extBut iS
    have L₃ : h₃.IsList l items := ((Li.extBut sb₂.extBut (Nat.ne_of_lt (Nat.lt_of_lt_of_le G.lS S)))).extBut sb₃.extBut G.lL
    refine ⟨⟨hval.1.symm, hval.2⟩, ⟨_, _, rfl, fun b o n1 n2 e => sb₃.extBut _ _ n1 (sb₂.extBut _ _ (Nat.ne_of_lt (Nat.lt_of_lt_of_le n2 S)) (up₁ _ _ n1 n2 e))⟩, fun hn s₂ q => hk .none s₂ ?_⟩
    have F₄ := frQuiet F₃ G q
    have I₄ : s₂.heap.IsListIter h1.objs.size l (i + 1) := I₃.at fun o e => q _ o (fun hb => Nat.lt_irrefl _ (Nat.lt_of_lt_of_le (G.out _ hb).1 S)) e
    have L₄ : s₂.heap.IsList l items := L₃.at fun o e => q _ o (fun hb => (G.out _ hb).2.2.1 rfl) e
    clear F₃
    refine seg_execs_cons (seg_exec ?_)
    walk1
    walk1
    walk1
    rename Heap.SameBut Lg s₂.heap _ => sb₅
    rename Fr _ _ _ _ => F₅
    refine seg_again rfl (next hn s₂ _ ⟨⟨_, F₅, by rfl⟩, I₄.extBut sb₅.extBut iS, L₄.extBut sb₅.extBut G.lL, S⟩ ⟨_, _, rfl, fun b o n1 n2 e => sb₅.extBut _ _ n1 e⟩)
  case stop =>
    intro n i last t' s₀ s₁ hx hfin g st
    obtain ⟨h₁, tk₁, rfl, up₁⟩ := st
    obtain ⟨⟨m, F, hm⟩, I, Li, S⟩ := g
    have iS : @Ne Nat h1.objs.size Lg := by rw [sb1.1]; exact Nat.ne_of_gt (Nat.lt_of_lt_of_le G.LS hS)
    have i0 : h₀.get? h1.objs.size = none := Heap.get?_none_of_le (by rw [sb1.1]; exact Nat.le_trans G.above (Nat.le_of_lt (Nat.lt_of_lt_of_le G.LS hS)))
    refine seg_forLoop (wpAny_pyNext_list_item I Li hx fun h₂ I₂ sb₂ => ?_)
    refine wpAny_pure ?_
    have F₂ := (frLast (F.change sb₂ iS i0) hm)
    clear F F1'
    walk1
    walk1
    rename Heap.SameBut Lg _ _ => sb₃
    rename Fr _ _ _ _ => F₃
    rename_i h₃
    refine seg_execs_cons (seg_If true ?_)
    repeat' (first | (k_unfold; (try dsimp only)) | walk1 | (dsimp only; walk1))
    refine seg_execs_cons (seg_Return_none ?_)
    refine seg_leaf (.ok (.ret .none)) ?_
    exact seg_end (.ok (.ret .none)) ⟨rfl, hfin, _, _, rfl, fun b o n1 n2 e => sb₃.extBut _ _ n1 (sb₂.extBut _ _ (Nat.ne_of_lt (Nat.lt_of_lt_of_le n2 S)) (up₁ _ _ n1 n2 e))⟩
  case done =>
    intro n i last s₀ s₁ hx hfin g st
    obtain ⟨h₁, tk₁, rfl, up₁⟩ := st
    obtain ⟨⟨m, F, hm⟩, I, Li, S⟩ := g
    have iS : @Ne Nat h1.objs.size Lg := by rw [sb1.1]; exact Nat.ne_of_gt (Nat.lt_of_lt_of_le G.LS hS)
    have i0 : h₀.get? h1.objs.size = none := Heap.get?_none_of_le (by rw [sb1.1]; exact Nat.le_trans G.above (Nat.le_of_lt (Nat.lt_of_lt_of_le G.LS hS)))
    refine seg_forLoop (wpAny_pyNext_list_end hh I Li hx fun h₂ sb₂ => ?_)
    refine seg_block_nil ?_
    refine seg_leaf (.ok .next) ?_
    exact seg_end (.ok (.ret .none)) ⟨rfl, hfin, _, _, rfl, fun b o n1 n2 e => sb₂ _ _ (Nat.ne_of_lt (Nat.lt_of_lt_of_le n2 S)) (up₁ _ _ n1 n2 e)⟩
  case zero =>
    intro n i t' v tv s₀ s₁ hx hval hn g st
    obtain ⟨h₁, tk₁, rfl, up₁⟩ := st
    obtain ⟨⟨m, F, hm⟩, I, Li, S⟩ := g
    have iS : @Ne Nat h1.objs.size Lg := by rw [sb1.1]; exact Nat.ne_of_gt (Nat.lt_of_lt_of_le G.LS hS)
    have i0 : h₀.get? h1.objs.size = none := Heap.get?_none_of_le (by rw [sb1.1]; exact Nat.le_trans G.above (Nat.le_of_lt (Nat.lt_of_lt_of_le G.LS hS)))
    refine seg_forLoop (wpAny_pyNext_list_item I Li hx fun h₂ I₂ sb₂ => ?_)
    refine wpAny_pure ?_
    have F₂ := (frLast (F.change sb₂ iS i0) hm)
    clear F F1'
    walk1
    walk1
    rename Heap.SameBut Lg _ _ => sb₃
    rename Fr _ _ _ _ => F₃
    rename_i h₃
    refine seg_execs_cons (seg_If false ?_)
    repeat' (first | (k_unfold; (try dsimp only)) | walk1 | (dsimp only; walk1))
    refine seg_execs_cons (seg_If true ?_)
    repeat' (first | (k_unfold; (try dsimp only)) | walk1 | (dsimp only; walk1))
    refine seg_execs_cons (seg_If false ?_)
    repeat' (first | (k_unfold; (try dsimp only)) | walk1 | (dsimp only; walk1))
    refine seg_execs_cons (seg_While ?_)
    intro p'
    have I₃ : h₃.IsListIter h1.objs.size l (i + 1) := I₂.extBut sb₃.extBut iS
    have L₃ : h₃.IsList l items := ((Li.extBut sb₂.extBut (Nat.ne_of_lt (Nat.lt_of_lt_of_le G.lS S)))).extBut sb₃.extBut G.lL
    refine while_ind (h₀ := h₀) (l := l) (it := h1.objs.size) (items := items) (i := i + 1) (last := .int v tv) ?turn n hval hn s₀ _ ⟨⟨_, F₃, by rfl⟩, I₃, L₃, S⟩ ⟨_, _, rfl, fun b o n1 n2 e => sb₃.extBut _ _ n1 (sb₂.extBut _ _ (Nat.ne_of_lt (Nat.lt_of_lt_of_le n2 S)) (up₁ _ _ n1 n2 e))⟩
    case turn =>
      clear F₃
      intro n s₀ s₁ hval next g st
      obtain ⟨h₁, tk₁, rfl, up₁⟩ := st
      have g' := g
      obtain ⟨⟨m, F, hm⟩, I, Li, S⟩ := g
      have F₂ := frLast F hm
      clear F
      refine seg_whileLoop ?_
      repeat' (first | (k_unfold; (try dsimp only)) | walk1 | (dsimp only; walk1))
      refine seg_execs_cons (seg_Expr_Yield rfl rfl rfl ?_)
      walk1
      intro kap hk
      refine ⟨⟨hval.1.symm, hval.2⟩, ⟨_, _, rfl, fun b o n1 n2 e => up₁ _ _ n1 n2 e⟩, fun hn s₂ q => hk .none s₂ ?_⟩
      exact seg_again rfl (next hn s₂ s₂ (g'.quiet G q) ⟨_, _, rfl, fun b o _ _ e => e⟩)
end Mine
end
section
open PySem PySem.W PyProof.Rows
set_option Elab.async false
set_option maxRecDepth 100000
set_option maxHeartbeats 8000000
namespace Mine
noncomputable def GenAt (w : World) (h₀ : Heap) (Lg l : Addr) (items : Array Value) (h : Heap) (gs : GenState) : Prop :=
  ∀ (S₀ : Addr) (out : List Addr) (val : Nat → Value) (fin : Nat → Prop) (A : Around) (n : Nat) (s₂ : Shared), A.handled = none → GSet h₀ Lg l S₀ out →
    (∀ b o, b ∉ out → h.get? b = some o → s₂.heap.get? b = some o) → S₀ ≤ s₂.heap.objs.size → Plan val fin items 0 .none n → n ≠ 0 →
    gs.Goes (model PySem.Challenge.rw_to0012_01.row.prog w) A (GR fin Lg S₀) (GY val fin out Lg S₀) n (.send .none) s₂
theorem gen_law (w : World) (mean mg mb) (h₀ : Heap) (L : Addr) (m) (s : Shared) (A : Around) (Q E : Value → Shared → Prop) (l : Addr) (items : Array Value)
   (hr : A.depth < recursionLimit) (F : Fr h₀ L s.heap m) (X : (hd.heap_39 w.params).In h₀)
   (T : Top hd.view_39 (looseW hd.view_39 [Str.ofString "_twin_re_1", Str.ofString "_twin_re_2", Str.ofString "EXACT_TOKEN_TYPES"]) mean mg mb h₀)
   (hl : s.heap.IsList l items) (hg : s.gens = #[])
   (hQ : ∀ (h' : Heap) (tk : Nat) (nm qn : Value) (c : GenState), h'.objs.size = s.heap.objs.size + 2 → h'.get? (s.heap.objs.size + 1) = some { cls := .type "generator", data := .fields #[.int 0 0, nm, qn] } →
     (∀ b o, s.heap.get? b = some o → h'.get? b = some o) → GenAt w h₀ s.heap.objs.size l items h' c → (∃ k, c = .fresh k) → Q (.ref (s.heap.objs.size + 1)) { s with heap := h', gens := #[c], toks := tk }) :
   wpAny (model PySem.Challenge.rw_to0012_01.row.prog w) A (call (.ref 55) [.ref l]) Q E s := by
  obtain ⟨oc, od, osl, name, qual, params, body, scope, dV, kV, doc, pm, an, cdv, ct, ⟨ho, hcd, hco, hgen, hk, hcell, hloc, hbind⟩, sp⟩ := gi_pack w h₀ X mean mg mb T
  obtain ⟨hp, g, d, tk, os⟩ := s
  dsimp only at F hl hg hQ
  subst hg
  refine wpAny_call ?_
  refine codeAny_call_generator (fd := fnOf name qual params body scope dV kV doc pm an cdv ct) (body := body) hr ((X.keeps F.keep) _ _ ho) rfl hco hgen rfl (codeRec_of (X.keeps F.keep) hcd) (hbind _ _ _ _ _ _ ?_)
  refine wpAny_newFunctionEnv hcell (by intro x hx; rw [List.mem_singleton.mp hx]; exact hloc) (fun h₁ hns hsb => ?_) hk
  dsimp only at hns hsb
  have up : ∀ b o, hp.get? b = some o → h₁.get? b = some o := fun b o e => hsb.extBut b o (Nat.ne_of_lt (Heap.lt_size e)) (Heap.get?_push_of_some _ e)
  have z : h₁.objs.size = hp.objs.size + 1 := by rw [hsb.1, Heap.size_push]
  refine ⟨(T.nolimit.keeps F.keep).keeps up, ?_⟩
  have fin := hQ (h₁.push { cls := .type "generator", data := .fields #[.int 0 0, .str name (tk + 1), .str qual (tk + 1 + 1)] }) (tk + 1 + 1 + 1) (.str name (tk + 1)) (.str qual (tk + 1 + 1)) (.fresh (.func body (envOf qual scope hp.objs.size 55 cdv)))
    (by rw [Heap.size_push, z]) (by rw [← z]; exact Heap.get?_push_size _ rfl) (fun b o e => Heap.get?_push_of_some _ (up b o e)) ?ga ⟨_, rfl⟩
  · show Q (.ref h₁.objs.size) _
    rw [← z] at fin
    exact fin
  · intro S₀ out val fin A n s₂ hh G q hS P hn
    have F₁ : Fr h₀ hp.objs.size h₁ (fun x => [(Str.ofString "grouping", Value.ref l)].reverse.lookup x) := ⟨hns, fun b o e => up b o (F.keep b o e), G.above⟩
    have q' : ∀ b o, b ∉ out → h₁.get? b = some o → s₂.heap.get? b = some o := fun b o hb e => q b o hb (Heap.get?_push_of_some _ e)
    exact ⟨rfl, sp hp.objs.size l S₀ out items val fin A n s₂ _ hh G (frQuiet F₁ G q') rfl ((hl.at fun o e => up l o e).at fun o e => q' l o (fun hb => (G.out _ hb).2.2.1 rfl) e) hS P hn⟩
end Mine
end
section
open PySem PySem.W PyProof.Rows
set_option Elab.async false
set_option maxRecDepth 100000
namespace Mine
abbrev PR : Program := PySem.Challenge.rw_to0012_01.row.prog
noncomputable def outs (Lg : Nat) : List Addr := [Lg + 2, Lg + 2 + 2, Lg + 2 + 3, Lg + 6, Lg + 7]
theorem outs_off {Lg b : Nat} (h : b ∉ outs Lg) : b ≠ Lg + 2 ∧ b ≠ Lg + 4 ∧ b ≠ Lg + 5 ∧ b ≠ Lg + 6 ∧ b ≠ Lg + 7 := by
  simp only [outs, List.mem_cons, List.not_mem_nil, or_false, not_or] at h
  obtain ⟨h1, h2, h3, h4, h5⟩ := h
  exact ⟨h1, h2, h3, h4, h5⟩
theorem outs_in {Lg b : Nat} (h : b ∈ outs Lg) : b = Lg + 2 ∨ b = Lg + 4 ∨ b = Lg + 5 ∨ b = Lg + 6 ∨ b = Lg + 7 := by
  simp only [outs, List.mem_cons, List.not_mem_nil, or_false] at h
  exact h
noncomputable def GNx (w : World) (A2 : Around) (val : Nat → Value) (fin : Nat → Prop) (Lg : Nat) (n : Nat) (h : Heap) (gs : GenState) : Prop :=
  ∀ s₂ : Shared, (∀ b o, b ∉ outs Lg → h.get? b = some o → s₂.heap.get? b = some o) → Lg + 8 ≤ s₂.heap.objs.size →
    gs.Goes (model PR w) A2 (GR fin Lg (Lg + 8)) (GY val fin (outs Lg) Lg (Lg + 8)) n (.send .none) s₂
theorem GNx.quiet {w : World} {A2 : Around} {val : Nat → Value} {fin : Nat → Prop} {Lg n : Nat} {h h' : Heap} {gs : GenState} (X : GNx w A2 val fin Lg n h gs)
    (q : ∀ b o, b ∉ outs Lg → h.get? b = some o → h'.get? b = some o) : GNx w A2 val fin Lg n h' gs :=
  fun s₂ q₂ hS => X s₂ (fun b o hb e => q₂ b o hb (q b o hb e)) hS
section
variable {w : World} {A : Around} {E : Value → Shared → Prop} {s : Shared} {val : Nat → Value} {fin : Nat → Prop} {Lg n : Nat} {h : Heap} {gs : GenState} {nm qn : Value}
theorem gnext_item {ga : Addr} {Q : Value → Shared → Prop} (hh : A.handled = none) (hl : s.heap.NoLimit) (hr : A.depth < recursionLimit)
    (hg : s.heap.get? ga = some { cls := .type "generator", data := .fields #[.int 0 0, nm, qn] }) (hgs : s.gens = #[gs])
    (X : GNx w A.in1 val fin Lg (n + 1) h gs) (q : ∀ b o, b ∉ outs Lg → h.get? b = some o → s.heap.get? b = some o) (hS : Lg + 8 ≤ s.heap.objs.size) (hfin : ¬ fin (n + 1))
    (hQ : ∀ h₂ tk gs', gs'.bare = true → (∀ b o, b ≠ Lg → b < Lg + 8 → s.heap.get? b = some o → h₂.get? b = some o) → (n ≠ 0 → GNx w A.in1 val fin Lg n h₂ gs') →
      Q (val n) { s with heap := h₂, toks := tk, gens := #[gs'] }) :
    wpAny (model PR w) A (Builtin.SmallTypes.nextOf (.ref ga)) Q E s := by
  obtain ⟨hp, g, d, tk, os⟩ := s
  dsimp only at hgs; subst hgs
  refine nextOf_gen (g := 0) (gs := gs) (n := n + 1) (P := GP fin Lg (Lg + 8)) (Y := GY val fin (outs Lg) Lg (Lg + 8)) hh hl hr ⟨_, nm, qn, hg, rfl, rfl, rfl⟩ rfl (X _ q hS) (fun v s₁ gs' hb hY => ?_) (fun s₁ hP => absurd hP.1 hfin)
  obtain ⟨⟨rfl, _⟩, ⟨h₂, tk₂, rfl, up⟩, nx⟩ := hY
  exact hQ h₂ tk₂ gs' hb up (fun hn s₂ q₂ _ => nx hn s₂ q₂)
theorem gnext_end {ga : Addr} {Q : Value → Shared → Prop} (hh : A.handled = none) (hl : s.heap.NoLimit) (hr : A.depth < recursionLimit)
    (hg : s.heap.get? ga = some { cls := .type "generator", data := .fields #[.int 0 0, nm, qn] }) (hgs : s.gens = #[gs])
    (X : GNx w A.in1 val fin Lg (n + 1) h gs) (q : ∀ b o, b ∉ outs Lg → h.get? b = some o → s.heap.get? b = some o) (hS : Lg + 8 ≤ s.heap.objs.size) (hfin : fin (n + 1))
    (hE : ∀ h₂ tk e, (∀ b o, b ≠ Lg → b < Lg + 8 → s.heap.get? b = some o → h₂.get? b = some o) → (∃ o, h₂.get? e = some o ∧ o.cls = .type "StopIteration") →
      E (.ref e) { s with heap := h₂, toks := tk, gens := #[.finished] }) :
    wpAny (model PR w) A (Builtin.SmallTypes.nextOf (.ref ga)) Q E s := by
  obtain ⟨hp, g, d, tk, os⟩ := s
  dsimp only at hgs; subst hgs
  refine nextOf_gen (g := 0) (gs := gs) (n := n + 1) (P := GP fin Lg (Lg + 8)) (Y := GY val fin (outs Lg) Lg (Lg + 8)) hh hl hr ⟨_, nm, qn, hg, rfl, rfl, rfl⟩ rfl (X _ q hS) (fun v s₁ gs' hb hY => absurd hfin hY.1.2) (fun s₁ hP h' e up he => ?_)
  obtain ⟨_, h₂, tk₂, rfl, up₂⟩ := hP
  exact hE h' tk₂ e (fun b o n1 n2 e => up b o (up₂ b o n1 n2 e)) he
end
end Mine
end
section
open PySem PySem.W PyProof.Rows
set_option Elab.async false
set_option maxRecDepth 100000
namespace Mine
structure ZSt (w : World) (A2 : Around) (val : Nat → Value) (fin : Nat → Prop) (Lg N j : Nat) (h : Heap) (gs : GenState) : Prop where
  zip : IsZip h (Lg + 2 + 3) (Lg + 2 + 1) (Lg + 2 + 2) .none
  ti : IsPair h (Lg + 2 + 1) (.ref (Lg + 2)) (.ref (Lg + 1))
  to : ∃ a b, IsPair h (Lg + 2 + 2) a b
  rg : IsRangeIter h (Lg + 2) j (5 - j) 1
  gen : ∃ nm qn, h.get? (Lg + 1) = some { cls := .type "generator", data := .fields #[.int 0 0, nm, qn] }
  bare : gs.bare = true
  nx : N - j ≠ 0 → GNx w A2 val fin Lg (N - j) h gs
section
variable {w : World} {A A2 : Around} {E : Value → Shared → Prop} {s : Shared} {val : Nat → Value} {fin : Nat → Prop} {Lg n N j : Nat} {h h' : Heap} {gs : GenState}
theorem ZSt.frame (Z : ZSt w A2 val fin Lg N j h gs) (k : ∀ b o, b ≠ Lg + 6 → b ≠ Lg + 7 → h.get? b = some o → h'.get? b = some o) : ZSt w A2 val fin Lg N j h' gs where
  zip := k _ _ (by omega) (by omega) Z.zip
  ti := k _ _ (by omega) (by omega) Z.ti
  to := by obtain ⟨a, b, e⟩ := Z.to; exact ⟨a, b, k _ _ (by omega) (by omega) e⟩
  rg := k _ _ (by omega) (by omega) Z.rg
  gen := by obtain ⟨a, b, e⟩ := Z.gen; exact ⟨a, b, k _ _ (by omega) (by omega) e⟩
  bare := Z.bare
  nx := fun hn => (Z.nx hn).quiet fun b o hb e => k b o (outs_off hb).2.2.2.1 (outs_off hb).2.2.2.2 e
theorem zitem {Q : Option Value → Shared → Prop} (hh : A.handled = none) (hr : A.in1.depth < recursionLimit) (Z : ZSt w A.in1.in1 val fin Lg N j s.heap gs) (hgs : s.gens = #[gs])
    (hj : j < 5) (hn : N - j = n + 1) (hfin : ¬ fin (n + 1)) (hC : ∃ o, s.heap.get? (Lg + 7) = some o)
    (hlim : ∀ h₁ : Heap, (∀ c o, c ≠ Lg + 2 → c ≠ Lg + 4 → c ≠ Lg + 5 → s.heap.get? c = some o → h₁.get? c = some o) → h₁.NoLimit)
    (hQ : ∀ (T : Nat) h' tk tk' gs', IsZip h' (Lg + 2 + 3) (Lg + 2 + 1) (Lg + 2 + 2) (rawInt T) → IsPair h' T (.int j tk') (val n) → Lg + 8 ≤ T →
      (∀ h'', IsZip h'' (Lg + 2 + 3) (Lg + 2 + 1) (Lg + 2 + 2) .none → (∀ b o, b ≠ Lg + 5 → h'.get? b = some o → h''.get? b = some o) → ZSt w A.in1.in1 val fin Lg N (j + 1) h'' gs') →
      (∀ b o, b ≠ Lg → b ≠ Lg + 2 → b ≠ Lg + 4 → b ≠ Lg + 5 → b < Lg + 8 → s.heap.get? b = some o → h'.get? b = some o) →
      Q (some (.ref T)) { s with heap := h', toks := tk, gens := #[gs'] }) :
    wpAny (model PR w) A (pyNext (.ref (Lg + 2 + 3))) Q E s := by
  obtain ⟨nm, qn, hgen⟩ := Z.gen
  obtain ⟨a, b, hTO⟩ := Z.to
  obtain ⟨oC, hC⟩ := hC
  have X := Z.nx (by omega)
  rw [hn] at X
  refine pyNext_zip_item Z.zip rfl (zipn_item (B := Lg + 2) (ga := Lg + 1)
    (G := fun y s₂ => y = val n ∧ ∃ h₂ tk gs', s₂ = { s with heap := h₂, toks := tk, gens := #[gs'] } ∧ gs'.bare = true ∧
      (∀ b o, b ≠ Lg → b ≠ Lg + 2 → b ≠ Lg + 4 → b ≠ Lg + 5 → b < Lg + 8 → s.heap.get? b = some o → h₂.get? b = some o) ∧ (n ≠ 0 → GNx w A.in1.in1 val fin Lg n h₂ gs'))
    Z.zip Z.ti hTO Z.rg (by omega) (fun h₁ Q' E' up hq => ?_) fun y s₂ h' T hG hz hTI hTO' hrg hT hnew hTs hsz up => ?_)
  · have hC₁ : h₁.get? (Lg + 7) = some oC := up _ _ (by omega) (by omega) (by omega) hC
    refine gnext_item (A := A.in1) (h := s.heap) (gs := gs) (nm := nm) (qn := qn) hh (hlim h₁ up) hr (up _ _ (by omega) (by omega) (by omega) hgen) hgs X
      (fun b o hb e => up b o (outs_off hb).1 (outs_off hb).2.1 (outs_off hb).2.2.1 e) (Heap.lt_size hC₁) hfin fun h₂ tk gs' hb up₂ nx => hq _ _ ⟨rfl, h₂, tk, gs', rfl, hb, fun b o n0 n1 n2 n3 n4 e => up₂ b o n0 n4 (up b o n1 n2 n3 e), nx⟩ fun c o hc e => up₂ c o (by omega) (by omega) e
  · obtain ⟨rfl, h₂, tk, gs', rfl, hb, up₂, nx⟩ := hG
    have hC₂ : h₂.get? (Lg + 7) = some oC := up₂ _ _ (by omega) (by omega) (by omega) (by omega) (by omega) hC
    have hg₂ := up₂ _ _ (by omega) (by omega) (by omega) (by omega) (by omega) hgen
    refine hQ T h' tk s.toks gs' hz hT (by rw [hTs]; exact Heap.lt_size hC₂) (fun h'' hz'' up'' => ⟨hz'', up'' _ _ (by omega) hTI, ⟨_, _, up'' _ _ (by omega) hTO'⟩, ?_, ⟨nm, qn, up'' _ _ (by omega) (up _ _ (by omega) (by omega) hg₂)⟩, hb, fun hn' => ?_⟩)
      fun b o n0 n1 n2 n3 n4 e => up b o n2 n3 (up₂ b o n0 n1 n2 n3 n4 e)
    · have := up'' _ _ (by omega) hrg
      rw [show (((j + 1 : Nat)) : Int) = (j : Int) + 1 from rfl]
      exact this
    · have e : N - (j + 1) = n := by omega
      rw [e] at hn' ⊢
      exact (nx hn').quiet fun b o hb e => up'' b o (outs_off hb).2.2.1 (up b o (outs_off hb).2.1 (outs_off hb).2.2.1 e)
theorem zend_gen {Q : Option Value → Shared → Prop} (hh : A.handled = none) (hr : A.in1.depth < recursionLimit) (Z : ZSt w A.in1.in1 val fin Lg N j s.heap gs) (hgs : s.gens = #[gs])
    (hj : j < 5) (hn : N - j = n + 1) (hfin : fin (n + 1)) (hC : ∃ o, s.heap.get? (Lg + 7) = some o)
    (hlim : ∀ h₁ : Heap, (∀ c o, c ≠ Lg + 2 → c ≠ Lg + 4 → c ≠ Lg + 5 → s.heap.get? c = some o → h₁.get? c = some o) → h₁.NoLimit)
    (hQ : ∀ h' tk gs', gs'.bare = true → (∀ b o, b ≠ Lg → b ≠ Lg + 2 → b ≠ Lg + 4 → b ≠ Lg + 5 → b < Lg + 8 → s.heap.get? b = some o → h'.get? b = some o) → Q none { s with heap := h', toks := tk, gens := #[gs'] }) :
    wpAny (model PR w) A (pyNext (.ref (Lg + 2 + 3))) Q E s := by
  obtain ⟨nm, qn, hgen⟩ := Z.gen
  obtain ⟨a, b, hTO⟩ := Z.to
  obtain ⟨oC, hC⟩ := hC
  have X := Z.nx (by omega)
  rw [hn] at X
  refine pyNext_zip_end Z.zip rfl (zipn_end_gen (B := Lg + 2) (ga := Lg + 1)
    (G := fun s₂ => ∃ h₂ tk, s₂ = { s with heap := h₂, toks := tk, gens := #[.finished] } ∧ (∀ b o, b ≠ Lg → b ≠ Lg + 2 → b ≠ Lg + 4 → b ≠ Lg + 5 → b < Lg + 8 → s.heap.get? b = some o → h₂.get? b = some o))
    Z.zip Z.ti hTO Z.rg (by omega) (fun h₁ Q' E' up hq => ?_) fun s₂ h' e hG up he => ?_)
  · have hC₁ : h₁.get? (Lg + 7) = some oC := up _ _ (by omega) (by omega) (by omega) hC
    refine gnext_end (A := A.in1) (h := s.heap) (gs := gs) (nm := nm) (qn := qn) hh (hlim h₁ up) hr (up _ _ (by omega) (by omega) (by omega) hgen) hgs X
      (fun b o hb e => up b o (outs_off hb).1 (outs_off hb).2.1 (outs_off hb).2.2.1 e) (Heap.lt_size hC₁) hfin fun h₂ tk e up₂ he => hq e _ ⟨h₂, tk, rfl, fun b o n0 n1 n2 n3 n4 e => up₂ b o n0 n4 (up b o n1 n2 n3 e)⟩ he fun c o hc e => up₂ c o (by omega) (by omega) e
  · obtain ⟨h₂, tk, rfl, up₂⟩ := hG
    exact ⟨e, rfl, he, hQ h' tk .finished rfl fun b o n0 n1 n2 n3 n4 e => up b o n2 n3 (up₂ b o n0 n1 n2 n3 n4 e)⟩
theorem zend_range {Q : Option Value → Shared → Prop} (hh : A.handled = none) (Z : ZSt w A.in1.in1 val fin Lg N j s.heap gs) (hgs : s.gens = #[gs]) (hj : 5 ≤ j)
    (hQ : ∀ h' tk gs', gs'.bare = true → (∀ b o, b ≠ Lg → b ≠ Lg + 2 → b ≠ Lg + 4 → b ≠ Lg + 5 → b < Lg + 8 → s.heap.get? b = some o → h'.get? b = some o) → Q none { s with heap := h', toks := tk, gens := #[gs'] }) :
    wpAny (model PR w) A (pyNext (.ref (Lg + 2 + 3))) Q E s := by
  obtain ⟨a, b, hTO⟩ := Z.to
  refine pyNext_zip_end Z.zip rfl (zipn_end_range (B := Lg + 2) (ga := Lg + 1) hh Z.zip Z.ti hTO Z.rg (by omega) fun h' e up he => ⟨e, rfl, he, ?_⟩)
  have := hQ h' s.toks gs Z.bare fun b o n0 n1 n2 n3 n4 e => up b o n1 n2 n3 e
  rw [← hgs] at this
  exact this
end
end Mine
end
section
open PySem PySem.W PyProof.Rows
set_option Elab.async false
set_option maxRecDepth 100000
set_option maxHeartbeats 2000000
namespace Mine
open PySem.Spec PySem.Calls PyProof.Rows.LCg
theorem ne9 {a b : Nat} (h : @Ne Nat a b) : @Ne Addr a b := h
/-- the generator as it was made -/
structure GenMade (w : World) (h₀ : Heap) (Lg l : Nat) (items : Array Value) (h : Heap) (gs : GenState) : Prop where
  size : h.objs.size = Lg + 2
  obj : ∃ nm qn, h.get? (Lg + 1) = some { cls := .type "generator", data := .fields #[.int 0 0, nm, qn] }
  spec : GenAt w h₀ Lg l items h gs
  bare : gs.bare = true
  ll : l < Lg
structure ZipMade (w : World) (h₀ : Heap) (Lg l : Nat) (items : Array Value) (h : Heap) (gs : GenState) : Prop where
  size : h.objs.size = Lg + 6
  obj : ∃ nm qn, h.get? (Lg + 1) = some { cls := .type "generator", data := .fields #[.int 0 0, nm, qn] }
  spec : GenAt w h₀ Lg l items h gs
  bare : gs.bare = true
  ll : l < Lg
  zip : IsZip h (Lg + 2 + 3) (Lg + 2 + 1) (Lg + 2 + 2) .none
  ti : IsPair h (Lg + 2 + 1) (.ref (Lg + 2)) (.ref (Lg + 1))
  to : IsPair h (Lg + 2 + 2) .none .none
  rg : IsRangeIter h (Lg + 2) 0 5 1
/-- what the block makes, and how it ends -/
structure ZEnds (xs : List Value) (val : Nat → Value) (fin : Nat → Prop) (N : Nat) : Prop where
  item : ∀ j, j < xs.length → j < 5 ∧ ∃ n, N - j = n + 1 ∧ ¬ fin (n + 1) ∧ xs[j]? = some (val n)
  last : xs.length = 5 ∨ (xs.length < 5 ∧ ∃ n, N - xs.length = n + 1 ∧ fin (n + 1))
noncomputable def SrcZ (w : World) (A : Around) (h₀ : Heap) (L : Addr) (m : Str → Option Value) (y : Str) (Q : Flow → Shared → Prop) (xv : Value) (s₁ : Shared) : Prop :=
  ∃ (Lg l : Nat) (items : Array Value) (gs : GenState) (val : Nat → Value) (fin : Nat → Prop) (N : Nat) (xs : List Value) (news : List (Addr × Obj)),
    xv = .ref (Lg + 2 + 3) ∧ A.handled = none ∧ A.in1.depth < recursionLimit ∧ s₁.gens = #[gs] ∧ ZipMade w h₀ Lg l items s₁.heap gs ∧ Fr h₀ L s₁.heap m ∧ News h₀ L s₁.heap news ∧ (∀ p ∈ news, p.1 < Lg) ∧ L < Lg ∧ h₀.objs.size ≤ Lg ∧ h₀.NoLimit ∧
    Plan val fin items 0 .none N ∧ N ≠ 0 ∧ ZEnds xs val fin N ∧
    ∀ D h tk gs', Fr h₀ L h (fun z => if z = y then some (.ref D) else m z) → News h₀ L h ((D, lst xs) :: news) → (∀ p ∈ news, p.1 < D) → AllBare gs' → Q .next { s₁ with heap := h, toks := tk, gens := gs' }
section
variable {w : World} {A : Around} {E : Value → Shared → Prop} {s : Shared} {h₀ : Heap} {L : Addr} {m : Str → Option Value} {env : Env}
theorem Assign_ListComp_Z {iter : PySem.Expr} {x x₂ y : Str} {px px₂ pe tp py : Pos} {tk} {scope : Scope} {cl : List (Str × Addr)} {pos spos : Pos} {Q : Flow → Shared → Prop} (F₀ : Fr h₀ L s.heap m) (hLe : env.locals = L)
    (hsw : swapsWith (.ListComp (.Name x₂ pe) [⟨.Tuple [.Name x px, .Name x₂ px₂] tk tp, iter, [], 0⟩] scope pos) (some (.Name y py)) spos.line env = pure true)
    (hclos : closureFor scope env = pure cl) (hcell : ∀ z ∈ scope.names, z.2 ≠ .cell) (hkind : scope.kind = .function)
    (hnames : ∀ z ∈ scope.names, z.2 = .local → scope.names.lookup z.1 = some .local) (hx : scope.names.lookup x = some .local) (hx₂ : scope.names.lookup x₂ = some .local) (hxx : x ≠ x₂)
    (hd : (x₂ == ("__debug__" : Str)) = false)
    (hy : env.kindOf y = some .local) (hp : (env.scope.kind == .class || (env.scope.kind == .module && env.locals != env.globals)) = false)
    (h : wpAny (model PR w) A (eval iter env) (SrcZ w A h₀ L m y Q) E s)
    (hs : ∀ x, foldedSetIterable iter env x = pure x := by intro _; rfl) :
    wpAny (model PR w) A (exec (.Assign [.Name y py] (.ListComp (.Name x₂ pe) [⟨.Tuple [.Name x px, .Name x₂ px₂] tk tp, iter, [], 0⟩] scope pos) spos) env) Q E s := by
  subst hLe
  rw [exec_Assign_Name_used _ _ _ _ hsw]
  refine wpAny_bind (wpAny_standAt (wpAny_bind ?_))
  show wpAny _ A (do let _ ← comprehension (.ListComp (.Name x₂ pe) [⟨.Tuple [.Name x px, .Name x₂ px₂] tk tp, iter, [], 0⟩] scope pos) scope env _ (newList []) false (eval iter env) (some (assign (.Name y py) env))) _ _ s
  refine wpAny_bind (wpAny_mono (wpAny_comprehension_free (use := some (assign (.Name y py) env)) (Q := fun _ s' => Q .next s') rfl hs hclos hkind hnames
    (wpAny_mono h (fun xv s₁ h₁ => ?_) fun _ _ e => e)) (fun _ s' hq => wpAny_pure (wpAny_pure hq)) fun _ _ e => e)
  obtain ⟨Lg, l, items, gs, val, fin, N, xs, news, rfl, hh, hr, hgs, Z, F, NW, below, hLL, hab, hlim, P, hN, EN, fin'⟩ := h₁
  obtain ⟨hp₁, g₁, d₁, tk₁, os₁⟩ := s₁
  dsimp only at hgs; subst hgs
  refine wpAny_pyIter_zip Z.zip ?_
  refine wpAny_newObj_type (wpAny_newFunctionEnv hcell (by intro y hy; simp at hy) (fun h₁ hns₁ hsb₁ => ?_) hkind)
  dsimp only at hns₁ hsb₁ F NW Z ⊢
  have hsz : hp₁.objs.size = Lg + 6 := Z.size
  generalize hH2 : hp₁.push { cls := .type "list", dict := none, data := .seq ([] : List Value).toArray } = H2 at hns₁ hsb₁ ⊢
  have hC : H2.objs.size = Lg + 7 := by rw [← hH2, Heap.size_push, hsz]
  rw [hsz]
  rw [hC] at hns₁ hsb₁ ⊢
  have old : ∀ b o, hp₁.get? b = some o → h₁.get? b = some o := fun b o e => hsb₁.extBut b o (ne9 (Nat.ne_of_lt (Nat.lt_succ_of_lt (hsz ▸ Heap.lt_size e : @LT.lt Nat _ b (Lg + 6))))) (Heap.get?_push_of_some _ (hH2 ▸ Heap.get?_push_of_some _ e))
  have hacc : h₁.get? (Lg + 6) = some (lst []) := hsb₁.extBut _ _ (ne9 (by omega)) (Heap.get?_push_of_some _ (hH2 ▸ (by rw [← hsz]; exact Heap.get?_push_size _ rfl)))
  have GS : GSet h₀ Lg l (Lg + 8) (outs Lg) := ⟨hab, (by omega : Lg < Lg + 8), ne9 (by have := Z.ll; omega), (by have := Z.ll; omega : l < Lg + 8), fun (b : Nat) hb => by
    have := outs_in hb
    have q : b < Lg + 8 ∧ b ≠ Lg ∧ b > Lg := by omega
    exact ⟨q.1, q.2.1, ne9 (by have := Z.ll; omega), Heap.get?_none_of_le (by omega)⟩⟩
  have loop : ∀ s₃ : Shared, s₃ = { heap := h₁, gens := #[gs], drawn := d₁, toks := tk₁ + ([] : List (Str × Value)).length, os := os₁ } →
      codeAny (model PR w) A (.compLoop (.ListComp (.Name x₂ pe) [⟨.Tuple [.Name x px, .Name x₂ px₂] tk tp, iter, [], 0⟩] scope pos) 0 (.ref (Lg + 2 + 3)) (.ref (Lg + 6)) (compEnvC scope cl (Lg + 7) env))
        (compPost (model PR w) A E (some (assign (.Name y py) env)) (fun _ s' => Q .next s') (.ref (Lg + 6)) (Lg + 7)) s₃ := by
    rintro s₃ rfl
    refine LCp.codeAny_compLoop_pair
      (fun k s' => ∃ h' tk j m' gs', s' = { heap := h', gens := #[gs'], drawn := d₁, toks := tk, os := os₁ } ∧ j ≤ xs.length ∧ k = xs.length + 1 - j ∧ ZSt w A.in1.in1 val fin Lg N j h' gs' ∧ h'.Ns (Lg + 7) m' ∧ h'.get? (Lg + 6) = some (lst (xs.take j)) ∧
        ∀ b o, b ≠ Lg → b ≠ Lg + 2 → b ≠ Lg + 4 → b ≠ Lg + 5 → b < Lg + 6 → hp₁.get? b = some o → h'.get? b = some o) ?_ (xs.length + 1)
      ⟨h₁, _, 0, _, gs, rfl, Nat.zero_le _, rfl, ⟨old _ _ Z.zip, old _ _ Z.ti, ⟨_, _, old _ _ Z.to⟩, old _ _ Z.rg, by obtain ⟨a, b, e⟩ := Z.obj; exact ⟨a, b, old _ _ e⟩, Z.bare, fun hn s₂ q hS => ?_⟩, hns₁, hacc, fun b o _ _ _ _ _ e => old b o e⟩
    · rintro k s' ⟨h', tk, j, m', gs', rfl, hj, rfl, Z', hn', hD', up'⟩
      have hC' : ∃ o, h'.get? (Lg + 7) = some o := by obtain ⟨o, _, _, ho, _⟩ := hn'; exact ⟨o, ho⟩
      have hlim' : ∀ h₁ : Heap, (∀ c o, c ≠ Lg + 2 → c ≠ Lg + 4 → c ≠ Lg + 5 → h'.get? c = some o → h₁.get? c = some o) → h₁.NoLimit := fun h₁ u => hlim.keeps fun b o e => by
        have q : @LT.lt Nat _ b Lg := Nat.lt_of_lt_of_le (Heap.lt_size e) hab
        exact u b o (by omega) (by omega) (by omega) (up' b o (by omega) (by omega) (by omega) (by omega) (by omega) (F.keep b o e))
      by_cases hlt : j < xs.length
      · obtain ⟨h5, n, hn, hfin, hxj⟩ := EN.item j hlt
        refine zitem hh hr Z' rfl h5 hn hfin hC' hlim' fun T h₂ tk₂ tk₃ gs₂ hz hT hTge mk up₂ => ?_
        refine wpAny_letOwnedTupleGo_zip hz fun h₃ hz₃ hs₃ => ?_
        refine assign_Tuple_tuple hh (items := #[.int j tk₃, val n]) ⟨_, hs₃.extBut _ _ (ne9 (by omega)) hT, rfl, _, rfl⟩ rfl rfl fun h₄ he₄ => ?_
        have k₄ : ∀ b o, h₃.get? b = some o → h₄.get? b = some o := fun b o e => he₄ b o (Nat.ne_of_lt (Heap.lt_size e)) e
        have hn₄ : h₄.Ns (Lg + 7) m' := ((hn'.at' fun o e => up₂ _ o (by omega) (by omega) (by omega) (by omega) (by omega) e).sameBut hs₃ (ne9 (by omega))).at' fun o e => k₄ _ o e
        refine assignInOrder_cons (wpAny_assign_Name (wpAny_storeName_local (lookup_relabel_local hx) hn₄ (fun h₅ hn₅ hs₅ => ?_) (by simp [compEnvC, relabel, hkind])))
        refine assignInOrder_cons (wpAny_assign_Name (wpAny_storeName_local (lookup_relabel_local hx₂) hn₅ (fun h₆ hn₆ hs₆ => ?_) (by simp [compEnvC, relabel, hkind])))
        refine assignInOrder_nil ?_
        refine wpAny_Name (wpAny_loadName_local (v := val n) (by simp [compEnvC, relabel, hkind]) (lookup_relabel_local hx₂) hn₆ (by simp) ?_) hd
        have k₆ : ∀ b o, b ≠ Lg + 7 → h₃.get? b = some o → h₆.get? b = some o := fun b o n e => hs₆.extBut b o (ne9 n) (hs₅.extBut b o (ne9 n) (k₄ b o e))
        have z₃ := mk h₃ hz₃ fun b o n e => hs₃.extBut b o (ne9 n) e
        have hD₆ : h₆.get? (Lg + 6) = some (lst (xs.take j)) := k₆ _ _ (by omega) (hs₃.extBut _ _ (ne9 (by omega)) (up₂ _ _ (by omega) (by omega) (by omega) (by omega) (by omega) hD'))
        refine append_at (hsz := by show (xs.take j).toArray.size ≤ sizeLine; rw [List.size_toArray, List.length_take]; exact Nat.le_trans (Nat.min_le_left _ _) (Nat.le_trans (Nat.le_of_lt h5) (by decide))) hD₆ fun h₇ hs₇ hD₇ => ?_
        refine ⟨xs.length + 1 - (j + 1), by omega, h₇, _, j + 1, _, gs₂, rfl, hlt, rfl, z₃.frame fun b o n6 n7 e => hs₇.extBut b o (ne9 n6) (k₆ b o n7 e), hn₆.sameBut hs₇ (ne9 (show (Lg + 7 : Nat) ≠ Lg + 6 by omega)), ?_, fun b o n0 n1 n2 n3 n4 e => ?_⟩
        · rw [hD₇]
          refine congrArg some ?_
          rw [lst_snoc, List.take_add_one, hxj]
          rfl
        · exact hs₇.extBut b o (ne9 (by omega)) (k₆ b o (by omega) (hs₃.extBut b o (ne9 (by omega)) (up₂ b o n0 n1 n2 n3 (by omega) (up' b o n0 n1 n2 n3 n4 e))))
      · have hje : j = xs.length := by omega
        subst hje
        have last : ∀ h₂ tk₂ gs₂, gs₂.bare = true → (∀ b o, b ≠ Lg → b ≠ Lg + 2 → b ≠ Lg + 4 → b ≠ Lg + 5 → b < Lg + 8 → h'.get? b = some o → h₂.get? b = some o) →
            compPost (model PR w) A E (some (assign (.Name y py) env)) (fun _ s' => Q .next s') (.ref (Lg + 6)) (Lg + 7) (.ok .next) { heap := h₂, gens := #[gs₂], drawn := d₁, toks := tk₂, os := os₁ } := by
          intro h₂ tk₂ gs₂ hb up₂
          have ku : ∀ b o, @LT.lt Nat _ b Lg → hp₁.get? b = some o → h₂.get? b = some o := fun b o q e => up₂ b o (by omega) (by omega) (by omega) (by omega) (by omega) (up' b o (by omega) (by omega) (by omega) (by omega) (by omega) e)
          have F' : Fr h₀ env.locals h₂ m := ⟨F.ns.at' fun o e => ku _ o hLL e, fun b o e => ku b o (Nat.lt_of_lt_of_le (Heap.lt_size e) hab) (F.keep b o e), F.above⟩
          have hC₀ : h₀.get? (Lg + 7) = none := Heap.get?_none_of_le (by omega)
          have hD₀ : h₀.get? (Lg + 6) = none := Heap.get?_none_of_le (by omega)
          have hCL : @Ne Addr (Lg + 7) env.locals := ne9 (Nat.ne_of_gt (Nat.lt_of_lt_of_le hLL (by omega)))
          have hDL : @Ne Addr (Lg + 6) env.locals := ne9 (Nat.ne_of_gt (Nat.lt_of_lt_of_le hLL (by omega)))
          rw [List.take_of_length_le (Nat.le_refl _)] at hD'
          have N' : News h₀ env.locals h₂ ((Lg + 6, lst xs) :: news) := fun p hp => by
            rcases List.mem_cons.mp hp with rfl | hp
            · exact ⟨up₂ _ _ (by omega) (by omega) (by omega) (by omega) (by omega) hD', hDL, hD₀⟩
            · exact ⟨ku _ _ (below p hp) (NW p hp).1, (NW p hp).2⟩
          have hn₂ : h₂.Ns (Lg + 7) m' := hn'.at' fun o e => up₂ _ o (by omega) (by omega) (by omega) (by omega) (by omega) e
          show wpAny _ A (assign (.Name y py) env (.ref (Lg + 6))) _ _ _
          refine wpAny_assign_Name (wpAny_storeName_local hy F'.ns (fun h₃ hn₃ hs₃ => ?_) hp)
          have hL₀ : h₀.get? env.locals = none := Heap.get?_none_of_le F'.above
          have F₂ : Fr h₀ env.locals h₃ (fun z => if z = y then some (.ref (Lg + 6)) else m z) := ⟨hn₃, fun b o e => hs₃.extBut b o (fun q => by rw [q, hL₀] at e; cases e) (F'.keep b o e), F'.above⟩
          refine ⟨m', hn₂.sameBut hs₃ hCL, fun h'' hs'' => fin' (Lg + 6) h'' _ #[gs₂] (F₂.change hs'' hCL hC₀) (fun p hp => ?_) (fun p hp => Nat.lt_of_lt_of_le (below p hp) (by omega)) (AllBare.push AllBare.empty hb)⟩
          have z : h₃.get? p.1 = some p.2 := hs₃.extBut _ _ (N' p hp).2.1 (N' p hp).1
          refine ⟨hs''.extBut _ _ ?_ z, (N' p hp).2⟩
          rcases List.mem_cons.mp hp with rfl | hp
          · exact ne9 (by omega)
          · exact ne9 (Nat.ne_of_lt (Nat.lt_of_lt_of_le (below p hp) (by omega)))
        rcases EN.last with h5 | ⟨h5, n, hn, hfin⟩
        · exact zend_range hh Z' rfl (Nat.le_of_eq h5.symm) fun h₂ tk₂ gs₂ hb up₂ => last h₂ tk₂ gs₂ hb up₂
        · exact zend_gen hh hr Z' rfl h5 hn hfin hC' hlim' fun h₂ tk₂ gs₂ hb up₂ => last h₂ tk₂ gs₂ hb up₂
    · exact Z.spec (Lg + 8) (outs Lg) val fin _ N s₂ hh GS (fun b o hb e => q b o hb (old b o e)) hS P hN
  exact codeAny_compStart_list (loop _ rfl) (wpAny_pyIter_zip (old _ _ Z.zip) (loop _ rfl))
end
end Mine
end
section
open PySem PySem.W PyProof.Rows
set_option Elab.async false
set_option maxRecDepth 100000
set_option maxHeartbeats 2000000
namespace Mine
section
variable {w : World} {A : Around} {E : Value → Shared → Prop} {s : Shared} {h₀ : Heap} {L : Addr} {m : Str → Option Value} {mean : ExcName → Option Value} {mg mb : Str → Option Value} {news : List (Addr × Obj)}
theorem gen_K {Q : Value → Shared → Prop} {l : Nat} {items : Array Value} {k : Nat}
    (hr : A.depth < recursionLimit) (F : Fr h₀ L s.heap m) (N : News h₀ L s.heap news) (X : (hd.heap_39 w.params).In h₀)
    (T : Top hd.view_39 (looseW hd.view_39 [Str.ofString "_twin_re_1", Str.ofString "_twin_re_2", Str.ofString "EXACT_TOKEN_TYPES"]) mean mg mb h₀)
    (hl : (l, ({ cls := .type "list", data := .seq items k } : Obj)) ∈ news) (hg : s.gens = #[])
    (hQ : ∀ (Lg : Nat) (h' : Heap) (tk : Nat) (c : GenState), GenMade w h₀ Lg l items h' c → Fr h₀ L h' m → News h₀ L h' news → (∀ p ∈ news, p.1 < Lg) ∧ L < Lg ∧ h₀.objs.size ≤ Lg ∧ h₀.NoLimit → Q (.ref (Lg + 1)) { s with heap := h', gens := #[c], toks := tk }) :
    wpAny (model PR w) A (call (.ref 55) [.ref l]) Q E s := by
  have hl' := (N _ hl).1
  refine gen_law w mean mg mb h₀ L m s A Q E l items hr F X T ⟨_, hl', rfl, _, rfl⟩ hg fun h' tk nm qn c hsz hobj up sp hc => ?_
  obtain ⟨kc, rfl⟩ := hc
  refine hQ s.heap.objs.size h' tk _ ⟨hsz, ⟨nm, qn, hobj⟩, sp, rfl, Heap.lt_size hl'⟩ (F.keeps up) (N.grown up) ⟨fun p hp => Heap.lt_size (N p hp).1, F.ns.lt, ?_, T.nolimit⟩
  exact Nat.le_trans F.above (Nat.le_of_lt F.ns.lt)
theorem zip_K {Q : Value → Shared → Prop} {Lg l r : Nat} {items : Array Value} {gs : GenState} {t u v : Tok}
    (G : GenMade w h₀ Lg l items s.heap gs) (F : Fr h₀ L s.heap m) (N : News h₀ L s.heap news) (hm : (r, ({ cls := .type "range", dict := none, data := .fields #[.int 0 t, .int 5 u, .int 1 v], slots := #[] } : Obj)) ∈ news)
    (hQ : ∀ h', ZipMade w h₀ Lg l items h' gs → Fr h₀ L h' m → News h₀ L h' news → Q (.ref (Lg + 2 + 3)) { s with heap := h' }) :
    wpAny (model PR w) A (call (.type "zip") [.ref r, .ref (Lg + 1)]) Q E s := by
  obtain ⟨nm, qn, hobj⟩ := G.obj
  have hsz : s.heap.objs.size = Lg + 2 := G.size
  refine call_zip_rg (g := 0) (N _ hm).1 ⟨_, nm, qn, hobj, rfl, rfl, rfl⟩ fun h' z1 z2 z3 z4 z5 up => ?_
  rw [hsz] at z1 z2 z3 z4 z5 ⊢
  exact hQ h' ⟨z5, ⟨nm, qn, up _ _ hobj⟩, fun S₀ out val fin A n s₂ hh GS q hS P hn => G.spec S₀ out val fin A n s₂ hh GS (fun b o hb e => q b o hb (up b o e)) hS P hn, G.bare, G.ll, z1, z2, z3, z4⟩ (F.keeps up) (N.grown up)
end
section
variable {prog : Program} {w : World} {A : Around} {E : Value → Shared → Prop} {s : Shared} {h₀ : Heap} {L : Addr} {m : Str → Option Value} {news : List (Addr × Obj)}
theorem range_K {Q : Value → Shared → Prop} {t : Tok} (F₀ : Fr h₀ L s.heap m) (N : News h₀ L s.heap news)
    (h : ∀ D h' a b tk, Fr h₀ L h' m → News h₀ L h' ((D, { cls := .type "range", dict := none, data := .fields #[.int 0 a, .int 5 t, .int 1 b], slots := #[] }) :: news) → (∀ p ∈ news, p.1 < D) → Q (.ref D) { s with heap := h', toks := tk }) :
    wpAny (model prog w) A (call (.type "range") [.int 5 t]) Q E s :=
  call_range_1 (h _ _ _ _ _ (F₀.push _) (News.push F₀ N _) fun p hp => Heap.lt_size (N p hp).1)
theorem srcZ_of {Q : Flow → Shared → Prop} {y : Str} {Lg l N : Nat} {items : Array Value} {gs : GenState} {val : Nat → Value} {fin : Nat → Prop} {xs : List Value} (Z : ZipMade w h₀ Lg l items s.heap gs)
    (F : Fr h₀ L s.heap m) (NW : News h₀ L s.heap news) (hB : (∀ p ∈ news, p.1 < Lg) ∧ L < Lg ∧ h₀.objs.size ≤ Lg ∧ h₀.NoLimit) (hh : A.handled = none) (hr : A.in1.depth < recursionLimit) (hgs : s.gens = #[gs])
    (P : Plan val fin items 0 .none N ∧ ZEnds xs val fin N) (hN : N ≠ 0)
    (hQ : ∀ D h tk gs', Fr h₀ L h (fun z => if z = y then some (.ref D) else m z) → News h₀ L h ((D, LCg.lst xs) :: news) → (∀ p ∈ news, p.1 < D) → AllBare gs' → Q .next { s with heap := h, toks := tk, gens := gs' }) :
    SrcZ w A h₀ L m y Q (.ref (Lg + 2 + 3)) s :=
  ⟨Lg, l, items, gs, val, fin, N, xs, news, rfl, hh, hr, hgs, Z, F, NW, hB.1, hB.2.1, hB.2.2.1, hB.2.2.2, P.1, hN, P.2, hQ⟩
end
/-- the plans -/
noncomputable def valOf (xs : List Value) (N : Nat) (k : Nat) : Value := (xs[N - 1 - k]?).getD .none
theorem plan_end {a b c : Int} {ta tb tc : Tok} (ha : 1 ≤ a ∧ a ≤ 3) (hb : 1 ≤ b ∧ b ≤ 3) (hc : 1 ≤ c ∧ c ≤ 3) :
    Plan (valOf [.int a ta, .int b tb, .int c tc] 4) (· = 1) #[.int a ta, .int b tb, .int c tc] 0 .none 4 ∧ ZEnds [.int a ta, .int b tb, .int c tc] (valOf [.int a ta, .int b tb, .int c tc] 4) (· = 1) 4 := by
  refine ⟨.item rfl (by omega) (by omega) ⟨rfl, by decide⟩ fun _ => .item rfl (by omega) (by omega) ⟨rfl, by decide⟩ fun _ => .item rfl (by omega) (by omega) ⟨rfl, by decide⟩ fun _ => .done rfl rfl, ⟨fun j hj => ?_, .inr ⟨(show (3 : Nat) < 5 by decide), 0, rfl, rfl⟩⟩⟩
  match j, hj with
  | 0, _ => exact ⟨by decide, 3, rfl, by decide, rfl⟩
  | 1, _ => exact ⟨by decide, 2, rfl, by decide, rfl⟩
  | 2, _ => exact ⟨by decide, 1, rfl, by decide, rfl⟩
theorem plan_stop {a b c d : Int} {ta tb tc td t' : Tok} (ha : 1 ≤ a ∧ a ≤ 3) (hb : 1 ≤ b ∧ b ≤ 3) (hc : 1 ≤ c ∧ c ≤ 3) :
    Plan (valOf [.int a ta, .int b tb, .int c tc] 4) (· = 1) #[.int a ta, .int b tb, .int c tc, .int 127 t', .int d td] 0 .none 4 ∧ ZEnds [.int a ta, .int b tb, .int c tc] (valOf [.int a ta, .int b tb, .int c tc] 4) (· = 1) 4 := by
  refine ⟨.item rfl (by omega) (by omega) ⟨rfl, by decide⟩ fun _ => .item rfl (by omega) (by omega) ⟨rfl, by decide⟩ fun _ => .item rfl (by omega) (by omega) ⟨rfl, by decide⟩ fun _ => .stop rfl rfl, ⟨fun j hj => ?_, .inr ⟨(show (3 : Nat) < 5 by decide), 0, rfl, rfl⟩⟩⟩
  match j, hj with
  | 0, _ => exact ⟨by decide, 3, rfl, by decide, rfl⟩
  | 1, _ => exact ⟨by decide, 2, rfl, by decide, rfl⟩
  | 2, _ => exact ⟨by decide, 1, rfl, by decide, rfl⟩
theorem plan_zero {a b c d : Int} {ta tb tc td t' : Tok} (ha : 1 ≤ a ∧ a ≤ 3) (hb : 1 ≤ b ∧ b ≤ 3) (hc : 1 ≤ c ∧ c ≤ 3) :
    Plan (valOf [.int a ta, .int b tb, .int c tc, .int c tc, .int c tc] 5) (· = 100) #[.int a ta, .int b tb, .int c tc, .int 0 t', .int d td] 0 .none 5 ∧
      ZEnds [.int a ta, .int b tb, .int c tc, .int c tc, .int c tc] (valOf [.int a ta, .int b tb, .int c tc, .int c tc, .int c tc] 5) (· = 100) 5 := by
  refine ⟨.item rfl (by omega) (by omega) ⟨rfl, by decide⟩ fun _ => .item rfl (by omega) (by omega) ⟨rfl, by decide⟩ fun _ => .item rfl (by omega) (by omega) ⟨rfl, by decide⟩ fun _ => .zero rfl fun k hk => ?_, ⟨fun j hj => ?_, .inl rfl⟩⟩
  · match k, hk with
    | 0, _ => exact ⟨rfl, by decide⟩
    | 1, _ => exact ⟨rfl, by decide⟩
  · match j, hj with
    | 0, _ => exact ⟨by decide, 4, rfl, by decide, rfl⟩
    | 1, _ => exact ⟨by decide, 3, rfl, by decide, rfl⟩
    | 2, _ => exact ⟨by decide, 2, rfl, by decide, rfl⟩
    | 3, _ => exact ⟨by decide, 1, rfl, by decide, rfl⟩
    | 4, _ => exact ⟨by decide, 0, rfl, by decide, rfl⟩
theorem bnd3 {x : Int} : 1 ≤ 1 + x.fmod 3 ∧ 1 + x.fmod 3 ≤ 3 := by
  have a := Int.fmod_nonneg_of_pos x (b := 3) (by decide)
  have b := Int.fmod_lt_of_pos x (b := 3) (by decide)
  omega
theorem bnd_nil : ∀ z ∈ ([] : List Int), 1 ≤ z ∧ z ≤ 3 := fun z h => nomatch h
theorem bnd_cons {a : Int} {l : List Int} (h : 1 ≤ a ∧ a ≤ 3) (hl : ∀ z ∈ l, 1 ≤ z ∧ z ≤ 3) : ∀ z ∈ a :: l, 1 ≤ z ∧ z ≤ 3 := fun z hz => by
  rcases List.mem_cons.mp hz with rfl | hz
  · exact h
  · exact hl z hz
end Mine
end
section
open PySem PySem.W PyProof.Rows
set_option maxRecDepth 100000
set_option maxHeartbeats 8000000
namespace Mine
local macro_rules | `(tactic| k_ne) => `(tactic| (refine neN ?_; (try dsimp only); with_reducible first | assumption | exact Nat.ne_of_lt (by assumption) | exact Nat.ne_of_gt (by assumption) | exact Ne.symm (by assumption) | exact Nat.ne_of_gt (Nat.lt_succ_of_lt (by assumption)) | exact Nat.ne_of_lt (Nat.lt_succ_of_lt (by assumption)) | exact Nat.succ_ne_self _ | exact Ne.symm (Nat.succ_ne_self _)))
local macro_rules | `(tactic| k_mem) => `(tactic| first | exact List.Mem.head _ | assumption | (refine' List.Mem.tail _ ?_; k_mem))
noncomputable def comes_turnB (w : World) : List Stmt := forBody (stNth (fnBody w 101) 1)
theorem comes_turn {w : World} {mean mg mb} {env0 : Env} {base h₀ : Heap} {L : Addr} {m : Str → Option Value} {s : Shared} {Q : Flow → Shared → Prop} {E : Value → Shared → Prop} {nm : Str} {cd : Value} {b : List Stmt} {sc : Scope}
   {n z c : Int} {tn tz tc : Tok} {cm kc : Nat} {its : Array Value} {news : List (Addr × Obj)} {g : Obj → List (Addr × Obj)}
   (hb : comes_turnB w = b) (hc : fnScope w 101 = sc) (B : Below (callerA.deeper env0) base [env0] h₀) (F : Fr h₀ L s.heap m) (X : (hd.heap_39 w.params).In h₀)
   (T : Top hd.view_39 (looseW hd.view_39 [Str.ofString "_twin_re_1", Str.ofString "_twin_re_2", Str.ofString "EXACT_TOKEN_TYPES"]) mean mg mb h₀)
   (GL : Glob 0 mg mb (List.map itemOf (recsOf hd.view_39)) (scalarsOf [] ++ constsW hd.view_39) [] (namesW hd.view_39 [Str.ofString "_twin_re_1", Str.ofString "_twin_re_2", Str.ofString "EXACT_TOKEN_TYPES"]) base) (M : ∃ a o, BMod base mainGlobals mg a o)
   (m1 : m (Str.ofString "number") = some (.int n tn)) (m2 : m (Str.ofString "size") = some (.int z tz)) (m3 : m (Str.ofString "come") = some (.int c tc)) (m4 : m (Str.ofString "comes") = some (.ref cm)) 
   (N : News h₀ L s.heap news)  (U : UpdF cm (listOf its kc) news g)
   
   (hn : 0 ≤ n ∧ n < 1000000) (hz : 1 ≤ z ∧ z ≤ 3) (hsz : Array.size its ≤ sizeLine)
   (hQ : ∀ h' tk' (v : Int) (t tr : Tok) (rv : Str), v = z * ((n % 5 + if 0 < n % 5 then 1 else 0) + n / 5 % 5 + 2) → Fr h₀ L h' (fun z => if z = Str.ofString "come" then some (.int (c + v) t) else if z = Str.ofString "row" then some (.str rv tr) else m z) → News h₀ L h' (g (listOf (Array.push its (.int (c + v) t)) (kc + 1))) → Q .next { s with heap := h', toks := tk' })
   : wpAny (model PySem.Challenge.rw_to0012_01.row.prog w) ((callerA.deeper env0).deeper (envOf nm sc L 101 cd)) (execs b (envOf nm sc L 101 cd)) Q E s := by
  subst hb hc
  w_top off
  have kf : ((hd.heap_39 w.params).In h₀ ∧ PySem.Challenge.rw_to0012_01.row.prog = PySem.Challenge.rw_to0012_01.row.prog → True) := by k_fill; exact fun _ => trivial
  clear kf
  have F' := frGets _ (allCons m1 (allCons m2 (allCons m3 (allCons m4 allNil)))) F
  dsimp only [chainM] at F'
  clear F
  have e0 := updMem U
  obtain ⟨a₁, o₁, M⟩ := M
  unfold comes_turnB
  refine fnPart (a := 101) (Q := fun b sc => wpAny (model PySem.Challenge.rw_to0012_01.row.prog w) ((callerA.deeper env0).deeper (envOf nm sc L 101 cd)) (execs (forBody (stNth b 1)) (envOf nm sc L 101 cd)) Q E s) (by k_is) ?_
  dsimp only [forBody, stNth]
  repeat' (first | (k_unfold; (try dsimp only)) | ((with_reducible show wpAny _ _ (call (Value.builtin "list.append") _ _) _ _ _); (k_here; (with_reducible show wpAny _ _ (call (Value.builtin _) [Value.ref _, _]) _ _ _); (repeat ((with_reducible rename News _ _ _ (_ :: _) => hN1'); (have hN2' := newsTl hN1'); clear hN1')); k_dflt (refine append_K (by k_asm) (by k_asm) (by exact updOf (by assumption) _) ?_ (by assumption); k_whole); intro h' F' N'; (try k_sweep))) | ((with_reducible show wpAny _ _ (call (Value.builtin "list.append") _ _) _ _ _); (k_here; (with_reducible show wpAny _ _ (call (Value.builtin _) [Value.ref _, _]) _ _ _); k_dflt (refine append_K (by k_asm) (by k_asm) (by k_upd) ?_ (by first | exact Nat.le_of_ble_eq_true rfl | assumption); k_whole); intro h' F' N'; (try k_sweep))) | ((with_reducible show wpAny _ _ (call (Value.ref _) _ _) _ _ _); (k_here; (with_reducible show wpAny _ _ (call (Value.ref 62) [Value.int _ _, Value.int _ _] _) _ _ _); k_dflt (refine ge_law (by first | exact rfl | assumption) (by first | assumption | exact rfl) (by first | assumption | exact rfl) (by k_asm) (by k_asm) (by k_asm) (by k_asm) (by k_asm) (by first | k_room | assumption) ?_; intro hO' tkO FO NO; (try dsimp only); (try k_sweep)))) | ((with_reducible show wpAny _ _ (call (Value.ref _) _ _) _ _ _); (k_here; (with_reducible show wpAny _ _ (call (Value.ref 76) [Value.int _ _, Value.int _ _] _) _ _ _); k_dflt (refine sub_law (by first | exact rfl | assumption) (by first | assumption | exact rfl) (by first | assumption | exact rfl) (by k_asm) (by k_asm) (by k_asm) (by k_asm) (by k_asm) (by first | k_room | assumption) ?_; intro hO' tkO tO FO NO; (try dsimp only); (try k_sweep)))) | ((with_reducible show wpAny _ _ (call (Value.ref _) _ _) _ _ _); (k_here; (with_reducible show wpAny _ _ (call (Value.ref 69) [Value.int _ _, Value.int _ _] _) _ _ _); k_dflt (refine add_law (by first | exact rfl | assumption) (by first | assumption | exact rfl) (by first | assumption | exact rfl) (by k_asm) (by k_asm) (by k_asm) (by k_asm) (by k_asm) (by first | k_room | assumption) ?_; intro hO' tkO tO FO NO; (try dsimp only); (try k_sweep)))) | ((with_reducible show wpAny _ _ (binaryOp Operator.Add (Value.str _ _) (Value.str _ _)) _ _ _); (k_here; k_dflt (refine addT (by omega) (by omega) ?_; intro vT tT kT hT hTs; (try dsimp only)))) | ((with_reducible show wpAny _ _ (binaryOp Operator.Mult (Value.str _ _) (Value.int _ _)) _ _ _); (k_here; k_dflt (first | (refine mulT (a := 1) (b := 4) (by decide +kernel) (by exact fmlo (by decide)) (by exact fm5) (by decide) (by decide) ?_; intro vT tT kT hT hTs; (try dsimp only)) | (refine mulT (a := 10) (b := 3) (by omega) (by omega) (by omega) (by decide) (by decide) ?_; intro vT tT kT hT hTs; (try dsimp only))))) | ((with_reducible show wpAny _ _ (execs (List.cons _ _) _) _ _ _); ((try k_fold); (repeat ((with_reducible rename News _ _ _ (_ :: _) => hN1'); (have hN2' := newsTl hN1'); clear hN1')); (conv => arg @7; dsimp only); (with_reducible refine wpAny_execs_cons ?_); (try dsimp only))) | ((with_reducible show wpAny _ _ (call (Value.builtin "len") _ _) _ _ _); (k_here; k_dflt (refine lenT (by assumption) (by assumption) (by assumption) (by assumption) (by assumption) (by assumption) (by omega) (by omega) (by assumption) ?_; intro vC tC kC hC hC0 hC1; (try dsimp only)))) | ((with_reducible show wpAny _ _ (call (Value.builtin "re.Pattern.sub") _ _) _ _ _); (k_here; first | (refine subK1 (by k_asm) (by k_asm) (by exact pat36 (Frag.In.keeps (by k_asm) (Fr.keep (by k_asm)))) (by exact sub2_le (by omega)) ?_) | (refine subK2 (by k_asm) (by k_asm) (by exact pat41 (Frag.In.keeps (by k_asm) (Fr.keep (by k_asm)))) (by omega) ?_); intro h' tk' t' F' N')) | ((with_reducible show wpAny _ _ (getMethod (Value.ref _) _ _) _ _ _); (k_here; (with_reducible show wpAny _ _ (getMethod (Value.ref _) (Str.ofString "sub") _) _ _ _); first | refine getSub (pat36 (Frag.In.keeps (by k_asm) (Fr.keep (by k_asm)))) ?_ | refine getSub (pat41 (Frag.In.keeps (by k_asm) (Fr.keep (by k_asm)))) ?_)) | ((with_reducible show wpAny _ _ (subscriptTail _ _ (Value.ref _) _) _ _ _); (k_here; (with_reducible show wpAny _ _ (subscriptTail _ _ (Value.ref _) (Value.int _ _)) _ _ _); k_dflt (refine itemL (by k_asm) (by k_mem) (by omega) (by omega) (by assumption) ?_))) | ((with_reducible show LCg.FinE _ _ _ _ _ _ _); ((unfold LCg.FinE); intro D' h' tk' F' N' o1'; (try simp only [List.nil_append, List.cons_append] at N'); (try dsimp only))) | ((with_reducible show LCg.CompRest _ _ _ _ _ _ _ _ _ _ _ _ _ _ _ _ _ _ _); (with_unfolding_all first | (refine LCg.CompRest.succ ?_; intro v' I' oI' C' oC' D' m' h' tk' E' hv' hC' hx' F' N' off' ne'; (first | lcg_open hv' | (obtain ⟨t9', hv9'⟩ := hv'; subst hv9'))) | refine LCg.CompRest.zero ?_)) | ((with_reducible show LCg.CompEnd _ _ _ _ _ _ _ _ _ _ _ _ _ _); (k_dflt (refine compSame (by k_asm) (by k_asm) (by assumption) (by first | exact True.intro | exact Or.inr ⟨_, by k_mem, rfl, _, rfl⟩) ?_))) | ((with_reducible show wpAny _ _ (subscriptTail _ _ (Value.ref _) _) _ _ _); (k_here; (with_reducible show wpAny _ _ (subscriptTail _ _ (Value.ref _) (Value.int _ _)) _ _ _); k_dflt (refine endT (by k_asm) (by k_mem) (by exact fmlo (by decide)) (by exact fm3) ?_; intro vT tT hT hTs; (try dsimp only)))) | walk1 | (dsimp only))
  rename Fr _ _ _ _ => F9
  refine hQ _ _ _ _ _ _ (by assumption) (shape2 F9 fun z q1 q2 => ?_) (by assumption)
  exact congrFun (chainM_eq (allCons m1 (allCons m2 (allCons m3 (allCons m4 allNil))))) z
noncomputable def due_workB (w : World) : List Stmt := forBody (stNth (fnBody w 111) 1)
theorem due_work {w : World} {mean mg mb} {env0 : Env} {base h₀ : Heap} {L : Addr} {m : Str → Option Value} {s : Shared} {Q : Flow → Shared → Prop} {E : Value → Shared → Prop} {nm : Str} {cd : Value} {b : List Stmt} {sc : Scope}
   {n : Int} {tn : Tok} {W kw : Nat} {its : Array Value} {news : List (Addr × Obj)} {g : Obj → List (Addr × Obj)}
   (hb : due_workB w = b) (hc : fnScope w 111 = sc) (B : Below (callerA.deeper env0) base [env0] h₀) (F : Fr h₀ L s.heap m) (X : (hd.heap_39 w.params).In h₀)
   (T : Top hd.view_39 (looseW hd.view_39 [Str.ofString "_twin_re_1", Str.ofString "_twin_re_2", Str.ofString "EXACT_TOKEN_TYPES"]) mean mg mb h₀)
   (GL : Glob 0 mg mb (List.map itemOf (recsOf hd.view_39)) (scalarsOf [] ++ constsW hd.view_39) [] (namesW hd.view_39 [Str.ofString "_twin_re_1", Str.ofString "_twin_re_2", Str.ofString "EXACT_TOKEN_TYPES"]) base) (M : ∃ a o, BMod base mainGlobals mg a o)
   (m1 : m (Str.ofString "number") = some (.int n tn)) (m2 : m (Str.ofString "works") = some (.ref W)) 
   (N : News h₀ L s.heap news)  (U : UpdF W (listOf its kw) news g)
   
    (hsz : Array.size its ≤ sizeLine)
   (hQ : ∀ h' tk' (j : Int) (t tt : Tok), Eqv j (if (n.fmod 19 == 16) = true then 46 else if (n.fmod 19 == 18) = true then 52 else 7 + n.fmod 19) → Fr h₀ L h' (fun z => if z = Str.ofString "kind" then some (.int (n.fmod 19) tt) else m z) → News h₀ L h' (g (listOf (Array.push its (.int j t)) (kw + 1))) → Q .next { s with heap := h', toks := tk' })
   : wpAny (model PySem.Challenge.rw_to0012_01.row.prog w) ((callerA.deeper env0).deeper (envOfC nm sc L 111 cd)) (execs b (envOfC nm sc L 111 cd)) Q E s := by
  subst hb hc
  w_top off
  have kf : ((hd.heap_39 w.params).In h₀ ∧ PySem.Challenge.rw_to0012_01.row.prog = PySem.Challenge.rw_to0012_01.row.prog → True) := by k_fill; exact fun _ => trivial
  clear kf
  have F' := frGets _ (allCons m1 (allCons m2 allNil)) F
  dsimp only [chainM] at F'
  clear F
  have e0 := updMem U
  obtain ⟨a₁, o₁, M⟩ := M
  unfold due_workB
  refine fnPart (a := 111) (Q := fun b sc => wpAny (model PySem.Challenge.rw_to0012_01.row.prog w) ((callerA.deeper env0).deeper (envOfC nm sc L 111 cd)) (execs (forBody (stNth b 1)) (envOfC nm sc L 111 cd)) Q E s) (by k_is) ?_
  dsimp only [forBody, stNth]
  repeat' (first | (k_unfold; (try dsimp only)) | ((with_reducible show wpAny _ _ (call (Value.builtin "list.append") _ _) _ _ _); (k_here; (with_reducible show wpAny _ _ (call (Value.builtin _) [Value.ref _, _]) _ _ _); (repeat ((with_reducible rename News _ _ _ (_ :: _) => hN1'); (have hN2' := newsTl hN1'); clear hN1')); k_dflt (refine append_K (by k_asm) (by k_asm) (by exact updOf (by assumption) _) ?_ (by assumption); k_whole); intro h' F' N'; (try k_sweep))) | ((with_reducible show wpAny _ _ (binaryOp Operator.Mult (Value.int _ _) (Value.int _ _)) _ _ _); (k_here; k_dflt (refine mulG (by first | decide +kernel | omega) (by first | decide +kernel | omega) ?_; intro vM hM; (try dsimp only)))) | ((with_reducible show wpAny _ _ (execs (List.cons _ _) _) _ _ _); ((try k_fold); (repeat ((with_reducible rename News _ _ _ (_ :: _) => hN1'); (have hN2' := newsTl hN1'); clear hN1')); (conv => arg @7; dsimp only); (with_reducible refine wpAny_execs_cons ?_); (try dsimp only))) | ((with_reducible show wpAny _ _ (call (Value.builtin "max") _ _) _ _ _); (k_here; (with_reducible show wpAny _ _ (call (Value.builtin "max") [Value.ref _]) _ _ _); k_dflt (refine maxL (by exact rfl) (by k_asm) (by k_asm) (by k_mem) (by ((try simp only [List.push_toArray, List.nil_append, List.cons_append]); first | exact .cons _ _ .nil | exact .cons _ _ (.cons _ _ .nil) | exact .cons _ _ (.cons _ _ (.cons _ _ .nil)) | exact .cons _ _ (.cons _ _ (.cons _ _ (.cons _ _ .nil))) | exact .cons _ _ (.cons _ _ (.cons _ _ (.cons _ _ (.cons _ _ .nil)))) | exact .cons _ _ (.cons _ _ (.cons _ _ (.cons _ _ (.cons _ _ (.cons _ _ (.cons _ _ (.cons _ _ .nil))))))))) (by exact Nat.succ_pos _) ?_); intro h' M' tM' tk' F' N' hMm hMu; (try dsimp only); (try k_sweep))) | ((with_reducible show wpAny _ _ (call (Value.builtin "sum") _ _) _ _ _); (k_here; (with_reducible show wpAny _ _ (call (Value.builtin "sum") [Value.ref _]) _ _ _); k_dflt (refine sumL (by exact rfl) (by k_asm) (by k_asm) (by k_mem) (by ((try simp only [List.push_toArray, List.nil_append, List.cons_append]); first | exact .cons _ _ .nil | exact .cons _ _ (.cons _ _ .nil) | exact .cons _ _ (.cons _ _ (.cons _ _ .nil)) | exact .cons _ _ (.cons _ _ (.cons _ _ (.cons _ _ .nil))) | exact .cons _ _ (.cons _ _ (.cons _ _ (.cons _ _ (.cons _ _ .nil)))) | exact .cons _ _ (.cons _ _ (.cons _ _ (.cons _ _ (.cons _ _ (.cons _ _ (.cons _ _ (.cons _ _ .nil))))))))) ?_); intro vS h' tk' t' hS F' N'; (try dsimp only); (try k_sweep))) | ((with_reducible show wpAny _ _ (subscriptTail _ _ (Value.ref _) _) _ _ _); (k_here; (with_reducible show wpAny _ _ (subscriptTail _ _ (Value.ref _) (Value.int _ _)) _ _ _); k_dflt (refine itemL (by k_asm) (by k_mem) (by omega) (by omega) (by assumption) ?_))) | ((with_reducible show LCg.FinE _ _ _ _ _ _ _); ((unfold LCg.FinE); intro D' h' tk' F' N' o1'; (try simp only [List.nil_append, List.cons_append] at N'); (try dsimp only))) | ((with_reducible show LCg.CompRest _ _ _ _ _ _ _ _ _ _ _ _ _ _ _ _ _ _ _); (with_unfolding_all first | (refine LCg.CompRest.succ ?_; intro v' I' oI' C' oC' D' m' h' tk' E' hv' hC' hx' F' N' off' ne'; (first | lcg_open hv' | (obtain ⟨t9', hv9'⟩ := hv'; subst hv9'))) | refine LCg.CompRest.zero ?_)) | ((with_reducible show LCg.CompEnd _ _ _ _ _ _ _ _ _ _ _ _ _ _); (k_dflt (refine compSame (by k_asm) (by k_asm) (by assumption) (by first | exact True.intro | exact Or.inr ⟨_, by k_mem, rfl, _, rfl⟩) ?_))) | ((k_here; k_openite; (refine ite_joinG2 (by (refine And.intro ?_ ?_ <;> (intro hcJ QJ hQJ; have mJ := MarkJ.mk; (repeat' (first | exact hQJ _ _ | (k_unfold; (try dsimp only)) | ((with_reducible show wpAny _ _ (call (Value.builtin "list.append") _ _) _ _ _); (k_here; (with_reducible show wpAny _ _ (call (Value.builtin _) [Value.ref _, _]) _ _ _); (repeat ((with_reducible rename News _ _ _ (_ :: _) => hN1'); (have hN2' := newsTl hN1'); clear hN1')); k_dflt (refine append_K (by k_asm) (by k_asm) (by exact updOf (by assumption) _) ?_ (by assumption); k_whole); intro h' F' N'; (try k_sweep))) | ((with_reducible show wpAny _ _ (binaryOp Operator.Mult (Value.int _ _) (Value.int _ _)) _ _ _); (k_here; k_dflt (refine mulG (by first | decide +kernel | omega) (by first | decide +kernel | omega) ?_; intro vM hM; (try dsimp only)))) | ((with_reducible show wpAny _ _ (execs (List.cons _ _) _) _ _ _); ((try k_fold); (repeat ((with_reducible rename News _ _ _ (_ :: _) => hN1'); (have hN2' := newsTl hN1'); clear hN1')); (conv => arg @7; dsimp only); (with_reducible refine wpAny_execs_cons ?_); (try dsimp only))) | ((with_reducible show wpAny _ _ (call (Value.builtin "max") _ _) _ _ _); (k_here; (with_reducible show wpAny _ _ (call (Value.builtin "max") [Value.ref _]) _ _ _); k_dflt (refine maxL (by exact rfl) (by k_asm) (by k_asm) (by k_mem) (by ((try simp only [List.push_toArray, List.nil_append, List.cons_append]); first | exact .cons _ _ .nil | exact .cons _ _ (.cons _ _ .nil) | exact .cons _ _ (.cons _ _ (.cons _ _ .nil)) | exact .cons _ _ (.cons _ _ (.cons _ _ (.cons _ _ .nil))) | exact .cons _ _ (.cons _ _ (.cons _ _ (.cons _ _ (.cons _ _ .nil)))) | exact .cons _ _ (.cons _ _ (.cons _ _ (.cons _ _ (.cons _ _ (.cons _ _ (.cons _ _ (.cons _ _ .nil))))))))) (by exact Nat.succ_pos _) ?_); intro h' M' tM' tk' F' N' hMm hMu; (try dsimp only); (try k_sweep))) | ((with_reducible show wpAny _ _ (call (Value.builtin "sum") _ _) _ _ _); (k_here; (with_reducible show wpAny _ _ (call (Value.builtin "sum") [Value.ref _]) _ _ _); k_dflt (refine sumL (by exact rfl) (by k_asm) (by k_asm) (by k_mem) (by ((try simp only [List.push_toArray, List.nil_append, List.cons_append]); first | exact .cons _ _ .nil | exact .cons _ _ (.cons _ _ .nil) | exact .cons _ _ (.cons _ _ (.cons _ _ .nil)) | exact .cons _ _ (.cons _ _ (.cons _ _ (.cons _ _ .nil))) | exact .cons _ _ (.cons _ _ (.cons _ _ (.cons _ _ (.cons _ _ .nil)))) | exact .cons _ _ (.cons _ _ (.cons _ _ (.cons _ _ (.cons _ _ (.cons _ _ (.cons _ _ (.cons _ _ .nil))))))))) ?_); intro vS h' tk' t' hS F' N'; (try dsimp only); (try k_sweep))) | ((with_reducible show wpAny _ _ (subscriptTail _ _ (Value.ref _) _) _ _ _); (k_here; (with_reducible show wpAny _ _ (subscriptTail _ _ (Value.ref _) (Value.int _ _)) _ _ _); k_dflt (refine itemL (by k_asm) (by k_mem) (by omega) (by omega) (by assumption) ?_))) | ((with_reducible show LCg.FinE _ _ _ _ _ _ _); ((unfold LCg.FinE); intro D' h' tk' F' N' o1'; (try simp only [List.nil_append, List.cons_append] at N'); (try dsimp only))) | ((with_reducible show LCg.CompRest _ _ _ _ _ _ _ _ _ _ _ _ _ _ _ _ _ _ _); (with_unfolding_all first | (refine LCg.CompRest.succ ?_; intro v' I' oI' C' oC' D' m' h' tk' E' hv' hC' hx' F' N' off' ne'; (first | lcg_open hv' | (obtain ⟨t9', hv9'⟩ := hv'; subst hv9'))) | refine LCg.CompRest.zero ?_)) | ((with_reducible show LCg.CompEnd _ _ _ _ _ _ _ _ _ _ _ _ _ _); (k_dflt (refine compSame (by k_asm) (by k_asm) (by assumption) (by first | exact True.intro | exact Or.inr ⟨_, by k_mem, rfl, _, rfl⟩) ?_))) | ((k_here; k_openite; (with_reducible rename MarkJ => mJ'); (refine ite_joinI2 (by (refine And.intro ?_ ?_ <;> (intro hcJ QJ hQJ; have mJ := MarkJ.mk; (repeat' (first | exact hQJ _ _ | (k_unfold; (try dsimp only)) | ((with_reducible show wpAny _ _ (call (Value.builtin "list.append") _ _) _ _ _); (k_here; (with_reducible show wpAny _ _ (call (Value.builtin _) [Value.ref _, _]) _ _ _); (repeat ((with_reducible rename News _ _ _ (_ :: _) => hN1'); (have hN2' := newsTl hN1'); clear hN1')); k_dflt (refine append_K (by k_asm) (by k_asm) (by exact updOf (by assumption) _) ?_ (by assumption); k_whole); intro h' F' N'; (try k_sweep))) | ((with_reducible show wpAny _ _ (binaryOp Operator.Mult (Value.int _ _) (Value.int _ _)) _ _ _); (k_here; k_dflt (refine mulG (by first | decide +kernel | omega) (by first | decide +kernel | omega) ?_; intro vM hM; (try dsimp only)))) | ((with_reducible show wpAny _ _ (execs (List.cons _ _) _) _ _ _); ((try k_fold); (repeat ((with_reducible rename News _ _ _ (_ :: _) => hN1'); (have hN2' := newsTl hN1'); clear hN1')); (conv => arg @7; dsimp only); (with_reducible refine wpAny_execs_cons ?_); (try dsimp only))) | ((with_reducible show wpAny _ _ (call (Value.builtin "max") _ _) _ _ _); (k_here; (with_reducible show wpAny _ _ (call (Value.builtin "max") [Value.ref _]) _ _ _); k_dflt (refine maxL (by exact rfl) (by k_asm) (by k_asm) (by k_mem) (by ((try simp only [List.push_toArray, List.nil_append, List.cons_append]); first | exact .cons _ _ .nil | exact .cons _ _ (.cons _ _ .nil) | exact .cons _ _ (.cons _ _ (.cons _ _ .nil)) | exact .cons _ _ (.cons _ _ (.cons _ _ (.cons _ _ .nil))) | exact .cons _ _ (.cons _ _ (.cons _ _ (.cons _ _ (.cons _ _ .nil)))) | exact .cons _ _ (.cons _ _ (.cons _ _ (.cons _ _ (.cons _ _ (.cons _ _ (.cons _ _ (.cons _ _ .nil))))))))) (by exact Nat.succ_pos _) ?_); intro h' M' tM' tk' F' N' hMm hMu; (try dsimp only); (try k_sweep))) | ((with_reducible show wpAny _ _ (call (Value.builtin "sum") _ _) _ _ _); (k_here; (with_reducible show wpAny _ _ (call (Value.builtin "sum") [Value.ref _]) _ _ _); k_dflt (refine sumL (by exact rfl) (by k_asm) (by k_asm) (by k_mem) (by ((try simp only [List.push_toArray, List.nil_append, List.cons_append]); first | exact .cons _ _ .nil | exact .cons _ _ (.cons _ _ .nil) | exact .cons _ _ (.cons _ _ (.cons _ _ .nil)) | exact .cons _ _ (.cons _ _ (.cons _ _ (.cons _ _ .nil))) | exact .cons _ _ (.cons _ _ (.cons _ _ (.cons _ _ (.cons _ _ .nil)))) | exact .cons _ _ (.cons _ _ (.cons _ _ (.cons _ _ (.cons _ _ (.cons _ _ (.cons _ _ (.cons _ _ .nil))))))))) ?_); intro vS h' tk' t' hS F' N'; (try dsimp only); (try k_sweep))) | ((with_reducible show wpAny _ _ (subscriptTail _ _ (Value.ref _) _) _ _ _); (k_here; (with_reducible show wpAny _ _ (subscriptTail _ _ (Value.ref _) (Value.int _ _)) _ _ _); k_dflt (refine itemL (by k_asm) (by k_mem) (by omega) (by omega) (by assumption) ?_))) | ((with_reducible show LCg.FinE _ _ _ _ _ _ _); ((unfold LCg.FinE); intro D' h' tk' F' N' o1'; (try simp only [List.nil_append, List.cons_append] at N'); (try dsimp only))) | ((with_reducible show LCg.CompRest _ _ _ _ _ _ _ _ _ _ _ _ _ _ _ _ _ _ _); (with_unfolding_all first | (refine LCg.CompRest.succ ?_; intro v' I' oI' C' oC' D' m' h' tk' E' hv' hC' hx' F' N' off' ne'; (first | lcg_open hv' | (obtain ⟨t9', hv9'⟩ := hv'; subst hv9'))) | refine LCg.CompRest.zero ?_)) | ((with_reducible show LCg.CompEnd _ _ _ _ _ _ _ _ _ _ _ _ _ _); (k_dflt (refine compSame (by k_asm) (by k_asm) (by assumption) (by first | exact True.intro | exact Or.inr ⟨_, by k_mem, rfl, _, rfl⟩) ?_))) | walk1 | (dsimp only)))))) ?_; intro tJ tkJ); (try dsimp only))) | walk1 | (dsimp only)))))) ?_; intro vJ tJ tkJ hJ); (try dsimp only))) | walk1 | (dsimp only))
  rename Fr _ _ _ _ => F9
  refine hQ _ _ _ _ _ (by assumption) (shape1 F9 fun z q1 => ?_) (by assumption)
  exact congrFun (chainM_eq (allCons m1 (allCons m2 allNil))) z
noncomputable def due_comeB (w : World) : List Stmt := forBody (stNth (fnBody w 111) 2)
theorem due_come {w : World} {mean mg mb} {env0 : Env} {base h₀ : Heap} {L : Addr} {m : Str → Option Value} {s : Shared} {Q : Flow → Shared → Prop} {E : Value → Shared → Prop} {nm : Str} {cd : Value} {b : List Stmt} {sc : Scope}
   {n z c : Int} {tn tz tc : Tok} {cm kc : Nat} {oc : Obj} {its : Array Value} {news : List (Addr × Obj)} {g : Obj → List (Addr × Obj)}
   (hb : due_comeB w = b) (hc : fnScope w 111 = sc) (B : Below (callerA.deeper env0) base [env0] h₀) (F : Fr h₀ L s.heap m) (X : (hd.heap_39 w.params).In h₀)
   (T : Top hd.view_39 (looseW hd.view_39 [Str.ofString "_twin_re_1", Str.ofString "_twin_re_2", Str.ofString "EXACT_TOKEN_TYPES"]) mean mg mb h₀)
   (GL : Glob 0 mg mb (List.map itemOf (recsOf hd.view_39)) (scalarsOf [] ++ constsW hd.view_39) [] (namesW hd.view_39 [Str.ofString "_twin_re_1", Str.ofString "_twin_re_2", Str.ofString "EXACT_TOKEN_TYPES"]) base) (M : ∃ a o, BMod base mainGlobals mg a o)
   (m1 : m (Str.ofString "number") = some (.int n tn)) (m2 : m (Str.ofString "size") = some (.int z tz)) (m3 : m (Str.ofString "come") = some (.int c tc)) 
   (N : News h₀ L s.heap news) (c1 : (L + 1, oc) ∈ news) (hoc : oc.data = .cell (some (.ref cm))) (U : UpdF cm (listOf its kc) news g)
   
   (hz : 1 ≤ z ∧ z ≤ 3) (hsz : Array.size its ≤ sizeLine)
   (hQ : ∀ h' tk' (e v : Int) (t tt : Tok), Eqv e (if decide (0 < n.fmod 5) = true then 1 else 0) → Eqv v (z * (n.fmod 5 + e + (n.fdiv 5).fmod 5 + 2)) → Fr h₀ L h' (fun z => if z = Str.ofString "come" then some (.int (c + v) t) else if z = Str.ofString "dots" then some (.int (n.fmod 5) tt) else m z) → News h₀ L h' (g (listOf (Array.push its (.int (c + v) t)) (kc + 1))) → Q .next { s with heap := h', toks := tk' })
   : wpAny (model PySem.Challenge.rw_to0012_01.row.prog w) ((callerA.deeper env0).deeper (envOfC nm sc L 111 cd)) (execs b (envOfC nm sc L 111 cd)) Q E s := by
  subst hb hc
  w_top off
  have kf : ((hd.heap_39 w.params).In h₀ ∧ PySem.Challenge.rw_to0012_01.row.prog = PySem.Challenge.rw_to0012_01.row.prog → True) := by k_fill; exact fun _ => trivial
  clear kf
  have F' := frGets _ (allCons m1 (allCons m2 (allCons m3 allNil))) F
  dsimp only [chainM] at F'
  clear F
  have e0 := updMem U
  obtain ⟨a₁, o₁, M⟩ := M
  unfold due_comeB
  refine fnPart (a := 111) (Q := fun b sc => wpAny (model PySem.Challenge.rw_to0012_01.row.prog w) ((callerA.deeper env0).deeper (envOfC nm sc L 111 cd)) (execs (forBody (stNth b 2)) (envOfC nm sc L 111 cd)) Q E s) (by k_is) ?_
  dsimp only [forBody, stNth]
  repeat' (first | (k_unfold; (try dsimp only)) | ((with_reducible show wpAny _ _ (call (Value.builtin "list.append") _ _) _ _ _); (k_here; (with_reducible show wpAny _ _ (call (Value.builtin _) [Value.ref _, _]) _ _ _); (repeat ((with_reducible rename News _ _ _ (_ :: _) => hN1'); (have hN2' := newsTl hN1'); clear hN1')); k_dflt (refine append_K (by k_asm) (by k_asm) (by exact updOf (by assumption) _) ?_ (by assumption); k_whole); intro h' F' N'; (try k_sweep))) | ((with_reducible show wpAny _ _ (binaryOp Operator.Mult (Value.int _ _) (Value.int _ _)) _ _ _); (k_here; k_dflt (refine mulG (by first | decide +kernel | omega) (by first | decide +kernel | omega) ?_; intro vM hM; (try dsimp only)))) | ((with_reducible show wpAny _ _ (execs (List.cons _ _) _) _ _ _); ((try k_fold); (repeat ((with_reducible rename News _ _ _ (_ :: _) => hN1'); (have hN2' := newsTl hN1'); clear hN1')); (conv => arg @7; dsimp only); (with_reducible refine wpAny_execs_cons ?_); (try dsimp only))) | ((with_reducible show wpAny _ _ (call (Value.builtin "max") _ _) _ _ _); (k_here; (with_reducible show wpAny _ _ (call (Value.builtin "max") [Value.ref _]) _ _ _); k_dflt (refine maxL (by exact rfl) (by k_asm) (by k_asm) (by k_mem) (by ((try simp only [List.push_toArray, List.nil_append, List.cons_append]); first | exact .cons _ _ .nil | exact .cons _ _ (.cons _ _ .nil) | exact .cons _ _ (.cons _ _ (.cons _ _ .nil)) | exact .cons _ _ (.cons _ _ (.cons _ _ (.cons _ _ .nil))) | exact .cons _ _ (.cons _ _ (.cons _ _ (.cons _ _ (.cons _ _ .nil)))) | exact .cons _ _ (.cons _ _ (.cons _ _ (.cons _ _ (.cons _ _ (.cons _ _ (.cons _ _ (.cons _ _ .nil))))))))) (by exact Nat.succ_pos _) ?_); intro h' M' tM' tk' F' N' hMm hMu; (try dsimp only); (try k_sweep))) | ((with_reducible show wpAny _ _ (call (Value.builtin "sum") _ _) _ _ _); (k_here; (with_reducible show wpAny _ _ (call (Value.builtin "sum") [Value.ref _]) _ _ _); k_dflt (refine sumL (by exact rfl) (by k_asm) (by k_asm) (by k_mem) (by ((try simp only [List.push_toArray, List.nil_append, List.cons_append]); first | exact .cons _ _ .nil | exact .cons _ _ (.cons _ _ .nil) | exact .cons _ _ (.cons _ _ (.cons _ _ .nil)) | exact .cons _ _ (.cons _ _ (.cons _ _ (.cons _ _ .nil))) | exact .cons _ _ (.cons _ _ (.cons _ _ (.cons _ _ (.cons _ _ .nil)))) | exact .cons _ _ (.cons _ _ (.cons _ _ (.cons _ _ (.cons _ _ (.cons _ _ (.cons _ _ (.cons _ _ .nil))))))))) ?_); intro vS h' tk' t' hS F' N'; (try dsimp only); (try k_sweep))) | ((with_reducible show wpAny _ _ (subscriptTail _ _ (Value.ref _) _) _ _ _); (k_here; (with_reducible show wpAny _ _ (subscriptTail _ _ (Value.ref _) (Value.int _ _)) _ _ _); k_dflt (refine itemL (by k_asm) (by k_mem) (by omega) (by omega) (by assumption) ?_))) | ((with_reducible show LCg.FinE _ _ _ _ _ _ _); ((unfold LCg.FinE); intro D' h' tk' F' N' o1'; (try simp only [List.nil_append, List.cons_append] at N'); (try dsimp only))) | ((with_reducible show LCg.CompRest _ _ _ _ _ _ _ _ _ _ _ _ _ _ _ _ _ _ _); (with_unfolding_all first | (refine LCg.CompRest.succ ?_; intro v' I' oI' C' oC' D' m' h' tk' E' hv' hC' hx' F' N' off' ne'; (first | lcg_open hv' | (obtain ⟨t9', hv9'⟩ := hv'; subst hv9'))) | refine LCg.CompRest.zero ?_)) | ((with_reducible show LCg.CompEnd _ _ _ _ _ _ _ _ _ _ _ _ _ _); (k_dflt (refine compSame (by k_asm) (by k_asm) (by assumption) (by first | exact True.intro | exact Or.inr ⟨_, by k_mem, rfl, _, rfl⟩) ?_))) | ((k_here; k_openite; (refine ite_joinG2 (by (refine And.intro ?_ ?_ <;> (intro hcJ QJ hQJ; have mJ := MarkJ.mk; (repeat' (first | exact hQJ _ _ | (k_unfold; (try dsimp only)) | ((with_reducible show wpAny _ _ (call (Value.builtin "list.append") _ _) _ _ _); (k_here; (with_reducible show wpAny _ _ (call (Value.builtin _) [Value.ref _, _]) _ _ _); (repeat ((with_reducible rename News _ _ _ (_ :: _) => hN1'); (have hN2' := newsTl hN1'); clear hN1')); k_dflt (refine append_K (by k_asm) (by k_asm) (by exact updOf (by assumption) _) ?_ (by assumption); k_whole); intro h' F' N'; (try k_sweep))) | ((with_reducible show wpAny _ _ (binaryOp Operator.Mult (Value.int _ _) (Value.int _ _)) _ _ _); (k_here; k_dflt (refine mulG (by first | decide +kernel | omega) (by first | decide +kernel | omega) ?_; intro vM hM; (try dsimp only)))) | ((with_reducible show wpAny _ _ (execs (List.cons _ _) _) _ _ _); ((try k_fold); (repeat ((with_reducible rename News _ _ _ (_ :: _) => hN1'); (have hN2' := newsTl hN1'); clear hN1')); (conv => arg @7; dsimp only); (with_reducible refine wpAny_execs_cons ?_); (try dsimp only))) | ((with_reducible show wpAny _ _ (call (Value.builtin "max") _ _) _ _ _); (k_here; (with_reducible show wpAny _ _ (call (Value.builtin "max") [Value.ref _]) _ _ _); k_dflt (refine maxL (by exact rfl) (by k_asm) (by k_asm) (by k_mem) (by ((try simp only [List.push_toArray, List.nil_append, List.cons_append]); first | exact .cons _ _ .nil | exact .cons _ _ (.cons _ _ .nil) | exact .cons _ _ (.cons _ _ (.cons _ _ .nil)) | exact .cons _ _ (.cons _ _ (.cons _ _ (.cons _ _ .nil))) | exact .cons _ _ (.cons _ _ (.cons _ _ (.cons _ _ (.cons _ _ .nil)))) | exact .cons _ _ (.cons _ _ (.cons _ _ (.cons _ _ (.cons _ _ (.cons _ _ (.cons _ _ (.cons _ _ .nil))))))))) (by exact Nat.succ_pos _) ?_); intro h' M' tM' tk' F' N' hMm hMu; (try dsimp only); (try k_sweep))) | ((with_reducible show wpAny _ _ (call (Value.builtin "sum") _ _) _ _ _); (k_here; (with_reducible show wpAny _ _ (call (Value.builtin "sum") [Value.ref _]) _ _ _); k_dflt (refine sumL (by exact rfl) (by k_asm) (by k_asm) (by k_mem) (by ((try simp only [List.push_toArray, List.nil_append, List.cons_append]); first | exact .cons _ _ .nil | exact .cons _ _ (.cons _ _ .nil) | exact .cons _ _ (.cons _ _ (.cons _ _ .nil)) | exact .cons _ _ (.cons _ _ (.cons _ _ (.cons _ _ .nil))) | exact .cons _ _ (.cons _ _ (.cons _ _ (.cons _ _ (.cons _ _ .nil)))) | exact .cons _ _ (.cons _ _ (.cons _ _ (.cons _ _ (.cons _ _ (.cons _ _ (.cons _ _ (.cons _ _ .nil))))))))) ?_); intro vS h' tk' t' hS F' N'; (try dsimp only); (try k_sweep))) | ((with_reducible show wpAny _ _ (subscriptTail _ _ (Value.ref _) _) _ _ _); (k_here; (with_reducible show wpAny _ _ (subscriptTail _ _ (Value.ref _) (Value.int _ _)) _ _ _); k_dflt (refine itemL (by k_asm) (by k_mem) (by omega) (by omega) (by assumption) ?_))) | ((with_reducible show LCg.FinE _ _ _ _ _ _ _); ((unfold LCg.FinE); intro D' h' tk' F' N' o1'; (try simp only [List.nil_append, List.cons_append] at N'); (try dsimp only))) | ((with_reducible show LCg.CompRest _ _ _ _ _ _ _ _ _ _ _ _ _ _ _ _ _ _ _); (with_unfolding_all first | (refine LCg.CompRest.succ ?_; intro v' I' oI' C' oC' D' m' h' tk' E' hv' hC' hx' F' N' off' ne'; (first | lcg_open hv' | (obtain ⟨t9', hv9'⟩ := hv'; subst hv9'))) | refine LCg.CompRest.zero ?_)) | ((with_reducible show LCg.CompEnd _ _ _ _ _ _ _ _ _ _ _ _ _ _); (k_dflt (refine compSame (by k_asm) (by k_asm) (by assumption) (by first | exact True.intro | exact Or.inr ⟨_, by k_mem, rfl, _, rfl⟩) ?_))) | ((k_here; k_openite; (with_reducible rename MarkJ => mJ'); (refine ite_joinI2 (by (refine And.intro ?_ ?_ <;> (intro hcJ QJ hQJ; have mJ := MarkJ.mk; (repeat' (first | exact hQJ _ _ | (k_unfold; (try dsimp only)) | ((with_reducible show wpAny _ _ (call (Value.builtin "list.append") _ _) _ _ _); (k_here; (with_reducible show wpAny _ _ (call (Value.builtin _) [Value.ref _, _]) _ _ _); (repeat ((with_reducible rename News _ _ _ (_ :: _) => hN1'); (have hN2' := newsTl hN1'); clear hN1')); k_dflt (refine append_K (by k_asm) (by k_asm) (by exact updOf (by assumption) _) ?_ (by assumption); k_whole); intro h' F' N'; (try k_sweep))) | ((with_reducible show wpAny _ _ (binaryOp Operator.Mult (Value.int _ _) (Value.int _ _)) _ _ _); (k_here; k_dflt (refine mulG (by first | decide +kernel | omega) (by first | decide +kernel | omega) ?_; intro vM hM; (try dsimp only)))) | ((with_reducible show wpAny _ _ (execs (List.cons _ _) _) _ _ _); ((try k_fold); (repeat ((with_reducible rename News _ _ _ (_ :: _) => hN1'); (have hN2' := newsTl hN1'); clear hN1')); (conv => arg @7; dsimp only); (with_reducible refine wpAny_execs_cons ?_); (try dsimp only))) | ((with_reducible show wpAny _ _ (call (Value.builtin "max") _ _) _ _ _); (k_here; (with_reducible show wpAny _ _ (call (Value.builtin "max") [Value.ref _]) _ _ _); k_dflt (refine maxL (by exact rfl) (by k_asm) (by k_asm) (by k_mem) (by ((try simp only [List.push_toArray, List.nil_append, List.cons_append]); first | exact .cons _ _ .nil | exact .cons _ _ (.cons _ _ .nil) | exact .cons _ _ (.cons _ _ (.cons _ _ .nil)) | exact .cons _ _ (.cons _ _ (.cons _ _ (.cons _ _ .nil))) | exact .cons _ _ (.cons _ _ (.cons _ _ (.cons _ _ (.cons _ _ .nil)))) | exact .cons _ _ (.cons _ _ (.cons _ _ (.cons _ _ (.cons _ _ (.cons _ _ (.cons _ _ (.cons _ _ .nil))))))))) (by exact Nat.succ_pos _) ?_); intro h' M' tM' tk' F' N' hMm hMu; (try dsimp only); (try k_sweep))) | ((with_reducible show wpAny _ _ (call (Value.builtin "sum") _ _) _ _ _); (k_here; (with_reducible show wpAny _ _ (call (Value.builtin "sum") [Value.ref _]) _ _ _); k_dflt (refine sumL (by exact rfl) (by k_asm) (by k_asm) (by k_mem) (by ((try simp only [List.push_toArray, List.nil_append, List.cons_append]); first | exact .cons _ _ .nil | exact .cons _ _ (.cons _ _ .nil) | exact .cons _ _ (.cons _ _ (.cons _ _ .nil)) | exact .cons _ _ (.cons _ _ (.cons _ _ (.cons _ _ .nil))) | exact .cons _ _ (.cons _ _ (.cons _ _ (.cons _ _ (.cons _ _ .nil)))) | exact .cons _ _ (.cons _ _ (.cons _ _ (.cons _ _ (.cons _ _ (.cons _ _ (.cons _ _ (.cons _ _ .nil))))))))) ?_); intro vS h' tk' t' hS F' N'; (try dsimp only); (try k_sweep))) | ((with_reducible show wpAny _ _ (subscriptTail _ _ (Value.ref _) _) _ _ _); (k_here; (with_reducible show wpAny _ _ (subscriptTail _ _ (Value.ref _) (Value.int _ _)) _ _ _); k_dflt (refine itemL (by k_asm) (by k_mem) (by omega) (by omega) (by assumption) ?_))) | ((with_reducible show LCg.FinE _ _ _ _ _ _ _); ((unfold LCg.FinE); intro D' h' tk' F' N' o1'; (try simp only [List.nil_append, List.cons_append] at N'); (try dsimp only))) | ((with_reducible show LCg.CompRest _ _ _ _ _ _ _ _ _ _ _ _ _ _ _ _ _ _ _); (with_unfolding_all first | (refine LCg.CompRest.succ ?_; intro v' I' oI' C' oC' D' m' h' tk' E' hv' hC' hx' F' N' off' ne'; (first | lcg_open hv' | (obtain ⟨t9', hv9'⟩ := hv'; subst hv9'))) | refine LCg.CompRest.zero ?_)) | ((with_reducible show LCg.CompEnd _ _ _ _ _ _ _ _ _ _ _ _ _ _); (k_dflt (refine compSame (by k_asm) (by k_asm) (by assumption) (by first | exact True.intro | exact Or.inr ⟨_, by k_mem, rfl, _, rfl⟩) ?_))) | walk1 | (dsimp only)))))) ?_; intro tJ tkJ); (try dsimp only))) | walk1 | (dsimp only)))))) ?_; intro vJ tJ tkJ hJ); (try dsimp only))) | walk1 | (dsimp only))
  rename Fr _ _ _ _ => F9
  refine hQ _ _ _ _ _ _ (by assumption) (by assumption) (shape2 F9 fun z q1 q2 => ?_) (by assumption)
  exact congrFun (chainM_eq (allCons m1 (allCons m2 (allCons m3 allNil)))) z
noncomputable def due_at0B (w : World) : List Stmt := forBody (stNth (fnBody w 111) 4)
theorem due_at0 {w : World} {mean mg mb} {env0 : Env} {base h₀ : Heap} {L : Addr} {m : Str → Option Value} {s : Shared} {Q : Flow → Shared → Prop} {E : Value → Shared → Prop} {nm : Str} {cd : Value} {b : List Stmt} {sc : Scope}
   {j0 j1 j2 W y0 y1 y2 y3 y4 : Int} {u0 u1 u2 tW a0 a1 a2 a3 a4 tp : Tok} {wl cm du kw kc kd : Nat} {oc ol op : Obj} {its : Array Value} {news : List (Addr × Obj)} {g : Obj → List (Addr × Obj)}
   (hb : due_at0B w = b) (hc : fnScope w 111 = sc) (B : Below (callerA.deeper env0) base [env0] h₀) (F : Fr h₀ L s.heap m) (X : (hd.heap_39 w.params).In h₀)
   (T : Top hd.view_39 (looseW hd.view_39 [Str.ofString "_twin_re_1", Str.ofString "_twin_re_2", Str.ofString "EXACT_TOKEN_TYPES"]) mean mg mb h₀)
   (GL : Glob 0 mg mb (List.map itemOf (recsOf hd.view_39)) (scalarsOf [] ++ constsW hd.view_39) [] (namesW hd.view_39 [Str.ofString "_twin_re_1", Str.ofString "_twin_re_2", Str.ofString "EXACT_TOKEN_TYPES"]) base) (M : ∃ a o, BMod base mainGlobals mg a o)
   (m1 : m (Str.ofString "works") = some (.ref wl)) (m2 : m (Str.ofString "due") = some (.ref du)) 
   (N : News h₀ L s.heap news) (c1 : (L + 1, oc) ∈ news) (hoc : oc.data = .cell (some (.ref cm))) (c2 : (L + 2, ol) ∈ news) (hol : ol.data = .cell (some (.int W tW))) (c3 : (L + 3, op) ∈ news) (hop : op.data = .cell (some (.int 0 tp))) (U : UpdF du (listOf its kd) news g)
   (e1 : (wl, listOf #[.int j0 u0, .int j1 u1, .int j2 u2] kw) ∈ news) (e2 : (cm, listOf #[.int y0 a0, .int y1 a1, .int y2 a2, .int y3 a3, .int y4 a4] kc) ∈ news)
    (hsz : Array.size its ≤ sizeLine)
   (hQ : ∀ h' tk' (v M x0 : Int) (t : Tok), Eqv v [j0, j1, j2].sum → M ∈ [y0 + x0] → (∀ a : Int, a ∈ [y0 + x0] → a ≤ M) → Eqv x0 ((0 - (0 + (((0 : Nat)) : Int))) * W) → Fr h₀ L h' (fun z => m z) → News h₀ L h' (g (listOf (Array.push its (.int (v + M) t)) (kd + 1))) → Q .next { s with heap := h', toks := tk' })
   : wpAny (model PySem.Challenge.rw_to0012_01.row.prog w) ((callerA.deeper env0).deeper (envOfC nm sc L 111 cd)) (execs b (envOfC nm sc L 111 cd)) Q E s := by
  subst hb hc
  w_top off
  have kf : ((hd.heap_39 w.params).In h₀ ∧ PySem.Challenge.rw_to0012_01.row.prog = PySem.Challenge.rw_to0012_01.row.prog → True) := by k_fill; exact fun _ => trivial
  clear kf
  have F' := frGets _ (allCons m1 (allCons m2 allNil)) F
  dsimp only [chainM] at F'
  clear F
  have e0 := updMem U
  obtain ⟨a₁, o₁, M⟩ := M
  unfold due_at0B
  refine fnPart (a := 111) (Q := fun b sc => wpAny (model PySem.Challenge.rw_to0012_01.row.prog w) ((callerA.deeper env0).deeper (envOfC nm sc L 111 cd)) (execs (forBody (stNth b 4)) (envOfC nm sc L 111 cd)) Q E s) (by k_is) ?_
  dsimp only [forBody, stNth]
  repeat' (first | (k_unfold; (try dsimp only)) | ((with_reducible show wpAny _ _ (subscriptTail _ _ (Value.ref _) _) _ _ _); (k_here; (with_reducible show wpAny _ _ (subscriptTail _ _ (Value.ref _) (Value.int _ _)) _ _ _); k_dflt (refine itemL (by k_asm) (by k_mem) (by decide) (by decide) (by ((try simp only [List.push_toArray, List.nil_append, List.cons_append]); rfl)) ?_))) | ((with_reducible show wpAny _ _ (call (Value.builtin "list.append") _ _) _ _ _); (k_here; (with_reducible show wpAny _ _ (call (Value.builtin _) [Value.ref _, _]) _ _ _); (repeat ((with_reducible rename News _ _ _ (_ :: _) => hN1'); (have hN2' := newsTl hN1'); clear hN1')); k_dflt (refine append_K (by k_asm) (by k_asm) (by exact updOf (by assumption) _) ?_ (by assumption); k_whole); intro h' F' N'; (try k_sweep))) | ((with_reducible show wpAny _ _ (binaryOp Operator.Mult (Value.int _ _) (Value.int _ _)) _ _ _); (k_here; k_dflt (refine mulG (by first | decide +kernel | omega) (by first | decide +kernel | omega) ?_; intro vM hM; (try dsimp only)))) | ((with_reducible show wpAny _ _ (execs (List.cons _ _) _) _ _ _); ((try k_fold); (repeat ((with_reducible rename News _ _ _ (_ :: _) => hN1'); (have hN2' := newsTl hN1'); clear hN1')); (conv => arg @7; dsimp only); (with_reducible refine wpAny_execs_cons ?_); (try dsimp only))) | ((with_reducible show wpAny _ _ (pyIter (Value.ref _)) _ _ _); (k_here; (with_reducible show wpAny _ _ (pyIter (Value.ref _)) (fun it s₂ => TurnsAt _ _ _ _ _ _ _ _ _ it s₂) _ _); (rename Fr _ _ _ _ => lF'); (rename News _ _ _ _ => lN'); (rename IsRange _ _ _ _ _ _ _ _ => lR'); (with_unfolding_all refine iter_rangeTurns (xs := [.tok fun t => .int 0 t, .tok fun t => .int 1 t, .tok fun t => .int 2 t, .tok fun t => .int 3 t, .tok fun t => .int 4 t]) (n := 5) (by rfl) lR' (by decide) (by decide) (by rfl) r5 lF' lN' ?_); clear lF' lN'; intro i' l1; (try k_lt l1))) | ((with_reducible show wpAny _ _ (call (Value.builtin "max") _ _) _ _ _); (k_here; (with_reducible show wpAny _ _ (call (Value.builtin "max") [Value.ref _]) _ _ _); k_dflt (refine maxL (by exact rfl) (by k_asm) (by k_asm) (by k_mem) (by ((try simp only [List.push_toArray, List.nil_append, List.cons_append]); first | exact .cons _ _ .nil | exact .cons _ _ (.cons _ _ .nil) | exact .cons _ _ (.cons _ _ (.cons _ _ .nil)) | exact .cons _ _ (.cons _ _ (.cons _ _ (.cons _ _ .nil))) | exact .cons _ _ (.cons _ _ (.cons _ _ (.cons _ _ (.cons _ _ .nil)))) | exact .cons _ _ (.cons _ _ (.cons _ _ (.cons _ _ (.cons _ _ (.cons _ _ (.cons _ _ (.cons _ _ .nil))))))))) (by exact Nat.succ_pos _) ?_); intro h' M' tM' tk' F' N' hMm hMu; (try dsimp only); (try k_sweep))) | ((with_reducible show wpAny _ _ (call (Value.builtin "sum") _ _) _ _ _); (k_here; (with_reducible show wpAny _ _ (call (Value.builtin "sum") [Value.ref _]) _ _ _); k_dflt (refine sumL (by exact rfl) (by k_asm) (by k_asm) (by k_mem) (by ((try simp only [List.push_toArray, List.nil_append, List.cons_append]); first | exact .cons _ _ .nil | exact .cons _ _ (.cons _ _ .nil) | exact .cons _ _ (.cons _ _ (.cons _ _ .nil)) | exact .cons _ _ (.cons _ _ (.cons _ _ (.cons _ _ .nil))) | exact .cons _ _ (.cons _ _ (.cons _ _ (.cons _ _ (.cons _ _ .nil)))) | exact .cons _ _ (.cons _ _ (.cons _ _ (.cons _ _ (.cons _ _ (.cons _ _ (.cons _ _ (.cons _ _ .nil))))))))) ?_); intro vS h' tk' t' hS F' N'; (try dsimp only); (try k_sweep))) | ((with_reducible show wpAny _ _ (subscriptTail _ _ (Value.ref _) _) _ _ _); (k_here; (with_reducible show wpAny _ _ (subscriptTail _ _ (Value.ref _) (Value.int _ _)) _ _ _); k_dflt (refine itemL (by k_asm) (by k_mem) (by omega) (by omega) (by assumption) ?_))) | ((with_reducible show LCg.FinE _ _ _ _ _ _ _); ((unfold LCg.FinE); intro D' h' tk' F' N' o1'; (try simp only [List.nil_append, List.cons_append] at N'); (try dsimp only))) | ((with_reducible show LCg.CompRest _ _ _ _ _ _ _ _ _ _ _ _ _ _ _ _ _ _ _); (with_unfolding_all first | (refine LCg.CompRest.succ ?_; intro v' I' oI' C' oC' D' m' h' tk' E' hv' hC' hx' F' N' off' ne'; (first | lcg_open hv' | (obtain ⟨t9', hv9'⟩ := hv'; subst hv9'))) | refine LCg.CompRest.zero ?_)) | ((with_reducible show LCg.CompEnd _ _ _ _ _ _ _ _ _ _ _ _ _ _); (k_dflt (refine compSame (by k_asm) (by k_asm) (by assumption) (by first | exact True.intro | exact Or.inr ⟨_, by k_mem, rfl, _, rfl⟩) ?_))) | ((with_reducible show LCg.CompEnd _ _ _ _ _ _ _ _ _ _ _ _ _ _); (k_dflt lcg_end)) | ((with_reducible show LCg.FinE _ _ _ _ _ _ _); ((unfold LCg.FinE); intro D' h' tk' F' N' o1'; (try simp only [LCg.Off1, and_true] at o1'); (try simp only [List.nil_append, List.cons_append] at N'); (repeat (obtain ⟨_, o1'⟩ := o1')); (try dsimp only))) | ((with_reducible show LCg.CompRest _ _ _ _ _ _ _ _ _ _ _ _ _ _ _ _ _ _ _); (with_unfolding_all first | (refine LCg.CompRest.succ ?_; intro v' I' oI' C' oC' D' m' h' tk' E' hv' hC' hx' F' N' off' ne'; (first | lcg_open hv' | (obtain ⟨t9', hv9'⟩ := hv'; subst hv9')); (try simp only [LCg.Off3, and_true] at off'); (obtain ⟨_, _, _⟩ := ne'); (repeat (obtain ⟨⟨_, _, _⟩, off'⟩ := off')); (try obtain ⟨_, _, _⟩ := off')) | refine LCg.CompRest.zero ?_)) | ((with_reducible show LCg.CompSrc _ _ _ _ _ _ _ _ _ _ _ _ _ _); (k_here; k_dflt (refine LCg.CompSrc.range (by rfl) (by k_asm) (by k_asm) (by assumption) (by first | decide | rfl) (by first | rfl | decide) (by first | size_fits | exact Nat.le_of_ble_eq_true rfl) ?_; intro g'; lcg_lit))) | walk1 | (dsimp only))
  rename Fr _ _ _ _ => F9
  exact hQ _ _ _ _ _ _ (by assumption) (by assumption) (by assumption) (by assumption) (frEq F9 (chainM_eq (allCons m1 (allCons m2 allNil)))) (by assumption)
noncomputable def due_at1B (w : World) : List Stmt := forBody (stNth (fnBody w 111) 4)
theorem due_at1 {w : World} {mean mg mb} {env0 : Env} {base h₀ : Heap} {L : Addr} {m : Str → Option Value} {s : Shared} {Q : Flow → Shared → Prop} {E : Value → Shared → Prop} {nm : Str} {cd : Value} {b : List Stmt} {sc : Scope}
   {j0 j1 j2 W y0 y1 y2 y3 y4 : Int} {u0 u1 u2 tW a0 a1 a2 a3 a4 tp : Tok} {wl cm du kw kc kd : Nat} {oc ol op : Obj} {its : Array Value} {news : List (Addr × Obj)} {g : Obj → List (Addr × Obj)}
   (hb : due_at1B w = b) (hc : fnScope w 111 = sc) (B : Below (callerA.deeper env0) base [env0] h₀) (F : Fr h₀ L s.heap m) (X : (hd.heap_39 w.params).In h₀)
   (T : Top hd.view_39 (looseW hd.view_39 [Str.ofString "_twin_re_1", Str.ofString "_twin_re_2", Str.ofString "EXACT_TOKEN_TYPES"]) mean mg mb h₀)
   (GL : Glob 0 mg mb (List.map itemOf (recsOf hd.view_39)) (scalarsOf [] ++ constsW hd.view_39) [] (namesW hd.view_39 [Str.ofString "_twin_re_1", Str.ofString "_twin_re_2", Str.ofString "EXACT_TOKEN_TYPES"]) base) (M : ∃ a o, BMod base mainGlobals mg a o)
   (m1 : m (Str.ofString "works") = some (.ref wl)) (m2 : m (Str.ofString "due") = some (.ref du)) 
   (N : News h₀ L s.heap news) (c1 : (L + 1, oc) ∈ news) (hoc : oc.data = .cell (some (.ref cm))) (c2 : (L + 2, ol) ∈ news) (hol : ol.data = .cell (some (.int W tW))) (c3 : (L + 3, op) ∈ news) (hop : op.data = .cell (some (.int 1 tp))) (U : UpdF du (listOf its kd) news g)
   (e1 : (wl, listOf #[.int j0 u0, .int j1 u1, .int j2 u2] kw) ∈ news) (e2 : (cm, listOf #[.int y0 a0, .int y1 a1, .int y2 a2, .int y3 a3, .int y4 a4] kc) ∈ news)
    (hsz : Array.size its ≤ sizeLine)
   (hQ : ∀ h' tk' (v M x0 x1 : Int) (t : Tok), Eqv v [j0, j1, j2].sum → M ∈ [y0 + x0, y1 + x1] → (∀ a : Int, a ∈ [y0 + x0, y1 + x1] → a ≤ M) → Eqv x0 ((1 - (0 + (((0 : Nat)) : Int))) * W) → Eqv x1 ((1 - (0 + (((0 + 1 : Nat)) : Int))) * W) → Fr h₀ L h' (fun z => m z) → News h₀ L h' (g (listOf (Array.push its (.int (v + M) t)) (kd + 1))) → Q .next { s with heap := h', toks := tk' })
   : wpAny (model PySem.Challenge.rw_to0012_01.row.prog w) ((callerA.deeper env0).deeper (envOfC nm sc L 111 cd)) (execs b (envOfC nm sc L 111 cd)) Q E s := by
  subst hb hc
  w_top off
  have kf : ((hd.heap_39 w.params).In h₀ ∧ PySem.Challenge.rw_to0012_01.row.prog = PySem.Challenge.rw_to0012_01.row.prog → True) := by k_fill; exact fun _ => trivial
  clear kf
  have F' := frGets _ (allCons m1 (allCons m2 allNil)) F
  dsimp only [chainM] at F'
  clear F
  have e0 := updMem U
  obtain ⟨a₁, o₁, M⟩ := M
  unfold due_at1B
  refine fnPart (a := 111) (Q := fun b sc => wpAny (model PySem.Challenge.rw_to0012_01.row.prog w) ((callerA.deeper env0).deeper (envOfC nm sc L 111 cd)) (execs (forBody (stNth b 4)) (envOfC nm sc L 111 cd)) Q E s) (by k_is) ?_
  dsimp only [forBody, stNth]
  repeat' (first | (k_unfold; (try dsimp only)) | ((with_reducible show wpAny _ _ (subscriptTail _ _ (Value.ref _) _) _ _ _); (k_here; (with_reducible show wpAny _ _ (subscriptTail _ _ (Value.ref _) (Value.int _ _)) _ _ _); k_dflt (refine itemL (by k_asm) (by k_mem) (by decide) (by decide) (by ((try simp only [List.push_toArray, List.nil_append, List.cons_append]); rfl)) ?_))) | ((with_reducible show wpAny _ _ (call (Value.builtin "list.append") _ _) _ _ _); (k_here; (with_reducible show wpAny _ _ (call (Value.builtin _) [Value.ref _, _]) _ _ _); (repeat ((with_reducible rename News _ _ _ (_ :: _) => hN1'); (have hN2' := newsTl hN1'); clear hN1')); k_dflt (refine append_K (by k_asm) (by k_asm) (by exact updOf (by assumption) _) ?_ (by assumption); k_whole); intro h' F' N'; (try k_sweep))) | ((with_reducible show wpAny _ _ (binaryOp Operator.Mult (Value.int _ _) (Value.int _ _)) _ _ _); (k_here; k_dflt (refine mulG (by first | decide +kernel | omega) (by first | decide +kernel | omega) ?_; intro vM hM; (try dsimp only)))) | ((with_reducible show wpAny _ _ (execs (List.cons _ _) _) _ _ _); ((try k_fold); (repeat ((with_reducible rename News _ _ _ (_ :: _) => hN1'); (have hN2' := newsTl hN1'); clear hN1')); (conv => arg @7; dsimp only); (with_reducible refine wpAny_execs_cons ?_); (try dsimp only))) | ((with_reducible show wpAny _ _ (pyIter (Value.ref _)) _ _ _); (k_here; (with_reducible show wpAny _ _ (pyIter (Value.ref _)) (fun it s₂ => TurnsAt _ _ _ _ _ _ _ _ _ it s₂) _ _); (rename Fr _ _ _ _ => lF'); (rename News _ _ _ _ => lN'); (rename IsRange _ _ _ _ _ _ _ _ => lR'); (with_unfolding_all refine iter_rangeTurns (xs := [.tok fun t => .int 0 t, .tok fun t => .int 1 t, .tok fun t => .int 2 t, .tok fun t => .int 3 t, .tok fun t => .int 4 t]) (n := 5) (by rfl) lR' (by decide) (by decide) (by rfl) r5 lF' lN' ?_); clear lF' lN'; intro i' l1; (try k_lt l1))) | ((with_reducible show wpAny _ _ (call (Value.builtin "max") _ _) _ _ _); (k_here; (with_reducible show wpAny _ _ (call (Value.builtin "max") [Value.ref _]) _ _ _); k_dflt (refine maxL (by exact rfl) (by k_asm) (by k_asm) (by k_mem) (by ((try simp only [List.push_toArray, List.nil_append, List.cons_append]); first | exact .cons _ _ .nil | exact .cons _ _ (.cons _ _ .nil) | exact .cons _ _ (.cons _ _ (.cons _ _ .nil)) | exact .cons _ _ (.cons _ _ (.cons _ _ (.cons _ _ .nil))) | exact .cons _ _ (.cons _ _ (.cons _ _ (.cons _ _ (.cons _ _ .nil)))) | exact .cons _ _ (.cons _ _ (.cons _ _ (.cons _ _ (.cons _ _ (.cons _ _ (.cons _ _ (.cons _ _ .nil))))))))) (by exact Nat.succ_pos _) ?_); intro h' M' tM' tk' F' N' hMm hMu; (try dsimp only); (try k_sweep))) | ((with_reducible show wpAny _ _ (call (Value.builtin "sum") _ _) _ _ _); (k_here; (with_reducible show wpAny _ _ (call (Value.builtin "sum") [Value.ref _]) _ _ _); k_dflt (refine sumL (by exact rfl) (by k_asm) (by k_asm) (by k_mem) (by ((try simp only [List.push_toArray, List.nil_append, List.cons_append]); first | exact .cons _ _ .nil | exact .cons _ _ (.cons _ _ .nil) | exact .cons _ _ (.cons _ _ (.cons _ _ .nil)) | exact .cons _ _ (.cons _ _ (.cons _ _ (.cons _ _ .nil))) | exact .cons _ _ (.cons _ _ (.cons _ _ (.cons _ _ (.cons _ _ .nil)))) | exact .cons _ _ (.cons _ _ (.cons _ _ (.cons _ _ (.cons _ _ (.cons _ _ (.cons _ _ (.cons _ _ .nil))))))))) ?_); intro vS h' tk' t' hS F' N'; (try dsimp only); (try k_sweep))) | ((with_reducible show wpAny _ _ (subscriptTail _ _ (Value.ref _) _) _ _ _); (k_here; (with_reducible show wpAny _ _ (subscriptTail _ _ (Value.ref _) (Value.int _ _)) _ _ _); k_dflt (refine itemL (by k_asm) (by k_mem) (by omega) (by omega) (by assumption) ?_))) | ((with_reducible show LCg.FinE _ _ _ _ _ _ _); ((unfold LCg.FinE); intro D' h' tk' F' N' o1'; (try simp only [List.nil_append, List.cons_append] at N'); (try dsimp only))) | ((with_reducible show LCg.CompRest _ _ _ _ _ _ _ _ _ _ _ _ _ _ _ _ _ _ _); (with_unfolding_all first | (refine LCg.CompRest.succ ?_; intro v' I' oI' C' oC' D' m' h' tk' E' hv' hC' hx' F' N' off' ne'; (first | lcg_open hv' | (obtain ⟨t9', hv9'⟩ := hv'; subst hv9'))) | refine LCg.CompRest.zero ?_)) | ((with_reducible show LCg.CompEnd _ _ _ _ _ _ _ _ _ _ _ _ _ _); (k_dflt (refine compSame (by k_asm) (by k_asm) (by assumption) (by first | exact True.intro | exact Or.inr ⟨_, by k_mem, rfl, _, rfl⟩) ?_))) | ((with_reducible show LCg.CompEnd _ _ _ _ _ _ _ _ _ _ _ _ _ _); (k_dflt lcg_end)) | ((with_reducible show LCg.FinE _ _ _ _ _ _ _); ((unfold LCg.FinE); intro D' h' tk' F' N' o1'; (try simp only [LCg.Off1, and_true] at o1'); (try simp only [List.nil_append, List.cons_append] at N'); (repeat (obtain ⟨_, o1'⟩ := o1')); (try dsimp only))) | ((with_reducible show LCg.CompRest _ _ _ _ _ _ _ _ _ _ _ _ _ _ _ _ _ _ _); (with_unfolding_all first | (refine LCg.CompRest.succ ?_; intro v' I' oI' C' oC' D' m' h' tk' E' hv' hC' hx' F' N' off' ne'; (first | lcg_open hv' | (obtain ⟨t9', hv9'⟩ := hv'; subst hv9')); (try simp only [LCg.Off3, and_true] at off'); (obtain ⟨_, _, _⟩ := ne'); (repeat (obtain ⟨⟨_, _, _⟩, off'⟩ := off')); (try obtain ⟨_, _, _⟩ := off')) | refine LCg.CompRest.zero ?_)) | ((with_reducible show LCg.CompSrc _ _ _ _ _ _ _ _ _ _ _ _ _ _); (k_here; k_dflt (refine LCg.CompSrc.range (by rfl) (by k_asm) (by k_asm) (by assumption) (by first | decide | rfl) (by first | rfl | decide) (by first | size_fits | exact Nat.le_of_ble_eq_true rfl) ?_; intro g'; lcg_lit))) | walk1 | (dsimp only))
  rename Fr _ _ _ _ => F9
  exact hQ _ _ _ _ _ _ _ (by assumption) (by assumption) (by assumption) (by assumption) (by assumption) (frEq F9 (chainM_eq (allCons m1 (allCons m2 allNil)))) (by assumption)
noncomputable def due_at2B (w : World) : List Stmt := forBody (stNth (fnBody w 111) 4)
theorem due_at2 {w : World} {mean mg mb} {env0 : Env} {base h₀ : Heap} {L : Addr} {m : Str → Option Value} {s : Shared} {Q : Flow → Shared → Prop} {E : Value → Shared → Prop} {nm : Str} {cd : Value} {b : List Stmt} {sc : Scope}
   {j0 j1 j2 W y0 y1 y2 y3 y4 : Int} {u0 u1 u2 tW a0 a1 a2 a3 a4 tp : Tok} {wl cm du kw kc kd : Nat} {oc ol op : Obj} {its : Array Value} {news : List (Addr × Obj)} {g : Obj → List (Addr × Obj)}
   (hb : due_at2B w = b) (hc : fnScope w 111 = sc) (B : Below (callerA.deeper env0) base [env0] h₀) (F : Fr h₀ L s.heap m) (X : (hd.heap_39 w.params).In h₀)
   (T : Top hd.view_39 (looseW hd.view_39 [Str.ofString "_twin_re_1", Str.ofString "_twin_re_2", Str.ofString "EXACT_TOKEN_TYPES"]) mean mg mb h₀)
   (GL : Glob 0 mg mb (List.map itemOf (recsOf hd.view_39)) (scalarsOf [] ++ constsW hd.view_39) [] (namesW hd.view_39 [Str.ofString "_twin_re_1", Str.ofString "_twin_re_2", Str.ofString "EXACT_TOKEN_TYPES"]) base) (M : ∃ a o, BMod base mainGlobals mg a o)
   (m1 : m (Str.ofString "works") = some (.ref wl)) (m2 : m (Str.ofString "due") = some (.ref du)) 
   (N : News h₀ L s.heap news) (c1 : (L + 1, oc) ∈ news) (hoc : oc.data = .cell (some (.ref cm))) (c2 : (L + 2, ol) ∈ news) (hol : ol.data = .cell (some (.int W tW))) (c3 : (L + 3, op) ∈ news) (hop : op.data = .cell (some (.int 2 tp))) (U : UpdF du (listOf its kd) news g)
   (e1 : (wl, listOf #[.int j0 u0, .int j1 u1, .int j2 u2] kw) ∈ news) (e2 : (cm, listOf #[.int y0 a0, .int y1 a1, .int y2 a2, .int y3 a3, .int y4 a4] kc) ∈ news)
    (hsz : Array.size its ≤ sizeLine)
   (hQ : ∀ h' tk' (v M x0 x1 x2 : Int) (t : Tok), Eqv v [j0, j1, j2].sum → M ∈ [y0 + x0, y1 + x1, y2 + x2] → (∀ a : Int, a ∈ [y0 + x0, y1 + x1, y2 + x2] → a ≤ M) → Eqv x0 ((2 - (0 + (((0 : Nat)) : Int))) * W) → Eqv x1 ((2 - (0 + (((0 + 1 : Nat)) : Int))) * W) → Eqv x2 ((2 - (0 + (((0 + 1 + 1 : Nat)) : Int))) * W) → Fr h₀ L h' (fun z => m z) → News h₀ L h' (g (listOf (Array.push its (.int (v + M) t)) (kd + 1))) → Q .next { s with heap := h', toks := tk' })
   : wpAny (model PySem.Challenge.rw_to0012_01.row.prog w) ((callerA.deeper env0).deeper (envOfC nm sc L 111 cd)) (execs b (envOfC nm sc L 111 cd)) Q E s := by
  subst hb hc
  w_top off
  have kf : ((hd.heap_39 w.params).In h₀ ∧ PySem.Challenge.rw_to0012_01.row.prog = PySem.Challenge.rw_to0012_01.row.prog → True) := by k_fill; exact fun _ => trivial
  clear kf
  have F' := frGets _ (allCons m1 (allCons m2 allNil)) F
  dsimp only [chainM] at F'
  clear F
  have e0 := updMem U
  obtain ⟨a₁, o₁, M⟩ := M
  unfold due_at2B
  refine fnPart (a := 111) (Q := fun b sc => wpAny (model PySem.Challenge.rw_to0012_01.row.prog w) ((callerA.deeper env0).deeper (envOfC nm sc L 111 cd)) (execs (forBody (stNth b 4)) (envOfC nm sc L 111 cd)) Q E s) (by k_is) ?_
  dsimp only [forBody, stNth]
  repeat' (first | (k_unfold; (try dsimp only)) | ((with_reducible show wpAny _ _ (subscriptTail _ _ (Value.ref _) _) _ _ _); (k_here; (with_reducible show wpAny _ _ (subscriptTail _ _ (Value.ref _) (Value.int _ _)) _ _ _); k_dflt (refine itemL (by k_asm) (by k_mem) (by decide) (by decide) (by ((try simp only [List.push_toArray, List.nil_append, List.cons_append]); rfl)) ?_))) | ((with_reducible show wpAny _ _ (call (Value.builtin "list.append") _ _) _ _ _); (k_here; (with_reducible show wpAny _ _ (call (Value.builtin _) [Value.ref _, _]) _ _ _); (repeat ((with_reducible rename News _ _ _ (_ :: _) => hN1'); (have hN2' := newsTl hN1'); clear hN1')); k_dflt (refine append_K (by k_asm) (by k_asm) (by exact updOf (by assumption) _) ?_ (by assumption); k_whole); intro h' F' N'; (try k_sweep))) | ((with_reducible show wpAny _ _ (binaryOp Operator.Mult (Value.int _ _) (Value.int _ _)) _ _ _); (k_here; k_dflt (refine mulG (by first | decide +kernel | omega) (by first | decide +kernel | omega) ?_; intro vM hM; (try dsimp only)))) | ((with_reducible show wpAny _ _ (execs (List.cons _ _) _) _ _ _); ((try k_fold); (repeat ((with_reducible rename News _ _ _ (_ :: _) => hN1'); (have hN2' := newsTl hN1'); clear hN1')); (conv => arg @7; dsimp only); (with_reducible refine wpAny_execs_cons ?_); (try dsimp only))) | ((with_reducible show wpAny _ _ (pyIter (Value.ref _)) _ _ _); (k_here; (with_reducible show wpAny _ _ (pyIter (Value.ref _)) (fun it s₂ => TurnsAt _ _ _ _ _ _ _ _ _ it s₂) _ _); (rename Fr _ _ _ _ => lF'); (rename News _ _ _ _ => lN'); (rename IsRange _ _ _ _ _ _ _ _ => lR'); (with_unfolding_all refine iter_rangeTurns (xs := [.tok fun t => .int 0 t, .tok fun t => .int 1 t, .tok fun t => .int 2 t, .tok fun t => .int 3 t, .tok fun t => .int 4 t]) (n := 5) (by rfl) lR' (by decide) (by decide) (by rfl) r5 lF' lN' ?_); clear lF' lN'; intro i' l1; (try k_lt l1))) | ((with_reducible show wpAny _ _ (call (Value.builtin "max") _ _) _ _ _); (k_here; (with_reducible show wpAny _ _ (call (Value.builtin "max") [Value.ref _]) _ _ _); k_dflt (refine maxL (by exact rfl) (by k_asm) (by k_asm) (by k_mem) (by ((try simp only [List.push_toArray, List.nil_append, List.cons_append]); first | exact .cons _ _ .nil | exact .cons _ _ (.cons _ _ .nil) | exact .cons _ _ (.cons _ _ (.cons _ _ .nil)) | exact .cons _ _ (.cons _ _ (.cons _ _ (.cons _ _ .nil))) | exact .cons _ _ (.cons _ _ (.cons _ _ (.cons _ _ (.cons _ _ .nil)))) | exact .cons _ _ (.cons _ _ (.cons _ _ (.cons _ _ (.cons _ _ (.cons _ _ (.cons _ _ (.cons _ _ .nil))))))))) (by exact Nat.succ_pos _) ?_); intro h' M' tM' tk' F' N' hMm hMu; (try dsimp only); (try k_sweep))) | ((with_reducible show wpAny _ _ (call (Value.builtin "sum") _ _) _ _ _); (k_here; (with_reducible show wpAny _ _ (call (Value.builtin "sum") [Value.ref _]) _ _ _); k_dflt (refine sumL (by exact rfl) (by k_asm) (by k_asm) (by k_mem) (by ((try simp only [List.push_toArray, List.nil_append, List.cons_append]); first | exact .cons _ _ .nil | exact .cons _ _ (.cons _ _ .nil) | exact .cons _ _ (.cons _ _ (.cons _ _ .nil)) | exact .cons _ _ (.cons _ _ (.cons _ _ (.cons _ _ .nil))) | exact .cons _ _ (.cons _ _ (.cons _ _ (.cons _ _ (.cons _ _ .nil)))) | exact .cons _ _ (.cons _ _ (.cons _ _ (.cons _ _ (.cons _ _ (.cons _ _ (.cons _ _ (.cons _ _ .nil))))))))) ?_); intro vS h' tk' t' hS F' N'; (try dsimp only); (try k_sweep))) | ((with_reducible show wpAny _ _ (subscriptTail _ _ (Value.ref _) _) _ _ _); (k_here; (with_reducible show wpAny _ _ (subscriptTail _ _ (Value.ref _) (Value.int _ _)) _ _ _); k_dflt (refine itemL (by k_asm) (by k_mem) (by omega) (by omega) (by assumption) ?_))) | ((with_reducible show LCg.FinE _ _ _ _ _ _ _); ((unfold LCg.FinE); intro D' h' tk' F' N' o1'; (try simp only [List.nil_append, List.cons_append] at N'); (try dsimp only))) | ((with_reducible show LCg.CompRest _ _ _ _ _ _ _ _ _ _ _ _ _ _ _ _ _ _ _); (with_unfolding_all first | (refine LCg.CompRest.succ ?_; intro v' I' oI' C' oC' D' m' h' tk' E' hv' hC' hx' F' N' off' ne'; (first | lcg_open hv' | (obtain ⟨t9', hv9'⟩ := hv'; subst hv9'))) | refine LCg.CompRest.zero ?_)) | ((with_reducible show LCg.CompEnd _ _ _ _ _ _ _ _ _ _ _ _ _ _); (k_dflt (refine compSame (by k_asm) (by k_asm) (by assumption) (by first | exact True.intro | exact Or.inr ⟨_, by k_mem, rfl, _, rfl⟩) ?_))) | ((with_reducible show LCg.CompEnd _ _ _ _ _ _ _ _ _ _ _ _ _ _); (k_dflt lcg_end)) | ((with_reducible show LCg.FinE _ _ _ _ _ _ _); ((unfold LCg.FinE); intro D' h' tk' F' N' o1'; (try simp only [LCg.Off1, and_true] at o1'); (try simp only [List.nil_append, List.cons_append] at N'); (repeat (obtain ⟨_, o1'⟩ := o1')); (try dsimp only))) | ((with_reducible show LCg.CompRest _ _ _ _ _ _ _ _ _ _ _ _ _ _ _ _ _ _ _); (with_unfolding_all first | (refine LCg.CompRest.succ ?_; intro v' I' oI' C' oC' D' m' h' tk' E' hv' hC' hx' F' N' off' ne'; (first | lcg_open hv' | (obtain ⟨t9', hv9'⟩ := hv'; subst hv9')); (try simp only [LCg.Off3, and_true] at off'); (obtain ⟨_, _, _⟩ := ne'); (repeat (obtain ⟨⟨_, _, _⟩, off'⟩ := off')); (try obtain ⟨_, _, _⟩ := off')) | refine LCg.CompRest.zero ?_)) | ((with_reducible show LCg.CompSrc _ _ _ _ _ _ _ _ _ _ _ _ _ _); (k_here; k_dflt (refine LCg.CompSrc.range (by rfl) (by k_asm) (by k_asm) (by assumption) (by first | decide | rfl) (by first | rfl | decide) (by first | size_fits | exact Nat.le_of_ble_eq_true rfl) ?_; intro g'; lcg_lit))) | walk1 | (dsimp only))
  rename Fr _ _ _ _ => F9
  exact hQ _ _ _ _ _ _ _ _ (by assumption) (by assumption) (by assumption) (by assumption) (by assumption) (by assumption) (frEq F9 (chainM_eq (allCons m1 (allCons m2 allNil)))) (by assumption)
noncomputable def due_at3B (w : World) : List Stmt := forBody (stNth (fnBody w 111) 4)
theorem due_at3 {w : World} {mean mg mb} {env0 : Env} {base h₀ : Heap} {L : Addr} {m : Str → Option Value} {s : Shared} {Q : Flow → Shared → Prop} {E : Value → Shared → Prop} {nm : Str} {cd : Value} {b : List Stmt} {sc : Scope}
   {j0 j1 j2 W y0 y1 y2 y3 y4 : Int} {u0 u1 u2 tW a0 a1 a2 a3 a4 tp : Tok} {wl cm du kw kc kd : Nat} {oc ol op : Obj} {its : Array Value} {news : List (Addr × Obj)} {g : Obj → List (Addr × Obj)}
   (hb : due_at3B w = b) (hc : fnScope w 111 = sc) (B : Below (callerA.deeper env0) base [env0] h₀) (F : Fr h₀ L s.heap m) (X : (hd.heap_39 w.params).In h₀)
   (T : Top hd.view_39 (looseW hd.view_39 [Str.ofString "_twin_re_1", Str.ofString "_twin_re_2", Str.ofString "EXACT_TOKEN_TYPES"]) mean mg mb h₀)
   (GL : Glob 0 mg mb (List.map itemOf (recsOf hd.view_39)) (scalarsOf [] ++ constsW hd.view_39) [] (namesW hd.view_39 [Str.ofString "_twin_re_1", Str.ofString "_twin_re_2", Str.ofString "EXACT_TOKEN_TYPES"]) base) (M : ∃ a o, BMod base mainGlobals mg a o)
   (m1 : m (Str.ofString "works") = some (.ref wl)) (m2 : m (Str.ofString "due") = some (.ref du)) 
   (N : News h₀ L s.heap news) (c1 : (L + 1, oc) ∈ news) (hoc : oc.data = .cell (some (.ref cm))) (c2 : (L + 2, ol) ∈ news) (hol : ol.data = .cell (some (.int W tW))) (c3 : (L + 3, op) ∈ news) (hop : op.data = .cell (some (.int 3 tp))) (U : UpdF du (listOf its kd) news g)
   (e1 : (wl, listOf #[.int j0 u0, .int j1 u1, .int j2 u2] kw) ∈ news) (e2 : (cm, listOf #[.int y0 a0, .int y1 a1, .int y2 a2, .int y3 a3, .int y4 a4] kc) ∈ news)
    (hsz : Array.size its ≤ sizeLine)
   (hQ : ∀ h' tk' (v M x0 x1 x2 x3 : Int) (t : Tok), Eqv v [j0, j1, j2].sum → M ∈ [y0 + x0, y1 + x1, y2 + x2, y3 + x3] → (∀ a : Int, a ∈ [y0 + x0, y1 + x1, y2 + x2, y3 + x3] → a ≤ M) → Eqv x0 ((3 - (0 + (((0 : Nat)) : Int))) * W) → Eqv x1 ((3 - (0 + (((0 + 1 : Nat)) : Int))) * W) → Eqv x2 ((3 - (0 + (((0 + 1 + 1 : Nat)) : Int))) * W) → Eqv x3 ((3 - (0 + (((0 + 1 + 1 + 1 : Nat)) : Int))) * W) → Fr h₀ L h' (fun z => m z) → News h₀ L h' (g (listOf (Array.push its (.int (v + M) t)) (kd + 1))) → Q .next { s with heap := h', toks := tk' })
   : wpAny (model PySem.Challenge.rw_to0012_01.row.prog w) ((callerA.deeper env0).deeper (envOfC nm sc L 111 cd)) (execs b (envOfC nm sc L 111 cd)) Q E s := by
  subst hb hc
  w_top off
  have kf : ((hd.heap_39 w.params).In h₀ ∧ PySem.Challenge.rw_to0012_01.row.prog = PySem.Challenge.rw_to0012_01.row.prog → True) := by k_fill; exact fun _ => trivial
  clear kf
  have F' := frGets _ (allCons m1 (allCons m2 allNil)) F
  dsimp only [chainM] at F'
  clear F
  have e0 := updMem U
  obtain ⟨a₁, o₁, M⟩ := M
  unfold due_at3B
  refine fnPart (a := 111) (Q := fun b sc => wpAny (model PySem.Challenge.rw_to0012_01.row.prog w) ((callerA.deeper env0).deeper (envOfC nm sc L 111 cd)) (execs (forBody (stNth b 4)) (envOfC nm sc L 111 cd)) Q E s) (by k_is) ?_
  dsimp only [forBody, stNth]
  repeat' (first | (k_unfold; (try dsimp only)) | ((with_reducible show wpAny _ _ (subscriptTail _ _ (Value.ref _) _) _ _ _); (k_here; (with_reducible show wpAny _ _ (subscriptTail _ _ (Value.ref _) (Value.int _ _)) _ _ _); k_dflt (refine itemL (by k_asm) (by k_mem) (by decide) (by decide) (by ((try simp only [List.push_toArray, List.nil_append, List.cons_append]); rfl)) ?_))) | ((with_reducible show wpAny _ _ (call (Value.builtin "list.append") _ _) _ _ _); (k_here; (with_reducible show wpAny _ _ (call (Value.builtin _) [Value.ref _, _]) _ _ _); (repeat ((with_reducible rename News _ _ _ (_ :: _) => hN1'); (have hN2' := newsTl hN1'); clear hN1')); k_dflt (refine append_K (by k_asm) (by k_asm) (by exact updOf (by assumption) _) ?_ (by assumption); k_whole); intro h' F' N'; (try k_sweep))) | ((with_reducible show wpAny _ _ (binaryOp Operator.Mult (Value.int _ _) (Value.int _ _)) _ _ _); (k_here; k_dflt (refine mulG (by first | decide +kernel | omega) (by first | decide +kernel | omega) ?_; intro vM hM; (try dsimp only)))) | ((with_reducible show wpAny _ _ (execs (List.cons _ _) _) _ _ _); ((try k_fold); (repeat ((with_reducible rename News _ _ _ (_ :: _) => hN1'); (have hN2' := newsTl hN1'); clear hN1')); (conv => arg @7; dsimp only); (with_reducible refine wpAny_execs_cons ?_); (try dsimp only))) | ((with_reducible show wpAny _ _ (pyIter (Value.ref _)) _ _ _); (k_here; (with_reducible show wpAny _ _ (pyIter (Value.ref _)) (fun it s₂ => TurnsAt _ _ _ _ _ _ _ _ _ it s₂) _ _); (rename Fr _ _ _ _ => lF'); (rename News _ _ _ _ => lN'); (rename IsRange _ _ _ _ _ _ _ _ => lR'); (with_unfolding_all refine iter_rangeTurns (xs := [.tok fun t => .int 0 t, .tok fun t => .int 1 t, .tok fun t => .int 2 t, .tok fun t => .int 3 t, .tok fun t => .int 4 t]) (n := 5) (by rfl) lR' (by decide) (by decide) (by rfl) r5 lF' lN' ?_); clear lF' lN'; intro i' l1; (try k_lt l1))) | ((with_reducible show wpAny _ _ (call (Value.builtin "max") _ _) _ _ _); (k_here; (with_reducible show wpAny _ _ (call (Value.builtin "max") [Value.ref _]) _ _ _); k_dflt (refine maxL (by exact rfl) (by k_asm) (by k_asm) (by k_mem) (by ((try simp only [List.push_toArray, List.nil_append, List.cons_append]); first | exact .cons _ _ .nil | exact .cons _ _ (.cons _ _ .nil) | exact .cons _ _ (.cons _ _ (.cons _ _ .nil)) | exact .cons _ _ (.cons _ _ (.cons _ _ (.cons _ _ .nil))) | exact .cons _ _ (.cons _ _ (.cons _ _ (.cons _ _ (.cons _ _ .nil)))) | exact .cons _ _ (.cons _ _ (.cons _ _ (.cons _ _ (.cons _ _ (.cons _ _ (.cons _ _ (.cons _ _ .nil))))))))) (by exact Nat.succ_pos _) ?_); intro h' M' tM' tk' F' N' hMm hMu; (try dsimp only); (try k_sweep))) | ((with_reducible show wpAny _ _ (call (Value.builtin "sum") _ _) _ _ _); (k_here; (with_reducible show wpAny _ _ (call (Value.builtin "sum") [Value.ref _]) _ _ _); k_dflt (refine sumL (by exact rfl) (by k_asm) (by k_asm) (by k_mem) (by ((try simp only [List.push_toArray, List.nil_append, List.cons_append]); first | exact .cons _ _ .nil | exact .cons _ _ (.cons _ _ .nil) | exact .cons _ _ (.cons _ _ (.cons _ _ .nil)) | exact .cons _ _ (.cons _ _ (.cons _ _ (.cons _ _ .nil))) | exact .cons _ _ (.cons _ _ (.cons _ _ (.cons _ _ (.cons _ _ .nil)))) | exact .cons _ _ (.cons _ _ (.cons _ _ (.cons _ _ (.cons _ _ (.cons _ _ (.cons _ _ (.cons _ _ .nil))))))))) ?_); intro vS h' tk' t' hS F' N'; (try dsimp only); (try k_sweep))) | ((with_reducible show wpAny _ _ (subscriptTail _ _ (Value.ref _) _) _ _ _); (k_here; (with_reducible show wpAny _ _ (subscriptTail _ _ (Value.ref _) (Value.int _ _)) _ _ _); k_dflt (refine itemL (by k_asm) (by k_mem) (by omega) (by omega) (by assumption) ?_))) | ((with_reducible show LCg.FinE _ _ _ _ _ _ _); ((unfold LCg.FinE); intro D' h' tk' F' N' o1'; (try simp only [List.nil_append, List.cons_append] at N'); (try dsimp only))) | ((with_reducible show LCg.CompRest _ _ _ _ _ _ _ _ _ _ _ _ _ _ _ _ _ _ _); (with_unfolding_all first | (refine LCg.CompRest.succ ?_; intro v' I' oI' C' oC' D' m' h' tk' E' hv' hC' hx' F' N' off' ne'; (first | lcg_open hv' | (obtain ⟨t9', hv9'⟩ := hv'; subst hv9'))) | refine LCg.CompRest.zero ?_)) | ((with_reducible show LCg.CompEnd _ _ _ _ _ _ _ _ _ _ _ _ _ _); (k_dflt (refine compSame (by k_asm) (by k_asm) (by assumption) (by first | exact True.intro | exact Or.inr ⟨_, by k_mem, rfl, _, rfl⟩) ?_))) | ((with_reducible show LCg.CompEnd _ _ _ _ _ _ _ _ _ _ _ _ _ _); (k_dflt lcg_end)) | ((with_reducible show LCg.FinE _ _ _ _ _ _ _); ((unfold LCg.FinE); intro D' h' tk' F' N' o1'; (try simp only [LCg.Off1, and_true] at o1'); (try simp only [List.nil_append, List.cons_append] at N'); (repeat (obtain ⟨_, o1'⟩ := o1')); (try dsimp only))) | ((with_reducible show LCg.CompRest _ _ _ _ _ _ _ _ _ _ _ _ _ _ _ _ _ _ _); (with_unfolding_all first | (refine LCg.CompRest.succ ?_; intro v' I' oI' C' oC' D' m' h' tk' E' hv' hC' hx' F' N' off' ne'; (first | lcg_open hv' | (obtain ⟨t9', hv9'⟩ := hv'; subst hv9')); (try simp only [LCg.Off3, and_true] at off'); (obtain ⟨_, _, _⟩ := ne'); (repeat (obtain ⟨⟨_, _, _⟩, off'⟩ := off')); (try obtain ⟨_, _, _⟩ := off')) | refine LCg.CompRest.zero ?_)) | ((with_reducible show LCg.CompSrc _ _ _ _ _ _ _ _ _ _ _ _ _ _); (k_here; k_dflt (refine LCg.CompSrc.range (by rfl) (by k_asm) (by k_asm) (by assumption) (by first | decide | rfl) (by first | rfl | decide) (by first | size_fits | exact Nat.le_of_ble_eq_true rfl) ?_; intro g'; lcg_lit))) | walk1 | (dsimp only))
  rename Fr _ _ _ _ => F9
  exact hQ _ _ _ _ _ _ _ _ _ (by assumption) (by assumption) (by assumption) (by assumption) (by assumption) (by assumption) (by assumption) (frEq F9 (chainM_eq (allCons m1 (allCons m2 allNil)))) (by assumption)
noncomputable def due_at4B (w : World) : List Stmt := forBody (stNth (fnBody w 111) 4)
theorem due_at4 {w : World} {mean mg mb} {env0 : Env} {base h₀ : Heap} {L : Addr} {m : Str → Option Value} {s : Shared} {Q : Flow → Shared → Prop} {E : Value → Shared → Prop} {nm : Str} {cd : Value} {b : List Stmt} {sc : Scope}
   {j0 j1 j2 W y0 y1 y2 y3 y4 : Int} {u0 u1 u2 tW a0 a1 a2 a3 a4 tp : Tok} {wl cm du kw kc kd : Nat} {oc ol op : Obj} {its : Array Value} {news : List (Addr × Obj)} {g : Obj → List (Addr × Obj)}
   (hb : due_at4B w = b) (hc : fnScope w 111 = sc) (B : Below (callerA.deeper env0) base [env0] h₀) (F : Fr h₀ L s.heap m) (X : (hd.heap_39 w.params).In h₀)
   (T : Top hd.view_39 (looseW hd.view_39 [Str.ofString "_twin_re_1", Str.ofString "_twin_re_2", Str.ofString "EXACT_TOKEN_TYPES"]) mean mg mb h₀)
   (GL : Glob 0 mg mb (List.map itemOf (recsOf hd.view_39)) (scalarsOf [] ++ constsW hd.view_39) [] (namesW hd.view_39 [Str.ofString "_twin_re_1", Str.ofString "_twin_re_2", Str.ofString "EXACT_TOKEN_TYPES"]) base) (M : ∃ a o, BMod base mainGlobals mg a o)
   (m1 : m (Str.ofString "works") = some (.ref wl)) (m2 : m (Str.ofString "due") = some (.ref du)) 
   (N : News h₀ L s.heap news) (c1 : (L + 1, oc) ∈ news) (hoc : oc.data = .cell (some (.ref cm))) (c2 : (L + 2, ol) ∈ news) (hol : ol.data = .cell (some (.int W tW))) (c3 : (L + 3, op) ∈ news) (hop : op.data = .cell (some (.int 4 tp))) (U : UpdF du (listOf its kd) news g)
   (e1 : (wl, listOf #[.int j0 u0, .int j1 u1, .int j2 u2] kw) ∈ news) (e2 : (cm, listOf #[.int y0 a0, .int y1 a1, .int y2 a2, .int y3 a3, .int y4 a4] kc) ∈ news)
    (hsz : Array.size its ≤ sizeLine)
   (hQ : ∀ h' tk' (v M x0 x1 x2 x3 x4 : Int) (t : Tok), Eqv v [j0, j1, j2].sum → M ∈ [y0 + x0, y1 + x1, y2 + x2, y3 + x3, y4 + x4] → (∀ a : Int, a ∈ [y0 + x0, y1 + x1, y2 + x2, y3 + x3, y4 + x4] → a ≤ M) → Eqv x0 ((4 - (0 + (((0 : Nat)) : Int))) * W) → Eqv x1 ((4 - (0 + (((0 + 1 : Nat)) : Int))) * W) → Eqv x2 ((4 - (0 + (((0 + 1 + 1 : Nat)) : Int))) * W) → Eqv x3 ((4 - (0 + (((0 + 1 + 1 + 1 : Nat)) : Int))) * W) → Eqv x4 ((4 - (0 + (((0 + 1 + 1 + 1 + 1 : Nat)) : Int))) * W) → Fr h₀ L h' (fun z => m z) → News h₀ L h' (g (listOf (Array.push its (.int (v + M) t)) (kd + 1))) → Q .next { s with heap := h', toks := tk' })
   : wpAny (model PySem.Challenge.rw_to0012_01.row.prog w) ((callerA.deeper env0).deeper (envOfC nm sc L 111 cd)) (execs b (envOfC nm sc L 111 cd)) Q E s := by
  subst hb hc
  w_top off
  have kf : ((hd.heap_39 w.params).In h₀ ∧ PySem.Challenge.rw_to0012_01.row.prog = PySem.Challenge.rw_to0012_01.row.prog → True) := by k_fill; exact fun _ => trivial
  clear kf
  have F' := frGets _ (allCons m1 (allCons m2 allNil)) F
  dsimp only [chainM] at F'
  clear F
  have e0 := updMem U
  obtain ⟨a₁, o₁, M⟩ := M
  unfold due_at4B
  refine fnPart (a := 111) (Q := fun b sc => wpAny (model PySem.Challenge.rw_to0012_01.row.prog w) ((callerA.deeper env0).deeper (envOfC nm sc L 111 cd)) (execs (forBody (stNth b 4)) (envOfC nm sc L 111 cd)) Q E s) (by k_is) ?_
  dsimp only [forBody, stNth]
  repeat' (first | (k_unfold; (try dsimp only)) | ((with_reducible show wpAny _ _ (subscriptTail _ _ (Value.ref _) _) _ _ _); (k_here; (with_reducible show wpAny _ _ (subscriptTail _ _ (Value.ref _) (Value.int _ _)) _ _ _); k_dflt (refine itemL (by k_asm) (by k_mem) (by decide) (by decide) (by ((try simp only [List.push_toArray, List.nil_append, List.cons_append]); rfl)) ?_))) | ((with_reducible show wpAny _ _ (call (Value.builtin "list.append") _ _) _ _ _); (k_here; (with_reducible show wpAny _ _ (call (Value.builtin _) [Value.ref _, _]) _ _ _); (repeat ((with_reducible rename News _ _ _ (_ :: _) => hN1'); (have hN2' := newsTl hN1'); clear hN1')); k_dflt (refine append_K (by k_asm) (by k_asm) (by exact updOf (by assumption) _) ?_ (by assumption); k_whole); intro h' F' N'; (try k_sweep))) | ((with_reducible show wpAny _ _ (binaryOp Operator.Mult (Value.int _ _) (Value.int _ _)) _ _ _); (k_here; k_dflt (refine mulG (by first | decide +kernel | omega) (by first | decide +kernel | omega) ?_; intro vM hM; (try dsimp only)))) | ((with_reducible show wpAny _ _ (execs (List.cons _ _) _) _ _ _); ((try k_fold); (repeat ((with_reducible rename News _ _ _ (_ :: _) => hN1'); (have hN2' := newsTl hN1'); clear hN1')); (conv => arg @7; dsimp only); (with_reducible refine wpAny_execs_cons ?_); (try dsimp only))) | ((with_reducible show wpAny _ _ (pyIter (Value.ref _)) _ _ _); (k_here; (with_reducible show wpAny _ _ (pyIter (Value.ref _)) (fun it s₂ => TurnsAt _ _ _ _ _ _ _ _ _ it s₂) _ _); (rename Fr _ _ _ _ => lF'); (rename News _ _ _ _ => lN'); (rename IsRange _ _ _ _ _ _ _ _ => lR'); (with_unfolding_all refine iter_rangeTurns (xs := [.tok fun t => .int 0 t, .tok fun t => .int 1 t, .tok fun t => .int 2 t, .tok fun t => .int 3 t, .tok fun t => .int 4 t]) (n := 5) (by rfl) lR' (by decide) (by decide) (by rfl) r5 lF' lN' ?_); clear lF' lN'; intro i' l1; (try k_lt l1))) | ((with_reducible show wpAny _ _ (call (Value.builtin "max") _ _) _ _ _); (k_here; (with_reducible show wpAny _ _ (call (Value.builtin "max") [Value.ref _]) _ _ _); k_dflt (refine maxL (by exact rfl) (by k_asm) (by k_asm) (by k_mem) (by ((try simp only [List.push_toArray, List.nil_append, List.cons_append]); first | exact .cons _ _ .nil | exact .cons _ _ (.cons _ _ .nil) | exact .cons _ _ (.cons _ _ (.cons _ _ .nil)) | exact .cons _ _ (.cons _ _ (.cons _ _ (.cons _ _ .nil))) | exact .cons _ _ (.cons _ _ (.cons _ _ (.cons _ _ (.cons _ _ .nil)))) | exact .cons _ _ (.cons _ _ (.cons _ _ (.cons _ _ (.cons _ _ (.cons _ _ (.cons _ _ (.cons _ _ .nil))))))))) (by exact Nat.succ_pos _) ?_); intro h' M' tM' tk' F' N' hMm hMu; (try dsimp only); (try k_sweep))) | ((with_reducible show wpAny _ _ (call (Value.builtin "sum") _ _) _ _ _); (k_here; (with_reducible show wpAny _ _ (call (Value.builtin "sum") [Value.ref _]) _ _ _); k_dflt (refine sumL (by exact rfl) (by k_asm) (by k_asm) (by k_mem) (by ((try simp only [List.push_toArray, List.nil_append, List.cons_append]); first | exact .cons _ _ .nil | exact .cons _ _ (.cons _ _ .nil) | exact .cons _ _ (.cons _ _ (.cons _ _ .nil)) | exact .cons _ _ (.cons _ _ (.cons _ _ (.cons _ _ .nil))) | exact .cons _ _ (.cons _ _ (.cons _ _ (.cons _ _ (.cons _ _ .nil)))) | exact .cons _ _ (.cons _ _ (.cons _ _ (.cons _ _ (.cons _ _ (.cons _ _ (.cons _ _ (.cons _ _ .nil))))))))) ?_); intro vS h' tk' t' hS F' N'; (try dsimp only); (try k_sweep))) | ((with_reducible show wpAny _ _ (subscriptTail _ _ (Value.ref _) _) _ _ _); (k_here; (with_reducible show wpAny _ _ (subscriptTail _ _ (Value.ref _) (Value.int _ _)) _ _ _); k_dflt (refine itemL (by k_asm) (by k_mem) (by omega) (by omega) (by assumption) ?_))) | ((with_reducible show LCg.FinE _ _ _ _ _ _ _); ((unfold LCg.FinE); intro D' h' tk' F' N' o1'; (try simp only [List.nil_append, List.cons_append] at N'); (try dsimp only))) | ((with_reducible show LCg.CompRest _ _ _ _ _ _ _ _ _ _ _ _ _ _ _ _ _ _ _); (with_unfolding_all first | (refine LCg.CompRest.succ ?_; intro v' I' oI' C' oC' D' m' h' tk' E' hv' hC' hx' F' N' off' ne'; (first | lcg_open hv' | (obtain ⟨t9', hv9'⟩ := hv'; subst hv9'))) | refine LCg.CompRest.zero ?_)) | ((with_reducible show LCg.CompEnd _ _ _ _ _ _ _ _ _ _ _ _ _ _); (k_dflt (refine compSame (by k_asm) (by k_asm) (by assumption) (by first | exact True.intro | exact Or.inr ⟨_, by k_mem, rfl, _, rfl⟩) ?_))) | ((with_reducible show LCg.CompEnd _ _ _ _ _ _ _ _ _ _ _ _ _ _); (k_dflt lcg_end)) | ((with_reducible show LCg.FinE _ _ _ _ _ _ _); ((unfold LCg.FinE); intro D' h' tk' F' N' o1'; (try simp only [LCg.Off1, and_true] at o1'); (try simp only [List.nil_append, List.cons_append] at N'); (repeat (obtain ⟨_, o1'⟩ := o1')); (try dsimp only))) | ((with_reducible show LCg.CompRest _ _ _ _ _ _ _ _ _ _ _ _ _ _ _ _ _ _ _); (with_unfolding_all first | (refine LCg.CompRest.succ ?_; intro v' I' oI' C' oC' D' m' h' tk' E' hv' hC' hx' F' N' off' ne'; (first | lcg_open hv' | (obtain ⟨t9', hv9'⟩ := hv'; subst hv9')); (try simp only [LCg.Off3, and_true] at off'); (obtain ⟨_, _, _⟩ := ne'); (repeat (obtain ⟨⟨_, _, _⟩, off'⟩ := off')); (try obtain ⟨_, _, _⟩ := off')) | refine LCg.CompRest.zero ?_)) | ((with_reducible show LCg.CompSrc _ _ _ _ _ _ _ _ _ _ _ _ _ _); (k_here; k_dflt (refine LCg.CompSrc.range (by rfl) (by k_asm) (by k_asm) (by assumption) (by first | decide | rfl) (by first | rfl | decide) (by first | size_fits | exact Nat.le_of_ble_eq_true rfl) ?_; intro g'; lcg_lit))) | walk1 | (dsimp only))
  rename Fr _ _ _ _ => F9
  exact hQ _ _ _ _ _ _ _ _ _ _ (by assumption) (by assumption) (by assumption) (by assumption) (by assumption) (by assumption) (by assumption) (by assumption) (frEq F9 (chainM_eq (allCons m1 (allCons m2 allNil)))) (by assumption)
noncomputable def ltB (w : World) : List Stmt := forBody (stNth (forBody (stNth (fnBody w 106) 1)) 1)
theorem lt_ahead {w : World} {mean mg mb} {env0 : Env} {base h₀ : Heap} {L : Addr} {m : Str → Option Value} {s : Shared} {Q : Flow → Shared → Prop} {E : Value → Shared → Prop} {nm : Str} {cd : Value} {b : List Stmt} {sc : Scope}
   {p k r wk r0 r1 x y room : Int} {tp tk tr tw v0 v1 tx ty t1 : Tok} {lf rw lr R S kf kr ke kR kS : Nat} {rows its as bs : Array Value} {news : List (Addr × Obj)} {g : Obj → List (Addr × Obj)}
   (hb : ltB w = b) (hc : fnScope w 106 = sc) (B : Below (callerA.deeper env0) base [env0] h₀) (F : Fr h₀ L s.heap m) (X : (hd.heap_39 w.params).In h₀)
   (T : Top hd.view_39 (looseW hd.view_39 [Str.ofString "_twin_re_1", Str.ofString "_twin_re_2", Str.ofString "EXACT_TOKEN_TYPES"]) mean mg mb h₀)
   (GL : Glob 0 mg mb (List.map itemOf (recsOf hd.view_39)) (scalarsOf [] ++ constsW hd.view_39) [] (namesW hd.view_39 [Str.ofString "_twin_re_1", Str.ofString "_twin_re_2", Str.ofString "EXACT_TOKEN_TYPES"]) base) (M : ∃ a o, BMod base mainGlobals mg a o)
   (m1 : m (Str.ofString "place") = some (.int p tp)) (m2 : m (Str.ofString "hand") = some (.int k tk)) (m3 : m (Str.ofString "ready") = some (.int r tr)) (m4 : m (Str.ofString "work") = some (.int wk tw)) (m5 : m (Str.ofString "left") = some (.ref lf)) (m6 : m (Str.ofString "row") = some (.ref rw)) (m7 : m (Str.ofString "rooms") = some (.ref lr)) (hp : 1 ≤ p ∧ p ≤ 4) (hk : 0 ≤ k ∧ k ≤ 1)
   (N : News h₀ L s.heap news)  (U : UpdF rw (listOf its kr) news g)
   
   (e1 : (lf, listOf rows kf) ∈ news) (hR : rows.toList[(p - 1).toNat]? = some (.ref R)) (e3 : (R, listOf as kR) ∈ news) (hx : as.toList[k.toNat]? = some (.int x tx)) (e2 : (lr, listOf #[.int r0 v0, .int r1 v1] ke) ∈ news) (hroom : #[Value.int r0 v0, Value.int r1 v1].toList[k.toNat]? = some (.int room t1)) (hrm : 0 ≤ room) (hahead : 0 ≤ p - (1 + room)) (hS : rows.toList[(p - (1 + room)).toNat]? = some (.ref S)) (e4 : (S, listOf bs kS) ∈ news) (hy : bs.toList[(k + 1).toNat]? = some (.int y ty)) (hsz : Array.size its ≤ sizeLine)
   (hQ : ∀ h' tk' t ta, Fr h₀ L h' (fun z => if z = Str.ofString "ready" then some (.int (max (max r x + wk) y) t) else if z = Str.ofString "ahead" then some (.int (p - (1 + room)) ta) else m z) → News h₀ L h' (g (listOf (Array.push its (.int (max (max r x + wk) y) t)) (kr + 1))) → Q .next { s with heap := h', toks := tk' })
   : wpAny (model PySem.Challenge.rw_to0012_01.row.prog w) ((callerA.deeper env0).deeper (envOf nm sc L 106 cd)) (execs b (envOf nm sc L 106 cd)) Q E s := by
  subst hb hc
  w_top off
  have kf : ((hd.heap_39 w.params).In h₀ ∧ PySem.Challenge.rw_to0012_01.row.prog = PySem.Challenge.rw_to0012_01.row.prog → True) := by k_fill; exact fun _ => trivial
  clear kf
  have F' := frGets _ (allCons m3 (allCons m1 (allCons m2 (allCons m4 (allCons m5 (allCons m6 (allCons m7 allNil))))))) F
  dsimp only [chainM] at F'
  clear F
  have e0 := updMem U
  obtain ⟨a₁, o₁, M⟩ := M
  unfold ltB
  refine fnPart (a := 106) (Q := fun b sc => wpAny (model PySem.Challenge.rw_to0012_01.row.prog w) ((callerA.deeper env0).deeper (envOf nm sc L 106 cd)) (execs (forBody (stNth (forBody (stNth b 1)) 1)) (envOf nm sc L 106 cd)) Q E s) (by k_is) ?_
  dsimp only [forBody, stNth]
  repeat' (first | (k_unfold; (try dsimp only)) | ((with_reducible show wpAny _ _ (call (Value.builtin "list.append") _ _) _ _ _); (k_here; (with_reducible show wpAny _ _ (call (Value.builtin _) [Value.ref _, _]) _ _ _); (repeat ((with_reducible rename News _ _ _ (_ :: _) => hN1'); (have hN2' := newsTl hN1'); clear hN1')); k_dflt (refine append_K (by k_asm) (by k_asm) (by exact updOf (by assumption) _) ?_ (by assumption); k_whole); intro h' F' N'; (try k_sweep))) | ((with_reducible show wpAny _ _ (call (Value.builtin "list.append") _ _) _ _ _); (k_here; (with_reducible show wpAny _ _ (call (Value.builtin _) [Value.ref _, _]) _ _ _); k_dflt (refine append_K (by k_asm) (by k_asm) (by k_upd) ?_ (by first | exact Nat.le_of_ble_eq_true rfl | assumption); k_whole); intro h' F' N'; (try k_sweep))) | ((with_reducible show wpAny _ _ (call (Value.ref _) _ _) _ _ _); (k_here; (with_reducible show wpAny _ _ (call (Value.ref 62) [Value.int _ _, Value.int _ _] _) _ _ _); k_dflt (refine ge_law (by first | exact rfl | assumption) (by first | assumption | exact rfl) (by first | assumption | exact rfl) (by k_asm) (by k_asm) (by k_asm) (by k_asm) (by k_asm) (by first | k_room | assumption) ?_; intro hO' tkO FO NO; (try dsimp only); (try k_sweep)))) | ((with_reducible show wpAny _ _ (call (Value.ref _) _ _) _ _ _); (k_here; (with_reducible show wpAny _ _ (call (Value.ref 76) [Value.int _ _, Value.int _ _] _) _ _ _); k_dflt (refine sub_law (by first | exact rfl | assumption) (by first | assumption | exact rfl) (by first | assumption | exact rfl) (by k_asm) (by k_asm) (by k_asm) (by k_asm) (by k_asm) (by first | k_room | assumption) ?_; intro hO' tkO tO FO NO; (try dsimp only); (try k_sweep)))) | ((with_reducible show wpAny _ _ (call (Value.ref _) _ _) _ _ _); (k_here; (with_reducible show wpAny _ _ (call (Value.ref 69) [Value.int _ _, Value.int _ _] _) _ _ _); k_dflt (refine add_law (by first | exact rfl | assumption) (by first | assumption | exact rfl) (by first | assumption | exact rfl) (by k_asm) (by k_asm) (by k_asm) (by k_asm) (by k_asm) (by first | k_room | assumption) ?_; intro hO' tkO tO FO NO; (try dsimp only); (try k_sweep)))) | ((with_reducible show wpAny _ _ (execs (List.cons _ _) _) _ _ _); ((try k_fold); (repeat ((with_reducible rename News _ _ _ (_ :: _) => hN1'); (have hN2' := newsTl hN1'); clear hN1')); (conv => arg @7; dsimp only); (with_reducible refine wpAny_execs_cons ?_); (try dsimp only))) | ((with_reducible show wpAny _ _ (call (Value.builtin "max") _ _) _ _ _); (k_here; (with_reducible show wpAny _ _ (call (Value.builtin "max") [Value.int _ _, Value.int _ _]) _ _ _); k_dflt (refine max2E (by first | exact rfl | assumption) (by k_asm) (by k_asm) ?_; intro hM' tkM tM FM NM; (try dsimp only); (try k_sweep)))) | ((with_reducible show wpAny _ _ (subscriptTail _ _ (Value.ref _) _) _ _ _); (k_here; (with_reducible show wpAny _ _ (subscriptTail _ _ (Value.ref _) (Value.int _ _)) _ _ _); k_dflt (refine itemL (by k_asm) (by k_mem) (by omega) (by omega) (by assumption) ?_))) | ((with_reducible show LCg.FinE _ _ _ _ _ _ _); ((unfold LCg.FinE); intro D' h' tk' F' N' o1'; (try simp only [List.nil_append, List.cons_append] at N'); (try dsimp only))) | ((with_reducible show LCg.CompRest _ _ _ _ _ _ _ _ _ _ _ _ _ _ _ _ _ _ _); (with_unfolding_all first | (refine LCg.CompRest.succ ?_; intro v' I' oI' C' oC' D' m' h' tk' E' hv' hC' hx' F' N' off' ne'; (first | lcg_open hv' | (obtain ⟨t9', hv9'⟩ := hv'; subst hv9'))) | refine LCg.CompRest.zero ?_)) | ((with_reducible show LCg.CompEnd _ _ _ _ _ _ _ _ _ _ _ _ _ _); (k_dflt (refine compSame (by k_asm) (by k_asm) (by assumption) (by first | exact True.intro | exact Or.inr ⟨_, by k_mem, rfl, _, rfl⟩) ?_))) | ((k_here; k_openite; k_dflt (first | refine itePos (by first | decide | (simp only [decide_eq_true_eq]; omega)) ?_ | refine iteNeg (by first | decide | (simp only [decide_eq_true_eq]; omega)) ?_))) | walk1 | (dsimp only))
  rename Fr _ _ _ _ => F9
  refine hQ _ _ _ _ (shape2 F9 fun z q1 q2 => ?_) (by assumption)
  (try dsimp only)
  rw [if_neg q1, if_neg q1, if_neg q1]
  exact congrFun (chainM_eq (allCons m1 (allCons m2 (allCons m4 (allCons m5 (allCons m6 (allCons m7 allNil))))))) z
theorem lt_back {w : World} {mean mg mb} {env0 : Env} {base h₀ : Heap} {L : Addr} {m : Str → Option Value} {s : Shared} {Q : Flow → Shared → Prop} {E : Value → Shared → Prop} {nm : Str} {cd : Value} {b : List Stmt} {sc : Scope}
   {p k r wk r0 r1 x room : Int} {tp tk tr tw v0 v1 tx t1 : Tok} {lf rw lr R kf kr ke kR : Nat} {rows its as : Array Value} {news : List (Addr × Obj)} {g : Obj → List (Addr × Obj)}
   (hb : ltB w = b) (hc : fnScope w 106 = sc) (B : Below (callerA.deeper env0) base [env0] h₀) (F : Fr h₀ L s.heap m) (X : (hd.heap_39 w.params).In h₀)
   (T : Top hd.view_39 (looseW hd.view_39 [Str.ofString "_twin_re_1", Str.ofString "_twin_re_2", Str.ofString "EXACT_TOKEN_TYPES"]) mean mg mb h₀)
   (GL : Glob 0 mg mb (List.map itemOf (recsOf hd.view_39)) (scalarsOf [] ++ constsW hd.view_39) [] (namesW hd.view_39 [Str.ofString "_twin_re_1", Str.ofString "_twin_re_2", Str.ofString "EXACT_TOKEN_TYPES"]) base) (M : ∃ a o, BMod base mainGlobals mg a o)
   (m1 : m (Str.ofString "place") = some (.int p tp)) (m2 : m (Str.ofString "hand") = some (.int k tk)) (m3 : m (Str.ofString "ready") = some (.int r tr)) (m4 : m (Str.ofString "work") = some (.int wk tw)) (m5 : m (Str.ofString "left") = some (.ref lf)) (m6 : m (Str.ofString "row") = some (.ref rw)) (m7 : m (Str.ofString "rooms") = some (.ref lr)) (hp : 1 ≤ p ∧ p ≤ 4) (hk : 0 ≤ k ∧ k ≤ 1)
   (N : News h₀ L s.heap news)  (U : UpdF rw (listOf its kr) news g)
   
   (e1 : (lf, listOf rows kf) ∈ news) (hR : rows.toList[(p - 1).toNat]? = some (.ref R)) (e3 : (R, listOf as kR) ∈ news) (hx : as.toList[k.toNat]? = some (.int x tx)) (e2 : (lr, listOf #[.int r0 v0, .int r1 v1] ke) ∈ news) (hroom : #[Value.int r0 v0, Value.int r1 v1].toList[k.toNat]? = some (.int room t1)) (hrm : 0 ≤ room) (hahead : p - (1 + room) < 0) (hsz : Array.size its ≤ sizeLine)
   (hQ : ∀ h' tk' t ta, Fr h₀ L h' (fun z => if z = Str.ofString "ready" then some (.int (max r x + wk) t) else if z = Str.ofString "ahead" then some (.int (p - (1 + room)) ta) else m z) → News h₀ L h' (g (listOf (Array.push its (.int (max r x + wk) t)) (kr + 1))) → Q .next { s with heap := h', toks := tk' })
   : wpAny (model PySem.Challenge.rw_to0012_01.row.prog w) ((callerA.deeper env0).deeper (envOf nm sc L 106 cd)) (execs b (envOf nm sc L 106 cd)) Q E s := by
  subst hb hc
  w_top off
  have kf : ((hd.heap_39 w.params).In h₀ ∧ PySem.Challenge.rw_to0012_01.row.prog = PySem.Challenge.rw_to0012_01.row.prog → True) := by k_fill; exact fun _ => trivial
  clear kf
  have F' := frGets _ (allCons m3 (allCons m1 (allCons m2 (allCons m4 (allCons m5 (allCons m6 (allCons m7 allNil))))))) F
  dsimp only [chainM] at F'
  clear F
  have e0 := updMem U
  obtain ⟨a₁, o₁, M⟩ := M
  unfold ltB
  refine fnPart (a := 106) (Q := fun b sc => wpAny (model PySem.Challenge.rw_to0012_01.row.prog w) ((callerA.deeper env0).deeper (envOf nm sc L 106 cd)) (execs (forBody (stNth (forBody (stNth b 1)) 1)) (envOf nm sc L 106 cd)) Q E s) (by k_is) ?_
  dsimp only [forBody, stNth]
  repeat' (first | (k_unfold; (try dsimp only)) | ((with_reducible show wpAny _ _ (call (Value.builtin "list.append") _ _) _ _ _); (k_here; (with_reducible show wpAny _ _ (call (Value.builtin _) [Value.ref _, _]) _ _ _); (repeat ((with_reducible rename News _ _ _ (_ :: _) => hN1'); (have hN2' := newsTl hN1'); clear hN1')); k_dflt (refine append_K (by k_asm) (by k_asm) (by exact updOf (by assumption) _) ?_ (by assumption); k_whole); intro h' F' N'; (try k_sweep))) | ((with_reducible show wpAny _ _ (call (Value.builtin "list.append") _ _) _ _ _); (k_here; (with_reducible show wpAny _ _ (call (Value.builtin _) [Value.ref _, _]) _ _ _); k_dflt (refine append_K (by k_asm) (by k_asm) (by k_upd) ?_ (by first | exact Nat.le_of_ble_eq_true rfl | assumption); k_whole); intro h' F' N'; (try k_sweep))) | ((with_reducible show wpAny _ _ (call (Value.ref _) _ _) _ _ _); (k_here; (with_reducible show wpAny _ _ (call (Value.ref 62) [Value.int _ _, Value.int _ _] _) _ _ _); k_dflt (refine ge_law (by first | exact rfl | assumption) (by first | assumption | exact rfl) (by first | assumption | exact rfl) (by k_asm) (by k_asm) (by k_asm) (by k_asm) (by k_asm) (by first | k_room | assumption) ?_; intro hO' tkO FO NO; (try dsimp only); (try k_sweep)))) | ((with_reducible show wpAny _ _ (call (Value.ref _) _ _) _ _ _); (k_here; (with_reducible show wpAny _ _ (call (Value.ref 76) [Value.int _ _, Value.int _ _] _) _ _ _); k_dflt (refine sub_law (by first | exact rfl | assumption) (by first | assumption | exact rfl) (by first | assumption | exact rfl) (by k_asm) (by k_asm) (by k_asm) (by k_asm) (by k_asm) (by first | k_room | assumption) ?_; intro hO' tkO tO FO NO; (try dsimp only); (try k_sweep)))) | ((with_reducible show wpAny _ _ (call (Value.ref _) _ _) _ _ _); (k_here; (with_reducible show wpAny _ _ (call (Value.ref 69) [Value.int _ _, Value.int _ _] _) _ _ _); k_dflt (refine add_law (by first | exact rfl | assumption) (by first | assumption | exact rfl) (by first | assumption | exact rfl) (by k_asm) (by k_asm) (by k_asm) (by k_asm) (by k_asm) (by first | k_room | assumption) ?_; intro hO' tkO tO FO NO; (try dsimp only); (try k_sweep)))) | ((with_reducible show wpAny _ _ (execs (List.cons _ _) _) _ _ _); ((try k_fold); (repeat ((with_reducible rename News _ _ _ (_ :: _) => hN1'); (have hN2' := newsTl hN1'); clear hN1')); (conv => arg @7; dsimp only); (with_reducible refine wpAny_execs_cons ?_); (try dsimp only))) | ((with_reducible show wpAny _ _ (call (Value.builtin "max") _ _) _ _ _); (k_here; (with_reducible show wpAny _ _ (call (Value.builtin "max") [Value.int _ _, Value.int _ _]) _ _ _); k_dflt (refine max2E (by first | exact rfl | assumption) (by k_asm) (by k_asm) ?_; intro hM' tkM tM FM NM; (try dsimp only); (try k_sweep)))) | ((with_reducible show wpAny _ _ (subscriptTail _ _ (Value.ref _) _) _ _ _); (k_here; (with_reducible show wpAny _ _ (subscriptTail _ _ (Value.ref _) (Value.int _ _)) _ _ _); k_dflt (refine itemL (by k_asm) (by k_mem) (by omega) (by omega) (by assumption) ?_))) | ((with_reducible show LCg.FinE _ _ _ _ _ _ _); ((unfold LCg.FinE); intro D' h' tk' F' N' o1'; (try simp only [List.nil_append, List.cons_append] at N'); (try dsimp only))) | ((with_reducible show LCg.CompRest _ _ _ _ _ _ _ _ _ _ _ _ _ _ _ _ _ _ _); (with_unfolding_all first | (refine LCg.CompRest.succ ?_; intro v' I' oI' C' oC' D' m' h' tk' E' hv' hC' hx' F' N' off' ne'; (first | lcg_open hv' | (obtain ⟨t9', hv9'⟩ := hv'; subst hv9'))) | refine LCg.CompRest.zero ?_)) | ((with_reducible show LCg.CompEnd _ _ _ _ _ _ _ _ _ _ _ _ _ _); (k_dflt (refine compSame (by k_asm) (by k_asm) (by assumption) (by first | exact True.intro | exact Or.inr ⟨_, by k_mem, rfl, _, rfl⟩) ?_))) | ((k_here; k_openite; k_dflt (first | refine itePos (by first | decide | (simp only [decide_eq_true_eq]; omega)) ?_ | refine iteNeg (by first | decide | (simp only [decide_eq_true_eq]; omega)) ?_))) | walk1 | (dsimp only))
  rename Fr _ _ _ _ => F9
  refine hQ _ _ _ _ (shape2s (by decide) F9 fun z q1 q2 => ?_) (by assumption)
  (try dsimp only)
  rw [if_neg q1, if_neg q1]
  exact congrFun (chainM_eq (allCons m1 (allCons m2 (allCons m4 (allCons m5 (allCons m6 (allCons m7 allNil))))))) z
theorem lt_last {w : World} {mean mg mb} {env0 : Env} {base h₀ : Heap} {L : Addr} {m : Str → Option Value} {s : Shared} {Q : Flow → Shared → Prop} {E : Value → Shared → Prop} {nm : Str} {cd : Value} {b : List Stmt} {sc : Scope}
   {p k r wk x : Int} {tp tk tr tw tx : Tok} {lf rw lr R kf kr kR : Nat} {rows its as : Array Value} {news : List (Addr × Obj)} {g : Obj → List (Addr × Obj)}
   (hb : ltB w = b) (hc : fnScope w 106 = sc) (B : Below (callerA.deeper env0) base [env0] h₀) (F : Fr h₀ L s.heap m) (X : (hd.heap_39 w.params).In h₀)
   (T : Top hd.view_39 (looseW hd.view_39 [Str.ofString "_twin_re_1", Str.ofString "_twin_re_2", Str.ofString "EXACT_TOKEN_TYPES"]) mean mg mb h₀)
   (GL : Glob 0 mg mb (List.map itemOf (recsOf hd.view_39)) (scalarsOf [] ++ constsW hd.view_39) [] (namesW hd.view_39 [Str.ofString "_twin_re_1", Str.ofString "_twin_re_2", Str.ofString "EXACT_TOKEN_TYPES"]) base) (M : ∃ a o, BMod base mainGlobals mg a o)
   (m1 : m (Str.ofString "place") = some (.int p tp)) (m2 : m (Str.ofString "hand") = some (.int k tk)) (m3 : m (Str.ofString "ready") = some (.int r tr)) (m4 : m (Str.ofString "work") = some (.int wk tw)) (m5 : m (Str.ofString "left") = some (.ref lf)) (m6 : m (Str.ofString "row") = some (.ref rw)) (m7 : m (Str.ofString "rooms") = some (.ref lr)) (hp : 1 ≤ p ∧ p ≤ 4) (hk : k = 2)
   (N : News h₀ L s.heap news)  (U : UpdF rw (listOf its kr) news g)
   
   (e1 : (lf, listOf rows kf) ∈ news) (hR : rows.toList[(p - 1).toNat]? = some (.ref R)) (e3 : (R, listOf as kR) ∈ news) (hx : as.toList[k.toNat]? = some (.int x tx)) (hsz : Array.size its ≤ sizeLine)
   (hQ : ∀ h' tk' t, Fr h₀ L h' (fun z => if z = Str.ofString "ready" then some (.int (max r x + wk) t) else m z) → News h₀ L h' (g (listOf (Array.push its (.int (max r x + wk) t)) (kr + 1))) → Q .next { s with heap := h', toks := tk' })
   : wpAny (model PySem.Challenge.rw_to0012_01.row.prog w) ((callerA.deeper env0).deeper (envOf nm sc L 106 cd)) (execs b (envOf nm sc L 106 cd)) Q E s := by
  subst hb hc
  w_top off
  have kf : ((hd.heap_39 w.params).In h₀ ∧ PySem.Challenge.rw_to0012_01.row.prog = PySem.Challenge.rw_to0012_01.row.prog → True) := by k_fill; exact fun _ => trivial
  clear kf
  have F' := frGets _ (allCons m3 (allCons m1 (allCons m2 (allCons m4 (allCons m5 (allCons m6 (allCons m7 allNil))))))) F
  dsimp only [chainM] at F'
  clear F
  have e0 := updMem U
  obtain ⟨a₁, o₁, M⟩ := M
  unfold ltB
  refine fnPart (a := 106) (Q := fun b sc => wpAny (model PySem.Challenge.rw_to0012_01.row.prog w) ((callerA.deeper env0).deeper (envOf nm sc L 106 cd)) (execs (forBody (stNth (forBody (stNth b 1)) 1)) (envOf nm sc L 106 cd)) Q E s) (by k_is) ?_
  dsimp only [forBody, stNth]
  repeat' (first | (k_unfold; (try dsimp only)) | ((with_reducible show wpAny _ _ (call (Value.builtin "list.append") _ _) _ _ _); (k_here; (with_reducible show wpAny _ _ (call (Value.builtin _) [Value.ref _, _]) _ _ _); (repeat ((with_reducible rename News _ _ _ (_ :: _) => hN1'); (have hN2' := newsTl hN1'); clear hN1')); k_dflt (refine append_K (by k_asm) (by k_asm) (by exact updOf (by assumption) _) ?_ (by assumption); k_whole); intro h' F' N'; (try k_sweep))) | ((with_reducible show wpAny _ _ (call (Value.builtin "list.append") _ _) _ _ _); (k_here; (with_reducible show wpAny _ _ (call (Value.builtin _) [Value.ref _, _]) _ _ _); k_dflt (refine append_K (by k_asm) (by k_asm) (by k_upd) ?_ (by first | exact Nat.le_of_ble_eq_true rfl | assumption); k_whole); intro h' F' N'; (try k_sweep))) | ((with_reducible show wpAny _ _ (call (Value.ref _) _ _) _ _ _); (k_here; (with_reducible show wpAny _ _ (call (Value.ref 62) [Value.int _ _, Value.int _ _] _) _ _ _); k_dflt (refine ge_law (by first | exact rfl | assumption) (by first | assumption | exact rfl) (by first | assumption | exact rfl) (by k_asm) (by k_asm) (by k_asm) (by k_asm) (by k_asm) (by first | k_room | assumption) ?_; intro hO' tkO FO NO; (try dsimp only); (try k_sweep)))) | ((with_reducible show wpAny _ _ (call (Value.ref _) _ _) _ _ _); (k_here; (with_reducible show wpAny _ _ (call (Value.ref 76) [Value.int _ _, Value.int _ _] _) _ _ _); k_dflt (refine sub_law (by first | exact rfl | assumption) (by first | assumption | exact rfl) (by first | assumption | exact rfl) (by k_asm) (by k_asm) (by k_asm) (by k_asm) (by k_asm) (by first | k_room | assumption) ?_; intro hO' tkO tO FO NO; (try dsimp only); (try k_sweep)))) | ((with_reducible show wpAny _ _ (call (Value.ref _) _ _) _ _ _); (k_here; (with_reducible show wpAny _ _ (call (Value.ref 69) [Value.int _ _, Value.int _ _] _) _ _ _); k_dflt (refine add_law (by first | exact rfl | assumption) (by first | assumption | exact rfl) (by first | assumption | exact rfl) (by k_asm) (by k_asm) (by k_asm) (by k_asm) (by k_asm) (by first | k_room | assumption) ?_; intro hO' tkO tO FO NO; (try dsimp only); (try k_sweep)))) | ((with_reducible show wpAny _ _ (execs (List.cons _ _) _) _ _ _); ((try k_fold); (repeat ((with_reducible rename News _ _ _ (_ :: _) => hN1'); (have hN2' := newsTl hN1'); clear hN1')); (conv => arg @7; dsimp only); (with_reducible refine wpAny_execs_cons ?_); (try dsimp only))) | ((with_reducible show wpAny _ _ (call (Value.builtin "max") _ _) _ _ _); (k_here; (with_reducible show wpAny _ _ (call (Value.builtin "max") [Value.int _ _, Value.int _ _]) _ _ _); k_dflt (refine max2E (by first | exact rfl | assumption) (by k_asm) (by k_asm) ?_; intro hM' tkM tM FM NM; (try dsimp only); (try k_sweep)))) | ((with_reducible show wpAny _ _ (subscriptTail _ _ (Value.ref _) _) _ _ _); (k_here; (with_reducible show wpAny _ _ (subscriptTail _ _ (Value.ref _) (Value.int _ _)) _ _ _); k_dflt (refine itemL (by k_asm) (by k_mem) (by omega) (by omega) (by assumption) ?_))) | ((with_reducible show LCg.FinE _ _ _ _ _ _ _); ((unfold LCg.FinE); intro D' h' tk' F' N' o1'; (try simp only [List.nil_append, List.cons_append] at N'); (try dsimp only))) | ((with_reducible show LCg.CompRest _ _ _ _ _ _ _ _ _ _ _ _ _ _ _ _ _ _ _); (with_unfolding_all first | (refine LCg.CompRest.succ ?_; intro v' I' oI' C' oC' D' m' h' tk' E' hv' hC' hx' F' N' off' ne'; (first | lcg_open hv' | (obtain ⟨t9', hv9'⟩ := hv'; subst hv9'))) | refine LCg.CompRest.zero ?_)) | ((with_reducible show LCg.CompEnd _ _ _ _ _ _ _ _ _ _ _ _ _ _); (k_dflt (refine compSame (by k_asm) (by k_asm) (by assumption) (by first | exact True.intro | exact Or.inr ⟨_, by k_mem, rfl, _, rfl⟩) ?_))) | ((k_here; k_openite; k_dflt (first | refine itePos (by first | decide | (simp only [decide_eq_true_eq]; omega)) ?_ | refine iteNeg (by first | decide | (simp only [decide_eq_true_eq]; omega)) ?_))) | walk1 | (dsimp only))
  rename Fr _ _ _ _ => F9
  refine hQ _ _ _ (shape1 F9 fun z q1 => ?_) (by assumption)
  (try dsimp only)
  rw [if_neg q1, if_neg q1]
  exact congrFun (chainM_eq (allCons m1 (allCons m2 (allCons m4 (allCons m5 (allCons m6 (allCons m7 allNil))))))) z
theorem lt_first {w : World} {mean mg mb} {env0 : Env} {base h₀ : Heap} {L : Addr} {m : Str → Option Value} {s : Shared} {Q : Flow → Shared → Prop} {E : Value → Shared → Prop} {nm : Str} {cd : Value} {b : List Stmt} {sc : Scope}
   {p k r wk r0 r1 room : Int} {tp tk tr tw v0 v1 t1 : Tok} {lf rw lr kf kr ke : Nat} {rows its : Array Value} {news : List (Addr × Obj)} {g : Obj → List (Addr × Obj)}
   (hb : ltB w = b) (hc : fnScope w 106 = sc) (B : Below (callerA.deeper env0) base [env0] h₀) (F : Fr h₀ L s.heap m) (X : (hd.heap_39 w.params).In h₀)
   (T : Top hd.view_39 (looseW hd.view_39 [Str.ofString "_twin_re_1", Str.ofString "_twin_re_2", Str.ofString "EXACT_TOKEN_TYPES"]) mean mg mb h₀)
   (GL : Glob 0 mg mb (List.map itemOf (recsOf hd.view_39)) (scalarsOf [] ++ constsW hd.view_39) [] (namesW hd.view_39 [Str.ofString "_twin_re_1", Str.ofString "_twin_re_2", Str.ofString "EXACT_TOKEN_TYPES"]) base) (M : ∃ a o, BMod base mainGlobals mg a o)
   (m1 : m (Str.ofString "place") = some (.int p tp)) (m2 : m (Str.ofString "hand") = some (.int k tk)) (m3 : m (Str.ofString "ready") = some (.int r tr)) (m4 : m (Str.ofString "work") = some (.int wk tw)) (m5 : m (Str.ofString "left") = some (.ref lf)) (m6 : m (Str.ofString "row") = some (.ref rw)) (m7 : m (Str.ofString "rooms") = some (.ref lr)) (hp : p = 0) (hk : 0 ≤ k ∧ k ≤ 1)
   (N : News h₀ L s.heap news)  (U : UpdF rw (listOf its kr) news g)
   
   (e1 : (lf, listOf rows kf) ∈ news) (e2 : (lr, listOf #[.int r0 v0, .int r1 v1] ke) ∈ news) (hroom : #[Value.int r0 v0, Value.int r1 v1].toList[k.toNat]? = some (.int room t1)) (hrm : 0 ≤ room) (hahead : p - (1 + room) < 0) (hsz : Array.size its ≤ sizeLine)
   (hQ : ∀ h' tk' t ta, Fr h₀ L h' (fun z => if z = Str.ofString "ready" then some (.int (r + wk) t) else if z = Str.ofString "ahead" then some (.int (p - (1 + room)) ta) else m z) → News h₀ L h' (g (listOf (Array.push its (.int (r + wk) t)) (kr + 1))) → Q .next { s with heap := h', toks := tk' })
   : wpAny (model PySem.Challenge.rw_to0012_01.row.prog w) ((callerA.deeper env0).deeper (envOf nm sc L 106 cd)) (execs b (envOf nm sc L 106 cd)) Q E s := by
  subst hb hc
  w_top off
  have kf : ((hd.heap_39 w.params).In h₀ ∧ PySem.Challenge.rw_to0012_01.row.prog = PySem.Challenge.rw_to0012_01.row.prog → True) := by k_fill; exact fun _ => trivial
  clear kf
  have F' := frGets _ (allCons m3 (allCons m1 (allCons m2 (allCons m4 (allCons m5 (allCons m6 (allCons m7 allNil))))))) F
  dsimp only [chainM] at F'
  clear F
  have e0 := updMem U
  obtain ⟨a₁, o₁, M⟩ := M
  unfold ltB
  refine fnPart (a := 106) (Q := fun b sc => wpAny (model PySem.Challenge.rw_to0012_01.row.prog w) ((callerA.deeper env0).deeper (envOf nm sc L 106 cd)) (execs (forBody (stNth (forBody (stNth b 1)) 1)) (envOf nm sc L 106 cd)) Q E s) (by k_is) ?_
  dsimp only [forBody, stNth]
  repeat' (first | (k_unfold; (try dsimp only)) | ((with_reducible show wpAny _ _ (call (Value.builtin "list.append") _ _) _ _ _); (k_here; (with_reducible show wpAny _ _ (call (Value.builtin _) [Value.ref _, _]) _ _ _); (repeat ((with_reducible rename News _ _ _ (_ :: _) => hN1'); (have hN2' := newsTl hN1'); clear hN1')); k_dflt (refine append_K (by k_asm) (by k_asm) (by exact updOf (by assumption) _) ?_ (by assumption); k_whole); intro h' F' N'; (try k_sweep))) | ((with_reducible show wpAny _ _ (call (Value.builtin "list.append") _ _) _ _ _); (k_here; (with_reducible show wpAny _ _ (call (Value.builtin _) [Value.ref _, _]) _ _ _); k_dflt (refine append_K (by k_asm) (by k_asm) (by k_upd) ?_ (by first | exact Nat.le_of_ble_eq_true rfl | assumption); k_whole); intro h' F' N'; (try k_sweep))) | ((with_reducible show wpAny _ _ (call (Value.ref _) _ _) _ _ _); (k_here; (with_reducible show wpAny _ _ (call (Value.ref 62) [Value.int _ _, Value.int _ _] _) _ _ _); k_dflt (refine ge_law (by first | exact rfl | assumption) (by first | assumption | exact rfl) (by first | assumption | exact rfl) (by k_asm) (by k_asm) (by k_asm) (by k_asm) (by k_asm) (by first | k_room | assumption) ?_; intro hO' tkO FO NO; (try dsimp only); (try k_sweep)))) | ((with_reducible show wpAny _ _ (call (Value.ref _) _ _) _ _ _); (k_here; (with_reducible show wpAny _ _ (call (Value.ref 76) [Value.int _ _, Value.int _ _] _) _ _ _); k_dflt (refine sub_law (by first | exact rfl | assumption) (by first | assumption | exact rfl) (by first | assumption | exact rfl) (by k_asm) (by k_asm) (by k_asm) (by k_asm) (by k_asm) (by first | k_room | assumption) ?_; intro hO' tkO tO FO NO; (try dsimp only); (try k_sweep)))) | ((with_reducible show wpAny _ _ (call (Value.ref _) _ _) _ _ _); (k_here; (with_reducible show wpAny _ _ (call (Value.ref 69) [Value.int _ _, Value.int _ _] _) _ _ _); k_dflt (refine add_law (by first | exact rfl | assumption) (by first | assumption | exact rfl) (by first | assumption | exact rfl) (by k_asm) (by k_asm) (by k_asm) (by k_asm) (by k_asm) (by first | k_room | assumption) ?_; intro hO' tkO tO FO NO; (try dsimp only); (try k_sweep)))) | ((with_reducible show wpAny _ _ (execs (List.cons _ _) _) _ _ _); ((try k_fold); (repeat ((with_reducible rename News _ _ _ (_ :: _) => hN1'); (have hN2' := newsTl hN1'); clear hN1')); (conv => arg @7; dsimp only); (with_reducible refine wpAny_execs_cons ?_); (try dsimp only))) | ((with_reducible show wpAny _ _ (call (Value.builtin "max") _ _) _ _ _); (k_here; (with_reducible show wpAny _ _ (call (Value.builtin "max") [Value.int _ _, Value.int _ _]) _ _ _); k_dflt (refine max2E (by first | exact rfl | assumption) (by k_asm) (by k_asm) ?_; intro hM' tkM tM FM NM; (try dsimp only); (try k_sweep)))) | ((with_reducible show wpAny _ _ (subscriptTail _ _ (Value.ref _) _) _ _ _); (k_here; (with_reducible show wpAny _ _ (subscriptTail _ _ (Value.ref _) (Value.int _ _)) _ _ _); k_dflt (refine itemL (by k_asm) (by k_mem) (by omega) (by omega) (by assumption) ?_))) | ((with_reducible show LCg.FinE _ _ _ _ _ _ _); ((unfold LCg.FinE); intro D' h' tk' F' N' o1'; (try simp only [List.nil_append, List.cons_append] at N'); (try dsimp only))) | ((with_reducible show LCg.CompRest _ _ _ _ _ _ _ _ _ _ _ _ _ _ _ _ _ _ _); (with_unfolding_all first | (refine LCg.CompRest.succ ?_; intro v' I' oI' C' oC' D' m' h' tk' E' hv' hC' hx' F' N' off' ne'; (first | lcg_open hv' | (obtain ⟨t9', hv9'⟩ := hv'; subst hv9'))) | refine LCg.CompRest.zero ?_)) | ((with_reducible show LCg.CompEnd _ _ _ _ _ _ _ _ _ _ _ _ _ _); (k_dflt (refine compSame (by k_asm) (by k_asm) (by assumption) (by first | exact True.intro | exact Or.inr ⟨_, by k_mem, rfl, _, rfl⟩) ?_))) | ((k_here; k_openite; k_dflt (first | refine itePos (by first | decide | (simp only [decide_eq_true_eq]; omega)) ?_ | refine iteNeg (by first | decide | (simp only [decide_eq_true_eq]; omega)) ?_))) | walk1 | (dsimp only))
  rename Fr _ _ _ _ => F9
  refine hQ _ _ _ _ (shape2s (by decide) F9 fun z q1 q2 => ?_) (by assumption)
  (try dsimp only)
  rw [if_neg q1]
  exact congrFun (chainM_eq (allCons m1 (allCons m2 (allCons m4 (allCons m5 (allCons m6 (allCons m7 allNil))))))) z
theorem lt_fl {w : World} {mean mg mb} {env0 : Env} {base h₀ : Heap} {L : Addr} {m : Str → Option Value} {s : Shared} {Q : Flow → Shared → Prop} {E : Value → Shared → Prop} {nm : Str} {cd : Value} {b : List Stmt} {sc : Scope}
   {p k r wk : Int} {tp tk tr tw : Tok} {lf rw lr kf kr : Nat} {rows its : Array Value} {news : List (Addr × Obj)} {g : Obj → List (Addr × Obj)}
   (hb : ltB w = b) (hc : fnScope w 106 = sc) (B : Below (callerA.deeper env0) base [env0] h₀) (F : Fr h₀ L s.heap m) (X : (hd.heap_39 w.params).In h₀)
   (T : Top hd.view_39 (looseW hd.view_39 [Str.ofString "_twin_re_1", Str.ofString "_twin_re_2", Str.ofString "EXACT_TOKEN_TYPES"]) mean mg mb h₀)
   (GL : Glob 0 mg mb (List.map itemOf (recsOf hd.view_39)) (scalarsOf [] ++ constsW hd.view_39) [] (namesW hd.view_39 [Str.ofString "_twin_re_1", Str.ofString "_twin_re_2", Str.ofString "EXACT_TOKEN_TYPES"]) base) (M : ∃ a o, BMod base mainGlobals mg a o)
   (m1 : m (Str.ofString "place") = some (.int p tp)) (m2 : m (Str.ofString "hand") = some (.int k tk)) (m3 : m (Str.ofString "ready") = some (.int r tr)) (m4 : m (Str.ofString "work") = some (.int wk tw)) (m5 : m (Str.ofString "left") = some (.ref lf)) (m6 : m (Str.ofString "row") = some (.ref rw)) (m7 : m (Str.ofString "rooms") = some (.ref lr)) (hp : p = 0) (hk : k = 2)
   (N : News h₀ L s.heap news)  (U : UpdF rw (listOf its kr) news g)
   
   (e1 : (lf, listOf rows kf) ∈ news) (hsz : Array.size its ≤ sizeLine)
   (hQ : ∀ h' tk' t, Fr h₀ L h' (fun z => if z = Str.ofString "ready" then some (.int (r + wk) t) else m z) → News h₀ L h' (g (listOf (Array.push its (.int (r + wk) t)) (kr + 1))) → Q .next { s with heap := h', toks := tk' })
   : wpAny (model PySem.Challenge.rw_to0012_01.row.prog w) ((callerA.deeper env0).deeper (envOf nm sc L 106 cd)) (execs b (envOf nm sc L 106 cd)) Q E s := by
  subst hb hc
  w_top off
  have kf : ((hd.heap_39 w.params).In h₀ ∧ PySem.Challenge.rw_to0012_01.row.prog = PySem.Challenge.rw_to0012_01.row.prog → True) := by k_fill; exact fun _ => trivial
  clear kf
  have F' := frGets _ (allCons m3 (allCons m1 (allCons m2 (allCons m4 (allCons m5 (allCons m6 (allCons m7 allNil))))))) F
  dsimp only [chainM] at F'
  clear F
  have e0 := updMem U
  obtain ⟨a₁, o₁, M⟩ := M
  unfold ltB
  refine fnPart (a := 106) (Q := fun b sc => wpAny (model PySem.Challenge.rw_to0012_01.row.prog w) ((callerA.deeper env0).deeper (envOf nm sc L 106 cd)) (execs (forBody (stNth (forBody (stNth b 1)) 1)) (envOf nm sc L 106 cd)) Q E s) (by k_is) ?_
  dsimp only [forBody, stNth]
  repeat' (first | (k_unfold; (try dsimp only)) | ((with_reducible show wpAny _ _ (call (Value.builtin "list.append") _ _) _ _ _); (k_here; (with_reducible show wpAny _ _ (call (Value.builtin _) [Value.ref _, _]) _ _ _); (repeat ((with_reducible rename News _ _ _ (_ :: _) => hN1'); (have hN2' := newsTl hN1'); clear hN1')); k_dflt (refine append_K (by k_asm) (by k_asm) (by exact updOf (by assumption) _) ?_ (by assumption); k_whole); intro h' F' N'; (try k_sweep))) | ((with_reducible show wpAny _ _ (call (Value.builtin "list.append") _ _) _ _ _); (k_here; (with_reducible show wpAny _ _ (call (Value.builtin _) [Value.ref _, _]) _ _ _); k_dflt (refine append_K (by k_asm) (by k_asm) (by k_upd) ?_ (by first | exact Nat.le_of_ble_eq_true rfl | assumption); k_whole); intro h' F' N'; (try k_sweep))) | ((with_reducible show wpAny _ _ (call (Value.ref _) _ _) _ _ _); (k_here; (with_reducible show wpAny _ _ (call (Value.ref 62) [Value.int _ _, Value.int _ _] _) _ _ _); k_dflt (refine ge_law (by first | exact rfl | assumption) (by first | assumption | exact rfl) (by first | assumption | exact rfl) (by k_asm) (by k_asm) (by k_asm) (by k_asm) (by k_asm) (by first | k_room | assumption) ?_; intro hO' tkO FO NO; (try dsimp only); (try k_sweep)))) | ((with_reducible show wpAny _ _ (call (Value.ref _) _ _) _ _ _); (k_here; (with_reducible show wpAny _ _ (call (Value.ref 76) [Value.int _ _, Value.int _ _] _) _ _ _); k_dflt (refine sub_law (by first | exact rfl | assumption) (by first | assumption | exact rfl) (by first | assumption | exact rfl) (by k_asm) (by k_asm) (by k_asm) (by k_asm) (by k_asm) (by first | k_room | assumption) ?_; intro hO' tkO tO FO NO; (try dsimp only); (try k_sweep)))) | ((with_reducible show wpAny _ _ (call (Value.ref _) _ _) _ _ _); (k_here; (with_reducible show wpAny _ _ (call (Value.ref 69) [Value.int _ _, Value.int _ _] _) _ _ _); k_dflt (refine add_law (by first | exact rfl | assumption) (by first | assumption | exact rfl) (by first | assumption | exact rfl) (by k_asm) (by k_asm) (by k_asm) (by k_asm) (by k_asm) (by first | k_room | assumption) ?_; intro hO' tkO tO FO NO; (try dsimp only); (try k_sweep)))) | ((with_reducible show wpAny _ _ (execs (List.cons _ _) _) _ _ _); ((try k_fold); (repeat ((with_reducible rename News _ _ _ (_ :: _) => hN1'); (have hN2' := newsTl hN1'); clear hN1')); (conv => arg @7; dsimp only); (with_reducible refine wpAny_execs_cons ?_); (try dsimp only))) | ((with_reducible show wpAny _ _ (call (Value.builtin "max") _ _) _ _ _); (k_here; (with_reducible show wpAny _ _ (call (Value.builtin "max") [Value.int _ _, Value.int _ _]) _ _ _); k_dflt (refine max2E (by first | exact rfl | assumption) (by k_asm) (by k_asm) ?_; intro hM' tkM tM FM NM; (try dsimp only); (try k_sweep)))) | ((with_reducible show wpAny _ _ (subscriptTail _ _ (Value.ref _) _) _ _ _); (k_here; (with_reducible show wpAny _ _ (subscriptTail _ _ (Value.ref _) (Value.int _ _)) _ _ _); k_dflt (refine itemL (by k_asm) (by k_mem) (by omega) (by omega) (by assumption) ?_))) | ((with_reducible show LCg.FinE _ _ _ _ _ _ _); ((unfold LCg.FinE); intro D' h' tk' F' N' o1'; (try simp only [List.nil_append, List.cons_append] at N'); (try dsimp only))) | ((with_reducible show LCg.CompRest _ _ _ _ _ _ _ _ _ _ _ _ _ _ _ _ _ _ _); (with_unfolding_all first | (refine LCg.CompRest.succ ?_; intro v' I' oI' C' oC' D' m' h' tk' E' hv' hC' hx' F' N' off' ne'; (first | lcg_open hv' | (obtain ⟨t9', hv9'⟩ := hv'; subst hv9'))) | refine LCg.CompRest.zero ?_)) | ((with_reducible show LCg.CompEnd _ _ _ _ _ _ _ _ _ _ _ _ _ _); (k_dflt (refine compSame (by k_asm) (by k_asm) (by assumption) (by first | exact True.intro | exact Or.inr ⟨_, by k_mem, rfl, _, rfl⟩) ?_))) | ((k_here; k_openite; k_dflt (first | refine itePos (by first | decide | (simp only [decide_eq_true_eq]; omega)) ?_ | refine iteNeg (by first | decide | (simp only [decide_eq_true_eq]; omega)) ?_))) | walk1 | (dsimp only))
  rename Fr _ _ _ _ => F9
  refine hQ _ _ _ (shape1 F9 fun z q1 => ?_) (by assumption)
  (try dsimp only)
  rw [if_neg q1]
  exact congrFun (chainM_eq (allCons m1 (allCons m2 (allCons m4 (allCons m5 (allCons m6 (allCons m7 allNil))))))) z
theorem ite3s {c d : Prop} [Decidable c] [Decidable d] {a : Int} : (if c then a else if d then a else a) = a := by
  split
  · rfl
  · split <;> rfl
theorem l_first {w : World} {mean mg mb} {env0 : Env} {base h₀ : Heap} {L : Addr} {m : Str → Option Value} {s : Shared} {Q : Flow → Shared → Prop} {E : Value → Shared → Prop} {nm : Str} {cd : Value} {b : List Stmt} {sc : Scope}
   {p k r wk r0 r1 room : Int} {tp tk tr tw v0 v1 t1 : Tok} {lf rw lr kf kr ke : Nat} {rows its : Array Value} {news : List (Addr × Obj)} {g : Obj → List (Addr × Obj)}
   (hb : ltB w = b) (hc : fnScope w 106 = sc) (B : Below (callerA.deeper env0) base [env0] h₀) (F : Fr h₀ L s.heap m) (X : (hd.heap_39 w.params).In h₀)
   (T : Top hd.view_39 (looseW hd.view_39 [Str.ofString "_twin_re_1", Str.ofString "_twin_re_2", Str.ofString "EXACT_TOKEN_TYPES"]) mean mg mb h₀)
   (GL : Glob 0 mg mb (List.map itemOf (recsOf hd.view_39)) (scalarsOf [] ++ constsW hd.view_39) [] (namesW hd.view_39 [Str.ofString "_twin_re_1", Str.ofString "_twin_re_2", Str.ofString "EXACT_TOKEN_TYPES"]) base) (M : ∃ a o, BMod base mainGlobals mg a o)
   (m1 : m (Str.ofString "place") = some (.int p tp)) (m2 : m (Str.ofString "hand") = some (.int k tk)) (m3 : m (Str.ofString "ready") = some (.int r tr)) (m4 : m (Str.ofString "work") = some (.int wk tw)) (m5 : m (Str.ofString "left") = some (.ref lf)) (m6 : m (Str.ofString "row") = some (.ref rw)) (m7 : m (Str.ofString "rooms") = some (.ref lr)) (hp : p = 0) (hk : 0 ≤ k ∧ k ≤ 1)
   (N : News h₀ L s.heap news)  (U : UpdF rw (listOf its kr) news g)
   (e1 : (lf, listOf rows kf) ∈ news) (e2 : (lr, listOf #[.int r0 v0, .int r1 v1] ke) ∈ news) (hroom : #[Value.int r0 v0, Value.int r1 v1].toList[k.toNat]? = some (.int room t1)) (hrm : 0 ≤ room ∧ room ≤ 2) (hsz : Array.size its ≤ sizeLine)
   (hQ : ∀ h' tk' (v : Int) (t ta : Tok), Eqv v (if room = 0 then r + wk else if room = 1 then r + wk else r + wk) → Fr h₀ L h' (fun z => if z = Str.ofString "ready" then some (.int v t) else if z = Str.ofString "ahead" then some (.int (p - (1 + room)) ta) else m z) → News h₀ L h' (g (listOf (Array.push its (.int v t)) (kr + 1))) → Q .next { s with heap := h', toks := tk' })
   : wpAny (model PySem.Challenge.rw_to0012_01.row.prog w) ((callerA.deeper env0).deeper (envOf nm sc L 106 cd)) (execs b (envOf nm sc L 106 cd)) Q E s := by
  exact lt_first hb hc B F X T GL M m1 m2 m3 m4 m5 m6 m7 hp hk N U e1 e2 hroom hrm.1 (by omega) hsz fun h' tk' t ta F N => hQ h' tk' _ t ta ⟨ite3s.symm⟩ F N
theorem l_last {w : World} {mean mg mb} {env0 : Env} {base h₀ : Heap} {L : Addr} {m : Str → Option Value} {s : Shared} {Q : Flow → Shared → Prop} {E : Value → Shared → Prop} {nm : Str} {cd : Value} {b : List Stmt} {sc : Scope}
   {p k r wk x : Int} {tp tk tr tw tx : Tok} {lf rw lr R kf kr kR : Nat} {rows its as : Array Value} {news : List (Addr × Obj)} {g : Obj → List (Addr × Obj)}
   (hb : ltB w = b) (hc : fnScope w 106 = sc) (B : Below (callerA.deeper env0) base [env0] h₀) (F : Fr h₀ L s.heap m) (X : (hd.heap_39 w.params).In h₀)
   (T : Top hd.view_39 (looseW hd.view_39 [Str.ofString "_twin_re_1", Str.ofString "_twin_re_2", Str.ofString "EXACT_TOKEN_TYPES"]) mean mg mb h₀)
   (GL : Glob 0 mg mb (List.map itemOf (recsOf hd.view_39)) (scalarsOf [] ++ constsW hd.view_39) [] (namesW hd.view_39 [Str.ofString "_twin_re_1", Str.ofString "_twin_re_2", Str.ofString "EXACT_TOKEN_TYPES"]) base) (M : ∃ a o, BMod base mainGlobals mg a o)
   (m1 : m (Str.ofString "place") = some (.int p tp)) (m2 : m (Str.ofString "hand") = some (.int k tk)) (m3 : m (Str.ofString "ready") = some (.int r tr)) (m4 : m (Str.ofString "work") = some (.int wk tw)) (m5 : m (Str.ofString "left") = some (.ref lf)) (m6 : m (Str.ofString "row") = some (.ref rw)) (m7 : m (Str.ofString "rooms") = some (.ref lr)) (hp : 1 ≤ p ∧ p ≤ 4) (hk : k = 2)
   (N : News h₀ L s.heap news)  (U : UpdF rw (listOf its kr) news g)
   (e1 : (lf, listOf rows kf) ∈ news) (hR : rows.toList[(p - 1).toNat]? = some (.ref R)) (e3 : (R, listOf as kR) ∈ news) (hx : as.toList[k.toNat]? = some (.int x tx)) (hsz : Array.size its ≤ sizeLine)
   (hQ : ∀ h' tk' (q : Int) (t : Tok), Eqv q (max r x) → Fr h₀ L h' (fun z => if z = Str.ofString "ready" then some (.int (q + wk) t) else m z) → News h₀ L h' (g (listOf (Array.push its (.int (q + wk) t)) (kr + 1))) → Q .next { s with heap := h', toks := tk' })
   : wpAny (model PySem.Challenge.rw_to0012_01.row.prog w) ((callerA.deeper env0).deeper (envOf nm sc L 106 cd)) (execs b (envOf nm sc L 106 cd)) Q E s := by
  exact lt_last hb hc B F X T GL M m1 m2 m3 m4 m5 m6 m7 hp hk N U e1 hR e3 hx hsz fun h' tk' t F N => hQ h' tk' (max r x) t ⟨rfl⟩ F N
theorem l_mid1 {w : World} {mean mg mb} {env0 : Env} {base h₀ : Heap} {L : Addr} {m : Str → Option Value} {s : Shared} {Q : Flow → Shared → Prop} {E : Value → Shared → Prop} {nm : Str} {cd : Value} {b : List Stmt} {sc : Scope}
   {p k r wk r0 r1 x room : Int} {tp tk tr tw v0 v1 tx t1 : Tok} {lf rw lr R kf kr ke kR : Nat} {rows its as : Array Value} {y0 : Int} {ty0 : Tok} {S0 kS0 : Nat} {bs0 : Array Value} {news : List (Addr × Obj)} {g : Obj → List (Addr × Obj)}
   (hb : ltB w = b) (hc : fnScope w 106 = sc) (B : Below (callerA.deeper env0) base [env0] h₀) (F : Fr h₀ L s.heap m) (X : (hd.heap_39 w.params).In h₀)
   (T : Top hd.view_39 (looseW hd.view_39 [Str.ofString "_twin_re_1", Str.ofString "_twin_re_2", Str.ofString "EXACT_TOKEN_TYPES"]) mean mg mb h₀)
   (GL : Glob 0 mg mb (List.map itemOf (recsOf hd.view_39)) (scalarsOf [] ++ constsW hd.view_39) [] (namesW hd.view_39 [Str.ofString "_twin_re_1", Str.ofString "_twin_re_2", Str.ofString "EXACT_TOKEN_TYPES"]) base) (M : ∃ a o, BMod base mainGlobals mg a o)
   (m1 : m (Str.ofString "place") = some (.int p tp)) (m2 : m (Str.ofString "hand") = some (.int k tk)) (m3 : m (Str.ofString "ready") = some (.int r tr)) (m4 : m (Str.ofString "work") = some (.int wk tw)) (m5 : m (Str.ofString "left") = some (.ref lf)) (m6 : m (Str.ofString "row") = some (.ref rw)) (m7 : m (Str.ofString "rooms") = some (.ref lr)) (hp : p = 1) (hk : 0 ≤ k ∧ k ≤ 1)
   (N : News h₀ L s.heap news)  (U : UpdF rw (listOf its kr) news g)
   (e1 : (lf, listOf rows kf) ∈ news) (hR : rows.toList[(p - 1).toNat]? = some (.ref R)) (e3 : (R, listOf as kR) ∈ news) (hx : as.toList[k.toNat]? = some (.int x tx)) (e2 : (lr, listOf #[.int r0 v0, .int r1 v1] ke) ∈ news) (hroom : #[Value.int r0 v0, Value.int r1 v1].toList[k.toNat]? = some (.int room t1)) (hrm : 0 ≤ room ∧ room ≤ 2) (hS0 : rows.toList[(p - (1 + 0)).toNat]? = some (.ref S0)) (f0 : (S0, listOf bs0 kS0) ∈ news) (hy0 : bs0.toList[(k + 1).toNat]? = some (.int y0 ty0)) (hsz : Array.size its ≤ sizeLine)
   (hQ : ∀ h' tk' (q v : Int) (t ta : Tok), Eqv q (max r x) → Eqv v (if room = 0 then max (q + wk) y0 else if room = 1 then q + wk else q + wk) → Fr h₀ L h' (fun z => if z = Str.ofString "ready" then some (.int v t) else if z = Str.ofString "ahead" then some (.int (p - (1 + room)) ta) else m z) → News h₀ L h' (g (listOf (Array.push its (.int v t)) (kr + 1))) → Q .next { s with heap := h', toks := tk' })
   : wpAny (model PySem.Challenge.rw_to0012_01.row.prog w) ((callerA.deeper env0).deeper (envOf nm sc L 106 cd)) (execs b (envOf nm sc L 106 cd)) Q E s := by
  have hz : room = 0 ∨ room = 1 ∨ room = 2 := by omega
  rcases hz with rfl | rfl | rfl
  · exact lt_ahead hb hc B F X T GL M m1 m2 m3 m4 m5 m6 m7 (by omega) hk N U e1 hR e3 hx e2 hroom hrm.1 (by omega) hS0 f0 hy0 hsz fun h' tk' t ta F N => hQ h' tk' _ _ t ta ⟨rfl⟩ ⟨(if_pos rfl).symm⟩ F N
  · exact lt_back hb hc B F X T GL M m1 m2 m3 m4 m5 m6 m7 (by omega) hk N U e1 hR e3 hx e2 hroom hrm.1 (by omega) hsz fun h' tk' t ta F N => hQ h' tk' _ _ t ta ⟨rfl⟩ ⟨((if_neg (by decide)).trans (if_pos rfl)).symm⟩ F N
  · exact lt_back hb hc B F X T GL M m1 m2 m3 m4 m5 m6 m7 (by omega) hk N U e1 hR e3 hx e2 hroom hrm.1 (by omega) hsz fun h' tk' t ta F N => hQ h' tk' _ _ t ta ⟨rfl⟩ ⟨((if_neg (by decide)).trans (if_neg (by decide))).symm⟩ F N
theorem l_mid2 {w : World} {mean mg mb} {env0 : Env} {base h₀ : Heap} {L : Addr} {m : Str → Option Value} {s : Shared} {Q : Flow → Shared → Prop} {E : Value → Shared → Prop} {nm : Str} {cd : Value} {b : List Stmt} {sc : Scope}
   {p k r wk r0 r1 x room : Int} {tp tk tr tw v0 v1 tx t1 : Tok} {lf rw lr R kf kr ke kR : Nat} {rows its as : Array Value} {y0 y1 : Int} {ty0 ty1 : Tok} {S0 S1 kS0 kS1 : Nat} {bs0 bs1 : Array Value} {news : List (Addr × Obj)} {g : Obj → List (Addr × Obj)}
   (hb : ltB w = b) (hc : fnScope w 106 = sc) (B : Below (callerA.deeper env0) base [env0] h₀) (F : Fr h₀ L s.heap m) (X : (hd.heap_39 w.params).In h₀)
   (T : Top hd.view_39 (looseW hd.view_39 [Str.ofString "_twin_re_1", Str.ofString "_twin_re_2", Str.ofString "EXACT_TOKEN_TYPES"]) mean mg mb h₀)
   (GL : Glob 0 mg mb (List.map itemOf (recsOf hd.view_39)) (scalarsOf [] ++ constsW hd.view_39) [] (namesW hd.view_39 [Str.ofString "_twin_re_1", Str.ofString "_twin_re_2", Str.ofString "EXACT_TOKEN_TYPES"]) base) (M : ∃ a o, BMod base mainGlobals mg a o)
   (m1 : m (Str.ofString "place") = some (.int p tp)) (m2 : m (Str.ofString "hand") = some (.int k tk)) (m3 : m (Str.ofString "ready") = some (.int r tr)) (m4 : m (Str.ofString "work") = some (.int wk tw)) (m5 : m (Str.ofString "left") = some (.ref lf)) (m6 : m (Str.ofString "row") = some (.ref rw)) (m7 : m (Str.ofString "rooms") = some (.ref lr)) (hp : p = 2) (hk : 0 ≤ k ∧ k ≤ 1)
   (N : News h₀ L s.heap news)  (U : UpdF rw (listOf its kr) news g)
   (e1 : (lf, listOf rows kf) ∈ news) (hR : rows.toList[(p - 1).toNat]? = some (.ref R)) (e3 : (R, listOf as kR) ∈ news) (hx : as.toList[k.toNat]? = some (.int x tx)) (e2 : (lr, listOf #[.int r0 v0, .int r1 v1] ke) ∈ news) (hroom : #[Value.int r0 v0, Value.int r1 v1].toList[k.toNat]? = some (.int room t1)) (hrm : 0 ≤ room ∧ room ≤ 2) (hS0 : rows.toList[(p - (1 + 0)).toNat]? = some (.ref S0)) (f0 : (S0, listOf bs0 kS0) ∈ news) (hy0 : bs0.toList[(k + 1).toNat]? = some (.int y0 ty0)) (hS1 : rows.toList[(p - (1 + 1)).toNat]? = some (.ref S1)) (f1 : (S1, listOf bs1 kS1) ∈ news) (hy1 : bs1.toList[(k + 1).toNat]? = some (.int y1 ty1)) (hsz : Array.size its ≤ sizeLine)
   (hQ : ∀ h' tk' (q v : Int) (t ta : Tok), Eqv q (max r x) → Eqv v (if room = 0 then max (q + wk) y0 else if room = 1 then max (q + wk) y1 else q + wk) → Fr h₀ L h' (fun z => if z = Str.ofString "ready" then some (.int v t) else if z = Str.ofString "ahead" then some (.int (p - (1 + room)) ta) else m z) → News h₀ L h' (g (listOf (Array.push its (.int v t)) (kr + 1))) → Q .next { s with heap := h', toks := tk' })
   : wpAny (model PySem.Challenge.rw_to0012_01.row.prog w) ((callerA.deeper env0).deeper (envOf nm sc L 106 cd)) (execs b (envOf nm sc L 106 cd)) Q E s := by
  have hz : room = 0 ∨ room = 1 ∨ room = 2 := by omega
  rcases hz with rfl | rfl | rfl
  · exact lt_ahead hb hc B F X T GL M m1 m2 m3 m4 m5 m6 m7 (by omega) hk N U e1 hR e3 hx e2 hroom hrm.1 (by omega) hS0 f0 hy0 hsz fun h' tk' t ta F N => hQ h' tk' _ _ t ta ⟨rfl⟩ ⟨(if_pos rfl).symm⟩ F N
  · exact lt_ahead hb hc B F X T GL M m1 m2 m3 m4 m5 m6 m7 (by omega) hk N U e1 hR e3 hx e2 hroom hrm.1 (by omega) hS1 f1 hy1 hsz fun h' tk' t ta F N => hQ h' tk' _ _ t ta ⟨rfl⟩ ⟨((if_neg (by decide)).trans (if_pos rfl)).symm⟩ F N
  · exact lt_back hb hc B F X T GL M m1 m2 m3 m4 m5 m6 m7 (by omega) hk N U e1 hR e3 hx e2 hroom hrm.1 (by omega) hsz fun h' tk' t ta F N => hQ h' tk' _ _ t ta ⟨rfl⟩ ⟨((if_neg (by decide)).trans (if_neg (by decide))).symm⟩ F N
theorem l_mid3 {w : World} {mean mg mb} {env0 : Env} {base h₀ : Heap} {L : Addr} {m : Str → Option Value} {s : Shared} {Q : Flow → Shared → Prop} {E : Value → Shared → Prop} {nm : Str} {cd : Value} {b : List Stmt} {sc : Scope}
   {p k r wk r0 r1 x room : Int} {tp tk tr tw v0 v1 tx t1 : Tok} {lf rw lr R kf kr ke kR : Nat} {rows its as : Array Value} {y0 y1 y2 : Int} {ty0 ty1 ty2 : Tok} {S0 S1 S2 kS0 kS1 kS2 : Nat} {bs0 bs1 bs2 : Array Value} {news : List (Addr × Obj)} {g : Obj → List (Addr × Obj)}
   (hb : ltB w = b) (hc : fnScope w 106 = sc) (B : Below (callerA.deeper env0) base [env0] h₀) (F : Fr h₀ L s.heap m) (X : (hd.heap_39 w.params).In h₀)
   (T : Top hd.view_39 (looseW hd.view_39 [Str.ofString "_twin_re_1", Str.ofString "_twin_re_2", Str.ofString "EXACT_TOKEN_TYPES"]) mean mg mb h₀)
   (GL : Glob 0 mg mb (List.map itemOf (recsOf hd.view_39)) (scalarsOf [] ++ constsW hd.view_39) [] (namesW hd.view_39 [Str.ofString "_twin_re_1", Str.ofString "_twin_re_2", Str.ofString "EXACT_TOKEN_TYPES"]) base) (M : ∃ a o, BMod base mainGlobals mg a o)
   (m1 : m (Str.ofString "place") = some (.int p tp)) (m2 : m (Str.ofString "hand") = some (.int k tk)) (m3 : m (Str.ofString "ready") = some (.int r tr)) (m4 : m (Str.ofString "work") = some (.int wk tw)) (m5 : m (Str.ofString "left") = some (.ref lf)) (m6 : m (Str.ofString "row") = some (.ref rw)) (m7 : m (Str.ofString "rooms") = some (.ref lr)) (hp : 3 ≤ p ∧ p ≤ 4) (hk : 0 ≤ k ∧ k ≤ 1)
   (N : News h₀ L s.heap news)  (U : UpdF rw (listOf its kr) news g)
   (e1 : (lf, listOf rows kf) ∈ news) (hR : rows.toList[(p - 1).toNat]? = some (.ref R)) (e3 : (R, listOf as kR) ∈ news) (hx : as.toList[k.toNat]? = some (.int x tx)) (e2 : (lr, listOf #[.int r0 v0, .int r1 v1] ke) ∈ news) (hroom : #[Value.int r0 v0, Value.int r1 v1].toList[k.toNat]? = some (.int room t1)) (hrm : 0 ≤ room ∧ room ≤ 2) (hS0 : rows.toList[(p - (1 + 0)).toNat]? = some (.ref S0)) (f0 : (S0, listOf bs0 kS0) ∈ news) (hy0 : bs0.toList[(k + 1).toNat]? = some (.int y0 ty0)) (hS1 : rows.toList[(p - (1 + 1)).toNat]? = some (.ref S1)) (f1 : (S1, listOf bs1 kS1) ∈ news) (hy1 : bs1.toList[(k + 1).toNat]? = some (.int y1 ty1)) (hS2 : rows.toList[(p - (1 + 2)).toNat]? = some (.ref S2)) (f2 : (S2, listOf bs2 kS2) ∈ news) (hy2 : bs2.toList[(k + 1).toNat]? = some (.int y2 ty2)) (hsz : Array.size its ≤ sizeLine)
   (hQ : ∀ h' tk' (q v : Int) (t ta : Tok), Eqv q (max r x) → Eqv v (if room = 0 then max (q + wk) y0 else if room = 1 then max (q + wk) y1 else max (q + wk) y2) → Fr h₀ L h' (fun z => if z = Str.ofString "ready" then some (.int v t) else if z = Str.ofString "ahead" then some (.int (p - (1 + room)) ta) else m z) → News h₀ L h' (g (listOf (Array.push its (.int v t)) (kr + 1))) → Q .next { s with heap := h', toks := tk' })
   : wpAny (model PySem.Challenge.rw_to0012_01.row.prog w) ((callerA.deeper env0).deeper (envOf nm sc L 106 cd)) (execs b (envOf nm sc L 106 cd)) Q E s := by
  have hz : room = 0 ∨ room = 1 ∨ room = 2 := by omega
  rcases hz with rfl | rfl | rfl
  · exact lt_ahead hb hc B F X T GL M m1 m2 m3 m4 m5 m6 m7 (by omega) hk N U e1 hR e3 hx e2 hroom hrm.1 (by omega) hS0 f0 hy0 hsz fun h' tk' t ta F N => hQ h' tk' _ _ t ta ⟨rfl⟩ ⟨(if_pos rfl).symm⟩ F N
  · exact lt_ahead hb hc B F X T GL M m1 m2 m3 m4 m5 m6 m7 (by omega) hk N U e1 hR e3 hx e2 hroom hrm.1 (by omega) hS1 f1 hy1 hsz fun h' tk' t ta F N => hQ h' tk' _ _ t ta ⟨rfl⟩ ⟨((if_neg (by decide)).trans (if_pos rfl)).symm⟩ F N
  · exact lt_ahead hb hc B F X T GL M m1 m2 m3 m4 m5 m6 m7 (by omega) hk N U e1 hR e3 hx e2 hroom hrm.1 (by omega) hS2 f2 hy2 hsz fun h' tk' t ta F N => hQ h' tk' _ _ t ta ⟨rfl⟩ ⟨((if_neg (by decide)).trans (if_neg (by decide))).symm⟩ F N

end Mine
end
section
open PySem PySem.W PyProof.Rows
set_option maxRecDepth 100000
set_option maxHeartbeats 8000000
namespace Mine
local macro_rules | `(tactic| k_lt $h:ident) => `(tactic| skip)
local macro_rules | `(tactic| k_mem) => `(tactic| k_dflt (first | assumption | exact memAt 0 rfl | exact memAt 1 rfl | exact memAt 2 rfl | exact memAt 3 rfl | exact memAt 4 rfl | exact memAt 5 rfl | exact memAt 6 rfl | exact memAt 7 rfl | exact memAt 8 rfl | exact memAt 9 rfl | exact memAt 10 rfl | exact memAt 11 rfl | exact memAt 12 rfl | exact memAt 13 rfl | exact memAt 14 rfl | exact memAt 15 rfl | exact memAt 16 rfl | exact memAt 17 rfl | exact memAt 18 rfl | exact memAt 19 rfl | exact memAt 20 rfl))
local macro_rules | `(tactic| k_ne) => `(tactic| (refine neN ?_; (try dsimp only); (first | (with_reducible assumption) | exact ltAll (by assumption) (by k_mem) | exact gtAll (by assumption) (by k_mem) | exact gtAllS (by assumption) (by k_mem) | exact ltAllS (by assumption) (by k_mem) | exact ltAllS2 (by assumption) (by k_mem) | exact ltAllS3 (by assumption) (by k_mem) | exact offAll (by assumption) (by k_mem) | exact Ne.symm (offAll (by assumption) (by k_mem)) | exact Nat.succ_ne_self _ | exact Ne.symm (Nat.succ_ne_self _) | (with_reducible exact Ne.symm (by assumption)))))
local macro_rules | `(tactic| k_all) => `(tactic| first | exact neAllOf (by assumption) | exact neAllOff (by assumption) | exact List.forall_mem_nil _ | (refine' List.forall_mem_cons.mpr ⟨?a, ?b⟩; (case a => k_ne); (case b => k_all)))
theorem numbers_law (w : World) (mean mg mb) (env : Env) (base h₀ : Heap) (L : Addr) (m) (s : Shared) (Q E : Value → Shared → Prop) (a : Addr) (vs : List Value) (ns : List Int)
   (H : Here w mean mg mb env base h₀ L s.heap m [])
   (hl : h₀.IsList a vs.toArray) (hI : IntsAre vs ns) (hlen : ns.length ≤ 63)
   (hQ : ∀ (D : Addr) (h' : Heap) (tk k : Nat) (n0 n1 n2 n3 n4 n5 n6 n7 : Int) (t0 t1 t2 t3 t4 t5 t6 t7 : Tok), Fr h₀ L h' m → Kept s.heap h' → h'.get? D = some (listOf #[.int n0 t0, .int n1 t1, .int n2 t2, .int n3 t3, .int n4 t4, .int n5 t5, .int n6 t6, .int n7 t7] k) → s.heap.get? D = none →
     InB n0 → InB n1 → InB n2 → InB n3 → InB n4 → InB n5 → InB n6 → InB n7 → Q (.ref D) { s with heap := h', toks := tk })
   : wpAny (model PySem.Challenge.rw_to0012_01.row.prog w) (callerA.deeper env) (call (.ref 84) [.ref a]) Q E s := by
  w_top off
  have kf : ((hd.heap_39 w.params).In h₀ ∧ PySem.Challenge.rw_to0012_01.row.prog = PySem.Challenge.rw_to0012_01.row.prog → True) := by k_fill; exact fun _ => trivial
  clear kf
  obtain ⟨B, F, X, N, T, GL, ⟨a₁, o₁, M⟩, hf, hk⟩ := H
  refine wpAny_call ?_
  k_dflt (refine' enterG ?k1 ?k2 ?k3 ?k4 ?k5 ?kA ?kF ?kK ?k6 ?k7 ?k8 ?k9 ?kB ?_ ?c2 ?c3 ?c4 ?c5; (case kA => exact rfl); (case kF => assumption); (case kK => assumption); (case k1 => k_asm); (case k2 => k_asm); (case k3 => k_asm); (case k4 => k_asm); (case k5 => k_asm); (case k6 => k_is); (case k7 => k_is); (case k8 => k_room); (case k9 => first | exact BindsTo.of_eq rfl | exact binds_K (by k_in) rfl (by k_is) rfl rfl rfl | fail "k_enter: no rule for these arguments"); (case c5 => decide); (case kB => exact locs rfl); (case c2 => exact rfl); (case c3 => exact rfl); (case c4 => exact rfl); k_whole; intro g' L' h' hG FG' F' N' B' X' T' l1; (try k_lt l1); (try dsimp only); (try k_lift B'); (try k_fold))
  rename Fr h₀ L _ m => FG9
  have hl2 := Heap.IsList.at hl fun o e => FG9.keep a o e
  repeat' (first | (k_unfold; (try dsimp only)) | (k_end; wrow_close) | ((with_reducible show wpAny _ _ (subscriptTail _ _ (Value.ref _) _) _ _ _); (k_here; (with_reducible show wpAny _ _ (subscriptTail _ (PySem.Expr.Slice (some _) none none _) (Value.ref _) (Value.ref _)) _ _ _); k_dflt (refine kmk_slice_ints (by k_asm) (by k_asm) (by kmk_list) (by kmk_part) (by kmk_part) (by l_ints) (by exact kmk_from (by l_ints) (Int.natCast_nonneg _)) (by kmk_len) ?_ (by with_unfolding_all rfl) (by kmk_pure) (by kmk_size)); intro D' ws' h' F' N' l1 hI' hC' hL'; (try k_lt l1); (try k_sweep))) | ((with_reducible show wpAny _ _ (call (Value.builtin "list.append") _ _) _ _ _); (k_here; (with_reducible show wpAny _ _ (call (Value.builtin _) [Value.ref _, _]) _ _ _); k_dflt (refine append_K (by k_asm) (by k_asm) (by k_upd) ?_ (by exact Nat.le_of_ble_eq_true rfl); k_whole); intro h' F' N'; (try k_sweep))) | ((with_reducible show wpAny _ _ (exec (Stmt.For (PySem.Expr.Name _ _) (PySem.Expr.Call _ _ _ _) _ _ _) _) _ _ _); (k_here; (rename Fr _ _ _ _ => lF'); (with_unfolding_all refine' For_turns lF' ?_; k_whole))) | ((with_reducible show wpAny _ _ (execs (List.cons _ _) _) _ _ _); ((try k_fold); (conv => arg @7; dsimp only); (try k_gentoks); (with_reducible refine wpAny_execs_cons ?_); (try dsimp only); (try ((with_reducible rename Fr _ _ _ _ => fF'); (refine' (let mk' : Str → Option Value := _; have fF1' : Fr _ _ _ mk' := fF'; ?_)); clear fF')); (try ((with_reducible rename News _ _ _ _ => fN'); (refine' (let nk' : List (Addr × Obj) := _; have fN1' : News _ _ _ nk' := fN'; ?_)); clear fN')))) | ((with_reducible show LCg.FinE _ _ _ _ _ _ _); ((unfold LCg.FinE); intro D' h' tk' F' N' o1'; (try simp only [List.nil_append, List.cons_append] at N'); (try dsimp only))) | ((with_reducible show LCg.CompRest _ _ _ _ _ _ _ _ _ _ _ _ _ _ _ _ _ _ _); (with_unfolding_all first | (refine LCg.CompRest.succ ?_; intro v' I' oI' C' oC' D' m' h' tk' E' hv' hC' hx' F' N' off' ne'; (first | lcg_open hv' | (obtain ⟨t9', hv9'⟩ := hv'; subst hv9'))) | refine LCg.CompRest.zero ?_)) | ((with_reducible show LCg.CompEnd _ _ _ _ _ _ _ _ _ _ _ _ _ _); (k_dflt (refine compSame (by k_asm) (by k_asm) (by assumption) (by first | exact True.intro | exact Or.inr ⟨_, by k_mem, rfl, _, rfl⟩) ?_))) | walk1 | (dsimp only) | (leave1; walk_say "STEP leave1"; try dsimp only))
  (try dsimp only)
  rename News _ _ _ _ => kN9
  rename Fr _ _ _ _ => kF9
  revert kF9 kN9
  rename News _ _ _ _ => gN9
  rename Fr _ _ _ _ => gF9
  intro kF9 kN9
  rename Ground _ _ _ => hG9
  rename IntsAre _ _ => hI9
  obtain ⟨n0, n1, n2, n3, n4, n5, n6, n7, t0, t1, t2, t3, t4, t5, t6, t7, e9, b0, b1, b2, b3, b4, b5, b6, b7⟩ := eight hI9
  subst e9
  exact hQ _ _ _ _ n0 n1 n2 n3 n4 n5 n6 n7 t0 t1 t2 t3 t4 t5 t6 t7 kF9 (keptOf hG9 N gF9 kN9 (List.forall_mem_nil _)) (kN9 (_, _) (by k_mem)).1 (freshOf hG9 gN9 (by k_mem) (by simp)) b0 b1 b2 b3 b4 b5 b6 b7
theorem sizes_law (w : World) (mean mg mb) (env : Env) (base h₀ : Heap) (L : Addr) (m) (s : Shared) (Q E : Value → Shared → Prop) (total : Int) (t : Tok)
   (H : Here w mean mg mb env base h₀ L s.heap m []) (h0 : 0 ≤ total) (hg : s.gens = #[])
   (hQ : ∀ (D A B : Addr) (h' : Heap) (gs : Array GenState) (tk k1 k2 : Nat) (xs ys : List Value) (zs : List Int), Fr h₀ L h' m → Kept s.heap h' →
     h'.get? D = some { cls := .type "tuple", data := .seq #[.ref A, .ref B] } → h'.get? A = some (listOf xs.toArray k1) → h'.get? B = some (listOf ys.toArray k2) →
     s.heap.get? D = none → s.heap.get? A = none → s.heap.get? B = none → @Ne Nat A B → @Ne Nat A D → @Ne Nat B D → IntsAre xs zs → IntsAre ys zs →
     (zs.length = 3 ∨ zs.length = 5) → (∀ z ∈ zs, 1 ≤ z ∧ z ≤ 3) → AllBare gs → Q (.ref D) { s with heap := h', gens := gs, toks := tk })
   : wpAny (model PySem.Challenge.rw_to0012_01.row.prog w) (callerA.deeper env) (call (.ref 89) [.int total t]) Q E s := by
  w_top off
  have kf : ((hd.heap_39 w.params).In h₀ ∧ PySem.Challenge.rw_to0012_01.row.prog = PySem.Challenge.rw_to0012_01.row.prog → True) := by k_fill; exact fun _ => trivial
  clear kf
  obtain ⟨B, F, X, N, T, GL, ⟨a₁, o₁, M⟩, hf, hk⟩ := H
  refine wpAny_call ?_
  k_dflt (refine' enterGC ?k1 ?k2 ?k3 ?k4 ?k5 ?kA ?kF ?kK ?k6 ?k7 ?k8 ?k9 ?kB ?kD ?_ ?c2 ?c3 ?c4; (case kA => exact rfl); (case kF => assumption); (case kK => assumption); (case k1 => k_asm); (case k2 => k_asm); (case k3 => k_asm); (case k4 => k_asm); (case k5 => k_asm); (case k6 => k_is); (case k7 => k_is); (case k8 => k_room); (case k9 => first | exact BindsTo.of_eq rfl | exact binds_K (by k_in) rfl (by k_is) rfl rfl rfl | fail "k_enter: no rule for these arguments"); (case kB => exact rfl); (case kD => decide +kernel); (case c2 => exact rfl); (case c3 => exact rfl); (case c4 => exact rfl); k_whole; intro g' L' h' tk' cells' hG FG' F' N' Y' B' X' T' l1; (try k_lt l1); k_cells Y'; (try simp only [List.cons_append, List.nil_append] at N'); (try dsimp only); (try k_lift B'); (try k_fold))
  repeat' (first | (k_unfold; (try dsimp only)) | (k_end; wrow_close) | ((with_reducible show wpAny _ _ (call (Value.builtin "list.append") _ _) _ _ _); (k_here; (with_reducible show wpAny _ _ (call (Value.builtin _) [Value.ref _, _]) _ _ _); k_dflt (refine append_K (by k_asm) (by k_asm) (by k_upd) ?_ (by exact Nat.le_of_ble_eq_true rfl); k_whole); intro h' F' N'; (try k_sweep))) | ((with_reducible show wpAny _ _ (exec (Stmt.For (PySem.Expr.Name _ _) (PySem.Expr.Call _ _ _ _) _ _ _) _) _ _ _); (k_here; (rename Fr _ _ _ _ => lF'); (with_unfolding_all refine' For_turns lF' ?_; k_whole))) | ((with_reducible show wpAny _ _ (call (Value.ref _) _ _) _ _ _); (k_here; (with_reducible show wpAny _ _ (call (Value.ref 55) [Value.ref _] _) _ _ _); k_dflt (refine gen_K (by k_room) (by k_asm) (by k_asm) (by k_asm) (by k_asm) (by k_mem) (by assumption) ?_; intro Lg' h' tk' c' gM' F' N' gB'; (try k_sweep)))) | ((with_reducible show wpAny _ _ (exec (Stmt.Assign _ (PySem.Expr.ListComp _ _ _ _) _) _) _ _ _); (k_here; (with_reducible show wpAny _ _ (exec (Stmt.Assign _ (PySem.Expr.ListComp (PySem.Expr.Name _ _) _ _ _) _) _) _ _ _); k_dflt (refine Assign_ListComp_Z (F₀ := by k_asm) (by rfl) (by with_unfolding_all rfl) (by with_unfolding_all rfl) (by decide) (by rfl) (by decide) (by rfl) (by rfl) (by decide) (by decide) (by rfl) (by rfl) ?_))) | ((with_reducible show wpAny _ _ (exec (Stmt.Assign _ (PySem.Expr.ListComp _ _ _ _) _) _) _ _ _); (k_here; (with_reducible show wpAny _ _ (exec (Stmt.Assign _ (PySem.Expr.ListComp (PySem.Expr.BinOp _ _ _ _) _ _ _) _) _) _ _ _); k_dflt (refine Assign_ListComp_X (F₀ := by k_asm) (by rfl) (by with_unfolding_all rfl) (by with_unfolding_all rfl) (by decide) (by rfl) (by decide) (by rfl) (by rfl) (by rfl) ?_))) | ((with_reducible show wpAny _ _ (execs (List.cons _ _) _) _ _ _); ((try k_fold); (conv => arg @7; dsimp only); (try k_gentoks); (with_reducible refine wpAny_execs_cons ?_); (try dsimp only); (try ((with_reducible rename Fr _ _ _ _ => fF'); (refine' (let mk' : Str → Option Value := _; have fF1' : Fr _ _ _ mk' := fF'; ?_)); clear fF')); (try ((with_reducible rename News _ _ _ _ => fN'); (refine' (let nk' : List (Addr × Obj) := _; have fN1' : News _ _ _ nk' := fN'; ?_)); clear fN')))) | ((with_reducible show wpAny _ _ (call (Value.type "zip") _ _) _ _ _); (k_here; (rename GenMade _ _ _ _ _ _ _ => gM9); k_dflt (refine zip_K gM9 (by k_asm) (by k_asm) (by k_mem) ?_; intro h' zM' F' N'; (try k_sweep)))) | ((with_reducible show wpAny _ _ (call (Value.type _) _ _) _ _ _); (k_here; (with_reducible show wpAny _ _ (call (Value.type _) [Value.int 5 _]) _ _ _); k_dflt (refine range_K (by k_asm) (by k_asm) ?_; intro D' h' a' b' tk' F' N' l1; (try k_lt l1); (try k_sweep)))) | ((with_reducible show wpAny _ _ (eval (PySem.Expr.ListComp _ _ _ _) _) _ _ _); (k_here; k_dflt (refine ListComp_X (F₀ := by k_asm) (by with_unfolding_all rfl) (by decide) (by rfl) (by decide) (by rfl) ?_))) | ((with_reducible show LCg.FinE _ _ _ _ _ _ _); ((unfold LCg.FinE); intro D' h' tk' F' N' o1'; (try simp only [List.nil_append, List.cons_append] at N'); (try dsimp only))) | ((with_reducible show LCg.CompRest _ _ _ _ _ _ _ _ _ _ _ _ _ _ _ _ _ _ _); (with_unfolding_all first | (refine LCg.CompRest.succ ?_; intro v' I' oI' C' oC' D' m' h' tk' E' hv' hC' hx' F' N' off' ne'; (first | lcg_open hv' | (obtain ⟨t9', hv9'⟩ := hv'; subst hv9'))) | refine LCg.CompRest.zero ?_)) | ((with_reducible show LCg.CompEnd _ _ _ _ _ _ _ _ _ _ _ _ _ _); (k_dflt (refine compSame (by k_asm) (by k_asm) (by assumption) (by first | exact True.intro | exact Or.inr ⟨_, by k_mem, rfl, _, rfl⟩) ?_))) | ((with_reducible show SrcZ _ _ _ _ _ _ _ _ _); (k_here; (rename ZipMade _ _ _ _ _ _ _ => zM9); k_dflt (refine srcZ_of zM9 (by k_asm) (by k_asm) (by assumption) (by rfl) (by first | k_room | decide) (by rfl) (by first | exact plan_zero bnd3 bnd3 bnd3 | exact plan_stop bnd3 bnd3 bnd3 | exact plan_end bnd3 bnd3 bnd3) (by decide) ?_; intro D' h' tk' gs' F' N' l1 hb9; (try k_lt l1); (try k_sweep)))) | ((with_reducible show SrcX _ _ _ _ _ _ _ _ _ _ _ _ _ _ _); (k_here; k_dflt (refine tupleX (by rfl) (by k_asm) (by k_asm) (by k_mem) (by first | exact Nat.le_of_ble_eq_true rfl | size_fits) ?_; intro g'; lcg_lit))) | ((with_reducible show LCg.CompEnd _ _ _ _ _ _ _ _ _ _ _ _ _ _); (k_dflt lcg_end)) | ((with_reducible show LCg.FinE _ _ _ _ _ _ _); ((unfold LCg.FinE); intro D' h' tk' F' N' o1'; (try simp only [LCg.Off1, and_true] at o1'); (try simp only [List.nil_append, List.cons_append] at N'); (repeat (obtain ⟨_, o1'⟩ := o1')); (try dsimp only))) | ((with_reducible show LCg.CompRest _ _ _ _ _ _ _ _ _ _ _ _ _ _ _ _ _ _ _); (with_unfolding_all first | (refine LCg.CompRest.succ ?_; intro v' I' oI' C' oC' D' m' h' tk' E' hv' hC' hx' F' N' off' ne'; (first | lcg_open hv' | (obtain ⟨t9', hv9'⟩ := hv'; subst hv9')); (try simp only [LCg.Off3, and_true] at off'); (obtain ⟨_, _, _⟩ := ne'); (repeat (obtain ⟨⟨_, _, _⟩, off'⟩ := off')); (try obtain ⟨_, _, _⟩ := off')) | refine LCg.CompRest.zero ?_)) | ((with_reducible show LCg.CompSrc _ _ _ _ _ _ _ _ _ _ _ _ _ _); (k_here; k_dflt (refine LCg.CompSrc.range (by rfl) (by k_asm) (by k_asm) (by assumption) (by first | decide | rfl) (by first | rfl | decide) (by first | size_fits | exact Nat.le_of_ble_eq_true rfl) ?_; intro g'; lcg_lit))) | walk1 | (dsimp only) | (leave1; walk_say "STEP leave1"; try dsimp only))
  all_goals ((try dsimp only); (rename News _ _ _ _ => kN9); (rename Fr _ _ _ _ => kF9); (revert kF9 kN9); (rename News _ _ _ _ => gN9); (rename Fr _ _ _ _ => gF9); (intro kF9 kN9); (rename Ground _ _ _ => hG9); (rename AllBare _ => hB9))
  all_goals (apply hQ; exact kF9; exact keptOf hG9 N gF9 kN9 (by lcg_sub); exact (kN9 (_, _) (by k_mem)).1; exact (kN9 (_, LCg.lst _) (by k_mem)).1; exact (kN9 (_, _) (by k_mem)).1; exact freshOf hG9 gN9 (by k_mem) (List.not_mem_nil); exact freshOf hG9 gN9 (by k_mem) (List.not_mem_nil); exact freshOf hG9 gN9 (by k_mem) (List.not_mem_nil); (focus (first | k_ne | omega)); (focus (first | k_ne | omega)); (focus (first | k_ne | omega)))
  all_goals (first | exact hB9 | exact IntsAre.cons _ _ (IntsAre.cons _ _ (IntsAre.cons _ _ IntsAre.nil)) | exact IntsAre.cons _ _ (IntsAre.cons _ _ (IntsAre.cons _ _ (IntsAre.cons _ _ (IntsAre.cons _ _ IntsAre.nil)))) | exact .inl rfl | exact .inr rfl | exact bnd_cons bnd3 (bnd_cons bnd3 (bnd_cons bnd3 bnd_nil)) | exact bnd_cons bnd3 (bnd_cons bnd3 (bnd_cons bnd3 (bnd_cons bnd3 (bnd_cons bnd3 bnd_nil)))))
theorem works_law (w : World) (mean mg mb) (env : Env) (base h₀ : Heap) (L : Addr) (m) (s : Shared) (Q E : Value → Shared → Prop) (ln : Addr) (en : Nat)
   (n0 n1 n2 : Int) (t0 t1 t2 : Tok)
   (H : Here w mean mg mb env base h₀ L s.heap m [(ln, listOf #[.int n0 t0, .int n1 t1, .int n2 t2] en)])
   (hn0 : 0 ≤ n0 ∧ n0 < 1000000) (hn1 : 0 ≤ n1 ∧ n1 < 1000000) (hn2 : 0 ≤ n2 ∧ n2 < 1000000)
   (hQ : ∀ (D : Addr) (h' : Heap) (tk k : Nat) (t0 t1 t2 : Tok) (w0 w1 w2 : Int), Fr h₀ L h' m → Kept s.heap h' → h'.get? D = some (listOf #[.int w0 t0, .int w1 t1, .int w2 t2] k) → s.heap.get? D = none →
     w0 = wk n0 → w1 = wk n1 → w2 = wk n2 → Q (.ref D) { s with heap := h', toks := tk })
   : wpAny (model PySem.Challenge.rw_to0012_01.row.prog w) (callerA.deeper env) (call (.ref 94) [.ref ln]) Q E s := by
  have hE : (Str.ofString "").cps.size = 0 := by decide +kernel
  w_top off
  have kf : ((hd.heap_39 w.params).In h₀ ∧ PySem.Challenge.rw_to0012_01.row.prog = PySem.Challenge.rw_to0012_01.row.prog → True) := by k_fill; exact fun _ => trivial
  clear kf
  obtain ⟨B, F, X, N, T, GL, ⟨a₁, o₁, M⟩, hf, hk⟩ := H
  refine wpAny_call ?_
  k_dflt (refine' enterG ?k1 ?k2 ?k3 ?k4 ?k5 ?kA ?kF ?kK ?k6 ?k7 ?k8 ?k9 ?kB ?_ ?c2 ?c3 ?c4 ?c5; (case kA => exact rfl); (case kF => assumption); (case kK => assumption); (case k1 => k_asm); (case k2 => k_asm); (case k3 => k_asm); (case k4 => k_asm); (case k5 => k_asm); (case k6 => k_is); (case k7 => k_is); (case k8 => k_room); (case k9 => first | exact BindsTo.of_eq rfl | exact binds_K (by k_in) rfl (by k_is) rfl rfl rfl | fail "k_enter: no rule for these arguments"); (case c5 => decide); (case kB => exact locs rfl); (case c2 => exact rfl); (case c3 => exact rfl); (case c4 => exact rfl); k_whole; intro g' L' h' hG FG' F' N' B' X' T' l1; (try k_lt l1); (try dsimp only); (try k_lift B'); (try k_fold))
  repeat' (first | (k_unfold; (try dsimp only)) | (k_end; wrow_close) | ((with_reducible show wpAny _ _ (getMethod (Value.ref _) (Str.ofString "get") _) _ _ _); with_reducible ((first | (rename TabAt _ _ _ _ _ => dictLook) | (rename Obj.IsDictOf _ _ _ => dictLook)); refine getMethod_strTab_get (by first | assumption | exact TabAt.ofFr (by assumption) (by assumption) | exact TabAt.ofNews (by assumption) (by first | exact .head _ | exact .tail _ (.head _) | exact .tail _ (.tail _ (.head _))) (by assumption) (by assumption) (by assumption) | exact TabAt.ofNews (News.right (by assumption)) (by first | exact .head _ | exact .tail _ (.head _) | exact .tail _ (.tail _ (.head _))) (by assumption) (by assumption) (by assumption)) ?_)) | ((with_reducible show wpAny _ _ (call (Value.builtin "dict.get") [Value.ref _, Value.str _ _, _]) _ _ _); with_reducible ((first | (rename TabAt _ _ _ _ _ => dictLook) | (rename Obj.IsDictOf _ _ _ => dictLook)); refine call_get2_strTab (by first | assumption | exact TabAt.ofFr (by assumption) (by assumption) | exact TabAt.ofNews (by assumption) (by first | exact .head _ | exact .tail _ (.head _) | exact .tail _ (.tail _ (.head _))) (by assumption) (by assumption) (by assumption) | exact TabAt.ofNews (News.right (by assumption)) (by first | exact .head _ | exact .tail _ (.head _) | exact .tail _ (.tail _ (.head _))) (by assumption) (by assumption) (by assumption)) (by first | exact PyProof.V.Flat.int _ _ | assumption) ?_; intro _ hv9; dict_open hv9)) | ((with_reducible show wpAny _ _ (pyIter (Value.ref _)) (fun it s₂ => LoopAtV _ _ _ _ _ _ _ _ _ it s₂) _ _); with_reducible (l_hasStore; k_listUnr)) | ((with_reducible show wpAny _ _ (subscriptTail _ _ (Value.ref _) _) _ _ _); (k_here; (with_reducible show wpAny _ _ (subscriptTail _ _ (Value.ref _) (Value.int _ _)) _ _ _); k_dflt (refine endT (by k_asm) (by k_mem) (by exact fmlo (by decide)) (by exact fm3) ?_; intro vT tT hT hTs; (try dsimp only)))) | ((with_reducible show wpAny _ _ (subscriptTail _ _ (Value.ref _) _) _ _ _); (k_here; (with_reducible show wpAny _ _ (subscriptTail _ _ (Value.ref _) (Value.int _ _)) _ _ _); k_dflt (refine signT (by k_asm) (by k_mem) (by exact fmlo (by decide)) (by exact fm19) ?_; intro vT tT hT hTs; (try dsimp only)))) | ((with_reducible show wpAny _ _ (call (Value.builtin "list.append") _ _) _ _ _); (k_here; (with_reducible show wpAny _ _ (call (Value.builtin _) [Value.ref _, _]) _ _ _); k_dflt (refine append_K (by k_asm) (by k_asm) (by k_upd) ?_ (by exact Nat.le_of_ble_eq_true rfl); k_whole); intro h' F' N'; (try k_sweep))) | ((with_reducible show wpAny _ _ (exec (Stmt.For (PySem.Expr.Name _ _) (PySem.Expr.Call _ _ _ _) _ _ _) _) _ _ _); (k_here; (rename Fr _ _ _ _ => lF'); (with_unfolding_all refine' For_turns lF' ?_; k_whole))) | ((with_reducible show wpAny _ _ (call (Value.builtin "str.split") _ _) _ _ _); (k_here; k_dflt (refine splitT (by k_asm) (by k_asm) (by assumption) (by assumption) (by assumption) (by assumption) (by assumption) (by assumption) (by assumption) (by assumption) (by assumption) (by assumption) (by assumption) (by assumption) ?_; intro D' h' k' t0' t1' t2' t3' F' N' l1; (try k_lt l1); (try k_sweep)))) | ((with_reducible show wpAny _ _ (binaryOp Operator.Add (Value.str _ _) (Value.str _ _)) _ _ _); (k_here; k_dflt (refine addT (by omega) (by omega) ?_; intro vT tT kT hT hTs; (try dsimp only)))) | ((with_reducible show wpAny _ _ (binaryOp Operator.Add (Value.ref _) (Value.ref _)) _ _ _); (k_here; (with_reducible rename CarriedAll _ _ => hc9); k_dflt ((have hc8 := signs18 hc9); clear hc9; (obtain ⟨_, _, _, _, _, _, _, _, _, _, _, _, _, _, _, _, _, _, e9⟩ := hc8); subst e9))) | ((with_reducible show wpAny _ _ (call (Value.builtin "list.append") _ _) _ _ _); (k_here; (with_reducible show wpAny _ _ (call (Value.builtin _) [Value.ref _, _]) _ _ _); k_dflt (refine append_K (by k_asm) (by k_asm) (by k_upd) ?_ (by first | exact Nat.le_of_ble_eq_true rfl | assumption); k_whole); intro h' F' N'; (try k_sweep))) | ((with_reducible show wpAny _ _ (call (Value.ref _) _ _) _ _ _); (k_here; (with_reducible show wpAny _ _ (call (Value.ref 62) [Value.int _ _, Value.int _ _] _) _ _ _); k_dflt (refine ge_law (by first | exact rfl | assumption) (by first | assumption | exact rfl) (by first | assumption | exact rfl) (by k_asm) (by k_asm) (by k_asm) (by k_asm) (by k_asm) (by first | k_room | assumption) ?_; intro hO' tkO FO NO; (try dsimp only); (try k_sweep)))) | ((with_reducible show wpAny _ _ (call (Value.ref _) _ _) _ _ _); (k_here; (with_reducible show wpAny _ _ (call (Value.ref 76) [Value.int _ _, Value.int _ _] _) _ _ _); k_dflt (refine sub_law (by first | exact rfl | assumption) (by first | assumption | exact rfl) (by first | assumption | exact rfl) (by k_asm) (by k_asm) (by k_asm) (by k_asm) (by k_asm) (by first | k_room | assumption) ?_; intro hO' tkO tO FO NO; (try dsimp only); (try k_sweep)))) | ((with_reducible show wpAny _ _ (call (Value.ref _) _ _) _ _ _); (k_here; (with_reducible show wpAny _ _ (call (Value.ref 69) [Value.int _ _, Value.int _ _] _) _ _ _); k_dflt (refine add_law (by first | exact rfl | assumption) (by first | assumption | exact rfl) (by first | assumption | exact rfl) (by k_asm) (by k_asm) (by k_asm) (by k_asm) (by k_asm) (by first | k_room | assumption) ?_; intro hO' tkO tO FO NO; (try dsimp only); (try k_sweep)))) | ((with_reducible show wpAny _ _ (exec (Stmt.For (PySem.Expr.Tuple _ _ _) (PySem.Expr.Call _ _ _ _) _ _ _) _) _ _ _); (k_here; (rename Fr _ _ _ _ => lF'); (with_unfolding_all refine' For_turns lF' ?_; k_whole))) | ((with_reducible show wpAny _ _ (exec (Stmt.For (PySem.Expr.Name _ _) (PySem.Expr.Subscript _ _ _) _ _ _) _) _ _ _); (k_here; (rename Fr _ _ _ _ => lF'); (with_unfolding_all refine For_invVF lF' (by exact rfl) (by exact rfl) ?_; k_whole))) | ((with_reducible show wpAny _ _ (compareOp CmpOp.Gt _ (Value.int _ _)) _ _ _); (k_here; (with_reducible rename PyProof.V.Flat _ _ => hv9); k_dflt ((have hv8 := look_is (by decide +kernel) hv9); clear hv9; (obtain ⟨tv9, ev9⟩ := hv8); subst ev9))) | ((with_reducible show wpAny _ _ (execs (List.cons _ _) _) _ _ _); ((try k_fold); (conv => arg @7; dsimp only); (try k_gentoks); (with_reducible refine wpAny_execs_cons ?_); (try dsimp only); (try ((with_reducible rename Fr _ _ _ _ => fF'); (refine' (let mk' : Str → Option Value := _; have fF1' : Fr _ _ _ mk' := fF'; ?_)); clear fF')); (try ((with_reducible rename News _ _ _ _ => fN'); (refine' (let nk' : List (Addr × Obj) := _; have fN1' : News _ _ _ nk' := fN'; ?_)); clear fN')))) | ((with_reducible show wpAny _ _ (call (Value.builtin "sum") _ _) _ _ _); (k_here; (with_reducible rename MarkJ => mJ'); k_dflt (refine sumE (by exact rfl) (by k_asm) (by k_asm) (by k_mem) (by exact IntsAre.cons _ _ (IntsAre.cons _ _ (IntsAre.nil))) ?_; intro hS' tkS' tS' FS' NS'; (try dsimp only); (try k_sweep)))) | ((with_reducible show wpAny _ _ (eval (PySem.Expr.ListComp _ _ _ _) _) _ _ _); (k_here; (with_reducible rename MarkJ => mJ'); k_dflt (refine ListComp_X (F₀ := by k_asm) (by with_unfolding_all rfl) (by decide) (by rfl) (by decide) (by rfl) ?_))) | ((with_reducible show wpAny _ _ (call (Value.builtin "re.Pattern.sub") _ _) _ _ _); (k_here; first | (refine subK1 (by k_asm) (by k_asm) (by exact pat36 (Frag.In.keeps (by k_asm) (Fr.keep (by k_asm)))) (by exact sub2_le (by omega)) ?_) | (refine subK2 (by k_asm) (by k_asm) (by exact pat41 (Frag.In.keeps (by k_asm) (Fr.keep (by k_asm)))) (by omega) ?_); intro h' tk' t' F' N')) | ((with_reducible show wpAny _ _ (getMethod (Value.ref _) _ _) _ _ _); (k_here; (with_reducible show wpAny _ _ (getMethod (Value.ref _) (Str.ofString "sub") _) _ _ _); first | refine getSub (pat36 (Frag.In.keeps (by k_asm) (Fr.keep (by k_asm)))) ?_ | refine getSub (pat41 (Frag.In.keeps (by k_asm) (Fr.keep (by k_asm)))) ?_)) | ((with_reducible show LCg.FinE _ _ _ _ _ _ _); ((unfold LCg.FinE); intro D' h' tk' F' N' o1'; (try simp only [List.nil_append, List.cons_append] at N'); (try dsimp only))) | ((with_reducible show LCg.CompRest _ _ _ _ _ _ _ _ _ _ _ _ _ _ _ _ _ _ _); (with_unfolding_all first | (refine LCg.CompRest.succ ?_; intro v' I' oI' C' oC' D' m' h' tk' E' hv' hC' hx' F' N' off' ne'; (first | lcg_open hv' | (obtain ⟨t9', hv9'⟩ := hv'; subst hv9'))) | refine LCg.CompRest.zero ?_)) | ((with_reducible show LCg.CompEnd _ _ _ _ _ _ _ _ _ _ _ _ _ _); (k_dflt (refine compSame (by k_asm) (by k_asm) (by assumption) (by first | exact True.intro | exact Or.inr ⟨_, by k_mem, rfl, _, rfl⟩) ?_))) | ((k_here; k_openite; k_dflt ((refine ite_joinH (by k_asm) (by k_asm) (by (intro hcJ QJ hQJ; have mJ := MarkJ.mk; (repeat' (first | (refine hQJ _ _ _ (by assumption) (by first | assumption | (rename News _ _ _ _ => nJ; exact subJ nJ (by lcg_sub)))) | (k_unfold; (try dsimp only)) | ((with_reducible show wpAny _ _ (getMethod (Value.ref _) (Str.ofString "get") _) _ _ _); with_reducible ((first | (rename TabAt _ _ _ _ _ => dictLook) | (rename Obj.IsDictOf _ _ _ => dictLook)); refine getMethod_strTab_get (by first | assumption | exact TabAt.ofFr (by assumption) (by assumption) | exact TabAt.ofNews (by assumption) (by first | exact .head _ | exact .tail _ (.head _) | exact .tail _ (.tail _ (.head _))) (by assumption) (by assumption) (by assumption) | exact TabAt.ofNews (News.right (by assumption)) (by first | exact .head _ | exact .tail _ (.head _) | exact .tail _ (.tail _ (.head _))) (by assumption) (by assumption) (by assumption)) ?_)) | ((with_reducible show wpAny _ _ (call (Value.builtin "dict.get") [Value.ref _, Value.str _ _, _]) _ _ _); with_reducible ((first | (rename TabAt _ _ _ _ _ => dictLook) | (rename Obj.IsDictOf _ _ _ => dictLook)); refine call_get2_strTab (by first | assumption | exact TabAt.ofFr (by assumption) (by assumption) | exact TabAt.ofNews (by assumption) (by first | exact .head _ | exact .tail _ (.head _) | exact .tail _ (.tail _ (.head _))) (by assumption) (by assumption) (by assumption) | exact TabAt.ofNews (News.right (by assumption)) (by first | exact .head _ | exact .tail _ (.head _) | exact .tail _ (.tail _ (.head _))) (by assumption) (by assumption) (by assumption)) (by first | exact PyProof.V.Flat.int _ _ | assumption) ?_; intro _ hv9; dict_open hv9)) | ((with_reducible show wpAny _ _ (pyIter (Value.ref _)) (fun it s₂ => LoopAtV _ _ _ _ _ _ _ _ _ it s₂) _ _); with_reducible (l_hasStore; k_listUnr)) | ((with_reducible show wpAny _ _ (subscriptTail _ _ (Value.ref _) _) _ _ _); (k_here; (with_reducible show wpAny _ _ (subscriptTail _ _ (Value.ref _) (Value.int _ _)) _ _ _); k_dflt (refine endT (by k_asm) (by k_mem) (by exact fmlo (by decide)) (by exact fm3) ?_; intro vT tT hT hTs; (try dsimp only)))) | ((with_reducible show wpAny _ _ (subscriptTail _ _ (Value.ref _) _) _ _ _); (k_here; (with_reducible show wpAny _ _ (subscriptTail _ _ (Value.ref _) (Value.int _ _)) _ _ _); k_dflt (refine signT (by k_asm) (by k_mem) (by exact fmlo (by decide)) (by exact fm19) ?_; intro vT tT hT hTs; (try dsimp only)))) | ((with_reducible show wpAny _ _ (call (Value.builtin "list.append") _ _) _ _ _); (k_here; (with_reducible show wpAny _ _ (call (Value.builtin _) [Value.ref _, _]) _ _ _); k_dflt (refine append_K (by k_asm) (by k_asm) (by k_upd) ?_ (by exact Nat.le_of_ble_eq_true rfl); k_whole); intro h' F' N'; (try k_sweep))) | ((with_reducible show wpAny _ _ (exec (Stmt.For (PySem.Expr.Name _ _) (PySem.Expr.Call _ _ _ _) _ _ _) _) _ _ _); (k_here; (rename Fr _ _ _ _ => lF'); (with_unfolding_all refine' For_turns lF' ?_; k_whole))) | ((with_reducible show wpAny _ _ (call (Value.builtin "str.split") _ _) _ _ _); (k_here; k_dflt (refine splitT (by k_asm) (by k_asm) (by assumption) (by assumption) (by assumption) (by assumption) (by assumption) (by assumption) (by assumption) (by assumption) (by assumption) (by assumption) (by assumption) (by assumption) ?_; intro D' h' k' t0' t1' t2' t3' F' N' l1; (try k_lt l1); (try k_sweep)))) | ((with_reducible show wpAny _ _ (binaryOp Operator.Add (Value.str _ _) (Value.str _ _)) _ _ _); (k_here; k_dflt (refine addT (by omega) (by omega) ?_; intro vT tT kT hT hTs; (try dsimp only)))) | ((with_reducible show wpAny _ _ (binaryOp Operator.Add (Value.ref _) (Value.ref _)) _ _ _); (k_here; (with_reducible rename CarriedAll _ _ => hc9); k_dflt ((have hc8 := signs18 hc9); clear hc9; (obtain ⟨_, _, _, _, _, _, _, _, _, _, _, _, _, _, _, _, _, _, e9⟩ := hc8); subst e9))) | ((with_reducible show wpAny _ _ (call (Value.builtin "list.append") _ _) _ _ _); (k_here; (with_reducible show wpAny _ _ (call (Value.builtin _) [Value.ref _, _]) _ _ _); k_dflt (refine append_K (by k_asm) (by k_asm) (by k_upd) ?_ (by first | exact Nat.le_of_ble_eq_true rfl | assumption); k_whole); intro h' F' N'; (try k_sweep))) | ((with_reducible show wpAny _ _ (call (Value.ref _) _ _) _ _ _); (k_here; (with_reducible show wpAny _ _ (call (Value.ref 62) [Value.int _ _, Value.int _ _] _) _ _ _); k_dflt (refine ge_law (by first | exact rfl | assumption) (by first | assumption | exact rfl) (by first | assumption | exact rfl) (by k_asm) (by k_asm) (by k_asm) (by k_asm) (by k_asm) (by first | k_room | assumption) ?_; intro hO' tkO FO NO; (try dsimp only); (try k_sweep)))) | ((with_reducible show wpAny _ _ (call (Value.ref _) _ _) _ _ _); (k_here; (with_reducible show wpAny _ _ (call (Value.ref 76) [Value.int _ _, Value.int _ _] _) _ _ _); k_dflt (refine sub_law (by first | exact rfl | assumption) (by first | assumption | exact rfl) (by first | assumption | exact rfl) (by k_asm) (by k_asm) (by k_asm) (by k_asm) (by k_asm) (by first | k_room | assumption) ?_; intro hO' tkO tO FO NO; (try dsimp only); (try k_sweep)))) | ((with_reducible show wpAny _ _ (call (Value.ref _) _ _) _ _ _); (k_here; (with_reducible show wpAny _ _ (call (Value.ref 69) [Value.int _ _, Value.int _ _] _) _ _ _); k_dflt (refine add_law (by first | exact rfl | assumption) (by first | assumption | exact rfl) (by first | assumption | exact rfl) (by k_asm) (by k_asm) (by k_asm) (by k_asm) (by k_asm) (by first | k_room | assumption) ?_; intro hO' tkO tO FO NO; (try dsimp only); (try k_sweep)))) | ((with_reducible show wpAny _ _ (exec (Stmt.For (PySem.Expr.Tuple _ _ _) (PySem.Expr.Call _ _ _ _) _ _ _) _) _ _ _); (k_here; (rename Fr _ _ _ _ => lF'); (with_unfolding_all refine' For_turns lF' ?_; k_whole))) | ((with_reducible show wpAny _ _ (exec (Stmt.For (PySem.Expr.Name _ _) (PySem.Expr.Subscript _ _ _) _ _ _) _) _ _ _); (k_here; (rename Fr _ _ _ _ => lF'); (with_unfolding_all refine For_invVF lF' (by exact rfl) (by exact rfl) ?_; k_whole))) | ((with_reducible show wpAny _ _ (compareOp CmpOp.Gt _ (Value.int _ _)) _ _ _); (k_here; (with_reducible rename PyProof.V.Flat _ _ => hv9); k_dflt ((have hv8 := look_is (by decide +kernel) hv9); clear hv9; (obtain ⟨tv9, ev9⟩ := hv8); subst ev9))) | ((with_reducible show wpAny _ _ (execs (List.cons _ _) _) _ _ _); ((try k_fold); (conv => arg @7; dsimp only); (try k_gentoks); (with_reducible refine wpAny_execs_cons ?_); (try dsimp only); (try ((with_reducible rename Fr _ _ _ _ => fF'); (refine' (let mk' : Str → Option Value := _; have fF1' : Fr _ _ _ mk' := fF'; ?_)); clear fF')); (try ((with_reducible rename News _ _ _ _ => fN'); (refine' (let nk' : List (Addr × Obj) := _; have fN1' : News _ _ _ nk' := fN'; ?_)); clear fN')))) | ((with_reducible show wpAny _ _ (call (Value.builtin "sum") _ _) _ _ _); (k_here; (with_reducible rename MarkJ => mJ'); k_dflt (refine sumE (by exact rfl) (by k_asm) (by k_asm) (by k_mem) (by exact IntsAre.cons _ _ (IntsAre.cons _ _ (IntsAre.nil))) ?_; intro hS' tkS' tS' FS' NS'; (try dsimp only); (try k_sweep)))) | ((with_reducible show wpAny _ _ (eval (PySem.Expr.ListComp _ _ _ _) _) _ _ _); (k_here; (with_reducible rename MarkJ => mJ'); k_dflt (refine ListComp_X (F₀ := by k_asm) (by with_unfolding_all rfl) (by decide) (by rfl) (by decide) (by rfl) ?_))) | ((with_reducible show wpAny _ _ (call (Value.builtin "re.Pattern.sub") _ _) _ _ _); (k_here; first | (refine subK1 (by k_asm) (by k_asm) (by exact pat36 (Frag.In.keeps (by k_asm) (Fr.keep (by k_asm)))) (by exact sub2_le (by omega)) ?_) | (refine subK2 (by k_asm) (by k_asm) (by exact pat41 (Frag.In.keeps (by k_asm) (Fr.keep (by k_asm)))) (by omega) ?_); intro h' tk' t' F' N')) | ((with_reducible show wpAny _ _ (getMethod (Value.ref _) _ _) _ _ _); (k_here; (with_reducible show wpAny _ _ (getMethod (Value.ref _) (Str.ofString "sub") _) _ _ _); first | refine getSub (pat36 (Frag.In.keeps (by k_asm) (Fr.keep (by k_asm)))) ?_ | refine getSub (pat41 (Frag.In.keeps (by k_asm) (Fr.keep (by k_asm)))) ?_)) | ((with_reducible show LCg.FinE _ _ _ _ _ _ _); ((unfold LCg.FinE); intro D' h' tk' F' N' o1'; (try simp only [List.nil_append, List.cons_append] at N'); (try dsimp only))) | ((with_reducible show LCg.CompRest _ _ _ _ _ _ _ _ _ _ _ _ _ _ _ _ _ _ _); (with_unfolding_all first | (refine LCg.CompRest.succ ?_; intro v' I' oI' C' oC' D' m' h' tk' E' hv' hC' hx' F' N' off' ne'; (first | lcg_open hv' | (obtain ⟨t9', hv9'⟩ := hv'; subst hv9'))) | refine LCg.CompRest.zero ?_)) | ((with_reducible show LCg.CompEnd _ _ _ _ _ _ _ _ _ _ _ _ _ _); (k_dflt (refine compSame (by k_asm) (by k_asm) (by assumption) (by first | exact True.intro | exact Or.inr ⟨_, by k_mem, rfl, _, rfl⟩) ?_))) | ((with_reducible show SrcX _ _ _ _ _ _ _ _ _ _ _ _ _ _ _); (k_here; k_dflt (first | (refine dotsX (by rfl) (by k_asm) (by k_asm) (by assumption) ?_; intro g') | (refine tupleX (by rfl) (by k_asm) (by k_asm) (by k_mem) (by first | size_fits | exact Nat.le_of_ble_eq_true rfl) ?_; intro g'; lcg_lit)))) | ((with_reducible show LCg.CompEnd _ _ _ _ _ _ _ _ _ _ _ _ _ _); (k_dflt lcg_end)) | ((with_reducible show LCg.FinE _ _ _ _ _ _ _); ((unfold LCg.FinE); intro D' h' tk' F' N' o1'; (try simp only [LCg.Off1, and_true] at o1'); (try simp only [List.nil_append, List.cons_append] at N'); (repeat (obtain ⟨_, o1'⟩ := o1')); (try dsimp only))) | ((with_reducible show LCg.CompRest _ _ _ _ _ _ _ _ _ _ _ _ _ _ _ _ _ _ _); (with_unfolding_all first | (refine LCg.CompRest.succ ?_; intro v' I' oI' C' oC' D' m' h' tk' E' hv' hC' hx' F' N' off' ne'; (first | lcg_open hv' | (obtain ⟨t9', hv9'⟩ := hv'; subst hv9')); (try simp only [LCg.Off3, and_true] at off'); (obtain ⟨_, _, _⟩ := ne'); (repeat (obtain ⟨⟨_, _, _⟩, off'⟩ := off')); (try obtain ⟨_, _, _⟩ := off')) | refine LCg.CompRest.zero ?_)) | ((with_reducible show LCg.CompSrc _ _ _ _ _ _ _ _ _ _ _ _ _ _); (k_here; k_dflt (refine LCg.CompSrc.range (by rfl) (by k_asm) (by k_asm) (by assumption) (by first | decide | rfl) (by first | rfl | decide) (by first | size_fits | exact Nat.le_of_ble_eq_true rfl) ?_; intro g'; lcg_lit))) | walk1 | (dsimp only))))) (by (intro hcJ QJ hQJ; have mJ := MarkJ.mk; (have hdJ := dots_of (by simpa using hcJ)); (repeat' (first | (refine hQJ _ _ _ (by assumption) (by first | assumption | (rename News _ _ _ _ => nJ; exact subJ nJ (by lcg_sub)))) | (k_unfold; (try dsimp only)) | ((with_reducible show wpAny _ _ (getMethod (Value.ref _) (Str.ofString "get") _) _ _ _); with_reducible ((first | (rename TabAt _ _ _ _ _ => dictLook) | (rename Obj.IsDictOf _ _ _ => dictLook)); refine getMethod_strTab_get (by first | assumption | exact TabAt.ofFr (by assumption) (by assumption) | exact TabAt.ofNews (by assumption) (by first | exact .head _ | exact .tail _ (.head _) | exact .tail _ (.tail _ (.head _))) (by assumption) (by assumption) (by assumption) | exact TabAt.ofNews (News.right (by assumption)) (by first | exact .head _ | exact .tail _ (.head _) | exact .tail _ (.tail _ (.head _))) (by assumption) (by assumption) (by assumption)) ?_)) | ((with_reducible show wpAny _ _ (call (Value.builtin "dict.get") [Value.ref _, Value.str _ _, _]) _ _ _); with_reducible ((first | (rename TabAt _ _ _ _ _ => dictLook) | (rename Obj.IsDictOf _ _ _ => dictLook)); refine call_get2_strTab (by first | assumption | exact TabAt.ofFr (by assumption) (by assumption) | exact TabAt.ofNews (by assumption) (by first | exact .head _ | exact .tail _ (.head _) | exact .tail _ (.tail _ (.head _))) (by assumption) (by assumption) (by assumption) | exact TabAt.ofNews (News.right (by assumption)) (by first | exact .head _ | exact .tail _ (.head _) | exact .tail _ (.tail _ (.head _))) (by assumption) (by assumption) (by assumption)) (by first | exact PyProof.V.Flat.int _ _ | assumption) ?_; intro _ hv9; dict_open hv9)) | ((with_reducible show wpAny _ _ (pyIter (Value.ref _)) (fun it s₂ => LoopAtV _ _ _ _ _ _ _ _ _ it s₂) _ _); with_reducible (l_hasStore; k_listUnr)) | ((with_reducible show wpAny _ _ (subscriptTail _ _ (Value.ref _) _) _ _ _); (k_here; (with_reducible show wpAny _ _ (subscriptTail _ _ (Value.ref _) (Value.int _ _)) _ _ _); k_dflt (refine endT (by k_asm) (by k_mem) (by exact fmlo (by decide)) (by exact fm3) ?_; intro vT tT hT hTs; (try dsimp only)))) | ((with_reducible show wpAny _ _ (subscriptTail _ _ (Value.ref _) _) _ _ _); (k_here; (with_reducible show wpAny _ _ (subscriptTail _ _ (Value.ref _) (Value.int _ _)) _ _ _); k_dflt (refine signT (by k_asm) (by k_mem) (by exact fmlo (by decide)) (by exact fm19) ?_; intro vT tT hT hTs; (try dsimp only)))) | ((with_reducible show wpAny _ _ (call (Value.builtin "list.append") _ _) _ _ _); (k_here; (with_reducible show wpAny _ _ (call (Value.builtin _) [Value.ref _, _]) _ _ _); k_dflt (refine append_K (by k_asm) (by k_asm) (by k_upd) ?_ (by exact Nat.le_of_ble_eq_true rfl); k_whole); intro h' F' N'; (try k_sweep))) | ((with_reducible show wpAny _ _ (exec (Stmt.For (PySem.Expr.Name _ _) (PySem.Expr.Call _ _ _ _) _ _ _) _) _ _ _); (k_here; (rename Fr _ _ _ _ => lF'); (with_unfolding_all refine' For_turns lF' ?_; k_whole))) | ((with_reducible show wpAny _ _ (call (Value.builtin "str.split") _ _) _ _ _); (k_here; k_dflt (refine splitT (by k_asm) (by k_asm) (by assumption) (by assumption) (by assumption) (by assumption) (by assumption) (by assumption) (by assumption) (by assumption) (by assumption) (by assumption) (by assumption) (by assumption) ?_; intro D' h' k' t0' t1' t2' t3' F' N' l1; (try k_lt l1); (try k_sweep)))) | ((with_reducible show wpAny _ _ (binaryOp Operator.Add (Value.str _ _) (Value.str _ _)) _ _ _); (k_here; k_dflt (refine addT (by omega) (by omega) ?_; intro vT tT kT hT hTs; (try dsimp only)))) | ((with_reducible show wpAny _ _ (binaryOp Operator.Add (Value.ref _) (Value.ref _)) _ _ _); (k_here; (with_reducible rename CarriedAll _ _ => hc9); k_dflt ((have hc8 := signs18 hc9); clear hc9; (obtain ⟨_, _, _, _, _, _, _, _, _, _, _, _, _, _, _, _, _, _, e9⟩ := hc8); subst e9))) | ((with_reducible show wpAny _ _ (call (Value.builtin "list.append") _ _) _ _ _); (k_here; (with_reducible show wpAny _ _ (call (Value.builtin _) [Value.ref _, _]) _ _ _); k_dflt (refine append_K (by k_asm) (by k_asm) (by k_upd) ?_ (by first | exact Nat.le_of_ble_eq_true rfl | assumption); k_whole); intro h' F' N'; (try k_sweep))) | ((with_reducible show wpAny _ _ (call (Value.ref _) _ _) _ _ _); (k_here; (with_reducible show wpAny _ _ (call (Value.ref 62) [Value.int _ _, Value.int _ _] _) _ _ _); k_dflt (refine ge_law (by first | exact rfl | assumption) (by first | assumption | exact rfl) (by first | assumption | exact rfl) (by k_asm) (by k_asm) (by k_asm) (by k_asm) (by k_asm) (by first | k_room | assumption) ?_; intro hO' tkO FO NO; (try dsimp only); (try k_sweep)))) | ((with_reducible show wpAny _ _ (call (Value.ref _) _ _) _ _ _); (k_here; (with_reducible show wpAny _ _ (call (Value.ref 76) [Value.int _ _, Value.int _ _] _) _ _ _); k_dflt (refine sub_law (by first | exact rfl | assumption) (by first | assumption | exact rfl) (by first | assumption | exact rfl) (by k_asm) (by k_asm) (by k_asm) (by k_asm) (by k_asm) (by first | k_room | assumption) ?_; intro hO' tkO tO FO NO; (try dsimp only); (try k_sweep)))) | ((with_reducible show wpAny _ _ (call (Value.ref _) _ _) _ _ _); (k_here; (with_reducible show wpAny _ _ (call (Value.ref 69) [Value.int _ _, Value.int _ _] _) _ _ _); k_dflt (refine add_law (by first | exact rfl | assumption) (by first | assumption | exact rfl) (by first | assumption | exact rfl) (by k_asm) (by k_asm) (by k_asm) (by k_asm) (by k_asm) (by first | k_room | assumption) ?_; intro hO' tkO tO FO NO; (try dsimp only); (try k_sweep)))) | ((with_reducible show wpAny _ _ (exec (Stmt.For (PySem.Expr.Tuple _ _ _) (PySem.Expr.Call _ _ _ _) _ _ _) _) _ _ _); (k_here; (rename Fr _ _ _ _ => lF'); (with_unfolding_all refine' For_turns lF' ?_; k_whole))) | ((with_reducible show wpAny _ _ (exec (Stmt.For (PySem.Expr.Name _ _) (PySem.Expr.Subscript _ _ _) _ _ _) _) _ _ _); (k_here; (rename Fr _ _ _ _ => lF'); (with_unfolding_all refine For_invVF lF' (by exact rfl) (by exact rfl) ?_; k_whole))) | ((with_reducible show wpAny _ _ (compareOp CmpOp.Gt _ (Value.int _ _)) _ _ _); (k_here; (with_reducible rename PyProof.V.Flat _ _ => hv9); k_dflt ((have hv8 := look_is (by decide +kernel) hv9); clear hv9; (obtain ⟨tv9, ev9⟩ := hv8); subst ev9))) | ((with_reducible show wpAny _ _ (execs (List.cons _ _) _) _ _ _); ((try k_fold); (conv => arg @7; dsimp only); (try k_gentoks); (with_reducible refine wpAny_execs_cons ?_); (try dsimp only); (try ((with_reducible rename Fr _ _ _ _ => fF'); (refine' (let mk' : Str → Option Value := _; have fF1' : Fr _ _ _ mk' := fF'; ?_)); clear fF')); (try ((with_reducible rename News _ _ _ _ => fN'); (refine' (let nk' : List (Addr × Obj) := _; have fN1' : News _ _ _ nk' := fN'; ?_)); clear fN')))) | ((with_reducible show wpAny _ _ (call (Value.builtin "sum") _ _) _ _ _); (k_here; (with_reducible rename MarkJ => mJ'); k_dflt (refine sumE (by exact rfl) (by k_asm) (by k_asm) (by k_mem) (by exact IntsAre.cons _ _ (IntsAre.cons _ _ (IntsAre.nil))) ?_; intro hS' tkS' tS' FS' NS'; (try dsimp only); (try k_sweep)))) | ((with_reducible show wpAny _ _ (eval (PySem.Expr.ListComp _ _ _ _) _) _ _ _); (k_here; (with_reducible rename MarkJ => mJ'); k_dflt (refine ListComp_X (F₀ := by k_asm) (by with_unfolding_all rfl) (by decide) (by rfl) (by decide) (by rfl) ?_))) | ((with_reducible show wpAny _ _ (call (Value.builtin "re.Pattern.sub") _ _) _ _ _); (k_here; first | (refine subK1 (by k_asm) (by k_asm) (by exact pat36 (Frag.In.keeps (by k_asm) (Fr.keep (by k_asm)))) (by exact sub2_le (by omega)) ?_) | (refine subK2 (by k_asm) (by k_asm) (by exact pat41 (Frag.In.keeps (by k_asm) (Fr.keep (by k_asm)))) (by omega) ?_); intro h' tk' t' F' N')) | ((with_reducible show wpAny _ _ (getMethod (Value.ref _) _ _) _ _ _); (k_here; (with_reducible show wpAny _ _ (getMethod (Value.ref _) (Str.ofString "sub") _) _ _ _); first | refine getSub (pat36 (Frag.In.keeps (by k_asm) (Fr.keep (by k_asm)))) ?_ | refine getSub (pat41 (Frag.In.keeps (by k_asm) (Fr.keep (by k_asm)))) ?_)) | ((with_reducible show LCg.FinE _ _ _ _ _ _ _); ((unfold LCg.FinE); intro D' h' tk' F' N' o1'; (try simp only [List.nil_append, List.cons_append] at N'); (try dsimp only))) | ((with_reducible show LCg.CompRest _ _ _ _ _ _ _ _ _ _ _ _ _ _ _ _ _ _ _); (with_unfolding_all first | (refine LCg.CompRest.succ ?_; intro v' I' oI' C' oC' D' m' h' tk' E' hv' hC' hx' F' N' off' ne'; (first | lcg_open hv' | (obtain ⟨t9', hv9'⟩ := hv'; subst hv9'))) | refine LCg.CompRest.zero ?_)) | ((with_reducible show LCg.CompEnd _ _ _ _ _ _ _ _ _ _ _ _ _ _); (k_dflt (refine compSame (by k_asm) (by k_asm) (by assumption) (by first | exact True.intro | exact Or.inr ⟨_, by k_mem, rfl, _, rfl⟩) ?_))) | ((with_reducible show SrcX _ _ _ _ _ _ _ _ _ _ _ _ _ _ _); (k_here; k_dflt (first | (refine dotsX (by rfl) (by k_asm) (by k_asm) (by assumption) ?_; intro g') | (refine tupleX (by rfl) (by k_asm) (by k_asm) (by k_mem) (by first | size_fits | exact Nat.le_of_ble_eq_true rfl) ?_; intro g'; lcg_lit)))) | ((with_reducible show LCg.CompEnd _ _ _ _ _ _ _ _ _ _ _ _ _ _); (k_dflt lcg_end)) | ((with_reducible show LCg.FinE _ _ _ _ _ _ _); ((unfold LCg.FinE); intro D' h' tk' F' N' o1'; (try simp only [LCg.Off1, and_true] at o1'); (try simp only [List.nil_append, List.cons_append] at N'); (repeat (obtain ⟨_, o1'⟩ := o1')); (try dsimp only))) | ((with_reducible show LCg.CompRest _ _ _ _ _ _ _ _ _ _ _ _ _ _ _ _ _ _ _); (with_unfolding_all first | (refine LCg.CompRest.succ ?_; intro v' I' oI' C' oC' D' m' h' tk' E' hv' hC' hx' F' N' off' ne'; (first | lcg_open hv' | (obtain ⟨t9', hv9'⟩ := hv'; subst hv9')); (try simp only [LCg.Off3, and_true] at off'); (obtain ⟨_, _, _⟩ := ne'); (repeat (obtain ⟨⟨_, _, _⟩, off'⟩ := off')); (try obtain ⟨_, _, _⟩ := off')) | refine LCg.CompRest.zero ?_)) | ((with_reducible show LCg.CompSrc _ _ _ _ _ _ _ _ _ _ _ _ _ _); (k_here; k_dflt (refine LCg.CompSrc.range (by rfl) (by k_asm) (by k_asm) (by assumption) (by first | decide | rfl) (by first | rfl | decide) (by first | size_fits | exact Nat.le_of_ble_eq_true rfl) ?_; intro g'; lcg_lit))) | walk1 | (dsimp only))))) ?_); intro vJ tJ hJ' tkJ eJ FJ NJ; (try dsimp only); (try k_sweep)))) | ((with_reducible show SrcX _ _ _ _ _ _ _ _ _ _ _ _ _ _ _); (k_here; k_dflt (first | (refine dotsX (by rfl) (by k_asm) (by k_asm) (by assumption) ?_; intro g') | (refine tupleX (by rfl) (by k_asm) (by k_asm) (by k_mem) (by first | size_fits | exact Nat.le_of_ble_eq_true rfl) ?_; intro g'; lcg_lit)))) | ((with_reducible show LCg.CompEnd _ _ _ _ _ _ _ _ _ _ _ _ _ _); (k_dflt lcg_end)) | ((with_reducible show LCg.FinE _ _ _ _ _ _ _); ((unfold LCg.FinE); intro D' h' tk' F' N' o1'; (try simp only [LCg.Off1, and_true] at o1'); (try simp only [List.nil_append, List.cons_append] at N'); (repeat (obtain ⟨_, o1'⟩ := o1')); (try dsimp only))) | ((with_reducible show LCg.CompRest _ _ _ _ _ _ _ _ _ _ _ _ _ _ _ _ _ _ _); (with_unfolding_all first | (refine LCg.CompRest.succ ?_; intro v' I' oI' C' oC' D' m' h' tk' E' hv' hC' hx' F' N' off' ne'; (first | lcg_open hv' | (obtain ⟨t9', hv9'⟩ := hv'; subst hv9')); (try simp only [LCg.Off3, and_true] at off'); (obtain ⟨_, _, _⟩ := ne'); (repeat (obtain ⟨⟨_, _, _⟩, off'⟩ := off')); (try obtain ⟨_, _, _⟩ := off')) | refine LCg.CompRest.zero ?_)) | ((with_reducible show LCg.CompSrc _ _ _ _ _ _ _ _ _ _ _ _ _ _); (k_here; k_dflt (refine LCg.CompSrc.range (by rfl) (by k_asm) (by k_asm) (by assumption) (by first | decide | rfl) (by first | rfl | decide) (by first | size_fits | exact Nat.le_of_ble_eq_true rfl) ?_; intro g'; lcg_lit))) | walk1 | (dsimp only) | (leave1; walk_say "STEP leave1"; try dsimp only))
  (try dsimp only)
  rename News _ _ _ _ => kN9
  rename Fr _ _ _ _ => kF9
  revert kF9 kN9
  rename News _ _ _ _ => gN9
  rename Fr _ _ _ _ => gF9
  intro kF9 kN9
  rename Ground _ _ _ => hG9
  refine' hQ _ _ _ _ _ _ _ _ _ _ kF9 (keptOf hG9 N gF9 kN9 ?hsub) ?hd ?hf ?e0 ?e1 ?e2
  case hsub => lcg_sub
  case hd => exact (kN9 (_, _) (by k_mem)).1
  case hf => exact freshOf hG9 gN9 (by k_mem) (by simp only [List.map_cons, List.map_nil, List.mem_cons, List.not_mem_nil, or_false]; k_ne)
  case e0 => exact work_is ⟨by rename Eqv _ (if decide (0 < whole n0) = true then _ else _) => q9; rw [q9.h]; simp only [decide_eq_true_eq]⟩
  case e1 => exact work_is ⟨by rename Eqv _ (if decide (0 < whole n1) = true then _ else _) => q9; rw [q9.h]; simp only [decide_eq_true_eq]⟩
  case e2 => exact work_is ⟨by rename Eqv _ (if decide (0 < whole n2) = true then _ else _) => q9; rw [q9.h]; simp only [decide_eq_true_eq]⟩
theorem comes_law (w : World) (mean mg mb) (env : Env) (base h₀ : Heap) (L : Addr) (m) (s : Shared) (Q E : Value → Shared → Prop) (ln ls : Addr) (en es : Nat)
   (n3 n4 n5 n6 n7 s0 s1 s2 s3 s4 : Int) (t3 t4 t5 t6 t7 u0 u1 u2 u3 u4 : Tok)
   (H : Here w mean mg mb env base h₀ L s.heap m [(ln, listOf #[.int n3 t3, .int n4 t4, .int n5 t5, .int n6 t6, .int n7 t7] en), (ls, listOf #[.int s0 u0, .int s1 u1, .int s2 u2, .int s3 u3, .int s4 u4] es)])
   (hn3 : 0 ≤ n3 ∧ n3 < 1000000)
   (hn4 : 0 ≤ n4 ∧ n4 < 1000000) (hn5 : 0 ≤ n5 ∧ n5 < 1000000) (hn6 : 0 ≤ n6 ∧ n6 < 1000000) (hn7 : 0 ≤ n7 ∧ n7 < 1000000)
   (hs0 : 1 ≤ s0 ∧ s0 ≤ 3) (hs1 : 1 ≤ s1 ∧ s1 ≤ 3) (hs2 : 1 ≤ s2 ∧ s2 ≤ 3) (hs3 : 1 ≤ s3 ∧ s3 ≤ 3) (hs4 : 1 ≤ s4 ∧ s4 ≤ 3)
   (hQ : ∀ (D : Addr) (h' : Heap) (tk k : Nat) (d0 d1 d2 d3 d4 : Tok) (y0 y1 y2 y3 y4 : Int), Fr h₀ L h' m → Kept s.heap h' → h'.get? D = some (listOf #[.int y0 d0, .int y1 d1, .int y2 d2, .int y3 d3, .int y4 d4] k) → s.heap.get? D = none →
     y0 = s0 * ((n3 % 5 + if 0 < n3 % 5 then 1 else 0) + n3 / 5 % 5 + 2) → y1 = y0 + s1 * ((n4 % 5 + if 0 < n4 % 5 then 1 else 0) + n4 / 5 % 5 + 2) → y2 = y1 + s2 * ((n5 % 5 + if 0 < n5 % 5 then 1 else 0) + n5 / 5 % 5 + 2) → y3 = y2 + s3 * ((n6 % 5 + if 0 < n6 % 5 then 1 else 0) + n6 / 5 % 5 + 2) → y4 = y3 + s4 * ((n7 % 5 + if 0 < n7 % 5 then 1 else 0) + n7 / 5 % 5 + 2) → Q (.ref D) { s with heap := h', toks := tk })
   : wpAny (model PySem.Challenge.rw_to0012_01.row.prog w) (callerA.deeper env) (call (.ref 101) [.ref ln, .ref ls]) Q E s := by
  w_top off
  have kf : ((hd.heap_39 w.params).In h₀ ∧ PySem.Challenge.rw_to0012_01.row.prog = PySem.Challenge.rw_to0012_01.row.prog → True) := by k_fill; exact fun _ => trivial
  clear kf
  have e9 := fnBody_eq (w := w) (a := 101) (by k_is)
  obtain ⟨B, F, X, N, T, GL, ⟨a₁, o₁, M⟩, hf, hk⟩ := H
  refine wpAny_call ?_
  k_dflt (refine' enterG ?k1 ?k2 ?k3 ?k4 ?k5 ?kA ?kF ?kK ?k6 ?k7 ?k8 ?k9 ?kB ?_ ?c2 ?c3 ?c4 ?c5; (case kA => exact rfl); (case kF => assumption); (case kK => assumption); (case k1 => k_asm); (case k2 => k_asm); (case k3 => k_asm); (case k4 => k_asm); (case k5 => k_asm); (case k6 => k_is); (case k7 => k_is); (case k8 => k_room); (case k9 => first | exact BindsTo.of_eq rfl | exact binds_K (by k_in) rfl (by k_is) rfl rfl rfl | fail "k_enter: no rule for these arguments"); (case c5 => decide); (case kB => exact locs rfl); (case c2 => exact rfl); (case c3 => exact rfl); (case c4 => exact rfl); k_whole; intro g' L' h' hG FG' F' N' B' X' T' l1; (try k_lt l1); (try dsimp only); (try k_lift B'); (try k_fold))
  repeat' (first | (k_unfold; (try dsimp only)) | (k_end; wrow_close) | ((with_reducible show wpAny _ _ (execs (List.cons (Stmt.Assign (List.cons (PySem.Expr.Name (Str.ofString "row") _) _) _ _) _) _) _ _ _); k_dflt (refine comes_turn (congrArg (fun b => forBody (stNth b 1)) e9.1) e9.2 (by assumption) (by k_asm) (by k_asm) (by k_asm) (by assumption) ⟨_, _, by assumption⟩ (by exact rfl) (by exact rfl) (by exact rfl) (by exact rfl) N9 V9 (by assumption) (by assumption) (by exact Nat.le_of_ble_eq_true rfl) ?_); intro h9 tk9 v9 t9 tr9 rv9 hv9 F8 N8; refine hQ9 _ _ _ _ F8 N8 ?_) | ((with_reducible show ItemsRest _ _ _ _ _ _ _ _ _ _ _ _ _ _ _); (fail_if_success (with_reducible rename UpdF _ _ _ _ => uU)); k_dflt (refine startM (Str.ofString "comes") (by exact rfl) (by k_updF) (by k_subL) (by k_all) (offOf (by assumption) (by k_dflt (repeat (first | exact True.intro | refine And.intro (by first | exact Nat.le_refl _ | exact Nat.le_add_right _ _) ?_)))) ?_); intro uU uK uD uO) | ((with_reducible show ItemsRest _ _ _ _ _ _ _ _ _ _ _ _ _ _ _); with_unfolding_all (first | refine pair_turn (by exact rfl) (by exact rfl) (by exact rfl) (by exact rfl) (by exact rfl) uU uK uD uO ?_ | refine pair_turn (by exact rfl) (by exact rfl) (by exact rfl) (by exact rfl) (by exact rfl) (updAgain uU _) (updKeep uU _ uK uD) uD (updOff uU _ uO) ?_); intro its9 h9 tk9 t9 F9 N9 V9 Q9 hQ9; (refine (let mk9 : Str → Option Value := _; have F9' : Fr _ _ _ mk9 := F9; ?_)); clear F9; (try dsimp only)) | ((with_reducible show wpAny _ _ (exec (Stmt.For (PySem.Expr.Tuple _ _ _) (PySem.Expr.Call _ _ _ _) _ _ _) _) _ _ _); (k_here; (rename Fr _ _ _ _ => lF'); (with_unfolding_all refine' For_turns lF' ?_; k_whole))) | ((with_reducible show wpAny _ _ (call (Value.builtin "list.append") _ _) _ _ _); (k_here; (with_reducible show wpAny _ _ (call (Value.builtin _) [Value.ref _, _]) _ _ _); k_dflt (refine append_K (by k_asm) (by k_asm) (by k_upd) ?_ (by exact Nat.le_of_ble_eq_true rfl); k_whole); intro h' F' N'; (try k_sweep))) | ((with_reducible show wpAny _ _ (exec (Stmt.For (PySem.Expr.Name _ _) (PySem.Expr.Call _ _ _ _) _ _ _) _) _ _ _); (k_here; (rename Fr _ _ _ _ => lF'); (with_unfolding_all refine' For_turns lF' ?_; k_whole))) | ((with_reducible show wpAny _ _ (execs (List.cons _ _) _) _ _ _); ((try k_fold); (conv => arg @7; dsimp only); (try k_gentoks); (with_reducible refine wpAny_execs_cons ?_); (try dsimp only); (try ((with_reducible rename Fr _ _ _ _ => fF'); (refine' (let mk' : Str → Option Value := _; have fF1' : Fr _ _ _ mk' := fF'; ?_)); clear fF')); (try ((with_reducible rename News _ _ _ _ => fN'); (refine' (let nk' : List (Addr × Obj) := _; have fN1' : News _ _ _ nk' := fN'; ?_)); clear fN')))) | ((with_reducible show LCg.FinE _ _ _ _ _ _ _); ((unfold LCg.FinE); intro D' h' tk' F' N' o1'; (try simp only [List.nil_append, List.cons_append] at N'); (try dsimp only))) | ((with_reducible show LCg.CompRest _ _ _ _ _ _ _ _ _ _ _ _ _ _ _ _ _ _ _); (with_unfolding_all first | (refine LCg.CompRest.succ ?_; intro v' I' oI' C' oC' D' m' h' tk' E' hv' hC' hx' F' N' off' ne'; (first | lcg_open hv' | (obtain ⟨t9', hv9'⟩ := hv'; subst hv9'))) | refine LCg.CompRest.zero ?_)) | ((with_reducible show LCg.CompEnd _ _ _ _ _ _ _ _ _ _ _ _ _ _); (k_dflt (refine compSame (by k_asm) (by k_asm) (by assumption) (by first | exact True.intro | exact Or.inr ⟨_, by k_mem, rfl, _, rfl⟩) ?_))) | walk1 | (dsimp only) | (leave1; walk_say "STEP leave1"; try dsimp only))
  (try dsimp only)
  rename News _ _ _ _ => kN9
  rename Fr _ _ _ _ => kF9
  revert kF9 kN9
  rename News _ _ _ _ => gN9
  rename Fr _ _ _ _ => gF9
  intro kF9 kN9
  rename Ground _ _ _ => hG9
  refine' hQ _ _ _ _ _ _ _ _ _ _ _ _ _ _ kF9 (keptOf hG9 N gF9 kN9 ?hsub) ?hd ?hf ?e0 ?e1 ?e2 ?e3 ?e4
  case hsub => lcg_sub
  case hd => exact (kN9 (_, _) (by k_mem)).1
  case hf => exact freshOf hG9 gN9 (by k_mem) (by simp only [List.map_cons, List.map_nil, List.mem_cons, List.not_mem_nil, or_false, not_or]; exact ⟨by k_ne, by k_ne⟩)
  case e0 => omega
  case e1 => omega
  case e2 => omega
  case e3 => omega
  case e4 => omega
theorem leaves_law (w : World) (mean mg mb) (env : Env) (base h₀ : Heap) (L : Addr) (m) (s : Shared) (Q E : Value → Shared → Prop) (lc lw lr : Addr) (ec ew er : Nat)
   (c0 c1 c2 c3 c4 w0 w1 w2 r0 r1 : Int) (t0 t1 t2 t3 t4 u0 u1 u2 v0 v1 : Tok)
   (H : Here w mean mg mb env base h₀ L s.heap m [(lc, listOf #[.int c0 t0, .int c1 t1, .int c2 t2, .int c3 t3, .int c4 t4] ec), (lw, listOf #[.int w0 u0, .int w1 u1, .int w2 u2] ew), (lr, listOf #[.int r0 v0, .int r1 v1] er)])
   (hr0 : 0 ≤ r0 ∧ r0 ≤ 2) (hr1 : 0 ≤ r1 ∧ r1 ≤ 2)
   (hQ : ∀ (D : Addr) (h' : Heap) (tk k : Nat) (d0 d1 d2 d3 d4 : Tok) (y0 y1 y2 y3 y4 : Int), Fr h₀ L h' m → Kept s.heap h' → h'.get? D = some (listOf #[.int y0 d0, .int y1 d1, .int y2 d2, .int y3 d3, .int y4 d4] k) → s.heap.get? D = none →
     Runs5 c0 c1 c2 c3 c4 w0 w1 w2 y0 y1 y2 y3 y4 → Q (.ref D) { s with heap := h', toks := tk })
   : wpAny (model PySem.Challenge.rw_to0012_01.row.prog w) (callerA.deeper env) (call (.ref 106) [.ref lc, .ref lw, .ref lr]) Q E s := by
  w_top off
  have kf : ((hd.heap_39 w.params).In h₀ ∧ PySem.Challenge.rw_to0012_01.row.prog = PySem.Challenge.rw_to0012_01.row.prog → True) := by k_fill; exact fun _ => trivial
  clear kf
  have e9 := fnBody_eq (w := w) (a := 106) (by k_is)
  obtain ⟨B, F, X, N, T, GL, ⟨a₁, o₁, M⟩, hf, hk⟩ := H
  refine wpAny_call ?_
  k_dflt (refine' enterG ?k1 ?k2 ?k3 ?k4 ?k5 ?kA ?kF ?kK ?k6 ?k7 ?k8 ?k9 ?kB ?_ ?c2 ?c3 ?c4 ?c5; (case kA => exact rfl); (case kF => assumption); (case kK => assumption); (case k1 => k_asm); (case k2 => k_asm); (case k3 => k_asm); (case k4 => k_asm); (case k5 => k_asm); (case k6 => k_is); (case k7 => k_is); (case k8 => k_room); (case k9 => first | exact BindsTo.of_eq rfl | exact binds_K (by k_in) rfl (by k_is) rfl rfl rfl | fail "k_enter: no rule for these arguments"); (case c5 => decide); (case kB => exact locs rfl); (case c2 => exact rfl); (case c3 => exact rfl); (case c4 => exact rfl); k_whole; intro g' L' h' hG FG' F' N' B' X' T' l1; (try k_lt l1); (try dsimp only); (try k_lift B'); (try k_fold))
  repeat' (first | (k_unfold; (try dsimp only)) | (k_end; wrow_close) | ((with_reducible show wpAny _ _ (subscriptTail _ (PySem.Expr.UnaryOp _ _ _) (Value.ref _) (Value.int _ _)) _ _ _); with_reducible kim_at) | ((with_reducible show wpAny _ _ (execs (List.cons (Stmt.If (PySem.Expr.Call (PySem.Expr.Name (Str.ofString "ge") _) _ _ _) _ _ _) _) _) _ _ _); k_dflt (first | refine l_first (congrArg (fun b => forBody (stNth (forBody (stNth b 1)) 1)) e9.1) e9.2 (by assumption) (by k_asm) (by k_asm) (by k_asm) (by assumption) ⟨_, _, by assumption⟩ (by exact rfl) (by exact rfl) (by exact rfl) (by exact rfl) (by exact rfl) (by exact rfl) (by exact rfl) (by rfl) (by decide) N9 V9 (List.mem_append_right _ (by k_mem)) (List.mem_append_right _ (by k_mem)) (by rfl) (by assumption) (by exact Nat.le_of_ble_eq_true rfl) ?_ | refine lt_fl (congrArg (fun b => forBody (stNth (forBody (stNth b 1)) 1)) e9.1) e9.2 (by assumption) (by k_asm) (by k_asm) (by k_asm) (by assumption) ⟨_, _, by assumption⟩ (by exact rfl) (by exact rfl) (by exact rfl) (by exact rfl) (by exact rfl) (by exact rfl) (by exact rfl) (by rfl) (by rfl) N9 V9 (List.mem_append_right _ (by k_mem)) (by exact Nat.le_of_ble_eq_true rfl) ?_ | refine l_last (congrArg (fun b => forBody (stNth (forBody (stNth b 1)) 1)) e9.1) e9.2 (by assumption) (by k_asm) (by k_asm) (by k_asm) (by assumption) ⟨_, _, by assumption⟩ (by exact rfl) (by exact rfl) (by exact rfl) (by exact rfl) (by exact rfl) (by exact rfl) (by exact rfl) (by decide) (by rfl) N9 V9 (List.mem_append_right _ (by k_mem)) (by rfl) (List.mem_append_right _ (by k_mem)) (by rfl) (by exact Nat.le_of_ble_eq_true rfl) ?_ | refine l_mid1 (congrArg (fun b => forBody (stNth (forBody (stNth b 1)) 1)) e9.1) e9.2 (by assumption) (by k_asm) (by k_asm) (by k_asm) (by assumption) ⟨_, _, by assumption⟩ (by exact rfl) (by exact rfl) (by exact rfl) (by exact rfl) (by exact rfl) (by exact rfl) (by exact rfl) (by rfl) (by decide) N9 V9 (List.mem_append_right _ (by k_mem)) (by rfl) (List.mem_append_right _ (by k_mem)) (by rfl) (List.mem_append_right _ (by k_mem)) (by rfl) (by assumption) (by rfl) (List.mem_append_right _ (by k_mem)) (by rfl) (by exact Nat.le_of_ble_eq_true rfl) ?_ | refine l_mid2 (congrArg (fun b => forBody (stNth (forBody (stNth b 1)) 1)) e9.1) e9.2 (by assumption) (by k_asm) (by k_asm) (by k_asm) (by assumption) ⟨_, _, by assumption⟩ (by exact rfl) (by exact rfl) (by exact rfl) (by exact rfl) (by exact rfl) (by exact rfl) (by exact rfl) (by rfl) (by decide) N9 V9 (List.mem_append_right _ (by k_mem)) (by rfl) (List.mem_append_right _ (by k_mem)) (by rfl) (List.mem_append_right _ (by k_mem)) (by rfl) (by assumption) (by rfl) (List.mem_append_right _ (by k_mem)) (by rfl) (by rfl) (List.mem_append_right _ (by k_mem)) (by rfl) (by exact Nat.le_of_ble_eq_true rfl) ?_ | refine l_mid3 (congrArg (fun b => forBody (stNth (forBody (stNth b 1)) 1)) e9.1) e9.2 (by assumption) (by k_asm) (by k_asm) (by k_asm) (by assumption) ⟨_, _, by assumption⟩ (by exact rfl) (by exact rfl) (by exact rfl) (by exact rfl) (by exact rfl) (by exact rfl) (by exact rfl) (by decide) (by decide) N9 V9 (List.mem_append_right _ (by k_mem)) (by rfl) (List.mem_append_right _ (by k_mem)) (by rfl) (List.mem_append_right _ (by k_mem)) (by rfl) (by assumption) (by rfl) (List.mem_append_right _ (by k_mem)) (by rfl) (by rfl) (List.mem_append_right _ (by k_mem)) (by rfl) (by rfl) (List.mem_append_right _ (by k_mem)) (by rfl) (by exact Nat.le_of_ble_eq_true rfl) ?_); intros; (with_reducible rename Fr _ _ _ _ => F8); (with_reducible rename News _ _ _ _ => N8); refine hQ9 _ _ _ _ F8 N8 ?_) | ((with_reducible show ItemsRest _ _ _ _ _ _ (PySem.Expr.Tuple (List.cons (PySem.Expr.Name (Str.ofString "hand") _) _) _ _) _ _ _ _ _ (List.cons _ _) _ _); with_unfolding_all (first | refine pair_turn (by exact rfl) (by exact rfl) (by exact rfl) (by exact rfl) (by exact rfl) (updAgain uU _) (updKeep uU _ uK uD) uD (updOff uU _ uO) ?_ | (k_dflt (refine startM (Str.ofString "row") (by exact rfl) (by k_updF) (by k_subL) (by k_all) (offOf (by assumption) (by k_dflt (repeat (first | exact True.intro | refine And.intro (by first | exact Nat.le_refl _ | exact Nat.le_add_right _ _) ?_)))) ?_); intro uU uK uD uO; refine pair_turn (by exact rfl) (by exact rfl) (by exact rfl) (by exact rfl) (by exact rfl) uU uK uD uO ?_)); intro its9 h9 tk9 t9 F9 N9 V9 Q9 hQ9; (refine (let mk9 : Str → Option Value := _; have F9' : Fr _ _ _ mk9 := F9; ?_)); clear F9; (try dsimp only)) | ((with_reducible show wpAny _ _ (subscriptTail _ _ (Value.ref _) _) _ _ _); (k_here; (with_reducible show wpAny _ _ (subscriptTail _ _ (Value.ref _) (Value.int _ _)) _ _ _); k_dflt (refine itemL (by k_asm) (by k_mem) (by decide) (by decide) (by ((try simp only [List.push_toArray, List.nil_append, List.cons_append]); rfl)) ?_))) | ((with_reducible show wpAny _ _ (call (Value.builtin "list.append") _ _) _ _ _); (k_here; (with_reducible show wpAny _ _ (call (Value.builtin _) [Value.ref _, _]) _ _ _); k_dflt (refine append_K (by k_asm) (by k_asm) (by k_upd) ?_ (by exact Nat.le_of_ble_eq_true rfl); k_whole); intro h' F' N'; (try k_sweep))) | ((with_reducible show wpAny _ _ (exec (Stmt.For (PySem.Expr.Name _ _) (PySem.Expr.Call _ _ _ _) _ _ _) _) _ _ _); (k_here; (rename Fr _ _ _ _ => lF'); (with_unfolding_all refine' For_turns lF' ?_; k_whole))) | ((with_reducible show wpAny _ _ (assign (PySem.Expr.Tuple _ _ _) _ _) _ _ _); ((with_reducible rename Fr _ _ _ _ => fF'); (refine' (let mk' : Str → Option Value := _; have fF1' : Fr _ _ _ mk' := fF'; ?_)); clear fF'; (with_reducible rename News _ _ _ _ => fN'); (refine' (let nk' : List (Addr × Obj) := _; have fN1' : News _ _ _ nk' := fN'; ?_)); clear fN'; walk1)) | ((with_reducible show wpAny _ _ (execs (List.cons _ _) _) _ _ _); ((try k_fold); (conv => arg @7; dsimp only); (try k_gentoks); (with_reducible refine wpAny_execs_cons ?_); (try dsimp only); (try ((with_reducible rename Fr _ _ _ _ => fF'); (refine' (let mk' : Str → Option Value := _; have fF1' : Fr _ _ _ mk' := fF'; ?_)); clear fF')); (try ((with_reducible rename News _ _ _ _ => fN'); (refine' (let nk' : List (Addr × Obj) := _; have fN1' : News _ _ _ nk' := fN'; ?_)); clear fN')))) | ((with_reducible show LCg.FinE _ _ _ _ _ _ _); ((unfold LCg.FinE); intro D' h' tk' F' N' o1'; (try simp only [List.nil_append, List.cons_append] at N'); (try dsimp only))) | ((with_reducible show LCg.CompRest _ _ _ _ _ _ _ _ _ _ _ _ _ _ _ _ _ _ _); (with_unfolding_all first | (refine LCg.CompRest.succ ?_; intro v' I' oI' C' oC' D' m' h' tk' E' hv' hC' hx' F' N' off' ne'; (first | lcg_open hv' | (obtain ⟨t9', hv9'⟩ := hv'; subst hv9'))) | refine LCg.CompRest.zero ?_)) | ((with_reducible show LCg.CompEnd _ _ _ _ _ _ _ _ _ _ _ _ _ _); (k_dflt (refine compSame (by k_asm) (by k_asm) (by assumption) (by first | exact True.intro | exact Or.inr ⟨_, by k_mem, rfl, _, rfl⟩) ?_))) | walk1 | (dsimp only) | (leave1; walk_say "STEP leave1"; try dsimp only))
  (try dsimp only)
  rename News _ _ _ _ => kN9
  rename Fr _ _ _ _ => kF9
  revert kF9 kN9
  rename News _ _ _ _ => gN9
  rename Fr _ _ _ _ => gF9
  intro kF9 kN9
  rename Ground _ _ _ => hG9
  refine' hQ _ _ _ _ _ _ _ _ _ _ _ _ _ _ kF9 (keptOf hG9 N gF9 kN9 ?hsub) ?hd ?hf ?e
  case hsub => lcg_sub
  case hd => exact (kN9 (_, _) (by k_mem)).1
  case hf => exact freshOf hG9 gN9 (by k_mem) (by simp only [List.map_cons, List.map_nil, List.mem_cons, List.not_mem_nil, or_false, not_or]; exact ⟨by k_ne, by k_ne, by k_ne⟩)
  case e => exact runs5_of (by assumption) (by assumption) (by assumption) (by assumption) (by assumption) (by assumption) (by assumption) (by assumption) (by assumption) (by assumption) (by assumption) (by assumption) (by assumption) (by assumption) (by assumption) (by assumption) (by assumption) (by assumption) (by assumption) (by assumption) (by assumption) (by assumption)
theorem due_law (w : World) (mean mg mb) (env : Env) (base h₀ : Heap) (L : Addr) (m) (s : Shared) (Q E : Value → Shared → Prop) (ln ls : Addr) (en es : Nat)
   (n0 n1 n2 n3 n4 n5 n6 n7 s0 s1 s2 s3 s4 : Int) (t0 t1 t2 t3 t4 t5 t6 t7 u0 u1 u2 u3 u4 : Tok)
   (H : Here w mean mg mb env base h₀ L s.heap m [(ln, listOf #[.int n0 t0, .int n1 t1, .int n2 t2, .int n3 t3, .int n4 t4, .int n5 t5, .int n6 t6, .int n7 t7] en), (ls, listOf #[.int s0 u0, .int s1 u1, .int s2 u2, .int s3 u3, .int s4 u4] es)])
   (hn0 : 0 ≤ n0 ∧ n0 < 1000000) (hn1 : 0 ≤ n1 ∧ n1 < 1000000) (hn2 : 0 ≤ n2 ∧ n2 < 1000000) (hn3 : 0 ≤ n3 ∧ n3 < 1000000)
   (hn4 : 0 ≤ n4 ∧ n4 < 1000000) (hn5 : 0 ≤ n5 ∧ n5 < 1000000) (hn6 : 0 ≤ n6 ∧ n6 < 1000000) (hn7 : 0 ≤ n7 ∧ n7 < 1000000)
   (hs0 : 1 ≤ s0 ∧ s0 ≤ 3) (hs1 : 1 ≤ s1 ∧ s1 ≤ 3) (hs2 : 1 ≤ s2 ∧ s2 ≤ 3) (hs3 : 1 ≤ s3 ∧ s3 ≤ 3) (hs4 : 1 ≤ s4 ∧ s4 ≤ 3)
   (hQ : ∀ (D : Addr) (h' : Heap) (tk k : Nat) (d0 d1 d2 d3 d4 : Tok) (y0 y1 y2 y3 y4 : Int), Fr h₀ L h' m → Kept s.heap h' → h'.get? D = some (listOf #[.int y0 d0, .int y1 d1, .int y2 d2, .int y3 d3, .int y4 d4] k) → s.heap.get? D = none →
     Due5 n0 n1 n2 n3 n4 n5 n6 n7 s0 s1 s2 s3 s4 y0 y1 y2 y3 y4 → Q (.ref D) { s with heap := h', toks := tk })
   : wpAny (model PySem.Challenge.rw_to0012_01.row.prog w) (callerA.deeper env) (call (.ref 111) [.ref ln, .ref ls]) Q E s := by
  w_top off
  have kf : ((hd.heap_39 w.params).In h₀ ∧ PySem.Challenge.rw_to0012_01.row.prog = PySem.Challenge.rw_to0012_01.row.prog → True) := by k_fill; exact fun _ => trivial
  clear kf
  have e9 := fnBody_eq (w := w) (a := 111) (by k_is)
  obtain ⟨B, F, X, N, T, GL, ⟨a₁, o₁, M⟩, hf, hk⟩ := H
  refine wpAny_call ?_
  k_dflt (refine' enterGC ?k1 ?k2 ?k3 ?k4 ?k5 ?kA ?kF ?kK ?k6 ?k7 ?k8 ?k9 ?kB ?kD ?_ ?c2 ?c3 ?c4; (case kA => exact rfl); (case kF => assumption); (case kK => assumption); (case k1 => k_asm); (case k2 => k_asm); (case k3 => k_asm); (case k4 => k_asm); (case k5 => k_asm); (case k6 => k_is); (case k7 => k_is); (case k8 => k_room); (case k9 => first | exact BindsTo.of_eq rfl | exact binds_K (by k_in) rfl (by k_is) rfl rfl rfl | fail "k_enter: no rule for these arguments"); (case kB => exact rfl); (case kD => decide +kernel); (case c2 => exact rfl); (case c3 => exact rfl); (case c4 => exact rfl); k_whole; intro g' L' h' tk' cells' hG FG' F' N' Y' B' X' T' l1; (try k_lt l1); k_cells Y'; (try simp only [List.cons_append, List.nil_append] at N'); (try dsimp only); (try k_lift B'); (try k_fold))
  repeat' (first | (k_unfold; (try dsimp only)) | (k_end; wrow_close) | ((with_reducible show wpAny _ _ (execs (List.cons (Stmt.Assign (List.cons (PySem.Expr.Name (Str.ofString "kind") _) _) _ _) _) _) _ _ _); k_dflt (refine due_work (congrArg (fun b => forBody (stNth b 1)) e9.1) e9.2 (by assumption) (by k_asm) (by k_asm) (by k_asm) (by assumption) ⟨_, _, by assumption⟩ (by exact rfl) (by exact rfl) (by k_asm) (by k_updF) (by exact Nat.le_of_ble_eq_true rfl) ?_); intros; (with_reducible rename News _ _ _ _ => N9'); (try dsimp only at N9'); (try dsimp only); (try k_sweep)) | ((with_reducible show wpAny _ _ (execs (List.cons (Stmt.Assign (List.cons (PySem.Expr.Name (Str.ofString "dots") _) _) _ _) _) _) _ _ _); k_dflt (refine due_come (congrArg (fun b => forBody (stNth b 2)) e9.1) e9.2 (by assumption) (by k_asm) (by k_asm) (by k_asm) (by assumption) ⟨_, _, by assumption⟩ (by exact rfl) (by exact rfl) (by exact rfl) N9 (List.mem_append_right _ (by k_mem)) (by assumption) V9 (by assumption) (by exact Nat.le_of_ble_eq_true rfl) ?_); intros; (with_reducible rename Fr _ _ _ _ => F8); (with_reducible rename News _ _ _ _ => N8); refine hQ9 _ _ _ _ F8 N8 ?_) | ((with_reducible show wpAny _ _ (execs (List.cons (Stmt.Expr (PySem.Expr.Call (PySem.Expr.Attribute (PySem.Expr.Name (Str.ofString "due") _) _ _) _ _ _) _) _) _) _ _ _); k_dflt (first | refine due_at0 (congrArg (fun b => forBody (stNth b 4)) e9.1) e9.2 (by assumption) (by k_asm) (by k_asm) (by k_asm) (by assumption) ⟨_, _, by assumption⟩ (by exact rfl) (by exact rfl) (by k_asm) (by k_mem) (by assumption) (by k_mem) (by assumption) (by k_mem) (by assumption) (by k_updF) (by k_mem) (by k_mem) (by exact Nat.le_of_ble_eq_true rfl) ?_ | refine due_at1 (congrArg (fun b => forBody (stNth b 4)) e9.1) e9.2 (by assumption) (by k_asm) (by k_asm) (by k_asm) (by assumption) ⟨_, _, by assumption⟩ (by exact rfl) (by exact rfl) (by k_asm) (by k_mem) (by assumption) (by k_mem) (by assumption) (by k_mem) (by assumption) (by k_updF) (by k_mem) (by k_mem) (by exact Nat.le_of_ble_eq_true rfl) ?_ | refine due_at2 (congrArg (fun b => forBody (stNth b 4)) e9.1) e9.2 (by assumption) (by k_asm) (by k_asm) (by k_asm) (by assumption) ⟨_, _, by assumption⟩ (by exact rfl) (by exact rfl) (by k_asm) (by k_mem) (by assumption) (by k_mem) (by assumption) (by k_mem) (by assumption) (by k_updF) (by k_mem) (by k_mem) (by exact Nat.le_of_ble_eq_true rfl) ?_ | refine due_at3 (congrArg (fun b => forBody (stNth b 4)) e9.1) e9.2 (by assumption) (by k_asm) (by k_asm) (by k_asm) (by assumption) ⟨_, _, by assumption⟩ (by exact rfl) (by exact rfl) (by k_asm) (by k_mem) (by assumption) (by k_mem) (by assumption) (by k_mem) (by assumption) (by k_updF) (by k_mem) (by k_mem) (by exact Nat.le_of_ble_eq_true rfl) ?_ | refine due_at4 (congrArg (fun b => forBody (stNth b 4)) e9.1) e9.2 (by assumption) (by k_asm) (by k_asm) (by k_asm) (by assumption) ⟨_, _, by assumption⟩ (by exact rfl) (by exact rfl) (by k_asm) (by k_mem) (by assumption) (by k_mem) (by assumption) (by k_mem) (by assumption) (by k_updF) (by k_mem) (by k_mem) (by exact Nat.le_of_ble_eq_true rfl) ?_); intros; (with_reducible rename News _ _ _ _ => N9'); (try dsimp only at N9'); (try dsimp only); (try k_sweep)) | ((with_reducible show ItemsRest _ _ _ _ _ _ (PySem.Expr.Tuple (List.cons (PySem.Expr.Name (Str.ofString "number") _) _) _ _) _ _ _ _ _ _ _ _); with_unfolding_all (first | refine pair_turn (by exact rfl) (by exact rfl) (by exact rfl) (by exact rfl) (by exact rfl) (updAgain uU _) (updKeep uU _ uK uD) uD (updOff uU _ uO) ?_ | (k_dflt (refine startC (L' + 1) (by k_mem) (by assumption) (by k_updF) (by k_subL) (by k_all) (offOf (by assumption) (by k_dflt (repeat (first | exact True.intro | refine And.intro (by first | exact Nat.le_refl _ | exact Nat.le_add_right _ _) ?_)))) ?_); intro uU uK uD uO; refine pair_turn (by exact rfl) (by exact rfl) (by exact rfl) (by exact rfl) (by exact rfl) uU uK uD uO ?_)); intro its9 h9 tk9 t9 F9 N9 V9 Q9 hQ9; (refine (let mk9 : Str → Option Value := _; have F9' : Fr _ _ _ mk9 := F9; ?_)); clear F9; (try dsimp only)) | ((with_reducible show wpAny _ _ (call (Value.builtin "list.append") _ _) _ _ _); (k_here; (with_reducible show wpAny _ _ (call (Value.builtin _) [Value.ref _, _]) _ _ _); k_dflt (refine append_K (by k_asm) (by k_asm) (by k_upd) ?_ (by exact Nat.le_of_ble_eq_true rfl); k_whole); intro h' F' N'; (try k_sweep))) | ((with_reducible show wpAny _ _ (exec (Stmt.For (PySem.Expr.Name _ _) (PySem.Expr.Call _ _ _ _) _ _ _) _) _ _ _); (k_here; (rename Fr _ _ _ _ => lF'); (with_unfolding_all refine' For_turns lF' ?_; k_whole))) | ((with_reducible show wpAny _ _ (binaryOp Operator.Mult (Value.int _ _) (Value.int _ _)) _ _ _); (k_here; k_dflt (refine mulG (by first | decide +kernel | omega) (by first | decide +kernel | omega) ?_; intro vM hM; (try dsimp only)))) | ((with_reducible show wpAny _ _ (exec (Stmt.For (PySem.Expr.Tuple _ _ _) (PySem.Expr.Call _ _ _ _) _ _ _) _) _ _ _); (k_here; (rename Fr _ _ _ _ => lF'); (with_unfolding_all refine' For_turns lF' ?_; k_whole))) | ((with_reducible show wpAny _ _ (exec (Stmt.For (PySem.Expr.Name _ _) (PySem.Expr.Subscript _ _ _) _ _ _) _) _ _ _); (k_here; (rename Fr _ _ _ _ => lF'); (with_unfolding_all refine For_invVF lF' (by exact rfl) (by exact rfl) ?_; k_whole))) | ((with_reducible show wpAny _ _ (assign (PySem.Expr.Tuple _ _ _) _ _) _ _ _); ((with_reducible rename Fr _ _ _ _ => fF'); (refine' (let mk' : Str → Option Value := _; have fF1' : Fr _ _ _ mk' := fF'; ?_)); clear fF'; (with_reducible rename News _ _ _ _ => fN'); (refine' (let nk' : List (Addr × Obj) := _; have fN1' : News _ _ _ nk' := fN'; ?_)); clear fN'; walk1)) | ((with_reducible show wpAny _ _ (pyIter (Value.ref _)) _ _ _); (k_here; (with_reducible show wpAny _ _ (pyIter (Value.ref _)) (fun it s₂ => TurnsAt _ _ _ _ _ _ _ _ _ it s₂) _ _); (rename Fr _ _ _ _ => lF'); (rename News _ _ _ _ => lN'); (rename IsRange _ _ _ _ _ _ _ _ => lR'); (with_unfolding_all refine iter_rangeTurns (xs := [.tok fun t => .int 0 t, .tok fun t => .int 1 t, .tok fun t => .int 2 t, .tok fun t => .int 3 t, .tok fun t => .int 4 t]) (n := 5) (by rfl) lR' (by decide) (by decide) (by rfl) r5 lF' lN' ?_); clear lF' lN'; intro i' l1; (try k_lt l1))) | ((with_reducible show wpAny _ _ (execs (List.cons _ _) _) _ _ _); ((try k_fold); (conv => arg @7; dsimp only); (try k_gentoks); (with_reducible refine wpAny_execs_cons ?_); (try dsimp only); (try ((with_reducible rename Fr _ _ _ _ => fF'); (refine' (let mk' : Str → Option Value := _; have fF1' : Fr _ _ _ mk' := fF'; ?_)); clear fF')); (try ((with_reducible rename News _ _ _ _ => fN'); (refine' (let nk' : List (Addr × Obj) := _; have fN1' : News _ _ _ nk' := fN'; ?_)); clear fN')))) | ((with_reducible show wpAny _ _ (call (Value.builtin "max") _ _) _ _ _); (k_here; (with_reducible show wpAny _ _ (call (Value.builtin "max") [Value.ref _]) _ _ _); k_dflt (refine maxL (by exact rfl) (by k_asm) (by k_asm) (by k_mem) (by ((try simp only [List.push_toArray, List.nil_append, List.cons_append]); first | exact .cons _ _ .nil | exact .cons _ _ (.cons _ _ .nil) | exact .cons _ _ (.cons _ _ (.cons _ _ .nil)) | exact .cons _ _ (.cons _ _ (.cons _ _ (.cons _ _ .nil))) | exact .cons _ _ (.cons _ _ (.cons _ _ (.cons _ _ (.cons _ _ .nil)))) | exact .cons _ _ (.cons _ _ (.cons _ _ (.cons _ _ (.cons _ _ (.cons _ _ (.cons _ _ (.cons _ _ .nil))))))))) (by exact Nat.succ_pos _) ?_); intro h' M' tM' tk' F' N' hMm hMu; (try dsimp only); (try k_sweep))) | ((with_reducible show wpAny _ _ (call (Value.builtin "sum") _ _) _ _ _); (k_here; (with_reducible show wpAny _ _ (call (Value.builtin "sum") [Value.ref _]) _ _ _); k_dflt (refine sumL (by exact rfl) (by k_asm) (by k_asm) (by k_mem) (by ((try simp only [List.push_toArray, List.nil_append, List.cons_append]); first | exact .cons _ _ .nil | exact .cons _ _ (.cons _ _ .nil) | exact .cons _ _ (.cons _ _ (.cons _ _ .nil)) | exact .cons _ _ (.cons _ _ (.cons _ _ (.cons _ _ .nil))) | exact .cons _ _ (.cons _ _ (.cons _ _ (.cons _ _ (.cons _ _ .nil)))) | exact .cons _ _ (.cons _ _ (.cons _ _ (.cons _ _ (.cons _ _ (.cons _ _ (.cons _ _ (.cons _ _ .nil))))))))) ?_); intro vS h' tk' t' hS F' N'; (try dsimp only); (try k_sweep))) | ((with_reducible show LCg.FinE _ _ _ _ _ _ _); ((unfold LCg.FinE); intro D' h' tk' F' N' o1'; (try simp only [List.nil_append, List.cons_append] at N'); (try dsimp only))) | ((with_reducible show LCg.CompRest _ _ _ _ _ _ _ _ _ _ _ _ _ _ _ _ _ _ _); (with_unfolding_all first | (refine LCg.CompRest.succ ?_; intro v' I' oI' C' oC' D' m' h' tk' E' hv' hC' hx' F' N' off' ne'; (first | lcg_open hv' | (obtain ⟨t9', hv9'⟩ := hv'; subst hv9'))) | refine LCg.CompRest.zero ?_)) | ((with_reducible show LCg.CompEnd _ _ _ _ _ _ _ _ _ _ _ _ _ _); (k_dflt (refine compSame (by k_asm) (by k_asm) (by assumption) (by first | exact True.intro | exact Or.inr ⟨_, by k_mem, rfl, _, rfl⟩) ?_))) | walk1 | (dsimp only) | (leave1; walk_say "STEP leave1"; try dsimp only))
  (try dsimp only)
  rename News _ _ _ _ => kN9
  rename Fr _ _ _ _ => kF9
  revert kF9 kN9
  rename News _ _ _ _ => gN9
  rename Fr _ _ _ _ => gF9
  intro kF9 kN9
  rename Ground _ _ _ => hG9
  refine' hQ _ _ _ _ _ _ _ _ _ _ _ _ _ _ kF9 (keptOf hG9 N gF9 kN9 ?hsub) ?hd ?hf ?e
  case hsub => lcg_sub
  case hd => exact (kN9 (_, _) (by k_mem)).1
  case hf => exact freshOf hG9 gN9 (by k_mem) (by simp only [List.map_cons, List.map_nil, List.mem_cons, List.not_mem_nil, or_false, not_or]; exact ⟨by k_ne, by k_ne⟩)
  case e => exact due5_of (by assumption) (by assumption) (by assumption) (by assumption) (by assumption) (by assumption) (by assumption) (by assumption) (by assumption) (by assumption) (by assumption) (by assumption) (by assumption) (by assumption) (by assumption) (by assumption) (by assumption) (by assumption) (by assumption) (by assumption) (by assumption) (by assumption) (by assumption) (by assumption) (by assumption) (by assumption) (by assumption) (by assumption) (by assumption) (by assumption) (by assumption) (by assumption) (by assumption) (by assumption) (by assumption) (by assumption) (by assumption) (by assumption) (by assumption) (by assumption) (by assumption) (by assumption) (by assumption) (by assumption) (by assumption)
section
local macro_rules | `(tactic| k_mem) => `(tactic| first | exact List.Mem.head _ | assumption | (refine' List.Mem.tail _ ?_; k_mem))
noncomputable def lawFor : Stmt := stNth (defBody (topDef 69)) 6
noncomputable def lawScope : Scope := defScope (topDef 69)
theorem law_turn (w : World) (mean mg mb) (base h₀ : Heap) (L fa : Addr) (cd : Value) (ek : Value → Shared → Prop) (Q : Flow → Shared → Prop) (s : Shared) (keep : List (Addr × Obj)) (I : Addr) (r : List Itm) (m) (news : List (Addr × Obj)) (g : Obj → List (Addr × Obj))
   (tg : PySem.Expr) (bd : List Stmt) (sc : Scope) (ht : forTarget lawFor = tg) (hbd : forBody lawFor = bd) (hsc : lawScope = sc)
   (lv cm wk sz T : Addr) (its : Array Value) (kl kT kc kw ks : Nat) (oc : Obj) (k a b c c0 c1 c2 c3 c4 w0 w1 w2 s0 s1 s2 s3 s4 sa sb wa wb wc : Int) (ta tb tc d0 d1 d2 d3 d4 f0 f1 f2 u0 u1 u2 u3 u4 ua ub va vb vc : Tok)
   (B : Below callerA base [] h₀) (X : (hd.heap_39 w.params).In h₀)
   (TT : Top hd.view_39 (looseW hd.view_39 [Str.ofString "_twin_re_1", Str.ofString "_twin_re_2", Str.ofString "EXACT_TOKEN_TYPES"]) mean mg mb h₀)
   (GL : Glob 0 mg mb (List.map itemOf (recsOf hd.view_39)) (scalarsOf [] ++ constsW hd.view_39) [] (namesW hd.view_39 [Str.ofString "_twin_re_1", Str.ofString "_twin_re_2", Str.ofString "EXACT_TOKEN_TYPES"]) base)
   (M : ∃ a o, BMod base mainGlobals mg a o)
   (m1 : m (Str.ofString "sizes") = some (.ref sz)) (m2 : m (Str.ofString "comes") = some (.ref cm)) (m3 : m (Str.ofString "leaves") = some (.ref lv))
   (U : UpdF lv (listOf its kl) news g) (K : SubL keep news) (DK : ∀ p ∈ keep, p.1 ≠ lv) (O : OffA [(I + 1, "enumerate"), (I, "list_iterator")] news)
   (q1 : (T, ({ cls := .type "tuple", data := .seq #[.int a ta, .int b tb, .int c tc] kT } : Obj)) ∈ news)
   (q2 : (cm, listOf #[.int c0 d0, .int c1 d1, .int c2 d2, .int c3 d3, .int c4 d4] kc) ∈ news)
   (q5 : (L + 1, oc) ∈ news) (hoc : oc.data = .cell (some (.ref wk)))
   (q3 : (wk, listOf #[.int w0 f0, .int w1 f1, .int w2 f2] kw) ∈ news)
   (q4 : (sz, listOf #[.int s0 u0, .int s1 u1, .int s2 u2, .int s3 u3, .int s4 u4] ks) ∈ news)
   (hk : 0 ≤ k.fmod 5 ∧ k.fmod 5 ≤ 4) (hk1 : 0 ≤ (k + 1).fmod 5 ∧ (k + 1).fmod 5 ≤ 4)
   (i1 : #[Value.int s0 u0, .int s1 u1, .int s2 u2, .int s3 u3, .int s4 u4].toList[(k.fmod 5).toNat]? = some (.int sa ua))
   (i2 : #[Value.int s0 u0, .int s1 u1, .int s2 u2, .int s3 u3, .int s4 u4].toList[((k + 1).fmod 5).toNat]? = some (.int sb ub))
   (i3 : #[Value.int w0 f0, .int w1 f1, .int w2 f2].toList[a.toNat]? = some (.int wa va))
   (i4 : #[Value.int w0 f0, .int w1 f1, .int w2 f2].toList[b.toNat]? = some (.int wb vb))
   (i5 : #[Value.int w0 f0, .int w1 f1, .int w2 f2].toList[c.toNat]? = some (.int wc vc))
   (ha : 0 ≤ a ∧ a ≤ 2) (hb : 0 ≤ b ∧ b ≤ 2) (hc : 0 ≤ c ∧ c ≤ 2) (hsa : 1 ≤ sa ∧ sa ≤ 3) (hsb : 1 ≤ sb ∧ sb ≤ 3) (hz : its.size ≤ sizeLine)
   (next : ∀ (vr : Value) (tk : Tok) (D : Addr) (kr : Nat) (z0 z1 z2 z3 z4 : Tok) (y0 y1 y2 y3 y4 : Int), Runs5 c0 c1 c2 c3 c4 wa wb wc y0 y1 y2 y3 y4 →
      UpdF lv (listOf (its.push (.ref D)) (kl + 1)) ((D, listOf #[.int y0 z0, .int y1 z1, .int y2 z2, .int y3 z3, .int y4 z4] kr) :: g (listOf (its.push (.ref D)) (kl + 1))) (fun o => (D, listOf #[.int y0 z0, .int y1 z1, .int y2 z2, .int y3 z3, .int y4 z4] kr) :: g o) →
      SubL keep ((D, listOf #[.int y0 z0, .int y1 z1, .int y2 z2, .int y3 z3, .int y4 z4] kr) :: g (listOf (its.push (.ref D)) (kl + 1))) →
      OffA [(I + 1, "enumerate"), (I, "list_iterator")] ((D, listOf #[.int y0 z0, .int y1 z1, .int y2 z2, .int y3 z3, .int y4 z4] kr) :: g (listOf (its.push (.ref D)) (kl + 1))) →
      ItemsRest PySem.Challenge.rw_to0012_01.row.prog w (callerA.deeper (envOfC (Str.ofString "law") sc L fa cd)) ek h₀ (envOfC (Str.ofString "law") sc L fa cd) tg bd Q s [(I + 1, "enumerate"), (I, "list_iterator")] keep r
        (fun x => if x = Str.ofString "rooms" then some vr else if x = Str.ofString "order" then some (.ref T) else if x = Str.ofString "turn" then some (.int k tk) else m x)
        ((D, listOf #[.int y0 z0, .int y1 z1, .int y2 z2, .int y3 z3, .int y4 z4] kr) :: g (listOf (its.push (.ref D)) (kl + 1))))
   : ItemsRest PySem.Challenge.rw_to0012_01.row.prog w (callerA.deeper (envOfC (Str.ofString "law") sc L fa cd)) ek h₀ (envOfC (Str.ofString "law") sc L fa cd) tg bd Q s [(I + 1, "enumerate"), (I, "list_iterator")] keep
        (.pair (fun t => .int k t) (.ref T) :: r) m news := by
  subst ht hbd hsc
  w_top off
  have kf : ((hd.heap_39 w.params).In h₀ ∧ PySem.Challenge.rw_to0012_01.row.prog = PySem.Challenge.rw_to0012_01.row.prog → True) := by k_fill; exact fun _ => trivial
  clear kf
  have hI1 : @Ne Nat (I + 1) lv := Ne.symm (O _ (updMem U) (I + 1, "enumerate") (.head _))
  have hI0 : @Ne Nat I lv := Ne.symm (O _ (updMem U) (I, "list_iterator") (.tail _ (.head _)))
  have off : ∀ p ∈ news, @Ne Nat p.1 (I + 1) ∧ @Ne Nat p.1 I := fun p hp => ⟨O p hp (I + 1, "enumerate") (.head _), O p hp (I, "list_iterator") (.tail _ (.head _))⟩
  refine ItemsRest.pair fun T' t' h' tk' hT' F' => AllObj.cons fun o1 hc1 => AllObj.cons fun o2 hc2 => AllObj.nil fun N' => ?_
  have F := frGets _ (allCons m1 (allCons m2 (allCons m3 allNil))) F'
  dsimp only [chainM] at F
  clear F'
  have e6 := updMem U
  simp only [List.cons_append, List.nil_append] at N'
  dsimp only [lawFor, lawScope, topDef, stNth, defBody, defScope, forTarget, forBody, PySem.Challenge.pw_to0012_01] at *
  repeat' ((fail_if_success (with_reducible show UnrEndW _ _ _ _ _ _)); (fail_if_success (with_reducible show wpAny _ _ (call (Value.ref 106) [Value.ref _, Value.ref _, Value.ref _] _) _ _ _)); (first | (k_unfold; (try dsimp only)) | ((with_reducible show wpAny _ _ (call (Value.builtin "list.append") _ _) _ _ _); (k_here; (with_reducible show wpAny _ _ (call (Value.builtin _) [Value.ref _, _]) _ _ _); k_dflt (refine append_K (by k_asm) (by k_asm) (by k_upd) ?_ (by first | exact Nat.le_of_ble_eq_true rfl | assumption); k_whole); intro h' F' N'; (try k_sweep))) | ((with_reducible show wpAny _ _ (call (Value.ref _) _ _) _ _ _); (k_here; (with_reducible show wpAny _ _ (call (Value.ref 62) [Value.int _ _, Value.int _ _] _) _ _ _); k_dflt (refine ge_law (by first | exact rfl | assumption) (by first | assumption | exact rfl) (by first | assumption | exact rfl) (by k_asm) (by k_asm) (by k_asm) (by k_asm) (by k_asm) (by first | k_room | assumption) ?_; intro hO' tkO FO NO; (try dsimp only); (try k_sweep)))) | ((with_reducible show wpAny _ _ (call (Value.ref _) _ _) _ _ _); (k_here; (with_reducible show wpAny _ _ (call (Value.ref 76) [Value.int _ _, Value.int _ _] _) _ _ _); k_dflt (refine sub_law (by first | exact rfl | assumption) (by first | assumption | exact rfl) (by first | assumption | exact rfl) (by k_asm) (by k_asm) (by k_asm) (by k_asm) (by k_asm) (by first | k_room | assumption) ?_; intro hO' tkO tO FO NO; (try dsimp only); (try k_sweep)))) | ((with_reducible show wpAny _ _ (call (Value.ref _) _ _) _ _ _); (k_here; (with_reducible show wpAny _ _ (call (Value.ref 69) [Value.int _ _, Value.int _ _] _) _ _ _); k_dflt (refine add_law (by first | exact rfl | assumption) (by first | assumption | exact rfl) (by first | assumption | exact rfl) (by k_asm) (by k_asm) (by k_asm) (by k_asm) (by k_asm) (by first | k_room | assumption) ?_; intro hO' tkO tO FO NO; (try dsimp only); (try k_sweep)))) | ((with_reducible show wpAny _ _ (eval (PySem.Expr.ListComp _ _ _ _) _) _ _ _); (k_here; k_dflt (refine ListComp_X (F₀ := by k_asm) (by with_unfolding_all rfl) (by decide) (by rfl) (by decide) (by rfl) ?_))) | ((with_reducible show wpAny _ _ (execs (List.cons _ _) _) _ _ _); ((try k_fold); (try dsimp only); (try k_gentoks); (with_reducible refine wpAny_execs_cons ?_); (try dsimp only))) | ((with_reducible show SrcX _ _ _ _ _ _ _ _ _ _ _ _ _ _ _); (k_here; k_dflt (refine tupleX (by rfl) (by k_asm) (by k_asm) (by k_mem) (by first | exact Nat.le_of_ble_eq_true rfl | size_fits) ?_; intro g'; lcg_lit))) | ((with_reducible show wpAny _ _ (subscriptTail _ _ (Value.ref _) _) _ _ _); (k_here; (with_reducible show wpAny _ _ (subscriptTail _ _ (Value.ref _) (Value.int _ _)) _ _ _); k_dflt (refine itemL (by k_asm) (by k_mem) (by omega) (by omega) (by assumption) ?_))) | ((with_reducible show LCg.FinE _ _ _ _ _ _ _); ((unfold LCg.FinE); intro D' h' tk' F' N' o1'; (try simp only [List.nil_append, List.cons_append] at N'); (try dsimp only))) | ((with_reducible show LCg.CompRest _ _ _ _ _ _ _ _ _ _ _ _ _ _ _ _ _ _ _); (with_unfolding_all first | (refine LCg.CompRest.succ ?_; intro v' I' oI' C' oC' D' m' h' tk' E' hv' hC' hx' F' N' off' ne'; (lcg_open hv')) | refine LCg.CompRest.zero ?_)) | ((with_reducible show LCg.CompEnd _ _ _ _ _ _ _ _ _ _ _ _ _ _); (k_dflt (refine compSame (by k_asm) (by k_asm) (by assumption) (by first | exact True.intro | exact Or.inr ⟨_, by k_mem, rfl, _, rfl⟩) ?_))) | walk1 | (dsimp only)))
  rename Fr _ _ _ _ => F8
  rename News _ _ _ _ => N8
  refine leaves_law _ _ _ _ _ _ _ _ _ _ _ _ _ _ _ _ _ _ _ _ _ _ _ _ _ _ _ _ _ _ _ _ _ _ _ _ _ _ ⟨B, F8, X, subJ N8 (by lcg_sub), TT, GL, M, rfl, rfl⟩ (by constructor <;> omega) (by constructor <;> omega) ?_
  intro D9 h9 tk9 kr z0 z1 z2 z3 z4 y0 y1 y2 y3 y4 F9 K9 g9 f9 R9
  have N9 : News _ _ _ ((D9, listOf #[.int y0 z0, .int y1 z1, .int y2 z2, .int y3 z3, .int y4 z4] kr) :: (I + 1, o1) :: (I, o2) :: news) := pickNews (newsAt F8 N8 K9 g9 f9) [true, false, false, true, true]
  have hD := apartAt N8 f9
  have hD1 : @Ne Nat D9 lv := Ne.symm (hD (lv, _) (by k_mem))
  have hD2 : @Ne Nat D9 (I + 1) := Ne.symm (hD (I + 1, o1) (by k_mem))
  have hD3 : @Ne Nat D9 I := Ne.symm (hD (I, o2) (by k_mem))
  clear hD N8 F8 K9 g9 f9
  repeat' ((fail_if_success (with_reducible show UnrEndW _ _ _ _ _ _)); (fail_if_success (with_reducible show wpAny _ _ (call (Value.builtin "list.append") [Value.ref _, Value.ref _] _) _ _ _)); (first | (k_unfold; (try dsimp only)) | ((with_reducible show wpAny _ _ (call (Value.builtin "list.append") _ _) _ _ _); (k_here; (with_reducible show wpAny _ _ (call (Value.builtin _) [Value.ref _, _]) _ _ _); k_dflt (refine append_K (by k_asm) (by k_asm) (by k_upd) ?_ (by first | exact Nat.le_of_ble_eq_true rfl | assumption); k_whole); intro h' F' N'; (try k_sweep))) | ((with_reducible show wpAny _ _ (call (Value.ref _) _ _) _ _ _); (k_here; (with_reducible show wpAny _ _ (call (Value.ref 62) [Value.int _ _, Value.int _ _] _) _ _ _); k_dflt (refine ge_law (by first | exact rfl | assumption) (by first | assumption | exact rfl) (by first | assumption | exact rfl) (by k_asm) (by k_asm) (by k_asm) (by k_asm) (by k_asm) (by first | k_room | assumption) ?_; intro hO' tkO FO NO; (try dsimp only); (try k_sweep)))) | ((with_reducible show wpAny _ _ (call (Value.ref _) _ _) _ _ _); (k_here; (with_reducible show wpAny _ _ (call (Value.ref 76) [Value.int _ _, Value.int _ _] _) _ _ _); k_dflt (refine sub_law (by first | exact rfl | assumption) (by first | assumption | exact rfl) (by first | assumption | exact rfl) (by k_asm) (by k_asm) (by k_asm) (by k_asm) (by k_asm) (by first | k_room | assumption) ?_; intro hO' tkO tO FO NO; (try dsimp only); (try k_sweep)))) | ((with_reducible show wpAny _ _ (call (Value.ref _) _ _) _ _ _); (k_here; (with_reducible show wpAny _ _ (call (Value.ref 69) [Value.int _ _, Value.int _ _] _) _ _ _); k_dflt (refine add_law (by first | exact rfl | assumption) (by first | assumption | exact rfl) (by first | assumption | exact rfl) (by k_asm) (by k_asm) (by k_asm) (by k_asm) (by k_asm) (by first | k_room | assumption) ?_; intro hO' tkO tO FO NO; (try dsimp only); (try k_sweep)))) | ((with_reducible show wpAny _ _ (eval (PySem.Expr.ListComp _ _ _ _) _) _ _ _); (k_here; k_dflt (refine ListComp_X (F₀ := by k_asm) (by with_unfolding_all rfl) (by decide) (by rfl) (by decide) (by rfl) ?_))) | ((with_reducible show wpAny _ _ (execs (List.cons _ _) _) _ _ _); ((try k_fold); (try dsimp only); (try k_gentoks); (with_reducible refine wpAny_execs_cons ?_); (try dsimp only))) | ((with_reducible show SrcX _ _ _ _ _ _ _ _ _ _ _ _ _ _ _); (k_here; k_dflt (refine tupleX (by rfl) (by k_asm) (by k_asm) (by k_mem) (by first | exact Nat.le_of_ble_eq_true rfl | size_fits) ?_; intro g'; lcg_lit))) | ((with_reducible show wpAny _ _ (subscriptTail _ _ (Value.ref _) _) _ _ _); (k_here; (with_reducible show wpAny _ _ (subscriptTail _ _ (Value.ref _) (Value.int _ _)) _ _ _); k_dflt (refine itemL (by k_asm) (by k_mem) (by omega) (by omega) (by assumption) ?_))) | ((with_reducible show LCg.FinE _ _ _ _ _ _ _); ((unfold LCg.FinE); intro D' h' tk' F' N' o1'; (try simp only [List.nil_append, List.cons_append] at N'); (try dsimp only))) | ((with_reducible show LCg.CompRest _ _ _ _ _ _ _ _ _ _ _ _ _ _ _ _ _ _ _); (with_unfolding_all first | (refine LCg.CompRest.succ ?_; intro v' I' oI' C' oC' D' m' h' tk' E' hv' hC' hx' F' N' off' ne'; (lcg_open hv')) | refine LCg.CompRest.zero ?_)) | ((with_reducible show LCg.CompEnd _ _ _ _ _ _ _ _ _ _ _ _ _ _); (k_dflt (refine compSame (by k_asm) (by k_asm) (by assumption) (by first | exact True.intro | exact Or.inr ⟨_, by k_mem, rfl, _, rfl⟩) ?_))) | walk1 | (dsimp only)))
  rename Fr _ _ _ _ => F10
  rename News _ _ _ _ => N10
  refine append_K F10 N10 (updOf (UpdF.tail hD1 (UpdF.tail hI1 (UpdF.tail hI0 U))) _) ?_ hz
  intro h11 F11 N11
  repeat' ((fail_if_success (with_reducible show UnrEndW _ _ _ _ _ _)); (first | (k_unfold; (try dsimp only)) | ((with_reducible show wpAny _ _ (call (Value.builtin "list.append") _ _) _ _ _); (k_here; (with_reducible show wpAny _ _ (call (Value.builtin _) [Value.ref _, _]) _ _ _); k_dflt (refine append_K (by k_asm) (by k_asm) (by k_upd) ?_ (by first | exact Nat.le_of_ble_eq_true rfl | assumption); k_whole); intro h' F' N'; (try k_sweep))) | ((with_reducible show wpAny _ _ (call (Value.ref _) _ _) _ _ _); (k_here; (with_reducible show wpAny _ _ (call (Value.ref 62) [Value.int _ _, Value.int _ _] _) _ _ _); k_dflt (refine ge_law (by first | exact rfl | assumption) (by first | assumption | exact rfl) (by first | assumption | exact rfl) (by k_asm) (by k_asm) (by k_asm) (by k_asm) (by k_asm) (by first | k_room | assumption) ?_; intro hO' tkO FO NO; (try dsimp only); (try k_sweep)))) | ((with_reducible show wpAny _ _ (call (Value.ref _) _ _) _ _ _); (k_here; (with_reducible show wpAny _ _ (call (Value.ref 76) [Value.int _ _, Value.int _ _] _) _ _ _); k_dflt (refine sub_law (by first | exact rfl | assumption) (by first | assumption | exact rfl) (by first | assumption | exact rfl) (by k_asm) (by k_asm) (by k_asm) (by k_asm) (by k_asm) (by first | k_room | assumption) ?_; intro hO' tkO tO FO NO; (try dsimp only); (try k_sweep)))) | ((with_reducible show wpAny _ _ (call (Value.ref _) _ _) _ _ _); (k_here; (with_reducible show wpAny _ _ (call (Value.ref 69) [Value.int _ _, Value.int _ _] _) _ _ _); k_dflt (refine add_law (by first | exact rfl | assumption) (by first | assumption | exact rfl) (by first | assumption | exact rfl) (by k_asm) (by k_asm) (by k_asm) (by k_asm) (by k_asm) (by first | k_room | assumption) ?_; intro hO' tkO tO FO NO; (try dsimp only); (try k_sweep)))) | ((with_reducible show wpAny _ _ (eval (PySem.Expr.ListComp _ _ _ _) _) _ _ _); (k_here; k_dflt (refine ListComp_X (F₀ := by k_asm) (by with_unfolding_all rfl) (by decide) (by rfl) (by decide) (by rfl) ?_))) | ((with_reducible show wpAny _ _ (execs (List.cons _ _) _) _ _ _); ((try k_fold); (try dsimp only); (try k_gentoks); (with_reducible refine wpAny_execs_cons ?_); (try dsimp only))) | ((with_reducible show SrcX _ _ _ _ _ _ _ _ _ _ _ _ _ _ _); (k_here; k_dflt (refine tupleX (by rfl) (by k_asm) (by k_asm) (by k_mem) (by first | exact Nat.le_of_ble_eq_true rfl | size_fits) ?_; intro g'; lcg_lit))) | ((with_reducible show wpAny _ _ (subscriptTail _ _ (Value.ref _) _) _ _ _); (k_here; (with_reducible show wpAny _ _ (subscriptTail _ _ (Value.ref _) (Value.int _ _)) _ _ _); k_dflt (refine itemL (by k_asm) (by k_mem) (by omega) (by omega) (by assumption) ?_))) | ((with_reducible show LCg.FinE _ _ _ _ _ _ _); ((unfold LCg.FinE); intro D' h' tk' F' N' o1'; (try simp only [List.nil_append, List.cons_append] at N'); (try dsimp only))) | ((with_reducible show LCg.CompRest _ _ _ _ _ _ _ _ _ _ _ _ _ _ _ _ _ _ _); (with_unfolding_all first | (refine LCg.CompRest.succ ?_; intro v' I' oI' C' oC' D' m' h' tk' E' hv' hC' hx' F' N' off' ne'; (lcg_open hv')) | refine LCg.CompRest.zero ?_)) | ((with_reducible show LCg.CompEnd _ _ _ _ _ _ _ _ _ _ _ _ _ _); (k_dflt (refine compSame (by k_asm) (by k_asm) (by assumption) (by first | exact True.intro | exact Or.inr ⟨_, by k_mem, rfl, _, rfl⟩) ?_))) | walk1 | (dsimp only)))
  have O2 : OffA [(I + 1, "enumerate"), (I, "list_iterator")] ((D9, listOf #[.int y0 z0, .int y1 z1, .int y2 z2, .int y3 z3, .int y4 z4] kr) :: g (listOf (its.push (.ref D9)) (kl + 1))) := by
    intro p hp
    rcases List.mem_cons.mp hp with rfl | hp
    · intro q hq
      rcases List.mem_cons.mp hq with rfl | hq
      · exact hD2
      · rw [List.mem_singleton.mp hq]; exact hD3
    · exact updOff U _ O p hp
  refine' unrAt2 (frEq F11 (funext fun x => ?e)) (newsSub N11 fun p hp => ?n) (fun p hp => ⟨O2 p hp (I + 1, "enumerate") (.head _), O2 p hp (I, "list_iterator") (.tail _ (.head _))⟩) ⟨subLcons (updKeep U _ K DK), next _ _ D9 kr z0 z1 z2 z3 z4 y0 y1 y2 y3 y4 R9 (UpdF.tail hD1 (updAgain U _)) (subLcons (updKeep U _ K DK)) O2⟩
  case e =>
    show (if x = Str.ofString "rooms" then _ else if x = Str.ofString "order" then _ else if x = Str.ofString "turn" then _ else _) = (if x = Str.ofString "rooms" then _ else if x = Str.ofString "order" then _ else if x = Str.ofString "turn" then _ else m x)
    exact congrArg (fun y => if x = Str.ofString "rooms" then _ else if x = Str.ofString "order" then _ else if x = Str.ofString "turn" then _ else y) (congrFun (chainM_eq (allCons m1 (allCons m2 (allCons m3 allNil)))) x)
  case n =>
    rcases List.mem_cons.mp hp with rfl | hp
    · exact .tail _ (.head _)
    · rcases List.mem_cons.mp hp with rfl | hp
      · exact .tail _ (.tail _ (.head _))
      · rcases List.mem_cons.mp hp with rfl | hp
        · exact .head _
        · exact .tail _ (.tail _ (.tail _ hp))
end
section
local macro_rules | `(tactic| k_ne) => `(tactic| (refine neN ?_; (try dsimp only); (first | exact neAt (by assumption) (by k_mem) | exact Ne.symm (neAt (by assumption) (by k_mem)))))
theorem law_here : PySem.Challenge.rw_to0012_01.Holds := hd (by
  w_top off
  lge_go0
  all_goals (try k_fold)
  refine lawPost (by assumption) ?_ ?_
  case refine_2 =>
    intro m' h' tk' gs' F' aG'
    (try dsimp only)
    wrow_closeG
  repeat' (first | (k_unfold; (try dsimp only)) | ((with_reducible show ItemsRest _ _ _ _ _ _ (PySem.Expr.Tuple (List.cons (PySem.Expr.Name (Str.ofString "turn") _) _) _ _) _ _ _ _ _ (List.cons _ _) _ _); with_unfolding_all (first | refine law_turn _ _ _ _ _ _ _ _ _ _ _ _ _ _ _ _ _ _ _ _ _ (by rfl) (by rfl) (by rfl) _ _ _ _ _ _ _ _ _ _ _ _ _ _ _ _ _ _ _ _ _ _ _ _ _ _ _ _ _ _ _ _ _ _ _ _ _ _ _ _ _ _ _ _ _ _ _ _ _ _ _ _ _ _ _ (by k_asm) (by k_asm) (by assumption) (by assumption) ⟨_, _, by assumption⟩ (by exact rfl) (by exact rfl) (by exact rfl) uU uK uD uO (by k_mem) (by k_mem) (by k_mem) (by first | assumption | exact rfl) (by k_mem) (by k_mem) (by decide) (by decide) (by rfl) (by rfl) (by rfl) (by rfl) (by rfl) (by decide) (by decide) (by decide) (by assumption) (by assumption) (by exact Nat.le_of_ble_eq_true rfl) ?_ | (k_dflt (refine startM (Str.ofString "leaves") (by exact rfl) (by k_updF) (by k_subL) (by k_all) (offOf (by assumption) (by k_dflt (repeat (first | exact True.intro | refine And.intro (by first | exact Nat.le_refl _ | exact Nat.le_add_right _ _) ?_)))) ?_); intro uU uK uD uO; refine law_turn _ _ _ _ _ _ _ _ _ _ _ _ _ _ _ _ _ _ _ _ _ (by rfl) (by rfl) (by rfl) _ _ _ _ _ _ _ _ _ _ _ _ _ _ _ _ _ _ _ _ _ _ _ _ _ _ _ _ _ _ _ _ _ _ _ _ _ _ _ _ _ _ _ _ _ _ _ _ _ _ _ _ _ _ _ (by k_asm) (by k_asm) (by assumption) (by assumption) ⟨_, _, by assumption⟩ (by exact rfl) (by exact rfl) (by exact rfl) uU uK uD uO (by k_mem) (by k_mem) (by k_mem) (by first | assumption | exact rfl) (by k_mem) (by k_mem) (by decide) (by decide) (by rfl) (by rfl) (by rfl) (by rfl) (by rfl) (by decide) (by decide) (by decide) (by assumption) (by assumption) (by exact Nat.le_of_ble_eq_true rfl) ?_)); intro vr9 tk9 D9 kr9 z09 z19 z29 z39 z49 y09 y19 y29 y39 y49 R9 uU uK uO; (try dsimp only)) | ((with_reducible show wpAny _ _ (subscriptTail (PySem.Expr.BinOp _ _ _ _) (PySem.Expr.Slice _ _ _ _) (Value.ref _) (Value.ref _)) _ _ _); (k_here; k_dflt (refine kba_turn (value' := PySem.Expr.Name (PySem.Str.ofString "_") ⟨0, 0, 0, 0⟩) (fun _ => rfl) ?_))) | ((with_reducible show wpAny _ _ (subscriptTail _ _ (Value.ref _) _) _ _ _); (k_here; (with_reducible show wpAny _ _ (subscriptTail _ _ (Value.ref _) (Value.int _ _)) _ _ _); k_dflt (refine itemL (by k_asm) (by k_mem) (by decide) (by decide) (by ((try simp only [List.push_toArray, List.nil_append, List.cons_append]); rfl)) ?_))) | ((with_reducible show wpAny _ _ (subscriptTail _ _ (Value.ref _) _) _ _ _); (k_here; (with_reducible show wpAny _ _ (subscriptTail _ (PySem.Expr.Slice none (some _) none _) (Value.ref _) (Value.ref _)) _ _ _); (with_reducible rename (_ = 3 ∨ _ = 5) => lZ9); k_dflt (refine kmk_slice_ints (by k_asm) (by k_asm) (by kmk_list) (by kmk_part) (by kmk_part) (by l_ints) (by exact kmk_upto (by l_ints) (by decide)) (by kmk_len) ?_ (by with_unfolding_all rfl) (by kmk_pure) (by kmk_size); intro D' ws' h' F' N' l1 hI' hC' hL'; (try simp only [Int.reduceNeg, Int.neg_neg, Int.reduceToNat] at hI'); (obtain ⟨s0', s1', s2', s3', s4', u0', u1', u2', u3', u4', e9, b0', b1', b2', b3', b4'⟩ := five_of hI' lZ9 (by assumption)); subst e9; clear lZ9 hI' hC' hL'; (try k_lt l1); (try k_sweep)))) | ((with_reducible show wpAny _ _ (call (Value.ref _) _ _) _ _ _); (k_here; (with_reducible show wpAny _ _ (call (Value.ref 111) [Value.ref _, Value.ref _] _) _ _ _); k_dflt ((refine due_law _ _ _ _ _ _ _ _ _ _ _ _ _ _ _ _ _ _ _ _ _ _ _ _ _ _ _ _ _ _ _ _ _ _ _ _ _ _ _ _ _ _ (by exact ⟨by assumption, by k_asm, by k_asm, subJ (by k_asm) (by lcg_sub), by assumption, by assumption, ⟨_, _, by assumption⟩, rfl, rfl⟩) (by first | assumption | (constructor <;> omega)) (by first | assumption | (constructor <;> omega)) (by first | assumption | (constructor <;> omega)) (by first | assumption | (constructor <;> omega)) (by first | assumption | (constructor <;> omega)) (by first | assumption | (constructor <;> omega)) (by first | assumption | (constructor <;> omega)) (by first | assumption | (constructor <;> omega)) (by first | assumption | (constructor <;> omega)) (by first | assumption | (constructor <;> omega)) (by first | assumption | (constructor <;> omega)) (by first | assumption | (constructor <;> omega)) (by first | assumption | (constructor <;> omega)) ?_); intro D' h' tk' k' d0' d1' d2' d3' d4' y0' y1' y2' y3' y4' F' K' g' f' R'; (have N' := newsAt (by k_asm) (by k_asm) K' g' f'); (have LX := apartAt (by k_asm) f'); clear K' g' f'; (try dsimp only); (try k_sweep)))) | ((with_reducible show wpAny _ _ (call (Value.ref _) _ _) _ _ _); (k_here; (with_reducible show wpAny _ _ (call (Value.ref 101) [Value.ref _, Value.ref _] _) _ _ _); k_dflt ((refine comes_law _ _ _ _ _ _ _ _ _ _ _ _ _ _ _ _ _ _ _ _ _ _ _ _ _ _ _ _ _ _ _ _ _ _ _ _ (by exact ⟨by assumption, by k_asm, by k_asm, subJ (by k_asm) (by lcg_sub), by assumption, by assumption, ⟨_, _, by assumption⟩, rfl, rfl⟩) (by first | assumption | (constructor <;> omega)) (by first | assumption | (constructor <;> omega)) (by first | assumption | (constructor <;> omega)) (by first | assumption | (constructor <;> omega)) (by first | assumption | (constructor <;> omega)) (by first | assumption | (constructor <;> omega)) (by first | assumption | (constructor <;> omega)) (by first | assumption | (constructor <;> omega)) (by first | assumption | (constructor <;> omega)) (by first | assumption | (constructor <;> omega)) ?_); intro D' h' tk' k' d0' d1' d2' d3' d4' y0' y1' y2' y3' y4' F' K' g' f' e0' e1' e2' e3' e4'; (have e0' := Eqv.mk e0'; have e1' := Eqv.mk e1'; have e2' := Eqv.mk e2'; have e3' := Eqv.mk e3'; have e4' := Eqv.mk e4'); (have N' := newsAt (by k_asm) (by k_asm) K' g' f'); (have LX := apartAt (by k_asm) f'); clear K' g' f'; (try dsimp only); (try k_sweep)))) | ((with_reducible show wpAny _ _ (call (Value.ref _) _ _) _ _ _); (k_here; (with_reducible show wpAny _ _ (call (Value.ref 94) [Value.ref _] _) _ _ _); k_dflt ((refine works_law _ _ _ _ _ _ _ _ _ _ _ _ _ _ _ _ _ _ _ _ (by exact ⟨by assumption, by k_asm, by k_asm, subJ (by k_asm) (by lcg_sub), by assumption, by assumption, ⟨_, _, by assumption⟩, rfl, rfl⟩) (by first | assumption | (constructor <;> omega)) (by first | assumption | (constructor <;> omega)) (by first | assumption | (constructor <;> omega)) ?_); intro D' h' tk' k' t0' t1' t2' w0' w1' w2' F' K' g' f' e0' e1' e2'; (have N' := newsAt (by k_asm) (by k_asm) K' g' f'); (have LX := apartAt (by k_asm) f'); clear K' g' f'; (try dsimp only); (try k_sweep)))) | ((with_reducible show wpAny _ _ (call (Value.ref _) _ _) _ _ _); (k_here; (with_reducible show wpAny _ _ (call (Value.ref 89) [Value.int _ _] _) _ _ _); k_dflt ((refine sizes_law _ _ _ _ _ _ _ _ _ _ _ _ _ _ (by exact ⟨by assumption, by k_asm, by k_asm, subJ (by k_asm) (by lcg_sub), by assumption, by assumption, ⟨_, _, by assumption⟩, rfl, rfl⟩) (by (rename Eqv _ (List.sum _) => qS; exact sum_nn qS (by simp only [List.mem_cons, forall_eq_or_imp, List.not_mem_nil, false_implies, implies_true, and_true]; (repeat' (refine And.intro ?_ ?_)) <;> omega))) (by first | assumption | (simp only []; assumption)) ?_); intro D' A' B' h' gs' tk' k1' k2' xs' ys' zs' F' K' gD' gA' gB' fD' fA' fB' nAB' nAD' nBD' iX' iY' lZ' bZ' aG'; (have N' := newsAt3 (by k_asm) (by k_asm) K' gD' gA' gB' fD' fA' fB'); (have LX := apartAt (by k_asm) fD'); (have LY := apartAt (by k_asm) fA'); (have LZ := apartAt (by k_asm) fB'); clear K' gD' gA' gB' fD' fA' fB'; (try dsimp only); (try k_sweep)))) | ((with_reducible show wpAny _ _ (call (Value.ref _) _ _) _ _ _); (k_here; (with_reducible show wpAny _ _ (call (Value.ref 84) [Value.ref _] _) _ _ _); k_dflt ((refine numbers_law _ _ _ _ _ _ _ _ _ _ _ _ _ _ _ (by exact ⟨by assumption, by k_asm, by k_asm, subJ (by k_asm) (by lcg_sub), by assumption, by assumption, ⟨_, _, by assumption⟩, rfl, rfl⟩) (by assumption) (by assumption) (by omega) ?_); intro D' h' tk' k' n0' n1' n2' n3' n4' n5' n6' n7' t0' t1' t2' t3' t4' t5' t6' t7' F' K' g' f' b0' b1' b2' b3' b4' b5' b6' b7'; (simp only [InB] at b0' b1' b2' b3' b4' b5' b6' b7'); (have N' := newsAt (by k_asm) (by k_asm) K' g' f'); (have LX := apartAt (by k_asm) f'); clear K' g' f'; (try dsimp only); (try k_sweep)))) | ((with_reducible show wpAny _ _ (call (Value.builtin "list.append") _ _) _ _ _); (k_here; (with_reducible show wpAny _ _ (call (Value.builtin _) [Value.ref _, _]) _ _ _); k_dflt (refine append_K (by k_asm) (by k_asm) (by k_upd) ?_ (by exact Nat.le_of_ble_eq_true rfl); k_whole); intro h' F' N'; (try k_sweep))) | ((with_reducible show wpAny _ _ (exec (Stmt.For (PySem.Expr.Name _ _) (PySem.Expr.Call _ _ _ _) _ _ _) _) _ _ _); (k_here; (rename Fr _ _ _ _ => lF'); (with_unfolding_all refine' For_turns lF' ?_; k_whole))) | ((with_reducible show wpAny _ _ (compareOp CmpOp.Eq (Value.ref _) (Value.ref _)) _ _ _); (k_here; (with_reducible rename Due5 _ _ _ _ _ _ _ _ _ _ _ _ _ _ _ _ _ _ => RD9); k_dflt (refine law_cmp (by k_asm) (by k_asm) (by ke_room) (by k_mem) (by k_mem) (by k_mem) (by k_mem) (by k_mem) (by k_mem) (by k_mem) (by k_mem) (by k_mem) (by assumption) (by assumption) (by assumption) (by assumption) (by assumption) (by assumption) (by assumption) (by assumption) (by assumption) (by assumption) (by assumption) (by assumption) (by assumption) (by assumption) (by assumption) ?_))) | ((k_here; (with_reducible show wpAny _ _ (binaryOp Operator.Mult (Value.ref _) (Value.int _ _)) _ _ _); k_dflt (refine six (by k_asm) (by k_asm) (by k_mem) ?_; intro D' h' F' N' l1; (try k_lt l1); (try k_sweep)))) | ((with_reducible show wpAny _ _ (binaryOp Operator.Mult (Value.int _ _) (Value.int _ _)) _ _ _); (k_here; k_dflt (refine mulG (by first | decide +kernel | omega) (by first | decide +kernel | omega) ?_; intro vM hM; (try dsimp only)))) | ((with_reducible show wpAny _ _ (exec (Stmt.For (PySem.Expr.Tuple _ _ _) (PySem.Expr.Call _ _ _ _) _ _ _) _) _ _ _); (k_here; (rename Fr _ _ _ _ => lF'); (with_unfolding_all refine' For_turns lF' ?_; k_whole))) | ((with_reducible show wpAny _ _ (exec (Stmt.For (PySem.Expr.Name _ _) (PySem.Expr.Subscript _ _ _) _ _ _) _) _ _ _); (k_here; (rename Fr _ _ _ _ => lF'); (with_unfolding_all refine For_invVF lF' (by exact rfl) (by exact rfl) ?_; k_whole))) | ((with_reducible show wpAny _ _ (assign (PySem.Expr.Tuple _ _ _) _ _) _ _ _); ((with_reducible rename Fr _ _ _ _ => fF'); (refine' (let mk' : Str → Option Value := _; have fF1' : Fr _ _ _ mk' := fF'; ?_)); clear fF'; (with_reducible rename News _ _ _ _ => fN'); (refine' (let nk' : List (Addr × Obj) := _; have fN1' : News _ _ _ nk' := fN'; ?_)); clear fN'; walk1)) | ((with_reducible show wpAny _ _ (execs (List.cons _ _) _) _ _ _); ((try k_fold); (conv => arg @7; dsimp only); (try k_gentoks); (with_reducible refine wpAny_execs_cons ?_); (try dsimp only); (try ((with_reducible rename Fr _ _ _ _ => fF'); (refine' (let mk' : Str → Option Value := _; have fF1' : Fr _ _ _ mk' := fF'; ?_)); clear fF')); (try ((with_reducible rename News _ _ _ _ => fN'); (refine' (let nk' : List (Addr × Obj) := _; have fN1' : News _ _ _ nk' := fN'; ?_)); clear fN')))) | ((with_reducible show wpAny _ _ (eval (PySem.Expr.ListComp _ _ _ _) _) _ _ _); (k_here; k_dflt (refine ListComp_X (F₀ := by k_asm) (by with_unfolding_all rfl) (by decide) (by rfl) (by decide) (by rfl) ?_))) | ((with_reducible show wpAny _ _ (call (Value.builtin "max") _ _) _ _ _); (k_here; (with_reducible show wpAny _ _ (call (Value.builtin "max") [Value.ref _]) _ _ _); k_dflt (refine maxL (by exact rfl) (by k_asm) (by k_asm) (by k_mem) (by ((try simp only [List.push_toArray, List.nil_append, List.cons_append]); first | exact .cons _ _ .nil | exact .cons _ _ (.cons _ _ .nil) | exact .cons _ _ (.cons _ _ (.cons _ _ .nil)) | exact .cons _ _ (.cons _ _ (.cons _ _ (.cons _ _ .nil))) | exact .cons _ _ (.cons _ _ (.cons _ _ (.cons _ _ (.cons _ _ .nil)))) | exact .cons _ _ (.cons _ _ (.cons _ _ (.cons _ _ (.cons _ _ (.cons _ _ (.cons _ _ (.cons _ _ .nil))))))))) (by exact Nat.succ_pos _) ?_); intro h' M' tM' tk' F' N' hMm hMu; (try dsimp only); (try k_sweep))) | ((with_reducible show wpAny _ _ (call (Value.builtin "sum") _ _) _ _ _); (k_here; (with_reducible show wpAny _ _ (call (Value.builtin "sum") [Value.ref _]) _ _ _); k_dflt (refine sumL (by exact rfl) (by k_asm) (by k_asm) (by k_mem) (by ((try simp only [List.push_toArray, List.nil_append, List.cons_append]); first | exact .cons _ _ .nil | exact .cons _ _ (.cons _ _ .nil) | exact .cons _ _ (.cons _ _ (.cons _ _ .nil)) | exact .cons _ _ (.cons _ _ (.cons _ _ (.cons _ _ .nil))) | exact .cons _ _ (.cons _ _ (.cons _ _ (.cons _ _ (.cons _ _ .nil)))) | exact .cons _ _ (.cons _ _ (.cons _ _ (.cons _ _ (.cons _ _ (.cons _ _ (.cons _ _ (.cons _ _ .nil))))))))) ?_); intro vS h' tk' t' hS F' N'; (try dsimp only); (try k_sweep))) | ((with_reducible show LCg.FinE _ _ _ _ _ _ _); ((unfold LCg.FinE); intro D' h' tk' F' N' o1'; (try simp only [List.nil_append, List.cons_append] at N'); (try dsimp only))) | ((with_reducible show LCg.CompRest _ _ _ _ _ _ _ _ _ _ _ _ _ _ _ _ _ _ _); (with_unfolding_all first | (refine LCg.CompRest.succ ?_; intro v' I' oI' C' oC' D' m' h' tk' E' hv' hC' hx' F' N' off' ne'; (first | lcg_open hv' | (obtain ⟨t9', hv9'⟩ := hv'; subst hv9'))) | refine LCg.CompRest.zero ?_)) | ((with_reducible show LCg.CompEnd _ _ _ _ _ _ _ _ _ _ _ _ _ _); (k_dflt (refine compSame (by k_asm) (by k_asm) (by assumption) (by first | exact True.intro | exact Or.inr ⟨_, by k_mem, rfl, _, rfl⟩) ?_))) | ((with_reducible show SrcX _ _ _ _ _ _ _ _ _ _ _ _ _ _ _); (k_here; k_dflt (refine tupleX (by rfl) (by k_asm) (by k_asm) (by k_mem) (by first | exact Nat.le_of_ble_eq_true rfl | size_fits) ?_; intro g'; lcg_lit))) | walk1 | (dsimp only) | (leave1; walk_say "STEP leave1"; try dsimp only))
  all_goals exact ⟨rfl, _, _, _, _, rfl, by assumption, by assumption⟩)
end
end Mine
end
theorem PySem.Challenge.cw_to0012_01_holds : PySem.Challenge.rw_to0012_01.Holds :=
  Mine.law_here
