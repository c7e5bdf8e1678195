/- What ValidName answers, byte by byte. Conditions: none. -/
import Derived.Test.YtgeaokgcmhkoaaaChain
import Derived.Laws.RangeString
import Derived.Laws.RangeAny
namespace Go.Proofs.Ytgeaokgcmhkoaaa
open Go.RowKit
set_option linter.unusedVariables false
set_option linter.unusedSimpArgs false

def letterN (b : Nat) : Bool := decide ((97 ≤ b ∧ b ≤ 122) ∨ (65 ≤ b ∧ b ≤ 90))
def digitN (b : Nat) : Bool := decide (48 ≤ b ∧ b ≤ 57)
def okN (b i : Nat) : Bool := letterN b || decide (b = 95) || (decide (0 < i) && digitN b)
/-- are m bytes from i on those of a name -/
def vgo (s : ByteArray) : Nat → Nat → Bool
  | 0, _ => true
  | m + 1, i => if okN (s.get! i).toNat i = true then vgo s m (i + 1) else false
def vnB (s : ByteArray) : Bool := decide (0 < s.size) && vgo s s.size 0
set_option maxHeartbeats 400000 in
theorem al_any (r : Nat) (w : World) : Calls Try.prog 33 #[.int .i32 r] w fun e w' => e = .returned (.bool (letterN r)) ∧ w' = w := by
  by_cases g1 : 97 ≤ r <;> by_cases g2 : r ≤ 122 <;> by_cases g3 : 65 ≤ r <;> by_cases g4 : r ≤ 90
  all_goals first
    | (exfalso; omega)
    | (have i1 : ((97 : Int) ≤ (r : Int)) = (97 ≤ r) := by apply propext; omega
       go_enter Try.func33, Try.ntmps33
       go_wp2_with fail
       go_ret
       exact ⟨by simp [letterN, g1, g2, g3, g4] <;> omega, rfl⟩)
set_option maxHeartbeats 400000 in
theorem ad_any (r : Nat) (w : World) : Calls Try.prog 34 #[.int .i32 r] w fun e w' => e = .returned (.bool (digitN r)) ∧ w' = w := by
  by_cases g1 : 48 ≤ r <;> by_cases g2 : r ≤ 57
  all_goals first
    | (exfalso; omega)
    | (go_enter Try.func34, Try.ntmps34
       go_wp2_with fail
       go_ret
       exact ⟨by simp [digitN, g1, g2] <;> omega, rfl⟩)
theorem get_at (s : ByteArray) (i : Nat) (h : i < s.size) : s.get! i = s[i]'h := by
  simp [ByteArray.get!, getElem!_pos, h]
  rfl
theorem isEmpty_of (s : ByteArray) : s.toList.isEmpty = decide (s.size = 0) := by
  rw [ByteArray.toList_eq]
  obtain ⟨a⟩ := s
  show a.toList.isEmpty = decide (a.size = 0)
  cases h : a.toList with
  | nil => have : a.size = 0 := by have := congrArg List.length h; simpa using this
           simp [this]
  | cons x l => have : a.size ≠ 0 := by have := congrArg List.length h; simp at this; omega
                simp [this]
theorem okN_high {b i : Nat} (h : 128 ≤ b) : okN b i = false := by
  have h1 : letterN b = false := by simp [letterN]; omega
  have h2 : digitN b = false := by simp [digitN]; omega
  have h3 : ¬ b = 95 := by omega
  simp [okN, h1, h2, h3]
/-- one round's rune and width, and what they say of the name -/
theorem step_of (s : ByteArray) (pos : Nat) (hp : pos < s.size) (w : World) : ∃ r wd : Nat, (∀ ty, (Instr.next (.pointer (some ⟨w.heap.size, 0, none⟩)) true ty).run Try.prog (w.iter s pos) = .ok (.tuple #[.bool true, .int .i64 pos, .int .i32 r]) (w.iter s (pos + wd))) ∧ 1 ≤ wd ∧
    (okN r pos = true → vgo s (s.size - (pos + wd)) (pos + wd) = vgo s (s.size - pos) pos) ∧ (okN r pos = false → false = vgo s (s.size - pos) pos) := by
  have e1 : s.size - pos = (s.size - (pos + 1)) + 1 := by omega
  by_cases ha : (s[pos]'hp).toNat < 128
  · refine ⟨(s[pos]'hp).toNat, 1, fun ty => run_next_ascii w s pos ty hp ha, Nat.le_refl _, fun h => ?_, fun h => ?_⟩
    · rw [e1, vgo, get_at s pos hp, if_pos h]
    · rw [e1, vgo, get_at s pos hp, h]; simp
  · obtain ⟨h1, h2⟩ := decode_high s pos hp (by omega)
    refine ⟨_, _, fun ty => run_next_any w s pos ty hp, h2, fun h => ?_, fun h => ?_⟩
    · rw [okN_high h1] at h; exact absurd h (by simp)
    · rw [e1, vgo, get_at s pos hp, okN_high (by omega)]; simp
set_option maxRecDepth 100000 in
set_option maxHeartbeats 4000000 in
theorem vn_any (s : ByteArray) (w : World) (hs : s.size ≤ 1048576) :
    Calls Try.prog 27 #[.string s] w fun e w' => e = .returned (.bool (vnB s)) ∧ Below w.heap.size w w' := by
  by_cases h0 : s.size = 0
  · have e : s.toList.isEmpty = true := by rw [isEmpty_of]; simp [h0]
    have hv : vnB s = false := by simp [vnB, h0]
    rw [hv]
    clear h0 hv
    go_enter Try.func27, Try.ntmps27
    go_wp2_with fail
    go_ret
    exact ⟨rfl, by go_grown⟩
  have e : s.toList.isEmpty = false := by rw [isEmpty_of]; simp [h0]
  have hv : vnB s = vgo s s.size 0 := by simp [vnB]; omega
  rw [hv]
  obtain ⟨R, eR⟩ : ∃ R, vgo s s.size 0 = R := ⟨_, rfl⟩
  rw [eR]
  have HV := Lib.hid eR
  clear hv h0 eR
  go_enter Try.func27, Try.ntmps27
  go_wp2_with fail
  go_loopw [3] (fun n w' => ∃ pos : Nat, w' = w.iter s pos ∧ Hid (vgo s (s.size - pos) pos = R)) (fun _ w' => s.size - w'.iterPos w.heap.size)
  case atStart => exact ⟨0, rfl, HV⟩
  case round =>
    obtain ⟨pos, rfl, HR⟩ := hrel
    clear HV
    by_cases hp : pos < s.size
    · obtain ⟨r, wd, hnx, hwd, hyes, hno⟩ := step_of s pos hp w
      have HY := Lib.hid hyes
      have HN := Lib.hid hno
      have hp64 : pos ≤ 1048576 := by omega
      clear hyes hno
      obtain ⟨L, eL⟩ : ∃ L, letterN r = L := ⟨_, rfl⟩
      obtain ⟨D, eD⟩ : ∃ D, digitN r = D := ⟨_, rfl⟩
      by_cases h95 : r = 95
      · have ho : okN r pos = true := by simp [okN, h95]
        have HO := Lib.hid (HY.out ho)
        clear HY HN ho
        subst h95
        cases L
        all_goals
          go_wp2_with (first | (go_at_call 33; (refine (al_any 95 _).mono ?_); rintro e w' ⟨rfl, rfl⟩; rw [eL]) | (go_at_call 34; (refine (ad_any 95 _).mono ?_); rintro e w' ⟨rfl, rfl⟩; rw [eD]))
          go_roundw
          case rel => exact ⟨_, rfl, Lib.hid (by have h := HO.out.trans HR.out; (try rw [Nat.zero_add] at h); exact h)⟩
          case measure => simp; omega
      · have h95' : ((r : Int) == 95) = false := by simp; omega
        by_cases hpz : pos = 0
        · subst hpz
          cases L
          · have ho : okN r 0 = false := by simp [okN, h95, eL]
            have HO := Lib.hid (HN.out ho)
            clear HY HN ho h95
            go_wp2_with (first | (go_at_call 33; (refine (al_any _ _).mono ?_); rintro e w' ⟨rfl, rfl⟩; rw [eL]) | (go_at_call 34; (refine (ad_any _ _).mono ?_); rintro e w' ⟨rfl, rfl⟩; rw [eD]))
            have hO := HO.out.trans HR.out
            clear HO HR
            subst hO
            go_ret
            exact ⟨rfl, (Below.refl w.heap.size w).alloc (Nat.le_refl _) _⟩
          · have ho : okN r 0 = true := by simp [okN, eL]
            have HO := Lib.hid (HY.out ho)
            clear HY HN ho h95
            go_wp2_with (first | (go_at_call 33; (refine (al_any _ _).mono ?_); rintro e w' ⟨rfl, rfl⟩; rw [eL]) | (go_at_call 34; (refine (ad_any _ _).mono ?_); rintro e w' ⟨rfl, rfl⟩; rw [eD]))
            go_roundw
            case rel => exact ⟨_, rfl, Lib.hid (by have h := HO.out.trans HR.out; (try rw [Nat.zero_add] at h); exact h)⟩
            case measure => simp; omega
        · have hpz' : (0 : Int) < (pos : Int) := by omega
          have hpn : 0 < pos := by omega
          cases hLD : (L || D)
          · have eLf : L = false := by cases L <;> simp_all
            have eDf : D = false := by cases D <;> simp_all
            subst eLf eDf
            have ho : okN r pos = false := by simp [okN, h95, eL, eD]
            have HO := Lib.hid (HN.out ho)
            clear HY HN ho h95 hpz
            go_wp2_with (first | (go_at_call 33; (refine (al_any _ _).mono ?_); rintro e w' ⟨rfl, rfl⟩; rw [eL]) | (go_at_call 34; (refine (ad_any _ _).mono ?_); rintro e w' ⟨rfl, rfl⟩; rw [eD]))
            have hO := HO.out.trans HR.out
            clear HO HR
            subst hO
            go_ret
            exact ⟨rfl, (Below.refl w.heap.size w).alloc (Nat.le_refl _) _⟩
          · have ho : okN r pos = true := by
              cases L <;> cases D <;> simp_all [okN]
            have HO := Lib.hid (HY.out ho)
            clear HY HN ho h95 hpz
            cases L
            · cases D
              · exact absurd hLD (by simp)
              · go_wp2_with (first | (go_at_call 33; (refine (al_any _ _).mono ?_); rintro e w' ⟨rfl, rfl⟩; rw [eL]) | (go_at_call 34; (refine (ad_any _ _).mono ?_); rintro e w' ⟨rfl, rfl⟩; rw [eD]))
                go_roundw
                case rel => exact ⟨_, rfl, Lib.hid (HO.out.trans HR.out)⟩
                case measure => simp; omega
            · go_wp2_with (first | (go_at_call 33; (refine (al_any _ _).mono ?_); rintro e w' ⟨rfl, rfl⟩; rw [eL]) | (go_at_call 34; (refine (ad_any _ _).mono ?_); rintro e w' ⟨rfl, rfl⟩; rw [eD]))
              go_roundw
              case rel => exact ⟨_, rfl, Lib.hid (HO.out.trans HR.out)⟩
              case measure => simp; omega
    · have hnx : ∀ ty, (Instr.next (.pointer (some ⟨w.heap.size, 0, none⟩)) true ty).run Try.prog (w.iter s pos) = _ := fun ty => run_next_end w s pos ty hp
      have e1 : s.size - pos = 0 := by omega
      have HE := Lib.hid (show true = R by have := HR.out; rw [e1] at this; exact this)
      have hE := HE.out
      clear HE HR
      subst hE
      go_wp2_with fail
      go_ret
      exact ⟨rfl, (Below.refl w.heap.size w).alloc (Nat.le_refl _) _⟩
end Go.Proofs.Ytgeaokgcmhkoaaa
