/-
  THE WALK of zzEnc: the UTF-8 bytes of a rune.
-/
import Derived.Test.Qxb6608612aDoorWalkC
import Derived.Laws.IdiomStrings
import Derived.Laws.BitsLemmas
namespace Go.Proofs.Qxb6608612aDoor
open Go.RowKit

/-- the UTF-8 bytes of a rune -/
def enc (n : Nat) : List UInt8 :=
  if n < 128 then [UInt8.ofNat n]
  else if n < 2048 then [UInt8.ofNat (192 + n / 64), UInt8.ofNat (128 + n % 64)]
  else if n < 65536 then [UInt8.ofNat (224 + n / 4096), UInt8.ofNat (128 + n / 64 % 64), UInt8.ofNat (128 + n % 64)]
  else [UInt8.ofNat (240 + n / 262144), UInt8.ofNat (128 + n / 4096 % 64), UInt8.ofNat (128 + n / 64 % 64), UInt8.ofNat (128 + n % 64)]

theorem i32_and63 (x : Int) (h₀ : 0 ≤ x) (h₁ : x < 2147483648) : bits .and .i32 x 63 = x % 64 := bits_mask .i32 31 (by decide) wraps_i32 6 (by decide) x h₀ h₁
theorem i32_or128 (y : Int) (h₀ : 0 ≤ y) (h₁ : y < 64) : bits .or .i32 128 y = 128 + y :=
  i32_or6 128 y (by decide) (by decide) (by decide) h₀ h₁
theorem i32_or192 (y : Int) (h₀ : 0 ≤ y) (h₁ : y < 64) : bits .or .i32 192 y = 192 + y :=
  i32_or6 192 y (by decide) (by decide) (by decide) h₀ h₁
theorem i32_or224 (y : Int) (h₀ : 0 ≤ y) (h₁ : y < 32) : bits .or .i32 224 y = 224 + y :=
  bits_join .i32 31 (by decide) wraps_i32 5 224 y (by decide) (by decide) (by decide) h₀ h₁ (by omega)
theorem i32_or240 (y : Int) (h₀ : 0 ≤ y) (h₁ : y < 16) : bits .or .i32 240 y = 240 + y :=
  bits_join .i32 31 (by decide) wraps_i32 4 240 y (by decide) (by decide) (by decide) h₀ h₁ (by omega)

theorem byte_of (k : Nat) (v : Int) (h : v = (k : Int)) (hk : k < 256) : Value.int .u8 v = .int .u8 ((UInt8.ofNat k).toNat : Int) := by
  rw [h, UInt8.toNat_ofNat_of_lt' hk]

theorem conv_bytes (w : World) (l : List UInt8) (vals : Array Value) (k : Nat) (hk : k = l.length) (h : vals.toList = l.map (fun b => Value.int .u8 (b.toNat : Int))) :
    (convert 33 9 (.slice (some ⟨w.heap.size, 0, none⟩) k k)).run Tryd.prog (w.alloc (.cells vals 5)) = .ok (.string ⟨l.toArray⟩) (w.alloc (.cells vals 5)) := by
  subst hk
  refine run_convert_bytes_back _ 33 9 5 ⟨w.heap.size, 0, none⟩ l.length l Tryd.underlying33 Tryd.underlying5 Tryd.underlying9 (fun j hj => ?_)
  have e : (⟨w.heap.size, 0, none⟩ : Addr).add j = ⟨w.heap.size, j, none⟩ := by unfold Addr.add; split <;> simp [*]
  rw [e, World.cell?_alloc_at]
  have : vals.toList[j]? = some (.int .u8 (l[j].toNat : Int)) := by rw [h, List.getElem?_map, List.getElem?_eq_getElem hj]; rfl
  rw [Array.getElem?_toList] at this
  · exact this
  · rfl

set_option maxRecDepth 100000 in
set_option maxHeartbeats 2000000 in
theorem zzEnc_any (n : Nat) (w : World) (hn : n < 1114112) :
    Calls Tryd.prog 11 #[.int .i32 n] w fun e w' => e = .returned (str (enc n)) ∧ Below w.heap.size w w' := by
  have hbel : ∀ o, Below w.heap.size w (w.alloc o) := fun o => (Below.refl _ _).alloc (Nat.le_refl _) o
  by_cases h1 : n < 128
  · have h1' : (n : Int) < 128 := by omega
    have HE : Hid (enc n = [UInt8.ofNat n]) := by show _ = _; unfold enc; rw [if_pos h1]
    have hc := conv_bytes w [UInt8.ofNat n] #[.int .u8 (n : Int)] 1 rfl (by rw [byte_of n n rfl (by omega)]; rfl)
    obtain ⟨E, HX⟩ : ∃ E : ByteArray, Hid (Value.string E = str (enc n)) := ⟨_, rfl⟩
    have he : Value.string E = _ := HX.out.trans (congrArg str HE.out)
    unfold str at he
    rw [← he] at hc
    clear he
    go_enter Tryd.func11, Tryd.ntmps11
    go_wp2
    go_ret
    exact ⟨by rw [← HX.out]; rfl, hbel _⟩
  by_cases h2 : n < 2048
  · have h1' : ¬ (n : Int) < 128 := by omega
    have h2' : (n : Int) < 2048 := by omega
    have HE : Hid (enc n = [UInt8.ofNat (192 + n / 64), UInt8.ofNat (128 + n % 64)]) := by show _ = _; unfold enc; rw [if_neg h1, if_pos h2]
    have hc := conv_bytes w [UInt8.ofNat (192 + n / 64), UInt8.ofNat (128 + n % 64)] #[.int .u8 (192 + (n : Int) / 64), .int .u8 (128 + (n : Int) % 64)] 2 rfl (by
      rw [byte_of (192 + n / 64) (192 + (n : Int) / 64) (by omega) (by omega), byte_of (128 + n % 64) (128 + (n : Int) % 64) (by omega) (by omega)]; rfl)
    have g1 := i32_and63 (n : Int) (by omega) (by omega)
    have g2 := i32_or128 ((n : Int) % 64) (by omega) (by omega)
    obtain ⟨E, HX⟩ : ∃ E : ByteArray, Hid (Value.string E = str (enc n)) := ⟨_, rfl⟩
    have he : Value.string E = _ := HX.out.trans (congrArg str HE.out)
    unfold str at he
    rw [← he] at hc
    clear he
    go_enter Tryd.func11, Tryd.ntmps11
    go_wp2
    go_ret
    exact ⟨by rw [← HX.out]; rfl, hbel _⟩
  by_cases h3 : n < 65536
  · have h1' : ¬ (n : Int) < 128 := by omega
    have h2' : ¬ (n : Int) < 2048 := by omega
    have h3' : (n : Int) < 65536 := by omega
    have HE : Hid (enc n = [UInt8.ofNat (224 + n / 4096), UInt8.ofNat (128 + n / 64 % 64), UInt8.ofNat (128 + n % 64)]) := by show _ = _; unfold enc; rw [if_neg h1, if_neg h2, if_pos h3]
    have hc := conv_bytes w [UInt8.ofNat (224 + n / 4096), UInt8.ofNat (128 + n / 64 % 64), UInt8.ofNat (128 + n % 64)] #[.int .u8 (224 + (n : Int) / 4096), .int .u8 (128 + (n : Int) / 64 % 64), .int .u8 (128 + (n : Int) % 64)] 3 rfl (by
      rw [byte_of (224 + n / 4096) (224 + (n : Int) / 4096) (by omega) (by omega), byte_of (128 + n / 64 % 64) (128 + (n : Int) / 64 % 64) (by omega) (by omega), byte_of (128 + n % 64) (128 + (n : Int) % 64) (by omega) (by omega)]; rfl)
    have g1 := i32_and63 (n : Int) (by omega) (by omega)
    have g2 := i32_or128 ((n : Int) % 64) (by omega) (by omega)
    have g3 := i32_and63 ((n : Int) / 64) (by omega) (by omega)
    have g4 := i32_or128 ((n : Int) / 64 % 64) (by omega) (by omega)
    have g5 := i32_or224 ((n : Int) / 4096) (by omega) (by omega)
    obtain ⟨E, HX⟩ : ∃ E : ByteArray, Hid (Value.string E = str (enc n)) := ⟨_, rfl⟩
    have he : Value.string E = _ := HX.out.trans (congrArg str HE.out)
    unfold str at he
    rw [← he] at hc
    clear he
    go_enter Tryd.func11, Tryd.ntmps11
    go_wp2
    go_ret
    exact ⟨by rw [← HX.out]; rfl, hbel _⟩
  · have h1' : ¬ (n : Int) < 128 := by omega
    have h2' : ¬ (n : Int) < 2048 := by omega
    have h3' : ¬ (n : Int) < 65536 := by omega
    have HE : Hid (enc n = [UInt8.ofNat (240 + n / 262144), UInt8.ofNat (128 + n / 4096 % 64), UInt8.ofNat (128 + n / 64 % 64), UInt8.ofNat (128 + n % 64)]) := by show _ = _; unfold enc; rw [if_neg h1, if_neg h2, if_neg h3]
    have hc := conv_bytes w [UInt8.ofNat (240 + n / 262144), UInt8.ofNat (128 + n / 4096 % 64), UInt8.ofNat (128 + n / 64 % 64), UInt8.ofNat (128 + n % 64)] #[.int .u8 (240 + (n : Int) / 262144), .int .u8 (128 + (n : Int) / 4096 % 64), .int .u8 (128 + (n : Int) / 64 % 64), .int .u8 (128 + (n : Int) % 64)] 4 rfl (by
      rw [byte_of (240 + n / 262144) (240 + (n : Int) / 262144) (by omega) (by omega), byte_of (128 + n / 4096 % 64) (128 + (n : Int) / 4096 % 64) (by omega) (by omega), byte_of (128 + n / 64 % 64) (128 + (n : Int) / 64 % 64) (by omega) (by omega), byte_of (128 + n % 64) (128 + (n : Int) % 64) (by omega) (by omega)]; rfl)
    have g1 := i32_and63 (n : Int) (by omega) (by omega)
    have g2 := i32_or128 ((n : Int) % 64) (by omega) (by omega)
    have g3 := i32_and63 ((n : Int) / 64) (by omega) (by omega)
    have g4 := i32_or128 ((n : Int) / 64 % 64) (by omega) (by omega)
    have g5 := i32_and63 ((n : Int) / 4096) (by omega) (by omega)
    have g6 := i32_or128 ((n : Int) / 4096 % 64) (by omega) (by omega)
    have g7 := i32_or240 ((n : Int) / 262144) (by omega) (by omega)
    obtain ⟨E, HX⟩ : ∃ E : ByteArray, Hid (Value.string E = str (enc n)) := ⟨_, rfl⟩
    have he : Value.string E = _ := HX.out.trans (congrArg str HE.out)
    unfold str at he
    rw [← he] at hc
    clear he
    go_enter Tryd.func11, Tryd.ntmps11
    go_wp2
    go_ret
    exact ⟨by rw [← HX.out]; rfl, hbel _⟩
end Go.Proofs.Qxb6608612aDoor
