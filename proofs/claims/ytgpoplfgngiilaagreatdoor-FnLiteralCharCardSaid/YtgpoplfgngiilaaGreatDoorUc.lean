/- What UnquoteChar answers at the texts of FnLiteralChar: figures of base 16, of base 8, a rune as UTF-8. -/
import Derived.Test.YtgpoplfgngiilaaGreatDoorUq
import Derived.Test.YtgpoplfgngiilaaGreatDoorPl
import Derived.Test.YtgpoplfgngiilaaGreatDoorSh
import Derived.Lib.DecodeN
namespace Go.Proofs.YtgpoplfgngiilaaGreatDoor
open Go.RowKit Go.Proofs.YtgpoplfgngiilaaGreatDoorW.PrintWords Go.Proofs.YtgpoplfgngiilaaGreatDoorW.PrintLast Go.Proofs.YtgpoplfgngiilaaGreatDoorW.PrintMore PAll Pl Go.Lib
set_option linter.unusedVariables false
set_option linter.unusedSimpArgs false

theorem unhex_low_all : ∀ c : Fin 16, strconv_unhex.f 4 (bt low (c.val : Int)) = some ((c.val : Int), true) := by decide +kernel
theorem unhex_low (c : Nat) (h : c < 16) : strconv_unhex.f 4 (bt low (c : Int)) = some ((c : Int), true) := unhex_low_all ⟨c, h⟩

def hexd (v w : Nat) (j : Nat) : Int := ((v / 16 ^ (w - 1 - j) % 16 : Nat) : Int)

theorem hex_at (a : ByteArray) (h : ByteArray) (v w : Nat) (ha : a.size = 2) (hh : h.size = w) (hf : Figs low 16 v h) : ∀ j : Nat, j < w → strconv_unhex.f 4 (bt (a ++ h) (2 + j : Nat)) = some (hexd v w j, true) := by
  intro j hj
  have e : bt (a ++ h) ((2 + j : Nat) : Int) = bt h j := by rw [← ha]; exact bt_right a h j (by omega)
  rw [e, hf j (by omega), hh]
  exact unhex_low _ (Nat.mod_lt _ (by decide))

theorem or16 (x y : Int) (h0 : 0 ≤ x) (h1 : x ≤ 1114112) (h2 : 0 ≤ y) (h3 : y ≤ 15) : bits .or .i32 (x * 16) y = x * 16 + y :=
  bits_join .i32 31 (by decide) wraps_i32 4 (x * 16) y (by omega) (by omega) (by omega) (by omega) (by omega) (by omega)

theorem uqV_hex (v w : Nat) (hv : v < 1114112) (hvw : v < 16 ^ w) : ∀ k, k ≤ w → uqV 16 (hexd v w) k = ((v / 16 ^ (w - k) : Nat) : Int)
  | 0, _ => by rw [Nat.sub_zero, Nat.div_eq_of_lt hvw]; rfl
  | k + 1, hk => by
    have ih := uqV_hex v w hv hvw k (by omega)
    have e1 : w - k = (w - (k + 1)) + 1 := by omega
    have e2 : w - 1 - k = w - (k + 1) := by omega
    have e3 : v / 16 ^ (w - k) = v / 16 ^ (w - (k + 1)) / 16 := by rw [e1, Nat.pow_succ, Nat.div_div_eq_div_mul]
    show bits .or .i32 (wrap32 (uqV 16 (hexd v w) k * 16)) (hexd v w k) = _
    rw [ih, hexd, e2, e3]
    have hle : v / 16 ^ (w - (k + 1)) ≤ v := Nat.div_le_self _ _
    generalize v / 16 ^ (w - (k + 1)) = b at hle ⊢
    have hw : wrap32 (((b / 16 : Nat) : Int) * 16) = ((b / 16 : Nat) : Int) * 16 := by unfold wrap32; omega
    rw [hw]
    clear hw
    rw [or16 _ _ (by omega) (by omega) (by omega) (by omega)]
    omega

theorem uqV_all (v w : Nat) (hv : v < 1114112) (hvw : v < 16 ^ w) : uqV 16 (hexd v w) w = (v : Int) := by
  rw [uqV_hex v w hv hvw w (Nat.le_refl _), Nat.sub_self, Nat.pow_zero, Nat.div_one]

theorem rune_ok (v : Nat) (hv : v < 1114112) (hs : v < 55296 ∨ 57344 ≤ v) : utf8_ValidRune.f 1 v = some true := by
  unfold utf8_ValidRune.f
  rw [if_pos (by omega)]
  rcases hs with h | h
  · simp only [utf8_ValidRune.j0]
    rw [if_pos (by simp; omega)]
  · simp only [utf8_ValidRune.j0]
    rw [if_neg (by simp; omega), if_pos (by omega), if_pos (by omega)]

theorem bt0 (a h : ByteArray) (c : Int) (ha : 0 < a.size) (hc : bt a 0 = c) : bt (a ++ h) 0 = c := (bt_left a h 0 ha).trans hc
theorem bt1 (a h : ByteArray) (c : Int) (ha : 1 < a.size) (hc : bt a 1 = c) : bt (a ++ h) 1 = c := (bt_left a h 1 ha).trans hc

theorem uqh_x (h : ByteArray) (v : Nat) (hh : h.size = 2) (hf : Figs low 16 v h) (hv : v < 256) (w : World) : Calls Tryz.prog 48 #[.string (⟨#[92, 120]⟩ ++ h), .int .u8 39] w (UqOk v w) := by
  have := uq_x (⟨#[92, 120]⟩ ++ h) w (by rw [ByteArray.size_append, hh]; rfl) (bt0 _ _ _ (by decide) rfl) (bt1 _ _ _ (by decide) rfl) (hexd v 2) 4 (hex_at _ h v 2 rfl hh hf)
  rwa [uqV_all v 2 (by omega) (by omega)] at this
theorem uqh_u (h : ByteArray) (v : Nat) (hh : h.size = 4) (hf : Figs low 16 v h) (hv : v < 65536) (hs : v < 55296 ∨ 57344 ≤ v) (w : World) : Calls Tryz.prog 48 #[.string (⟨#[92, 117]⟩ ++ h), .int .u8 39] w (UqOk v w) := by
  have e := uqV_all v 4 (by omega) (by omega)
  have := uq_u (⟨#[92, 117]⟩ ++ h) w (by rw [ByteArray.size_append, hh]; rfl) (bt0 _ _ _ (by decide) rfl) (bt1 _ _ _ (by decide) rfl) (hexd v 4) 4 (hex_at _ h v 4 rfl hh hf) 1 (by rw [e]; exact rune_ok v (by omega) hs)
  rwa [e] at this
theorem uqh_U (h : ByteArray) (v : Nat) (hh : h.size = 8) (hf : Figs low 16 v h) (hv : v < 1114112) (hs : v < 55296 ∨ 57344 ≤ v) (w : World) : Calls Tryz.prog 48 #[.string (⟨#[92, 85]⟩ ++ h), .int .u8 39] w (UqOk v w) := by
  have e := uqV_all v 8 (by omega) (by omega)
  have := uq_U (⟨#[92, 85]⟩ ++ h) w (by rw [ByteArray.size_append, hh]; rfl) (bt0 _ _ _ (by decide) rfl) (bt1 _ _ _ (by decide) rfl) (hexd v 8) 4 (hex_at _ h v 8 rfl hh hf) 1 (by rw [e]; exact rune_ok v (by omega) hs)
  rwa [e] at this

/-! Bytes by their numbers -/
theorem bt_strOfNums (xs : List Int) (j : Nat) (hj : j < xs.length) (h0 : 0 ≤ xs[j]) (h1 : xs[j] < 256) : bt (strOfNums xs) j = xs[j] := by
  rw [bt_nat _ j (by rw [strOfNums_size]; exact hj)]
  have e : (strOfNums xs)[j]'(by rw [strOfNums_size]; exact hj) = UInt8.ofNat xs[j].toNat := by simp [strOfNums, ByteArray.getElem_eq_getElem_data]
  rw [e]
  simp
  omega

theorem uqh_o (v : Nat) (hv : v < 256) (w : World) : Calls Tryz.prog 48 #[.string (⟨#[92]⟩ ++ strOfNums [48 + (v : Int) / 64, 48 + (v : Int) / 8 % 8, 48 + (v : Int) % 8]), .int .u8 39] w (UqOk v w) := by
  have e1 : bt (⟨#[92]⟩ ++ strOfNums [48 + (v : Int) / 64, 48 + (v : Int) / 8 % 8, 48 + (v : Int) % 8]) 1 = 48 + (v : Int) / 64 :=
    (bt_right ⟨#[92]⟩ _ 0 (by rw [strOfNums_size]; simp)).trans (bt_strOfNums _ 0 (by simp) (by simp; omega) (by simp; omega))
  have e2 : bt (⟨#[92]⟩ ++ strOfNums [48 + (v : Int) / 64, 48 + (v : Int) / 8 % 8, 48 + (v : Int) % 8]) 2 = 48 + (v : Int) / 8 % 8 :=
    (bt_right ⟨#[92]⟩ _ 1 (by rw [strOfNums_size]; simp)).trans (bt_strOfNums _ 1 (by simp) (by simp; omega) (by simp; omega))
  have e3 : bt (⟨#[92]⟩ ++ strOfNums [48 + (v : Int) / 64, 48 + (v : Int) / 8 % 8, 48 + (v : Int) % 8]) 3 = 48 + (v : Int) % 8 :=
    (bt_right ⟨#[92]⟩ _ 2 (by rw [strOfNums_size]; simp)).trans (bt_strOfNums _ 2 (by simp) (by simp; omega) (by simp; omega))
  have := uq_o (⟨#[92]⟩ ++ strOfNums [48 + (v : Int) / 64, 48 + (v : Int) / 8 % 8, 48 + (v : Int) % 8]) w (by rw [ByteArray.size_append, strOfNums_size]; rfl) (bt0 _ _ _ (by decide) rfl)
    (by rw [e1]; omega) (by rw [e1]; omega) (by rw [e2]; omega) (by rw [e2]; omega) (by rw [e3]; omega) (by rw [e3]; omega)
  rw [e1, e2, e3] at this
  have e : (48 + (v : Int) / 64 - 48) * 64 + (48 + (v : Int) / 8 % 8 - 48) * 8 + (48 + (v : Int) % 8 - 48) = v := by omega
  rwa [e] at this

/-! A rune as UTF-8 -/
theorem get_strOfNums (xs : List Int) (j : Nat) (b : Nat) (hj : j < xs.length) (hb : xs[j] = b) (h1 : b < 256) : ((strOfNums xs).get! j).toNat = b := by
  have e : (strOfNums xs).get! j = UInt8.ofNat xs[j].toNat := by
    show (strOfNums xs).data[j]! = _
    have hs : j < (strOfNums xs).data.size := by simpa [strOfNums] using hj
    rw [getElem!_pos (strOfNums xs).data j hs]
    simp [strOfNums]
  rw [e, hb]
  simp
  omega

theorem dec2 (v b2 b3 : Nat) (h0 : 128 ≤ v) (h1 : v < 2048) : decodeN 2 (192 + v / 64) (128 + v % 64) b2 b3 = (v, 2) := by
  unfold decodeN
  rw [if_neg (by omega), if_pos (by omega), if_pos (by omega)]
  congr 1
  omega
theorem dec3 (v b3 : Nat) (h0 : 2048 ≤ v) (h1 : v < 65536) (hs : v < 55296 ∨ 57344 ≤ v) : decodeN 3 (224 + v / 4096) (128 + v / 64 % 64) (128 + v % 64) b3 = (v, 3) := by
  have e : (224 + v / 4096) % 16 * 4096 + (128 + v / 64 % 64) % 64 * 64 + (128 + v % 64) % 64 = v := by omega
  unfold decodeN
  rw [if_neg (by omega), if_neg (by omega), if_pos (by omega), e, if_pos (by omega)]
theorem dec4 (v : Nat) (h0 : 65536 ≤ v) (h1 : v < 1114112) : decodeN 4 (240 + v / 262144) (128 + v / 4096 % 64) (128 + v / 64 % 64) (128 + v % 64) = (v, 4) := by
  have e : (240 + v / 262144) % 8 * 262144 + (128 + v / 4096 % 64) % 64 * 4096 + (128 + v / 64 % 64) % 64 * 64 + (128 + v % 64) % 64 = v := by omega
  unfold decodeN
  rw [if_neg (by omega), if_neg (by omega), if_neg (by omega), if_pos (by omega), e, if_pos (by omega)]

theorem decodeGo_of (xs : List Int) (r : Nat × Nat) (h : decodeN xs.length ((strOfNums xs).get! 0).toNat ((strOfNums xs).get! 1).toNat ((strOfNums xs).get! 2).toNat ((strOfNums xs).get! 3).toNat = r) (hn : 0 < xs.length) : Lib.decodeGo (strOfNums xs) = r := by
  unfold Lib.decodeGo
  rw [if_neg (by rw [strOfNums_size]; omega), decode_at, strOfNums_size]
  exact h

/-- The bytes of a rune. -/
def encs (v : Nat) : List Int :=
  if v < 128 then [(v : Int)] else if v < 2048 then [192 + (v : Int) / 64, 128 + (v : Int) % 64] else if v < 65536 then [224 + (v : Int) / 4096, 128 + (v : Int) / 64 % 64, 128 + (v : Int) % 64]
  else [240 + (v : Int) / 262144, 128 + (v : Int) / 4096 % 64, 128 + (v : Int) / 64 % 64, 128 + (v : Int) % 64]

theorem tdivN (v k : Nat) : Int.tdiv (v : Int) (k : Int) = ((v / k : Nat) : Int) := rfl
theorem tmodN (v k : Nat) : Int.tmod (v : Int) (k : Int) = ((v % k : Nat) : Int) := rfl

theorem encW (v : Nat) (hv : v < 1114112) : (Int.tdiv (v : Int) 64 = ((v / 64 : Nat) : Int)) ∧ (Int.tdiv (v : Int) 4096 = ((v / 4096 : Nat) : Int)) ∧ (Int.tdiv (v : Int) 262144 = ((v / 262144 : Nat) : Int)) ∧ (Int.tmod (v : Int) 64 = ((v % 64 : Nat) : Int)) ∧ (wrap64 ((v / 64 : Nat) : Int) = ((v / 64 : Nat) : Int)) ∧ (wrap64 ((v / 4096 : Nat) : Int) = ((v / 4096 : Nat) : Int)) ∧ (wrap64 ((v / 262144 : Nat) : Int) = ((v / 262144 : Nat) : Int)) ∧ (Int.tmod ((v / 64 : Nat) : Int) 64 = ((v / 64 % 64 : Nat) : Int)) ∧ (Int.tmod ((v / 4096 : Nat) : Int) 64 = ((v / 4096 % 64 : Nat) : Int)) ∧ (wrap64 (192 + ((v / 64 : Nat) : Int)) = 192 + ((v / 64 : Nat) : Int)) ∧ (wrap64 (128 + ((v % 64 : Nat) : Int)) = 128 + ((v % 64 : Nat) : Int)) ∧ (wrap64 (224 + ((v / 4096 : Nat) : Int)) = 224 + ((v / 4096 : Nat) : Int)) ∧ (wrap64 (128 + ((v / 64 % 64 : Nat) : Int)) = 128 + ((v / 64 % 64 : Nat) : Int)) ∧ (wrap64 (240 + ((v / 262144 : Nat) : Int)) = 240 + ((v / 262144 : Nat) : Int)) ∧ (wrap64 (128 + ((v / 4096 % 64 : Nat) : Int)) = 128 + ((v / 4096 % 64 : Nat) : Int)) := by
  refine ⟨rfl, rfl, rfl, rfl, w64 (by omega) (by omega), w64 (by omega) (by omega), w64 (by omega) (by omega), rfl, rfl, w64 (by omega) (by omega), w64 (by omega) (by omega), w64 (by omega) (by omega), w64 (by omega) (by omega), w64 (by omega) (by omega), w64 (by omega) (by omega)⟩

theorem encoded_is (v : Nat) (hv : v < 1114112) : laws_encoded.f v = some (strOfNums (encs v)) := by
  obtain ⟨t64, t4096, t262144, m64, w1, w2, w3, n64, n4096, a1, a2, a3, a4, a5, a6⟩ := encW v hv
  unfold laws_encoded.f encs
  rw [t64, t4096, t262144, m64, w1, w2, w3, n64, n4096, a1, a2, a3, a4, a5, a6]
  clear t64 t4096 t262144 m64 w1 w2 w3 n64 n4096 a1 a2 a3 a4 a5 a6
  by_cases h1 : v < 128
  · rw [if_pos (by omega), if_pos h1, Int.emod_eq_of_lt (by omega) (by omega)]
  · rw [if_neg (by omega), if_neg h1]
    by_cases h2 : v < 2048
    · rw [if_pos (by omega), if_pos h2, Int.emod_eq_of_lt (by omega) (by omega), Int.emod_eq_of_lt (by omega) (by omega)]
      rfl
    · rw [if_neg (by omega), if_neg h2]
      by_cases h3 : v < 65536
      · rw [if_pos (by omega), if_pos h3, Int.emod_eq_of_lt (by omega) (by omega), Int.emod_eq_of_lt (by omega) (by omega), Int.emod_eq_of_lt (by omega) (by omega)]
        rfl
      · rw [if_neg (by omega), if_neg h3, Int.emod_eq_of_lt (by omega) (by omega), Int.emod_eq_of_lt (by omega) (by omega), Int.emod_eq_of_lt (by omega) (by omega), Int.emod_eq_of_lt (by omega) (by omega)]
        rfl

theorem uqh_dec (xs : List Int) (v n : Nat) (hn : xs.length = n) (hn0 : 0 < n) (hn4 : n ≤ 4) (hd : Lib.decodeGo (strOfNums xs) = (v, n)) (h0 : bt (strOfNums xs) 0 ≥ 128) (w : World) (hT : Lib.Utf8Tabs 6 7 w) :
    Calls Tryz.prog 48 #[.string (strOfNums xs), .int .u8 39] w (UqOk v w) := by
  have hs : (strOfNums xs).size = n := by rw [strOfNums_size, hn]
  have h39 : (bt (strOfNums xs) 0 == 39) = false := by have : bt (strOfNums xs) 0 ≠ 39 := by omega
                                                       simpa using this
  refine uq_dec (strOfNums xs) v n w (by omega) (by omega) (by omega) (by omega) h0 h39 ?_
  have := Tryz.utf8_DecodeRuneInString (strOfNums xs) w hT
  rw [hd] at this
  exact this

theorem uqh_rune (v : Nat) (hv : v < 1114112) (hs : v < 55296 ∨ 57344 ≤ v) (h39 : v ≠ 39) (h92 : v ≠ 92) (w : World) (hT : Lib.Utf8Tabs 6 7 w) : Calls Tryz.prog 48 #[.string (strOfNums (encs v)), .int .u8 39] w (UqOk v w) := by
  unfold encs
  by_cases h1 : v < 128
  · rw [if_pos h1]
    have e : bt (strOfNums [(v : Int)]) 0 = v := bt_strOfNums [(v : Int)] 0 (by simp) (by simp) (by simp; omega)
    have := uq_one (strOfNums [(v : Int)]) w (by rw [strOfNums_size]; rfl) (by rw [e]; omega) (by rw [e]; omega) (by rw [e]; simp; omega) (by rw [e]; simp; omega)
    rwa [e] at this
  · rw [if_neg h1]
    by_cases h2 : v < 2048
    · rw [if_pos h2]
      refine uqh_dec _ v 2 rfl (by omega) (by omega) (decodeGo_of _ _ ?_ (by simp)) ?_ w hT
      · rw [get_strOfNums _ 0 (192 + v / 64) (by simp) (by simp) (by omega), get_strOfNums _ 1 (128 + v % 64) (by simp) (by simp) (by omega)]
        exact dec2 v _ _ (by omega) h2
      · rw [show (0 : Int) = ((0 : Nat) : Int) from rfl, bt_strOfNums _ 0 (by simp) (by simp; omega) (by simp; omega)]
        simp; omega
    · rw [if_neg h2]
      by_cases h3 : v < 65536
      · rw [if_pos h3]
        refine uqh_dec _ v 3 rfl (by omega) (by omega) (decodeGo_of _ _ ?_ (by simp)) ?_ w hT
        · rw [get_strOfNums _ 0 (224 + v / 4096) (by simp) (by simp) (by omega), get_strOfNums _ 1 (128 + v / 64 % 64) (by simp) (by simp) (by omega), get_strOfNums _ 2 (128 + v % 64) (by simp) (by simp) (by omega)]
          exact dec3 v _ (by omega) h3 hs
        · rw [show (0 : Int) = ((0 : Nat) : Int) from rfl, bt_strOfNums _ 0 (by simp) (by simp; omega) (by simp; omega)]
          simp; omega
      · rw [if_neg h3]
        refine uqh_dec _ v 4 rfl (by omega) (by omega) (decodeGo_of _ _ ?_ (by simp)) ?_ w hT
        · rw [get_strOfNums _ 0 (240 + v / 262144) (by simp) (by simp) (by omega), get_strOfNums _ 1 (128 + v / 4096 % 64) (by simp) (by simp) (by omega), get_strOfNums _ 2 (128 + v / 64 % 64) (by simp) (by simp) (by omega), get_strOfNums _ 3 (128 + v % 64) (by simp) (by simp) (by omega)]
          exact dec4 v (by omega) hv
        · rw [show (0 : Int) = ((0 : Nat) : Int) from rfl, bt_strOfNums _ 0 (by simp) (by simp; omega) (by simp; omega)]
          simp; omega
end Go.Proofs.YtgpoplfgngiilaaGreatDoor
