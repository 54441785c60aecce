/-
  SEAT b6001239aM: the runes of the bytes of valid runes are those runes.
-/
import Derived.Test.Qxb6001239aModsMem
import Derived.Lib.TrimUEq
import Derived.Lib.QuoteLoop
import Derived.Laws.Cover4
namespace Go.Proofs.Qxb6001239aMods

theorem get_drop (s : ByteArray) (pos k : Nat) : s.get! (pos + k) = (s.data.toList.drop pos).getD k 0 := by
  rw [← Lib.getD_get!', Lib.getD_dropU]

theorem enc_one {c : Nat} (h : c < 128) : (Utf8.encode (c : Int)).data.toList = [UInt8.ofNat c] := by
  have hv : Utf8.valid (c : Int) = true := by simp [Utf8.valid]; omega
  simp [Utf8.encode, hv, h]
theorem enc_two {c : Nat} (h0 : 128 ≤ c) (h : c < 2048) : (Utf8.encode (c : Int)).data.toList = [UInt8.ofNat (192 + c / 64), UInt8.ofNat (128 + c % 64)] := by
  have hv : Utf8.valid (c : Int) = true := by simp [Utf8.valid]; omega
  have h1 : ¬ c < 128 := by omega
  simp [Utf8.encode, hv, h, h1]
theorem enc_three {c : Nat} (hv : Utf8.valid (c : Int) = true) (h0 : 2048 ≤ c) (h : c < 65536) : (Utf8.encode (c : Int)).data.toList = [UInt8.ofNat (224 + c / 4096), UInt8.ofNat (128 + c / 64 % 64), UInt8.ofNat (128 + c % 64)] := by
  have h1 : ¬ c < 128 := by omega
  have h2 : ¬ c < 2048 := by omega
  simp [Utf8.encode, hv, h, h1, h2]
theorem enc_four {c : Nat} (hv : Utf8.valid (c : Int) = true) (h0 : 65536 ≤ c) : (Utf8.encode (c : Int)).data.toList = [UInt8.ofNat (240 + c / 262144), UInt8.ofNat (128 + c / 4096 % 64), UInt8.ofNat (128 + c / 64 % 64), UInt8.ofNat (128 + c % 64)] := by
  have h1 : ¬ c < 128 := by omega
  have h2 : ¬ c < 2048 := by omega
  have h3 : ¬ c < 65536 := by omega
  simp [Utf8.encode, hv, h1, h2, h3]

theorem valid_nat {c : Nat} (hv : Utf8.valid (c : Int) = true) : c < 55296 ∨ (57344 ≤ c ∧ c ≤ 1114111) := by
  simp [Utf8.valid] at hv
  omega

theorem dN1 {c : Nat} (n b1 b2 b3 : Nat) (h : c < 128) : Lib.decodeN n c b1 b2 b3 = (c, 1) := by
  rw [Lib.decodeN, if_pos h]
theorem dN2 {c : Nat} (n b2 b3 : Nat) (hn : 1 < n) (h0 : 128 ≤ c) (h : c < 2048) : Lib.decodeN n (192 + c / 64) (128 + c % 64) b2 b3 = (c, 2) := by
  rw [Lib.decodeN, if_neg (by omega), if_pos ⟨by omega, hn, by omega⟩, if_pos (by omega)]
  refine Prod.ext ?_ rfl
  show _ = c
  omega
theorem dN3 {c : Nat} (n b3 : Nat) (hn : 2 < n) (hv : c < 55296 ∨ (57344 ≤ c ∧ c ≤ 1114111)) (h0 : 2048 ≤ c) (h : c < 65536) : Lib.decodeN n (224 + c / 4096) (128 + c / 64 % 64) (128 + c % 64) b3 = (c, 3) := by
  have e : (224 + c / 4096) % 16 * 4096 + (128 + c / 64 % 64) % 64 * 64 + (128 + c % 64) % 64 = c := by omega
  rw [Lib.decodeN, e, if_neg (by omega), if_neg (by omega), if_pos ⟨by omega, ⟨by omega, by omega⟩, hn, by omega⟩, if_pos ⟨h0, hv⟩]
theorem dN4 {c : Nat} (n : Nat) (hn : 3 < n) (hv : c < 55296 ∨ (57344 ≤ c ∧ c ≤ 1114111)) (h0 : 65536 ≤ c) : Lib.decodeN n (240 + c / 262144) (128 + c / 4096 % 64) (128 + c / 64 % 64) (128 + c % 64) = (c, 4) := by
  have e : (240 + c / 262144) % 8 * 262144 + (128 + c / 4096 % 64) % 64 * 4096 + (128 + c / 64 % 64) % 64 * 64 + (128 + c % 64) % 64 = c := by omega
  rw [Lib.decodeN, if_neg (by omega), if_neg (by omega), if_neg (by omega), e, if_pos ⟨by omega, ⟨by omega, by omega⟩, ⟨by omega, by omega⟩, hn, by omega⟩, if_pos ⟨h0, hv⟩]

theorem ofN {n : Nat} (h : n < 256) : (UInt8.ofNat n).toNat = n := by simp [UInt8.toNat_ofNat']; omega

theorem dec_enc (s : ByteArray) (pos c : Nat) (rest : List UInt8) (hv : Utf8.valid (c : Int) = true) (h : s.data.toList.drop pos = (Utf8.encode (c : Int)).data.toList ++ rest) :
    Utf8.decode s pos = (c, (Utf8.encode (c : Int)).data.toList.length) := by
  have hn := valid_nat hv
  have hsz : s.size - pos = (s.data.toList.drop pos).length := by rw [List.length_drop]; rfl
  have g0 := get_drop s pos 0
  rw [Nat.add_zero] at g0
  rw [Lib.decode_at, hsz, g0, get_drop s pos 1, get_drop s pos 2, get_drop s pos 3, h]
  by_cases h1 : c < 128
  · rw [enc_one h1]
    show Lib.decodeN _ (UInt8.ofNat c).toNat _ _ _ = (c, 1)
    rw [ofN (by omega)]
    exact dN1 _ _ _ _ h1
  · by_cases h2 : c < 2048
    · rw [enc_two (by omega) h2]
      show Lib.decodeN _ (UInt8.ofNat (192 + c / 64)).toNat (UInt8.ofNat (128 + c % 64)).toNat _ _ = (c, 2)
      rw [ofN (by omega), ofN (by omega)]
      exact dN2 _ _ _ (by simp) (by omega) h2
    · by_cases h3 : c < 65536
      · rw [enc_three hv (by omega) h3]
        show Lib.decodeN _ (UInt8.ofNat (224 + c / 4096)).toNat (UInt8.ofNat (128 + c / 64 % 64)).toNat (UInt8.ofNat (128 + c % 64)).toNat _ = (c, 3)
        rw [ofN (by omega), ofN (by omega), ofN (by omega)]
        exact dN3 _ _ (by simp) hn (by omega) h3
      · rw [enc_four hv (by omega)]
        show Lib.decodeN _ (UInt8.ofNat (240 + c / 262144)).toNat (UInt8.ofNat (128 + c / 4096 % 64)).toNat (UInt8.ofNat (128 + c / 64 % 64)).toNat (UInt8.ofNat (128 + c % 64)).toNat = (c, 4)
        rw [ofN (by omega), ofN (by omega), ofN (by omega), ofN (by omega)]
        exact dN4 _ (by simp) hn (by omega)

theorem enc_pos (c : Nat) (hv : Utf8.valid (c : Int) = true) : 1 ≤ (Utf8.encode (c : Int)).data.toList.length := by
  by_cases h1 : c < 128
  · rw [enc_one h1]; simp
  · by_cases h2 : c < 2048
    · rw [enc_two (by omega) h2]; simp
    · by_cases h3 : c < 65536
      · rw [enc_three hv (by omega) h3]; simp
      · rw [enc_four hv (by omega)]; simp

/-- The bytes of runes, one behind the other. -/
def flat : List Int → List UInt8
  | [] => []
  | n :: ns => (Utf8.encode n).data.toList ++ flat ns

theorem runesBytes_data (ns : List Int) : (runesBytes ns).data.toList = flat ns := by
  have key : ∀ (ns : List Int) (s : ByteArray), (ns.foldl (fun r n => r ++ Utf8.encode n) s).data.toList = s.data.toList ++ flat ns := by
    intro ns
    induction ns with
    | nil => intro s; simp [flat]
    | cons n ns ih =>
      intro s
      rw [List.foldl_cons, ih, flat, ← List.append_assoc]
      congr 1
  have := key ns ByteArray.empty
  simpa [runesBytes] using this

theorem runeList_flat (s : ByteArray) : ∀ (ns : List Int) (b pos : Nat), (∀ n ∈ ns, Utf8.valid n = true) → s.data.toList.drop pos = flat ns → ns.length ≤ b → runeList s b pos = ns
  | [], b, pos, _, h, _ => by
    have hp : ¬ pos < s.size := by
      intro hp
      have := congrArg List.length h
      simp only [flat, List.length_drop, List.length_nil] at this
      have e : s.data.toList.length = s.size := rfl
      omega
    cases b with
    | zero => rfl
    | succ b => rw [runeList, if_neg hp]
  | n :: ns, 0, _, _, _, hb => by simp at hb
  | n :: ns, b + 1, pos, hv, h, hb => by
    have hvn := hv n (by simp)
    obtain ⟨c, rfl⟩ : ∃ c : Nat, n = (c : Int) := ⟨n.toNat, by simp [Utf8.valid] at hvn; omega⟩
    rw [flat] at h
    have hd := dec_enc s pos c (flat ns) hvn h
    have hpos := enc_pos c hvn
    have hp : pos < s.size := by
      have := congrArg List.length h
      rw [List.length_append, List.length_drop] at this
      have e : s.data.toList.length = s.size := rfl
      omega
    have hrest : s.data.toList.drop (pos + (Utf8.encode (c : Int)).data.toList.length) = flat ns := by rw [← List.drop_drop, h, List.drop_left' rfl]
    have ih := runeList_flat s ns b (pos + (Utf8.encode (c : Int)).data.toList.length) (fun m hm => hv m (by simp [hm])) hrest (by simpa using hb)
    have h1 : (Utf8.decode s pos).1 = c := by rw [hd]
    have h2 : (Utf8.decode s pos).2 = (Utf8.encode (c : Int)).data.toList.length := by rw [hd]
    rw [runeList, if_pos hp, h1, h2, ih]

theorem flat_length (ns : List Int) (hv : ∀ n ∈ ns, Utf8.valid n = true) : ns.length ≤ (flat ns).length := by
  induction ns with
  | nil => simp [flat]
  | cons n ns ih =>
    have hvn := hv n (by simp)
    obtain ⟨c, rfl⟩ : ∃ c : Nat, n = (c : Int) := ⟨n.toNat, by simp [Utf8.valid] at hvn; omega⟩
    have h1 := enc_pos c hvn
    have h2 := ih (fun m hm => hv m (by simp [hm]))
    simp only [flat, List.length_append, List.length_cons]
    omega

theorem runesOf_bytes (ns : List Int) (hv : ∀ n ∈ ns, Utf8.valid n = true) : runesOf (runesBytes ns) = ns := by
  refine runeList_flat _ ns _ 0 hv (by rw [List.drop_zero, runesBytes_data]) ?_
  have e : (runesBytes ns).size = (runesBytes ns).data.toList.length := rfl
  rw [e, runesBytes_data]
  exact flat_length ns hv

theorem runeList_valid (s : ByteArray) : ∀ (b pos : Nat), ∀ n ∈ runeList s b pos, Utf8.valid n = true
  | 0, _, n, h => by simp [runeList] at h
  | b + 1, pos, n, h => by
    unfold runeList at h
    split at h
    · rcases List.mem_cons.1 h with rfl | h
      · rw [Lib.decode_at]
        have := Lib.decodeN_valid (s.size - pos) (s.get! pos).toNat (s.get! (pos + 1)).toNat (s.get! (pos + 2)).toNat (s.get! (pos + 3)).toNat (UInt8.toNat_lt _)
        simp [Utf8.valid]
        omega
      · exact runeList_valid s b _ n h
    · simp at h

theorem runesOf_valid (s : ByteArray) : ∀ n ∈ runesOf s, Utf8.valid n = true := runeList_valid s _ _
end Go.Proofs.Qxb6001239aMods
