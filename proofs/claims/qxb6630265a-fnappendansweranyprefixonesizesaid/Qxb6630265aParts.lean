import Derived.Test.Qxb6630265aArgs
namespace Go.Proofs.Qxb6630265a
open Go.RowKit
set_option linter.unusedVariables false

/-- What a reader finds in a frame, place by place. -/
structure Parts (id : Nat) (st : UInt8) (r : List UInt8) (m : ByteArray) (R : Nat) (fr : List UInt8) (F j1 j3 j4 j5 j6 : Nat) : Prop where
  len : F = fr.length
  h0 : fr[0]? = some ((F - 4) / 16777216 % 256).toUInt8
  h1 : fr[1]? = some ((F - 4) / 65536 % 256).toUInt8
  h2 : fr[2]? = some ((F - 4) / 256 % 256).toUInt8
  h3 : fr[3]? = some ((F - 4) % 256).toUInt8
  kind : fr[4]? = some 6
  d1 : ∃ t, fr.drop 5 = Lib.uvarint id ++ t
  e1 : j1 = 5 + (Lib.uvarint id).length
  s1 : fr[j1]? = some st
  d2 : ∃ t, fr.drop (j1 + 1) = Lib.uvarint R ++ t
  e3 : j3 = j1 + 1 + (Lib.uvarint R).length
  d3 : ∃ t, fr.drop j3 = Lib.uvarint r.length ++ t
  e4 : j4 = j3 + (Lib.uvarint r.length).length
  g4 : ∀ k c, r[k]? = some c → fr[j4 + k]? = some c
  e5 : j5 = j4 + r.length
  d5 : ∃ t, fr.drop j5 = Lib.uvarint m.size ++ t
  e6 : j6 = j5 + (Lib.uvarint m.size).length
  g6 : ∀ k c, m.data.toList[k]? = some c → fr[j6 + k]? = some c
  eF : F = j6 + m.size

theorem be4_eq (v : Nat) : be4 v = [(v / 16777216 % 256).toUInt8, (v / 65536 % 256).toUInt8, (v / 256 % 256).toUInt8, (v % 256).toUInt8] := by
  have e2 : v / 256 / 256 % 256 = v / 65536 % 256 := by omega
  have e3 : v / 256 / 256 / 256 % 256 = v / 16777216 % 256 := by omega
  simp only [be4, Lib.beBytes, Lib.leBytes, List.reverse_cons, List.reverse_nil, List.nil_append, List.cons_append, e2, e3]

theorem drop_at {l a b : List UInt8} {i : Nat} (h : l.drop i = a ++ b) : l.drop (i + a.length) = b := by
  rw [← List.drop_drop, h, List.drop_left' rfl]

theorem get_at {l b : List UInt8} {i : Nat} {c : UInt8} (h : l.drop i = c :: b) : l[i]? = some c := by
  have := congrArg (fun x => x[0]?) h
  simpa using this

theorem get_in {l a b : List UInt8} {i : Nat} (h : l.drop i = a ++ b) : ∀ k c, a[k]? = some c → l[i + k]? = some c := by
  intro k c hk
  have := congrArg (fun x => x[k]?) h
  simp only [List.getElem?_drop] at this
  rw [this]
  have hlt : k < a.length := by
    rcases Nat.lt_or_ge k a.length with e | e
    · exact e
    · rw [List.getElem?_eq_none e] at hk; cases hk
  rw [List.getElem?_append_left hlt]
  exact hk

theorem parts_of (id : Nat) (st : UInt8) (r : List UInt8) (m : ByteArray) (R : Nat) :
    ∃ F j1 j3 j4 j5 j6, Parts id st r m R (frame id st r m R) F j1 j3 j4 j5 j6 := by
  have hm := Lib.size_eq m
  have k5 : (frame id st r m R).drop 4 = payload id st r m R := by
    unfold frame
    exact List.drop_left' (be4_length _)
  have k5' : (frame id st r m R).drop 5 = Lib.uvarint id ++ (st :: (Lib.uvarint R ++ (Lib.uvarint r.length ++ (r ++ (Lib.uvarint m.size ++ m.data.toList))))) := by
    have := congrArg (List.drop 1) k5
    rw [List.drop_drop] at this
    exact this
  have k6 := drop_at k5'
  have k7 : (frame id st r m R).drop (5 + (Lib.uvarint id).length + 1) = Lib.uvarint R ++ (Lib.uvarint r.length ++ (r ++ (Lib.uvarint m.size ++ m.data.toList))) := by
    have := congrArg (List.drop 1) k6
    rw [List.drop_drop] at this
    exact this
  have k8 := drop_at k7
  have k9 := drop_at k8
  have k10 := drop_at k9
  have k11 := drop_at k10
  have hlen : (frame id st r m R).length = 4 + (payload id st r m R).length := by unfold frame; rw [List.length_append, be4_length]
  have hpl := payload_length id st r m R
  have hF : (frame id st r m R).length - 4 = (payload id st r m R).length := by omega
  refine ⟨(frame id st r m R).length, _, _, _, _, _, ⟨rfl, ?_, ?_, ?_, ?_, ?_, ⟨_, k5'⟩, rfl, get_at k6, ⟨_, k7⟩, rfl, ⟨_, k8⟩, rfl, get_in k9, rfl, ⟨_, k10⟩, rfl, ?_, ?_⟩⟩
  · rw [hF]; unfold frame; rw [be4_eq]; rfl
  · rw [hF]; unfold frame; rw [be4_eq]; rfl
  · rw [hF]; unfold frame; rw [be4_eq]; rfl
  · rw [hF]; unfold frame; rw [be4_eq]; rfl
  · exact get_at k5
  · have e : m.data.toList = m.data.toList ++ [] := by simp
    rw [e] at k11
    exact get_in k11
  · omega

/-! ### the four bytes, joined -/
theorem join4 (v : Nat) (hv : v < 4294967296) (a b c d : Int) (ha : a = ((v / 16777216 % 256 : Nat) : Int)) (hb : b = ((v / 65536 % 256 : Nat) : Int)) (hc : c = ((v / 256 % 256 : Nat) : Int)) (hd : d = ((v % 256 : Nat) : Int)) :
    bits .or .u64 (bits .or .u64 (bits .or .u64 (a * 16777216) (b * 65536)) (c * 256)) d = (v : Int) := by
  subst ha hb hc hd
  have w64 := wraps_u64
  have h1 := bits_join .u64 64 (by decide) w64 24 (((v / 16777216 % 256 : Nat) : Int) * 16777216) (((v / 65536 % 256 : Nat) : Int) * 65536) (by omega) (by omega) (by omega) (by omega) (by omega) (by omega)
  rw [h1]
  have h2 := bits_join .u64 64 (by decide) w64 16 (((v / 16777216 % 256 : Nat) : Int) * 16777216 + ((v / 65536 % 256 : Nat) : Int) * 65536) (((v / 256 % 256 : Nat) : Int) * 256) (by omega) (by omega) (by omega) (by omega) (by omega) (by omega)
  rw [h2]
  have h3 := bits_join .u64 64 (by decide) w64 8 (((v / 16777216 % 256 : Nat) : Int) * 16777216 + ((v / 65536 % 256 : Nat) : Int) * 65536 + ((v / 256 % 256 : Nat) : Int) * 256) ((v % 256 : Nat) : Int) (by omega) (by omega) (by omega) (by omega) (by omega) (by omega)
  rw [h3]
  omega
end Go.Proofs.Qxb6630265a
