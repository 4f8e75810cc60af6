/-
  Seat b6616721aD: the header, as a list of bytes: where its fields lie.
-/
import Derived.Test.Qxb6616721aDoorSmall
namespace Go.Proofs.Qxb6616721aDoor
open Go.RowKit Go.Lib

def hdr (v fl : UInt8) (id pa tl : List UInt8) : List UInt8 := Hx.encode [v] ++ ([45] ++ (Hx.encode id ++ ([45] ++ (Hx.encode pa ++ ([45] ++ (Hx.encode [fl] ++ tl))))))

theorem extract_mid (A B C : List UInt8) (i j : Nat) (hi : A.length = i) (hj : A.length + B.length = j) :
    (⟨(A ++ (B ++ C)).toArray⟩ : ByteArray).extract i j = ⟨B.toArray⟩ := by
  subst hi; subst hj
  apply ByteArray.ext
  rw [ByteArray.data_extract]
  apply Array.ext'
  simp

theorem get_mid (A C : List UInt8) (c : UInt8) (i : Nat) (hi : A.length = i) (h : i < (⟨(A ++ (c :: C)).toArray⟩ : ByteArray).size) :
    (⟨(A ++ (c :: C)).toArray⟩ : ByteArray)[i]'h = c := by
  subst hi
  show (A ++ (c :: C))[A.length]'_ = c
  simp

theorem hdr_length (v fl : UInt8) (id pa tl : List UInt8) (h16 : id.length = 16) (h8 : pa.length = 8) : (hdr v fl id pa tl).length = 55 + tl.length := by
  simp only [hdr, List.length_append, Hx.encode_length, List.length_cons, List.length_nil, h16, h8]
  omega

theorem hdr_size (v fl : UInt8) (id pa tl : List UInt8) (h16 : id.length = 16) (h8 : pa.length = 8) : (⟨(hdr v fl id pa tl).toArray⟩ : ByteArray).size = 55 + tl.length := hdr_length v fl id pa tl h16 h8

theorem hdr_2 (v fl : UInt8) (id pa tl : List UInt8) (h : 2 < (⟨(hdr v fl id pa tl).toArray⟩ : ByteArray).size) : (⟨(hdr v fl id pa tl).toArray⟩ : ByteArray)[2]'h = 45 :=
  get_mid (Hx.encode [v]) _ 45 2 (by rw [Hx.encode_length]; rfl) h

theorem hdr_35 (v fl : UInt8) (id pa tl : List UInt8) (h16 : id.length = 16) (h : 35 < (⟨(hdr v fl id pa tl).toArray⟩ : ByteArray).size) : (⟨(hdr v fl id pa tl).toArray⟩ : ByteArray)[35]'h = 45 := by
  have e : hdr v fl id pa tl = (Hx.encode [v] ++ ([45] ++ Hx.encode id)) ++ (45 :: (Hx.encode pa ++ ([45] ++ (Hx.encode [fl] ++ tl)))) := by simp [hdr]
  have := get_mid (Hx.encode [v] ++ ([45] ++ Hx.encode id)) (Hx.encode pa ++ ([45] ++ (Hx.encode [fl] ++ tl))) 45 35 (by simp [Hx.encode_length, h16])
  simp only [← e] at this
  exact this h

theorem hdr_52 (v fl : UInt8) (id pa tl : List UInt8) (h16 : id.length = 16) (h8 : pa.length = 8) (h : 52 < (⟨(hdr v fl id pa tl).toArray⟩ : ByteArray).size) : (⟨(hdr v fl id pa tl).toArray⟩ : ByteArray)[52]'h = 45 := by
  have e : hdr v fl id pa tl = (Hx.encode [v] ++ ([45] ++ (Hx.encode id ++ ([45] ++ Hx.encode pa)))) ++ (45 :: (Hx.encode [fl] ++ tl)) := by simp [hdr]
  have := get_mid (Hx.encode [v] ++ ([45] ++ (Hx.encode id ++ ([45] ++ Hx.encode pa)))) (Hx.encode [fl] ++ tl) 45 52 (by simp [Hx.encode_length, h16, h8])
  simp only [← e] at this
  exact this h

theorem hdr_e1 (v fl : UInt8) (id pa tl : List UInt8) : (⟨(hdr v fl id pa tl).toArray⟩ : ByteArray).extract 0 2 = ⟨(Hx.encode [v]).toArray⟩ :=
  extract_mid [] (Hx.encode [v]) _ 0 2 rfl (by simp [Hx.encode_length])

theorem hdr_e2 (v fl : UInt8) (id pa tl : List UInt8) (h16 : id.length = 16) : (⟨(hdr v fl id pa tl).toArray⟩ : ByteArray).extract 3 35 = ⟨(Hx.encode id).toArray⟩ := by
  have e : hdr v fl id pa tl = (Hx.encode [v] ++ [45]) ++ (Hx.encode id ++ ([45] ++ (Hx.encode pa ++ ([45] ++ (Hx.encode [fl] ++ tl))))) := by simp [hdr]
  rw [e]
  exact extract_mid _ _ _ 3 35 (by simp [Hx.encode_length]) (by simp [Hx.encode_length, h16])

theorem hdr_e3 (v fl : UInt8) (id pa tl : List UInt8) (h16 : id.length = 16) (h8 : pa.length = 8) : (⟨(hdr v fl id pa tl).toArray⟩ : ByteArray).extract 36 52 = ⟨(Hx.encode pa).toArray⟩ := by
  have e : hdr v fl id pa tl = (Hx.encode [v] ++ ([45] ++ (Hx.encode id ++ [45]))) ++ (Hx.encode pa ++ ([45] ++ (Hx.encode [fl] ++ tl))) := by simp [hdr]
  rw [e]
  exact extract_mid _ _ _ 36 52 (by simp [Hx.encode_length, h16]) (by simp [Hx.encode_length, h16, h8])

theorem hdr_e4 (v fl : UInt8) (id pa tl : List UInt8) (h16 : id.length = 16) (h8 : pa.length = 8) : (⟨(hdr v fl id pa tl).toArray⟩ : ByteArray).extract 53 55 = ⟨(Hx.encode [fl]).toArray⟩ := by
  have e : hdr v fl id pa tl = (Hx.encode [v] ++ ([45] ++ (Hx.encode id ++ ([45] ++ (Hx.encode pa ++ [45]))))) ++ (Hx.encode [fl] ++ tl) := by simp [hdr]
  rw [e]
  exact extract_mid _ _ _ 53 55 (by simp [Hx.encode_length, h16, h8]) (by simp [Hx.encode_length, h16, h8])

theorem hdr_55 (v fl : UInt8) (id pa tl : List UInt8) (h16 : id.length = 16) (h8 : pa.length = 8) : (⟨(hdr v fl id pa tl).toArray⟩ : ByteArray).data.toList[55]? = tl[0]? := by
  have e : hdr v fl id pa tl = (Hx.encode [v] ++ ([45] ++ (Hx.encode id ++ ([45] ++ (Hx.encode pa ++ ([45] ++ Hx.encode [fl])))))) ++ tl := by simp [hdr]
  have hl : (Hx.encode [v] ++ ([45] ++ (Hx.encode id ++ ([45] ++ (Hx.encode pa ++ ([45] ++ Hx.encode [fl])))))).length = 55 := by simp [Hx.encode_length, h16, h8]
  show (hdr v fl id pa tl)[55]? = _
  rw [e, List.getElem?_append_right (by omega), hl]

end Go.Proofs.Qxb6616721aDoor
