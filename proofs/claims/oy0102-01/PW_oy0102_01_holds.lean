import PyProof.Rows.All
import Wide.All
import OpenK.AllK
import Wide.FinOn
import PySem.Challenge.RW_oy0102_01
set_option Elab.async false
-- no lid of time upon the walks: one process walks them all
set_option rowWalk.seconds 0

section
open PySem PySem.W PyProof.Rows
set_option maxRecDepth 100000
set_option maxHeartbeats 8000000
namespace Mine
/-- the body and the scope of the top's i-th statement, a def, as an object -/
noncomputable def fnObj (i : Nat) (dV kV : Value) (pm : String) (t c : Nat) : Obj := match PySem.Challenge.pw_oy0102_01.main.body.drop i with
  | .FunctionDef name params body _ _ _ scope _ _ _ :: _ => .mk (.type "function") none (.func (fnOf name name params body scope dV kV .none (.str (Str.ofString pm) t) none (.ref c) .none)) #[]
  | _ => default
noncomputable abbrev sv (x : String) (t : Nat) : Value := .str (Str.ofString x) t
noncomputable def de (P : Params) (x : String) (t : Nat) (v : Value) : DictEntry := .mk (PyData.keyHash P (Str.ofString x)) (.str (Str.ofString x) t) v
/-- what the law reads of the top's heap -/
noncomputable def KK : Params → Frag := fun P => [
  (3, Obj.mk (Value.type "dict") none (Data.dict #[de P "__name__" 165 (sv "law_oy0102_01" 346), de P "__doc__" 166 Value.none, de P "__package__" 167 Value.none, de P "__loader__" 168 (Value.builtin "__main__.__loader__#opaque"), de P "__spec__" 169 Value.none, de P "__annotations__" 170 (Value.ref 6), de P "__builtins__" 171 (Value.ref 4), de P "__file__" 173 (sv "/claim/cut.py" 172), de P "__cached__" 174 Value.none, de P "_wall" 193 (Value.ref 21), de P "_raise_serialization_error" 202 (Value.ref 28), de P "_escape_cdata" 209 (Value.ref 35), de P "_escape_attrib" 216 (Value.ref 42), de P "bytes_types" 219 (Value.ref 43), de P "_bytes_from_decode_data" 226 (Value.ref 50), de P "Error" 246 (Value.ref 60), de P "_ascii_buffer" 254 (Value.ref 70), de P "_buffer" 262 (Value.ref 77), de P "_truth" 270 (Value.ref 84), de P "_B64" 272 (Value.bytes #[65, 66, 67, 68, 69, 70, 71, 72, 73, 74, 75, 76, 77, 78, 79, 80, 81, 82, 83, 84, 85, 86, 87, 88, 89, 90, 97, 98, 99, 100, 101, 102, 103, 104, 105, 106, 107, 108, 109, 110, 111, 112, 113, 114, 115, 116, 117, 118, 119, 120, 121, 122, 48, 49, 50, 51, 52, 53, 54, 55, 56, 57, 43, 47] 271), de P "_b64_value" 279 (Value.ref 91), de P "a2b_base64" 295 (Value.ref 99), de P "b2a_base64" 309 (Value.ref 107), de P "b64encode" 320 (Value.ref 115), de P "b64decode" 329 (Value.ref 123), de P "sorted_list_difference" 345 (Value.ref 130), de P "_law_parcels" 353 (Value.ref 135), de P "_law_row" 361 (Value.ref 142), de P "_law_plain" 370 (Value.ref 149), de P "_law_read" 376 (Value.ref 154), de P "law" 382 (Value.ref 159)] 31) #[]),
  (34, Obj.mk (.type "code") none (.fields #[sv "_escape_cdata" 203, sv "_escape_cdata" 204, sv "/claim/cut.py" 205, Value.int 7 0, Value.int 1 0, Value.int 0 0, Value.int 0 0, Value.int 3 0, Value.ref 29, Value.bool true, Value.int 181 0, Value.ref 30, Value.none, Value.ref 31, Value.ref 32, Value.ref 33, Value.int 207 0, Value.int 7 0, sv "/claim/cut.py" 208]) #[]),
  (35, fnObj 3 Value.none Value.none "cpy313.xml.etree.ElementTree" 194 34),
  (41, Obj.mk (.type "code") none (.fields #[sv "_escape_attrib" 210, sv "_escape_attrib" 211, sv "/claim/cut.py" 212, Value.int 18 0, Value.int 1 0, Value.int 0 0, Value.int 0 0, Value.int 3 0, Value.ref 36, Value.bool true, Value.int 181 0, Value.ref 37, Value.none, Value.ref 38, Value.ref 39, Value.ref 40, Value.int 214 0, Value.int 18 0, sv "/claim/cut.py" 215]) #[]),
  (42, fnObj 4 Value.none Value.none "cpy313.xml.etree.ElementTree" 194 41),
  (49, Obj.mk (.type "code") none (.fields #[sv "_bytes_from_decode_data" 220, sv "_bytes_from_decode_data" 221, sv "/claim/cut.py" 222, Value.int 39 0, Value.int 1 0, Value.int 0 0, Value.int 0 0, Value.int 3 0, Value.ref 44, Value.bool true, Value.int 181 0, Value.ref 45, Value.none, Value.ref 46, Value.ref 47, Value.ref 48, Value.int 224 0, Value.int 39 0, sv "/claim/cut.py" 225]) #[]),
  (50, fnObj 7 Value.none Value.none "cpy313.base64" 217 49),
  (69, Obj.mk (.type "code") none (.fields #[sv "_ascii_buffer" 247, sv "_ascii_buffer" 248, sv "/claim/cut.py" 249, Value.int 54 0, Value.int 1 0, Value.int 0 0, Value.int 0 0, Value.int 3 0, Value.ref 64, Value.bool true, Value.int 181 0, Value.ref 65, Value.none, Value.ref 66, Value.ref 67, Value.ref 68, Value.int 252 0, Value.int 54 0, sv "/claim/cut.py" 253]) #[]),
  (70, fnObj 10 Value.none Value.none "binascii" 227 69),
  (76, Obj.mk (.type "code") none (.fields #[sv "_buffer" 255, sv "_buffer" 256, sv "/claim/cut.py" 257, Value.int 65 0, Value.int 1 0, Value.int 0 0, Value.int 0 0, Value.int 3 0, Value.ref 71, Value.bool true, Value.int 181 0, Value.ref 72, Value.none, Value.ref 73, Value.ref 74, Value.ref 75, Value.int 260 0, Value.int 65 0, sv "/claim/cut.py" 261]) #[]),
  (77, fnObj 11 Value.none Value.none "binascii" 227 76),
  (83, Obj.mk (.type "code") none (.fields #[sv "_truth" 263, sv "_truth" 264, sv "/claim/cut.py" 265, Value.int 72 0, Value.int 1 0, Value.int 0 0, Value.int 0 0, Value.int 3 0, Value.ref 78, Value.bool true, Value.int 181 0, Value.ref 79, Value.none, Value.ref 80, Value.ref 81, Value.ref 82, Value.int 268 0, Value.int 72 0, sv "/claim/cut.py" 269]) #[]),
  (84, fnObj 12 Value.none Value.none "binascii" 227 83),
  (90, Obj.mk (.type "code") none (.fields #[sv "_b64_value" 273, sv "_b64_value" 274, sv "/claim/cut.py" 275, Value.int 78 0, Value.int 1 0, Value.int 0 0, Value.int 0 0, Value.int 3 0, Value.ref 85, Value.bool true, Value.int 181 0, Value.ref 86, Value.none, Value.ref 87, Value.ref 88, Value.ref 89, Value.int 277 0, Value.int 78 0, sv "/claim/cut.py" 278]) #[]),
  (91, fnObj 14 Value.none Value.none "binascii" 227 90),
  (92, Obj.mk (Value.type "dict") none (Data.dict #[de P "strict_mode" 280 (Value.bool false)] 1) #[]),
  (93, Obj.mk (Value.type "tuple") none (Data.seq #[]) #[]),
  (98, Obj.mk (.type "code") none (.fields #[sv "a2b_base64" 281, sv "a2b_base64" 282, sv "/claim/cut.py" 283, Value.int 90 0, Value.int 1 0, Value.int 1 0, Value.int 1 0, Value.int 3 0, Value.ref 93, Value.bool true, Value.int 181 0, Value.ref 94, Value.none, Value.ref 95, Value.ref 96, Value.ref 97, Value.int 293 0, Value.int 90 0, sv "/claim/cut.py" 294]) #[]),
  (99, fnObj 15 Value.none (Value.ref 92) "binascii" 227 98),
  (100, Obj.mk (Value.type "dict") none (Data.dict #[de P "newline" 296 (Value.bool true)] 1) #[]),
  (106, Obj.mk (.type "code") none (.fields #[sv "b2a_base64" 297, sv "b2a_base64" 298, sv "/claim/cut.py" 299, Value.int 144 0, Value.int 1 0, Value.int 1 0, Value.int 1 0, Value.int 3 0, Value.ref 101, Value.bool true, Value.int 181 0, Value.ref 102, Value.none, Value.ref 103, Value.ref 104, Value.ref 105, Value.int 307 0, Value.int 144 0, sv "/claim/cut.py" 308]) #[]),
  (107, fnObj 16 Value.none (Value.ref 100) "binascii" 227 106),
  (108, Obj.mk (Value.type "tuple") none (Data.seq #[Value.none]) #[]),
  (114, Obj.mk (.type "code") none (.fields #[sv "b64encode" 312, sv "b64encode" 313, sv "/claim/cut.py" 314, Value.int 167 0, Value.int 2 0, Value.int 0 0, Value.int 0 0, Value.int 3 0, Value.ref 109, Value.bool true, Value.int 181 0, Value.ref 110, Value.none, Value.ref 111, Value.ref 112, Value.ref 113, Value.int 318 0, Value.int 167 0, sv "/claim/cut.py" 319]) #[]),
  (115, fnObj 18 (Value.ref 108) Value.none "cpy313.base64" 310 114),
  (116, Obj.mk (Value.type "tuple") none (Data.seq #[Value.none, Value.bool false]) #[]),
  (122, Obj.mk (.type "code") none (.fields #[sv "b64decode" 321, sv "b64decode" 322, sv "/claim/cut.py" 323, Value.int 173 0, Value.int 3 0, Value.int 0 0, Value.int 0 0, Value.int 3 0, Value.ref 117, Value.bool true, Value.int 181 0, Value.ref 118, Value.none, Value.ref 119, Value.ref 120, Value.ref 121, Value.int 327 0, Value.int 173 0, sv "/claim/cut.py" 328]) #[]),
  (123, fnObj 19 (Value.ref 116) Value.none "cpy313.base64" 310 122),
  (129, Obj.mk (.type "code") none (.fields #[sv "sorted_list_difference" 332, sv "sorted_list_difference" 333, sv "/claim/cut.py" 334, Value.int 181 0, Value.int 2 0, Value.int 0 0, Value.int 0 0, Value.int 3 0, Value.ref 124, Value.bool true, Value.int 181 0, Value.ref 125, Value.none, Value.ref 126, Value.ref 127, Value.ref 128, Value.int 343 0, Value.int 181 0, sv "/claim/cut.py" 344]) #[]),
  (130, fnObj 21 Value.none Value.none "cpy313.unittest.util" 330 129),
  (134, Obj.mk (.type "code") none (.fields #[sv "_law_parcels" 348, sv "_law_parcels" 349, sv "/claim/cut.py" 350, Value.int 214 0, Value.int 1 0, Value.int 0 0, Value.int 0 0, Value.int 3 0, Value.ref 131, Value.bool true, Value.int 181 0, Value.ref 132, Value.none, Value.none, Value.none, Value.ref 133, Value.int 351 0, Value.int 214 0, sv "/claim/cut.py" 352]) #[]),
  (135, fnObj 23 Value.none Value.none "law_oy0102_01" 346 134),
  (141, Obj.mk (.type "code") none (.fields #[sv "_law_row" 354, sv "_law_row" 355, sv "/claim/cut.py" 356, Value.int 225 0, Value.int 2 0, Value.int 0 0, Value.int 0 0, Value.int 3 0, Value.ref 136, Value.bool true, Value.int 181 0, Value.ref 137, Value.none, Value.ref 138, Value.ref 139, Value.ref 140, Value.int 359 0, Value.int 225 0, sv "/claim/cut.py" 360]) #[]),
  (142, fnObj 24 Value.none Value.none "law_oy0102_01" 346 141),
  (148, Obj.mk (.type "code") none (.fields #[sv "_law_plain" 362, sv "_law_plain" 363, sv "/claim/cut.py" 364, Value.int 227 0, Value.int 1 0, Value.int 0 0, Value.int 0 0, Value.int 3 0, Value.ref 143, Value.bool true, Value.int 181 0, Value.ref 144, Value.none, Value.ref 145, Value.ref 146, Value.ref 147, Value.int 368 0, Value.int 227 0, sv "/claim/cut.py" 369]) #[]),
  (149, fnObj 25 Value.none Value.none "law_oy0102_01" 346 148),
  (153, Obj.mk (.type "code") none (.fields #[sv "_law_read" 371, sv "_law_read" 372, sv "/claim/cut.py" 373, Value.int 231 0, Value.int 1 0, Value.int 0 0, Value.int 0 0, Value.int 3 0, Value.ref 150, Value.bool true, Value.int 181 0, Value.ref 151, Value.none, Value.none, Value.none, Value.ref 152, Value.int 374 0, Value.int 231 0, sv "/claim/cut.py" 375]) #[]),
  (154, fnObj 26 Value.none Value.none "law_oy0102_01" 346 153)]
noncomputable def KA : List Addr := [3, 34, 35, 41, 42, 49, 50, 69, 70, 76, 77, 83, 84, 90, 91, 92, 93, 98, 99, 100, 106, 107, 108, 114, 115, 116, 122, 123, 129, 130, 134, 135, 141, 142, 148, 149, 153, 154]
end Mine
end

section
open PySem PySem.W PyProof.Rows
namespace Mine
theorem runs_toks {M : Model} {Γ : Ctx} {p : Pos} {t : Sem Fin} {fs : List Frame} {s : Shared} {e : End} {s' : Shared} (h : Runs M Γ p t fs s e s') : s.toks ≤ s'.toks := by
  induction h <;> (try simp only [Shared.setGen] at *) <;> (try omega)
  all_goals (first | exact Nat.le_refl _ | assumption | (dsimp only at *; omega))
theorem wakes_toks {M : Model} {Γ : Ctx} {p : Pos} {g : Nat} {r : Resume} {s : Shared} {res : GenResult} {s' : Shared} (h : Wakes M Γ p g r s res s') : s.toks ≤ s'.toks := by
  unfold Wakes at h
  split at h
  · exact h.elim
  · split at h
    · obtain ⟨_, _, h1, _, _, rfl⟩ := h
      have z := runs_toks h1; exact z
    · rw [h.2]; exact Nat.le_refl _
    · rw [h.2]; exact Nat.le_refl _
  · obtain ⟨_, _, h1, _, _, rfl⟩ := h
    have z := runs_toks h1; exact z
  · rw [h.2]; exact Nat.le_refl _
  · rw [h.2]; exact Nat.le_refl _
open Sem in
theorem wp_toks {α : Type} {M : Model} {Γ : Ctx} (n : Nat) : ∀ (t : Sem α) (Q : α → Pos → Shared → Prop) (E : Value → Pos → Shared → Prop) (p : Pos) (s : Shared), n ≤ s.toks → wp M Γ t Q E p s →
    wp M Γ t (fun a p' s' => Q a p' s' ∧ n ≤ s'.toks) (fun e p' s' => E e p' s' ∧ n ≤ s'.toks) p s := by
  intro t
  induction t with
  | pure a => intro Q E p s hn h; rw [wp] at *; exact ⟨h, hn⟩
  | raise a => intro Q E p s hn h; rw [wp] at *; exact ⟨h, hn⟩
  | load a pt k ih => intro Q E p s hn h; rw [wp] at *; obtain ⟨o, h1, h2⟩ := h; exact ⟨o, h1, ih _ _ _ _ _ hn h2⟩
  | update a pt f k ih => intro Q E p s hn h; rw [wp] at *; exact ⟨h.1, ih _ _ _ _ _ hn h.2⟩
  | choose a n k ih => intro Q E p s hn h; rw [wp] at *; exact ⟨h.1, ih _ _ _ _ _ hn h.2⟩
  | fresh k ih => intro Q E p s hn h; rw [wp] at *; exact ih _ _ _ _ _ (Nat.le_succ_of_le hn) h
  | call c m g l k ih => intro Q E p s hn h; rw [wp] at *; obtain ⟨r, s', h1, h2⟩ := h; exact ⟨r, s', h1, ih _ _ _ _ _ (Nat.le_trans hn (runs_toks h1)) h2⟩
  | genState g k ih => intro Q E p s hn h; rw [wp] at *; obtain ⟨r, h1, h2⟩ := h; exact ⟨r, h1, ih _ _ _ _ _ hn h2⟩
  | resume g r l k ih => intro Q E p s hn h; rw [wp] at *; obtain ⟨r, s', h1, h2⟩ := h; exact ⟨r, s', h1, ih _ _ _ _ _ (Nat.le_trans hn (wakes_toks h1)) h2⟩
  | unsupported _ | finish _ | register _ _ _ | yield _ _ _ _ _ | fork _ _ _ | await _ _ _ _ _ _ => intro Q E p s hn h; rw [wp] at *; exact h
  | rule _ k ih => intro Q E p s hn h; rw [wp] at *; exact ih _ _ _ _ _ hn h
  | «at» _ k ih => intro Q E p s hn h; rw [wp] at *; exact ih _ _ _ _ _ hn h
  | loadIfAlive _ k ih => intro Q E p s hn h; rw [wp] at *; exact ih _ _ _ _ _ hn h
  | point _ k ih => intro Q E p s hn h; rw [wp] at *; exact ih _ _ _ _ _ hn h
  | alloc _ k ih => intro Q E p s hn h; rw [wp] at *; exact ih _ _ _ _ _ hn h
  | ask k ih => intro Q E p s hn h; rw [wp] at *; exact ih _ _ _ _ _ hn h
  | os _ _ k ih => intro Q E p s hn h; rw [wp] at *; exact ih _ _ _ _ _ hn h
  | handled _ k ih => intro Q E p s hn h; rw [wp] at *; exact ih _ _ _ _ _ hn h
  | newGen _ k ih => intro Q E p s hn h; rw [wp] at *; exact ih _ _ _ _ _ hn h
  | stack k ih => intro Q E p s hn h; rw [wp] at *; exact ih _ _ _ _ _ hn h
  | thread k ih => intro Q E p s hn h; rw [wp] at *; exact ih _ _ _ _ _ hn h
section
variable {α : Type} {M : Model} {A : Around} {t : Sem α} {Q : α → Shared → Prop} {E : Value → Shared → Prop} {s : Shared}
theorem wpAny_keep (h : wpAny M A t (fun a s' => s.toks ≤ s'.toks → Q a s') (fun e s' => s.toks ≤ s'.toks → E e s') s) : wpAny M A t Q E s :=
  fun Γ p hΓ => Sem.wp_mono M Γ t (fun _ _ _ h => h.1 h.2) (fun _ _ _ h => h.1 h.2) p s (wp_toks s.toks t _ _ p s (Nat.le_refl _) (h Γ p hΓ))
/-- the machine's count of values made never falls -/
theorem codeAny_keep {c : Code} {R : Result → Shared → Prop} (h : codeAny M A c (fun r s' => s.toks ≤ s'.toks → R r s') s) : codeAny M A c R s := fun Γ p hc hb => by
  obtain ⟨r, s', h1, h2⟩ := h Γ p hc hb
  exact ⟨r, s', h1, h2 (runs_toks h1)⟩
theorem gentoks {h : Heap} {g : Array GenState} {d : Drawn} {k : Nat} {o : OsState} (x : ∀ tk, 0 < tk → wpAny M A t Q E ⟨h, g, d, tk, o⟩) : wpAny M A t Q E ⟨h, g, d, k + 1, o⟩ := x _ (Nat.succ_pos _)
end
end Mine
end

section
open PySem PySem.W PyProof.Rows PySem.Calls
set_option maxRecDepth 100000
set_option maxHeartbeats 400000
set_option linter.unusedVariables false
set_option linter.unusedSimpArgs false
namespace Mine
/-- all that h holds, h' holds likewise -/
noncomputable def Keeps (h h' : Heap) : Prop := ∀ b o, h.get? b = some o → h'.get? b = some o
theorem Keeps.refl (h : Heap) : Keeps h h := fun _ _ e => e
theorem Keeps.trans {a b c : Heap} (x : Keeps a b) (y : Keeps b c) : Keeps a c := fun _ _ e => y _ _ (x _ _ e)
theorem Keeps.list {h h' : Heap} {l : Addr} {vs : Array Value} (k : Keeps h h') (x : h.IsList l vs) : h'.IsList l vs := x.at fun o e => k l o e
noncomputable abbrev S (x : String) : Str := Str.ofString x
open Builtin.Str in
theorem repl_len (x c r : Str) : (Txt.replace x c r).length ≤ x.length + (x.length + 1) * r.length := by
  unfold Txt.replace
  split
  · exact Nat.le_add_right _ _
  · have h1 := StrLaws.occ_length_le x c 0 x.length (x.length + 1)
    have hy : (glued c (partsBetween x (occurrences x c 0 x.length (x.length + 1)) c.length)).length = x.length := by rw [StrLaws.glued_between_self]
    rw [size_glued, length_partsBetween, Nat.add_sub_cancel] at hy
    rw [size_glued, length_partsBetween, Nat.add_sub_cancel]
    have h2 : (occurrences x c 0 x.length (x.length + 1)).length * r.length ≤ (x.length + 1) * r.length := Nat.mul_le_mul_right _ h1
    omega
noncomputable def escC (x : Str) : Str := Txt.replace (Txt.replace (Txt.replace x (S "&") (S "&amp;")) (S "<") (S "&lt;")) (S ">") (S "&gt;")
noncomputable def escA (x : Str) : Str := Txt.replace (Txt.replace (Txt.replace (Txt.replace (escC x) (S "\"") (S "&quot;")) (S "\r") (S "&#13;")) (S "\n") (S "&#10;")) (S "\t") (S "&#09;")
noncomputable abbrev b64l : List UInt8 := [65, 66, 67, 68, 69, 70, 71, 72, 73, 74, 75, 76, 77, 78, 79, 80, 81, 82, 83, 84, 85, 86, 87, 88, 89, 90, 97, 98, 99, 100, 101, 102, 103, 104, 105, 106, 107, 108, 109, 110, 111, 112, 113, 114, 115, 116, 117, 118, 119, 120, 121, 122, 48, 49, 50, 51, 52, 53, 54, 55, 56, 57, 43, 47]
/-- the sign for a figure, as an octet -/
noncomputable def kb (n : Nat) : UInt8 := b64l.getD n 0
noncomputable def enc1 (a : UInt8) : Array UInt8 := #[kb (a.toNat / 4), kb (a.toNat % 4 * 16), 61, 61]
noncomputable def enc2 (a b : UInt8) : Array UInt8 := #[kb (a.toNat / 4), kb (a.toNat % 4 * 16 + b.toNat / 16), kb (b.toNat % 16 * 4), 61]
noncomputable def enc3 (a b c : UInt8) : Array UInt8 := #[kb (a.toNat / 4), kb (a.toNat % 4 * 16 + b.toNat / 16), kb (b.toNat % 16 * 4 + c.toNat / 64), kb (c.toNat % 64)]
/-- the base64 octets of at most three octets -/
noncomputable def enc (b : Array UInt8) : Array UInt8 := match b.toList with
  | [] => #[]
  | [a] => enc1 a
  | [a, b] => enc2 a b
  | [a, b, c] => enc3 a b c
  | _ => #[]
/-- .. and their text -/
noncomputable def txt (b : Array UInt8) : Str := ⟨((enc b).toList.map (·.toNat)).toArray⟩
theorem small_cases {b : Array UInt8} (h : b.size ≤ 3) : b = #[] ∨ (∃ x, b = #[x]) ∨ (∃ x y, b = #[x, y]) ∨ ∃ x y z, b = #[x, y, z] := by
  obtain ⟨l⟩ := b
  match l, h with
  | [], _ => exact .inl rfl
  | [x], _ => exact .inr (.inl ⟨x, rfl⟩)
  | [x, y], _ => exact .inr (.inr (.inl ⟨x, y, rfl⟩))
  | [x, y, z], _ => exact .inr (.inr (.inr ⟨x, y, z, rfl⟩))
  | _ :: _ :: _ :: _ :: _, h => simp at h
noncomputable def row (x : Str) (b : Array UInt8) : Str := S "<file name=\"" ++ escA x ++ S "\">" ++ txt b ++ S "</file>" ++ escC x
end Mine
end

section
open PySem PySem.W PyProof.Rows PySem.Calls
set_option maxRecDepth 100000
set_option maxHeartbeats 8000000
set_option linter.unusedVariables false
set_option linter.unusedSimpArgs false
namespace Mine
/-- all that stands is kept, but for the frame at L, whose names are kept -/
structure KP (L : Addr) (h h' : Heap) : Prop where
  off : ∀ b o, b ≠ L → h.get? b = some o → h'.get? b = some o
  ns : ∀ m, h.Ns L m → h'.Ns L m
theorem KP.refl (L : Addr) (h : Heap) : KP L h h := ⟨fun _ _ _ e => e, fun _ e => e⟩
theorem KP.trans {L : Addr} {a b c : Heap} (x : KP L a b) (y : KP L b c) : KP L a c := ⟨fun p o n e => y.off p o n (x.off p o n e), fun m e => y.ns m (x.ns m e)⟩
theorem Keeps.kp {L : Addr} {h h' : Heap} (k : Keeps h h') : KP L h h' := ⟨fun b o _ e => k b o e, fun m e => e.keeps k⟩
theorem KP.fr {h₀ h h' : Heap} {L : Addr} {m : Str → Option Value} (k : KP L h h') (F : Fr h₀ L h m) : Fr h₀ L h' m :=
  ⟨k.ns m F.ns, fun b o e => k.off b o (Nat.ne_of_lt (Nat.lt_of_lt_of_le (Heap.lt_size e) F.above)) (F.keep b o e), F.above⟩
/-- a step of the machine: from the heap h it ends with a value and a heap of which P holds -/
noncomputable def Tri {α : Type} (M : Model) (A : Around) (t : Sem α) (P : α → Heap → Prop) (h : Heap) : Prop :=
  ∀ (s : Shared) (Q : α → Shared → Prop) (E : Value → Shared → Prop), s.heap = h → 0 < s.toks → (∀ a h' tk, 0 < tk → P a h' → Q a { s with heap := h', toks := tk }) → wpAny M A t Q E s
noncomputable def TriC (M : Model) (A : Around) (c : Code) (P : Heap → Prop) (h : Heap) : Prop :=
  ∀ (s : Shared) (R : Result → Shared → Prop), s.heap = h → 0 < s.toks → (∀ h' tk, 0 < tk → P h' → R (.ok .next) { s with heap := h', toks := tk }) → codeAny M A c R s
section
variable {α β : Type} {M : Model} {A : Around} {h : Heap}
theorem Tri.mono {t : Sem α} {P P' : α → Heap → Prop} (x : Tri M A t P h) (k : ∀ a h', P a h' → P' a h') : Tri M A t P' h :=
  fun s Q E e ht hQ => x s Q E e ht fun a h' tk htk hp => hQ a h' tk htk (k a h' hp)
theorem Tri.bind {t : Sem α} {f : α → Sem β} {P : α → Heap → Prop} {R : β → Heap → Prop} (x : Tri M A t P h) (k : ∀ a h', P a h' → Tri M A (f a) R h') : Tri M A (t >>= f) R h :=
  fun s Q E e ht hQ => wpAny_bind (x s _ E e ht fun a h' tk htk hp => k a h' hp _ Q E rfl htk hQ)
theorem Tri.pure {a : α} {P : α → Heap → Prop} (x : P a h) : Tri M A (pure a) P h :=
  fun s Q E e ht hQ => wpAny_pure (by subst e; exact hQ a s.heap s.toks ht x)
theorem Tri.of_eq {t : Sem α} {a : α} {P : α → Heap → Prop} (e : t = Pure.pure a) (x : P a h) : Tri M A t P h := by subst e; exact Tri.pure x
theorem Tri.stand {p : Pos} {f : Unit → Sem β} {R : β → Heap → Prop} (x : Tri M A (f ()) R h) : Tri M A (standAt p >>= f) R h :=
  fun s Q E e ht hQ => wpAny_bind (wpAny_standAt (x s Q E e ht hQ))
/-- a rule of the library whose end changes the heap and the count alone -/
theorem Tri.use {t : Sem α} {P : α → Heap → Prop} (x : Tri M A t P h) {s : Shared} {Q : α → Shared → Prop} {E : Value → Shared → Prop} (e : s.heap = h) (ht : 0 < s.toks)
    (k : ∀ a h' tk, 0 < tk → P a h' → Q a { s with heap := h', toks := tk }) : wpAny M A t Q E s := x s Q E e ht k
end
/-- a reading of values: what the value v stands for in the heap h, by objects off G -/
structure Rel (α : Type) where
  r : List Addr → Heap → Value → α → Prop
  mono : ∀ {G h h' v a}, r G h v a → (∀ b o, b ∉ G → h.get? b = some o → h'.get? b = some o) → r G h' v a
  anti : ∀ {G G' h v a}, r G h v a → (∀ b ∈ G', b ∈ G) → r G' h v a
  fresh : ∀ {G h v a D}, r G h v a → h.get? D = none → r (D :: G) h v a
theorem Rel.kp {α : Type} (R : Rel α) {G : List Addr} {h h' : Heap} {v : Value} {a : α} {L : Addr} (x : R.r G h v a) (k : KP L h h') (hL : L ∈ G) : R.r G h' v a :=
  R.mono x fun b o n e => k.off b o (fun q => n (q ▸ hL)) e
theorem Rel.fresh2 {α : Type} (R : Rel α) {h : Heap} {v : Value} {a : α} {G : List Addr} : ∀ (N : List Addr), R.r G h v a → (∀ b ∈ N, h.get? b = none) → R.r (N ++ G) h v a
  | [], x, _ => x
  | b :: N, x, hn => R.fresh (R.fresh2 N x fun c hc => hn c (.tail _ hc)) (hn b (.head _))
noncomputable def rStr : Rel Str := ⟨fun _ _ v x => ∃ t, v = .str x t, fun x _ => x, fun x _ => x, fun x _ => x⟩
noncomputable def rBytes : Rel (Array UInt8) := ⟨fun _ _ v x => ∃ t, v = .bytes x t, fun x _ => x, fun x _ => x, fun x _ => x⟩
noncomputable def rInt : Rel Int := ⟨fun _ _ v x => ∃ t, v = .int x t, fun x _ => x, fun x _ => x, fun x _ => x⟩
theorem ne_fresh {h : Heap} {a D : Addr} {o : Obj} (x : h.get? a = some o) (y : h.get? D = none) : a ≠ D := fun e => by rw [e, y] at x; cases x
noncomputable def rLst {α : Type} (R : Rel α) : Rel (List α) where
  r := fun G h v l => ∃ a vs, v = .ref a ∧ a ∉ G ∧ h.IsList a vs ∧ vs.size = l.length ∧ ∀ (i : Nat) u x, vs[i]? = some u → l[i]? = some x → R.r G h u x
  mono := fun ⟨a, vs, e, n, hl, hs, hr⟩ k => ⟨a, vs, e, n, hl.at fun o q => k a o n q, hs, fun i u x p q => R.mono (hr i u x p q) k⟩
  anti := fun ⟨a, vs, e, n, hl, hs, hr⟩ k => ⟨a, vs, e, fun q => n (k a q), hl, hs, fun i u x p q => R.anti (hr i u x p q) k⟩
  fresh := fun ⟨a, vs, e, n, hl, hs, hr⟩ k => ⟨a, vs, e, fun q => by
    rcases List.mem_cons.mp q with q | q
    · obtain ⟨o, ho, _⟩ := hl; exact ne_fresh ho k q
    · exact n q, hl, hs, fun i u x p q => R.fresh (hr i u x p q) k⟩
noncomputable def rTup2 {α β : Type} (R : Rel α) (S : Rel β) : Rel (α × β) where
  r := fun G h v p => ∃ a v1 v2, v = .ref a ∧ a ∉ G ∧ h.IsTuple a #[v1, v2] ∧ R.r G h v1 p.1 ∧ S.r G h v2 p.2
  mono := fun ⟨a, v1, v2, e, n, hl, h1, h2⟩ k => ⟨a, v1, v2, e, n, hl.at fun o q => k a o n q, R.mono h1 k, S.mono h2 k⟩
  anti := fun ⟨a, v1, v2, e, n, hl, h1, h2⟩ k => ⟨a, v1, v2, e, fun q => n (k a q), hl, R.anti h1 k, S.anti h2 k⟩
  fresh := fun ⟨a, v1, v2, e, n, hl, h1, h2⟩ k => ⟨a, v1, v2, e, fun q => by
    rcases List.mem_cons.mp q with q | q
    · obtain ⟨o, ho, _⟩ := hl; exact ne_fresh ho k q
    · exact n q, hl, R.fresh h1 k, S.fresh h2 k⟩
noncomputable def rTup3 {α β γ : Type} (R : Rel α) (S : Rel β) (T : Rel γ) : Rel (α × β × γ) where
  r := fun G h v p => ∃ a v1 v2 v3, v = .ref a ∧ a ∉ G ∧ h.IsTuple a #[v1, v2, v3] ∧ R.r G h v1 p.1 ∧ S.r G h v2 p.2.1 ∧ T.r G h v3 p.2.2
  mono := fun ⟨a, v1, v2, v3, e, n, hl, h1, h2, h3⟩ k => ⟨a, v1, v2, v3, e, n, hl.at fun o q => k a o n q, R.mono h1 k, S.mono h2 k, T.mono h3 k⟩
  anti := fun ⟨a, v1, v2, v3, e, n, hl, h1, h2, h3⟩ k => ⟨a, v1, v2, v3, e, fun q => n (k a q), hl, R.anti h1 k, S.anti h2 k, T.anti h3 k⟩
  fresh := fun ⟨a, v1, v2, v3, e, n, hl, h1, h2, h3⟩ k => ⟨a, v1, v2, v3, e, fun q => by
    rcases List.mem_cons.mp q with q | q
    · obtain ⟨o, ho, _⟩ := hl; exact ne_fresh ho k q
    · exact n q, hl, R.fresh h1 k, S.fresh h2 k, T.fresh h3 k⟩
section
variable {prog : Program} {w : World} {A : Around}
/-- a comprehension's loop, over any walk, by what holds between the turns -/
theorem comp_loop {e : Expr} {d : Nat} {I : Addr} {acc : Value} {env : Env} {p : Pos} {body : Value → Sem Unit} {fp wr : List Addr} {n : Nat} {Pv : Nat → Value → Prop} {St : Nat → Heap → Prop} {h : Heap}
    (Inv : Nat → Heap → Prop) (hq : (Code.compLoop e d (.ref I) acc env).quiet = true) (hf : (Code.compLoop e d (.ref I) acc env).isFrame = false)
    (hT : compTurn e d (.ref I) acc env = (standAt p >>= fun _ => pyNext (.ref I) >>= fun r => match r with
      | none => pure (.done .next)
      | some v => body v >>= fun _ => again (.compLoop e d (.ref I) acc env)))
    (hu : A.under (Code.compLoop e d (.ref I) acc env) = A)
    (W : Walks prog w A I fp wr n Pv St)
    (stab : ∀ i h h', Inv i h → (∀ b o, b ∉ wr → h.get? b = some o → h'.get? b = some o) → Inv i h')
    (turn : ∀ i v h, i < n → Pv i v → St (i + 1) h → Inv i h → Tri (model prog w) A (body v) (fun _ h' => St (i + 1) h' ∧ Inv (i + 1) h') h)
    (h0 : St 0 h) (hI : Inv 0 h) : TriC (model prog w) A (.compLoop e d (.ref I) acc env) (fun h' => Inv n h') h := by
  intro s R hs ht hR
  subst hs
  refine codeAny_loop hq (fun k s' => ∃ i h' tk, k = n + 1 - i ∧ i ≤ n ∧ s' = { s with heap := h', toks := tk } ∧ 0 < tk ∧ St i h' ∧ Inv i h') ?_ (n + 1) ⟨0, s.heap, s.toks, rfl, Nat.zero_le _, rfl, ht, h0, hI⟩
  rintro k s' ⟨i, h', tk, rfl, hi, rfl, htk, hst, hinv⟩
  rw [hu]
  have hden : (model prog w).den (.compLoop e d (.ref I) acc env) = (compTurn e d (.ref I) acc env).onRaise (fun x => do noteFrame x env; theTreesLotGoes x) := by
    show (if (Code.compLoop e d (.ref I) acc env).isFrame = true then _ else _) = _
    rw [hf]; rfl
  rw [hden]
  refine wpAny_noted ?_
  rw [hT]
  refine wpAny_bind (wpAny_standAt (wpAny_bind (wpAny_keep ?_)))
  by_cases hlt : i < n
  · refine W.item i _ _ _ hlt hst fun v h₁ tk₁ hv hst₁ hk₁ htk₁ => ?_
    have htk₁' : 0 < tk₁ := Nat.lt_of_lt_of_le htk htk₁
    refine wpAny_bind ((turn i v h₁ hlt hv hst₁ (stab i _ _ hinv hk₁)).use rfl htk₁' fun _ h₂ tk₂ htk₂ hp => ?_)
    exact wpAny_pure ⟨rfl, n + 1 - (i + 1), by omega, i + 1, h₂, tk₂, rfl, hlt, rfl, htk₂, hp.1, hp.2⟩
  · obtain rfl : i = n := by omega
    refine W.done _ _ _ hst fun h₁ tk₁ hk₁ htk₁ => ?_
    exact wpAny_pure (hR h₁ tk₁ (Nat.lt_of_lt_of_le htk htk₁) (stab i _ _ hinv hk₁))
end
end Mine
end

section
open PySem PySem.W PyProof.Rows PySem.Calls
set_option maxRecDepth 100000
set_option maxHeartbeats 8000000
set_option linter.unusedVariables false
set_option linter.unusedSimpArgs false
namespace Mine
/-- all that stands off M is kept -/
noncomputable def KM (M : List Addr) (h h' : Heap) : Prop := ∀ b o, b ∉ M → h.get? b = some o → h'.get? b = some o
theorem KM.refl (M : List Addr) (h : Heap) : KM M h h := fun _ _ _ e => e
theorem KM.trans {M : List Addr} {a b c : Heap} (x : KM M a b) (y : KM M b c) : KM M a c := fun p o n e => y p o n (x p o n e)
theorem Keeps.km {M : List Addr} {h h' : Heap} (k : Keeps h h') : KM M h h' := fun b o _ e => k b o e
theorem KM.more {M M' : List Addr} {h h' : Heap} (k : KM M h h') (s : ∀ b ∈ M, b ∈ M') : KM M' h h' := fun b o n e => k b o (fun q => n (s b q)) e
theorem km_but {a : Addr} {h h' : Heap} {M : List Addr} (s : Heap.SameBut a h h') (ha : a ∈ M) : KM M h h' := fun b o n e => s.extBut b o (fun q => n (q ▸ ha)) e
theorem KM.of {M : List Addr} {g h h' : Heap} (k : KM M h h') (x : Keeps g h) (f : ∀ b ∈ M, g.get? b = none) : Keeps g h' := fun b o e => k b o (fun q => by rw [f b q] at e; cases e) (x b o e)
theorem KM.list {M : List Addr} {h h' : Heap} {l : Addr} {vs : Array Value} (k : KM M h h') (x : h.IsList l vs) (n : l ∉ M) : h'.IsList l vs := x.at fun o e => k l o n e
theorem KM.tup {M : List Addr} {h h' : Heap} {l : Addr} {vs : Array Value} (k : KM M h h') (x : h.IsTuple l vs) (n : l ∉ M) : h'.IsTuple l vs := x.at fun o e => k l o n e
theorem KM.ns {M : List Addr} {h h' : Heap} {l : Addr} {m : Str → Option Value} (k : KM M h h') (x : h.Ns l m) (n : l ∉ M) : h'.Ns l m := x.at' fun o e => k l o n e
theorem KM.cell {M : List Addr} {h h' : Heap} {c : Addr} {v : Option Value} (k : KM M h h') (x : h.IsCell c v) (n : c ∉ M) : h'.IsCell c v := let ⟨o, ho, hd⟩ := x; ⟨o, k c o n ho, hd⟩
theorem Rel.km {α : Type} (R : Rel α) {G M : List Addr} {h h' : Heap} {v : Value} {a : α} (x : R.r G h v a) (k : KM M h h') (s : ∀ b ∈ M, b ∈ G) : R.r G h' v a :=
  R.mono x fun b o n e => k b o (fun q => n (s b q)) e
theorem Rel.kp' {α : Type} (R : Rel α) {G : List Addr} {h h' : Heap} {v : Value} {a : α} (x : R.r G h v a) (k : Keeps h h') : R.r G h' v a := R.mono x fun b o _ e => k b o e
noncomputable def Live (G : List Addr) (h : Heap) : Prop := ∀ b ∈ G, ∃ o, h.get? b = some o
theorem Live.km {G M : List Addr} {h h' : Heap} (l : Live G h) (k : KM M h h') (x : ∀ b ∈ M, ∃ o, h'.get? b = some o) : Live G h' := fun b hb => by
  by_cases q : b ∈ M
  · exact x b q
  · obtain ⟨o, e⟩ := l b hb; exact ⟨o, k b o q e⟩
theorem Live.keeps {G : List Addr} {h h' : Heap} (l : Live G h) (k : Keeps h h') : Live G h' := fun b hb => let ⟨o, e⟩ := l b hb; ⟨o, k b o e⟩
theorem Live.app {G N : List Addr} {h : Heap} (x : Live N h) (y : Live G h) : Live (N ++ G) h := fun b hb => (List.mem_append.mp hb).elim (x b) (y b)
theorem fresh_of {h : Heap} {G : List Addr} {a : Addr} (l : Live G h) (e : h.get? a = none) : a ∉ G := fun q => by obtain ⟨o, x⟩ := l a q; rw [e] at x; cases x
theorem Keeps.none {h h' : Heap} (k : Keeps h h') {b : Addr} (e : h'.get? b = none) : h.get? b = none := by
  cases q : h.get? b with
  | none => rfl
  | some o => rw [k b o q] at e; cases e
/-- the list at D holds what R reads as l -/
noncomputable def AccIs {α : Type} (R : Rel α) (G : List Addr) (h : Heap) (D : Addr) (l : List α) : Prop :=
  ∃ ys : Array Value, h.IsList D ys ∧ ys.size = l.length ∧ ∀ (j : Nat) u x, ys[j]? = some u → l[j]? = some x → R.r G h u x
theorem AccIs.km {α : Type} {R : Rel α} {G M : List Addr} {h h' : Heap} {D : Addr} {l : List α} (x : AccIs R G h D l) (k : KM M h h') (n : D ∉ M) (s : ∀ b ∈ M, b ∈ G) : AccIs R G h' D l :=
  let ⟨ys, a, b, c⟩ := x; ⟨ys, k.list a n, b, fun j u x p q => R.km (c j u x p q) k s⟩
theorem AccIs.push {α : Type} {R : Rel α} {G : List Addr} {h h' : Heap} {D : Addr} {l : List α} {ys : Array Value} {y : Value} {a : α} (hys : ys.size = l.length) (hr : ∀ (j : Nat) u x, ys[j]? = some u → l[j]? = some x → R.r G h' u x)
    (hl : h'.IsList D (ys.push y)) (hy : R.r G h' y a) : AccIs R G h' D (l ++ [a]) := by
  refine ⟨_, hl, by simp [hys], fun j u x hju hjx => ?_⟩
  rw [Array.getElem?_push] at hju
  split at hju
  · rename_i hj
    cases hju
    rw [hj, hys] at hjx
    simp at hjx
    exact hjx ▸ hy
  · rename_i hj
    by_cases hlt : j < l.length
    · rw [List.getElem?_append_left hlt] at hjx
      exact hr j u x hju hjx
    · rw [Array.getElem?_eq_none (by omega)] at hju; cases hju
noncomputable def cellsOf (cq : Option Str) (n : Nat) (acc : List (Str × Addr)) : List (Str × Addr) := match cq with | some q => (q, n) :: acc | none => acc
noncomputable def pushOf (cq : Option Str) (h : Heap) : Heap := match cq with | some _ => h.push { cls := .type "cell", data := .cell none } | none => h
noncomputable def addrsOf (cq : Option Str) (n : Nat) : List Addr := match cq with | some _ => [n] | none => []
/-- the cells that a block's scope makes: none, or one -/
structure OneCell (scope : Scope) (cq : Option Str) : Prop where
  src : ∀ n acc, cellsFrom n scope.names acc = cellsOf cq n acc
  lay : ∀ h, pushCells h scope.names = pushOf cq h
theorem pushOf_keeps (cq : Option Str) (h : Heap) : Keeps h (pushOf cq h) := fun b o e => by
  cases cq with
  | none => exact e
  | some q => exact Heap.get?_push_of_some _ e
theorem newEnvC {M : Model} {A : Around} {E : Value → Shared → Prop} {scope : Scope} {env : Env} {cl : List (Str × Addr)} {cq : Option Str} {Q : Env → Shared → Prop} {s : Shared} (oc : OneCell scope cq)
    (hQ : Q (newEnv scope s.heap.objs.size env.globals (cellsOf cq (s.heap.objs.size + 1) cl) env.qual none .none (some env) builtinsNs) { s with heap := pushOf cq (s.heap.push { cls := .type "dict", data := .dict #[] }) }) :
    wpAny M A (newFunctionEnv scope env.globals cl [] env.qual none .none (some env)) Q E s := by
  simp only [newFunctionEnv, Option.isSome_some, if_true]
  refine wpAny_bind (wpAny_alloc ?_)
  refine wpAny_bind (wpAny_layCells _ (fun name kind cells => by cases hkc : kind == NameKind.cell <;> simp [hkc]) _ _ _ _ ?_)
  rw [oc.src, oc.lay]
  rw [show ({ s with heap := s.heap.push { cls := .type "dict", data := .dict #[] } } : Shared).heap.objs.size = s.heap.objs.size + 1 from Heap.size_push ..]
  rw [List.forIn_nil]
  exact wpAny_bind (wpAny_pure (wpAny_pure hQ))
section
variable {prog : Program} {w : World} {A : Around} {env : Env}
theorem comp_go {elt target iter : Expr} {ifs : List Expr} {rest : List Comprehension} {scope : Scope} {pos : Pos} {cl : List (Str × Addr)} {h : Heap} {S : Addr → Heap → Prop} {P : Value → Heap → Prop} {cq : Option Str}
    (hclos : closureFor scope env = pure cl) (oc : OneCell scope cq) (hkind : scope.kind = .function) (hnames : ∀ y ∈ scope.names, y.2 = .local → scope.names.lookup y.1 = some .local)
    (src : Tri (model prog w) A (eval iter env) (fun x h₁ => Tri (model prog w) A (pyIter x) (fun it h₂ => ∃ I, it = .ref I ∧ S I h₂) h₁) h)
    (run : ∀ I h₂ h₃ D C, S I h₂ → h₂.get? D = none → h₂.get? C = none → D ≠ C → (∀ b ∈ addrsOf cq (C + 1), h₂.get? b = none ∧ b ≠ D ∧ b ≠ C ∧ h₃.IsCell b none) → Keeps h₂ h₃ → h₃.IsList D #[] → h₃.Ns C (fun _ => none) →
      (∀ (s : Shared) (Q : Value → Shared → Prop) (E : Value → Shared → Prop), s.heap = h₃ → Q (.ref I) s → wpAny (model prog w) A (pyIter (.ref I)) Q E s) ∧
      TriC (model prog w) A (.compLoop (.ListComp elt (⟨target, iter, ifs, 0⟩ :: rest) scope pos) 0 (.ref I) (.ref D) (compEnvC scope (cellsOf cq (C + 1) cl) C env)) (fun h' => (∃ m, h'.Ns C m) ∧ ∀ h'', Heap.SameBut C h' h'' → P (.ref D) h'') h₃)
    (hs : ∀ x, foldedSetIterable iter env x = pure x) :
    Tri (model prog w) A (eval (.ListComp elt (⟨target, iter, ifs, 0⟩ :: rest) scope pos) env) P h := by
  intro s Q E he ht hQ
  rw [eval_ListComp]
  refine wpAny_comprehension_free (use := none) rfl hs hclos hkind hnames ?_
  refine src.use he ht fun x h₁ tk₁ ht₁ hx => ?_
  refine hx.use rfl ht₁ fun it h₂ tk₂ ht₂ hit => ?_
  obtain ⟨I, rfl, hS⟩ := hit
  refine wpAny_newObj_type ?_
  refine newEnvC oc ?_
  dsimp only
  generalize hH2 : h₂.push { cls := .type "list", dict := none, data := .seq ([] : List Value).toArray } = H2
  have hC : H2.objs.size = h₂.objs.size + 1 := by rw [← hH2, Heap.size_push]
  generalize hH3 : pushOf cq (H2.push { cls := .type "dict", data := .dict #[] }) = h₃
  have hDC : h₂.objs.size ≠ H2.objs.size := by rw [hC]; exact Nat.ne_of_lt (Nat.lt_succ_self _)
  have k23 : Keeps h₂ H2 := fun b o e => hH2 ▸ Heap.get?_push_of_some _ e
  have k33 : Keeps (H2.push { cls := .type "dict", data := .dict #[] }) h₃ := hH3 ▸ pushOf_keeps cq _
  have k3 : Keeps H2 h₃ := fun b o e => k33 b o (Heap.get?_push_of_some _ e)
  have hacc : h₃.IsList h₂.objs.size #[] := ⟨_, k3 _ _ (hH2 ▸ Heap.get?_push_size _ rfl), rfl, _, rfl⟩
  have hns₃ : h₃.Ns H2.objs.size (fun _ => none) := (Heap.Ns.new H2 (.type "dict")).keeps k33
  have hcs : ∀ b ∈ addrsOf cq (H2.objs.size + 1), h₂.get? b = none ∧ b ≠ h₂.objs.size ∧ b ≠ H2.objs.size ∧ h₃.IsCell b none := by
    intro b hb
    cases cq with
    | none => cases hb
    | some q =>
      have hb' : b = H2.objs.size + 1 := List.mem_singleton.mp hb
      subst hb'
      have hle : h₂.objs.size ≤ H2.objs.size := hC ▸ Nat.le_succ _
      refine ⟨Heap.get?_none_of_le (Nat.le_succ_of_le hle), Nat.ne_of_gt (Nat.lt_succ_of_le hle), Nat.ne_of_gt (Nat.lt_succ_self _), ?_⟩
      refine ⟨{ cls := .type "cell", data := .cell none }, ?_, rfl⟩
      rw [← hH3]
      have : H2.objs.size + 1 = (H2.push { cls := .type "dict", data := .dict #[] }).objs.size := (Heap.size_push ..).symm
      rw [this]
      exact Heap.get?_push_size _ rfl
  have r := run I h₂ h₃ h₂.objs.size H2.objs.size hS (Heap.get?_none_of_le (Nat.le_refl _)) (Heap.get?_none_of_le (by rw [hC]; exact Nat.le_succ _)) hDC hcs (Keeps.trans k23 k3) hacc hns₃
  have fin : ∀ tk', 0 < tk' → codeAny (model prog w) A (.compLoop (.ListComp elt (⟨target, iter, ifs, 0⟩ :: rest) scope pos) 0 (.ref I) (.ref h₂.objs.size) (compEnvC scope (cellsOf cq (H2.objs.size + 1) cl) H2.objs.size env))
      (compPost (model prog w) A E none Q (.ref h₂.objs.size) H2.objs.size) { s with heap := h₃, toks := tk' } := fun tk' htk' =>
    r.2 _ _ rfl htk' fun h' tk hk hp => by
      obtain ⟨⟨m, hm⟩, hP⟩ := hp
      exact ⟨m, hm, fun h'' hs'' => hQ _ h'' tk hk (hP h'' hs'')⟩
  exact codeAny_compStart_list (fin _ ht₂) (r.1 _ _ _ rfl (fin _ ht₂))
/-- a source: what the clause's iterable gives to walk along -/
noncomputable def Src (prog : Program) (w : World) (A : Around) (target : Expr) (h : Heap) (n : Nat) (Pv : Nat → Value → Prop) (I : Addr) (h₂ : Heap) : Prop :=
  Keeps h h₂ ∧ ∃ fp wr St, Walks prog w A I fp wr n Pv St ∧ St 0 h₂ ∧ (∀ b ∈ fp, ∃ o, h₂.get? b = some o) ∧ (∀ b ∈ wr, h.get? b = none) ∧ (∀ i h', St i h' → ∀ b ∈ wr, ∃ o, h'.get? b = some o) ∧
    ∀ i h' v, St i h' → Tri (model prog w) A (letOwnedTupleGo target (.ref I) v) (fun _ h'' => h'' = h') h'
/-- the scratch of a block: its list, its frame, its cell -/
noncomputable def scr (D C : Addr) (cs : List Addr) : List Addr := D :: C :: cs
noncomputable def FrameOk (h : Heap) (C : Addr) (cs : List Addr) : Prop := (∃ m, h.Ns C m) ∧ ∀ c ∈ cs, ∃ v, h.IsCell c v
/-- a block whose turns add to its list -/
theorem comp_acc {α : Type} (R : Rel α) (outs : Nat → List α) {n : Nat} {elt target iter : Expr} {ifs : List Expr} {rest : List Comprehension} {scope : Scope} {pos : Pos} {cl : List (Str × Addr)} {h : Heap} {G₀ : List Addr} {Pv : Nat → Value → Prop} {cq : Option Str}
    (body : Addr → Addr → List Addr → Value → Sem Unit)
    (hT : ∀ I D C cs, compTurn (.ListComp elt (⟨target, iter, ifs, 0⟩ :: rest) scope pos) 0 (.ref I) (.ref D) (compEnvC scope (cellsOf cq (C + 1) cl) C env) = (standAt iter.pos >>= fun _ => pyNext (.ref I) >>= fun r => match r with
      | none => pure (.done .next)
      | some v => letOwnedTupleGo target (.ref I) v >>= fun _ => body D C cs v >>= fun _ => again (.compLoop (.ListComp elt (⟨target, iter, ifs, 0⟩ :: rest) scope pos) 0 (.ref I) (.ref D) (compEnvC scope (cellsOf cq (C + 1) cl) C env))))
    (hclos : closureFor scope env = pure cl) (oc : OneCell scope cq) (hkind : scope.kind = .function) (hnames : ∀ y ∈ scope.names, y.2 = .local → scope.names.lookup y.1 = some .local)
    (hu : ∀ I D C, A.under (Code.compLoop (.ListComp elt (⟨target, iter, ifs, 0⟩ :: rest) scope pos) 0 (.ref I) (.ref D) (compEnvC scope (cellsOf cq (C + 1) cl) C env)) = A)
    (hG : Live G₀ h)
    (src : Tri (model prog w) A (eval iter env) (fun x h₁ => Tri (model prog w) A (pyIter x) (fun it h₂ => ∃ I, it = .ref I ∧ Src prog w A target h n Pv I h₂) h₁) h)
    (turn : ∀ N D C cs i v h₁ l, cs = addrsOf cq (C + 1) → (∀ b ∈ scr D C cs, b ∈ N) → D ≠ C → D ∉ cs → C ∉ cs → (∀ b ∈ N, h.get? b = none) → Keeps h h₁ → Live (N ++ G₀) h₁ → FrameOk h₁ C cs → i < n → Pv i v →
      l = (List.range i).flatMap outs → AccIs R (N ++ G₀) h₁ D l →
      Tri (model prog w) A (body D C cs v) (fun _ h₃ => KM (scr D C cs) h₁ h₃ ∧ FrameOk h₃ C cs ∧ AccIs R (N ++ G₀) h₃ D (l ++ outs i)) h₁)
    (hs : ∀ x, foldedSetIterable iter env x = pure x) :
    Tri (model prog w) A (eval (.ListComp elt (⟨target, iter, ifs, 0⟩ :: rest) scope pos) env) (fun v h' => Keeps h h' ∧ (rLst R).r G₀ h' v ((List.range n).flatMap outs)) h := by
  refine comp_go hclos oc hkind hnames src ?_ hs
  intro I h₂ h₃ D C hS hD hC hDC hcs old hacc hns₃
  obtain ⟨k₂, fp, wr, St, W, hst, hfp, hwr, hlive, hgo⟩ := hS
  generalize hcse : addrsOf cq (C + 1) = cs at hcs
  have hcs2 : ∀ b ∈ cs, h₂.get? b = none := fun b hb => (hcs b hb).1
  have hDcs : D ∉ cs := fun q => (hcs D q).2.1 rfl
  have hCcs : C ∉ cs := fun q => (hcs C q).2.2.1 rfl
  have sc2 : ∀ b ∈ scr D C cs, h₂.get? b = none := fun b hb => by
    rcases List.mem_cons.mp hb with rfl | hb
    · exact hD
    rcases List.mem_cons.mp hb with rfl | hb
    · exact hC
    · exact hcs2 b hb
  have scf : ∀ b ∈ scr D C cs, b ∉ fp := fun b hb q => by obtain ⟨o, e⟩ := hfp _ q; rw [sc2 b hb] at e; cases e
  have scw : ∀ b ∈ scr D C cs, b ∉ wr := fun b hb q => scf b hb (W.sub _ q)
  have hN : ∀ b ∈ scr D C cs ++ wr, h.get? b = none := fun b hb => by
    rcases List.mem_append.mp hb with hb | hb
    · exact k₂.none (sc2 b hb)
    · exact hwr b hb
  have hGN : ∀ b ∈ G₀, b ∉ scr D C cs ++ wr := fun b hb q => by obtain ⟨o, e⟩ := hG b hb; rw [hN b q] at e; cases e
  have mD : D ∈ scr D C cs := .head _
  have mC : C ∈ scr D C cs := .tail _ (.head _)
  have st₃ : St 0 h₃ := W.frame _ _ _ hst fun b _ o e => old b o e
  refine ⟨fun s Q E e hQ => W.self 0 _ _ _ (by rw [e]; exact st₃) hQ, ?_⟩
  have key := comp_loop (prog := prog) (w := w) (A := A) (e := .ListComp elt (⟨target, iter, ifs, 0⟩ :: rest) scope pos) (d := 0) (I := I) (acc := .ref D) (env := compEnvC scope (cellsOf cq (C + 1) cl) C env) (h := h₃) (body := fun v => letOwnedTupleGo target (.ref I) v >>= fun _ => body D C cs v)
    (Inv := fun i h' => Keeps h h' ∧ Live (scr D C cs ++ G₀) h' ∧ FrameOk h' C cs ∧ AccIs R ((scr D C cs ++ wr) ++ G₀) h' D ((List.range i).flatMap outs))
    rfl rfl (by rw [hT I D C cs]; congr 1; funext _; congr 1; funext r; cases r with | none => rfl | some v => simp only [bind_assoc]) (hu I D C) W ?_ ?_ st₃ ?_
  · intro s R' e ht hR
    refine key s R' e ht fun h' tk htk hp => hR h' tk htk ?_
    obtain ⟨kp, lv, hfr, ys, hl, hys, hr⟩ := hp
    refine ⟨hfr.1, fun h'' hsb => ?_⟩
    have off : ∀ b o, b ≠ C → h'.get? b = some o → h''.get? b = some o := fun b o n e => hsb.extBut b o n e
    refine ⟨fun b o e => off b o (fun q => ?_) (kp b o e), D, ys, rfl, fun q => hGN D q (List.mem_append_left _ mD), hl.at fun o e => off D o hDC e, hys, fun j u x p q => ?_⟩
    · rw [q, hN C (List.mem_append_left _ mC)] at e; cases e
    · have := hr j u x p q
      exact R.anti (R.mono this fun b o n e => off b o (fun q => n (List.mem_append_left _ (List.mem_append_left _ (by rw [q]; exact mC)))) e) fun b hb => List.mem_append_right _ hb
  · rintro i g g' ⟨kp, lv, hfr, ys, hl, hys, hr⟩ hk
    refine ⟨fun b o e => hk b o (fun q => ?_) (kp b o e), fun b hb => ?_, ⟨?_, fun c hc => ?_⟩, ys, hl.at fun o e => hk D o (scw D mD) e, hys, fun j u x p q => R.mono (hr j u x p q) fun b o n e => hk b o (fun q => n (List.mem_append_left _ (List.mem_append_right _ q))) e⟩
    · rw [hwr b q] at e; cases e
    · obtain ⟨o, e⟩ := lv b hb
      refine ⟨o, hk b o (fun q => ?_) e⟩
      rcases List.mem_append.mp hb with hb | hb
      · exact scw b hb q
      · exact hGN b hb (List.mem_append_right _ q)
    · obtain ⟨m, hm⟩ := hfr.1
      exact ⟨m, hm.at' fun o e => hk C o (scw C mC) e⟩
    · obtain ⟨v, o, e, d⟩ := hfr.2 c hc
      exact ⟨v, o, hk c o (scw c (.tail _ (.tail _ hc))) e, d⟩
  · rintro i v g hi hv hsti ⟨kp, lv, hfr, hac⟩
    have lvN : Live ((scr D C cs ++ wr) ++ G₀) g := fun b hb => by
      rcases List.mem_append.mp hb with hb | hb
      · rcases List.mem_append.mp hb with hb | hb
        · exact lv _ (List.mem_append_left _ hb)
        · exact hlive _ _ hsti b hb
      · exact lv b (List.mem_append_right _ hb)
    refine (hgo _ _ v hsti).bind fun _ g' eg => ?_
    subst eg
    refine (turn (scr D C cs ++ wr) D C cs i v g' _ hcse.symm (fun b hb => List.mem_append_left _ hb) hDC hDcs hCcs hN kp lvN hfr hi hv rfl hac).mono fun _ g₃ t₃ => ?_
    obtain ⟨km, hfr₃, hac₃⟩ := t₃
    refine ⟨W.frame _ _ _ hsti fun b hb o e => km b o (fun q => scf b q hb) e, km.of kp fun b hb => hN b (List.mem_append_left _ hb), ?_, hfr₃, ?_⟩
    · refine lv.km km fun b hb => ?_
      rcases List.mem_cons.mp hb with rfl | hb
      · obtain ⟨ys, ⟨o, ho, _⟩, _⟩ := hac₃; exact ⟨o, ho⟩
      rcases List.mem_cons.mp hb with rfl | hb
      · obtain ⟨m, o, _, _, ho, _⟩ := hfr₃.1; exact ⟨o, ho⟩
      · obtain ⟨v, o, ho, _⟩ := hfr₃.2 b hb; exact ⟨o, ho⟩
    · rw [List.range_succ, List.flatMap_append]
      simpa using hac₃
  · have k₃ : Keeps h h₃ := k₂.trans old
    have fr₃ : FrameOk h₃ C cs := ⟨⟨_, hns₃⟩, fun c hc => ⟨_, (hcs c hc).2.2.2⟩⟩
    refine ⟨k₃, fun b hb => ?_, fr₃, #[], hacc, rfl, fun j u x p => by simp at p⟩
    rcases List.mem_append.mp hb with hb | hb
    · rcases List.mem_cons.mp hb with rfl | hb
      · obtain ⟨o, ho, _⟩ := hacc; exact ⟨o, ho⟩
      rcases List.mem_cons.mp hb with rfl | hb
      · obtain ⟨o, _, _, ho, _⟩ := hns₃; exact ⟨o, ho⟩
      · obtain ⟨v, o, ho, _⟩ := fr₃.2 b hb; exact ⟨o, ho⟩
    · obtain ⟨o, e⟩ := hG b hb; exact ⟨o, k₃ b o e⟩
end
end Mine
end

section
open PySem PySem.W PyProof.Rows PySem.Calls
set_option maxRecDepth 100000
set_option maxHeartbeats 8000000
set_option linter.unusedVariables false
set_option linter.unusedSimpArgs false
namespace Mine
/-- e, evaluated in env wherever h is kept, changes nothing and gives a value of P -/
noncomputable def PX (M : Model) (A : Around) (env : Env) (e : Expr) (P : Value → Prop) (h : Heap) : Prop :=
  ∀ h', Keeps h h' → Tri M A (eval e env) (fun u h'' => P u ∧ h'' = h') h'
/-- e, evaluated in env wherever h is kept, keeps all and gives a value that R reads as a -/
noncomputable def PE {α : Type} (M : Model) (A : Around) (G : List Addr) (env : Env) (e : Expr) (R : Rel α) (a : α) (h : Heap) : Prop :=
  ∀ h', Keeps h h' → Tri M A (eval e env) (fun v h'' => Keeps h' h'' ∧ R.r G h'' v a) h'
noncomputable def isInt (i : Int) (u : Value) : Prop := ∃ t, u = .int i t
noncomputable def isStr (x : Str) (u : Value) : Prop := ∃ t, u = .str x t
noncomputable def isBytes (x : Array UInt8) (u : Value) : Prop := ∃ t, u = .bytes x t
section
variable {M : Model} {A : Around} {env : Env} {e : Expr} {h g : Heap} {P : Value → Prop} {G : List Addr}
theorem PX.keeps (x : PX M A env e P h) (k : Keeps h g) : PX M A env e P g := fun h' k' => x h' (k.trans k')
theorem PX.here (x : PX M A env e P h) : Tri M A (eval e env) (fun u h'' => P u ∧ h'' = h) h := x h (Keeps.refl h)
theorem PE.keeps {α : Type} {R : Rel α} {a : α} (x : PE M A G env e R a h) (k : Keeps h g) : PE M A G env e R a g := fun h' k' => x h' (k.trans k')
theorem PE.here {α : Type} {R : Rel α} {a : α} (x : PE M A G env e R a h) : Tri M A (eval e env) (fun v h'' => Keeps h h'' ∧ R.r G h'' v a) h := x h (Keeps.refl h)
theorem PX.pe {α : Type} {R : Rel α} {a : α} {v : Value} (x : PX M A env e (· = v) h) (r : R.r G h v a) : PE M A G env e R a h := fun h' k => (x h' k).mono fun u h'' q => by
  obtain ⟨rfl, rfl⟩ := q; exact ⟨Keeps.refl _, R.kp' r k⟩
theorem PX.peStr {x : Str} (q : PX M A env e (isStr x) h) : PE M A G env e rStr x h := fun h' k => (q h' k).mono fun u h'' q => by
  obtain ⟨q, rfl⟩ := q; exact ⟨Keeps.refl _, q⟩
theorem PX.peInt {x : Int} (q : PX M A env e (isInt x) h) : PE M A G env e rInt x h := fun h' k => (q h' k).mono fun u h'' q => by
  obtain ⟨q, rfl⟩ := q; exact ⟨Keeps.refl _, q⟩
theorem PX.peBytes {x : Array UInt8} (q : PX M A env e (isBytes x) h) : PE M A G env e rBytes x h := fun h' k => (q h' k).mono fun u h'' q => by
  obtain ⟨q, rfl⟩ := q; exact ⟨Keeps.refl _, q⟩
theorem PX.mono {P' : Value → Prop} (q : PX M A env e P h) (k : ∀ v, P v → P' v) : PX M A env e P' h := fun h' kk => (q h' kk).mono fun u h'' q => ⟨k u q.1, q.2⟩
/-- a rule that leaves all as it is, but for the count -/
theorem Tri.quick {α : Type} {t : Sem α} {Q' : α → Prop} (x : ∀ (s : Shared) (Q : α → Shared → Prop) (E : Value → Shared → Prop), s.heap = h → 0 < s.toks → (∀ a tk, 0 < tk → Q' a → Q a { s with toks := tk }) → wpAny M A t Q E s) :
    Tri M A t (fun a h' => Q' a ∧ h' = h) h := fun s Q E e ht hQ => x s Q E e ht fun a tk htk hq => by
  have := hQ a h tk htk ⟨hq, rfl⟩
  rw [← e] at this
  exact this
theorem PX.const_int {i : Int} {k : Nat} {pos : Pos} : PX M A env (.Constant (.int i) k pos) (isInt i) h := fun h' _ => Tri.quick fun s Q E e ht hQ => wpAny_Constant_int (hQ _ _ (Nat.succ_pos _) ⟨_, rfl⟩)
theorem PX.const_str {x : Str} {k : Nat} {pos : Pos} : PX M A env (.Constant (.str x) k pos) (isStr x) h := fun h' _ => Tri.quick fun s Q E e ht hQ => wpAny_Constant_str (hQ _ _ (Nat.succ_pos _) ⟨_, rfl⟩)
theorem PX.const_bytes {x : List UInt8} {k : Nat} {pos : Pos} : PX M A env (.Constant (.bytes x) k pos) (isBytes x.toArray) h := fun h' _ => Tri.quick fun s Q E e ht hQ => fun _ _ _ => hQ _ _ (Nat.succ_pos _) ⟨_, rfl⟩
theorem PX.const_none {k : Nat} {pos : Pos} : PX M A env (.Constant .none k pos) (· = .none) h := fun h' _ => Tri.quick fun s Q E e ht hQ => wpAny_Constant_none (hQ _ _ ht rfl)
theorem PX.local {m : Str → Option Value} {x : Str} {pos : Pos} {v : Value} (n : h.Ns env.locals m) (hv : m x = some v) (hk : env.scope.kind = .function := by rfl) (hx : env.kindOf x = some .local := by rfl) (hd : (x == ("__debug__" : Str)) = false := by decide) :
    PX M A env (.Name x pos) (· = v) h := fun h' k => Tri.quick fun s Q E e ht hQ => wpAny_Name (wpAny_loadName_local hk hx (by rw [e]; exact n.keeps k) hv (hQ _ _ ht rfl)) hd
theorem PX.cell {x : Str} {pos : Pos} {v : Value} {c : Addr} (n : h.IsCell c (some v)) (hc : env.cells.lookup x = some c) (hk : env.scope.kind = .function := by rfl) (hx : env.kindOf x = some .cell := by rfl) (hd : (x == ("__debug__" : Str)) = false := by decide) :
    PX M A env (.Name x pos) (· = v) h := fun h' k => Tri.quick fun s Q E e ht hQ => wpAny_Name (wpAny_loadName_cell hk hx hc (by rw [e]; exact n.keeps k) (hQ _ _ ht rfl)) hd
theorem PX.free {x : Str} {pos : Pos} {v : Value} {c : Addr} (n : h.IsCell c (some v)) (hc : env.cells.lookup x = some c) (hk : env.scope.kind = .function := by rfl) (hx : env.kindOf x = some .free := by rfl) (hd : (x == ("__debug__" : Str)) = false := by decide) (hn : (x == ("__classdict__" : Str)) = false := by decide) :
    PX M A env (.Name x pos) (· = v) h := fun h' k => Tri.quick fun s Q E e ht hQ => wpAny_Name (wpAny_loadName_free hk hx hc (by rw [e]; exact n.keeps k) (hQ _ _ ht rfl) hn) hd
end
/-- where a def's body stands -/
structure Site (w : World) (mg mb : Str → Option Value) (cs : Scope) (L : Addr) (outer : List Env) (h₀ h : Heap) : Prop where
  below : ∃ A₀ base, Below A₀ base outer h₀
  fr : ∃ m, Fr h₀ L h m
  frag : (KK w.params).In h₀
  top : ∃ p lo mean, Top p lo mean mg mb h₀
  kind : cs.kind = .function
section
variable {w : World} {mg mb : Str → Option Value} {cs : Scope} {L : Addr} {outer : List Env} {h₀ h g : Heap} {env : Env} {M : Model} {A : Around}
theorem Site.keep (S : Site w mg mb cs L outer h₀ h) : Keeps h₀ h := let ⟨m, F⟩ := S.fr; F.keep
theorem Site.keeps (S : Site w mg mb cs L outer h₀ h) (k : Keeps h g) : Site w mg mb cs L outer h₀ g := { S with fr := let ⟨m, F⟩ := S.fr; ⟨m, F.kept k⟩ }
theorem Site.km {N : List Addr} {m' : Str → Option Value} (S : Site w mg mb cs L outer h₀ h) (k : KM N h g) (f : ∀ b ∈ N, h₀.get? b = none) (n : g.Ns L m') : Site w mg mb cs L outer h₀ g :=
  { S with fr := let ⟨m, F⟩ := S.fr; ⟨m', n, fun b o e => k b o (fun q => by rw [f b q] at e; cases e) (F.keep b o e), F.above⟩ }
theorem Site.noL (S : Site w mg mb cs L outer h₀ h) : h₀.get? L = none := let ⟨_, F⟩ := S.fr; Heap.get?_none_of_le F.above
theorem Site.liveL (S : Site w mg mb cs L outer h₀ h) : ∃ o, h.get? L = some o := let ⟨_, F⟩ := S.fr; let ⟨o, _, _, e, _⟩ := F.ns; ⟨o, e⟩
theorem PX.glob {x : Str} {pos : Pos} {v : Value} (S : Site w mg mb cs L outer h₀ h) (e : nsIn (KK w.params) mainGlobals x = some (some v)) (hg : env.globals = mainGlobals := by rfl) (hk : env.scope.kind = .function := by rfl) (hx : env.kindOf x = some .globalImplicit := by rfl) (hdb : (x == ("__debug__" : Str)) = false := by decide) :
    PX M A env (.Name x pos) (· = v) h := fun h' k => Tri.quick fun s Q E es ht hQ => by
  obtain ⟨_, _, mean, T⟩ := S.top
  exact Name_function_global hk hx (loadGlobal_global (env := env) (by rw [hg, es]; exact (T.g.keeps S.keep).keeps k) (mg_of S.frag T.g e) (hQ _ _ ht rfl)) hdb
theorem PX.built {x : Str} {pos : Pos} {v : Value} (S : Site w mg mb cs L outer h₀ h) (e : nsIn (KK w.params) mainGlobals x = some none) (hv : bootBuiltins x = some v) (hg : env.globals = mainGlobals := by rfl) (hb : env.builtins = builtinsNs := by rfl) (hk : env.scope.kind = .function := by rfl) (hx : env.kindOf x = some .globalImplicit := by rfl) (hdb : (x == ("__debug__" : Str)) = false := by decide) (hn : x ≠ "__name__" := by decide) :
    PX M A env (.Name x pos) (· = v) h := fun h' k => Tri.quick fun s Q E es ht hQ => by
  obtain ⟨_, _, mean, T⟩ := S.top
  exact Name_function_global hk hx (loadGlobal_builtin (env := env) (by rw [hg, es]; exact (T.g.keeps S.keep).keeps k) (mg_none_of S.frag T.g e) (by rw [hb, es]; exact (T.b.keeps S.keep).keeps k) ((T.builtins x hn).trans hv) (hQ _ _ ht rfl)) hdb
end
/-- a def's contract: the result reads as a -/
noncomputable def GivesT {α : Type} (w : World) (mg mb : Str → Option Value) (d : Nat) (f : Addr) (vs : List Value) (kw : List (Str × Value)) (R : Rel α) (a : α) (I : Heap → Prop) : Prop :=
  ∀ (dp un : Nat) (gd : Option (List Code)) (cn : Str) (cs : Scope) (a' : Addr) (ccd : Value) (cl : List (Str × Addr)) (outer : List Env) (h₀ h : Heap) (L : Addr), Site w mg mb cs L outer h₀ h → dp + d < recursionLimit → un + 100 * d < cLine → I h →
    Tri (model PySem.Challenge.rw_oy0102_01.prog w) (ktrTop dp un gd cn cs L a' ccd cl outer) (call (.ref f) vs kw) (fun v h' => Keeps h h' ∧ ∀ G, Live G h → R.r G h' v a) h
section
variable {M : Model} {A : Around} {env : Env} {h : Heap}
theorem Tri.call1 {P : Value → Heap → Prop} {x : Str} {p pos : Pos} {e : Expr} {fa : Addr} {o : Obj} {fd : FuncData} (f : PX M A env (.Name x p) (· = .ref fa) h) (ho : h.get? fa = some o) (hd : o.data = .func fd)
    (a : Tri M A (eval e env) (fun v h₁ => Keeps h h₁ ∧ Tri M A (call (.ref fa) [v]) P h₁) h) (hs : starEach [e] env = [(false, eval e env)] := by rfl) :
    Tri M A (eval (.Call (.Name x p) [e] [] pos) env) P h := fun s Q E es ht hQ => by
  refine Call_Name1 (f.here.use es ht fun v h₁ tk htk hv => ?_) hs
  obtain ⟨rfl, rfl⟩ := hv
  refine callWith_function (o := o) (fd := fd) (evalArgs_plain (spliced_cons (a.use rfl htk fun v h₂ tk₂ ht₂ hv => spliced_nil ?_)))
  exact ⟨⟨hv.1 _ _ ho, hd⟩, hv.2.use rfl ht₂ hQ⟩
theorem Tri.call2 {P : Value → Heap → Prop} {x : Str} {p pos : Pos} {e e₂ : Expr} {fa : Addr} {o : Obj} {fd : FuncData} (f : PX M A env (.Name x p) (· = .ref fa) h) (ho : h.get? fa = some o) (hd : o.data = .func fd)
    (a : Tri M A (eval e env) (fun v h₁ => Tri M A (eval e₂ env) (fun v₂ h₂ => Keeps h h₂ ∧ Tri M A (call (.ref fa) [v, v₂]) P h₂) h₁) h) (hs : starEach [e, e₂] env = [(false, eval e env), (false, eval e₂ env)] := by rfl) :
    Tri M A (eval (.Call (.Name x p) [e, e₂] [] pos) env) P h := fun s Q E es ht hQ => by
  refine Call_Name2 (f.here.use es ht fun v h₁ tk htk hv => ?_) hs
  obtain ⟨rfl, rfl⟩ := hv
  refine callWith_function (o := o) (fd := fd) (evalArgs_plain (spliced_cons (a.use rfl htk fun v h₂ tk₂ ht₂ hv => spliced_cons (hv.use rfl ht₂ fun v₂ h₃ tk₃ ht₃ hv₂ => spliced_nil ?_))))
  exact ⟨⟨hv₂.1 _ _ ho, hd⟩, hv₂.2.use rfl ht₃ hQ⟩
/-- a built-in's call -/
theorem Tri.callB1 {P : Value → Heap → Prop} {x : Str} {p pos : Pos} {e : Expr} {id : String} (f : PX M A env (.Name x p) (· = .builtin id) h)
    (a : Tri M A (eval e env) (fun v h₁ => Tri M A (call (.builtin id) [v]) P h₁) h) (hs : starEach [e] env = [(false, eval e env)] := by rfl) :
    Tri M A (eval (.Call (.Name x p) [e] [] pos) env) P h := fun s Q E es ht hQ => by
  refine Call_Name1 (f.here.use es ht fun v h₁ tk htk hv => ?_) hs
  obtain ⟨rfl, rfl⟩ := hv
  exact callWith_builtin rfl (evalArgs_plain (spliced_cons (a.use rfl htk fun v h₂ tk₂ ht₂ hv => spliced_nil (hv.use rfl ht₂ hQ))))
theorem Tri.callT1 {P : Value → Heap → Prop} {x : Str} {p pos : Pos} {e : Expr} {id : String} (f : PX M A env (.Name x p) (· = .type id) h)
    (a : Tri M A (eval e env) (fun v h₁ => Tri M A (call (.type id) [v]) P h₁) h) (hs : starEach [e] env = [(false, eval e env)] := by rfl) :
    Tri M A (eval (.Call (.Name x p) [e] [] pos) env) P h := fun s Q E es ht hQ => by
  refine Call_Name1 (f.here.use es ht fun v h₁ tk htk hv => ?_) hs
  obtain ⟨rfl, rfl⟩ := hv
  exact PyProof.Rows.callWith_type rfl (evalArgs_plain (spliced_cons (a.use rfl htk fun v h₂ tk₂ ht₂ hv => spliced_nil (hv.use rfl ht₂ hQ))))
theorem Tri.binop {P : Value → Heap → Prop} {l r : Expr} {op : Operator} {pos : Pos} (a : Tri M A (eval l env) (fun v h₁ => Tri M A (eval r env) (fun u h₂ => Tri M A (binaryOp op v u) P h₂) h₁) h) : Tri M A (eval (.BinOp l op r pos) env) P h := fun s Q E es ht hQ =>
  wpAny_BinOp (a.use es ht fun v h₁ tk₁ t₁ hv => hv.use rfl t₁ fun u h₂ tk₂ t₂ hu => hu.use rfl t₂ hQ)
theorem Tri.cmp {P : Value → Heap → Prop} {l r : Expr} {op : CmpOp} {pos : Pos} (a : Tri M A (eval l env) (fun v h₁ => Tri M A (eval r env) (fun u h₂ => Tri M A (compareOp op v u) P h₂) h₁) h) (hm : behindInMarks op r = false := by with_unfolding_all rfl) :
    Tri M A (eval (.Compare l [op] [r] pos) env) P h := fun s Q E es ht hQ =>
  wpAny_Compare1 (a.use es ht fun v h₁ tk₁ t₁ hv => hv.use rfl t₁ fun u h₂ tk₂ t₂ hu => hu.use rfl t₂ hQ) hm
theorem Tri.cmpTrue {P : Bool → Heap → Prop} {l r : Expr} {op : CmpOp} {pos : Pos} {whole : Sem Value} (a : Tri M A (eval l env) (fun v h₁ => Tri M A (eval r env) (fun u h₂ => Tri M A (compareOp op v u) (fun b h₃ => ∃ c, b = .bool c ∧ P c h₃) h₂) h₁) h) (hm : behindInMarks op r = false := by with_unfolding_all rfl) :
    Tri M A (isTrue (.Compare l [op] [r] pos) env whole) P h := fun s Q E es ht hQ =>
  wpAny_isTrue_Compare1 (a.use es ht fun v h₁ tk₁ t₁ hv => hv.use rfl t₁ fun u h₂ tk₂ t₂ hu => hu.use rfl t₂ fun b h₃ tk₃ t₃ hb => by
    obtain ⟨c, rfl, hc⟩ := hb
    exact wpAny_truthy_bool (hQ c h₃ tk₃ t₃ hc)) hm
theorem Tri.sub {P : Value → Heap → Prop} {l r : Expr} {pos : Pos} (a : Tri M A (eval l env) (fun v h₁ => Tri M A (eval r env) (fun u h₂ => Tri M A (subscriptTail l r v u) P h₂) h₁) h) : Tri M A (eval (.Subscript l r pos) env) P h := fun s Q E es ht hQ =>
  Subscript_ (a.use es ht fun v h₁ tk₁ t₁ hv => hv.use rfl t₁ fun u h₂ tk₂ t₂ hu => hu.use rfl t₂ hQ)
/-- the display of a tuple -/
theorem Tri.newTuple {vs : List Value} {P : Value → Heap → Prop} (k : ∀ a h', h.get? a = none → Keeps h h' → h'.IsTuple a vs.toArray → P (.ref a) h') (hsz : vs.length ≤ sizeLine := by size_fits) : Tri M A (newTuple vs) P h := fun s Q E es ht hQ => by
  subst es
  refine wpAny_newObj_type (hQ _ _ _ ht (k _ _ (Heap.get?_none_of_le (Nat.le_refl _)) (fun b o e => Heap.get?_push_of_some _ e) ⟨_, Heap.get?_push_size _ rfl, rfl, _, rfl⟩)) ?_
  show vs.toArray.size ≤ sizeLine
  rw [List.size_toArray]; exact hsz
theorem Tri.newList {vs : List Value} {P : Value → Heap → Prop} (k : ∀ a h', h.get? a = none → Keeps h h' → h'.IsList a vs.toArray → P (.ref a) h') (hsz : vs.length ≤ sizeLine := by size_fits) : Tri M A (newList vs) P h := fun s Q E es ht hQ => by
  subst es
  refine wpAny_newObj_type (hQ _ _ _ ht (k _ _ (Heap.get?_none_of_le (Nat.le_refl _)) (fun b o e => Heap.get?_push_of_some _ e) ⟨_, Heap.get?_push_size _ rfl, rfl, _, rfl⟩)) ?_
  show vs.toArray.size ≤ sizeLine
  rw [List.size_toArray]; exact hsz
theorem Tri.args_nil {pos : Pos} {P : List Value → Heap → Prop} (x : P [] h) : Tri M A (spliced (backTo pos (starEach [] env))) P h := fun s Q E es ht hQ => PyProof.Rows.args_nil (by subst es; exact hQ [] s.heap s.toks ht x)
theorem Tri.args_cons {e : Expr} {rest : List Expr} {pos : Pos} {P : List Value → Heap → Prop} (a : Tri M A (eval e env) (fun v h₁ => Tri M A (spliced (backTo pos (starEach rest env))) (fun vs h₂ => P (v :: vs) h₂) h₁) h)
    (he : starEach (e :: rest) env = (false, eval e env) :: starEach rest env := by rfl) : Tri M A (spliced (backTo pos (starEach (e :: rest) env))) P h := fun s Q E es ht hQ =>
  PyProof.Rows.args_cons (a.use es ht fun v h₁ tk₁ t₁ hv => hv.use rfl t₁ fun vs h₂ tk₂ t₂ hu => hQ _ _ _ t₂ hu) he
theorem Tri.tuple {elts : List Expr} {k : Nat} {pos : Pos} {P : Value → Heap → Prop} (a : Tri M A (spliced (backTo pos (starEach elts env))) (fun vs h₁ => Tri M A (PySem.newTuple vs) P h₁) h) : Tri M A (eval (.Tuple elts k pos) env) P h := fun s Q E es ht hQ =>
  Tuple_ (a.use es ht fun v h₁ tk₁ t₁ hv => hv.use rfl t₁ hQ)
theorem Tri.list {elts : List Expr} {pos : Pos} {P : Value → Heap → Prop} (a : Tri M A (spliced (backTo pos (starEach elts env))) (fun vs h₁ => Tri M A (PySem.newList vs) P h₁) h) : Tri M A (eval (.List elts pos) env) P h := fun s Q E es ht hQ =>
  List_ (a.use es ht fun v h₁ tk₁ t₁ hv => hv.use rfl t₁ hQ)
end
noncomputable abbrev PG : Program := PySem.Challenge.rw_oy0102_01.prog
end Mine
end

section
open PySem PySem.W PyProof.Rows PySem.Calls PySem.SeqAt
set_option maxRecDepth 100000
set_option maxHeartbeats 8000000
set_option linter.unusedVariables false
set_option linter.unusedSimpArgs false
namespace Mine
/-- values that R reads are compared as what they stand for -/
structure EqR {α : Type} (R : Rel α) (d : Nat) : Prop where
  one : ∀ {G h v x y}, R.r G h v x → R.r G h v y → x = y
  rc : ∀ (A : Around) (s : Shared) {G u v x y} {k : Bool}, A.units + d < cLine → R.r G s.heap u x → R.r G s.heap v y → (k = true ↔ x = y) → RcAt A s u v k
  eq : ∀ (A : Around) (s : Shared) {G u v x y} {k : Bool}, A.units + d < cLine → R.r G s.heap u x → R.r G s.heap v y → (k = true ↔ x = y) → EqAt A s u v k
theorem rc_bytes {A : Around} {s : Shared} (a : Array UInt8) (t : Tok) (b : Array UInt8) (u : Tok) : RcAt A s (.bytes a t) (.bytes b u) (a.toList == b.toList) := fun prog w E Q h =>
  richCompare_gives (typeIs_bytes s a t) (typeIs_bytes s b u) FB.slot_bytes_eq FB.entry_bytes_eq (FB.args_bytes_eq_2 _ _) (gives_bytes_eq a b t u) (fun x => nomatch x) h
theorem bool_of_iff {k : Bool} {P : Prop} {l : Bool} (x : k = true ↔ P) (y : l = true ↔ P) : k = l := by
  cases k <;> cases l <;> simp_all
theorem rcCast {A : Around} {s : Shared} {u v : Value} {k l : Bool} (x : RcAt A s u v l) (e : l = k) : RcAt A s u v k := e ▸ x
theorem eqCast {A : Around} {s : Shared} {u v : Value} {k l : Bool} (x : EqAt A s u v l) (e : l = k) : EqAt A s u v k := e ▸ x
theorem eqr_str : EqR rStr 0 where
  one := fun ⟨t, e⟩ ⟨t', e'⟩ => by rw [e] at e'; cases e'; rfl
  rc := fun A s {G u v x y k} _ ⟨t, e⟩ ⟨t', e'⟩ hk => by
    subst e; subst e'
    exact rcCast (RcAt.str_str x t y t') (bool_of_iff beq_iff_eq hk)
  eq := fun A s {G u v x y k} _ ⟨t, e⟩ ⟨t', e'⟩ hk => by
    subst e; subst e'
    exact eqCast (EqAt.str_str x t y t') (bool_of_iff beq_iff_eq hk)
theorem eqr_bytes : EqR rBytes 0 where
  one := fun ⟨t, e⟩ ⟨t', e'⟩ => by rw [e] at e'; cases e'; rfl
  rc := fun A s {G u v x y k} _ ⟨t, e⟩ ⟨t', e'⟩ hk => by
    subst e; subst e'
    exact rcCast (rc_bytes x t y t') (bool_of_iff (by rw [beq_iff_eq, Array.toList_inj]) hk)
  eq := fun A s {G u v x y k} _ ⟨t, e⟩ ⟨t', e'⟩ hk => by
    subst e; subst e'
    intro prog w E Q hq
    unfold eqBool
    refine wpAny_holding ?_
    refine wpAny_ite_split (fun hab => ?_) (fun _ => ?_)
    · have e : (Value.bytes x t) = .bytes y t' := eq_of_beq hab
      cases e
      have : k = true := hk.mpr rfl
      subst this
      exact wpAny_bind (wpAny_rule (wpAny_pure hq))
    · have := rcCast (rc_bytes (A := A) (s := s) x t y t') (bool_of_iff (by rw [beq_iff_eq, Array.toList_inj]) hk)
      exact wpAny_bind (this prog w E _ (wpAny_truthy_bool hq))
theorem rLst_one {α : Type} {R : Rel α} (o : ∀ {G h v x y}, R.r G h v x → R.r G h v y → x = y) {G : List Addr} {h : Heap} {v : Value} {x y : List α} (a : (rLst R).r G h v x) (b : (rLst R).r G h v y) : x = y := by
  obtain ⟨p, vs, e, _, hl, hs, hr⟩ := a
  obtain ⟨p', vs', e', _, hl', hs', hr'⟩ := b
  subst e; cases e'
  obtain rfl : vs = vs' := by
    obtain ⟨o1, g1, _, n1, d1⟩ := hl
    obtain ⟨o2, g2, _, n2, d2⟩ := hl'
    rw [g1] at g2; cases g2; rw [d1] at d2; cases d2; rfl
  refine List.ext_getElem (hs.symm.trans hs') fun i h1 h2 => ?_
  have hi : i < vs.size := by omega
  exact o (hr i vs[i] x[i] (by simp [hi]) (by simp [h1])) (hr' i vs[i] y[i] (by simp [hi]) (by simp [h2]))
theorem eqr_list {α : Type} {R : Rel α} {d : Nat} (E : EqR R d) : EqR (rLst R) (d + 1) := by
  have rc : ∀ (A : Around) (s : Shared) {G u v x y} {k : Bool}, A.units + (d + 1) < cLine → (rLst R).r G s.heap u x → (rLst R).r G s.heap v y → (k = true ↔ x = y) → RcAt A s u v k := by
    intro A s G u v x y k hu ⟨p, vs, e, _, hl, hs, hr⟩ ⟨p', vs', e', _, hl', hs', hr'⟩ hk
    subst e; subst e'
    by_cases hsz : vs.size = vs'.size
    · classical
      have key := RcAt.lists (A := A) (e := fun j => decide (x[j]? = y[j]?)) hl hl' hsz (by omega) fun j h1 h2 => E.eq A.in1 s (by simp; omega) (hr j vs[j] (x[j]'(by omega)) (by simp [h1]) (by simp [show j < x.length by omega])) (hr' j vs'[j] (y[j]'(by omega)) (by simp [h2]) (by simp [show j < y.length by omega])) (by
        rw [List.getElem?_eq_getElem (by omega), List.getElem?_eq_getElem (by omega)]; simp)
      refine rcCast key (bool_of_iff ?_ hk)
      rw [List.all_eq_true]
      constructor
      · intro q
        refine List.ext_getElem? fun i => ?_
        by_cases hi : i < vs.size
        · have := q i (List.mem_range.mpr hi); simpa using this
        · rw [List.getElem?_eq_none (by omega), List.getElem?_eq_none (by omega)]
      · rintro rfl i _; simp
    · have : k = false := by
        cases k with
        | false => rfl
        | true => have := hk.mp rfl; subst this; omega
      subst this
      exact RcAt.lists_lengths hl hl' (by simpa using hsz) (by omega)
  refine ⟨rLst_one E.one, rc, ?_⟩
  intro A s G u v x y k hu hx hy hk
  have hx' := hx
  have hy' := hy
  obtain ⟨p, vs, e, _⟩ := hx'
  obtain ⟨p', vs', e', _⟩ := hy'
  subst e; subst e'
  by_cases hp : p = p'
  · subst hp
    have := hk.mpr (rLst_one E.one hx hy)
    subst this
    exact EqAt.same _
  · exact EqAt.of_refs hp (rc A s hu hx hy hk)
theorem tup_one {h : Heap} {p : Addr} {vs vs' : Array Value} (hl : h.IsTuple p vs) (hl' : h.IsTuple p vs') : vs = vs' := by
  obtain ⟨o1, g1, _, n1, d1⟩ := hl
  obtain ⟨o2, g2, _, n2, d2⟩ := hl'
  rw [g1] at g2; cases g2; rw [d1] at d2; cases d2; rfl
theorem eqr_tup2 {α β : Type} {R : Rel α} {S : Rel β} {d : Nat} (E : EqR R d) (F : EqR S d) : EqR (rTup2 R S) (d + 1) := by
  have one : ∀ {G h v x y}, (rTup2 R S).r G h v x → (rTup2 R S).r G h v y → x = y := by
    intro G h v x y ⟨p, a, b, e, _, hl, h1, h2⟩ ⟨p', a', b', e', _, hl', h1', h2'⟩
    subst e; cases e'
    have := tup_one hl hl'
    simp at this
    obtain ⟨rfl, rfl⟩ := this
    exact Prod.ext (E.one h1 h1') (F.one h2 h2')
  have rc : ∀ (A : Around) (s : Shared) {G u v x y} {k : Bool}, A.units + (d + 1) < cLine → (rTup2 R S).r G s.heap u x → (rTup2 R S).r G s.heap v y → (k = true ↔ x = y) → RcAt A s u v k := by
    intro A s G u v x y k hu ⟨p, a, b, e, _, hl, h1, h2⟩ ⟨p', a', b', e', _, hl', h1', h2'⟩ hk
    subst e; subst e'
    classical
    have key := RcAt.tuples (A := A) (e := fun j => if j = 0 then decide (x.1 = y.1) else decide (x.2 = y.2)) hl hl' (by omega) fun j j1 j2 => by
      match j, j1 with
      | 0, _ => exact E.eq A.in1 s (by simp; omega) h1 h1' (by simp)
      | 1, _ => exact F.eq A.in1 s (by simp; omega) h2 h2' (by simp)
      | j + 2, j1 => simp at j1; omega
    refine rcCast key (bool_of_iff ?_ hk)
    rw [Prod.ext_iff]
    simp [List.range_succ]
  refine ⟨one, rc, ?_⟩
  intro A s G u v x y k hu hx hy hk
  have hx' := hx
  have hy' := hy
  obtain ⟨p, a, b, e, _⟩ := hx'
  obtain ⟨p', a', b', e', _⟩ := hy'
  subst e; subst e'
  by_cases hp : p = p'
  · subst hp
    have := hk.mpr (one hx hy)
    subst this
    exact EqAt.same _
  · exact EqAt.of_refs hp (rc A s hu hx hy hk)
theorem eqr_tup3 {α β γ : Type} {R : Rel α} {S : Rel β} {T : Rel γ} {d : Nat} (E : EqR R d) (F : EqR S d) (H : EqR T d) : EqR (rTup3 R S T) (d + 1) := by
  have one : ∀ {G h v x y}, (rTup3 R S T).r G h v x → (rTup3 R S T).r G h v y → x = y := by
    intro G h v x y ⟨p, a, b, c, e, _, hl, h1, h2, h3⟩ ⟨p', a', b', c', e', _, hl', h1', h2', h3'⟩
    subst e; cases e'
    have := tup_one hl hl'
    simp at this
    obtain ⟨rfl, rfl, rfl⟩ := this
    exact Prod.ext (E.one h1 h1') (Prod.ext (F.one h2 h2') (H.one h3 h3'))
  have rc : ∀ (A : Around) (s : Shared) {G u v x y} {k : Bool}, A.units + (d + 1) < cLine → (rTup3 R S T).r G s.heap u x → (rTup3 R S T).r G s.heap v y → (k = true ↔ x = y) → RcAt A s u v k := by
    intro A s G u v x y k hu ⟨p, a, b, c, e, _, hl, h1, h2, h3⟩ ⟨p', a', b', c', e', _, hl', h1', h2', h3'⟩ hk
    subst e; subst e'
    classical
    have key := RcAt.tuples (A := A) (e := fun j => if j = 0 then decide (x.1 = y.1) else if j = 1 then decide (x.2.1 = y.2.1) else decide (x.2.2 = y.2.2)) hl hl' (by omega) fun j j1 j2 => by
      match j, j1 with
      | 0, _ => exact E.eq A.in1 s (by simp; omega) h1 h1' (by simp)
      | 1, _ => exact F.eq A.in1 s (by simp; omega) h2 h2' (by simp)
      | 2, _ => exact H.eq A.in1 s (by simp; omega) h3 h3' (by simp)
      | j + 3, j1 => simp at j1; omega
    refine rcCast key (bool_of_iff ?_ hk)
    rw [Prod.ext_iff, Prod.ext_iff]
    simp [List.range_succ, and_assoc]
  refine ⟨one, rc, ?_⟩
  intro A s G u v x y k hu hx hy hk
  have hx' := hx
  have hy' := hy
  obtain ⟨p, a, b, c, e, _⟩ := hx'
  obtain ⟨p', a', b', c', e', _⟩ := hy'
  subst e; subst e'
  by_cases hp : p = p'
  · subst hp
    have := hk.mpr (one hx hy)
    subst this
    exact EqAt.same _
  · exact EqAt.of_refs hp (rc A s hu hx hy hk)
end Mine
end

section
open PySem PySem.W PyProof.Rows PySem.Calls PySem.SeqAt
set_option maxRecDepth 100000
set_option maxHeartbeats 8000000
set_option linter.unusedVariables false
set_option linter.unusedSimpArgs false
namespace Mine
theorem ne_list {α : Type} {R : Rel α} {d : Nat} (E : EqR R d) (A : Around) (s : Shared) {G u v x y} {k : Bool} (hu : A.units + (d + 1) < cLine) (hx : (rLst R).r G s.heap u x) (hy : (rLst R).r G s.heap v y) (hk : k = true ↔ x ≠ y) : RcNeAt A s u v k := by
  obtain ⟨p, vs, e, _, hl, hs, hr⟩ := hx
  obtain ⟨p', vs', e', _, hl', hs', hr'⟩ := hy
  subst e; subst e'
  by_cases hsz : vs.size = vs'.size
  · classical
    have key := RcNeAt.lists (A := A) (e := fun j => decide (x[j]? = y[j]?)) hl hl' hsz (by omega) fun j h1 h2 => E.eq A.in1 s (by simp; omega) (hr j vs[j] (x[j]'(by omega)) (by simp [h1]) (by simp [show j < x.length by omega])) (hr' j vs'[j] (y[j]'(by omega)) (by simp [h2]) (by simp [show j < y.length by omega])) (by
      rw [List.getElem?_eq_getElem (by omega), List.getElem?_eq_getElem (by omega)]; simp)
    have ek : (!(List.range vs.size).all fun j => decide (x[j]? = y[j]?)) = k := by
      refine bool_of_iff ?_ hk
      rw [Bool.not_eq_true', Bool.eq_false_iff, Ne, List.all_eq_true]
      refine not_congr ⟨fun q => ?_, ?_⟩
      · refine List.ext_getElem? fun i => ?_
        by_cases hi : i < vs.size
        · have := q i (List.mem_range.mpr hi); simpa using this
        · rw [List.getElem?_eq_none (by omega), List.getElem?_eq_none (by omega)]
      · rintro rfl i _; simp
    exact ek ▸ key
  · have : k = true := hk.mpr fun e => by subst e; omega
    subst this
    exact RcNeAt.lists_lengths hl hl' (by simpa using hsz) (by omega)
section
variable {prog : Program} {w : World} {A : Around} {env : Env} {h : Heap} {G : List Addr}
theorem Tri.eq {α : Type} {R : Rel α} {d : Nat} (E : EqR R d) {u v : Value} {x y : α} {k : Bool} (hu : A.units + d < cLine) (hx : R.r G h u x) (hy : R.r G h v y) (hk : k = true ↔ x = y) : Tri (model prog w) A (compareOp .Eq u v) (fun b h' => b = .bool k ∧ h' = h) h :=
  Tri.quick fun s Q E' e ht hQ => E.rc A s (G := G) hu (e ▸ hx) (e ▸ hy) hk prog w E' Q (hQ _ _ ht rfl)
theorem Tri.ne {α : Type} {R : Rel α} {d : Nat} (E : EqR R d) {u v : Value} {x y : List α} {k : Bool} (hu : A.units + (d + 1) < cLine) (hx : (rLst R).r G h u x) (hy : (rLst R).r G h v y) (hk : k = true ↔ x ≠ y) : Tri (model prog w) A (compareOp .NotEq u v) (fun b h' => b = .bool k ∧ h' = h) h :=
  Tri.quick fun s Q E' e ht hQ => ne_list E A s (G := G) hu (e ▸ hx) (e ▸ hy) hk prog w E' Q (hQ _ _ ht rfl)
open Classical in
theorem Tri.notIn {α : Type} {R : Rel α} {d : Nat} (E : EqR R d) {u v : Value} {x : α} {l : List α} {k : Bool} (hu : A.units + (d + 1) < cLine) (hx : R.r G h u x) (hl : (rLst R).r G h v l) (hk : k = true ↔ x ∉ l) : Tri (model prog w) A (compareOp .NotIn u v) (fun b h' => b = .bool k ∧ h' = h) h :=
  Tri.quick fun s Q E' e ht hQ => by
    subst e
    obtain ⟨p, vs, e, _, hl, hs, hr⟩ := hl
    subst e
    have get : ∀ y, y ∈ vs → ∃ z, z ∈ l ∧ R.r G s.heap y z := fun y hy => by
      obtain ⟨i, hi, rfl⟩ := Array.mem_iff_getElem.mp hy
      exact ⟨l[i]'(by omega), List.getElem_mem _, hr i _ _ (by simp [hi]) (by simp [show i < l.length by omega])⟩
    refine notIn_listAt (fun y => decide (R.r G s.heap y x)) hl (fun y hy => ?_) ?_
    · obtain ⟨z, hz, rz⟩ := get y hy
      refine E.eq A.in1 s (by simp; omega) rz hx ?_
      rw [decide_eq_true_iff]
      exact ⟨fun q => E.one rz q, fun q => q ▸ rz⟩
    · have : (!vs.any fun y => decide (R.r G s.heap y x)) = k := by
        refine bool_of_iff (P := x ∉ l) ?_ hk
        rw [Bool.not_eq_true', Bool.eq_false_iff, Ne, Array.any_eq_true']
        refine not_congr ⟨?_, fun q => ?_⟩
        · rintro ⟨y, hy, hd⟩
          obtain ⟨z, hz, rz⟩ := get y hy
          rw [E.one rz (of_decide_eq_true hd)] at hz
          exact hz
        · obtain ⟨i, hi, e⟩ := List.mem_iff_getElem.mp q
          have hi' : i < vs.size := by omega
          exact ⟨vs[i], Array.getElem_mem _, decide_eq_true (hr i vs[i] x (by simp [hi']) (by rw [← e]; simp [hi]))⟩
      rw [this]
      exact hQ _ _ ht rfl
theorem sub_tail {value slice : Expr} {o i : Value} {T id : String} {Q : Value → Shared → Prop} {E : Value → Shared → Prop} {s : Shared} (hT : s.TypeIs o T)
    (hl : typeLookup (.type T) "__getitem__" = pure (some (.builtin id))) (h : wpAny (model prog w) A (getItem o i) Q E s)
    (hs : subscripted slice false o i = operate [o, i] (getItem o i)) : wpAny (model prog w) A (subscriptTail value slice o i) Q E s := by
  unfold subscriptTail
  refine wpAny_bind ?_
  rw [getitemInPython_of_ne hT.not_modules]
  refine wpAny_bind (wpAny_specialOf hT hl ?_)
  have fin : wpAny (model prog w) A (subscripted slice false o i) (fun r s₃ => wpAny (model prog w) A (letTemporaryGo value o r >>= fun _ => pure r) Q E s₃) E s := by
    rw [hs]
    exact wpAny_operating (wpAny_mono h (fun r s₃ h₃ => wpAny_bind (wpAny_letTemporaryGo (wpAny_pure h₃))) fun _ _ x => x)
  first
    | exact wpAny_pure (wpAny_bind fin)
    | exact wpAny_bind (wpAny_pure (wpAny_bind fin))
    | exact wpAny_bind fin
/-- an item of a list -/
theorem PX.item {l r : Expr} {pos : Pos} {a : Addr} {vs : Array Value} {i : Int} {v : Value} (hl : PX (model prog w) A env l (· = .ref a) h) (hv : h.IsList a vs) (hr : PX (model prog w) A env r (isInt i) h) (h0 : 0 ≤ i) (h1 : i < 2 ^ 63) (hi : vs[i.toNat]? = some v)
    (hs : ∀ a i t, subscripted r false (.ref a) (.int i t) = operate [.ref a, .int i t] (getItem (.ref a) (.int i t)) := by intros; with_unfolding_all rfl) :
    PX (model prog w) A env (.Subscript l r pos) (· = v) h := fun h' k => by
  refine Tri.sub ((hl h' k).mono fun u h₁ q => ?_)
  obtain ⟨rfl, rfl⟩ := q
  refine (hr h₁ k).mono fun u h₂ q => ?_
  obtain ⟨⟨t, rfl⟩, rfl⟩ := q
  refine Tri.quick fun s Q E es ht hQ => ?_
  have hv' : s.heap.IsList a vs := by rw [es]; exact k.list hv
  exact sub_tail hv'.typeIs slot_list_getitem.lookup (wpAny_getItem_list hv' h0 h1 hi (hQ _ _ ht rfl)) (hs _ _ _)
theorem PX.itemR {α : Type} {R : Rel α} {l r : Expr} {pos : Pos} {v : Value} {xs : List α} {i : Int} {x : α} (hl : PX (model prog w) A env l (· = v) h) (hv : (rLst R).r G h v xs) (hr : PX (model prog w) A env r (isInt i) h) (h0 : 0 ≤ i) (h1 : i < 2 ^ 63) (hi : xs[i.toNat]? = some x)
    (hs : ∀ a i t, subscripted r false (.ref a) (.int i t) = operate [.ref a, .int i t] (getItem (.ref a) (.int i t)) := by intros; with_unfolding_all rfl) :
    ∃ u, R.r G h u x ∧ PX (model prog w) A env (.Subscript l r pos) (· = u) h := by
  obtain ⟨p, vs, e, _, hl', hsz, hx⟩ := hv
  subst e
  have hlt : i.toNat < vs.size := by have := (List.getElem?_eq_some_iff.mp hi).1; omega
  exact ⟨vs[i.toNat], hx _ _ _ (by simp [hlt]) hi, PX.item hl hl' hr h0 h1 (by simp [hlt]) hs⟩
theorem PX.sub {l r : Expr} {pos : Pos} {i j : Int} (hl : PX (model prog w) A env l (isInt i) h) (hr : PX (model prog w) A env r (isInt j) h) : PX (model prog w) A env (.BinOp l .Sub r pos) (isInt (i - j)) h := fun h' k => by
  refine Tri.binop ((hl h' k).mono fun u h₁ q => ?_)
  obtain ⟨⟨t, rfl⟩, rfl⟩ := q
  refine (hr h₁ k).mono fun u h₂ q => ?_
  obtain ⟨⟨t, rfl⟩, rfl⟩ := q
  exact Tri.quick fun s Q E es ht hQ => sub_int (hQ _ _ (Nat.succ_pos _) ⟨_, rfl⟩)
theorem PX.len {v : Value} {α : Type} {R : Rel α} {xs : List α} {e : Expr} {x : Str} {p pos : Pos} (f : PX (model prog w) A env (.Name x p) (· = .builtin "len") h) (hl : PX (model prog w) A env e (· = v) h) (hv : (rLst R).r G h v xs) (hn : xs.length < 2 ^ 62)
    (hs : starEach [e] env = [(false, eval e env)] := by rfl) : PX (model prog w) A env (.Call (.Name x p) [e] [] pos) (isInt xs.length) h := fun h' k => by
  refine Tri.callB1 (f.keeps k) ((hl h' k).mono fun u h₁ q => ?_) hs
  obtain ⟨rfl, rfl⟩ := q
  obtain ⟨p, vs, e, _, hl', hsz, hx⟩ := hv
  subst e
  refine Tri.quick fun s Q E es ht hQ => call_len_list (by rw [es]; exact k.list hl') (by omega) ?_
  rw [hsz]
  exact hQ _ _ (Nat.succ_pos _) ⟨_, rfl⟩
/-- walks along a list that stands -/
theorem src_list {e target : Expr} {a : Addr} {vs : Array Value} (hh : A.handled = none) (hl : PX (model prog w) A env e (· = .ref a) h) (hv : h.IsList a vs)
    (go : ∀ I i h' v, h'.IsListIter I a i → Tri (model prog w) A (letOwnedTupleGo target (.ref I) v) (fun _ h'' => h'' = h') h') :
    Tri (model prog w) A (eval e env) (fun x h₁ => Tri (model prog w) A (pyIter x) (fun it h₂ => ∃ I, it = .ref I ∧ Src prog w A target h vs.size (fun i v => vs[i]? = some v) I h₂) h₁) h := by
  refine hl.here.mono fun u h₁ q => ?_
  obtain ⟨rfl, rfl⟩ := q
  intro s Q E es ht hQ
  subst es
  obtain ⟨o, ho, _⟩ := id hv
  have hne : a ≠ s.heap.objs.size := Nat.ne_of_lt (Heap.lt_size ho)
  refine wpAny_pyIter_list hv (hQ _ _ _ ht ⟨_, rfl, fun b o e => Heap.get?_push_of_some _ e, [s.heap.objs.size, a], [s.heap.objs.size], _, Walks.list hh _ a hne vs, ⟨⟨_, Heap.get?_push_size _ rfl, rfl, rfl⟩, hv.at fun o e => Heap.get?_push_of_some _ e⟩, ?_, ?_, ?_, ?_⟩)
  · intro b hb
    rcases List.mem_cons.mp hb with rfl | hb
    · exact ⟨_, Heap.get?_push_size _ rfl⟩
    · rw [List.mem_singleton.mp hb]; exact ⟨_, Heap.get?_push_of_some _ ho⟩
  · intro b hb
    rw [List.mem_singleton.mp hb]
    exact Heap.get?_none_of_le (Nat.le_refl _)
  · rintro i h' ⟨⟨o', e', _⟩, _⟩ b hb
    rw [List.mem_singleton.mp hb]; exact ⟨o', e'⟩
  · intro i h' v st
    exact go _ i h' v st.1
theorem go_name {x : Str} {p : Pos} {I : Addr} {v : Value} : Tri (model prog w) A (letOwnedTupleGo (.Name x p) (.ref I) v) (fun _ h'' => h'' = h) h := Tri.pure rfl
theorem go_tuple {elts : List Expr} {k : Nat} {p : Pos} {I a T : Addr} {i : Nat} (hi : h.IsListIter I a i) : Tri (model prog w) A (letOwnedTupleGo (.Tuple elts k p) (.ref I) (.ref T)) (fun _ h'' => h'' = h) h := fun s Q E es ht hQ => by
  subst es
  exact wpAny_letOwnedTupleGo_listiter hi (hQ () s.heap s.toks ht rfl)
/-- a walk that owns its iterator alone -/
noncomputable def SrcR (prog : Program) (w : World) (A : Around) (h : Heap) (n : Nat) (Pv : Nat → Value → Prop) (I : Addr) (h₂ : Heap) : Prop :=
  Keeps h h₂ ∧ ∃ St, Walks prog w A I [I] [I] n Pv St ∧ St 0 h₂ ∧ h.get? I = none ∧ ∀ i h', St i h' → ∃ o, h'.get? I = some o
theorem SrcR.src {x : Str} {px : Pos} {n : Nat} {Pv : Nat → Value → Prop} {I : Addr} {h₂ : Heap} (s : SrcR prog w A h n Pv I h₂) : Src prog w A (.Name x px) h n Pv I h₂ := by
  obtain ⟨k, St, W, st, hn, lv⟩ := s
  refine ⟨k, [I], [I], St, W, st, fun b hb => ?_, fun b hb => ?_, fun i h' hs b hb => ?_, fun i h' v _ => go_name⟩
  · rw [List.mem_singleton.mp hb]; exact lv _ _ st
  · rw [List.mem_singleton.mp hb]; exact hn
  · rw [List.mem_singleton.mp hb]; exact lv _ _ hs
/-- walks along range(n) -/
theorem src_range {e : Expr} {f : Str} {p pos : Pos} {n : Nat} (hh : A.handled = none) (hf : PX (model prog w) A env (.Name f p) (· = .type "range") h) (he : Tri (model prog w) A (eval e env) (fun u h' => Keeps h h' ∧ isInt n u) h) (hn : n < 2 ^ 30)
    (hs : starEach [e] env = [(false, eval e env)] := by rfl) :
    Tri (model prog w) A (eval (.Call (.Name f p) [e] [] pos) env) (fun x' h₁ => Tri (model prog w) A (pyIter x') (fun it h₂ => ∃ I, it = .ref I ∧ SrcR prog w A h n (fun i v => isInt i v) I h₂) h₁) h := by
  refine Tri.callT1 hf (he.mono fun u h₁ q => ?_) hs
  obtain ⟨k₁, t, rfl⟩ := q
  intro s Q E es ht hQ
  subst es
  refine call_range_1 (hQ _ _ _ (Nat.succ_pos _) ?_)
  intro s₂ Q₂ E₂ es₂ ht₂ hQ₂
  have kk : Keeps s.heap s₂.heap := fun b o e => by rw [es₂]; exact Heap.get?_push_of_some _ e
  have hr : IsRange s₂.heap s.heap.objs.size 0 n 1 s.toks t (s.toks + 1) := by rw [es₂]; exact IsRange.new s.heap 0 n 1 s.toks t (s.toks + 1)
  have hsz : Builtin.Range.rangeSize 0 (n : Int) 1 = (n : Int) := by unfold Builtin.Range.rangeSize; simp; omega
  refine wpAny_pyIter_range hr ?_ ?_
  · unfold Builtin.Range.small
    rw [hsz]
    simp [Builtin.Range.rangeFitsLong]
    omega
  · rw [hsz]
    have W := LCg.range_walks (prog := prog) (w := w) (A := A) (I := s₂.heap.objs.size) hh 0 n
    have st0 : IsRangeIter (s₂.heap.push { cls := .type "range_iterator", data := .fields #[rawInt 0, rawInt n, rawInt 1] }) s₂.heap.objs.size (0 + ((0 : Nat) : Int) * 1) ((n : Int) - ((0 : Nat) : Int)) 1 := by
      have : (n : Int) - ((0 : Nat) : Int) = n := by omega
      rw [this]
      exact Heap.get?_push_size _ rfl
    refine hQ₂ _ _ _ ht₂ ⟨_, rfl, fun b o e => Heap.get?_push_of_some _ (kk b o (k₁ b o e)), _, ⟨fun _ hb => hb, W.frame, fun i s Q E hi st hQ => W.item i s Q E hi st fun v h' tk hP => hQ v h' tk ?_, W.done, W.self⟩, st0, ?_, ?_⟩
    · obtain ⟨t, rfl⟩ := hP
      exact ⟨t, by simp⟩
    · exact (k₁.trans kk).none (Heap.get?_none_of_le (Nat.le_refl _))
    · intro i h' st
      exact ⟨_, st⟩
end
end Mine
end

section
open PySem PySem.W PyProof.Rows PySem.Calls PySem.SeqAt
set_option maxRecDepth 100000
set_option maxHeartbeats 8000000
set_option linter.unusedVariables false
set_option linter.unusedSimpArgs false
namespace Mine
section
variable {prog : Program} {w : World} {A : Around} {env : Env} {h : Heap} {G : List Addr}
/-- a name is bound -/
theorem Tri.bindLocal {M : Model} {m : Str → Option Value} {x : Str} {p : Pos} {v : Value} {P : Unit → Heap → Prop} (n : h.Ns env.locals m) (k : ∀ h', h'.Ns env.locals (fun y => if y = x then some v else m y) → Heap.SameBut env.locals h h' → P () h')
    (hx : env.kindOf x = some .local := by rfl) (hp : (env.scope.kind == .class || (env.scope.kind == .module && env.locals != env.globals)) = false := by rfl) : Tri M A (assign (.Name x p) env v) P h := fun s Q E es ht hQ => by
  subst es
  exact wpAny_assign_Name (wpAny_storeName_local hx n (fun h' hn hs => hQ () h' _ (Nat.succ_pos _) (k h' hn hs)) hp)
theorem Tri.bindCell {M : Model} {x : Str} {p : Pos} {v : Value} {v₀ : Option Value} {c : Addr} {P : Unit → Heap → Prop} (n : h.IsCell c v₀) (hc : env.cells.lookup x = some c) (k : ∀ h', h'.IsCell c (some v) → Heap.SameBut c h h' → P () h')
    (hk : env.scope.kind = .function := by rfl) (hx : env.kindOf x = some .cell := by rfl) : Tri M A (assign (.Name x p) env v) P h := fun s Q E es ht hQ => by
  subst es
  exact wpAny_assign_Name (wpAny_storeName_cell hk hx hc n (fun h' hn hs => hQ () h' _ ht (k h' hn hs)))
theorem ext_keeps {h h' : Heap} (x : Heap.ExtBut h.objs.size h h') : Keeps h h' := fun b o e => x b o (Nat.ne_of_lt (Heap.lt_size e)) e
/-- two names are bound at once -/
theorem Tri.bindPair {m : Str → Option Value} {x y : Str} {p q pos : Pos} {kk : Nat} {t : Addr} {u v : Value} {P : Unit → Heap → Prop} (hh : A.handled = none) (n : h.Ns env.locals m) (ht : h.IsTuple t #[u, v])
    (k : ∀ h', h'.Ns env.locals (fun z => if z = y then some v else if z = x then some u else m z) → KM [env.locals] h h' → P () h')
    (he : assignEach [.Name x p, .Name y q] env = [(false, assign (.Name x p) env), (false, assign (.Name y q) env)] := by rfl)
    (hx : env.kindOf x = some .local := by rfl) (hy : env.kindOf y = some .local := by rfl) (hp : (env.scope.kind == .class || (env.scope.kind == .module && env.locals != env.globals)) = false := by rfl) :
    Tri (model prog w) A (assign (.Tuple [.Name x p, .Name y q] kk pos) env (.ref t)) P h := fun s Q E es htk hQ => by
  subst es
  refine wpAny_assign_Tuple hh ht (by rw [he]; rfl) (by rw [he]; rfl) fun h₁ k₁ => ?_
  rw [he]
  have n₁ : h₁.Ns env.locals m := n.keeps (ext_keeps k₁)
  refine wpAny_assignInOrder_more ?_
  refine wpAny_assign_Name (wpAny_storeName_local hx n₁ (fun h₂ n₂ s₂ => ?_) hp)
  refine wpAny_assignInOrder_more ?_
  refine wpAny_assign_Name (wpAny_storeName_local hy n₂ (fun h₃ n₃ s₃ => ?_) hp)
  refine wpAny_assignInOrder_none (hQ () h₃ _ (Nat.succ_pos _) (k h₃ n₃ ?_))
  exact ((Keeps.km (ext_keeps k₁)).trans (km_but s₂ (.head _))).trans (km_but s₃ (.head _))
/-- a block of one clause, without a test: a map -/
theorem comp_map {α : Type} (R : Rel α) (l : List α) {elt target iter : Expr} {scope : Scope} {pos : Pos} {cl : List (Str × Addr)} {Pv : Nat → Value → Prop} {cq : Option Str}
    (hclos : closureFor scope env = pure cl) (oc : OneCell scope cq) (hkind : scope.kind = .function) (hnames : ∀ y ∈ scope.names, y.2 = .local → scope.names.lookup y.1 = some .local)
    (hG : Live G h) (hsz : l.length ≤ sizeLine)
    (src : Tri (model prog w) A (eval iter env) (fun x h₁ => Tri (model prog w) A (pyIter x) (fun it h₂ => ∃ I, it = .ref I ∧ Src prog w A target h l.length Pv I h₂) h₁) h)
    (turn : ∀ N D C cs i v a h₁, cs = addrsOf cq (C + 1) → (∀ b ∈ scr D C cs, b ∈ N) → C ∉ cs → (∀ b ∈ N, h.get? b = none) → Keeps h h₁ → Live (N ++ G) h₁ → FrameOk h₁ C cs → l[i]? = some a → Pv i v →
      Tri (model prog w) A (assign target (compEnvC scope (cellsOf cq (C + 1) cl) C env) v) (fun _ h₂ => KM (C :: cs) h₁ h₂ ∧ FrameOk h₂ C cs ∧ Tri (model prog w) A (eval elt (compEnvC scope (cellsOf cq (C + 1) cl) C env)) (fun y h₃ => Keeps h₂ h₃ ∧ R.r (N ++ G) h₃ y a) h₂) h₁)
    (hs : ∀ x, foldedSetIterable iter env x = pure x) :
    Tri (model prog w) A (eval (.ListComp elt [⟨target, iter, [], 0⟩] scope pos) env) (fun v h' => Keeps h h' ∧ (rLst R).r G h' v l) h := by
  have el : (List.range l.length).flatMap (fun i => (l[i]?).toList) = l := by
    have e : ∀ n, n ≤ l.length → (List.range n).flatMap (fun i => (l[i]?).toList) = l.take n := by
      intro n
      induction n with
      | zero => intro _; rfl
      | succ n ih =>
        intro hn
        rw [List.range_succ, List.flatMap_append, ih (by omega), List.take_add_one]
        simp
    rw [e _ (Nat.le_refl _), List.take_length]
  have key := comp_acc (env := env) R (fun i => (l[i]?).toList) (n := l.length) (elt := elt) (target := target) (iter := iter) (ifs := []) (rest := []) (scope := scope) (pos := pos) (cl := cl) (h := h) (G₀ := G) (Pv := Pv) (cq := cq) (A := A) (prog := prog) (w := w)
    (fun D C cs v => assign target (compEnvC scope (cellsOf cq (C + 1) cl) C env) v >>= fun _ => eval elt (compEnvC scope (cellsOf cq (C + 1) cl) C env) >>= fun x => call (.builtin "list.append") [.ref D, x] >>= fun _ => (pure () : Sem Unit))
    (fun I D C cs => by
      rw [compTurn_list1]
      congr 1; funext _; congr 1; funext r
      cases r with
      | none => rfl
      | some v => simp only [bind_assoc, pure_bind]) hclos oc hkind hnames (fun I D C => Around.under_of_weight rfl) hG src ?_ hs
  · rw [el] at key; exact key
  · intro N D C cs i v h₁ l' hcs hsub hDC hDcs hCcs hN k₁ lv fr hi hv hl' hac
    have hla : l[i]? = some l[i] := by simp [hi]
    refine (turn N D C cs i v l[i] h₁ hcs hsub hCcs hN k₁ lv fr hla hv).bind fun _ h₂ t₂ => ?_
    obtain ⟨km, fr₂, te⟩ := t₂
    refine te.bind fun y h₃ t₃ => ?_
    obtain ⟨k₃, ry⟩ := t₃
    have sub2 : ∀ b ∈ C :: cs, b ∈ scr D C cs := fun b hb => .tail _ hb
    have subN : ∀ b ∈ C :: cs, b ∈ N ++ G := fun b hb => List.mem_append_left _ (hsub b (sub2 b hb))
    have nD : D ∉ C :: cs := fun q => (List.mem_cons.mp q).elim hDC hDcs
    have hac₃ : AccIs R (N ++ G) h₃ D l' := (hac.km km nD subN).km (Keeps.km (M := []) k₃) (List.not_mem_nil) (fun _ hb => by cases hb)
    obtain ⟨ys, hl, hys, hr⟩ := hac₃
    intro s Q E es ht hQ
    subst es
    have hlen : l'.length ≤ l.length := by
      rw [hl']
      have : (List.range i).flatMap (fun i => (l[i]?).toList) = l.take i := by
        have e : ∀ n, n ≤ l.length → (List.range n).flatMap (fun i => (l[i]?).toList) = l.take n := by
          intro n
          induction n with
          | zero => intro _; rfl
          | succ n ih =>
            intro hn
            rw [List.range_succ, List.flatMap_append, ih (by omega), List.take_add_one]
            simp
        exact e i (by omega)
      rw [this, List.length_take]; omega
    refine wpAny_bind (wpAny_list_append hl (fun h₄ hl₄ sb => ?_) (by omega))
    have kD : KM [D] s.heap h₄ := km_but sb (.head _)
    refine wpAny_pure (hQ () h₄ _ ht ⟨?_, ?_, ?_⟩)
    · refine ((km.more sub2).trans (Keeps.km k₃)).trans (kD.more fun b hb => ?_)
      rw [List.mem_singleton.mp hb]; exact .head _
    · refine ⟨?_, fun c hc => ?_⟩
      · obtain ⟨m, hm⟩ := fr₂.1
        exact ⟨m, kD.ns (hm.keeps k₃) (fun q => hDC (List.mem_singleton.mp q).symm)⟩
      · obtain ⟨v, hv⟩ := fr₂.2 c hc
        exact ⟨v, kD.cell (hv.keeps k₃) (fun q => hDcs (List.mem_singleton.mp q ▸ hc))⟩
    · rw [hla]
      refine AccIs.push (h := h₄) hys (fun j u x p q => R.km (hr j u x p q) kD fun b hb => ?_) hl₄ (R.km ry kD fun b hb => ?_)
      all_goals (rw [List.mem_singleton.mp hb]; exact List.mem_append_left _ (hsub D (.head _)))
/-- a new list behind sorted -/
theorem Tri.sorted {v : Value} {l : List Str} (hv : (rLst rStr).r G h v l) (h64 : l.length < 64) (hG : Live G h) :
    Tri (model prog w) A (call (.builtin "sorted") [v]) (fun u h' => Keeps h h' ∧ ∃ l', l'.Perm l ∧ sortedS l' = true ∧ (rLst rStr).r G h' u l') h := fun s Q E es ht hQ => by
  subst es
  obtain ⟨a, vs, rfl, na, hl, hs, hr⟩ := hv
  have hS : ∀ (vs : List Value) (l : List Str), vs.length = l.length → (∀ (i : Nat) u x, vs[i]? = some u → l[i]? = some x → ∃ t, u = .str x t) → StrsAre vs l := by
    intro vs
    induction vs with
    | nil => intro l e _; cases l with
      | nil => exact .nil
      | cons _ _ => cases e
    | cons v vs ih => intro l e hr; cases l with
      | nil => cases e
      | cons x l =>
        obtain ⟨t, rfl⟩ := hr 0 v x rfl rfl
        exact .cons _ _ (ih l (by simpa using e) fun i u y p q => hr (i + 1) u y (by simpa using p) (by simpa using q))
  have hS' : StrsAre vs.toList l := hS _ _ (by simpa using hs) fun i u x p q => hr i u x (by simpa using p) q
  refine sorted_strs (vs := vs.toList) (by simpa using hl) hS' (by simpa [hs] using h64) fun out ss' a1 a2 a3 => ?_
  obtain ⟨e, he⟩ := sortedAll_at s.heap vs.toList out
  refine hQ _ _ _ ht ⟨fun _ _ => sortedAll_old, ss', a2, a3, _, out, rfl, fun q => ?_, ⟨_, he, rfl, _, rfl⟩, ?_, fun i u x p q => ?_⟩
  · obtain ⟨o, eo⟩ := hG _ q
    exact absurd (Heap.lt_size eo) (Nat.not_lt.mpr (Nat.le_succ _))
  · have := a1.length; simpa using this
  · obtain ⟨y, t, rfl, hy⟩ := a1.item i u (by simpa using p)
    rw [q] at hy; cases hy
    exact ⟨t, rfl⟩
theorem argBest_ok (f : Nat → List Nat) : ∀ n j, j ≤ n → ¬ (f (argBest (fun i j => decide (f j < f i)) n) < f j)
  | 0, j, hj => by
    obtain rfl : j = 0 := by omega
    exact List.lt_irrefl _
  | n + 1, j, hj => by
    have ih := argBest_ok f n
    unfold argBest
    by_cases hb : f (argBest (fun i j => decide (f j < f i)) n) < f (n + 1)
    · simp only [hb, decide_true, if_true]
      rcases Nat.lt_or_ge n j with hn | hn
      · obtain rfl : j = n + 1 := by omega
        exact List.lt_irrefl _
      · exact fun q => ih j hn (List.lt_trans hb q)
    · simp only [hb, decide_false, Bool.false_eq_true, if_false]
      rcases Nat.lt_or_ge n j with hn | hn
      · obtain rfl : j = n + 1 := by omega
        exact hb
      · exact ih j hn
theorem argBest_le (bt : Nat → Nat → Bool) : ∀ n, argBest bt n ≤ n
  | 0 => Nat.le_refl _
  | n + 1 => by
    have := argBest_le bt n
    unfold argBest
    split <;> omega
/-- max of texts -/
theorem Tri.maxS {v : Value} {l : List Str} (hh : A.handled = none) (hv : (rLst rStr).r G h v l) (hne : l ≠ []) :
    Tri (model prog w) A (call (.builtin "max") [v]) (fun u h' => Keeps h h' ∧ ∃ y, y ∈ l ∧ (∀ z ∈ l, ¬ (y.cps.toList < z.cps.toList)) ∧ isStr y u) h := fun s Q E es ht hQ => by
  subst es
  obtain ⟨a, vs, rfl, na, hl, hs, hr⟩ := hv
  have hl0 : 0 < l.length := List.length_pos_iff.mpr hne
  refine wpAny_keep (call_max_walk ?_)
  refine wpAny_pyIter_list hl ?_
  obtain ⟨o, ho, _⟩ := id hl
  have hax : a ≠ s.heap.objs.size := Nat.ne_of_lt (Heap.lt_size ho)
  refine ⟨s.heap.objs.size, [s.heap.objs.size, a], [s.heap.objs.size], vs.size, (fun i v => vs[i]? = some v), (fun i h => h.IsListIter s.heap.objs.size a i ∧ h.IsList a vs), fun i j => decide ((l.getD j ⟨#[]⟩).cps.toList < (l.getD i ⟨#[]⟩).cps.toList), rfl, Walks.list (A := A.in1) hh _ a hax vs, ⟨⟨_, Heap.get?_push_size _ rfl, rfl, rfl⟩, hl.at fun o e => Heap.get?_push_of_some _ e⟩, ?_, by omega, ?_, ?_⟩
  · intro b hb
    show b < (s.heap.push _).objs.size
    rw [Heap.size_push]
    rcases List.mem_cons.mp hb with rfl | hb
    · exact Nat.lt_succ_self _
    · rw [List.mem_singleton.mp hb]; exact Nat.lt_succ_of_lt (Heap.lt_size ho)
  · intro i j vi vj s' Q' E' hi hj hQ'
    have li : i < l.length := by have := (Array.getElem?_eq_some_iff.mp hi).1; omega
    have lj : j < l.length := by have := (Array.getElem?_eq_some_iff.mp hj).1; omega
    obtain ⟨t, rfl⟩ := hr i vi l[i] hi (by simp [li])
    obtain ⟨t', rfl⟩ := hr j vj l[j] hj (by simp [lj])
    simp only [List.getD_eq_getElem?_getD, List.getElem?_eq_getElem li, List.getElem?_eq_getElem lj, Option.getD_some] at hQ'
    exact P.gt_str hQ'
  · intro v h' tk hP hk htk
    have hle := argBest_le (fun i j => decide ((l.getD j ⟨#[]⟩).cps.toList < (l.getD i ⟨#[]⟩).cps.toList)) (vs.size - 1)
    have hok := argBest_ok (fun i => (l.getD i ⟨#[]⟩).cps.toList) (vs.size - 1)
    generalize hb : argBest (fun i j => decide ((l.getD j ⟨#[]⟩).cps.toList < (l.getD i ⟨#[]⟩).cps.toList)) (vs.size - 1) = b at hP hle hok
    have lb : b < l.length := by omega
    refine hQ _ _ _ (Nat.lt_of_lt_of_le ht htk) ⟨fun c o e => hk c o (fun q => ?_) (Heap.get?_push_of_some _ e), l[b], List.getElem_mem _, fun z hz => ?_, hr b v l[b] hP (by simp [lb])⟩
    · have := Heap.lt_size e
      rw [List.mem_singleton.mp q] at this
      exact Nat.lt_irrefl _ this
    · obtain ⟨j, hj, rfl⟩ := List.mem_iff_getElem.mp hz
      have := hok j (by omega)
      simp only [List.getD_eq_getElem?_getD, List.getElem?_eq_getElem lb, List.getElem?_eq_getElem hj, Option.getD_some] at this
      exact this
/-- two lists set together -/
theorem Tri.addLists {α : Type} {R : Rel α} {u v : Value} {x y : List α} (hx : (rLst R).r G h u x) (hy : (rLst R).r G h v y) (hsz : x.length + y.length ≤ sizeLine) (hG : Live G h) :
    Tri (model prog w) A (binaryOp .Add u v) (fun z h' => Keeps h h' ∧ (rLst R).r G h' z (x ++ y)) h := fun s Q E es ht hQ => by
  subst es
  obtain ⟨l, vs, rfl, nl, hl, hs, hr⟩ := hx
  obtain ⟨b, ws, rfl, nb, hb, hs', hr'⟩ := hy
  obtain ⟨⟨cls, dd, data, sl⟩, ho, hc, n, hd⟩ := id hl
  obtain ⟨⟨cls2, dd2, data2, sl2⟩, ho2, hc2, n2, hd2⟩ := id hb
  simp only at hc hd hc2 hd2
  subst hc hd hc2 hd2
  refine concat_meets ⟨_, ho, rfl⟩ ⟨_, ho2, rfl⟩ noFill_list_add seq_list_add PySem.F.slot_list_add PySem.F.entry_list_add (PySem.F.args_list_add_2 _ _) (list_addW l b vs ws n n2 dd dd2 sl sl2 (by omega)) ⟨ho, ho2, ?_⟩
  refine hQ _ _ _ ht ⟨fun c o e => Heap.get?_push_of_some _ e, _, vs ++ ws, rfl, fun q => ?_, ⟨_, Heap.get?_push_size _ rfl, rfl, _, rfl⟩, by simp [hs, hs'], fun i u z p q => ?_⟩
  · obtain ⟨o, eo⟩ := hG _ q
    exact absurd (Heap.lt_size eo) (Nat.lt_irrefl _)
  · refine R.kp' ?_ (fun c o e => Heap.get?_push_of_some _ e)
    by_cases hi : i < vs.size
    · rw [Array.getElem?_append_left hi] at p
      rw [List.getElem?_append_left (by omega)] at q
      exact hr i u z p q
    · rw [Array.getElem?_append_right (by omega)] at p
      rw [List.getElem?_append_right (by omega), ← hs] at q
      exact hr' _ u z p q
end
end Mine
end

section
open PySem PySem.W PyProof.Rows PySem.Calls PySem.SeqAt
set_option maxRecDepth 100000
set_option maxHeartbeats 8000000
set_option linter.unusedVariables false
set_option linter.unusedSimpArgs false
namespace Mine
section
variable {M : Model} {A : Around} {env : Env} {h : Heap}
theorem Tri.cons {st : Stmt} {rest : List Stmt} {P : Flow → Heap → Prop} (x : Tri M A (exec st env) (fun f h₁ => (f = .next ∧ Tri M A (execs rest env) P h₁) ∨ (f ≠ .next ∧ P f h₁)) h) : Tri M A (execs (st :: rest) env) P h := fun s Q E es ht hQ =>
  wpAny_execs_cons (x.use es ht fun f h₁ tk tk0 hp => by
    rcases hp with ⟨rfl, y⟩ | ⟨n, y⟩
    · exact y.use rfl tk0 hQ
    · cases f with
      | next => exact absurd rfl n
      | _ => exact hQ _ _ _ tk0 y)
/-- a statement that goes on -/
theorem Tri.then {st : Stmt} {rest : List Stmt} {P : Flow → Heap → Prop} (x : Tri M A (exec st env) (fun f h₁ => f = .next ∧ Tri M A (execs rest env) P h₁) h) : Tri M A (execs (st :: rest) env) P h := Tri.cons (x.mono fun f h' q => .inl q)
theorem Tri.nil {P : Flow → Heap → Prop} (x : P .next h) : Tri M A (execs [] env) P h := fun s Q E es ht hQ => wpAny_execs_nil (by subst es; exact hQ .next s.heap s.toks ht x)
theorem Tri.asgLocal {x : Str} {p pos : Pos} {value : Expr} {P : Flow → Heap → Prop} (a : Tri M A (eval value env) (fun v h₁ => ∃ m, h₁.Ns env.locals m ∧ ∀ h₂, h₂.Ns env.locals (fun y => if y = x then some v else m y) → Heap.SameBut env.locals h₁ h₂ → P .next h₂) h)
    (hs : swapsWith value (some (.Name x p)) pos.line env = Pure.pure false := by rfl) (hx : env.kindOf x = some .local := by rfl) (hp : (env.scope.kind == .class || (env.scope.kind == .module && env.locals != env.globals)) = false := by rfl) : Tri M A (exec (.Assign [.Name x p] value pos) env) P h := fun s Q E es ht hQ =>
  wpAny_Assign_Name (a.use es ht fun v h₁ tk tk0 hv => by
    obtain ⟨m, n, k⟩ := hv
    exact wpAny_storeName_local hx n (fun h' hn hs => hQ _ h' _ (Nat.succ_pos _) (k h' hn hs)) hp) hs
theorem Tri.asgCell {x : Str} {p pos : Pos} {value : Expr} {P : Flow → Heap → Prop} {c : Addr} (hc : env.cells.lookup x = some c) (a : Tri M A (eval value env) (fun v h₁ => (∃ v₀, h₁.IsCell c v₀) ∧ ∀ h₂, h₂.IsCell c (some v) → Heap.SameBut c h₁ h₂ → P .next h₂) h)
    (hs : swapsWith value (some (.Name x p)) pos.line env = Pure.pure false := by rfl) (hk : env.scope.kind = .function := by rfl) (hx : env.kindOf x = some .cell := by rfl) : Tri M A (exec (.Assign [.Name x p] value pos) env) P h := fun s Q E es ht hQ =>
  wpAny_Assign_Name (a.use es ht fun v h₁ tk tk0 hv => by
    obtain ⟨⟨v₀, n⟩, k⟩ := hv
    exact wpAny_storeName_cell hk hx hc n (fun h' hn hs => hQ _ h' _ tk0 (k h' hn hs))) hs
theorem Tri.ret {e : Expr} {pos : Pos} {P : Flow → Heap → Prop} (a : Tri M A (eval e env) (fun v h₁ => P (.ret v) h₁) h) : Tri M A (exec (.Return (some e) pos) env) P h := fun s Q E es ht hQ => wpAny_Return_some (a.use es ht fun v h₁ tk tk0 hv => hQ _ _ _ tk0 hv)
theorem Tri.cond {test : Expr} {body orelse : List Stmt} {pos : Pos} {P : Flow → Heap → Prop} (a : Tri M A (isTrue test env (eval test env)) (fun b h₁ => if b then Tri M A (execs body env) P h₁ else Tri M A (execs orelse env) P h₁) h) : Tri M A (exec (.If test body orelse pos) env) P h := fun s Q E es ht hQ =>
  wpAny_If (a.use es ht fun b h₁ tk tk0 hv => by
    cases b with
    | true => exact Tri.use (P := P) (by simpa using hv) rfl tk0 hQ
    | false => exact Tri.use (P := P) (by simpa using hv) rfl tk0 hQ)
theorem Tri.exprNone {e : Expr} {pos : Pos} {P : Flow → Heap → Prop} (a : Tri M A (eval e env) (fun v h₁ => v = .none ∧ P .next h₁) h) (hi : interactive env = false := by rfl) (hs : swapsWith e none pos.line env = Pure.pure false := by rfl) : Tri M A (exec (.Expr e pos) env) P h := fun s Q E es ht hQ =>
  wpAny_Expr (a.use es ht fun v h₁ tk tk0 hv => by
    obtain ⟨rfl, hv⟩ := hv
    exact hQ _ _ _ tk0 hv) hi hs
end
section
variable {prog : Program} {w : World} {A : Around} {env : Env} {h : Heap} {G : List Addr}
theorem compTurn_two (elt t1 i1 c t2 i2 : Expr) (scope : Scope) (pos : Pos) (it acc : Value) (env : Env) :
    compTurn (.ListComp elt [⟨t1, i1, [c], 0⟩, ⟨t2, i2, [], 0⟩] scope pos) 0 it acc env = (do
      standAt i1.pos
      match ← pyNext it with
      | none => Pure.pure (.done .next)
      | some v =>
        letOwnedTupleGo t1 it v
        assign t1 env v
        let mut ok := true
        for c in [c] do
          if ok then ok ← isTrue c env (eval c env)
        if ok then
          let x ← eval i2 env
          standAt i2.pos
          let x ← foldedSetIterable i2 env x
          let _ ← runOwn (.compStart (.ListComp elt [⟨t1, i1, [c], 0⟩, ⟨t2, i2, [], 0⟩] scope pos) 1 (← holding [x] (pyIter x)) acc env) env
        again (.compLoop (.ListComp elt [⟨t1, i1, [c], 0⟩, ⟨t2, i2, [], 0⟩] scope pos) 0 it acc env)) := by rfl
theorem compTurn_two1 (elt t1 i1 c t2 i2 : Expr) (scope : Scope) (pos : Pos) (it acc : Value) (env : Env) :
    compTurn (.ListComp elt [⟨t1, i1, [c], 0⟩, ⟨t2, i2, [], 0⟩] scope pos) 1 it acc env = (standAt i2.pos >>= fun _ => pyNext it >>= fun r => match r with
      | none => Pure.pure (.done .next)
      | some v => letOwnedTupleGo t2 it v >>= fun _ => assign t2 env v >>= fun _ =>
        (eval elt env >>= fun x => call (.builtin "list.append") [acc, x] >>= fun _ => Pure.pure ()) >>= fun _ =>
          again (.compLoop (.ListComp elt [⟨t1, i1, [c], 0⟩, ⟨t2, i2, [], 0⟩] scope pos) 1 it acc env)) := by rfl
end
end Mine
end

section
open PySem PySem.W PyProof.Rows PySem.Calls PySem.SeqAt
set_option maxRecDepth 100000
set_option maxHeartbeats 8000000
set_option linter.unusedVariables false
set_option linter.unusedSimpArgs false
namespace Mine
section
variable {prog : Program} {w : World} {A : Around} {env : Env} {h : Heap} {G : List Addr}
theorem codeAny_compStart1 {elt t1 i1 c t2 i2 : Expr} {scope : Scope} {pos : Pos} {it acc : Value} {R : Result → Shared → Prop} {s : Shared}
    (h0 : codeAny (model prog w) A (.compLoop (.ListComp elt [⟨t1, i1, [c], 0⟩, ⟨t2, i2, [], 0⟩] scope pos) 1 it acc env) R s)
    (h : wpAny (model prog w) A (pyIter it) (fun it' s' => codeAny (model prog w) A (.compLoop (.ListComp elt [⟨t1, i1, [c], 0⟩, ⟨t2, i2, [], 0⟩] scope pos) 1 it' acc env) R s')
      (notedBy (model prog w) A env fun x s' => R (.error x) s') s) :
    codeAny (model prog w) A (.compStart (.ListComp elt [⟨t1, i1, [c], 0⟩, ⟨t2, i2, [], 0⟩] scope pos) 1 it acc env) R s := by
  refine codeAny_of_tree ?_
  show wpAny _ _ ((compStart (.ListComp elt [⟨t1, i1, [c], 0⟩, ⟨t2, i2, [], 0⟩] scope pos) 1 it acc env).onRaise (fun x => do noteFrame x env; standAt theWindowsPlace)) _ _ s
  refine wpAny_notedAt ?_
  unfold compStart
  show wpAny _ _ (ask >>= _) _ _ s
  refine wpAny_bind (wpAny_askSetting (wpAny_ite ?_))
  split
  · first
      | exact wpAny_bind (wpAny_pure (wpAny_pure (And.intro rfl h0)))
      | exact wpAny_pure (And.intro rfl h0)
  · first
      | exact wpAny_bind (wpAny_rule (wpAny_bind (wpAny_standAt (wpAny_bind (wpAny_mono h (fun it' s' h' => wpAny_pure (And.intro rfl h')) fun _ _ x => x)))))
      | (refine wpAny_bind (wpAny_rule ?_); show wpAny _ _ (standAt i2.pos >>= _) _ _ s; exact wpAny_bind (wpAny_standAt (wpAny_bind (wpAny_mono h (fun it' s' h' => wpAny_pure (And.intro rfl h')) fun _ _ x => x))))
/-- the inner clause of a block: k turns, each adds a text -/
theorem inner_loop {elt i1 c i2 : Expr} {x1 x2 : Str} {p1 p2 : Pos} {scope : Scope} {pos : Pos} {I D C : Addr} {cl : List (Str × Addr)} {k : Nat} {a : Str} {v : Value} {l : List Str} {Pv : Nat → Value → Prop}
    (hk : scope.kind = .function) (hx2 : scope.names.lookup x2 = some .local) (hne : x1 ≠ x2) (hDC : D ≠ C)
    {h₃ h₅ : Heap} (hS : SrcR prog w A h₃ k Pv I h₅) (hac : AccIs rStr G h₃ D l) (hC : ∃ m, h₃.Ns C m ∧ m x1 = some v) (hsz : l.length + k ≤ sizeLine)
    (helt : ∀ h₆ m', KM [D, C] h₃ h₆ → (∃ ys, h₆.IsList D ys) → h₆.Ns C m' → m' x1 = some v → Tri (model prog w) A (eval elt (compEnvC scope cl C env)) (fun y h₇ => Keeps h₆ h₇ ∧ isStr a y) h₆) :
    TriC (model prog w) A (.compLoop (.ListComp elt [⟨.Name x1 p1, i1, [c], 0⟩, ⟨.Name x2 p2, i2, [], 0⟩] scope pos) 1 (.ref I) (.ref D) (compEnvC scope cl C env))
      (fun h' => KM [D, C] h₃ h' ∧ (∃ m, h'.Ns C m ∧ m x1 = some v) ∧ AccIs rStr G h' D (l ++ List.replicate k a)) h₅ := by
  obtain ⟨k₂, St, W, hst, hI, hlive⟩ := hS
  have liveD : ∃ o, h₃.get? D = some o := by obtain ⟨ys, ⟨o, ho, _⟩, _⟩ := hac; exact ⟨o, ho⟩
  have liveC : ∃ o, h₃.get? C = some o := by obtain ⟨m, ⟨o, _, _, ho, _⟩, _⟩ := hC; exact ⟨o, ho⟩
  have DI : D ≠ I := fun q => by obtain ⟨o, e⟩ := liveD; rw [q, hI] at e; cases e
  have CI : C ≠ I := fun q => by obtain ⟨o, e⟩ := liveC; rw [q, hI] at e; cases e
  have loc : (compEnvC scope cl C env).kindOf x2 = some .local := lookup_relabel_local hx2
  have hp : ((compEnvC scope cl C env).scope.kind == .class || ((compEnvC scope cl C env).scope.kind == .module && (compEnvC scope cl C env).locals != (compEnvC scope cl C env).globals)) = false := by
    show (scope.kind == .class || (scope.kind == .module && _)) = false
    rw [hk]; rfl
  have key := comp_loop (prog := prog) (w := w) (A := A) (e := .ListComp elt [⟨.Name x1 p1, i1, [c], 0⟩, ⟨.Name x2 p2, i2, [], 0⟩] scope pos) (d := 1) (I := I) (acc := .ref D) (env := compEnvC scope cl C env) (h := h₅) (p := i2.pos)
    (body := fun v => assign (.Name x2 p2) (compEnvC scope cl C env) v >>= fun _ => eval elt (compEnvC scope cl C env) >>= fun x => call (.builtin "list.append") [.ref D, x] >>= fun _ => (Pure.pure () : Sem Unit))
    (Inv := fun i h' => KM [D, C] h₃ h' ∧ (∃ m, h'.Ns C m ∧ m x1 = some v) ∧ AccIs rStr G h' D (l ++ List.replicate i a))
    rfl rfl (by
      rw [compTurn_two1]
      congr 1; funext _; congr 1; funext r
      cases r with
      | none => rfl
      | some v =>
        show (Pure.pure () >>= fun _ => _) = _
        simp only [bind_assoc, pure_bind]) (Around.under_of_weight rfl) W ?_ ?_ hst ?_
  · exact key
  · rintro i g g' ⟨km, ⟨m, hm, hv⟩, hac⟩ hk'
    refine ⟨fun b o n e => hk' b o (fun q => ?_) (km b o n e), ⟨m, hm.at' fun o e => hk' C o (fun q => CI (List.mem_singleton.mp q)) e, hv⟩, ?_⟩
    · rw [List.mem_singleton.mp q, hI] at e; cases e
    · obtain ⟨ys, hl, hs, hr⟩ := hac
      exact ⟨ys, hl.at fun o e => hk' D o (fun q => DI (List.mem_singleton.mp q)) e, hs, hr⟩
  · rintro i u g hi hu hsti ⟨km, ⟨m, hm, hv⟩, hac⟩
    refine Tri.bind (P := fun _ h₂ => (∃ m, h₂.Ns C m ∧ m x1 = some v) ∧ KM [C] g h₂) (Tri.bindLocal (env := compEnvC scope cl C env) hm (fun h₂ n₂ s₂ => ⟨⟨_, n₂, by rw [if_neg hne]; exact hv⟩, km_but s₂ (.head _)⟩) loc hp) fun _ h₂ q₂ => ?_
    obtain ⟨⟨m₂, hm₂, hv₂⟩, km₂⟩ := q₂
    have km2' : KM [D, C] g h₂ := km₂.more fun b hb => .tail _ hb
    obtain ⟨ys, hl, hs, hr⟩ := hac
    have hl₂ : h₂.IsList D ys := km₂.list hl fun q => hDC (List.mem_singleton.mp q)
    refine (helt h₂ m₂ (km.trans km2') ⟨ys, hl₂⟩ hm₂ hv₂).bind fun y h₃' q₃ => ?_
    obtain ⟨k₃, ty, rfl⟩ := q₃
    intro s Q E es ht hQ
    subst es
    have hl₃ : s.heap.IsList D ys := k₃.list hl₂
    have hlen : ys.size = l.length + i := by rw [hs]; simp
    refine wpAny_bind (wpAny_list_append hl₃ (fun h₄ hl₄ sb => ?_) (by omega))
    have kD : KM [D] s.heap h₄ := km_but sb (.head _)
    refine wpAny_pure (hQ () h₄ _ ht ⟨?_, ?_, ?_, ?_⟩)
    · refine W.frame _ _ _ hsti fun b hb o e => ?_
      rw [List.mem_singleton.mp hb] at e ⊢
      exact kD I o (fun q => DI (List.mem_singleton.mp q).symm) (k₃ I o (km₂ I o (fun q => CI (List.mem_singleton.mp q).symm) e))
    · exact ((km.trans km2').trans (Keeps.km k₃)).trans (kD.more fun b hb => by rw [List.mem_singleton.mp hb]; exact .head _)
    · exact ⟨m₂, kD.ns (hm₂.keeps k₃) (fun q => hDC (List.mem_singleton.mp q).symm), hv₂⟩
    · have e : l ++ List.replicate (i + 1) a = (l ++ List.replicate i a) ++ [a] := by rw [List.replicate_succ', List.append_assoc]
      rw [e]
      refine ⟨_, hl₄, by rw [Array.size_push, hs, List.length_append (bs := [a])]; rfl, fun j u' z p q => ?_⟩
      rw [Array.getElem?_push] at p
      split at p
      · rename_i hj
        cases p
        rw [hj, hs] at q
        simp at q
        subst q
        exact ⟨_, rfl⟩
      · rename_i hj
        by_cases hlt : j < (l ++ List.replicate i a).length
        · rw [List.getElem?_append_left hlt] at q
          exact hr j u' z p q
        · rw [Array.getElem?_eq_none (by omega)] at p; cases p
  · refine ⟨Keeps.km k₂, ?_, ?_⟩
    · obtain ⟨m, hm, hv⟩ := hC
      exact ⟨m, hm.keeps k₂, hv⟩
    · obtain ⟨ys, hl, hs, hr⟩ := hac
      exact ⟨ys, k₂.list hl, by simpa using hs, fun j u x p q => hr j u x p (by simpa using q)⟩
/-- a block of two clauses over names, a test behind the first, that adds texts -/
theorem comp_two {n : Nat} (tst : Nat → Bool) (cnt : Nat → Nat) (val : Nat → Str) {elt i1 c i2 : Expr} {x1 x2 : Str} {p1 p2 : Pos} {scope : Scope} {pos : Pos} {cl : List (Str × Addr)} {Pv : Nat → Value → Prop} {Pv2 : Nat → Nat → Value → Prop}
    (hclos : closureFor scope env = Pure.pure cl) (oc : OneCell scope none) (hkind : scope.kind = .function) (hnames : ∀ y ∈ scope.names, y.2 = .local → scope.names.lookup y.1 = some .local)
    (hx1 : scope.names.lookup x1 = some .local) (hx2 : scope.names.lookup x2 = some .local) (hne : x1 ≠ x2)
    (hG : Live G h) (hcnt : ∀ i, cnt i ≤ 2) (hn : n ≤ 1000)
    (src : Tri (model prog w) A (eval i1 env) (fun x h₁ => Tri (model prog w) A (pyIter x) (fun it h₂ => ∃ I, it = .ref I ∧ SrcR prog w A h n Pv I h₂) h₁) h)
    (test : ∀ C i v h₂ m, Keeps h h₂ → h₂.Ns C m → m x1 = some v → i < n → Pv i v → Tri (model prog w) A (isTrue c (compEnvC scope cl C env) (eval c (compEnvC scope cl C env))) (fun b h₃ => Keeps h₂ h₃ ∧ b = tst i) h₂)
    (src2 : ∀ C i v h₂ m, Keeps h h₂ → h₂.Ns C m → m x1 = some v → i < n → Pv i v → tst i = true → Tri (model prog w) A (eval i2 (compEnvC scope cl C env)) (fun x h₄ => Tri (model prog w) A (pyIter x) (fun it h₅ => ∃ I, it = .ref I ∧ SrcR prog w A h₂ (cnt i) (Pv2 i) I h₅) h₄) h₂)
    (helt : ∀ C i v h₂ m, Keeps h h₂ → h₂.Ns C m → m x1 = some v → i < n → Pv i v → tst i = true → Tri (model prog w) A (eval elt (compEnvC scope cl C env)) (fun y h₇ => Keeps h₂ h₇ ∧ isStr (val i) y) h₂)
    (hs : ∀ x, foldedSetIterable i1 env x = Pure.pure x) (hs2 : ∀ C x, foldedSetIterable i2 (compEnvC scope cl C env) x = Pure.pure x) :
    Tri (model prog w) A (eval (.ListComp elt [⟨.Name x1 p1, i1, [c], 0⟩, ⟨.Name x2 p2, i2, [], 0⟩] scope pos) env)
      (fun v h' => Keeps h h' ∧ (rLst rStr).r G h' v ((List.range n).flatMap fun i => if tst i then List.replicate (cnt i) (val i) else [])) h := by
  refine comp_acc (env := env) rStr (fun i => if tst i then List.replicate (cnt i) (val i) else []) (cq := none) (Pv := Pv) (fun D C cs v => assign (.Name x1 p1) (compEnvC scope cl C env) v >>= fun _ =>
        (forIn [c] true fun c r => if r = true then do let ok ← isTrue c (compEnvC scope cl C env) (eval c (compEnvC scope cl C env)); Pure.pure (ForInStep.yield ok) else Pure.pure (ForInStep.yield r)) >>= fun ok =>
          (if ok = true then (eval i2 (compEnvC scope cl C env) >>= fun x => standAt i2.pos >>= fun _ => foldedSetIterable i2 (compEnvC scope cl C env) x >>= fun x => holding [x] (pyIter x) >>= fun y =>
            runOwn (.compStart (.ListComp elt [⟨.Name x1 p1, i1, [c], 0⟩, ⟨.Name x2 p2, i2, [], 0⟩] scope pos) 1 y (.ref D) (compEnvC scope cl C env)) (compEnvC scope cl C env) >>= fun _ => (Pure.pure () : Sem Unit)) else Pure.pure ()))
    (fun I D C cs => ?_) hclos oc hkind hnames (fun I D C => Around.under_of_weight rfl) hG (src.mono fun x h₁ q => q.mono fun it h₂ q => let ⟨I, e, s⟩ := q; ⟨I, e, s.src⟩) ?_ hs
  · show compTurn _ 0 (.ref I) (.ref D) (compEnvC scope cl C env) = _
    rw [compTurn_two]
    congr 1; funext _; congr 1; funext r
    cases r with
    | none => rfl
    | some v =>
      simp only [bind_assoc]
      congr 1; funext _; congr 1; funext _; congr 1; funext ok
      cases ok with
      | true => simp only [if_true, bind_assoc, pure_bind]; rfl
      | false => simp only [Bool.false_eq_true, if_false, pure_bind]; rfl
  · intro N D C cs i v h₁ l hcs hsub hDC hDcs hCcs hN k₁ lv fr hi hv hl hac
    obtain rfl : cs = [] := hcs
    obtain ⟨m, hm⟩ := fr.1
    have loc : (compEnvC scope cl C env).kindOf x1 = some .local := lookup_relabel_local hx1
    have hp : ((compEnvC scope cl C env).scope.kind == .class || ((compEnvC scope cl C env).scope.kind == .module && (compEnvC scope cl C env).locals != (compEnvC scope cl C env).globals)) = false := by
      show (scope.kind == .class || (scope.kind == .module && _)) = false
      rw [hkind]; rfl
    have newC : h.get? C = none := hN C (hsub C (.tail _ (.head _)))
    have newD : h.get? D = none := hN D (hsub D (.head _))
    have offN : ∀ b ∈ [D, C], b ∈ N ++ G := fun b hb => List.mem_append_left _ (hsub b (by simpa [scr] using hb))
    have offM : ∀ b ∈ [D, C], h.get? b = none := fun b hb => hN b (hsub b (by simpa [scr] using hb))
    refine Tri.bind (P := fun _ h₂ => (∃ m, h₂.Ns C m ∧ m x1 = some v) ∧ KM [C] h₁ h₂) (Tri.bindLocal (env := compEnvC scope cl C env) hm (fun h₂ n₂ s₂ => ⟨⟨_, n₂, by rw [if_pos rfl]⟩, km_but s₂ (.head _)⟩) loc hp) fun _ h₂ q₂ => ?_
    obtain ⟨⟨m₂, hm₂, hv₂⟩, km₂⟩ := q₂
    have km2 : KM [D, C] h₁ h₂ := km₂.more fun b hb => .tail _ hb
    have k₂ : Keeps h h₂ := km2.of k₁ offM
    have hac₂ : AccIs rStr (N ++ G) h₂ D l := hac.km km₂ (fun q => hDC (List.mem_singleton.mp q)) fun b hb => offN b (.tail _ hb)
    have hlen : l.length ≤ 2 * i := by
      rw [hl]
      have : ∀ j, ((List.range j).flatMap fun i => if tst i then List.replicate (cnt i) (val i) else []).length ≤ 2 * j := by
        intro j
        induction j with
        | zero => simp
        | succ j ih =>
          rw [List.range_succ, List.flatMap_append, List.length_append]
          have := hcnt j
          have e1 : (List.flatMap (fun i => if tst i then List.replicate (cnt i) (val i) else []) [j]).length ≤ 2 := by
            rw [List.flatMap_singleton]
            by_cases ht : tst j = true
            · rw [if_pos ht, List.length_replicate]; exact this
            · rw [if_neg ht]; exact Nat.zero_le _
          omega
      exact this i
    refine Tri.bind (P := fun ok h₃ => Keeps h₂ h₃ ∧ ok = tst i) ?_ fun ok h₃ q₃ => ?_
    · intro s Q E es ht hQ
      exact wpAny_tests_one ((test C i v h₂ m₂ k₂ hm₂ hv₂ hi hv).use es ht fun b h' tk t0 q => hQ b h' tk t0 q)
    · obtain ⟨k₃, rfl⟩ := q₃
      have hac₃ : AccIs rStr (N ++ G) h₃ D l := hac₂.km (Keeps.km (M := []) k₃) List.not_mem_nil fun b hb => by cases hb
      cases ht : tst i with
      | false =>
        simp only [Bool.false_eq_true, if_false]
        refine Tri.pure ⟨?_, ⟨⟨m₂, hm₂.keeps k₃⟩, fun c hc => by cases hc⟩, by simpa using hac₃⟩
        exact km2.trans (Keeps.km k₃)
      | true =>
        simp only [if_true]
        refine (src2 C i v h₃ m₂ (k₂.trans k₃) (hm₂.keeps k₃) hv₂ hi hv ht).bind fun x h₄ q₄ => ?_
        refine Tri.stand ?_
        rw [hs2, pure_bind]
        intro s Q E es htk hQ
        refine wpAny_bind (wpAny_holding (q₄.use es htk fun it h₅ tk₅ t₅ q₅ => ?_))
        obtain ⟨I, rfl, S⟩ := q₅
        have loop := inner_loop (env := env) (cl := cl) (C := C) (D := D) (a := val i) (v := v) (p1 := p1) (p2 := p2) (i1 := i1) (c := c) (i2 := i2) (elt := elt) (scope := scope) (pos := pos) hkind hx2 hne hDC S hac₃ ⟨m₂, hm₂.keeps k₃, hv₂⟩ (by have := hcnt i; rw [sizeLine_eq]; omega) (fun h₆ m' km hD hm' hv' => helt C i v h₆ m' (km.of (k₂.trans k₃) offM) hm' hv' hi hv ht)
        refine wpAny_bind (wpAny_runOwn (h := none) ?_)
        have S' := S
        obtain ⟨k5, St5, W5, st5, _⟩ := S'
        have go : ∀ tk, 0 < tk → codeAny (model prog w) A (.compLoop (.ListComp elt [⟨.Name x1 p1, i1, [c], 0⟩, ⟨.Name x2 p2, i2, [], 0⟩] scope pos) 1 (.ref I) (.ref D) (compEnvC scope cl C env))
            (fun r s' => match r with | .ok f => wpAny (model prog w) A (Pure.pure () : Sem Unit) Q E s' | .error e => cameBackBy (model prog w) A (compEnvC scope cl C env) E e s') { s with heap := h₅, toks := tk } := fun tk t0 =>
          loop _ _ rfl t0 fun h₈ tk₈ t₈ q₈ => by
            obtain ⟨km₈, ⟨m₈, hm₈, _⟩, hac₈⟩ := q₈
            refine wpAny_pure (hQ () h₈ tk₈ t₈ ⟨(km2.trans (Keeps.km k₃)).trans km₈, ⟨⟨m₈, hm₈⟩, fun c hc => by cases hc⟩, hac₈⟩)
        exact codeAny_compStart1 (go _ t₅) (W5.self 0 _ _ _ st5 (go _ t₅))
end
end Mine
end

section
open PySem PySem.W PyProof.Rows PySem.Calls PySem.SeqAt
set_option maxRecDepth 100000
set_option maxHeartbeats 8000000
set_option linter.unusedVariables false
set_option linter.unusedSimpArgs false
namespace Mine
noncomputable abbrev File := Str × Array UInt8
noncomputable abbrev rFile : Rel File := rTup2 rStr rBytes
noncomputable abbrev rFiles : Rel (List File) := rLst rFile
noncomputable abbrev rParcels : Rel (List (List File)) := rLst rFiles
noncomputable abbrev rTexts : Rel (List Str) := rLst rStr
noncomputable abbrev rRead : Rel (Str × Array UInt8 × Str) := rTup3 rStr rBytes rStr
noncomputable def rowOf (f : File) : Str := row f.1 f.2
noncomputable def pieces : List Str := [S "a", S "&", S "<", S ">", S "\"", S "\n", S "\t", S "\r", S "'", S "b"]
noncomputable def figures (n : Nat) : List Nat := if n < 10 then [n] else if n < 100 then [n / 10, n % 10] else [n / 100, n / 10 % 10, n % 10]
noncomputable def nameOf (n : Nat) : Str := (figures (n % 1000)).foldl (fun x d => x ++ pieces.getD d ⟨#[]⟩) ⟨#[]⟩
noncomputable def octetsOf (n : Nat) : Array UInt8 := ([UInt8.ofNat (n % 256), UInt8.ofNat (n / 9 % 256), UInt8.ofNat (255 - n % 256)].take (n % 4)).toArray
noncomputable def thirdOf (x : Int) : Nat := (x / 3).natAbs
noncomputable def fileOf (x : Int) : File := (nameOf (thirdOf x), octetsOf (thirdOf x))
open Classical in
noncomputable def addTo (f : File) (l : List File) : List File := if f ∈ l then l else l ++ [f]
noncomputable def turnP (P : List File × List File) (x : Int) : List File × List File :=
  (if x % 3 = 1 then P.1 else addTo (fileOf x) P.1, if x % 3 = 0 then P.2 else addTo (fileOf x) P.2)
noncomputable def firstP : List File × List File := ([(S "&lt;<", #[0]), (S "a\n\"", #[97, 98])], [(S "&lt;<", #[0]), (S "a\t>", #[])])
noncomputable def parcels (ns : List Int) : List File × List File := ns.foldl turnP firstP
/-- the names that the law makes -/
noncomputable def okName (x : Str) : Prop := (∃ n, x = nameOf n) ∨ x = S "&lt;<" ∨ x = S "a\n\"" ∨ x = S "a\t>"
noncomputable def OkFile (f : File) : Prop := okName f.1 ∧ f.2.size ≤ 3
/-- the difference of two sorted lists, as the program reckons it -/
noncomputable def below (x y : Str) : Bool := decide (x.cps.toList < y.cps.toList)
noncomputable def sdiff : List Str → List Str → List Str × List Str
  | [], ys => ([], ys)
  | e :: xs, [] => (e :: xs, [])
  | e :: xs, a :: ys =>
    if below e a then let r := sdiff (xs.dropWhile (· == e)) (a :: ys); (e :: r.1, r.2)
    else if below a e then let r := sdiff (e :: xs) (ys.dropWhile (· == a)); (r.1, a :: r.2)
    else sdiff (xs.dropWhile (· == e)) (ys.dropWhile (· == a))
termination_by x y => x.length + y.length
decreasing_by
  all_goals
    have h1 : (xs.dropWhile (· == e)).length ≤ xs.length := (List.dropWhile_sublist _).length_le
    have h2 : (ys.dropWhile (· == a)).length ≤ ys.length := (List.dropWhile_sublist _).length_le
    simp only [List.length_cons]
    omega
end Mine
end

section
open PySem PySem.W PyProof.Rows PySem.Calls PySem.SeqAt
set_option maxRecDepth 100000
set_option maxHeartbeats 400000
set_option linter.unusedVariables false
set_option linter.unusedSimpArgs false
namespace Mine
theorem entry_unchain : entryFor table "proto.unchain" = some Builtin.«proto.unchain» := entryFor_of_tree (by kernel_rfl)
theorem plain_unchain : plainId "proto.unchain" = true := by decide +kernel
section
variable {prog : Program} {w : World} {A : Around} {s : Shared} {E : Value → Shared → Prop}
theorem unchain_none {e c : Value} {a : Addr} {oc : Obj} {vs : Array Value} {Q : Value → Shared → Prop} (hc : c = .ref a) (ho : s.heap.get? a = some oc) (hd : oc.data = .fields vs) (h2 : vs[2]? = some .none) (h : Q .none s) :
    wpAny (model prog w) A (runValue (.builtin "proto.unchain" ⟨[e, c, c, .bool false], []⟩)) Q E s := by
  subst hc
  refine wpAny_runValue (codeAny_builtin entry_unchain ?_)
  rw [Around.under_plainId plain_unchain _]
  show wpAny _ A.in1 (field (.ref a) 2 >>= _) _ _ s
  refine wpAny_bind (wpAny_field ho hd h2 ?_)
  exact wpAny_pure h
/-- what is handled has no context of its own -/
noncomputable def HandOk (A : Around) (h : Heap) : Prop := A.handled = none ∨ ∃ c oc vs, A.handled = some (.ref c) ∧ h.get? c = some oc ∧ oc.data = .fields vs ∧ vs[2]? = some .none
/-- a new IndexError -/
structure NewX (A : Around) (h h' : Heap) (e : Addr) : Prop where
  keeps : Keeps h h'
  new : h.get? e = none
  there : ∃ ob vs, h'.get? e = some ob ∧ ob.cls = .type "IndexError" ∧ ob.data = .fields vs ∧ vs[1]? = some .none ∧ (A.handled = none → vs[2]? = some .none)
theorem raise_words {α : Type} {msg : String} {Q : α → Shared → Prop} (hh : HandOk A s.heap)
    (h : ∀ h' tk e, NewX A s.heap h' e → E (.ref e) { s with heap := h', toks := tk }) : wpAny (model prog w) A (raiseErrorWords "IndexError" msg : Sem α) Q E s := by
  unfold raiseErrorWords
  refine wpAny_bind (wpAny_mkText (wpAny_bind ?_))
  unfold newExc newTuple
  refine wpAny_bind (wpAny_newObj_type ?_)
  refine wpAny_bind (m := firstArgMember _ _) (wpAny_of_eq (a := Value.none) (by simp only [firstArgMember, plainExc_IndexError.first]; rfl) ?_)
  rw [plainExc_IndexError.own]
  refine wpAny_newObj_type ?_
  unfold raiseNew
  refine wpAny_bind (wpAny_handled ?_)
  have k : Keeps s.heap ((s.heap.push { cls := .type "tuple", dict := none, data := .seq [Value.str (Str.ofString msg) s.toks].toArray }).push { cls := .type "IndexError", dict := none, data := .fields #[.ref s.heap.objs.size, .none, .none, .none, .bool false, .none] }) :=
    fun b o hb => Heap.get?_push_of_some _ (Heap.get?_push_of_some _ hb)
  rcases hh with hh | ⟨c, oc, vs, hh, ho, hd, h2⟩
  · rw [hh]
    first
      | refine wpAny_throw ?_
      | refine wpAny_bind (wpAny_pure (wpAny_throw ?_))
    exact h _ _ _ ⟨k, Heap.get?_none_of_le (by simp), _, _, Heap.get?_push_size _ rfl, rfl, rfl, rfl, fun _ => rfl⟩
  · rw [hh]
    dsimp only
    have ne : ((Value.ref c != .ref ((s.heap.push { cls := .type "tuple", dict := none, data := .seq [Value.str (Str.ofString msg) s.toks].toArray }).objs.size)) = true) := by
      have : c < (s.heap.push { cls := .type "tuple", dict := none, data := .seq [Value.str (Str.ofString msg) s.toks].toArray }).objs.size := by rw [Heap.size_push]; exact Nat.lt_succ_of_lt (Heap.lt_size ho)
      simp only [bne_iff_ne, ne_eq, Value.ref.injEq]
      exact Nat.ne_of_lt this
    rw [if_pos ne]
    refine wpAny_bind (wpAny_holding (unchain_none rfl (k c oc ho) hd h2 ?_))
    generalize hH : s.heap.push { cls := .type "tuple", dict := none, data := .seq [Value.str (Str.ofString msg) s.toks].toArray } = H at k ne ⊢
    have he : (H.push { cls := .type "IndexError", dict := none, data := .fields #[.ref s.heap.objs.size, .none, .none, .none, .bool false, .none] }).get? H.objs.size = some { cls := .type "IndexError", dict := none, data := .fields #[.ref s.heap.objs.size, .none, .none, .none, .bool false, .none] } := Heap.get?_push_size _ rfl
    show wpAny _ A (setField (.ref H.objs.size) 2 (.ref c) >>= fun _ => throw (.ref H.objs.size)) _ _ _
    refine wpAny_bind (wpAny_setField he rfl (by simp) (wpAny_throw ?_))
    have hn : s.heap.get? H.objs.size = none := Heap.get?_none_of_le (by rw [← hH, Heap.size_push]; exact Nat.le_succ _)
    refine h _ _ _ ⟨fun b o hb => ?_, hn, _, _, Heap.get?_update_self _ he (Obj.isFreed_of_fields (Obj.data_mapFields rfl _)), rfl, rfl, rfl, fun q => by rw [hh] at q; cases q⟩
    rw [Heap.get?_update_other _ _ (fun q => by rw [← q, hn] at hb; cases hb)]
    exact k b o hb
/-- an item beyond a list -/
theorem item_out {l : Addr} {items : Array Value} {k : Int} {t : Tok} {Q : Value → Shared → Prop} (hh : HandOk A.in1 s.heap) (hl : s.heap.IsList l items) (hout : (items.size : Int) ≤ k) (hhi : k < 2 ^ 63)
    (hE : ∀ h' tk e, NewX A s.heap h' e → E (.ref e) { s with heap := h', toks := tk }) :
    wpAny (model prog w) A (getItem (.ref l) (.int k t)) Q E s := by
  obtain ⟨o, ho, hc, ne, hd⟩ := id hl
  unfold getItem
  try with_reducible refine wpAny_holding ?_
  first | refine wpAny_bind (wpAny_pure ?_) | skip
  refine wpAny_bind (wpAny_sequenceKey hl.typeIs (by decide) ?_)
  refine wpAny_bind (wpAny_callSpecial?_slot (name := Str.ofString "__getitem__") hl.typeIs slot_list_getitem
    (wpAny_call_entry slot_list_getitem hl.typeIs entry_list_getitem ?_ (args_list_getitem _ _)))
  show wpAny _ _ (Builtin.List.listSubscript? (.int k t) >>= _) _ _ s
  refine wpAny_bind (wpAny_listSubscript_int (fitsIndex_both (by omega) hhi) ?_)
  clear hhi
  have hE' : ∀ h' tk e, NewX A.in1 s.heap h' e → E (.ref e) { s with heap := h', toks := tk } := fun h' tk e x => hE h' tk e ⟨x.keeps, x.new, x.there⟩
  cases k with
  | negSucc j => exact absurd hout (by have := Int.negSucc_lt_zero j; omega)
  | ofNat j =>
  have hx : items[j]? = none := Array.getElem?_eq_none (by have : (items.size : Int) ≤ (j : Int) := hout; omega)
  show wpAny _ _ ((seqItemAt l j >>= fun r => pure (r.map (j, ·))) >>= _) _ _ s
  refine wpAny_bind (wpAny_bind (wpAny_seqItemAt ho hd (wpAny_pure ?_)))
  rw [hx]
  first
    | exact wpAny_bind (wpAny_rule (raise_words hh hE'))
    | exact wpAny_bind (wpAny_rule (wpAny_bind (raise_words hh hE')))
    | exact wpAny_bind (wpAny_bind (wpAny_rule (raise_words hh hE')))
    | exact wpAny_rule (raise_words hh hE')
end
end Mine
end

section
open PySem PySem.W PyProof.Rows PySem.Calls PySem.SeqAt
set_option maxRecDepth 100000
set_option maxHeartbeats 400000
set_option linter.unusedVariables false
set_option linter.unusedSimpArgs false
namespace Mine
noncomputable def frs (l : List Env) : List Addr := l.filterMap (·.frame)
/-- of what hB holds all stands but that frames may have their slots laid -/
structure StandOn (hB : Heap) (fs : List Addr) (h h' : Heap) : Prop where
  off : ∀ b o, (∃ o', hB.get? b = some o') → b ∉ fs → h.get? b = some o → h'.get? b = some o
  slots : ∀ b o, (∃ o', hB.get? b = some o') → h.get? b = some o → ∃ sl, h'.get? b = some { o with slots := sl }
theorem StandOn.refl (hB : Heap) (fs : List Addr) (h : Heap) : StandOn hB fs h h := ⟨fun _ _ _ _ e => e, fun _ o _ e => ⟨o.slots, e⟩⟩
theorem StandOn.trans {hB : Heap} {fs : List Addr} {a b c : Heap} (x : StandOn hB fs a b) (y : StandOn hB fs b c) : StandOn hB fs a c :=
  ⟨fun p o l n e => y.off p o l n (x.off p o l n e), fun p o l e => let ⟨_, e1⟩ := x.slots p o l e; let ⟨sl, e2⟩ := y.slots p _ l e1; ⟨sl, e2⟩⟩
theorem Keeps.standOn {hB : Heap} {fs : List Addr} {h h' : Heap} (k : Keeps h h') : StandOn hB fs h h' := ⟨fun b o _ _ e => k b o e, fun b o _ e => ⟨o.slots, k b o e⟩⟩
noncomputable def flOk (hB h' : Heap) (e : Addr) (vs : Array Value) : Option Value → Prop
  | none => vs[1]? = some .none
  | some v => ∃ T oT ts, vs[1]? = some (.ref T) ∧ hB.get? T = none ∧ T ≠ e ∧ h'.get? T = some oT ∧ oT.data = .fields ts ∧ ts[3]? = some v
/-- an IndexError that is new since hB -/
structure ExcS (hB h' : Heap) (e : Addr) (fl : Option Value) (c : Bool) : Prop where
  new : hB.get? e = none
  there : ∃ oe vs, h'.get? e = some oe ∧ oe.cls = .type "IndexError" ∧ oe.data = .fields vs ∧ (c = true → vs[2]? = some .none) ∧ flOk hB h' e vs fl
theorem ExcS.km {hB h h' : Heap} {e : Addr} {fl : Option Value} {c : Bool} {M : List Addr} (x : ExcS hB h e fl c) (k : KM M h h') (l : ∀ b ∈ M, ∃ o, hB.get? b = some o) : ExcS hB h' e fl c := by
  have nm : ∀ b, hB.get? b = none → b ∉ M := fun b n q => by obtain ⟨o, eo⟩ := l b q; rw [n] at eo; cases eo
  obtain ⟨oe, vs, he, hc, hd, hctx, hv⟩ := x.there
  refine ⟨x.new, oe, vs, k e oe (nm e x.new) he, hc, hd, hctx, ?_⟩
  cases fl with
  | none => exact hv
  | some v => obtain ⟨T, oT, ts, h1, hnT, hTe, hT, r⟩ := hv; exact ⟨T, oT, ts, h1, hnT, hTe, k T oT (nm T hnT) hT, r⟩
section
variable {prog : Program} {w : World} {A : Around} {env : Env} {outer : List Env} {L e : Addr} {base hB h : Heap} {c : Bool}
theorem note_ok {fl : Option Value} (gr : ∀ b, (∃ o, hB.get? b = some o) → ∃ o, h.get? b = some o) (hfr : A.frames = some (env :: outer)) (hl : h.FunFrames base (env :: outer)) (hlive : ∀ b ∈ frs (env :: outer), ∃ o, hB.get? b = some o) (hf : env.frame = some L) (hfl : fl = none ∨ fl = some (rawInt L)) (x : ExcS hB h e fl c) :
    Tri (model prog w) A (noteFrame (.ref e) env) (fun _ h' => StandOn hB (frs (env :: outer)) h h' ∧ ExcS hB h' e (some (rawInt L)) c) h := by
  intro s Q E es ht hQ
  subst es
  obtain ⟨oe, vs, he, hc, hd, hctx, hv⟩ := x.there
  unfold noteFrame
  simp only [hf]
  rcases hfl with rfl | rfl
  · have h1 : vs[1]? = some .none := hv
    have hsz : 1 < vs.size := (Array.getElem?_eq_some_iff.mp h1).1
    refine wpAny_bind (wpAny_field he hd h1 ?_)
    rw [if_neg (by decide)]
    have hef : e ∉ frs (env :: outer) := fun q => by obtain ⟨o, eo⟩ := hlive e q; rw [x.new] at eo; cases eo
    refine wpAny_bind (wpAny_frameOf_fun hfr hl hf fun h₁ hs₁ => ?_)
    refine wpAny_bind (wpAny_entryPlaceOf fun pl hpl => ?_)
    unfold EntryCells.newEntry newFields
    refine wpAny_bind (wpAny_newObj_type ?_ (hpl.sizeOk5 _ _ _ _ _))
    have he₁ : h₁.get? e = some oe := (hs₁.2.1 e hef).trans he
    generalize hH : h₁.push { cls := .type "traceback", dict := none, data := .fields ([Value.none, .ref L, .none, rawInt L, .none] ++ (if pl.isEmpty then List.replicate 6 Value.none else pl)).toArray } = H
    have kH : Keeps h₁ H := fun b o q => hH ▸ Heap.get?_push_of_some _ q
    have he₂ := kH _ _ he₁
    have hT : H.get? h₁.objs.size = some { cls := .type "traceback", dict := none, data := .fields ([Value.none, .ref L, .none, rawInt L, .none] ++ (if pl.isEmpty then List.replicate 6 Value.none else pl)).toArray } := hH ▸ Heap.get?_push_size _ rfl
    have hTe : h₁.objs.size ≠ e := Nat.ne_of_gt (Heap.lt_size he₁)
    refine wpAny_setField he₂ hd hsz (hQ () _ _ ht ?_)
    have st₁ : StandOn hB (frs (env :: outer)) s.heap h₁ := ⟨fun b o _ n q => (hs₁.2.1 b n).trans q, fun b o _ q => hs₁.2.2 b o q⟩
    have st₂ : StandOn hB (frs (env :: outer)) s.heap H := st₁.trans kH.standOn
    have up : ∀ b, b ≠ e → (H.update e (Obj.mapFields (·.setIfInBounds 1 (Value.ref h₁.objs.size)))).get? b = H.get? b := fun b n => Heap.get?_update_other _ _ (Ne.symm n)
    have nb : ∀ b, (∃ o, hB.get? b = some o) → b ≠ e := fun b ⟨o, q⟩ r => by rw [r, x.new] at q; cases q
    have newT : hB.get? h₁.objs.size = none := by
      cases q : hB.get? h₁.objs.size with
      | none => rfl
      | some o =>
        obtain ⟨o', e'⟩ := gr _ ⟨o, q⟩
        have := Heap.lt_size e'
        rw [hs₁.1] at this
        exact absurd this (Nat.lt_irrefl _)
    refine ⟨⟨fun b o l n q => (up b (nb b l)).trans (st₂.off b o l n q), fun b o l q => by rw [up b (nb b l)]; exact st₂.slots b o l q⟩, x.new, _, _, Heap.get?_update_self _ he₂ (Obj.isFreed_of_fields (Obj.data_mapFields hd _)), (Obj.cls_mapFields _ _).trans hc, Obj.data_mapFields hd _, fun q => ?_, ?_⟩
    · rw [Array.getElem?_setIfInBounds_ne (by decide)]; exact hctx q
    · refine ⟨h₁.objs.size, _, _, by simp [hsz], newT, hTe, (up _ hTe).trans hT, rfl, ?_⟩
      rcases hpl with rfl | ⟨_, _, _, _, _, _, _, rfl⟩ <;> simp
  · obtain ⟨T, oT, ts, h1, hnT, hTe, hT, hdT, h3⟩ := hv
    refine wpAny_bind (wpAny_field he hd h1 ?_)
    rw [if_pos (show (Value.ref T != Value.none) = true from by simp)]
    refine wpAny_bind (wpAny_field hT hdT h3 ?_)
    rw [if_pos (show (rawInt L == rawInt L) = true from by simp)]
    exact wpAny_pure (hQ () s.heap s.toks ht ⟨StandOn.refl _ _ _, x⟩)
theorem flight_ok {v : Value} {f : Option Addr} {fs : List Addr} (x : ExcS hB h e (some v) c) :
    Tri (model prog w) A (setFlight (.ref e) f) (fun _ h' => StandOn hB fs h h' ∧ ExcS hB h' e (some (f.elim .none fun a => rawInt a)) c) h := by
  intro s Q E es ht hQ
  subst es
  obtain ⟨oe, vs, he, hc, hd, hctx, T, oT, ts, h1, hnT, hTe, hT, hdT, h3⟩ := x.there
  have hsz3 : 3 < ts.size := (Array.getElem?_eq_some_iff.mp h3).1
  unfold setFlight
  refine wpAny_bind (wpAny_field he hd h1 ?_)
  rw [if_pos (show (Value.ref T != Value.none) = true from by simp)]
  refine wpAny_setField hT hdT hsz3 (hQ () _ _ ht ?_)
  have up : ∀ b, b ≠ T → (s.heap.update T (Obj.mapFields (·.setIfInBounds 3 (f.elim Value.none fun f => rawInt f)))).get? b = s.heap.get? b := fun b n => Heap.get?_update_other _ _ (Ne.symm n)
  have nb : ∀ b, (∃ o, hB.get? b = some o) → b ≠ T := fun b ⟨o, q⟩ r => by rw [r, hnT] at q; cases q
  refine ⟨⟨fun b o l n q => (up b (nb b l)).trans q, fun b o l q => by rw [up b (nb b l)]; exact ⟨o.slots, q⟩⟩, x.new, oe, vs, (up e (Ne.symm hTe)).trans he, hc, hd, hctx, T, _, _, h1, hnT, hTe, Heap.get?_update_self _ hT (Obj.isFreed_of_fields (Obj.data_mapFields hdT _)), Obj.data_mapFields hdT _, by simp [hsz3]⟩
theorem field1_ok {v : Value} {P : Value → Heap → Prop} (x : ExcS hB h e (some v) c) (k : ∀ T, P (.ref T) h) : Tri (model prog w) A (field (.ref e) 1) P h := by
  intro s Q E es ht hQ
  subst es
  obtain ⟨oe, vs, he, hc, hd, hctx, T, oT, ts, h1, _⟩ := x.there
  exact wpAny_field he hd h1 (hQ _ s.heap s.toks ht (k T))
end
/-- a triple whose tree may raise -/
noncomputable def TriE {α : Type} (M : Model) (A : Around) (t : Sem α) (P : α → Heap → Prop) (X : Value → Heap → Prop) (h : Heap) : Prop :=
  ∀ (s : Shared) (Q : α → Shared → Prop) (E : Value → Shared → Prop), s.heap = h → 0 < s.toks → (∀ a h' tk, 0 < tk → P a h' → Q a { s with heap := h', toks := tk }) →
    (∀ e h' tk, 0 < tk → X e h' → E e { s with heap := h', toks := tk }) → wpAny M A t Q E s
section
variable {α β : Type} {M : Model} {A : Around} {h : Heap} {P : α → Heap → Prop} {X X' : Value → Heap → Prop}
theorem Tri.e {t : Sem α} (x : Tri M A t P h) : TriE M A t P X h := fun s Q E es ht hQ _ => x s Q E es ht hQ
theorem TriE.mono {t : Sem α} {P' : α → Heap → Prop} (x : TriE M A t P X h) (k : ∀ a h', P a h' → P' a h') (kx : ∀ e h', X e h' → X' e h') : TriE M A t P' X' h :=
  fun s Q E es ht hQ hE => x s Q E es ht (fun a h' tk t0 p => hQ a h' tk t0 (k a h' p)) fun e h' tk t0 p => hE e h' tk t0 (kx e h' p)
theorem TriE.bind {t : Sem α} {f : α → Sem β} {R : β → Heap → Prop} (x : TriE M A t P X h) (k : ∀ a h', P a h' → TriE M A (f a) R X h') : TriE M A (t >>= f) R X h :=
  fun s Q E es ht hQ hE => wpAny_bind (x s _ E es ht (fun a h' tk t0 p => k a h' p _ Q E rfl t0 hQ hE) hE)
theorem TriE.of {t : Sem α} (x : TriE M A t P (fun _ _ => False) h) : Tri M A t P h := fun s Q E es ht hQ => x s Q E es ht hQ fun _ _ _ _ f => f.elim
end
/-- the world in which an exception is caught: what stands, the frames, their own frame -/
structure XW (hB base : Heap) (env : Env) (outer : List Env) (L : Addr) (Fc : Heap → Prop) : Prop where
  hf : env.frame = some L
  live : ∀ b ∈ frs (env :: outer), ∃ o, hB.get? b = some o
  on : ∀ h h', Fc h → StandOn hB (frs (env :: outer)) h h' → Fc h'
  frames : ∀ h, Fc h → h.FunFrames base (env :: outer)
  grown : ∀ h, Fc h → ∀ b, (∃ o, hB.get? b = some o) → ∃ o, h.get? b = some o
/-- an IndexError goes up, and Fc holds -/
noncomputable def Up (hB : Heap) (L : Addr) (c : Bool) (Fc : Heap → Prop) (ev : Value) (h : Heap) : Prop :=
  ∃ e fl, ev = .ref e ∧ (fl = none ∨ fl = some (rawInt L)) ∧ ExcS hB h e fl c ∧ Fc h
section
variable {prog : Program} {w : World} {A A' : Around} {env : Env} {outer : List Env} {L : Addr} {base hB h : Heap} {c : Bool} {Fc : Heap → Prop}
/-- .. it passes a loop of its own frame -/
theorem up_notes (W : XW hB base env outer L Fc) (hfr' : A'.frames = some (env :: outer)) (hfr : A.frames = some (env :: outer)) {ev : Value} {E : Value → Shared → Prop} {s : Shared} (ht : 0 < s.toks) (x : Up hB L c Fc ev s.heap)
    (k : ∀ h' tk, 0 < tk → Up hB L c Fc ev h' → E ev { s with heap := h', toks := tk }) : notedBy (model prog w) A' env (cameBackBy (model prog w) A env E) ev s := by
  obtain ⟨e, fl, rfl, hfl, hx, hF⟩ := x
  unfold notedBy
  refine (note_ok (W.grown _ hF) hfr' (W.frames _ hF) W.live W.hf hfl hx).use rfl ht fun _ h₁ tk₁ t₁ q => ?_
  unfold cameBackBy
  refine wpAny_bind ((field1_ok q.2 (P := fun v h' => (∃ T, v = .ref T) ∧ h' = h₁) fun T => ⟨⟨T, rfl⟩, rfl⟩).use rfl t₁ fun v h₂ tk₂ t₂ q₂ => ?_)
  obtain ⟨⟨T, rfl⟩, rfl⟩ := q₂
  rw [if_neg (by simp)]
  rw [W.hf]
  refine (flight_ok (f := some L) (fs := frs (env :: outer)) q.2).use rfl t₂ fun _ h₃ tk₃ t₃ q₃ => ?_
  exact k h₃ tk₃ t₃ ⟨e, _, rfl, .inr rfl, q₃.2, W.on _ _ (W.on _ _ hF q.1) q₃.1⟩
end
end Mine
end

section
open PySem PySem.W PyProof.Rows PySem.Calls PySem.SeqAt
set_option maxRecDepth 100000
set_option maxHeartbeats 400000
set_option linter.unusedVariables false
set_option linter.unusedSimpArgs false
namespace Mine
section
variable {M : Model} {A : Around} {env : Env} {h : Heap} {X : Value → Heap → Prop}
theorem TriE.then {st : Stmt} {rest : List Stmt} {P : Flow → Heap → Prop} (x : TriE M A (exec st env) (fun f h₁ => f = .next ∧ TriE M A (execs rest env) P X h₁) X h) : TriE M A (execs (st :: rest) env) P X h := fun s Q E es ht hQ hE =>
  wpAny_execs_cons (x s _ E es ht (fun f h₁ tk tk0 hp => by
    obtain ⟨rfl, y⟩ := hp
    exact y _ Q E rfl tk0 hQ hE) hE)
theorem TriE.cons {st : Stmt} {rest : List Stmt} {P : Flow → Heap → Prop} (x : TriE M A (exec st env) (fun f h₁ => (f = .next ∧ TriE M A (execs rest env) P X h₁) ∨ (f ≠ .next ∧ P f h₁)) X h) : TriE M A (execs (st :: rest) env) P X h := fun s Q E es ht hQ hE =>
  wpAny_execs_cons (x s _ E es ht (fun f h₁ tk tk0 hp => by
    rcases hp with ⟨rfl, y⟩ | ⟨n, y⟩
    · exact y _ Q E rfl tk0 hQ hE
    · cases f with
      | next => exact absurd rfl n
      | _ => exact hQ _ _ _ tk0 y) hE)
theorem TriE.cond {test : Expr} {body orelse : List Stmt} {pos : Pos} {P : Flow → Heap → Prop} (a : TriE M A (isTrue test env (eval test env)) (fun b h₁ => if b then TriE M A (execs body env) P X h₁ else TriE M A (execs orelse env) P X h₁) X h) : TriE M A (exec (.If test body orelse pos) env) P X h := fun s Q E es ht hQ hE =>
  wpAny_If (a s _ E es ht (fun b h₁ tk tk0 hv => by
    cases b with
    | true => exact (show TriE M A (execs body env) P X h₁ by simpa using hv) _ Q E rfl tk0 hQ hE
    | false => exact (show TriE M A (execs orelse env) P X h₁ by simpa using hv) _ Q E rfl tk0 hQ hE) hE)
theorem TriE.asgLocal {x : Str} {p pos : Pos} {value : Expr} {P : Flow → Heap → Prop} (a : TriE M A (eval value env) (fun v h₁ => ∃ m, h₁.Ns env.locals m ∧ ∀ h₂, h₂.Ns env.locals (fun y => if y = x then some v else m y) → Heap.SameBut env.locals h₁ h₂ → P .next h₂) X h)
    (hs : swapsWith value (some (.Name x p)) pos.line env = Pure.pure false := by rfl) (hx : env.kindOf x = some .local := by rfl) (hp : (env.scope.kind == .class || (env.scope.kind == .module && env.locals != env.globals)) = false := by rfl) : TriE M A (exec (.Assign [.Name x p] value pos) env) P X h := fun s Q E es ht hQ hE =>
  wpAny_Assign_Name (a s _ E es ht (fun v h₁ tk tk0 hv => by
    obtain ⟨m, n, k⟩ := hv
    exact wpAny_storeName_local hx n (fun h' hn hs => hQ _ h' _ (Nat.succ_pos _) (k h' hn hs)) hp) hE) hs
theorem TriE.cmpTrue {P : Bool → Heap → Prop} {l r : Expr} {op : CmpOp} {pos : Pos} {whole : Sem Value} (a : TriE M A (eval l env) (fun v h₁ => TriE M A (eval r env) (fun u h₂ => TriE M A (compareOp op v u) (fun b h₃ => ∃ c, b = .bool c ∧ P c h₃) X h₂) X h₁) X h) (hm : behindInMarks op r = false := by with_unfolding_all rfl) :
    TriE M A (isTrue (.Compare l [op] [r] pos) env whole) P X h := fun s Q E es ht hQ hE =>
  wpAny_isTrue_Compare1 (a s _ E es ht (fun v h₁ tk₁ t₁ hv => hv _ _ E rfl t₁ (fun u h₂ tk₂ t₂ hu => hu _ _ E rfl t₂ (fun b h₃ tk₃ t₃ hb => by
    obtain ⟨c, rfl, hc⟩ := hb
    exact wpAny_truthy_bool (hQ c h₃ tk₃ t₃ hc)) hE) hE) hE) hm
/-- i += n, a local int -/
theorem Tri.augInt {x : Str} {p pos : Pos} {e : Expr} {i j : Int} {t : Tok} {m : Str → Option Value} {P : Flow → Heap → Prop} (n : h.Ns env.locals m) (hv : m x = some (.int i t)) (he : PX M A env e (isInt j) h)
    (k : ∀ h₂ t', h₂.Ns env.locals (fun y => if y = x then some (.int (i + j) t') else m y) → Heap.SameBut env.locals h h₂ → P .next h₂)
    (hadd : ∀ (s : Shared) (Q : Value → Shared → Prop) (E : Value → Shared → Prop) (t u : Tok), Q (.int (i + j) s.toks) { s with toks := s.toks + 1 } → wpAny M A (inplaceOp .Add (.int i t) (.int j u)) Q E s)
    (hk : env.scope.kind = .function := by rfl) (hx : env.kindOf x = some .local := by rfl) (hp : (env.scope.kind == .class || (env.scope.kind == .module && env.locals != env.globals)) = false := by rfl) :
    Tri M A (exec (.AugAssign (.Name x p) .Add e pos) env) P h := fun s Q E es ht hQ => by
  subst es
  refine wpAny_AugAssign_Name (wpAny_loadName_local hk hx n hv ?_)
  refine he.here.use rfl ht fun u h₁ tk₁ t₁ q => ?_
  obtain ⟨⟨u, rfl⟩, rfl⟩ := q
  refine hadd _ _ _ _ _ ?_
  exact wpAny_storeName_local hx n (fun h' hn hs => hQ _ h' _ (Nat.succ_pos _) (k h' _ hn hs)) hp
theorem Tri.brk {pos : Pos} {P : Flow → Heap → Prop} (x : P .brk h) : Tri M A (exec (.Break pos) env) P h := fun s Q E es ht hQ => wpAny_Break (by subst es; exact hQ .brk s.heap s.toks ht x)
end
section
variable {prog : Program} {w : World} {A : Around} {env : Env} {outer : List Env} {L : Addr} {base hB h : Heap} {c : Bool} {Fc : Heap → Prop}
/-- a while whose test or suite may raise an IndexError that goes up -/
theorem TriE.whl {test : Expr} {body : List Stmt} {pos : Pos} {P : Heap → Prop} (W : XW hB base env outer L Fc) (hfr : A.frames = some (env :: outer)) (Inv : Nat → Heap → Prop)
    (turn : ∀ n h, Inv n h → TriE (model prog w) A (isTrue test env (eval test env)) (fun b h₁ => if b then TriE (model prog w) A (execs body env) (fun f h₂ => (f = .next ∧ ∃ m, m < n ∧ Inv m h₂) ∨ (f = .brk ∧ P h₂)) (Up hB L c Fc) h₁ else P h₁) (Up hB L c Fc) h)
    (n : Nat) (hI : Inv n h) : TriE (model prog w) A (exec (.While test body [] pos) env) (fun f h' => f = .next ∧ P h') (Up hB L c Fc) h := fun s Q E es ht hQ hE => by
  refine wpAny_While (codeAny_loop rfl (fun n s' => ∃ h' tk, s' = { s with heap := h', toks := tk } ∧ 0 < tk ∧ Inv n h') (fun n s' hI => ?_) n ⟨h, s.toks, by subst es; rfl, ht, hI⟩)
  obtain ⟨h', tk, rfl, htk, hI⟩ := hI
  rw [Around.under_of_weight rfl]
  show wpAny _ A ((whileTurn test body [] env).onRaise (fun x => do noteFrame x env; theTreesLotGoes x)) _ _ _
  refine wpAny_noted ?_
  have up : ∀ e h₁ tk₁, 0 < tk₁ → Up hB L c Fc e h₁ → notedBy (model prog w) A env (cameBackBy (model prog w) A env E) e { s with heap := h₁, toks := tk₁ } := fun e h₁ tk₁ t₁ x =>
    up_notes W hfr hfr t₁ x fun h' tk t0 y => hE e h' tk t0 y
  unfold whileTurn
  refine wpAny_bind (turn n h' hI _ _ _ rfl htk (fun b h₁ tk₁ t₁ q => ?_) up)
  cases b with
  | false =>
    simp only [Bool.false_eq_true, if_false] at q ⊢
    exact wpAny_bind (wpAny_execs_nil (wpAny_pure (hQ _ _ _ t₁ ⟨rfl, q⟩)))
  | true =>
    simp only [if_true] at q ⊢
    refine wpAny_bind (q _ _ _ rfl t₁ (fun f h₂ tk₂ t₂ q₂ => ?_) up)
    rcases q₂ with ⟨rfl, m, hm, hI₂⟩ | ⟨rfl, hP⟩
    · exact wpAny_pure ⟨rfl, m, hm, h₂, tk₂, rfl, t₂, hI₂⟩
    · exact wpAny_pure (hQ _ _ _ t₂ ⟨rfl, hP⟩)
/-- try .. finally: the end is reached on both roads -/
theorem TriE.fin {body : List Stmt} {f₀ : Stmt} {fs : List Stmt} {pos : Pos} {P : Heap → Prop} {Fc₁ : Heap → Prop} (W₁ : XW hB base env outer L Fc₁) (W : XW hB base env outer L Fc) (hfr : A.frames = some (env :: outer))
    (hb : TriE (model prog w) A (execs body env) (fun f h₁ => f = .next ∧ TriE (model prog w) A (execs (f₀ :: fs) env) (fun g h₂ => g = .next ∧ P h₂) (Up hB L c Fc) h₁) (Up hB L true Fc₁) h)
    (hr : ∀ e h₁, Fc₁ h₁ → ExcS hB h₁ e (some .none) true → TriE (model prog w) (A.mark (some (.ref e))) (execs (f₀ :: fs) env) (fun g h₂ => g = .next ∧ Fc h₂ ∧ ExcS hB h₂ e (some .none) true) (Up hB L c Fc) h₁)
    (hc : c = false) :
    TriE (model prog w) A (exec (.Try body [] [] (f₀ :: fs) pos) env) (fun f h' => f = .next ∧ P h') (Up hB L c Fc) h := fun s Q E es ht hQ hE => by
  subst hc
  have up : ∀ e h₁ tk₁, 0 < tk₁ → Up hB L false Fc e h₁ → notedBy (model prog w) A env (cameBackBy (model prog w) A env E) e { s with heap := h₁, toks := tk₁ } := fun e h₁ tk₁ t₁ x =>
    up_notes W hfr hfr t₁ x fun h' tk t0 y => hE e h' tk t0 y
  refine wpAny_Try_finally (hb s _ _ es ht (fun f h₁ tk₁ t₁ q => ?_) fun ev h₁ tk₁ t₁ x => ?_)
  · obtain ⟨rfl, q⟩ := q
    refine wpAny_execs_nil (q _ _ _ rfl t₁ (fun g h₂ tk₂ t₂ q₂ => ?_) up)
    obtain ⟨rfl, q₂⟩ := q₂
    exact hQ _ _ _ t₂ ⟨rfl, q₂⟩
  · obtain ⟨e, fl, rfl, hfl, hx, hF⟩ := x
    refine (note_ok (W₁.grown _ hF) hfr (W₁.frames _ hF) W₁.live W₁.hf hfl hx).use rfl t₁ fun _ h₂ tk₂ t₂ q => ?_
    have hF2 := W₁.on _ _ hF q.1
    refine ⟨ref_ne_byPass e, ?_⟩
    refine (note_ok (W₁.grown _ hF2) hfr (W₁.frames _ hF2) W₁.live W₁.hf (.inr rfl) q.2).use rfl t₂ fun _ h₃ tk₃ t₃ q₃ => ?_
    have hF3 := W₁.on _ _ hF2 q₃.1
    refine (flight_ok (f := none) (fs := frs (env :: outer)) q₃.2).use rfl t₃ fun _ h₄ tk₄ t₄ q₄ => ?_
    have hF4 := W₁.on _ _ hF3 q₄.1
    refine hr e h₄ hF4 q₄.2 _ _ _ rfl t₄ (fun g h₅ tk₅ t₅ q₅ => ?_) fun e' h₅ tk₅ t₅ x₅ => ?_
    · obtain ⟨rfl, hF5, hx5⟩ := q₅
      dsimp only
      unfold PySem.passOn
      refine wpAny_bind ((field1_ok hx5 (P := fun v h' => (∃ T, v = .ref T) ∧ h' = h₅) fun T => ⟨⟨T, rfl⟩, rfl⟩).use rfl t₅ fun v h₆ tk₆ t₆ q₆ => ?_)
      obtain ⟨⟨T, rfl⟩, rfl⟩ := q₆
      rw [if_neg (by simp)]
      rw [W.hf]
      refine wpAny_bind ((flight_ok (f := some L) (fs := frs (env :: outer)) hx5).use rfl t₆ fun _ h₇ tk₇ t₇ q₇ => wpAny_throw ?_)
      exact hE _ _ _ t₇ ⟨e, _, rfl, .inr rfl, ⟨q₇.2.new, by obtain ⟨oe, vs, a1, a2, a3, a4, a5⟩ := q₇.2.there; exact ⟨oe, vs, a1, a2, a3, (fun q => nomatch q), a5⟩⟩, W.on _ _ hF5 q₇.1⟩
    · exact up_notes W (by show (A.mark _).frames = _; exact hfr) hfr t₅ x₅ fun h' tk t0 y => hE e' h' tk t0 y
end
end Mine
end

section
open PySem PySem.W PyProof.Rows PySem.Calls PySem.SeqAt
set_option maxRecDepth 100000
set_option maxHeartbeats 400000
set_option linter.unusedVariables false
set_option linter.unusedSimpArgs false
namespace Mine
/-- a plain list of texts -/
noncomputable def AccT (h : Heap) (D : Addr) (l : List Str) : Prop := ∃ ys : Array Value, h.PlainList D ys ∧ ys.size = l.length ∧ ∀ (j : Nat) u x, ys[j]? = some u → l[j]? = some x → isStr x u
theorem AccT.at {h h' : Heap} {D : Addr} {l : List Str} (x : AccT h D l) (k : ∀ o, h.get? D = some o → h'.get? D = some o) : AccT h' D l :=
  let ⟨ys, hp, r⟩ := x; ⟨ys, hp.at k, r⟩
theorem AccT.app {h : Heap} {D : Addr} {l m : List Str} {ys zs : Array Value} (hp : h.PlainList D (ys ++ zs)) (hy : ys.size = l.length) (ry : ∀ (j : Nat) u x, ys[j]? = some u → l[j]? = some x → isStr x u)
    (hz : zs.size = m.length) (rz : ∀ (j : Nat) u x, zs[j]? = some u → m[j]? = some x → isStr x u) : AccT h D (l ++ m) := by
  refine ⟨_, hp, by simp [hy, hz], fun j u x p q => ?_⟩
  by_cases hj : j < ys.size
  · rw [Array.getElem?_append_left hj] at p
    rw [List.getElem?_append_left (by omega)] at q
    exact ry j u x p q
  · rw [Array.getElem?_append_right (by omega)] at p
    rw [List.getElem?_append_right (by omega), ← hy] at q
    exact rz _ u x p q
section
variable {prog : Program} {w : World} {A : Around} {env : Env} {h : Heap}
/-- an item, or an IndexError -/
theorem TriE.item {l r : Expr} {pos : Pos} {a : Addr} {vs : Array Value} {n : Nat} {P : Value → Heap → Prop} {X : Value → Heap → Prop} (hl : PX (model prog w) A env l (· = .ref a) h) (hv : h.IsList a vs) (hr : PX (model prog w) A env r (isInt n) h) (hA : HandOk A h) (hn : n < 2 ^ 60)
    (ok : ∀ u, vs[n]? = some u → P u h) (no : vs.size ≤ n → ∀ e h', NewX A h h' e → X (.ref e) h')
    (hs : ∀ a i t, subscripted r false (.ref a) (.int i t) = operate [.ref a, .int i t] (getItem (.ref a) (.int i t)) := by intros; with_unfolding_all rfl) :
    TriE (model prog w) A (eval (.Subscript l r pos) env) P X h := by
  by_cases hlt : n < vs.size
  · refine Tri.e ((PX.item hl hv hr (by omega) (by omega) (v := vs[n]) (by simp [hlt]) hs).here.mono fun u h' q => ?_)
    obtain ⟨rfl, rfl⟩ := q
    exact ok _ (by simp [hlt])
  · intro s Q E es ht hQ hE
    refine Subscript_ (hl.here.use es ht fun v h₁ tk₁ t₁ hv' => ?_)
    obtain ⟨rfl, rfl⟩ := hv'
    refine hr.here.use rfl t₁ fun u h₂ tk₂ t₂ hu => ?_
    obtain ⟨⟨t, rfl⟩, rfl⟩ := hu
    refine sub_tail hv.typeIs slot_list_getitem.lookup (wpAny_keep (item_out hA hv (by omega) (by omega) fun h' tk e x htk => ?_)) (hs _ _ _)
    exact hE _ h' tk (Nat.lt_of_lt_of_le t₂ htk) (no (by omega) e h' x)
theorem Tri.sliceFrom {value lower : Expr} {p pos : Pos} {l : Addr} {items : Array Value} {n : Nat} {P : Value → Heap → Prop} (hl : PX (model prog w) A env value (· = .ref l) h) (hv : h.IsList l items) (hi : PX (model prog w) A env lower (isInt n) h) (hsz : items.size ≤ 1000)
    (k : ∀ a h', Keeps h h' → h.get? a = none → h'.PlainList a ((items.toList.drop n).toArray) → P (.ref a) h') (ht : ∀ o r, letTemporaryGo value o r = Pure.pure () := by intro _ _; rfl) :
    Tri (model prog w) A (eval (.Subscript value (.Slice (some lower) none none p) pos) env) P h := fun s Q E es ht' hQ => by
  refine wpAny_Subscript_list_slice (hl.here.use es ht' fun v h₁ tk₁ t₁ hv' => ?_) ht
  obtain ⟨rfl, rfl⟩ := hv'
  refine evalPart_some_step (hi.here.use rfl t₁ fun u h₂ tk₂ t₂ hu => ?_)
  obtain ⟨⟨t, rfl⟩, rfl⟩ := hu
  refine evalPart_none_step ?_
  refine ⟨l, items, some (n : Int), none, rfl, hv, by rw [sizeLine_eq]; omega, .int _ _, .none, ?_⟩
  rw [slicePick_from']
  refine hQ _ _ _ t₂ (k _ _ (fun b o e => Heap.get?_push_of_some _ (Heap.get?_push_of_some _ e)) (Heap.get?_none_of_le (Nat.le_succ _)) ⟨0, ?_⟩)
  rw [show h₂.objs.size + 1 = (h₂.push { cls := .type "slice", data := .fields #[.int n t, .none, .none] }).objs.size from (Heap.size_push ..).symm]
  exact Heap.get?_push_size _ rfl
/-- xs.append(e) -/
theorem Tri.append {nm : Str} {p0 p pos pos2 : Pos} {e : Expr} {D : Addr} {ys : Array Value} {P : Flow → Heap → Prop} (ho : PX (model prog w) A env (.Name nm p0) (· = .ref D) h) (hd : h.PlainList D ys) (hsz : ys.size ≤ 1000)
    (he : Tri (model prog w) A (eval e env) (fun v h₁ => Keeps h h₁ ∧ ∀ h₂, h₂.PlainList D (ys.push v) → Heap.SameBut D h₁ h₂ → P .next h₂) h)
    (hse : starEach (e :: []) env = (false, eval e env) :: starEach [] env := by rfl) {pl : Sem Bool}
    (hc : eval (.Call (.Attribute (.Name nm p0) (Str.ofString "append") p) [e] [] pos) env = (do
      let ov ← eval (.Name nm p0) env
      standAt p.atName
      let (f, first) ← holding [ov] (getMethod ov (Str.ofString "append") pl)
      callWith pos f first (backTo pos (starEach [e] env)) []) := by rfl)
    (hi : interactive env = false := by rfl) (hs : swapsWith (.Call (.Attribute (.Name nm p0) (Str.ofString "append") p) [e] [] pos) none pos2.line env = Pure.pure false := by rfl) : Tri (model prog w) A (exec (.Expr (.Call (.Attribute (.Name nm p0) (Str.ofString "append") p) [e] [] pos) pos2) env) P h := by
  refine Tri.exprNone ?_ hi hs
  intro s Q E es ht hQ
  refine MethodCall_ (pl := pl) (ho.here.use es ht fun v h₁ tk₁ t₁ hv' => ?_) hc
  obtain ⟨rfl, rfl⟩ := hv'
  obtain ⟨n, hd'⟩ := id hd
  refine getMethod_list_append hd' rfl rfl ?_
  refine callWith_method1 (PyProof.Rows.args_cons (he.use rfl t₁ fun v h₂ tk₂ t₂ q => PyProof.Rows.args_nil ?_) hse) hse
  show wpAny _ _ (call (.builtin "list.append") [.ref D, v]) _ _ _
  refine wpAny_list_append_plain (hd.at fun o e => q.1 _ _ e) (fun h₃ hp sb => ?_) (by rw [sizeLine_eq]; omega)
  exact hQ .none h₃ tk₂ t₂ ⟨rfl, q.2 h₃ hp sb⟩
/-- xs.extend(e) -/
theorem Tri.extend {nm : Str} {p0 p pos pos2 : Pos} {e : Expr} {D : Addr} {ys : Array Value} {P : Flow → Heap → Prop} (ho : PX (model prog w) A env (.Name nm p0) (· = .ref D) h) (hd : h.PlainList D ys) (hsz : ys.size ≤ 1000)
    (he : Tri (model prog w) A (eval e env) (fun v h₁ => Keeps h h₁ ∧ ∃ a zs, v = .ref a ∧ h₁.PlainList a zs ∧ zs.size ≤ 1000 ∧ ∀ h₂, h₂.PlainList D (ys ++ zs) → Heap.SameBut D h₁ h₂ → P .next h₂) h)
    (hse : starEach (e :: []) env = (false, eval e env) :: starEach [] env := by rfl) {pl : Sem Bool}
    (hc : eval (.Call (.Attribute (.Name nm p0) (Str.ofString "extend") p) [e] [] pos) env = (do
      let ov ← eval (.Name nm p0) env
      standAt p.atName
      let (f, first) ← holding [ov] (getMethod ov (Str.ofString "extend") pl)
      callWith pos f first (backTo pos (starEach [e] env)) []) := by rfl)
    (hi : interactive env = false := by rfl) (hs : swapsWith (.Call (.Attribute (.Name nm p0) (Str.ofString "extend") p) [e] [] pos) none pos2.line env = Pure.pure false := by rfl) : Tri (model prog w) A (exec (.Expr (.Call (.Attribute (.Name nm p0) (Str.ofString "extend") p) [e] [] pos) pos2) env) P h := by
  refine Tri.exprNone ?_ hi hs
  intro s Q E es ht hQ
  refine MethodCall_ (pl := pl) (ho.here.use es ht fun v h₁ tk₁ t₁ hv' => ?_) hc
  obtain ⟨rfl, rfl⟩ := hv'
  obtain ⟨n, hd'⟩ := id hd
  refine getMethod_list_of PySem.F.slot_list_extend PySem.F.type_list_extend hd.isList ?_ ?_
  · exact ⟨_, hd', rfl⟩
  refine callWith_method1 (PyProof.Rows.args_cons (he.use rfl t₁ fun v h₂ tk₂ t₂ q => PyProof.Rows.args_nil ?_) hse) hse
  obtain ⟨k2, a, zs, rfl, ⟨n2, hz⟩, hzs, q⟩ := q
  have hD := k2 _ _ hd'
  show wpAny _ _ (call (.builtin "list.extend") [.ref D, .ref a]) _ _ _
  refine call_meets PySem.F.slot_list_extend ⟨_, hD, rfl⟩ PySem.F.entry_list_extend (PySem.F.args_list_extend_2 _ _) (PySem.AutoSeq1.list_extend_list_list_0 D ys n a zs n2 ?_ (by rw [sizeLine_eq]; omega) (by rw [sizeLine_eq]; omega)) ⟨hD, hz, ?_⟩
  · have : Builtin.List.listTooLong (ys.size + zs.size) = false := by unfold Builtin.List.listTooLong; simp only [decide_eq_false_iff_not]; (try rw [sizeLine_eq]); omega
    rw [this]; simp
  · refine hQ .none _ tk₂ t₂ ⟨rfl, q _ ⟨_, Heap.get?_update_self _ hD rfl⟩ (Heap.SameBut.update ..)⟩
end
end Mine
end

section
open PySem PySem.W PyProof.Rows PySem.Calls PySem.SeqAt
set_option maxRecDepth 100000
set_option maxHeartbeats 400000
set_option linter.unusedVariables false
set_option linter.unusedSimpArgs false
namespace Mine
section
variable {prog : Program} {w : World} {A : Around} {env : Env} {outer : List Env} {L : Addr} {base hB h : Heap} {c : Bool} {Fc : Heap → Prop}
theorem Tri.exc {body suite : List Stmt} {b₀ : Stmt} {x : Str} {p hp pos : Pos} {P : Flow → Heap → Prop} (W : XW hB base env outer L Fc) (hfr : A.frames = some (env :: outer))
    (hn : ∀ (A' : Around) h₁, Fc h₁ → PX (model prog w) A' env (.Name x p) (· = .type "IndexError") h₁)
    (hb : TriE (model prog w) A (execs body env) P (Up hB L c Fc) h)
    (hs : ∀ e h₁, Fc h₁ → Tri (model prog w) (A.mark (some (.ref e))) (execs (b₀ :: suite) env) P h₁) :
    Tri (model prog w) A (exec (.Try body [.ExceptHandler (some (.Name x p)) none (b₀ :: suite) hp] [] [] pos) env) P h := fun s Q E es ht hQ => by
  refine wpAny_Try_except (hb s _ _ es ht (fun f h₁ tk₁ t₁ q => ?_) fun ev h₁ tk₁ t₁ xx => ?_)
  · cases f with
    | next => exact wpAny_execs_nil (hQ _ _ _ t₁ q)
    | _ => exact hQ _ _ _ t₁ q
  · obtain ⟨e, fl, rfl, hfl, hx, hF⟩ := xx
    refine (note_ok (W.grown _ hF) hfr (W.frames _ hF) W.live W.hf hfl hx).use rfl t₁ fun _ h₂ tk₂ t₂ q => ?_
    have hF2 := W.on _ _ hF q.1
    refine (flight_ok (f := none) (fs := frs (env :: outer)) q.2).use rfl t₂ fun _ h₃ tk₃ t₃ q₃ => ?_
    have hF3 := W.on _ _ hF2 q₃.1
    refine wpAny_handleBy_builtin (T := "IndexError") (X := "IndexError") (b := true) PySem.F.isExc_IndexError PySem.F.notTuple_IndexError PySem.F.self_IndexError ?_
    refine (hn _ h₃ hF3).here.use rfl t₃ fun v h₄ tk₄ t₄ q₄ => ?_
    obtain ⟨rfl, rfl⟩ := q₄
    refine ⟨rfl, ?_, ?_⟩
    · obtain ⟨oe, vs, he, hc, _⟩ := q₃.2.there
      exact ⟨oe, he, hc⟩
    · simp only [if_true]
      refine (flight_ok (f := none) (fs := frs (env :: outer)) q₃.2).use rfl t₄ fun _ h₅ tk₅ t₅ q₅ => ?_
      exact (hs e h₅ (W.on _ _ hF3 q₅.1)).use rfl t₅ hQ
end
end Mine
end

section
open PySem PySem.W PyProof.Rows PySem.Calls PySem.SeqAt
set_option maxRecDepth 100000
set_option maxHeartbeats 400000
set_option linter.unusedVariables false
set_option linter.unusedSimpArgs false
namespace Mine
/-- a def is entered -/
theorem enterT {w : World} {mg mb : Str → Option Value} {dp un : Nat} {gd : Option (List Code)} {cn : Str} {cs : Scope} {L a' : Addr} {ccd : Value} {cl : List (Str × Addr)} {outer : List Env} {h₀ h : Heap}
    {name qual : Str} {params : Arguments} {body : List Stmt} {scope : Scope} {dV kV doc pm cdv ct oc : Value} {an od : Option Addr} {osl : Array (Option Value)} {f : Addr} {vs : List Value} {kw : List (Str × Value)} {binds : List (Str × Value)} {Post : Value → Heap → Prop}
    (S : Site w mg mb cs L outer h₀ h) (ho : (KK w.params).lookup f = some ⟨oc, od, .func (fnOf name qual params body scope dV kV doc pm an cdv ct), osl⟩) (hcd : codeIn (KK w.params) cdv qual = true) (hroom : dp < recursionLimit)
    (hbind : ∀ s : Shared, s.heap = h → BindsTo s (fnOf name qual params body scope dV kV doc pm an cdv ct) ⟨vs, kw⟩ binds) (hloc : ∀ y ∈ binds, scope.names.lookup y.1 = some .local)
    (go : ∀ g L' h₁, Keeps h g → h.get? L' = none → Fr g L' h₁ (fun y => binds.reverse.lookup y) → Site w mg mb scope L' (envX cn cs L a' ccd cl :: outer) g h₁ →
      Tri (model PG w) (ktrTop (dp + 1) (un + 3) gd qual scope L' f cdv [] (envX cn cs L a' ccd cl :: outer)) (execs body (envX qual scope L' f cdv [])) (fun fl h' => ∃ v, fl = .ret v ∧ Post v h' ∧ ∃ m', Fr g L' h' m') h₁)
    (hco : scope.isCoroutine = false) (hgen : scope.isGenerator = false) (hk : scope.kind = .function) (hcell : ∀ x ∈ scope.names, x.2 ≠ .cell) :
    Tri (model PG w) (ktrTop dp un gd cn cs L a' ccd cl outer) (call (.ref f) vs kw) (fun v h' => Keeps h h' ∧ Post v h') h := by
  intro s Q E es ht hQ
  obtain ⟨A₀, base, B⟩ := S.below
  obtain ⟨m, F⟩ := S.fr
  obtain ⟨p₀, lo₀, mean, T⟩ := S.top
  subst es
  refine wpAny_call ?_
  have X₁ := S.frag.keeps F.keep
  have T₁ := T.keeps F.keep
  have B₁ := pushX (env := envX cn cs L a' ccd cl) B F rfl S.kind
  refine codeAny_call_def (fd := fnOf name qual params body scope dV kV doc pm an cdv ct) (body := body) (binds := binds) hroom (X₁ _ _ ho) rfl T₁.nolimit (codeRec_of X₁ hcd) rfl (hbind s rfl) hcell hloc (fun h₁ hns hk₁ => ?_) hco hgen hk
  have F₁ : Fr s.heap s.heap.objs.size h₁ (fun y => binds.reverse.lookup y) := ⟨hns, hk₁, Nat.le_refl _⟩
  have S₁ : Site w mg mb scope s.heap.objs.size (envX cn cs L a' ccd cl :: outer) s.heap h₁ := ⟨⟨_, base, B₁⟩, ⟨_, F₁⟩, X₁, ⟨p₀, lo₀, mean, T₁⟩, hk⟩
  refine (go s.heap s.heap.objs.size h₁ (Keeps.refl _) (Heap.get?_none_of_le (Nat.le_refl _)) F₁ S₁).use rfl (Nat.lt_of_lt_of_le ht (Nat.le_add_right _ _)) fun fl h' tk tk0 q => ?_
  obtain ⟨v, rfl, hp, m', F'⟩ := q
  exact hQ v h' tk tk0 ⟨F'.keep, hp⟩
/-- a def is entered, and frames may have their slots laid behind it -/
theorem enterZ {w : World} {mg mb : Str → Option Value} {dp un : Nat} {gd : Option (List Code)} {cn : Str} {cs : Scope} {L a' : Addr} {ccd : Value} {cl : List (Str × Addr)} {outer : List Env} {h₀ h : Heap}
    {name qual : Str} {params : Arguments} {body : List Stmt} {scope : Scope} {dV kV doc pm cdv ct oc : Value} {an od : Option Addr} {osl : Array (Option Value)} {f : Addr} {vs : List Value} {kw : List (Str × Value)} {binds : List (Str × Value)} {Post : Value → Heap → Prop}
    (S : Site w mg mb cs L outer h₀ h) (ho : (KK w.params).lookup f = some ⟨oc, od, .func (fnOf name qual params body scope dV kV doc pm an cdv ct), osl⟩) (hcd : codeIn (KK w.params) cdv qual = true) (hroom : dp < recursionLimit)
    (hbind : ∀ s : Shared, s.heap = h → BindsTo s (fnOf name qual params body scope dV kV doc pm an cdv ct) ⟨vs, kw⟩ binds) (hloc : ∀ y ∈ binds, scope.names.lookup y.1 = some .local)
    (go : ∀ L' h₁ base, Keeps h h₁ → h.get? L' = none → h₁.Ns L' (fun y => binds.reverse.lookup y) → h₁.FunFrames base (envX qual scope L' f cdv [] :: envX cn cs L a' ccd cl :: outer) → h₁.Ns mainGlobals mg → h₁.Ns builtinsNs mb →
      (∀ x v, nsIn (KK w.params) mainGlobals x = some none → x ≠ "__name__" → bootBuiltins x = some v → mg x = none ∧ mb x = some v) →
      Tri (model PG w) (ktrTop (dp + 1) (un + 3) gd qual scope L' f cdv [] (envX cn cs L a' ccd cl :: outer)) (execs body (envX qual scope L' f cdv [])) (fun fl h' => ∃ v, fl = .ret v ∧ Post v h') h₁)
    (hco : scope.isCoroutine = false) (hgen : scope.isGenerator = false) (hk : scope.kind = .function) (hcell : ∀ x ∈ scope.names, x.2 ≠ .cell) :
    Tri (model PG w) (ktrTop dp un gd cn cs L a' ccd cl outer) (call (.ref f) vs kw) Post h := by
  intro s Q E es ht hQ
  obtain ⟨A₀, base, B⟩ := S.below
  obtain ⟨m, F⟩ := S.fr
  obtain ⟨p₀, lo₀, mean, T⟩ := S.top
  subst es
  refine wpAny_call ?_
  have X₁ := S.frag.keeps F.keep
  have T₁ := T.keeps F.keep
  have B₁ := pushX (env := envX cn cs L a' ccd cl) B F rfl S.kind
  refine codeAny_call_def (fd := fnOf name qual params body scope dV kV doc pm an cdv ct) (body := body) (binds := binds) hroom (X₁ _ _ ho) rfl T₁.nolimit (codeRec_of X₁ hcd) rfl (hbind s rfl) hcell hloc (fun h₁ hns hk₁ => ?_) hco hgen hk
  have nb : base.get? s.heap.objs.size = none := by
    cases q : base.get? s.heap.objs.size with
    | none => rfl
    | some o => exact absurd (Heap.lt_size (B₁.stays _ o q)) (Nat.lt_irrefl _)
  have FF : h₁.FunFrames base (envX qual scope s.heap.objs.size f cdv [] :: envX cn cs L a' ccd cl :: outer) :=
    .cons (by show scope.kind ≠ _; rw [hk]; decide) rfl hns nb (B₁.frames.of_keeps fun b o e _ => ⟨o, hk₁ b o e, rfl⟩)
  refine (go s.heap.objs.size h₁ base hk₁ (Heap.get?_none_of_le (Nat.le_refl _)) hns FF (T₁.g.keeps hk₁) (T₁.b.keeps hk₁) (fun x v e hn hb => ⟨mg_none_of S.frag T.g e, (T.builtins x hn).trans hb⟩)).use rfl (Nat.lt_of_lt_of_le ht (Nat.le_add_right _ _)) fun fl h' tk tk0 q => ?_
  obtain ⟨v, rfl, hp⟩ := q
  exact hQ v h' tk tk0 hp
theorem PX.builtN {M : Model} {A : Around} {env : Env} {h : Heap} {mg mb : Str → Option Value} {x : Str} {pos : Pos} {v : Value} (g : h.Ns mainGlobals mg) (b : h.Ns builtinsNs mb) (hm : mg x = none) (hv : mb x = some v) (hg : env.globals = mainGlobals := by rfl) (hb : env.builtins = builtinsNs := by rfl) (hk : env.scope.kind = .function := by rfl) (hx : env.kindOf x = some .globalImplicit := by rfl) (hdb : (x == ("__debug__" : Str)) = false := by decide) :
    PX M A env (.Name x pos) (· = v) h := fun h' k => Tri.quick fun s Q E es ht hQ =>
  Name_function_global hk hx (loadGlobal_builtin (env := env) (by rw [hg, es]; exact g.keeps k) hm (by rw [hb, es]; exact b.keeps k) hv (hQ _ _ ht rfl)) hdb
end Mine
end

section
open PySem PySem.W PyProof.Rows PySem.Calls PySem.SeqAt
set_option maxRecDepth 100000
set_option maxHeartbeats 400000
set_option linter.unusedVariables false
set_option linter.unusedSimpArgs false
namespace Mine
/-- a def with cells is entered -/
theorem enterC {w : World} {mg mb : Str → Option Value} {dp un : Nat} {gd : Option (List Code)} {cn : Str} {cs : Scope} {L a' : Addr} {ccd : Value} {cl : List (Str × Addr)} {outer : List Env} {h₀ h : Heap}
    {name qual : Str} {params : Arguments} {body : List Stmt} {scope : Scope} {dV kV doc pm cdv ct oc : Value} {an od : Option Addr} {osl : Array (Option Value)} {f : Addr} {vs : List Value} {binds : List (Str × Value)} {Post : Value → Heap → Prop}
    (S : Site w mg mb cs L outer h₀ h) (ho : (KK w.params).lookup f = some ⟨oc, od, .func (fnOf name qual params body scope dV kV doc pm an cdv ct), osl⟩) (hcd : codeIn (KK w.params) cdv qual = true) (hroom : dp < recursionLimit)
    (hbind : bindArgs (fnOf name qual params body scope dV kV doc pm an cdv ct) ⟨vs, []⟩ = Pure.pure binds) (hloc : ∀ y ∈ binds, scope.names.lookup y.1 = some .local)
    (go : ∀ L' h₁, Keeps h h₁ → h.get? L' = none → h.objs.size = L' → h₁.Ns L' (bindL (envX qual scope L' f cdv (cellsFrom (L' + 1) scope.names [])).kindOf binds fun _ => none) → (∀ n c, (cellsFrom (L' + 1) scope.names []).lookup n = some c → h₁.IsCell c (bindC (envX qual scope L' f cdv (cellsFrom (L' + 1) scope.names [])).kindOf binds (fun _ => none) n)) → Site w mg mb scope L' (envX cn cs L a' ccd cl :: outer) h h₁ →
      Tri (model PG w) (ktrTop (dp + 1) (un + 3) gd qual scope L' f cdv (cellsFrom (L' + 1) scope.names []) (envX cn cs L a' ccd cl :: outer)) (execs body (envX qual scope L' f cdv (cellsFrom (L' + 1) scope.names []))) (fun fl h' => ∃ v, fl = .ret v ∧ Post v h') h₁)
    (hco : scope.isCoroutine = false) (hgen : scope.isGenerator = false) (hk : scope.kind = .function) :
    Tri (model PG w) (ktrTop dp un gd cn cs L a' ccd cl outer) (call (.ref f) vs) Post h := by
  intro s Q E es ht hQ
  obtain ⟨A₀, base, B⟩ := S.below
  obtain ⟨m, F⟩ := S.fr
  obtain ⟨p₀, lo₀, mean, T⟩ := S.top
  subst es
  refine wpAny_call ?_
  have X₁ := S.frag.keeps F.keep
  have T₁ := T.keeps F.keep
  have B₁ := pushX (env := envX cn cs L a' ccd cl) B F rfl S.kind
  refine codeAny_call_function (fd := fnOf name qual params body scope dV kV doc pm an cdv ct) (body := body) hroom (X₁ _ _ ho) rfl hco hgen rfl (codeRec_of X₁ hcd) ?_
  rw [hbind]
  refine wpAny_pure (wpAny_keep (wpAny_newFunctionEnv_cells hk (fun y hy => .inl (hloc y hy)) fun env he s' x htk => ?_))
  subst he
  refine ⟨T₁.nolimit.keeps x.toInCall.keep, codeAny_func ?_⟩
  obtain ⟨h₁, tk₁, rfl⟩ := x.toInCall.same
  have kk : Keeps s.heap h₁ := x.toInCall.keep
  have S₁ : Site w mg mb scope s.heap.objs.size (envX cn cs L a' ccd cl :: outer) s.heap h₁ := ⟨⟨_, base, B₁⟩, ⟨_, x.toInCall.ns, kk, Nat.le_refl _⟩, X₁, ⟨p₀, lo₀, mean, T₁⟩, hk⟩
  have ht₁ : 0 < tk₁ := Nat.lt_of_lt_of_le ht htk
  refine (go s.heap.objs.size h₁ kk (Heap.get?_none_of_le (Nat.le_refl _)) rfl x.toInCall.ns x.cell S₁).use rfl ht₁ fun fl h' tk tk0 q => ?_
  obtain ⟨v, rfl, hp⟩ := q
  exact hQ v h' tk tk0 hp
end Mine
end

section
open PySem PySem.W PyProof.Rows PySem.Calls PySem.SeqAt
set_option maxRecDepth 100000
set_option maxHeartbeats 400000
set_option linter.unusedVariables false
set_option linter.unusedSimpArgs false
namespace Mine
section
variable {prog : Program} {w : World} {A : Around} {env : Env} {h : Heap}
theorem KM.off {M : List Addr} {h g g' : Heap} {I : Addr} (k : KM M h g) (x : KM [I] g g') (n : h.get? I = none) : KM M h g' :=
  fun b o q e => x b o (fun r => by rw [List.mem_singleton.mp r, n] at e; cases e) (k b o q e)
/-- a for along a list -/
theorem Tri.forList {target iter : Expr} {body : List Stmt} {pos : Pos} {P : Flow → Heap → Prop} (hh : A.handled = none)
    (a : Tri (model prog w) A (eval iter env) (fun v h₁ => ∃ a vs M, v = .ref a ∧ h₁.IsList a vs ∧ a ∉ M ∧ Live M h₁ ∧ ∀ I, h₁.get? I = none → ∃ Inv : Nat → Heap → Prop, (∀ h₂, Keeps h₁ h₂ → (∃ o, h₂.get? I = some o) → Inv 0 h₂) ∧ (∀ i g g', Inv i g → KM [I] g g' → (∃ o, g'.get? I = some o) → Inv i g') ∧
      (∀ i v g, vs[i]? = some v → Inv i g → Tri (model prog w) A (assign target env v) (fun _ g₁ => Tri (model prog w) A (execs body env) (fun f g₂ => f = .next ∧ KM M g g₂ ∧ Inv (i + 1) g₂) g₁) g) ∧ ∀ g g', Inv vs.size g → KM [I] g g' → P .next g') h)
    (go : ∀ I a i h' v, h'.IsListIter I a i → Tri (model prog w) A (letOwnedTupleGo target (.ref I) v) (fun _ h'' => h'' = h') h')
    (hs : ∀ x, foldedSetIterable iter env x = Pure.pure x := by intro _; rfl) :
    Tri (model prog w) A (exec (.For target iter body [] pos) env) P h := by
  intro s Q E es ht hQ
  refine wpAny_For (a.use es ht fun v h₁ tk₁ t₁ q => ?_) hs
  obtain ⟨a, vs, M, rfl, hl, haM, hM, q⟩ := q
  obtain ⟨o, ho, _⟩ := id hl
  have hne : a ≠ h₁.objs.size := Nat.ne_of_lt (Heap.lt_size ho)
  have hI : h₁.get? h₁.objs.size = none := Heap.get?_none_of_le (Nat.le_refl _)
  obtain ⟨Inv, h0, stab, turn, fin⟩ := q _ hI
  have W := Walks.list (prog := prog) (w := w) (A := A) hh h₁.objs.size a hne vs
  refine wpAny_pyIter_list hl ?_
  refine codeAny_forLoop_any (fun k s' => ∃ i g tk, k = vs.size + 1 - i ∧ i ≤ vs.size ∧ s' = { s with heap := g, toks := tk } ∧ 0 < tk ∧ (g.IsListIter h₁.objs.size a i ∧ g.IsList a vs) ∧ Inv i g) ?_ (vs.size + 1) ⟨0, _, _, rfl, Nat.zero_le _, rfl, t₁, ⟨⟨_, Heap.get?_push_size _ rfl, rfl, rfl⟩, hl.at fun o e => Heap.get?_push_of_some _ e⟩, h0 _ (fun b o e => Heap.get?_push_of_some _ e) ⟨_, Heap.get?_push_size _ rfl⟩⟩
  rintro k s' ⟨i, g, tk, rfl, hi, rfl, htk, hst, hinv⟩
  refine wpAny_keep ?_
  by_cases hlt : i < vs.size
  · refine W.item i _ _ _ hlt hst fun v g₁ tk₁ hv hst₁ hk₁ htk₁ => ?_
    have p₁ : 0 < tk₁ := Nat.lt_of_lt_of_le htk htk₁
    have inv₁ : Inv i g₁ := stab i g g₁ hinv hk₁ (let ⟨⟨o, e, _⟩, _⟩ := hst₁; ⟨o, e⟩)
    refine (go _ a (i + 1) g₁ v hst₁.1).use rfl p₁ fun _ g₂ tk₂ p₂ e₂ => ?_
    subst e₂
    refine (turn i v g₂ hv inv₁).use rfl p₂ fun _ g₃ tk₃ p₃ t₃ => ?_
    refine t₃.use rfl p₃ fun f g₄ tk₄ p₄ q₄ => ?_
    obtain ⟨rfl, km, inv₄⟩ := q₄
    refine ⟨vs.size + 1 - (i + 1), by omega, i + 1, g₄, tk₄, rfl, hlt, rfl, p₄, ⟨hst₁.1.at fun o e => km _ o (fun q => ?_) e, hst₁.2.at fun o e => km _ o haM e⟩, inv₄⟩
    obtain ⟨o', e'⟩ := hM _ q
    rw [hI] at e'; cases e'
  · obtain rfl : i = vs.size := by omega
    refine W.done _ _ _ hst fun g₁ tk₁ hk₁ htk₁ => wpAny_execs_nil ?_
    exact hQ .next g₁ tk₁ (Nat.lt_of_lt_of_le htk htk₁) (fin g g₁ hinv hk₁)
end
end Mine
end

section
open PySem PySem.W PyProof.Rows PySem.Calls PySem.SeqAt
set_option maxRecDepth 100000
set_option maxHeartbeats 400000
set_option linter.unusedVariables false
set_option linter.unusedSimpArgs false
namespace Mine
theorem figures_len (n : Nat) : (figures n).length ≤ 3 := by unfold figures; split <;> (try split) <;> simp
theorem pieces_len (d : Nat) : (pieces.getD d ⟨#[]⟩).length ≤ 1 := by
  by_cases h : d < 10
  · have : ∀ e : Fin 10, (pieces.getD e.1 ⟨#[]⟩).length ≤ 1 := by decide +kernel
    exact this ⟨d, h⟩
  · rw [List.getD_eq_getElem?_getD, List.getElem?_eq_none (by simp [pieces]; omega)]; decide
theorem nameOf_len (n : Nat) : (nameOf n).length ≤ 3 := by
  unfold nameOf
  have key : ∀ (l : List Nat) (x : Str), (l.foldl (fun x d => x ++ pieces.getD d ⟨#[]⟩) x).length ≤ x.length + l.length := by
    intro l
    induction l with
    | nil => intro x; exact Nat.le_refl _
    | cons d l ih =>
      intro x
      have h1 := ih (x ++ pieces.getD d ⟨#[]⟩)
      have h2 := pieces_len d
      rw [Str.length_append] at h1
      simp only [List.foldl_cons, List.length_cons]
      omega
  have h1 := key (figures (n % 1000)) ⟨#[]⟩
  have h2 := figures_len (n % 1000)
  have h3 : (⟨#[]⟩ : Str).length = 0 := rfl
  omega
theorem OkFile.len {f : File} (h : OkFile f) : f.1.length ≤ 5 := by
  obtain ⟨⟨n, e⟩ | e | e | e, _⟩ := h
  · rw [e]; exact Nat.le_trans (nameOf_len n) (by decide)
  all_goals (rw [e]; decide)
/-- what holds of a parcel -/
noncomputable def GoodP (n : Nat) (l : List File) : Prop := (∀ f ∈ l, OkFile f) ∧ l.length ≤ n ∧ l.Nodup ∧ l ≠ []
theorem fileOf_ok (x : Int) : OkFile (fileOf x) := by
  refine ⟨.inl ⟨_, rfl⟩, ?_⟩
  show (octetsOf _).size ≤ 3
  unfold octetsOf
  rw [List.size_toArray, List.length_take]
  exact Nat.min_le_right _ _
theorem GoodP.add {n : Nat} {l : List File} (h : GoodP n l) (x : Int) : GoodP (n + 1) (addTo (fileOf x) l) := by
  obtain ⟨h1, h2, h3, h4⟩ := h
  unfold addTo
  split
  · exact ⟨h1, by omega, h3, h4⟩
  · rename_i hn
    refine ⟨fun f hf => ?_, by simp; omega, ?_, by simp⟩
    · rcases List.mem_append.mp hf with hf | hf
      · exact h1 f hf
      · rw [List.mem_singleton.mp hf]; exact fileOf_ok x
    · refine List.nodup_append.mpr ⟨h3, by simp, fun a ha b hb => ?_⟩
      rw [List.mem_singleton.mp hb]
      rintro rfl; exact hn ha
theorem GoodP.more {n : Nat} {l : List File} (h : GoodP n l) : GoodP (n + 1) l := ⟨h.1, Nat.le_succ_of_le h.2.1, h.2.2⟩
theorem good_parcels (ns : List Int) : GoodP (2 + ns.length) (parcels ns).1 ∧ GoodP (2 + ns.length) (parcels ns).2 := by
  have key : ∀ (ns : List Int) (P : List File × List File) (n : Nat), GoodP n P.1 → GoodP n P.2 → GoodP (n + ns.length) (ns.foldl turnP P).1 ∧ GoodP (n + ns.length) (ns.foldl turnP P).2 := by
    intro ns
    induction ns with
    | nil => intro P n h1 h2; exact ⟨h1, h2⟩
    | cons x ns ih =>
      intro P n h1 h2
      have := ih (turnP P x) (n + 1) (by unfold turnP; dsimp only; split; exact h1.more; exact h1.add x) (by unfold turnP; dsimp only; split; exact h2.more; exact h2.add x)
      have e : n + 1 + ns.length = n + (x :: ns).length := by simp; omega
      rw [e] at this
      exact this
  refine key ns firstP 2 ⟨?_, by decide, ?_, by decide⟩ ⟨?_, by decide, ?_, by decide⟩
  · intro f hf
    simp only [firstP, List.mem_cons, List.not_mem_nil, or_false] at hf
    rcases hf with rfl | rfl
    · exact ⟨.inr (.inl rfl), by decide⟩
    · exact ⟨.inr (.inr (.inl rfl)), by decide⟩
  · decide
  · intro f hf
    simp only [firstP, List.mem_cons, List.not_mem_nil, or_false] at hf
    rcases hf with rfl | rfl
    · exact ⟨.inr (.inl rfl), by decide⟩
    · exact ⟨.inr (.inr (.inr rfl)), by decide⟩
  · decide
end Mine
end

section
open PySem PySem.W PyProof.Rows PySem.Calls PySem.SeqAt
set_option maxRecDepth 100000
set_option maxHeartbeats 400000
set_option linter.unusedVariables false
set_option linter.unusedSimpArgs false
namespace Mine
section
variable {prog : Program} {w : World} {A : Around} {env : Env} {h : Heap} {P : Value → Heap → Prop}
theorem PX.mod {l r : Expr} {pos : Pos} {i j : Int} (hl : PX (model prog w) A env l (isInt i) h) (hr : PX (model prog w) A env r (isInt j) h) (hj : j ≠ 0) : PX (model prog w) A env (.BinOp l .Mod r pos) (isInt (i.fmod j)) h := fun h' k => by
  refine Tri.binop ((hl h' k).mono fun u h₁ q => ?_)
  obtain ⟨⟨t, rfl⟩, rfl⟩ := q
  refine (hr h₁ k).mono fun u h₂ q => ?_
  obtain ⟨⟨t, rfl⟩, rfl⟩ := q
  exact Tri.quick fun s Q E es ht hQ => mod_int hj (hQ _ _ (Nat.succ_pos _) ⟨_, rfl⟩)
theorem PX.fdiv {l r : Expr} {pos : Pos} {i j : Int} (hl : PX (model prog w) A env l (isInt i) h) (hr : PX (model prog w) A env r (isInt j) h) (hj : j ≠ 0) (hp : Builtin.divisionGoesByPylong i j = false) : PX (model prog w) A env (.BinOp l .FloorDiv r pos) (isInt (i.fdiv j)) h := fun h' k => by
  refine Tri.binop ((hl h' k).mono fun u h₁ q => ?_)
  obtain ⟨⟨t, rfl⟩, rfl⟩ := q
  refine (hr h₁ k).mono fun u h₂ q => ?_
  obtain ⟨⟨t, rfl⟩, rfl⟩ := q
  exact Tri.quick fun s Q E es ht hQ => floordiv_int hj (hQ _ _ (Nat.succ_pos _) ⟨_, rfl⟩) (.inl hp)
theorem PX.absOf {e : Expr} {x : Str} {p pos : Pos} {i : Int} (f : PX (model prog w) A env (.Name x p) (· = .builtin "abs") h) (he : PX (model prog w) A env e (isInt i) h) (hs : starEach [e] env = [(false, eval e env)] := by rfl) :
    PX (model prog w) A env (.Call (.Name x p) [e] [] pos) (isInt (i.natAbs : Int)) h := fun h' k => by
  refine Tri.callB1 (f.keeps k) ((he h' k).mono fun u h₁ q => ?_) hs
  obtain ⟨⟨t, rfl⟩, rfl⟩ := q
  refine Tri.quick fun s Q E es ht hQ => wpAny_keep (call_abs_int fun u tk htk => hQ _ _ (Nat.lt_of_lt_of_le ht htk) ⟨u, ?_⟩)
  congr 1
  split <;> omega
theorem PX.strOf {e : Expr} {x : Str} {p pos : Pos} {i : Int} (f : PX (model prog w) A env (.Name x p) (· = .type "str") h) (he : PX (model prog w) A env e (isInt i) h) (h0 : 0 ≤ i) (h1 : i < 10 ^ 10) (hs : starEach [e] env = [(false, eval e env)] := by rfl) :
    PX (model prog w) A env (.Call (.Name x p) [e] [] pos) (isStr (Str.ofString (toString i))) h := fun h' k => by
  refine Tri.callT1 (f.keeps k) ((he h' k).mono fun u h₁ q => ?_) hs
  obtain ⟨⟨t, rfl⟩, rfl⟩ := q
  exact Tri.quick fun s Q E es ht hQ => str_of_int_fit (N := 10 ^ 10) (by split <;> omega) (by decide) fun _ => hQ _ _ (Nat.succ_pos _) ⟨_, rfl⟩
theorem PX.intOf {e : Expr} {x : Str} {p pos : Pos} {y : Str} {n : Int} (f : PX (model prog w) A env (.Name x p) (· = .type "int") h) (he : PX (model prog w) A env e (isStr y) h) (hn : PySem.intText? y = some n) (hl : y.length ≤ 640) (hs : starEach [e] env = [(false, eval e env)] := by rfl) :
    PX (model prog w) A env (.Call (.Name x p) [e] [] pos) (isInt n) h := fun h' k => by
  refine Tri.callT1 (f.keeps k) ((he h' k).mono fun u h₁ q => ?_) hs
  obtain ⟨⟨t, rfl⟩, rfl⟩ := q
  exact Tri.quick fun s Q E es ht hQ => KIN.call_text hn hl (hQ _ _ (Nat.succ_pos _) ⟨_, rfl⟩)
/-- walks along a text's signs -/
theorem src_str {e target : Expr} {y : Str} (hh : A.handled = none) (he : PX (model prog w) A env e (isStr y) h) (hgo : ∀ I v (h' : Heap), (∃ c u, v = .str ⟨#[c]⟩ u) → Tri (model prog w) A (letOwnedTupleGo target (.ref I) v) (fun _ h'' => h'' = h') h') :
    Tri (model prog w) A (eval e env) (fun x' h₁ => Tri (model prog w) A (pyIter x') (fun it h₂ => ∃ I, it = .ref I ∧ SrcR prog w A h y.cps.size (fun i v => ∃ c, y.cps[i]? = some c ∧ isStr ⟨#[c]⟩ v) I h₂) h₁) h := by
  refine he.here.mono fun u h₁ q => ?_
  obtain ⟨⟨t, rfl⟩, rfl⟩ := q
  intro s Q E es ht hQ
  subst es
  have go : ∀ ty (W : Walks prog w A s.heap.objs.size [s.heap.objs.size] [s.heap.objs.size] y.cps.size (SignAt y) (fun i h => h.IsStrIter s.heap.objs.size ty y t i)) (h' : Heap), Keeps s.heap h' → h'.IsStrIter s.heap.objs.size ty y t 0 →
      Q (.ref s.heap.objs.size) { s with heap := h' } := fun ty W h' kk hi => by
    refine hQ _ h' s.toks ht ⟨_, rfl, kk, _, ⟨W.sub, W.frame, fun i s Q E hi st hQ => W.item i s Q E hi st fun v h' tk hP => hQ v h' tk ?_, W.done, W.self⟩, hi, Heap.get?_none_of_le (Nat.le_refl _), fun i h' st => ?_⟩
    · obtain ⟨c, u, a, b⟩ := hP; exact ⟨c, a, u, b⟩
    · obtain ⟨o, ho, _⟩ := st; exact ⟨o, ho⟩
  cases ha : (y.cps.all (· < 128)) with
  | false => exact wpAny_pyIter_wide ha (go "str_iterator" (Walks.strWide hh _ y t) _ (fun b o e => Heap.get?_push_of_some _ e) ⟨_, Heap.get?_push_size _ rfl, rfl, rfl⟩)
  | true => exact wpAny_pyIter_ascii ha (go "str_ascii_iterator" (Walks.strAscii hh _ y t) _ (fun b o e => Heap.get?_push_of_some _ e) ⟨_, Heap.get?_push_size _ rfl, rfl, rfl⟩)
end
end Mine
end

section
open PySem PySem.W PyProof.Rows PySem.Calls PySem.SeqAt
set_option maxRecDepth 100000
set_option maxHeartbeats 400000
set_option linter.unusedVariables false
set_option linter.unusedSimpArgs false
namespace Mine
theorem pairs_of : ∀ (vs : List Value) (l : List Str), vs.length = l.length → (∀ (i : Nat) u x, vs[i]? = some u → l[i]? = some x → isStr x u) → ∃ l' : List (Str × Tok), vs = strValues l' ∧ l'.map (·.1) = l := by
  intro vs
  induction vs with
  | nil => intro l e _; cases l with
    | nil => exact ⟨[], rfl, rfl⟩
    | cons _ _ => cases e
  | cons v vs ih => intro l e hr; cases l with
    | nil => cases e
    | cons x l =>
      obtain ⟨t, rfl⟩ := hr 0 v x rfl rfl
      obtain ⟨l', e1, e2⟩ := ih l (by simpa using e) fun i u y p q => hr (i + 1) u y (by simpa using p) (by simpa using q)
      exact ⟨(x, t) :: l', by rw [e1]; rfl, by rw [List.map_cons, e2]⟩
section
variable {prog : Program} {w : World} {A : Around} {env : Env} {h : Heap} {P : Value → Heap → Prop} {G : List Addr}
/-- x.join(e) -/
theorem Tri.join {obj e : Expr} {x : Str} {p pos : Pos} (ho : PX (model prog w) A env obj (isStr x) h)
    (he : Tri (model prog w) A (eval e env) (fun v h₁ => ∃ l, rTexts.r G h₁ v l ∧ JoinOk x l = true ∧ ∀ t, P (.str (Txt.join x l) t) h₁) h)
    (hse : starEach (e :: []) env = (false, eval e env) :: starEach [] env := by rfl) {pl : Sem Bool}
    (hc : eval (.Call (.Attribute obj (Str.ofString "join") p) [e] [] pos) env = (do
      let ov ← eval obj env
      standAt p.atName
      let (f, first) ← holding [ov] (getMethod ov (Str.ofString "join") pl)
      callWith pos f first (backTo pos (starEach [e] env)) []) := by rfl) :
    Tri (model prog w) A (eval (.Call (.Attribute obj (Str.ofString "join") p) [e] [] pos) env) P h := by
  intro s Q E es ht hQ
  refine MethodCall_ (pl := pl) (ho.here.use es ht fun v h₁ tk₁ t₁ hv' => ?_) hc
  obtain ⟨⟨t, rfl⟩, rfl⟩ := hv'
  refine GM.join ?_
  refine callWith_method1 (PyProof.Rows.args_cons (he.use rfl t₁ fun v h₂ tk₂ t₂ q => PyProof.Rows.args_nil ?_) hse) hse
  obtain ⟨l, ⟨D, vs, rfl, _, hl, hs, hr⟩, hok, hP⟩ := q
  obtain ⟨l', e1, e2⟩ := pairs_of vs.toList l (by simpa using hs) fun i u x p q => hr i u x (by simpa using p) q
  show wpAny _ _ (call (.builtin "str.join") [.str x t, .ref D]) _ _ _
  unfold JoinOk at hok
  rw [Bool.not_eq_true'] at hok
  refine wpAny_keep (call_meets PySem.F.slot_str_join (typeIs_str _ _ _) PySem.F.entry_str_join (PySem.F.args_str_join_2 _ _) (meets_str_join_list x t D l' (by rw [e2]; exact hok)) ⟨by rw [← e1]; simpa using hl, post_join l' ⟨?_, fun t' k hk => ?_⟩⟩)
  · rw [e2]; exact joinFit_length hok
  · rw [e2]; exact hQ _ _ _ (Nat.lt_of_lt_of_le t₂ hk) (hP t')
theorem joinOk_of {x : Str} {l : List Str} (h : (l.map (·.length)).sum + l.length * x.length ≤ 1000) : JoinOk x l = true := by
  unfold JoinOk
  rw [StrLaws.joinTotal]
  unfold Builtin.Str.tooLong
  rw [Bool.not_eq_true', decide_eq_false_iff_not, sizeLine_eq]
  omega
/-- bytes(e) -/
theorem Tri.bytesOf {e : Expr} {x : Str} {p pos : Pos} {ns : List Int} (f : PX (model prog w) A env (.Name x p) (· = .type "bytes") h) (hh : A.handled = none)
    (he : Tri (model prog w) A (eval e env) (fun v h₁ => Keeps h h₁ ∧ ∃ a vs, v = .ref a ∧ h₁.IsList a vs ∧ IntsAre vs.toList ns) h) (hr : ∀ n ∈ ns, 0 ≤ n ∧ n < 256) (hz : ns.length ≤ 1000) (hs : starEach [e] env = [(false, eval e env)] := by rfl) :
    Tri (model prog w) A (eval (.Call (.Name x p) [e] [] pos) env) (fun v h' => Keeps h h' ∧ isBytes (byteArr ns) v) h := by
  refine Tri.callT1 f (he.mono fun u h₁ q => ?_) hs
  obtain ⟨k, a, vs, rfl, hl, hi⟩ := q
  intro s Q E es ht hQ
  subst es
  refine wpAny_keep (call_bytes_ints (vs := vs.toList) (by simpa using hl) hi hr (by have := hi.length; rw [sizeLine_eq]; omega) hh fun h' t tk k2 htk => ?_)
  exact hQ _ h' tk (Nat.lt_of_lt_of_le ht htk) ⟨k.trans k2, t, rfl⟩
theorem SubSlice {value : Expr} {lower upper : Option Expr} {p pos : Pos} {T id : String} {Q : Value → Shared → Prop} {E : Value → Shared → Prop} {s : Shared}
    (hl : typeLookup (.type T) "__getitem__" = Pure.pure (some (.builtin id)))
    (h : wpAny (model prog w) A (eval value env) (fun o s₁ => wpAny (model prog w) A (eval (.Slice lower upper none p) env) (fun i s₂ => s₂.TypeIs o T ∧ wpAny (model prog w) A (getItem o i) Q E s₂) E s₁) E s) :
    wpAny (model prog w) A (eval (.Subscript value (.Slice lower upper none p) pos) env) Q E s := by
  rw [eval_Subscript]
  refine wpAny_bind (wpAny_mono h (fun o s₁ h₁ => wpAny_bind (wpAny_holding (wpAny_mono h₁ (fun i s₂ h₂ => wpAny_bind (wpAny_standAt ?_)) fun _ _ x => x)))
    fun _ _ x => x)
  have fin : wpAny (model prog w) A (operate [i, o] (getItem o i)) (fun r s₃ => wpAny (model prog w) A (letTemporaryGo value o r >>= fun _ => Pure.pure r) Q E s₃) E s₂ :=
    wpAny_operating (wpAny_mono h₂.2 (fun r s₃ h₃ => wpAny_bind (wpAny_letTemporaryGo (wpAny_pure h₃))) fun _ _ x => x)
  first
    | (refine wpAny_bind ?_
       rw [getitemInPython_of_ne h₂.1.not_modules]
       refine wpAny_bind (wpAny_specialOf h₂.1 hl ?_)
       first
         | exact wpAny_pure (wpAny_bind fin)
         | exact wpAny_bind (wpAny_pure (wpAny_bind fin))
         | exact wpAny_bind fin)
    | (refine wpAny_bind (wpAny_specialOf h₂.1 hl ?_)
       first
         | exact wpAny_bind (wpAny_pure (wpAny_bind fin))
         | exact wpAny_bind fin)
/-- e[:k] of bytes -/
theorem Tri.bytesUpto {value upper : Expr} {p pos : Pos} {b : Array UInt8} {n : Nat} (hl : Tri (model prog w) A (eval value env) (fun v h₁ => Keeps h h₁ ∧ isBytes b v) h) (hi : ∀ g, Keeps h g → PX (model prog w) A env upper (isInt n) g) (hsz : b.size ≤ 1000) :
    Tri (model prog w) A (eval (.Subscript value (.Slice none (some upper) none p) pos) env) (fun v h' => Keeps h h' ∧ isBytes (b.toList.take n).toArray v) h := fun s Q E es ht' hQ => by
  refine SubSlice (T := "bytes") FB.slot_bytes_getitem.lookup (hl.use es ht' fun v h₁ tk₁ t₁ hv' => wpAny_Slice (evalPart_none_step (evalPart_some_step ?_)))
  obtain ⟨k₁, t, rfl⟩ := hv'
  refine (hi h₁ k₁).here.use rfl t₁ fun u h₂ tk₂ t₂ hu => ?_
  obtain ⟨⟨t2, rfl⟩, rfl⟩ := hu
  rw [evalPart_none]
  refine wpAny_pure ⟨typeIs_bytes _ b t, ?_⟩
  refine wpAny_keep (getItem_meets (typeIs_bytes _ _ _) (by decide) FB.slot_bytes_getitem FB.entry_bytes_getitem (FB.args_bytes_getitem_2 _ _) (KBc.meets_slice2 b t _ (lo := none) (hi := some (n : Int)) .none (.int _ _)) ⟨Heap.IsSliceOf.new _ _ _ _, ?_, fun t' k hk => ?_⟩)
  · have := KBc.size_picked_le b none (some (n : Int)); rw [sizeLine_eq]; omega
  · refine hQ _ _ _ (Nat.lt_of_lt_of_le t₂ hk) ⟨fun b o e => Heap.get?_push_of_some _ (k₁ b o e), t', ?_⟩
    rw [KBc.picked_eq]
    simp only [Option.elim, clipAt_nat, List.drop_zero, Nat.sub_zero]
    congr 2
    rw [List.take_eq_take_min (i := n)]; simp
end
end Mine
end

section
open PySem PySem.W PyProof.Rows PySem.Calls PySem.SeqAt
set_option maxRecDepth 100000
set_option maxHeartbeats 400000
set_option linter.unusedVariables false
set_option linter.unusedSimpArgs false
namespace Mine
/-- what stays in the frame of the parcels' def -/
structure PC where
  h : Heap
  L : Addr
  pl : Addr
  pa : Addr
  la : Addr
  lb : Addr
  X : List Addr
noncomputable def PC.M (K : PC) : List Addr := K.X ++ [K.L, K.la, K.lb]
noncomputable def PC.add (K : PC) (I : Addr) : PC := { K with X := I :: K.X }
structure PV (K : PC) : Prop where
  fL : K.h.get? K.L = none
  fa : K.h.get? K.la = none
  fb : K.h.get? K.lb = none
  Lc : K.L ≠ K.L + 1
  Lp : K.L ≠ K.pl
  Lq : K.L ≠ K.pa
  La : K.L ≠ K.la
  Lb : K.L ≠ K.lb
  ac : K.la ≠ K.L + 1
  ap : K.la ≠ K.pl
  aq : K.la ≠ K.pa
  ab : K.la ≠ K.lb
  bc : K.lb ≠ K.L + 1
  bp : K.lb ≠ K.pl
  bq : K.lb ≠ K.pa
noncomputable def PAcc (K : PC) (g : Heap) (D : Addr) (l : List File) : Prop :=
  ∃ ys : Array Value, g.PlainList D ys ∧ ys.size = l.length ∧ ∀ (j : Nat) u x, ys[j]? = some u → l[j]? = some x → ∀ G, Live G K.h → rFile.r (K.M ++ G) g u x
structure PS (K : PC) (P : List File × List File) (n : Nat) (g : Heap) : Prop where
  keep : Keeps K.h g
  live : Live K.M g
  ns : ∃ m, g.Ns K.L m ∧ m (S "parcels") = some (.ref K.pa)
  cell : g.IsCell (K.L + 1) (some (.ref K.pl))
  pl : rTexts.r K.M g (.ref K.pl) pieces
  pa : g.IsList K.pa #[.ref K.la, .ref K.lb]
  a : PAcc K g K.la P.1
  b : PAcc K g K.lb P.2
  na : P.1.length ≤ 2 + n
  nb : P.2.length ≤ 2 + n
section
variable {K : PC} {P : List File × List File} {n : Nat} {g g' : Heap}
theorem PAcc.km {D : Addr} {l : List File} {N : List Addr} (x : PAcc K g D l) (k : KM N g g') (hN : ∀ b ∈ N, b ∈ K.M) (hD : D ∉ N) : PAcc K g' D l :=
  let ⟨ys, hp, hs, hr⟩ := x
  ⟨ys, hp.at fun o e => k D o hD e, hs, fun j u x p q G hG => rFile.km (hr j u x p q G hG) k fun b hb => List.mem_append_left _ (hN b hb)⟩
theorem PAcc.keeps {D : Addr} {l : List File} (x : PAcc K g D l) (k : Keeps g g') : PAcc K g' D l := x.km (N := []) (k.km) (fun b hb => nomatch hb) (fun hb => nomatch hb)
theorem PS.keeps (d : PS K P n g) (k : Keeps g g') : PS K P n g' where
  keep := d.keep.trans k
  live := d.live.keeps k
  ns := let ⟨m, hm, e⟩ := d.ns; ⟨m, hm.keeps k, e⟩
  cell := d.cell.keeps k
  pl := rTexts.kp' d.pl k
  pa := k.list d.pa
  a := d.a.keeps k
  b := d.b.keeps k
  na := d.na
  nb := d.nb
theorem PC.L_mem (K : PC) : K.L ∈ K.M := List.mem_append_right _ (.head _)
theorem PC.la_mem (K : PC) : K.la ∈ K.M := List.mem_append_right _ (.tail _ (.head _))
theorem PC.lb_mem (K : PC) : K.lb ∈ K.M := List.mem_append_right _ (.tail _ (.tail _ (.head _)))
theorem single {a b : Addr} (h : b ≠ a) : b ∉ [a] := fun q => h (List.mem_singleton.mp q)
theorem PS.store (V : PV K) (d : PS K P n g) {m' : Str → Option Value} (s : Heap.SameBut K.L g g') (hn : g'.Ns K.L m') (hp : m' (S "parcels") = some (.ref K.pa)) : PS K P n g' :=
  have k : KM [K.L] g g' := km_but s (.head _)
  have kM : ∀ b ∈ [K.L], b ∈ K.M := fun b hb => by rw [List.mem_singleton.mp hb]; exact K.L_mem
  { keep := k.of d.keep fun b hb => by rw [List.mem_singleton.mp hb]; exact V.fL
    live := d.live.km k fun b hb => by rw [List.mem_singleton.mp hb]; obtain ⟨o, _, _, e, _⟩ := hn; exact ⟨o, e⟩
    ns := ⟨m', hn, hp⟩
    cell := k.cell d.cell (single (Ne.symm V.Lc))
    pl := rTexts.km d.pl k kM
    pa := k.list d.pa (single (Ne.symm V.Lq))
    a := d.a.km k kM (single (Ne.symm V.La))
    b := d.b.km k kM (single (Ne.symm V.Lb))
    na := d.na
    nb := d.nb }
theorem PS.growA (V : PV K) (d : PS K P n g) {l : List File} (s : Heap.SameBut K.la g g') (x : PAcc K g' K.la l) (hl : l.length ≤ 2 + n) : PS K (l, P.2) n g' :=
  have k : KM [K.la] g g' := km_but s (.head _)
  have kM : ∀ b ∈ [K.la], b ∈ K.M := fun b hb => by rw [List.mem_singleton.mp hb]; exact K.la_mem
  { keep := k.of d.keep fun b hb => by rw [List.mem_singleton.mp hb]; exact V.fa
    live := d.live.km k fun b hb => by rw [List.mem_singleton.mp hb]; obtain ⟨ys, ⟨n, e⟩, _⟩ := x; exact ⟨_, e⟩
    ns := let ⟨m, hm, e⟩ := d.ns; ⟨m, k.ns hm (single V.La), e⟩
    cell := k.cell d.cell (single (Ne.symm V.ac))
    pl := rTexts.km d.pl k kM
    pa := k.list d.pa (single (Ne.symm V.aq))
    a := x
    b := d.b.km k kM (single (Ne.symm V.ab))
    na := hl
    nb := d.nb }
theorem PS.growB (V : PV K) (d : PS K P n g) {l : List File} (s : Heap.SameBut K.lb g g') (x : PAcc K g' K.lb l) (hl : l.length ≤ 2 + n) : PS K (P.1, l) n g' :=
  have k : KM [K.lb] g g' := km_but s (.head _)
  have kM : ∀ b ∈ [K.lb], b ∈ K.M := fun b hb => by rw [List.mem_singleton.mp hb]; exact K.lb_mem
  { keep := k.of d.keep fun b hb => by rw [List.mem_singleton.mp hb]; exact V.fb
    live := d.live.km k fun b hb => by rw [List.mem_singleton.mp hb]; obtain ⟨ys, ⟨n, e⟩, _⟩ := x; exact ⟨_, e⟩
    ns := let ⟨m, hm, e⟩ := d.ns; ⟨m, k.ns hm (single V.Lb), e⟩
    cell := k.cell d.cell (single (Ne.symm V.bc))
    pl := rTexts.km d.pl k kM
    pa := k.list d.pa (single (Ne.symm V.bq))
    a := d.a.km k kM (single V.ab)
    b := x
    na := d.na
    nb := hl }
theorem PS.next (d : PS K P n g) {n' : Nat} (h : n ≤ n') : PS K P n' g := { d with na := by have := d.na; omega, nb := by have := d.nb; omega }
/-- .. an iterator is new -/
structure Apart (K : PC) (I : Addr) : Prop where
  h : K.h.get? I = none
  L : K.L ≠ I
  c : K.L + 1 ≠ I
  pl : K.pl ≠ I
  pa : K.pa ≠ I
  la : K.la ≠ I
  lb : K.lb ≠ I
  M : I ∉ K.M
theorem PS.apart (d : PS K P n g) {I : Addr} (e : g.get? I = none) : Apart K I := by
  have ne : ∀ b, (∃ o, g.get? b = some o) → b ≠ I := fun b ⟨o, x⟩ q => by rw [q, e] at x; cases x
  refine ⟨d.keep.none e, ne _ (d.live _ K.L_mem), ne _ (let ⟨o, x, _⟩ := d.cell; ⟨o, x⟩), ne _ ?_, ne _ (let ⟨o, x, _⟩ := d.pa; ⟨o, x⟩), ne _ (d.live _ K.la_mem), ne _ (d.live _ K.lb_mem), fun q => ne I (d.live I q) rfl⟩
  obtain ⟨a, vs, e, _, ⟨o, x, _⟩, _⟩ := d.pl
  cases e
  exact ⟨o, x⟩
theorem PV.add {I : Addr} (V : PV K) : PV (K.add I) := ⟨V.fL, V.fa, V.fb, V.Lc, V.Lp, V.Lq, V.La, V.Lb, V.ac, V.ap, V.aq, V.ab, V.bc, V.bp, V.bq⟩
theorem PAcc.add {D I : Addr} {l : List File} (x : PAcc K g D l) (e : g.get? I = none) : PAcc (K.add I) g D l :=
  let ⟨ys, hp, hs, hr⟩ := x; ⟨ys, hp, hs, fun j u x p q G hG => rFile.fresh (hr j u x p q G hG) e⟩
theorem PS.add (d : PS K P n g) {I : Addr} (e : g.get? I = none) (k : Keeps g g') (o : ∃ o, g'.get? I = some o) : PS (K.add I) P n g' where
  keep := d.keep.trans k
  live := fun b hb => by
    rcases List.mem_cons.mp (show b ∈ I :: K.M from hb) with rfl | hb
    · exact o
    · exact d.live.keeps k b hb
  ns := let ⟨m, hm, e⟩ := d.ns; ⟨m, hm.keeps k, e⟩
  cell := d.cell.keeps k
  pl := rTexts.kp' (rTexts.fresh d.pl e) k
  pa := k.list d.pa
  a := (d.a.add e).keeps k
  b := (d.b.add e).keeps k
  na := d.na
  nb := d.nb
theorem PS.iter {I : Addr} (A : Apart K I) (d : PS (K.add I) P n g) (k : KM [I] g g') (o : ∃ o, g'.get? I = some o) : PS (K.add I) P n g' :=
  have kM : ∀ b ∈ [I], b ∈ (K.add I).M := fun b hb => by rw [List.mem_singleton.mp hb]; exact .head _
  { keep := k.of d.keep fun b hb => by rw [List.mem_singleton.mp hb]; exact A.h
    live := d.live.km k fun b hb => by rw [List.mem_singleton.mp hb]; exact o
    ns := let ⟨m, hm, e⟩ := d.ns; ⟨m, k.ns hm (single A.L), e⟩
    cell := k.cell d.cell (single A.c)
    pl := rTexts.km d.pl k kM
    pa := k.list d.pa (single A.pa)
    a := d.a.km k kM (single A.la)
    b := d.b.km k kM (single A.lb)
    na := d.na
    nb := d.nb }
theorem PAcc.off {D I : Addr} {l : List File} (x : PAcc (K.add I) g D l) : PAcc K g D l :=
  let ⟨ys, hp, hs, hr⟩ := x; ⟨ys, hp, hs, fun j u x p q G hG => rFile.anti (hr j u x p q G hG) fun b hb => .tail _ hb⟩
theorem PS.off {I : Addr} (A : Apart K I) (d : PS (K.add I) P n g) (k : KM [I] g g') : PS K P n g' :=
  have kM : ∀ b ∈ [I], b ∈ (K.add I).M := fun b hb => by rw [List.mem_singleton.mp hb]; exact .head _
  { keep := k.of d.keep fun b hb => by rw [List.mem_singleton.mp hb]; exact A.h
    live := fun b hb => by
      obtain ⟨o, e⟩ := d.live b (.tail _ hb)
      exact ⟨o, k b o (single (fun q => A.M (q ▸ hb))) e⟩
    ns := let ⟨m, hm, e⟩ := d.ns; ⟨m, k.ns hm (single A.L), e⟩
    cell := k.cell d.cell (single A.c)
    pl := rTexts.anti (rTexts.km d.pl k kM) fun b hb => .tail _ hb
    pa := k.list d.pa (single A.pa)
    a := (d.a.km k kM (single A.la)).off
    b := (d.b.km k kM (single A.lb)).off
    na := d.na
    nb := d.nb }
end
end Mine
end

section
open PySem PySem.W PyProof.Rows PySem.Calls PySem.SeqAt
set_option maxRecDepth 100000
set_option maxHeartbeats 400000
set_option linter.unusedVariables false
set_option linter.unusedSimpArgs false
namespace Mine
noncomputable def pieceOf (c : Nat) : Str := pieces.getD (c - 48) ⟨#[]⟩
noncomputable def figsOk : Bool := (List.range 1000).all fun m => (Nat.toDigits 10 m).map Char.toNat == (figures m).map (· + 48) && ((figures m).all (fun d => decide (d < 10)) && decide ((figures m).length ≤ 3))
theorem figs_ok : figsOk = true := by decide +kernel
theorem join_fold : ∀ (l : List Str) (x : Str), l.foldl (fun x y => x ++ y) x = x ++ Str.join Str.empty l
  | [], x => (Str.append_empty x).symm
  | [y], x => rfl
  | y :: z :: l, x => by
    show (z :: l).foldl (fun x y => x ++ y) (x ++ y) = x ++ (y ++ Str.empty ++ Str.join Str.empty (z :: l))
    rw [join_fold (z :: l), Str.append_empty, Str.append_assoc]
theorem txt_join (l : List Str) : Txt.join (S "") l = Str.join Str.empty l := StrLaws.glued_eq_join _ _
theorem pieceOf_len {c : Nat} (h : c < 58) : (pieceOf c).length ≤ 1 := by
  have : ∀ c < 58, (pieceOf c).length ≤ 1 := by decide +kernel
  exact this c h
theorem digit_reads {c : Nat} (h : 48 ≤ c ∧ c < 58) : PySem.intText? ⟨#[c]⟩ = some ((c - 48 : Nat) : Int) := by
  have : ∀ d < 10, PySem.intText? ⟨#[48 + d]⟩ = some ((d : Nat) : Int) := by decide +kernel
  have e := this (c - 48) (by omega)
  rwa [show 48 + (c - 48) = c from by omega] at e
theorem name_facts (n : Nat) : let y := Str.ofString (toString ((n % 1000 : Nat) : Int)); (∀ c ∈ y.cps.toList, 48 ≤ c ∧ c < 58) ∧ y.cps.size ≤ 3 ∧ Txt.join (S "") (y.cps.toList.map pieceOf) = nameOf n := by
  intro y
  have hm : n % 1000 < 1000 := Nat.mod_lt _ (by decide)
  have e := KIN.signs_num (n % 1000)
  have h := figs_ok
  unfold figsOk at h
  rw [List.all_eq_true] at h
  have h1 := Bool.and_eq_true_iff.mp (h (n % 1000) (List.mem_range.mpr hm))
  have h2 := Bool.and_eq_true_iff.mp h1.2
  have hy : y.cps.toList = (figures (n % 1000)).map (· + 48) := e.trans (eq_of_beq h1.1)
  refine ⟨fun c hc => ?_, ?_, ?_⟩
  · rw [hy] at hc
    obtain ⟨d, hd, rfl⟩ := List.mem_map.mp hc
    exact ⟨Nat.le_add_left _ _, Nat.add_lt_add_right (of_decide_eq_true (List.all_eq_true.mp h2.1 d hd)) 48⟩
  · rw [← Array.length_toList, hy, List.length_map]
    exact of_decide_eq_true h2.2
  · rw [hy, List.map_map, txt_join]
    refine (Str.empty_append _).symm.trans ((join_fold _ _).symm.trans ?_)
    rw [List.foldl_map]
    rfl
end Mine
end

section
open PySem PySem.W PyProof.Rows PySem.Calls PySem.SeqAt
set_option maxRecDepth 100000
set_option maxHeartbeats 400000
set_option linter.unusedVariables false
set_option linter.unusedSimpArgs false
namespace Mine
noncomputable def TextsAre (vs : Array Value) (x : List Str) : Prop := vs.size = x.length ∧ ∀ (i : Nat) u s, vs[i]? = some u → x[i]? = some s → isStr s u
theorem drop_step {x : List Str} {n : Nat} {z s : Str} (h : x[n]? = some s) : (x.drop n).dropWhile (· == z) = if s = z then (x.drop (n + 1)).dropWhile (· == z) else x.drop n := by
  obtain ⟨hn, rfl⟩ := List.getElem?_eq_some_iff.mp h
  rw [List.drop_eq_getElem_cons hn, List.dropWhile_cons]
  by_cases e : x[n] = z
  · rw [if_pos e, if_pos (beq_iff_eq.mpr e)]
  · rw [if_neg e, if_neg (by simpa using e)]
section
variable {w : World} {A : Around} {env : Env} {outer : List Env} {L : Addr} {base hB h : Heap} {c : Bool} {Fc : Heap → Prop}
theorem scan {lst idx itm : Str} {p1 p2 p3 p4 p5 p6 p7 p8 p9 : Pos} {kk : Nat} {F : Nat → Heap → Prop} {x : List Str} {z : Str} (W : XW hB base env outer L Fc) (hfr : A.frames = some (env :: outer)) (hu : A.units + 8 < cLine) (hx : x.length ≤ 1000)
    (view : ∀ n h, F n h → ∃ m a vs t t', h.Ns env.locals m ∧ m lst = some (.ref a) ∧ h.IsList a vs ∧ TextsAre vs x ∧ m idx = some (.int n t) ∧ m itm = some (.str z t') ∧ HandOk A h ∧
      ∀ h' t, h'.Ns env.locals (fun y => if y = idx then some (.int ((n + 1 : Nat) : Int) t) else m y) → Heap.SameBut env.locals h h' → n < x.length → F (n + 1) h')
    (n0 : Nat) (up : ∀ n h h' e, F n h → x.length ≤ n → n ≤ x.length → NewX A h h' e → (x.drop n0).dropWhile (· == z) = [] → Up hB L c Fc (.ref e) h')
    (h0 : F n0 h) (hn0 : n0 ≤ x.length)
    (hk : env.scope.kind = .function) (k1 : env.kindOf lst = some .local) (k2 : env.kindOf idx = some .local) (k3 : env.kindOf itm = some .local) (d1 : (lst == ("__debug__" : Str)) = false) (d2 : (idx == ("__debug__" : Str)) = false) (d3 : (itm == ("__debug__" : Str)) = false) :
    TriE (model PG w) A (exec (.While (.Compare (.Subscript (.Name lst p1) (.Name idx p2) p3) [.Eq] [.Name itm p4] p5) [.AugAssign (.Name idx p6) .Add (.Constant (.int 1) kk p7) p8] [] p9) env)
      (fun f h' => f = .next ∧ ∃ n, n0 ≤ n ∧ n < x.length ∧ F n h' ∧ x.drop n = (x.drop n0).dropWhile (· == z)) (Up hB L c Fc) h := by
  have hp : (env.scope.kind == .class || (env.scope.kind == .module && env.locals != env.globals)) = false := by rw [hk]; rfl
  refine TriE.whl W hfr (fun k h => ∃ n, F n h ∧ n0 ≤ n ∧ n ≤ x.length ∧ k = x.length - n ∧ (x.drop n0).dropWhile (· == z) = (x.drop n).dropWhile (· == z)) ?_ (x.length - n0) ⟨n0, h0, Nat.le_refl _, hn0, rfl, rfl⟩
  rintro k h ⟨n, hF, h1, h2, rfl, hd⟩
  obtain ⟨m, a, vs, t, t', hm, ml, hl, ⟨hs, hr⟩, mi, mz, hA, step⟩ := view n h hF
  refine TriE.cmpTrue (TriE.item (n := n) (PX.local hm ml hk k1 d1) hl ((PX.local hm mi hk k2 d2).mono fun v e => (by rw [e]; exact ⟨t, rfl⟩ : isInt n v)) hA (by omega) (fun u hu' => ?_) (fun hle e h' q => ?_) (fun _ _ _ => by rfl)) (by rfl)
  · have hlt : n < x.length := by have := (Array.getElem?_eq_some_iff.mp hu').1; omega
    have hxn : x[n]? = some x[n] := by simp [hlt]
    refine Tri.e ((PX.local hm mz hk k3 d3).here.mono fun v h' q => ?_)
    obtain ⟨rfl, rfl⟩ := q
    refine Tri.e ((Tri.eq (G := []) (k := decide (x[n] = z)) eqr_str (by omega) (show rStr.r [] h' u x[n] from hr n u _ hu' hxn) (show rStr.r [] h' (.str z t') z from ⟨t', rfl⟩) decide_eq_true_iff).mono fun b h'' q => ?_)
    obtain ⟨rfl, rfl⟩ := q
    refine ⟨_, rfl, ?_⟩
    rw [drop_step hxn] at hd
    by_cases e : x[n] = z
    · rw [if_pos (by simpa using e)]
      rw [if_pos e] at hd
      refine TriE.then (Tri.e (Tri.augInt hm mi PX.const_int (fun h₂ t₂ n₂ s₂ => ⟨rfl, Tri.e (Tri.nil (.inl ⟨rfl, x.length - (n + 1), by omega, n + 1, step h₂ t₂ n₂ s₂ hlt, by omega, by omega, rfl, hd⟩))⟩) (fun s Q E t u hq => iadd_int hq) hk k2 hp))
    · rw [if_neg (by simpa using e)]
      rw [if_neg e] at hd
      exact ⟨n, h1, hlt, hF, hd.symm⟩
  · have hn : x.length ≤ n := by omega
    refine up n h h' e hF hn h2 q ?_
    rw [hd, List.drop_eq_nil_of_le hn]; rfl
end
end Mine
end

section
open PySem PySem.W PyProof.Rows PySem.Calls PySem.SeqAt
set_option maxRecDepth 100000
set_option maxHeartbeats 400000
set_option linter.unusedVariables false
set_option linter.unusedSimpArgs false
namespace Mine
/-- what stays in the def's frame -/
structure DC where
  hB : Heap
  base : Heap
  env : Env
  outer : List Env
  L : Addr
  mL : Addr
  uL : Addr
  xe : Addr
  ya : Addr
  xs : Array Value
  ys : Array Value
  x : List Str
  y : List Str
  mg : Str → Option Value
  mb : Str → Option Value
noncomputable def DC.fs (K : DC) : List Addr := frs (K.env :: K.outer)
structure DV (K : DC) : Prop where
  hf : K.env.frame = some K.L
  hl : K.env.locals = K.L
  live : ∀ b ∈ K.fs, ∃ o, K.hB.get? b = some o
  liveM : ∃ o, K.hB.get? K.mL = some o
  liveU : ∃ o, K.hB.get? K.uL = some o
  liveX : ∃ o, K.hB.get? K.xe = some o
  liveY : ∃ o, K.hB.get? K.ya = some o
  liveG : ∃ o, K.hB.get? mainGlobals = some o
  liveB : ∃ o, K.hB.get? builtinsNs = some o
  mfs : K.mL ∉ K.fs
  ufs : K.uL ∉ K.fs
  mu : K.mL ≠ K.uL
  Lm : K.L ≠ K.mL
  Lu : K.L ≠ K.uL
  xm : K.xe ≠ K.mL
  xu : K.xe ≠ K.uL
  ym : K.ya ≠ K.mL
  yu : K.ya ≠ K.uL
  xL : K.xe ≠ K.L
  yL : K.ya ≠ K.L
  gL : mainGlobals ≠ K.L
  gm : mainGlobals ≠ K.mL
  gu : mainGlobals ≠ K.uL
  bL : builtinsNs ≠ K.L
  bm : builtinsNs ≠ K.mL
  bu : builtinsNs ≠ K.uL
  tx : TextsAre K.xs K.x
  ty : TextsAre K.ys K.y
  nx : K.x.length ≤ 16
  ny : K.y.length ≤ 16
noncomputable def VarsOk (K : DC) (i j : Nat) (eo ao : Option Str) (m : Str → Option Value) : Prop :=
  m (S "expected") = some (.ref K.xe) ∧ m (S "actual") = some (.ref K.ya) ∧ m (S "missing") = some (.ref K.mL) ∧ m (S "unexpected") = some (.ref K.uL) ∧ (∃ t, m (S "i") = some (.int i t)) ∧ (∃ t, m (S "j") = some (.int j t)) ∧
    (∀ z, eo = some z → ∃ t, m (S "e") = some (.str z t)) ∧ (∀ z, ao = some z → ∃ t, m (S "a") = some (.str z t))
structure DS (K : DC) (i j : Nat) (eo ao : Option Str) (ms us : List Str) (h : Heap) : Prop where
  keep : ∀ b o, K.hB.get? b = some o → b ∉ K.fs → b ≠ K.mL → b ≠ K.uL → h.get? b = some o
  slots : ∀ b o, K.hB.get? b = some o → b ≠ K.L → b ≠ K.mL → b ≠ K.uL → ∃ sl, h.get? b = some { o with slots := sl }
  ns : ∃ m, h.Ns K.L m ∧ VarsOk K i j eo ao m
  lx : h.IsList K.xe K.xs
  ly : h.IsList K.ya K.ys
  am : AccT h K.mL ms
  au : AccT h K.uL us
  ff : h.FunFrames K.base (K.env :: K.outer)
  gl : h.Ns mainGlobals K.mg
  bl : h.Ns builtinsNs K.mb
section
variable {K : DC} {i j : Nat} {eo ao : Option Str} {ms us : List Str} {h h' : Heap}
theorem slots_list {a : Addr} {vs : Array Value} (x : h.IsList a vs) (k : ∀ o, h.get? a = some o → ∃ sl, h'.get? a = some { o with slots := sl }) : h'.IsList a vs := by
  obtain ⟨o, ho, hc, n, hd⟩ := x
  obtain ⟨sl, e⟩ := k o ho
  exact ⟨_, e, hc, n, hd⟩
theorem slots_ns {a : Addr} {m : Str → Option Value} (x : h.Ns a m) (k : ∀ o, h.get? a = some o → ∃ sl, h'.get? a = some { o with slots := sl }) : h'.Ns a m := by
  obtain ⟨o, es, ep, ho, hd, r⟩ := x
  obtain ⟨sl, e⟩ := k o ho
  exact ⟨_, es, ep, e, hd, r⟩
theorem fun_on {base h h' : Heap} : ∀ {l : List Env}, h.FunFrames base l → (∀ b ∈ frs l, ∀ o, h.get? b = some o → (∀ vs, o.data ≠ .fields vs) → ∃ o', h'.get? b = some o' ∧ ∀ vs, o'.data ≠ .fields vs) → h'.FunFrames base l
  | [], _, _ => trivial
  | env :: l, ⟨hk, ⟨L, o, hf, hn, ho, hd⟩, hr⟩, k => by
    obtain ⟨o', e', d'⟩ := k L (by unfold frs; simp [hf]) o ho hd
    refine ⟨hk, ⟨L, o', hf, hn, e', d'⟩, fun_on hr fun b hb => k b ?_⟩
    unfold frs at hb ⊢
    rw [List.filterMap_cons]
    split
    · exact hb
    · exact .tail _ hb
theorem DS.on (V : DV K) (d : DS K i j eo ao ms us h) (s : StandOn K.hB K.fs h h') : DS K i j eo ao ms us h' where
  keep := fun b o e n1 n2 n3 => s.off b o ⟨o, e⟩ n1 (d.keep b o e n1 n2 n3)
  slots := fun b o e n1 n2 n3 => by
    obtain ⟨sl, e1⟩ := d.slots b o e n1 n2 n3
    obtain ⟨sl2, e2⟩ := s.slots b _ ⟨o, e⟩ e1
    exact ⟨sl2, e2⟩
  ns := by
    obtain ⟨m, hm, hv⟩ := d.ns
    have lv : ∃ o, K.hB.get? K.L = some o := V.live K.L (by unfold DC.fs frs; simp [V.hf])
    exact ⟨m, slots_ns hm fun o e => s.slots _ o lv e, hv⟩
  lx := slots_list d.lx fun o e => s.slots _ o V.liveX e
  ly := slots_list d.ly fun o e => s.slots _ o V.liveY e
  am := d.am.at fun o e => s.off _ o V.liveM V.mfs e
  au := d.au.at fun o e => s.off _ o V.liveU V.ufs e
  ff := fun_on d.ff fun b hb o e nf => by
    obtain ⟨sl, e'⟩ := s.slots b o (V.live b hb) e
    exact ⟨_, e', nf⟩
  gl := slots_ns d.gl fun o e => s.slots _ o V.liveG e
  bl := slots_ns d.bl fun o e => s.slots _ o V.liveB e
theorem DV.lfs (V : DV K) : K.L ∈ K.fs := by unfold DC.fs frs; simp [V.hf]
theorem DS.keeps (d : DS K i j eo ao ms us h) (k : Keeps h h') : DS K i j eo ao ms us h' where
  keep := fun b o e n1 n2 n3 => k b o (d.keep b o e n1 n2 n3)
  slots := fun b o e n1 n2 n3 => let ⟨sl, e1⟩ := d.slots b o e n1 n2 n3; ⟨sl, k _ _ e1⟩
  ns := let ⟨m, hm, hv⟩ := d.ns; ⟨m, hm.keeps k, hv⟩
  lx := k.list d.lx
  ly := k.list d.ly
  am := d.am.at fun o e => k _ _ e
  au := d.au.at fun o e => k _ _ e
  ff := fun_on d.ff fun b hb o e nf => ⟨o, k _ _ e, nf⟩
  gl := d.gl.keeps k
  bl := d.bl.keeps k
/-- a name of the frame is stored -/
theorem DS.store (V : DV K) (d : DS K i j eo ao ms us h) {i' j' : Nat} {eo' ao' : Option Str} {m' : Str → Option Value} (s : Heap.SameBut K.L h h') (n : h'.Ns K.L m') (hv : VarsOk K i' j' eo' ao' m') : DS K i' j' eo' ao' ms us h' := by
  have kb : ∀ b o, b ≠ K.L → h.get? b = some o → h'.get? b = some o := fun b o nb e => s.extBut b o nb e
  exact {
    keep := fun b o e n1 n2 n3 => kb b o (fun q => n1 (q ▸ V.lfs)) (d.keep b o e n1 n2 n3)
    slots := fun b o e n1 n2 n3 => let ⟨sl, e1⟩ := d.slots b o e n1 n2 n3; ⟨sl, kb _ _ n1 e1⟩
    ns := ⟨m', n, hv⟩
    lx := d.lx.at fun o e => kb _ o V.xL e
    ly := d.ly.at fun o e => kb _ o V.yL e
    am := d.am.at fun o e => kb _ o (Ne.symm V.Lm) e
    au := d.au.at fun o e => kb _ o (Ne.symm V.Lu) e
    ff := fun_on d.ff fun b hb o e nf => by
      by_cases q : b = K.L
      · obtain ⟨o', es, ep, ho', hd', _⟩ := n
        exact ⟨o', q ▸ ho', fun vs q' => by rw [hd'] at q'; cases q'⟩
      · exact ⟨o, kb b o q e, nf⟩
    gl := d.gl.at' fun o e => kb _ o V.gL e
    bl := d.bl.at' fun o e => kb _ o V.bL e }
/-- the list of the missing grows -/
theorem DS.growM (V : DV K) (d : DS K i j eo ao ms us h) {ms' : List Str} (s : Heap.SameBut K.mL h h') (a : AccT h' K.mL ms') : DS K i j eo ao ms' us h' := by
  have kb : ∀ b o, b ≠ K.mL → h.get? b = some o → h'.get? b = some o := fun b o nb e => s.extBut b o nb e
  exact {
    keep := fun b o e n1 n2 n3 => kb b o n2 (d.keep b o e n1 n2 n3)
    slots := fun b o e n1 n2 n3 => let ⟨sl, e1⟩ := d.slots b o e n1 n2 n3; ⟨sl, kb _ _ n2 e1⟩
    ns := let ⟨m, hm, hv⟩ := d.ns; ⟨m, hm.at' fun o e => kb _ o V.Lm e, hv⟩
    lx := d.lx.at fun o e => kb _ o V.xm e
    ly := d.ly.at fun o e => kb _ o V.ym e
    am := a
    au := d.au.at fun o e => kb _ o (Ne.symm V.mu) e
    ff := fun_on d.ff fun b hb o e nf => ⟨o, kb b o (fun q => V.mfs (q ▸ hb)) e, nf⟩
    gl := d.gl.at' fun o e => kb _ o V.gm e
    bl := d.bl.at' fun o e => kb _ o V.bm e }
theorem DS.growU (V : DV K) (d : DS K i j eo ao ms us h) {us' : List Str} (s : Heap.SameBut K.uL h h') (a : AccT h' K.uL us') : DS K i j eo ao ms us' h' := by
  have kb : ∀ b o, b ≠ K.uL → h.get? b = some o → h'.get? b = some o := fun b o nb e => s.extBut b o nb e
  exact {
    keep := fun b o e n1 n2 n3 => kb b o n3 (d.keep b o e n1 n2 n3)
    slots := fun b o e n1 n2 n3 => let ⟨sl, e1⟩ := d.slots b o e n1 n2 n3; ⟨sl, kb _ _ n3 e1⟩
    ns := let ⟨m, hm, hv⟩ := d.ns; ⟨m, hm.at' fun o e => kb _ o V.Lu e, hv⟩
    lx := d.lx.at fun o e => kb _ o V.xu e
    ly := d.ly.at fun o e => kb _ o V.yu e
    am := d.am.at fun o e => kb _ o V.mu e
    au := a
    ff := fun_on d.ff fun b hb o e nf => ⟨o, kb b o (fun q => V.ufs (q ▸ hb)) e, nf⟩
    gl := d.gl.at' fun o e => kb _ o V.gu e
    bl := d.bl.at' fun o e => kb _ o V.bu e }
/-- an exception's world over the facts -/
theorem DV.world (V : DV K) (F : Nat → Nat → Option Str → Option Str → List Str → List Str → Prop) : XW K.hB K.base K.env K.outer K.L (fun h => ∃ i j eo ao ms us, DS K i j eo ao ms us h ∧ F i j eo ao ms us) where
  hf := V.hf
  live := V.live
  on := fun h h' ⟨i, j, eo, ao, ms, us, d, f⟩ s => ⟨i, j, eo, ao, ms, us, d.on V s, f⟩
  frames := fun h ⟨i, j, eo, ao, ms, us, d, f⟩ => d.ff
  grown := fun h ⟨i, j, eo, ao, ms, us, d, f⟩ b ⟨o, e⟩ => by
    by_cases h1 : b = K.L
    · obtain ⟨m, ⟨o', _, _, e', _⟩, _⟩ := d.ns; exact ⟨o', h1 ▸ e'⟩
    by_cases h2 : b = K.mL
    · obtain ⟨ys, ⟨n, e'⟩, _⟩ := d.am; exact ⟨_, h2 ▸ e'⟩
    by_cases h3 : b = K.uL
    · obtain ⟨ys, ⟨n, e'⟩, _⟩ := d.au; exact ⟨_, h3 ▸ e'⟩
    obtain ⟨sl, e1⟩ := d.slots b o e h1 h2 h3
    exact ⟨_, e1⟩
/-- a raised IndexError goes up -/
theorem DS.raise (V : DV K) (d : DS K i j eo ao ms us h) {F : Nat → Nat → Option Str → Option Str → List Str → List Str → Prop} {A : Around} {e : Addr} {c : Bool} (x : NewX A h h' e) (hF : F i j eo ao ms us) (hc : c = true → A.handled = none) :
    Up K.hB K.L c (fun h => ∃ i j eo ao ms us, DS K i j eo ao ms us h ∧ F i j eo ao ms us) (.ref e) h' := by
  have hn : K.hB.get? e = none := by
    cases q : K.hB.get? e with
    | none => rfl
    | some o =>
      obtain ⟨o', e'⟩ := (V.world F).grown h ⟨i, j, eo, ao, ms, us, d, hF⟩ e ⟨o, q⟩
      rw [x.new] at e'; cases e'
  obtain ⟨ob, vs, a1, a2, a3, a4, a5⟩ := x.there
  exact ⟨e, none, rfl, .inl rfl, ⟨hn, ob, vs, a1, a2, a3, fun q => a5 (hc q), a4⟩, i, j, eo, ao, ms, us, d.keeps x.keeps, hF⟩
end
end Mine
end

section
open PySem PySem.W PyProof.Rows PySem.Calls PySem.SeqAt
set_option maxRecDepth 100000
set_option maxHeartbeats 400000
set_option linter.unusedVariables false
set_option linter.unusedSimpArgs false
namespace Mine
/-- all stands but that frames may have their slots laid -/
structure Stand (fs : List Addr) (h h' : Heap) : Prop where
  off : ∀ b o, b ∉ fs → h.get? b = some o → h'.get? b = some o
  slots : ∀ b o, h.get? b = some o → ∃ sl, h'.get? b = some { o with slots := sl }
section
variable {M : Model} {A : Around} {env : Env} {h : Heap}
theorem Tri.asgTwo {x y : Str} {p q pos : Pos} {value : Expr} {P : Flow → Heap → Prop} {m : Str → Option Value} {V : Value → Prop} (n : h.Ns env.locals m) (a : PX M A env value V h)
    (k : ∀ v h₂, V v → h₂.Ns env.locals (fun z => if z = y then some v else if z = x then some v else m z) → KM [env.locals] h h₂ → P .next h₂)
    (hx : env.kindOf x = some .local) (hy : env.kindOf y = some .local) (hp : (env.scope.kind == .class || (env.scope.kind == .module && env.locals != env.globals)) = false)
    (he : (assignEach [.Name x p, .Name y q] env).map (·.2) = [assign (.Name x p) env, assign (.Name y q) env] := by rfl)
    (hw : swappedStores [.Name x p, .Name y q] value env = Pure.pure none := by rfl) : Tri M A (exec (.Assign [.Name x p, .Name y q] value pos) env) P h := fun s Q E es ht hQ => by
  subst es
  refine wpAny_Assign_two (a.here.use rfl ht fun v h₁ tk₁ t₁ q => ?_) he hw
  obtain ⟨hv, rfl⟩ := q
  refine wpAny_assign_Name (wpAny_storeName_local hx n (fun h₂ n₂ s₂ => ?_) hp)
  refine wpAny_assign_Name (wpAny_storeName_local hy n₂ (fun h₃ n₃ s₃ => ?_) hp)
  exact hQ .next h₃ _ (Nat.succ_pos _) (k v h₃ hv n₃ ((km_but s₂ (.head _)).trans (km_but s₃ (.head _))))
theorem Tri.whileTrue {k : Nat} {pos : Pos} {P : Bool → Heap → Prop} (x : P true h) : Tri M A (isTrue (.Constant (.bool true) k pos) env (eval (.Constant (.bool true) k pos) env)) P h := fun s Q E es ht hQ => by
  subst es
  refine isTrue_plain (wpAny_Constant_bool (wpAny_truthy_bool ?_))
  exact hQ true s.heap s.toks ht x
theorem Tri.newListP {vs : List Value} {P : Value → Heap → Prop} (k : ∀ a h', h.get? a = none → Keeps h h' → h'.PlainList a vs.toArray → P (.ref a) h') (hsz : vs.length ≤ sizeLine := by size_fits) : Tri M A (PySem.newList vs) P h := fun s Q E es ht hQ => by
  subst es
  refine wpAny_newObj_type (hQ _ _ _ ht (k _ _ (Heap.get?_none_of_le (Nat.le_refl _)) (fun b o e => Heap.get?_push_of_some _ e) ⟨0, Heap.get?_push_size _ rfl⟩)) ?_
  show vs.toArray.size ≤ sizeLine
  rw [List.size_toArray]; exact hsz
end
section
variable {K : DC} {i j i' : Nat} {eo ao : Option Str} {m : Str → Option Value} {z : Str} {t : Tok}
theorem VarsOk.setI (v : VarsOk K i j eo ao m) : VarsOk K i' j eo ao (fun y => if y = S "i" then some (.int i' t) else m y) :=
  ⟨(if_neg (by decide)).trans v.1, (if_neg (by decide)).trans v.2.1, (if_neg (by decide)).trans v.2.2.1, (if_neg (by decide)).trans v.2.2.2.1, ⟨t, if_pos rfl⟩,
    let ⟨u, e⟩ := v.2.2.2.2.2.1; ⟨u, (if_neg (by decide)).trans e⟩, fun z q => let ⟨u, e⟩ := v.2.2.2.2.2.2.1 z q; ⟨u, (if_neg (by decide)).trans e⟩, fun z q => let ⟨u, e⟩ := v.2.2.2.2.2.2.2 z q; ⟨u, (if_neg (by decide)).trans e⟩⟩
theorem VarsOk.setJ (v : VarsOk K i j eo ao m) : VarsOk K i i' eo ao (fun y => if y = S "j" then some (.int i' t) else m y) :=
  ⟨(if_neg (by decide)).trans v.1, (if_neg (by decide)).trans v.2.1, (if_neg (by decide)).trans v.2.2.1, (if_neg (by decide)).trans v.2.2.2.1,
    let ⟨u, e⟩ := v.2.2.2.2.1; ⟨u, (if_neg (by decide)).trans e⟩, ⟨t, if_pos rfl⟩, fun z q => let ⟨u, e⟩ := v.2.2.2.2.2.2.1 z q; ⟨u, (if_neg (by decide)).trans e⟩, fun z q => let ⟨u, e⟩ := v.2.2.2.2.2.2.2 z q; ⟨u, (if_neg (by decide)).trans e⟩⟩
theorem VarsOk.setE (v : VarsOk K i j eo ao m) : VarsOk K i j (some z) ao (fun y => if y = S "e" then some (.str z t) else m y) :=
  ⟨(if_neg (by decide)).trans v.1, (if_neg (by decide)).trans v.2.1, (if_neg (by decide)).trans v.2.2.1, (if_neg (by decide)).trans v.2.2.2.1,
    let ⟨u, e⟩ := v.2.2.2.2.1; ⟨u, (if_neg (by decide)).trans e⟩, let ⟨u, e⟩ := v.2.2.2.2.2.1; ⟨u, (if_neg (by decide)).trans e⟩, fun z' q => by cases q; exact ⟨t, if_pos rfl⟩, fun z q => let ⟨u, e⟩ := v.2.2.2.2.2.2.2 z q; ⟨u, (if_neg (by decide)).trans e⟩⟩
theorem VarsOk.setA (v : VarsOk K i j eo ao m) : VarsOk K i j eo (some z) (fun y => if y = S "a" then some (.str z t) else m y) :=
  ⟨(if_neg (by decide)).trans v.1, (if_neg (by decide)).trans v.2.1, (if_neg (by decide)).trans v.2.2.1, (if_neg (by decide)).trans v.2.2.2.1,
    let ⟨u, e⟩ := v.2.2.2.2.1; ⟨u, (if_neg (by decide)).trans e⟩, let ⟨u, e⟩ := v.2.2.2.2.2.1; ⟨u, (if_neg (by decide)).trans e⟩, fun z q => let ⟨u, e⟩ := v.2.2.2.2.2.2.1 z q; ⟨u, (if_neg (by decide)).trans e⟩, fun z' q => by cases q; exact ⟨t, if_pos rfl⟩⟩
end
theorem mem_frs {l : List Env} {h0 base : Heap} (hl : h0.FunFrames base l) {b : Addr} (hb : b ∈ frs l) : ∃ o, h0.get? b = some o := by
  obtain ⟨_, o, ho, _⟩ := hl.mem hb
  exact ⟨o, ho⟩
theorem sdiff_len (x y : List Str) : (sdiff x y).1.length ≤ x.length ∧ (sdiff x y).2.length ≤ y.length := by
  induction x, y using sdiff.induct with
  | case1 ys => simp [sdiff]
  | case2 e xs => simp [sdiff]
  | case3 e xs a ys h ih =>
    have h1 : (xs.dropWhile (· == e)).length ≤ xs.length := (List.dropWhile_sublist _).length_le
    rw [sdiff, if_pos h]; simp only [List.length_cons] at *; omega
  | case4 e xs a ys h h' ih =>
    have h2 : (ys.dropWhile (· == a)).length ≤ ys.length := (List.dropWhile_sublist _).length_le
    rw [sdiff, if_neg h, if_pos h']; simp only [List.length_cons] at *; omega
  | case5 e xs a ys h h' ih =>
    have h1 : (xs.dropWhile (· == e)).length ≤ xs.length := (List.dropWhile_sublist _).length_le
    have h2 : (ys.dropWhile (· == a)).length ≤ ys.length := (List.dropWhile_sublist _).length_le
    rw [sdiff, if_neg h, if_neg h']; simp only [List.length_cons] at *; omega
/-- what is left to do at i and j -/
noncomputable def Left (x y : List Str) (i j : Nat) (ms us : List Str) : Prop := ms ++ (sdiff (x.drop i) (y.drop j)).1 = (sdiff x y).1 ∧ us ++ (sdiff (x.drop i) (y.drop j)).2 = (sdiff x y).2
/-- .. one of the lists is at its end -/
noncomputable def Last (x y : List Str) (i j : Nat) (ms us : List Str) : Prop := ms ++ x.drop i = (sdiff x y).1 ∧ us ++ y.drop j = (sdiff x y).2
theorem Left.lens {x y : List Str} {i j : Nat} {ms us : List Str} (l : Left x y i j ms us) : ms.length ≤ x.length ∧ us.length ≤ y.length := by
  have h := sdiff_len x y
  have h1 := congrArg List.length l.1
  have h2 := congrArg List.length l.2
  rw [List.length_append] at h1 h2
  omega
theorem Last.lens {x y : List Str} {i j : Nat} {ms us : List Str} (l : Last x y i j ms us) : ms.length ≤ x.length ∧ us.length ≤ y.length := by
  have h := sdiff_len x y
  have h1 := congrArg List.length l.1
  have h2 := congrArg List.length l.2
  rw [List.length_append] at h1 h2
  omega
theorem Left.endX {x y : List Str} {i j : Nat} {ms us : List Str} (l : Left x y i j ms us) (h : x.drop i = []) : Last x y i j ms us := by
  obtain ⟨l1, l2⟩ := l
  rw [h, sdiff] at l1 l2
  exact ⟨by rw [h]; exact l1, l2⟩
theorem sdiff_nil (x : List Str) : sdiff x [] = (x, []) := by
  cases x with
  | nil => rw [sdiff]
  | cons e xs => rw [sdiff]
theorem Left.endY {x y : List Str} {i j : Nat} {ms us : List Str} (l : Left x y i j ms us) (h : y.drop j = []) : Last x y i j ms us := by
  obtain ⟨l1, l2⟩ := l
  rw [h, sdiff_nil] at l1 l2
  exact ⟨l1, by rw [h]; exact l2⟩
theorem drop_cons {x : List Str} {i : Nat} {e : Str} (h : x[i]? = some e) : x.drop i = e :: x.drop (i + 1) := by
  obtain ⟨hi, rfl⟩ := List.getElem?_eq_some_iff.mp h
  exact List.drop_eq_getElem_cons hi
theorem Left.less {x y : List Str} {i j n : Nat} {ms us : List Str} {e a : Str} (l : Left x y i j ms us) (he : x[i]? = some e) (ha : y[j]? = some a) (hb : below e a = true) (hn : x.drop n = (x.drop (i + 1)).dropWhile (· == e)) : Left x y n j (ms ++ [e]) us := by
  obtain ⟨l1, l2⟩ := l
  rw [drop_cons he, drop_cons ha, sdiff, if_pos hb] at l1 l2
  dsimp only at l1 l2
  rw [← hn, ← drop_cons ha] at l1 l2
  exact ⟨by rw [List.append_assoc]; exact l1, l2⟩
theorem Left.more {x y : List Str} {i j n : Nat} {ms us : List Str} {e a : Str} (l : Left x y i j ms us) (he : x[i]? = some e) (ha : y[j]? = some a) (hb : below e a = false) (hb' : below a e = true) (hn : y.drop n = (y.drop (j + 1)).dropWhile (· == a)) : Left x y i n ms (us ++ [a]) := by
  obtain ⟨l1, l2⟩ := l
  rw [drop_cons he, drop_cons ha, sdiff, if_neg (by rw [hb]; decide), if_pos hb'] at l1 l2
  dsimp only at l1 l2
  rw [← hn, ← drop_cons he] at l1 l2
  exact ⟨l1, by rw [List.append_assoc]; exact l2⟩
theorem Left.same {x y : List Str} {i j n k : Nat} {ms us : List Str} {e a : Str} (l : Left x y i j ms us) (he : x[i]? = some e) (ha : y[j]? = some a) (hb : below e a = false) (hb' : below a e = false) (hn : x.drop n = (x.drop (i + 1)).dropWhile (· == e)) (hk : y.drop k = (y.drop (j + 1)).dropWhile (· == a)) : Left x y n k ms us := by
  obtain ⟨l1, l2⟩ := l
  rw [drop_cons he, drop_cons ha, sdiff, if_neg (by rw [hb]; decide), if_neg (by rw [hb']; decide)] at l1 l2
  rw [← hn, ← hk] at l1 l2
  exact ⟨l1, l2⟩
section
variable {K : DC} {w : World} {A : Around} {h : Heap}
/-- the outer loop -/
theorem loopK (V : DV K) (hfr : A.frames = some (K.env :: K.outer)) {kk : Nat} {p pos : Pos} {body : List Stmt} (d0 : DS K 0 0 none none [] [] h)
    (turn : ∀ i j eo ao ms us h, DS K i j eo ao ms us h → i ≤ K.x.length → j ≤ K.y.length → Left K.x K.y i j ms us →
      Tri (model PG w) A (execs body K.env) (fun f h' => (f = .next ∧ ∃ i' j' eo ao ms us, DS K i' j' eo ao ms us h' ∧ i' ≤ K.x.length ∧ j' ≤ K.y.length ∧ (K.x.length - i') + (K.y.length - j') < (K.x.length - i) + (K.y.length - j) ∧ Left K.x K.y i' j' ms us) ∨
        (f = .brk ∧ ∃ i j eo ao, DS K i j eo ao (sdiff K.x K.y).1 (sdiff K.x K.y).2 h')) h) :
    Tri (model PG w) A (exec (.While (.Constant (.bool true) kk p) body [] pos) K.env) (fun f h' => f = .next ∧ ∃ i j eo ao, DS K i j eo ao (sdiff K.x K.y).1 (sdiff K.x K.y).2 h') h := by
  have WF := V.world fun _ _ _ _ _ _ => False
  have noF : ∀ ev h', Up K.hB K.L false (fun h => ∃ i j eo ao ms us, DS K i j eo ao ms us h ∧ False) ev h' → False := fun ev h' ⟨_, _, _, _, _, _, _, _, _, _, _, _, f⟩ => f
  refine TriE.of ((TriE.whl (c := false) WF hfr (fun n h => ∃ i j eo ao ms us, DS K i j eo ao ms us h ∧ i ≤ K.x.length ∧ j ≤ K.y.length ∧ n = (K.x.length - i) + (K.y.length - j) ∧ Left K.x K.y i j ms us)
    (P := fun h => ∃ i j eo ao, DS K i j eo ao (sdiff K.x K.y).1 (sdiff K.x K.y).2 h) ?_ (K.x.length + K.y.length) ⟨0, 0, none, none, [], [], d0, Nat.zero_le _, Nat.zero_le _, rfl, rfl, rfl⟩).mono (fun f h' q => q) noF)
  rintro n g ⟨i, j, eo, ao, ms, us, d, hi, hj, rfl, hL⟩
  refine Tri.e (Tri.whileTrue ?_)
  rw [if_pos rfl]
  refine Tri.e ((turn i j eo ao ms us g d hi hj hL).mono fun f h' q => ?_)
  rcases q with ⟨rfl, i', j', eo', ao', ms', us', d', a, b, c, e⟩ | ⟨rfl, q⟩
  · exact .inl ⟨rfl, _, c, i', j', eo', ao', ms', us', d', a, b, rfl, e⟩
  · exact .inr ⟨rfl, q⟩
end
end Mine
end

section
open PySem PySem.W PyProof.Rows PySem.Calls PySem.SeqAt
set_option maxRecDepth 100000
set_option maxHeartbeats 400000
set_option linter.unusedVariables false
set_option linter.unusedSimpArgs false
namespace Mine
section
variable {prog : Program} {w : World} {A : Around} {env : Env} {h : Heap}
theorem Tri.argsStr {x : Str} {k : Nat} {p pos : Pos} {rest : List Expr} {P : List Value → Heap → Prop} (a : ∀ t, Tri (model prog w) A (spliced (backTo pos (starEach rest env))) (fun vs h₂ => P (.str x t :: vs) h₂) h) :
    Tri (model prog w) A (spliced (backTo pos (starEach (.Constant (.str x) k p :: rest) env))) P h := by
  refine Tri.args_cons (PX.const_str.here.mono fun u g q => ?_) rfl
  obtain ⟨⟨t, rfl⟩, rfl⟩ := q
  exact a t
theorem Tri.pairK {x : Str} {b : List UInt8} {k1 k2 k3 : Nat} {p1 p2 p3 : Pos} (hse : starEach [.Constant (.str x) k1 p1, .Constant (.bytes b) k2 p2] env = (false, eval (.Constant (.str x) k1 p1) env) :: starEach [.Constant (.bytes b) k2 p2] env := by rfl)
    (hse2 : starEach [.Constant (.bytes b) k2 p2] env = (false, eval (.Constant (.bytes b) k2 p2) env) :: starEach [] env := by rfl) :
    Tri (model prog w) A (eval (.Tuple [.Constant (.str x) k1 p1, .Constant (.bytes b) k2 p2] k3 p3) env) (fun v h' => Keeps h h' ∧ ∀ G, Live G h → rFile.r G h' v (x, b.toArray)) h := by
  refine Tri.tuple (Tri.args_cons (PX.const_str.here.mono fun u g q => ?_) hse)
  obtain ⟨⟨t, rfl⟩, rfl⟩ := q
  refine Tri.args_cons (PX.const_bytes.here.mono fun u g q => ?_) hse2
  obtain ⟨⟨t2, rfl⟩, rfl⟩ := q
  refine Tri.args_nil (Tri.newTuple fun T g hT k lT => ⟨k, fun G hG => ⟨T, _, _, rfl, fresh_of hG hT, lT, ⟨t, rfl⟩, ⟨t2, rfl⟩⟩⟩)
theorem TextsAre.cons' {t : Tok} {x : Str} {vs : List Value} {l : List Str} (h : ∀ (i : Nat) u s, vs[i]? = some u → l[i]? = some s → isStr s u) : ∀ (i : Nat) u s, (Value.str x t :: vs)[i]? = some u → (x :: l)[i]? = some s → isStr s u := by
  intro i u s p q
  cases i with
  | zero => simp at p q; subst p; subst q; exact ⟨t, rfl⟩
  | succ i => exact h i u s (by simpa using p) (by simpa using q)
theorem Tri.strs {pos : Pos} : ∀ (l : List (Str × Nat × Pos)) {P : List Value → Heap → Prop}, (∀ vs, vs.length = l.length → (∀ (i : Nat) u s, vs[i]? = some u → (l.map (·.1))[i]? = some s → isStr s u) → P vs h) → Tri (model prog w) A (spliced (backTo pos (starEach (l.map fun z => .Constant (.str z.1) z.2.1 z.2.2) env))) P h
  | [], P, a => Tri.args_nil (a [] rfl fun i u s p => by simp at p)
  | z :: l, P, a => Tri.argsStr fun t => Tri.strs l fun vs e r => a (.str z.1 t :: vs) (by simp [e]) (TextsAre.cons' r)
noncomputable def strOf : Expr → Str × Nat × Pos
  | .Constant (.str x) k p => (x, k, p)
  | _ => (⟨#[]⟩, 0, ⟨0, 0, 0, 0⟩)
/-- a display of texts -/
theorem Tri.textsOf {elts : List Expr} {p : Pos} (hE : elts = (elts.map strOf).map fun z => .Constant (.str z.1) z.2.1 z.2.2) (hsz : elts.length ≤ 1000) :
    Tri (model prog w) A (eval (.List elts p) env) (fun v h' => Keeps h h' ∧ ∃ pl vs, v = .ref pl ∧ h.get? pl = none ∧ h'.IsList pl vs ∧ vs.size = elts.length ∧ ∀ (i : Nat) u s, vs[i]? = some u → ((elts.map strOf).map (·.1))[i]? = some s → isStr s u) h := by
  refine Tri.list ?_
  have key : Tri (model prog w) A (spliced (backTo p (starEach ((elts.map strOf).map fun z => .Constant (.str z.1) z.2.1 z.2.2) env))) (fun vs h₁ => Tri (model prog w) A (PySem.newList vs) (fun v h' => Keeps h h' ∧ ∃ pl vs, v = .ref pl ∧ h.get? pl = none ∧ h'.IsList pl vs ∧ vs.size = elts.length ∧ ∀ (i : Nat) u s, vs[i]? = some u → ((elts.map strOf).map (·.1))[i]? = some s → isStr s u) h₁) h := by
    refine Tri.strs (elts.map strOf) fun vs e r => ?_
    rw [List.length_map] at e
    exact Tri.newList (fun pl h₂ hpl k₂ lpl => ⟨k₂, pl, _, rfl, hpl, lpl, by simpa using e, fun i u s p q => r i u s (by simpa using p) q⟩) (by rw [e, sizeLine_eq]; omega)
  rwa [← hE] at key
/-- the display of a file -/
noncomputable def FileE (prog : Program) (w : World) (A : Around) (env : Env) (e : Expr) (f : File) : Prop := (∀ rest, starEach (e :: rest) env = (false, eval e env) :: starEach rest env) ∧ ∀ h, Tri (model prog w) A (eval e env) (fun v h' => Keeps h h' ∧ ∀ G, Live G h → rFile.r G h' v f) h
theorem FileE.mk {x : Str} {b : List UInt8} {k1 k2 k3 : Nat} {p1 p2 p3 : Pos} : FileE prog w A env (.Tuple [.Constant (.str x) k1 p1, .Constant (.bytes b) k2 p2] k3 p3) (x, b.toArray) := ⟨fun _ => rfl, fun h => Tri.pairK⟩
/-- two files in a list -/
noncomputable def TwoE (prog : Program) (w : World) (A : Around) (env : Env) (e : Expr) (l : List File) : Prop := (∀ rest, starEach (e :: rest) env = (false, eval e env) :: starEach rest env) ∧ ∀ h, Tri (model prog w) A (eval e env)
  (fun v h' => Keeps h h' ∧ ∃ la ys, v = .ref la ∧ h.get? la = none ∧ h'.PlainList la ys ∧ ys.size = l.length ∧ ∀ G, Live G h → ∀ (j : Nat) u z, ys[j]? = some u → l[j]? = some z → rFile.r (la :: G) h' u z) h
theorem TwoE.mk {e1 e2 : Expr} {p : Pos} {f1 f2 : File} (x : FileE prog w A env e1 f1) (y : FileE prog w A env e2 f2) : TwoE prog w A env (.List [e1, e2] p) [f1, f2] := ⟨fun _ => rfl, fun h => by
  refine Tri.list ?_
  refine Tri.args_cons ((x.2 h).mono fun u1 g1 q1 => ?_) (x.1 _)
  obtain ⟨k1, r1⟩ := q1
  refine Tri.args_cons ((y.2 g1).mono fun u2 g2 q2 => ?_) (y.1 _)
  obtain ⟨k2, r2⟩ := q2
  refine Tri.args_nil ?_
  refine Tri.newListP (fun la g3 hla k3 lla => ⟨(k1.trans k2).trans k3, la, _, rfl, k1.none (k2.none hla), lla, by simp, fun G hG j u z p q => ?_⟩) (by rw [sizeLine_eq]; simp only [List.length_cons, List.length_nil]; omega)
  have a1 := rFile.kp' (rFile.fresh (rFile.kp' (r1 G hG) k2) hla) k3
  have a2 := rFile.kp' (rFile.fresh (r2 G (hG.keeps k1)) hla) k3
  match j with
  | 0 => simp at p q; subst p; subst q; exact a1
  | 1 => simp at p q; subst p; subst q; exact a2
  | j + 2 => simp at p⟩
/-- two lists of two files -/
theorem Tri.parc {e1 e2 : Expr} {p : Pos} {l1 l2 : List File} (x : TwoE prog w A env e1 l1) (y : TwoE prog w A env e2 l2) :
    Tri (model prog w) A (eval (.List [e1, e2] p) env)
      (fun v h' => Keeps h h' ∧ ∃ pa la lb ys zs, v = .ref pa ∧ h.get? la = none ∧ h.get? lb = none ∧ h.get? pa = none ∧ la ≠ lb ∧ la ≠ pa ∧ lb ≠ pa ∧ h'.IsList pa #[.ref la, .ref lb] ∧ h'.PlainList la ys ∧ h'.PlainList lb zs ∧ ys.size = l1.length ∧ zs.size = l2.length ∧
        (∀ G, Live G h → ∀ (j : Nat) u z, ys[j]? = some u → l1[j]? = some z → rFile.r (lb :: la :: G) h' u z) ∧
        (∀ G, Live G h → ∀ (j : Nat) u z, zs[j]? = some u → l2[j]? = some z → rFile.r (lb :: la :: G) h' u z)) h := by
  refine Tri.list ?_
  refine Tri.args_cons ((x.2 h).mono fun u1 g1 q1 => ?_) (x.1 _)
  obtain ⟨k1, la, ys, rfl, hla, lla, sy, ry⟩ := q1
  refine Tri.args_cons ((y.2 g1).mono fun u2 g2 q2 => ?_) (y.1 _)
  obtain ⟨k2, lb, zs, rfl, hlb, llb, sz, rz⟩ := q2
  refine Tri.args_nil ?_
  obtain ⟨ny, ly⟩ := id lla
  obtain ⟨nz, lz⟩ := id llb
  have ly2 := k2 _ _ ly
  have nab : la ≠ lb := fun q => by rw [← q, ly] at hlb; cases hlb
  refine Tri.newList (fun pa g3 hpa k3 lpa => ⟨(k1.trans k2).trans k3, pa, la, lb, ys, zs, rfl, hla, k1.none hlb, k1.none (k2.none hpa), nab, fun q => by rw [q, hpa] at ly2; (cases ly2), fun q => by rw [q, hpa] at lz; (cases lz), lpa, lla.at fun o e => k3 _ _ (k2 _ _ e), llb.at fun o e => k3 _ _ e, sy, sz, fun G hG j u z p q => ?_, fun G hG j u z p q => ?_⟩) (by rw [sizeLine_eq]; simp only [List.length_cons, List.length_nil]; omega)
  · exact rFile.kp' (rFile.kp' (rFile.fresh (ry G hG j u z p q) hlb) k2) k3
  · refine rFile.kp' (rz (la :: G) (fun b hb => ?_) j u z p q) k3
    rcases List.mem_cons.mp hb with rfl | hb
    · exact ⟨_, ly⟩
    · exact hG.keeps k1 b hb
/-- e.append(x) -/
theorem Tri.appendE {obj : Expr} {p pos pos2 : Pos} {e : Expr} {D : Addr} {ys : Array Value} {P : Flow → Heap → Prop} (ho : PX (model prog w) A env obj (· = .ref D) h) (hd : h.PlainList D ys) (hsz : ys.size ≤ 1000)
    (he : Tri (model prog w) A (eval e env) (fun v h₁ => Keeps h h₁ ∧ ∀ h₂, h₂.PlainList D (ys.push v) → Heap.SameBut D h₁ h₂ → P .next h₂) h)
    (hse : starEach (e :: []) env = (false, eval e env) :: starEach [] env := by rfl) {pl : Sem Bool}
    (hc : eval (.Call (.Attribute obj (Str.ofString "append") p) [e] [] pos) env = (do
      let ov ← eval obj env
      standAt p.atName
      let (f, first) ← holding [ov] (getMethod ov (Str.ofString "append") pl)
      callWith pos f first (backTo pos (starEach [e] env)) []) := by rfl)
    (hi : interactive env = false := by rfl) (hs : swapsWith (.Call (.Attribute obj (Str.ofString "append") p) [e] [] pos) none pos2.line env = Pure.pure false := by rfl) : Tri (model prog w) A (exec (.Expr (.Call (.Attribute obj (Str.ofString "append") p) [e] [] pos) pos2) env) P h := by
  refine Tri.exprNone ?_ hi hs
  intro s Q E es ht hQ
  refine MethodCall_ (pl := pl) (ho.here.use es ht fun v h₁ tk₁ t₁ hv' => ?_) hc
  obtain ⟨rfl, rfl⟩ := hv'
  obtain ⟨n, hd'⟩ := id hd
  refine getMethod_list_append hd' rfl rfl ?_
  refine callWith_method1 (PyProof.Rows.args_cons (he.use rfl t₁ fun v h₂ tk₂ t₂ q => PyProof.Rows.args_nil ?_) hse) hse
  show wpAny _ _ (call (.builtin "list.append") [.ref D, v]) _ _ _
  refine wpAny_list_append_plain (hd.at fun o e => q.1 _ _ e) (fun h₃ hp sb => ?_) (by rw [sizeLine_eq]; omega)
  exact hQ .none h₃ tk₂ t₂ ⟨rfl, q.2 h₃ hp sb⟩
end
end Mine
end

section
open PySem PySem.W PyProof.Rows PySem.Calls PySem.SeqAt
set_option maxRecDepth 100000
set_option maxHeartbeats 8000000
set_option linter.unusedVariables false
set_option linter.unusedSimpArgs false
namespace Mine
section
variable {prog : Program} {w : World} {A : Around} {env : Env} {h : Heap} {G : List Addr} {P : Value → Heap → Prop}
theorem Tri.itemR {α : Type} {R : Rel α} {l r : Expr} {pos : Pos} {v : Value} {xs : List α} {i : Int} {x : α} (hl : PX (model prog w) A env l (· = v) h) (hv : (rLst R).r G h v xs) (hr : PX (model prog w) A env r (isInt i) h) (h0 : 0 ≤ i) (h1 : i < 2 ^ 63) (hi : xs[i.toNat]? = some x)
    (k : ∀ u, R.r G h u x → P u h)
    (hs : ∀ a i t, subscripted r false (.ref a) (.int i t) = operate [.ref a, .int i t] (getItem (.ref a) (.int i t)) := by intros; with_unfolding_all rfl) :
    Tri (model prog w) A (eval (.Subscript l r pos) env) P h := by
  obtain ⟨u, hu, px⟩ := PX.itemR (pos := pos) hl hv hr h0 h1 hi hs
  exact px.here.mono fun v h' q => by obtain ⟨rfl, rfl⟩ := q; exact k _ hu
theorem Tri.item2 {α : Type} {R : Rel α} {l r r2 : Expr} {pos pos2 : Pos} {v : Value} {xss : List (List α)} {xs : List α} {i j : Int} {x : α} (hl : PX (model prog w) A env l (· = v) h) (hv : (rLst (rLst R)).r G h v xss) (hr : PX (model prog w) A env r (isInt i) h) (h0 : 0 ≤ i) (h1 : i < 2 ^ 63) (hi : xss[i.toNat]? = some xs)
    (hr2 : PX (model prog w) A env r2 (isInt j) h) (h2 : 0 ≤ j) (h3 : j < 2 ^ 63) (hj : xs[j.toNat]? = some x) (k : ∀ u, R.r G h u x → P u h)
    (hs : ∀ a i t, subscripted r false (.ref a) (.int i t) = operate [.ref a, .int i t] (getItem (.ref a) (.int i t)) := by intros; with_unfolding_all rfl)
    (hs2 : ∀ a i t, subscripted r2 false (.ref a) (.int i t) = operate [.ref a, .int i t] (getItem (.ref a) (.int i t)) := by intros; with_unfolding_all rfl) :
    Tri (model prog w) A (eval (.Subscript (.Subscript l r pos) r2 pos2) env) P h := by
  obtain ⟨u, hu, px⟩ := PX.itemR (pos := pos) hl hv hr h0 h1 hi hs
  exact Tri.itemR px hu hr2 h2 h3 hj k hs2
theorem Tri.lenOf {α : Type} {R : Rel α} {e : Expr} {x : Str} {p pos : Pos} {xs : List α} (f : PX (model prog w) A env (.Name x p) (· = .builtin "len") h) (a : Tri (model prog w) A (eval e env) (fun v h₁ => h₁ = h ∧ (rLst R).r G h v xs) h) (hn : xs.length < 2 ^ 62)
    (hs : starEach [e] env = [(false, eval e env)] := by rfl) : Tri (model prog w) A (eval (.Call (.Name x p) [e] [] pos) env) (fun u h' => Keeps h h' ∧ isInt xs.length u) h := by
  refine Tri.callB1 f (a.mono fun u h₁ q => ?_) hs
  obtain ⟨rfl, p, vs, rfl, _, hl, hsz, _⟩ := q
  refine (Tri.quick (Q' := isInt xs.length) fun s Q E es ht hQ => call_len_list (es ▸ hl) (by omega) ?_).mono fun u h' q => ⟨q.2 ▸ Keeps.refl _, q.1⟩
  rw [hsz]
  exact hQ _ _ (Nat.succ_pos _) ⟨_, rfl⟩
end
section
variable {prog : Program} {w : World} {A : Around} {env : Env} {h : Heap} {G : List Addr}
theorem go_pair {elts : List Expr} {k : Nat} {p : Pos} {I a : Addr} {i : Nat} (hi : h.IsListIter I a i) (v : Value) : Tri (model prog w) A (letOwnedTupleGo (.Tuple elts k p) (.ref I) v) (fun _ h'' => h'' = h) h := by
  cases v with
  | ref T => exact go_tuple hi
  | _ => exact Tri.pure rfl
end
end Mine
end

section
open PySem PySem.W PyProof.Rows PySem.Calls PySem.SeqAt
set_option maxRecDepth 100000
set_option maxHeartbeats 400000
set_option linter.unusedVariables false
set_option linter.unusedSimpArgs false
namespace Mine
section
variable {prog : Program} {w : World} {A : Around} {env : Env} {h : Heap} {G : List Addr}
/-- a block along a text's signs -/
theorem comp_str {α : Type} (R : Rel α) (f : Nat → α) (y : Str) {elt e : Expr} {x : Str} {px : Pos} {scope : Scope} {pos : Pos} {cl : List (Str × Addr)}
    (hh : A.handled = none) (he : PX (model prog w) A env e (isStr y) h) (hn : y.cps.size ≤ 1000) (hG : Live G h)
    (turn : ∀ N C u c h₁ m, (∀ b ∈ N, h.get? b = none) → Keeps h h₁ → Live (N ++ G) h₁ → C ∈ N → h₁.Ns C m → c ∈ y.cps.toList → isStr ⟨#[c]⟩ u →
      Tri (model prog w) A (assign (.Name x px) (compEnvC scope cl C env) u) (fun _ h₂ => KM [C] h₁ h₂ ∧ (∃ m, h₂.Ns C m) ∧ Tri (model prog w) A (eval elt (compEnvC scope cl C env)) (fun y h₃ => Keeps h₂ h₃ ∧ R.r (N ++ G) h₃ y (f c)) h₂) h₁)
    (hclos : closureFor scope env = Pure.pure cl) (oc : OneCell scope none) (hkind : scope.kind = .function) (hnames : ∀ y ∈ scope.names, y.2 = .local → scope.names.lookup y.1 = some .local)
    (hs : ∀ x, foldedSetIterable e env x = Pure.pure x) :
    Tri (model prog w) A (eval (.ListComp elt [⟨.Name x px, e, [], 0⟩] scope pos) env) (fun v h' => Keeps h h' ∧ (rLst R).r G h' v (y.cps.toList.map f)) h := by
  have src := (src_str (target := .Name x px) hh he (fun I v h' _ => go_name)).mono fun x' h₁ q' => q'.mono fun it h₂ q' => (let ⟨I, e, s⟩ := q'; ⟨I, e, s.src (x := x) (px := px)⟩ : ∃ I, it = .ref I ∧ Src prog w A (.Name x px) h y.cps.size (fun i v => ∃ c, y.cps[i]? = some c ∧ isStr ⟨#[c]⟩ v) I h₂)
  have hl : (y.cps.toList.map f).length = y.cps.size := by simp
  rw [← hl] at src
  refine comp_map R (y.cps.toList.map f) (cq := none) hclos oc hkind hnames hG (by rw [hl, sizeLine_eq]; omega) src ?_ hs
  intro N D C cs i u a h₁ hcs hsub hCcs hN k₁ lv fr hla hPv
  obtain rfl : cs = [] := hcs
  obtain ⟨c, hc, hu⟩ := hPv
  have hc' : y.cps.toList[i]? = some c := by simpa using hc
  rw [List.getElem?_map, hc'] at hla
  cases hla
  obtain ⟨m, hm⟩ := fr.1
  refine (turn N C u c h₁ m hN k₁ lv (hsub C (.tail _ (.head _))) hm (List.mem_of_getElem? hc') hu).mono fun _ h₂ q => ?_
  exact ⟨q.1, ⟨q.2.1, fun c hc => by cases hc⟩, q.2.2⟩
end
end Mine
end

section
open PySem PySem.W PyProof.Rows PySem.Calls PySem.SeqAt
set_option maxRecDepth 100000
set_option maxHeartbeats 400000
set_option linter.unusedVariables false
set_option linter.unusedSimpArgs false
namespace Mine
noncomputable def chosen (i : Int) : List Int := if i = 0 then [0] else if i = 1 then [1] else [0, 1]
noncomputable def stepP (f : File) (P : List File × List File) (k : Int) : List File × List File := if k = 0 then (addTo f P.1, P.2) else (P.1, addTo f P.2)
theorem stepP_all (P : List File × List File) (x : Int) : (chosen (x.fmod 3)).foldl (stepP (fileOf x)) P = turnP P x := by
  rw [Int.fmod_eq_emod_of_nonneg _ (by decide)]
  have h : x % 3 = 0 ∨ x % 3 = 1 ∨ x % 3 = 2 := by omega
  unfold turnP
  rcases h with h | h | h <;> simp [h, chosen, stepP]
theorem chosen_mem {i k : Int} (h : k ∈ chosen i) : k = 0 ∨ k = 1 := by
  unfold chosen at h
  split at h
  · exact .inl (by simpa using h)
  · split at h
    · exact .inr (by simpa using h)
    · simpa using h
theorem chosen_len (i : Int) : (chosen i).length ≤ 2 := by unfold chosen; split <;> (try split) <;> simp
section
variable {prog : Program} {w : World} {A : Around} {env : Env} {h : Heap}
noncomputable def IntsE (prog : Program) (w : World) (A : Around) (env : Env) (e : Expr) (l : List Int) : Prop := (∀ rest, starEach (e :: rest) env = (false, eval e env) :: starEach rest env) ∧ ∀ h, Tri (model prog w) A (eval e env)
  (fun v h' => Keeps h h' ∧ ∃ a vs, v = .ref a ∧ h.get? a = none ∧ h'.IsList a vs ∧ IntsAre vs.toList l) h
theorem IntsE.one {i : Int} {k : Nat} {p q : Pos} : IntsE prog w A env (.List [.Constant (.int i) k p] q) [i] := ⟨fun _ => rfl, fun h => by
  refine Tri.list ?_
  refine Tri.args_cons (PX.const_int.here.mono fun u g q => ?_) rfl
  obtain ⟨⟨t, rfl⟩, rfl⟩ := q
  refine Tri.args_nil ?_
  exact Tri.newList (fun a g ha k l => ⟨k, a, _, rfl, ha, l, .cons _ _ .nil⟩)⟩
theorem IntsE.both {i j : Int} {k k' : Nat} {p p' q : Pos} : IntsE prog w A env (.List [.Constant (.int i) k p, .Constant (.int j) k' p'] q) [i, j] := ⟨fun _ => rfl, fun h => by
  refine Tri.list ?_
  refine Tri.args_cons (PX.const_int.here.mono fun u g q => ?_) rfl
  obtain ⟨⟨t, rfl⟩, rfl⟩ := q
  refine Tri.args_cons (PX.const_int.here.mono fun u g q => ?_) rfl
  obtain ⟨⟨t2, rfl⟩, rfl⟩ := q
  refine Tri.args_nil ?_
  exact Tri.newList (fun a g ha k l => ⟨k, a, _, rfl, ha, l, .cons _ _ (.cons _ _ .nil)⟩)⟩
theorem Tri.choice {e1 e2 e3 e : Expr} {p pos : Pos} {i : Int} (x1 : IntsE prog w A env e1 [0]) (x2 : IntsE prog w A env e2 [1]) (x3 : IntsE prog w A env e3 [0, 1]) (he : ∀ g, Keeps h g → PX (model prog w) A env e (isInt i) g) (h0 : 0 ≤ i) (h3 : i < 3)
    (hs : ∀ a i t, subscripted e false (.ref a) (.int i t) = operate [.ref a, .int i t] (getItem (.ref a) (.int i t)) := by intros; with_unfolding_all rfl) :
    Tri (model prog w) A (eval (.Subscript (.List [e1, e2, e3] p) e pos) env) (fun v h' => Keeps h h' ∧ ∃ a vs, v = .ref a ∧ h.get? a = none ∧ h'.IsList a vs ∧ IntsAre vs.toList (chosen i)) h := by
  refine Tri.sub (Tri.list ?_)
  refine Tri.args_cons ((x1.2 h).mono fun u1 g1 q1 => ?_) (x1.1 _)
  obtain ⟨k1, a1, v1, rfl, n1, l1, i1⟩ := q1
  refine Tri.args_cons ((x2.2 g1).mono fun u2 g2 q2 => ?_) (x2.1 _)
  obtain ⟨k2, a2, v2, rfl, n2, l2, i2⟩ := q2
  refine Tri.args_cons ((x3.2 g2).mono fun u3 g3 q3 => ?_) (x3.1 _)
  obtain ⟨k3, a3, v3, rfl, n3, l3, i3⟩ := q3
  refine Tri.args_nil ?_
  refine Tri.newList (fun a g4 ha k4 l4 => ?_) (by rw [sizeLine_eq]; simp only [List.length_cons, List.length_nil]; omega)
  have kk := ((k1.trans k2).trans k3).trans k4
  refine (he g4 kk).here.mono fun v5 g5 q5 => ?_
  obtain ⟨⟨t, rfl⟩, rfl⟩ := q5
  have fin : ∀ b vs, [Value.ref a1, .ref a2, .ref a3].toArray[i.toNat]? = some (.ref b) → h.get? b = none → g5.IsList b vs → IntsAre vs.toList (chosen i) →
      Tri (model prog w) A (subscriptTail (.List [e1, e2, e3] p) e (.ref a) (.int i t)) (fun v h' => Keeps h h' ∧ ∃ a vs, v = .ref a ∧ h.get? a = none ∧ h'.IsList a vs ∧ IntsAre vs.toList (chosen i)) g5 := fun b vs hb hn hl hi => by
    refine (Tri.quick (Q' := fun v => v = .ref b) fun s Q E es ht hQ => ?_).mono fun v g q => ?_
    · have l4' : s.heap.IsList a [Value.ref a1, .ref a2, .ref a3].toArray := by rw [es]; exact l4
      exact sub_tail l4'.typeIs slot_list_getitem.lookup (wpAny_getItem_list l4' h0 (by omega) hb (hQ _ _ ht rfl)) (hs _ _ _)
    · obtain ⟨rfl, rfl⟩ := q
      exact ⟨kk, b, vs, rfl, hn, hl, hi⟩
  have hc : i = 0 ∨ i = 1 ∨ i = 2 := by omega
  rcases hc with rfl | rfl | rfl
  · exact fin a1 v1 rfl n1 (k4.list (k3.list (k2.list l1))) i1
  · exact fin a2 v2 rfl (k1.none n2) (k4.list (k3.list l2)) i2
  · exact fin a3 v3 rfl (k1.none (k2.none n3)) (k4.list l3) i3
end
end Mine
end

section
open PySem PySem.W PyProof.Rows PySem.Calls PySem.SeqAt
set_option maxRecDepth 100000
set_option maxHeartbeats 400000
set_option linter.unusedVariables false
set_option linter.unusedSimpArgs false
namespace Mine
theorem eqr_file' : EqR rFile 1 := eqr_tup2 eqr_str eqr_bytes
section
variable {prog : Program} {w : World} {A : Around} {env : Env} {K : PC} {n : Nat} {g : Heap} {m : Str → Option Value}
/-- if (name, octets) not in parcels[which]: parcels[which].append((name, octets)) -/
theorem addOne {P : List File × List File} {f : File} {l : List File} {D : Addr} {k : Nat} {tn to tw : Tok} {p1 p2 p3 p4 p5 p6 p7 p8 q1 q2 q3 q4 q5 q6 q7 q8 q9 : Pos} {k1 k2 : Nat} (Pof : List File → List File × List File)
    (hu : A.units + 2 < cLine) (el : env.locals = K.L) (hk : env.scope.kind = .function) (kn : env.kindOf (S "name") = some .local) (ko : env.kindOf (S "octets") = some .local) (kw : env.kindOf (S "which") = some .local) (kp : env.kindOf (S "parcels") = some .local) (hint : interactive env = false)
    (d : PS K P n g) (hm : g.Ns K.L m) (hn : m (S "name") = some (.str f.1 tn)) (ho : m (S "octets") = some (.bytes f.2 to)) (hp : m (S "parcels") = some (.ref K.pa)) (hw : m (S "which") = some (.int k tw))
    (hD : #[Value.ref K.la, .ref K.lb][k]? = some (.ref D)) (hk2 : k < 2) (DL : D ≠ K.L) (DM : D ∈ [K.la, K.lb]) (acc : PAcc K g D l) (hl : l.length ≤ 2 + n) (hn1 : n ≤ 100) (same : PS K (Pof l) (n + 1) g)
    (grow : ∀ ga gb l', PS K P n ga → Heap.SameBut D ga gb → PAcc K gb D l' → l'.length ≤ 2 + (n + 1) → PS K (Pof l') (n + 1) gb) {pl : Sem Bool}
    (hc : eval (.Call (.Attribute (.Subscript (.Name (S "parcels") q1) (.Name (S "which") q2) q3) (Str.ofString "append") q4) [.Tuple [.Name (S "name") q5, .Name (S "octets") q6] k2 q7] [] q8) env = (do
      let ov ← eval (.Subscript (.Name (S "parcels") q1) (.Name (S "which") q2) q3) env
      standAt q4.atName
      let (f, first) ← holding [ov] (getMethod ov (Str.ofString "append") pl)
      callWith q8 f first (backTo q8 (starEach [.Tuple [.Name (S "name") q5, .Name (S "octets") q6] k2 q7] env)) []))
    (hsw : swapsWith (.Call (.Attribute (.Subscript (.Name (S "parcels") q1) (.Name (S "which") q2) q3) (Str.ofString "append") q4) [.Tuple [.Name (S "name") q5, .Name (S "octets") q6] k2 q7] [] q8) none q9.line env = Pure.pure false) :
    Tri (model prog w) A (exec (.If (.Compare (.Tuple [.Name (S "name") p1, .Name (S "octets") p2] k1 p3) [.NotIn] [.Subscript (.Name (S "parcels") p4) (.Name (S "which") p5) p6] p7)
      [.Expr (.Call (.Attribute (.Subscript (.Name (S "parcels") q1) (.Name (S "which") q2) q3) (Str.ofString "append") q4) [.Tuple [.Name (S "name") q5, .Name (S "octets") q6] k2 q7] [] q8) q9] [] p8) env)
      (fun fl h' => fl = .next ∧ KM [K.L, K.la, K.lb] g h' ∧ PS K (Pof (addTo f l)) (n + 1) h' ∧ h'.Ns K.L m) g := by
  have nm : ∀ {p : Pos} {g'}, Keeps g g' → PX (model prog w) A env (.Name (S "name") p) (· = .str f.1 tn) g' := fun kk => PX.local (by rw [el]; exact hm.keeps kk) hn hk kn
  have oc : ∀ {p : Pos} {g'}, Keeps g g' → PX (model prog w) A env (.Name (S "octets") p) (· = .bytes f.2 to) g' := fun kk => PX.local (by rw [el]; exact hm.keeps kk) ho hk ko
  have it : ∀ {p p' p'' : Pos} {g'}, Keeps g g' → PX (model prog w) A env (.Subscript (.Name (S "parcels") p) (.Name (S "which") p') p'') (· = .ref D) g' := fun kk =>
    PX.item (PX.local (by rw [el]; exact hm.keeps kk) hp hk kp) (kk.list d.pa) ((PX.local (by rw [el]; exact hm.keeps kk) hw hk kw).mono fun v e => ⟨tw, e⟩) (by omega) (by omega) (by rw [Int.toNat_natCast]; exact hD) (fun _ _ _ => by rfl)
  have tup : ∀ {k : Nat} {p p' p'' : Pos} {g'}, Keeps g g' → Tri (model prog w) A (eval (.Tuple [.Name (S "name") p, .Name (S "octets") p'] k p'') env) (fun v h' => Keeps g' h' ∧ ∃ T, v = .ref T ∧ g'.get? T = none ∧ h'.IsTuple T #[.str f.1 tn, .bytes f.2 to]) g' := fun kk => by
    refine Tri.tuple (Tri.args_cons ((nm kk).here.mono fun v g1 q => ?_) rfl)
    obtain ⟨rfl, rfl⟩ := q
    refine Tri.args_cons ((oc kk).here.mono fun v g1 q => ?_) rfl
    obtain ⟨rfl, rfl⟩ := q
    refine Tri.args_nil ?_
    exact Tri.newTuple (fun T g2 hT k lT => ⟨k, T, rfl, hT, lT⟩)
  refine Tri.cond (Tri.cmpTrue ((tup (Keeps.refl _)).mono fun v1 g1 q1 => ?_) (by rfl))
  obtain ⟨kk1, T, rfl, hT, lT⟩ := q1
  refine (it kk1).here.mono fun v2 g2 q2 => ?_
  obtain ⟨rfl, rfl⟩ := q2
  obtain ⟨ys, hys, hsz, hr⟩ := acc.keeps kk1
  have hl' : rFiles.r [] g2 (.ref D) l := ⟨D, ys, rfl, List.not_mem_nil, hys.isList, hsz, fun j u x p q => rFile.anti (hr j u x p q [] (fun b hb => nomatch hb)) fun b hb => nomatch hb⟩
  classical
  refine (Tri.notIn (k := decide (f ∉ l)) eqr_file' hu (show rFile.r [] g2 (.ref T) f from ⟨T, _, _, rfl, List.not_mem_nil, lT, ⟨tn, rfl⟩, ⟨to, rfl⟩⟩) hl' decide_eq_true_iff).mono fun b g3 q3 => ?_
  obtain ⟨rfl, rfl⟩ := q3
  refine ⟨_, rfl, ?_⟩
  by_cases hf : f ∈ l
  · rw [decide_eq_false (by simpa using hf)]
    refine Tri.nil ⟨rfl, kk1.km, ?_, hm.keeps kk1⟩
    unfold addTo
    rw [if_pos hf]
    exact same.keeps kk1
  · rw [decide_eq_true hf]
    refine Tri.then (Tri.appendE (it kk1) hys (by omega) ((tup kk1).mono fun v4 g4 q4 => ?_) (hc := hc) (hi := hint) (hs := hsw))
    obtain ⟨kk4, T2, rfl, hT2, lT2⟩ := q4
    refine ⟨kk4, fun g5 hp5 s5 => ⟨rfl, ?_⟩⟩
    have d4 := (d.keeps kk1).keeps kk4
    have k45 : KM [D] g4 g5 := km_but s5 (.head _)
    have k05 : KM [K.L, K.la, K.lb] g g5 := ((kk1.trans kk4).km).trans (k45.more fun b hb => by rw [List.mem_singleton.mp hb]; exact .tail _ DM)
    refine Tri.nil ⟨rfl, k05, ?_, k45.ns ((hm.keeps kk1).keeps kk4) (single (Ne.symm DL))⟩
    unfold addTo
    rw [if_neg hf]
    have DMM : D ∈ K.M := by
      simp only [List.mem_cons, List.not_mem_nil, or_false] at DM
      rcases DM with rfl | rfl
      · exact K.la_mem
      · exact K.lb_mem
    have kM : ∀ G, ∀ b ∈ [D], b ∈ K.M ++ G := fun G b hb => by rw [List.mem_singleton.mp hb]; exact List.mem_append_left _ DMM
    refine grow g4 g5 _ d4 s5 ⟨_, hp5, by simp [hsz], fun j u x p q G hG => ?_⟩ (by simp; omega)
    by_cases hj : j < ys.size
    · rw [Array.getElem?_push_lt hj] at p
      rw [List.getElem?_append_left (by omega)] at q
      exact rFile.km (rFile.kp' (hr j u x (by rw [Array.getElem?_eq_getElem hj]; exact p) q G hG) kk4) k45 (kM G)
    · have hje : j = ys.size := by
        have := (Array.getElem?_eq_some_iff.mp p).1
        rw [Array.size_push] at this
        omega
      subst hje
      rw [hsz, List.getElem?_append_right (Nat.le_refl _)] at q
      simp at p q
      subst p; subst q
      have hT2M : T2 ∉ K.M ++ G := fun hq => by
        rcases List.mem_append.mp hq with hq | hq
        · obtain ⟨o, e⟩ := (d.keeps kk1).live _ hq
          rw [hT2] at e; cases e
        · obtain ⟨o, e⟩ := hG _ hq
          have := (d.keeps kk1).keep _ _ e
          rw [hT2] at this; cases this
      exact rFile.km (show rFile.r (K.M ++ G) g4 (.ref T2) f from ⟨T2, _, _, rfl, hT2M, lT2, ⟨tn, rfl⟩, ⟨to, rfl⟩⟩) k45 (kM G)
end
end Mine
end

section
open PySem PySem.W PyProof.Rows PySem.Calls
set_option maxRecDepth 100000
set_option maxHeartbeats 400000
namespace Mine
variable {P : Params}
theorem f35 : (KK P).lookup 35 = some (fnObj 3 Value.none Value.none "cpy313.xml.etree.ElementTree" 194 34) := rfl
theorem g35 : nsIn (KK P) mainGlobals (S "_escape_cdata") = some (some (.ref 35)) := by kernel_rfl
theorem f42 : (KK P).lookup 42 = some (fnObj 4 Value.none Value.none "cpy313.xml.etree.ElementTree" 194 41) := rfl
theorem g42 : nsIn (KK P) mainGlobals (S "_escape_attrib") = some (some (.ref 42)) := by kernel_rfl
theorem f50 : (KK P).lookup 50 = some (fnObj 7 Value.none Value.none "cpy313.base64" 217 49) := rfl
theorem g50 : nsIn (KK P) mainGlobals (S "_bytes_from_decode_data") = some (some (.ref 50)) := by kernel_rfl
theorem f70 : (KK P).lookup 70 = some (fnObj 10 Value.none Value.none "binascii" 227 69) := rfl
theorem g70 : nsIn (KK P) mainGlobals (S "_ascii_buffer") = some (some (.ref 70)) := by kernel_rfl
theorem f77 : (KK P).lookup 77 = some (fnObj 11 Value.none Value.none "binascii" 227 76) := rfl
theorem g77 : nsIn (KK P) mainGlobals (S "_buffer") = some (some (.ref 77)) := by kernel_rfl
theorem f84 : (KK P).lookup 84 = some (fnObj 12 Value.none Value.none "binascii" 227 83) := rfl
theorem g84 : nsIn (KK P) mainGlobals (S "_truth") = some (some (.ref 84)) := by kernel_rfl
theorem f91 : (KK P).lookup 91 = some (fnObj 14 Value.none Value.none "binascii" 227 90) := rfl
theorem g91 : nsIn (KK P) mainGlobals (S "_b64_value") = some (some (.ref 91)) := by kernel_rfl
theorem f99 : (KK P).lookup 99 = some (fnObj 15 Value.none (Value.ref 92) "binascii" 227 98) := rfl
theorem g99 : nsIn (KK P) mainGlobals (S "a2b_base64") = some (some (.ref 99)) := by kernel_rfl
theorem f107 : (KK P).lookup 107 = some (fnObj 16 Value.none (Value.ref 100) "binascii" 227 106) := rfl
theorem g107 : nsIn (KK P) mainGlobals (S "b2a_base64") = some (some (.ref 107)) := by kernel_rfl
theorem f115 : (KK P).lookup 115 = some (fnObj 18 (Value.ref 108) Value.none "cpy313.base64" 310 114) := rfl
theorem g115 : nsIn (KK P) mainGlobals (S "b64encode") = some (some (.ref 115)) := by kernel_rfl
theorem f123 : (KK P).lookup 123 = some (fnObj 19 (Value.ref 116) Value.none "cpy313.base64" 310 122) := rfl
theorem g123 : nsIn (KK P) mainGlobals (S "b64decode") = some (some (.ref 123)) := by kernel_rfl
theorem f130 : (KK P).lookup 130 = some (fnObj 21 Value.none Value.none "cpy313.unittest.util" 330 129) := rfl
theorem g130 : nsIn (KK P) mainGlobals (S "sorted_list_difference") = some (some (.ref 130)) := by kernel_rfl
theorem f135 : (KK P).lookup 135 = some (fnObj 23 Value.none Value.none "law_oy0102_01" 346 134) := rfl
theorem g135 : nsIn (KK P) mainGlobals (S "_law_parcels") = some (some (.ref 135)) := by kernel_rfl
theorem f142 : (KK P).lookup 142 = some (fnObj 24 Value.none Value.none "law_oy0102_01" 346 141) := rfl
theorem g142 : nsIn (KK P) mainGlobals (S "_law_row") = some (some (.ref 142)) := by kernel_rfl
theorem f149 : (KK P).lookup 149 = some (fnObj 25 Value.none Value.none "law_oy0102_01" 346 148) := rfl
theorem g149 : nsIn (KK P) mainGlobals (S "_law_plain") = some (some (.ref 149)) := by kernel_rfl
theorem f154 : (KK P).lookup 154 = some (fnObj 26 Value.none Value.none "law_oy0102_01" 346 153) := rfl
theorem g154 : nsIn (KK P) mainGlobals (S "_law_read") = some (some (.ref 154)) := by kernel_rfl
end Mine
end

section
open PySem PySem.W PyProof.Rows PySem.Calls PySem.SeqAt
set_option maxRecDepth 100000
set_option maxHeartbeats 400000
set_option linter.unusedVariables false
set_option linter.unusedSimpArgs false
namespace Mine
section
variable {prog : Program} {w : World} {A : Around} {env : Env} {h : Heap}
/-- the display of two texts, each a new object -/
noncomputable def PairE (prog : Program) (w : World) (A : Around) (env : Env) (e : Expr) (x y : Str) : Prop := (∀ rest, starEach (e :: rest) env = (false, eval e env) :: starEach rest env) ∧ ∀ h, Tri (model prog w) A (eval e env)
  (fun v h' => Keeps h h' ∧ ∃ T t u, v = .ref T ∧ h'.IsTuple T #[.str x t, .str y u] ∧ t ≠ 0 ∧ u ≠ 0 ∧ t ≠ u) h
theorem PairE.mk {x y : Str} {k1 k2 k3 : Nat} {p1 p2 p3 : Pos} : PairE prog w A env (.Tuple [.Constant (.str x) k1 p1, .Constant (.str y) k2 p2] k3 p3) x y := ⟨fun _ => rfl, fun h s Q E es ht hQ => by
  subst es
  refine Tuple_ (PyProof.Rows.args_cons (wpAny_Constant_str ?_) rfl)
  refine PyProof.Rows.args_cons (wpAny_Constant_str ?_) rfl
  refine PyProof.Rows.args_nil ?_
  refine (Tri.newTuple (vs := [.str x s.toks, .str y (s.toks + 1)]) (h := s.heap) (P := fun v h' => Keeps s.heap h' ∧ ∃ T t u, v = .ref T ∧ h'.IsTuple T #[.str x t, .str y u] ∧ t ≠ 0 ∧ u ≠ 0 ∧ t ≠ u) (fun T g hT k lT => ⟨k, T, _, _, rfl, lT, Nat.ne_of_gt ht, Nat.succ_ne_zero _, Nat.ne_of_lt (Nat.lt_succ_self _)⟩)).use rfl (Nat.succ_pos _) ?_
  exact fun a h' tk tk0 q => hQ a h' tk tk0 q⟩
end
end Mine
end

section
open PySem PySem.W PyProof.Rows PySem.Calls PySem.SeqAt
set_option maxRecDepth 100000
set_option maxHeartbeats 400000
set_option linter.unusedVariables false
set_option linter.unusedSimpArgs false
namespace Mine
/-- a list's items are pairs of texts -/
noncomputable def TupOk (g : Heap) (vs : List Value) (l : List (Str × Str)) : Prop := vs.length = l.length ∧ ∀ (j : Nat) v p, vs[j]? = some v → l[j]? = some p → ∃ T t u, v = .ref T ∧ g.IsTuple T #[.str p.1 t, .str p.2 u] ∧ t ≠ 0 ∧ u ≠ 0 ∧ t ≠ u
theorem TupOk.keeps {g g' : Heap} {vs : List Value} {l : List (Str × Str)} (x : TupOk g vs l) (k : Keeps g g') : TupOk g' vs l := ⟨x.1, fun j v p a b => by
  obtain ⟨T, t, u, e, hT, r⟩ := x.2 j v p a b
  exact ⟨T, t, u, e, hT.at fun o e => k _ _ e, r⟩⟩
section
variable {prog : Program} {w : World} {A : Around} {env : Env} {h : Heap}
inductive PairsE (prog : Program) (w : World) (A : Around) (env : Env) : List Expr → List (Str × Str) → Prop
  | nil : PairsE prog w A env [] []
  | cons {e es x y l} : PairE prog w A env e x y → PairsE prog w A env es l → PairsE prog w A env (e :: es) ((x, y) :: l)
theorem PairsE.splice {pos : Pos} {es : List Expr} {l : List (Str × Str)} (x : PairsE prog w A env es l) : ∀ {h : Heap} {P : List Value → Heap → Prop}, (∀ vs h', Keeps h h' → TupOk h' vs l → P vs h') → Tri (model prog w) A (spliced (backTo pos (starEach es env))) P h := by
  induction x with
  | nil => intro h P a; exact Tri.args_nil (a [] h (Keeps.refl _) ⟨rfl, fun j v p q => by simp at q⟩)
  | @cons e es x y l hx hr ih =>
    intro h P a
    refine Tri.args_cons ((hx.2 h).mono fun v h₁ q => ?_) (hx.1 _)
    obtain ⟨k, T, t, u, rfl, hT, ht⟩ := q
    refine ih fun vs h₂ k₂ ok => a _ h₂ (k.trans k₂) ⟨by simp [ok.1], fun j v p a b => ?_⟩
    cases j with
    | zero => simp at a b; subst a; subst b; exact ⟨T, t, u, rfl, hT.at fun o e => k₂ _ _ e, ht⟩
    | succ j => exact ok.2 j v p (by simpa using a) (by simpa using b)
theorem PairsE.list {p : Pos} {es : List Expr} {l : List (Str × Str)} (x : PairsE prog w A env es l) (hl : l.length ≤ 1000) : Tri (model prog w) A (eval (.List es p) env) (fun v h' => Keeps h h' ∧ ∃ a vs, v = .ref a ∧ h.get? a = none ∧ h'.IsList a vs ∧ TupOk h' vs.toList l) h := by
  refine Tri.list (x.splice fun vs h₁ k ok => ?_)
  exact Tri.newList (fun a h₂ ha k₂ lh => ⟨k.trans k₂, a, _, rfl, k.none ha, lh, by simpa using ok.keeps k₂⟩) (by rw [ok.1, sizeLine_eq]; omega)
end
end Mine
end

section
open PySem PySem.W PyProof.Rows PySem.Calls PySem.SeqAt
set_option maxRecDepth 100000
set_option maxHeartbeats 400000
set_option linter.unusedVariables false
set_option linter.unusedSimpArgs false
namespace Mine
/-- a triple that no unfolding sees through: for literal displays -/
structure TriI {α : Type} (M : Model) (A : Around) (t : Sem α) (P : α → Heap → Prop) (h : Heap) : Prop where
  out : Tri M A t P h
theorem triI_eq {α : Type} {M : Model} {A : Around} {t : Sem α} {P : α → Heap → Prop} {h : Heap} : TriI M A t P h = Tri M A t P h := propext ⟨fun x => x.out, fun x => ⟨x⟩⟩
theorem TriI.mono {α : Type} {M : Model} {A : Around} {t : Sem α} {P P' : α → Heap → Prop} {h : Heap} (x : TriI M A t P h) (k : ∀ a h', P a h' → P' a h') : TriI M A t P' h := ⟨x.out.mono k⟩
section
variable {prog : Program} {w : World} {A : Around} {env : Env} {h : Heap}
theorem parcI {e1 e2 : Expr} {p : Pos} {l1 l2 : List File} (x : TwoE prog w A env e1 l1) (y : TwoE prog w A env e2 l2) :
    TriI (model prog w) A (eval (.List [e1, e2] p) env)
      (fun v h' => Keeps h h' ∧ ∃ pa la lb ys zs, v = .ref pa ∧ h.get? la = none ∧ h.get? lb = none ∧ h.get? pa = none ∧ la ≠ lb ∧ la ≠ pa ∧ lb ≠ pa ∧ h'.IsList pa #[.ref la, .ref lb] ∧ h'.PlainList la ys ∧ h'.PlainList lb zs ∧ ys.size = l1.length ∧ zs.size = l2.length ∧
        (∀ G, Live G h → ∀ (j : Nat) u z, ys[j]? = some u → l1[j]? = some z → rFile.r (lb :: la :: G) h' u z) ∧
        (∀ G, Live G h → ∀ (j : Nat) u z, zs[j]? = some u → l2[j]? = some z → rFile.r (lb :: la :: G) h' u z)) h := ⟨Tri.parc x y⟩
theorem textsI {elts : List Expr} {p : Pos} (hE : elts = (elts.map strOf).map fun z => .Constant (.str z.1) z.2.1 z.2.2) (hsz : elts.length ≤ 1000) :
    TriI (model prog w) A (eval (.List elts p) env) (fun v h' => Keeps h h' ∧ ∃ pl vs, v = .ref pl ∧ h.get? pl = none ∧ h'.IsList pl vs ∧ vs.size = elts.length ∧ ∀ (i : Nat) u s, vs[i]? = some u → ((elts.map strOf).map (·.1))[i]? = some s → isStr s u) h := ⟨Tri.textsOf hE hsz⟩
/-- a for along a display of pairs of texts, and what follows -/
theorem for_pairs {target : Expr} {es : List Expr} {p pos : Pos} {body rest : List Stmt} {l : List (Str × Str)} {P : Flow → Heap → Prop} (hh : A.handled = none) (x : PairsE prog w A env es l) (hl : l.length ≤ 1000)
    (k : ∀ (v : Value) (h₁ : Heap), (Keeps h h₁ ∧ ∃ a vs, v = .ref a ∧ h.get? a = none ∧ h₁.IsList a vs ∧ TupOk h₁ vs.toList l) → ∃ a vs M, v = .ref a ∧ h₁.IsList a vs ∧ a ∉ M ∧ Live M h₁ ∧ ∀ I, h₁.get? I = none → ∃ Inv : Nat → Heap → Prop, (∀ h₂, Keeps h₁ h₂ → (∃ o, h₂.get? I = some o) → Inv 0 h₂) ∧ (∀ i g g', Inv i g → KM [I] g g' → (∃ o, g'.get? I = some o) → Inv i g') ∧
      (∀ i v g, vs[i]? = some v → Inv i g → Tri (model prog w) A (assign target env v) (fun _ g₁ => Tri (model prog w) A (execs body env) (fun f g₂ => f = .next ∧ KM M g g₂ ∧ Inv (i + 1) g₂) g₁) g) ∧ ∀ g g', Inv vs.size g → KM [I] g g' → Flow.next = .next ∧ Tri (model prog w) A (execs rest env) P g')
    (go : ∀ I a i h' v, h'.IsListIter I a i → Tri (model prog w) A (letOwnedTupleGo target (.ref I) v) (fun _ h'' => h'' = h') h') :
    TriI (model prog w) A (execs (.For target (.List es p) body [] pos :: rest) env) P h := ⟨Tri.then (Tri.forList hh ((PairsE.list x hl).mono k) go)⟩
end
end Mine
end

section
open PySem PySem.W PyProof.Rows PySem.Calls PySem.SeqAt
set_option maxRecDepth 100000
set_option maxHeartbeats 400000
set_option linter.unusedVariables false
set_option linter.unusedSimpArgs false
namespace Mine
section
variable {prog : Program} {w : World} {A : Around} {env : Env} {h : Heap}
/-- a for along a choice of three displays -/
theorem choice_for {target e1 e2 e3 e : Expr} {p p2 pos : Pos} {i : Int} {body : List Stmt} {P : Flow → Heap → Prop} (hh : A.handled = none) (x1 : IntsE prog w A env e1 [0]) (x2 : IntsE prog w A env e2 [1]) (x3 : IntsE prog w A env e3 [0, 1]) (he : ∀ g, Keeps h g → PX (model prog w) A env e (isInt i) g) (h0 : 0 ≤ i) (h3 : i < 3)
    (k : ∀ (v : Value) (h₁ : Heap), (Keeps h h₁ ∧ ∃ a vs, v = .ref a ∧ h.get? a = none ∧ h₁.IsList a vs ∧ IntsAre vs.toList (chosen i)) → ∃ a vs M, v = .ref a ∧ h₁.IsList a vs ∧ a ∉ M ∧ Live M h₁ ∧ ∀ I, h₁.get? I = none → ∃ Inv : Nat → Heap → Prop, (∀ h₂, Keeps h₁ h₂ → (∃ o, h₂.get? I = some o) → Inv 0 h₂) ∧ (∀ i g g', Inv i g → KM [I] g g' → (∃ o, g'.get? I = some o) → Inv i g') ∧
      (∀ i v g, vs[i]? = some v → Inv i g → Tri (model prog w) A (assign target env v) (fun _ g₁ => Tri (model prog w) A (execs body env) (fun f g₂ => f = .next ∧ KM M g g₂ ∧ Inv (i + 1) g₂) g₁) g) ∧ ∀ g g', Inv vs.size g → KM [I] g g' → P .next g')
    (go : ∀ I a i h' v, h'.IsListIter I a i → Tri (model prog w) A (letOwnedTupleGo target (.ref I) v) (fun _ h'' => h'' = h') h')
    (hs : ∀ a i t, subscripted e false (.ref a) (.int i t) = operate [.ref a, .int i t] (getItem (.ref a) (.int i t)) := by intros; with_unfolding_all rfl) :
    TriI (model prog w) A (exec (.For target (.Subscript (.List [e1, e2, e3] p) e p2) body [] pos) env) P h := ⟨Tri.forList hh ((Tri.choice x1 x2 x3 he h0 h3 hs).mono k) go⟩
end
end Mine
end

section
open PySem PySem.W PyProof.Rows PySem.Calls PySem.SeqAt
set_option maxRecDepth 100000
set_option maxHeartbeats 400000
set_option linter.unusedVariables false
set_option linter.unusedSimpArgs false
namespace Mine
theorem parcelsT {w mg mb} {v : Value} {ns : List Int} (hn : ns.length ≤ 6) : GivesT w mg mb 8 135 [v] [] rParcels [(parcels ns).1, (parcels ns).2] (fun h => ∃ G, (rLst rInt).r G h v ns) := by
  intro dp un gd cn cs a' ccd cl outer h₀ h L ST hdp hun hI
  refine' enterC ST ?ho ?hcd ?room ?bind ?loc ?go ?c1 ?c2 ?c3
  case ho => exact f135
  case hcd => kernel_rfl
  case room => omega
  case bind => rfl
  case loc => exact locs rfl
  case c1 => rfl
  case c2 => rfl
  case c3 => rfl
  case go =>
    intro L' h₁ k₁ hL' eL n₁ c₁ S₁
    have c1 : h₁.IsCell (L' + 1) none := c₁ (S "pieces") (L' + 1) rfl
    obtain ⟨G0, na, nvs, rfl, _, nlist, nsz, nget⟩ := hI
    refine Tri.then ?_
    refine' Tri.asgCell ?hc1 ?a1 ?hs1 ?hk1 ?hx1
    case hs1 => rfl
    case hk1 => rfl
    case hx1 => rfl
    case hc1 => exact (rfl : _ = some (L' + 1))
    refine Tri.mono (Tri.textsOf ?hE1 ?hsz1) fun v0 h₂ q => ?_
    case hE1 => simp only [List.map_cons, List.map_nil, strOf]
    case hsz1 => simp only [List.length_cons, List.length_nil]; omega
    obtain ⟨k₂, pl, vs, rfl, hpl, lpl, spl, rpl⟩ := q
    refine ⟨⟨_, c1.keeps k₂⟩, fun h₃ c₃ s₃ => ⟨rfl, ?_⟩⟩
    obtain ⟨opl, epl, _⟩ := id lpl
    have nep : L' + 1 ≠ pl := fun q => by obtain ⟨o, e, _⟩ := c1; rw [q, hpl] at e; cases e
    have k23 : KM [L' + 1] h₂ h₃ := km_but s₃ (.head _)
    have lpl3 := k23.list lpl (single (Ne.symm nep))
    have L1 : L' ≠ L' + 1 := Nat.ne_of_lt (Nat.lt_succ_self _)
    have n₃ := k23.ns (n₁.keeps k₂) (single L1)
    have hc0 : h.get? (L' + 1) = none := Heap.get?_none_of_le (by rw [eL]; exact Nat.le_succ _)
    refine Tri.then ?_
    refine' Tri.asgLocal ?a2 ?hs2 ?hx2 ?hp2
    case hs2 => rfl
    case hx2 => rfl
    case hp2 => rfl
    rw [← triI_eq]
    refine TriI.mono (parcI (TwoE.mk FileE.mk FileE.mk) (TwoE.mk FileE.mk FileE.mk)) fun v0 h₄ q => ?_
    obtain ⟨k₄, pa, la, lb, ys, zs, rfl, hla, hlb, hpa, nab, nap, nbp, lpa, lla, llb, sy, sz, ry, rz⟩ := q
    refine ⟨_, n₃.keeps k₄, fun h₅ n₅ s₅ => ⟨rfl, ?_⟩⟩
    have ne : ∀ {g : Heap} (b c : Addr), (∃ o, g.get? b = some o) → g.get? c = none → b ≠ c := fun b c ⟨o, e⟩ n q => by rw [q, n] at e; cases e
    have kh3 : Keeps h h₃ := k23.of (k₁.trans k₂) fun b hb => by rw [List.mem_singleton.mp hb]; exact hc0
    have oL1 : ∃ o, h₁.get? L' = some o := let ⟨o, _, _, e, _⟩ := n₁; ⟨o, e⟩
    have oL3 : ∃ o, h₃.get? L' = some o := let ⟨o, _, _, e, _⟩ := n₃; ⟨o, e⟩
    have oc3 : ∃ o, h₃.get? (L' + 1) = some o := let ⟨o, e, _⟩ := c₃; ⟨o, e⟩
    have op3 : ∃ o, h₃.get? pl = some o := let ⟨o, e, _⟩ := lpl3; ⟨o, e⟩
    have V : PV ⟨h, L', pl, pa, la, lb, []⟩ := {
      fL := hL', fa := kh3.none hla, fb := kh3.none hlb, Lc := L1, Lp := ne _ _ oL1 hpl, Lq := ne _ _ oL3 hpa, La := ne _ _ oL3 hla, Lb := ne _ _ oL3 hlb
      ac := Ne.symm (ne _ _ oc3 hla), ap := Ne.symm (ne _ _ op3 hla), aq := nap, ab := nab, bc := Ne.symm (ne _ _ oc3 hlb), bp := Ne.symm (ne _ _ op3 hlb), bq := nbp }
    have k45 : KM [L'] h₄ h₅ := km_but s₅ (.head _)
    have liveL : ∀ G, Live G h → Live (L' :: G) h₃ := fun G hG b hb => by
      rcases List.mem_cons.mp hb with rfl | hb
      · exact oL3
      · exact hG.keeps kh3 b hb
    have sub : ∀ (G : List Addr) b, b ∈ [L', la, lb] ++ G → b ∈ lb :: la :: L' :: G := fun G b hb => by
      simp only [List.cons_append, List.nil_append, List.mem_cons] at hb ⊢
      rcases hb with hb | hb | hb | hb
      · exact .inr (.inr (.inl hb))
      · exact .inr (.inl hb)
      · exact .inl hb
      · exact .inr (.inr (.inr hb))
    have inL : ∀ (G : List Addr), ∀ b ∈ [L'], b ∈ lb :: la :: L' :: G := fun G b hb => by rw [List.mem_singleton.mp hb]; exact .tail _ (.tail _ (.head _))
    obtain ⟨oa, ea⟩ := id lla
    obtain ⟨ob, eb⟩ := id llb
    have k35 : Keeps h h₅ := k45.of (kh3.trans k₄) fun b hb => by rw [List.mem_singleton.mp hb]; exact hL'
    have d0 : PS ⟨h, L', pl, pa, la, lb, []⟩ firstP 0 h₅ := {
      keep := k35
      live := fun b hb => by
        simp only [PC.M, List.nil_append, List.mem_cons, List.not_mem_nil, or_false] at hb
        rcases hb with rfl | rfl | rfl
        · obtain ⟨o, _, _, e, _⟩ := n₅; exact ⟨o, e⟩
        · exact ⟨_, k45 _ _ (single (Ne.symm V.La)) ea⟩
        · exact ⟨_, k45 _ _ (single (Ne.symm V.Lb)) eb⟩
      ns := ⟨_, n₅, if_pos rfl⟩
      cell := k45.cell (c₃.keeps k₄) (single (Ne.symm L1))
      pl := by
        refine ⟨pl, vs, rfl, fun q => ?_, k45.list (k₄.list lpl3) (single (Ne.symm V.Lp)), spl, rpl⟩
        simp only [PC.M, List.nil_append, List.mem_cons, List.not_mem_nil, or_false] at q
        rcases q with q | q | q
        · exact V.Lp q.symm
        · exact V.ap q.symm
        · exact V.bp q.symm
      pa := k45.list lpa (single (Ne.symm V.Lq))
      a := ⟨ys, lla.at fun o e => k45 _ _ (single (Ne.symm V.La)) e, sy, fun j u x p q G hG => rFile.km (rFile.anti (ry _ (liveL G hG) j u x p q) (sub G)) k45 fun b hb => by rw [List.mem_singleton.mp hb]; exact .head _⟩
      b := ⟨zs, llb.at fun o e => k45 _ _ (single (Ne.symm V.Lb)) e, sz, fun j u x p q G hG => rFile.km (rFile.anti (rz _ (liveL G hG) j u x p q) (sub G)) k45 fun b hb => by rw [List.mem_singleton.mp hb]; exact .head _⟩
      na := Nat.le_refl _
      nb := Nat.le_refl _ }
    have site : ∀ {I : List Addr} {P n g}, PS ⟨h, L', pl, pa, la, lb, I⟩ P n g → Site w mg mb _ L' _ h g := fun d => { S₁ with fr := let ⟨m, hm, _⟩ := d.ns; ⟨m, hm, d.keep, by rw [eL]; exact Nat.le_refl _⟩ }
    have nval : ∀ {i v}, nvs[i]? = some v → ∃ x, ns[i]? = some x ∧ isInt x v := fun {i v} hv => by
      have hi : i < nvs.size := (Array.getElem?_eq_some_iff.mp hv).1
      have hx : ns[i]? = some (ns[i]'(by omega)) := by simp [show i < ns.length by omega]
      exact ⟨_, hx, nget i v _ hv hx⟩
    refine Tri.then (Tri.forList rfl ?itr (fun I a i h' v hi => go_name))
    case itr =>
      refine (PX.local n₅ ((if_neg (by decide)).trans rfl)).here.mono fun v0 g q => ?_
      obtain ⟨rfl, rfl⟩ := q
      refine ⟨na, nvs, [L', la, lb], rfl, k35.list nlist, fun q => ?_, d0.live, fun I hI => ?_⟩
      · obtain ⟨o, e, _⟩ := nlist
        simp only [List.mem_cons, List.not_mem_nil, or_false] at q
        rcases q with q | q | q
        · exact ne _ _ ⟨o, e⟩ hL' q
        · exact ne _ _ ⟨o, e⟩ V.fa q
        · exact ne _ _ ⟨o, e⟩ V.fb q
      have Ap := d0.apart hI
      refine ⟨fun i g => PS ⟨h, L', pl, pa, la, lb, [I]⟩ ((ns.take i).foldl turnP firstP) (2 * i) g, fun h₂ k o => d0.add hI k o, fun i g g' d k o => d.iter Ap k o, ?turn, fun g g' d k => ⟨rfl, ?fin⟩⟩
      case fin =>
        have d' := PS.off Ap d k
        rw [nsz, List.take_length] at d'
        obtain ⟨m, hm, hp⟩ := d'.ns
        refine Tri.cons (Tri.ret ((PX.local hm hp).here.mono fun v1 g1 q => ?_))
        obtain ⟨rfl, rfl⟩ := q
        refine .inr ⟨(fun q => nomatch q), _, rfl, d'.keep, fun G hG => ⟨pa, _, rfl, fresh_of hG (kh3.none hpa), d'.pa, rfl, fun j u x p q => ?_⟩⟩
        obtain ⟨ya, hya, hsa, hra⟩ := d'.a
        obtain ⟨yb, hyb, hsb, hrb⟩ := d'.b
        match j with
        | 0 =>
          simp at p q; subst p; subst q
          exact ⟨la, ya, rfl, fresh_of hG V.fa, hya.isList, hsa, fun j u x p q => rFile.anti (hra j u x p q G hG) fun b hb => List.mem_append_right _ hb⟩
        | 1 =>
          simp at p q; subst p; subst q
          exact ⟨lb, yb, rfl, fresh_of hG V.fb, hyb.isList, hsb, fun j u x p q => rFile.anti (hrb j u x p q G hG) fun b hb => List.mem_append_right _ hb⟩
        | j + 2 => simp at p
      case turn =>
        intro i v g hv d
        obtain ⟨x, hx, t, rfl⟩ := nval hv
        obtain ⟨m, hm, hp⟩ := d.ns
        have V' : PV ⟨h, L', pl, pa, la, lb, [I]⟩ := V.add (I := I)
        refine Tri.bindLocal hm fun g1 n1 s1 => ?_
        have d1 := d.store V' s1 n1 ((if_neg (by decide)).trans hp)
        have e3 : (x.fdiv 3).natAbs = thirdOf x := by unfold thirdOf; rw [Int.fdiv_eq_ediv_of_nonneg _ (by decide)]
        refine Tri.then (Tri.asgLocal ((PX.absOf (PX.built (site d1) (by kernel_rfl) (by boot_fast)) (PX.fdiv ((PX.local n1 (if_pos rfl)).mono fun v e => ⟨t, e⟩) PX.const_int (by decide) (PyProof.noPylong_of_log2 (by decide +kernel)))).here.mono fun v3 g3 q => ?_))
        obtain ⟨⟨t3, rfl⟩, rfl⟩ := q
        rw [e3]
        refine ⟨_, n1, fun g4 n4 s4 => ⟨rfl, ?_⟩⟩
        have d4 := d1.store V' s4 n4 ((if_neg (by decide)).trans ((if_neg (by decide)).trans hp))
        have fm : ∀ {a b : Nat}, 0 < b → (a : Int).fmod (b : Int) = ((a % b : Nat) : Int) := fun {a b} hb => by rw [Int.fmod_eq_emod_of_nonneg _ (by omega)]; omega
        obtain ⟨hdig, hlen, hname⟩ := name_facts (thirdOf x)
        have fm1 : ((thirdOf x : Nat) : Int).fmod 1000 = ((thirdOf x % 1000 : Nat) : Int) := fm (b := 1000) (by decide)
        refine Tri.then (Tri.asgLocal (Tri.join (G := [I, L', la, lb]) PX.const_str ((comp_str (G := [I, L', la, lb]) rStr pieceOf (Str.ofString (toString ((thirdOf x % 1000 : Nat) : Int))) rfl ?strE (by omega) d4.live ?strT rfl ⟨fun _ _ => rfl, fun _ => rfl⟩ rfl (by decide) (fun _ => rfl)).mono fun v5 g5 q => ?_)))
        case strE =>
          rw [← fm1]
          exact PX.strOf (PX.built (site d4) (by kernel_rfl) (by boot_fast)) (PX.mod ((PX.local n4 (if_pos rfl)).mono fun v e => ⟨t3, e⟩) PX.const_int (by decide)) (by rw [fm1]; omega) (by rw [fm1]; omega)
        case strT =>
          intro N C u c gA mC hN kA lv hCN hmC hc hu
          refine Tri.bindLocal hmC fun gB nB sB => ⟨km_but sB (.head _), ⟨_, nB⟩, ?_⟩
          have kB : Keeps g4 gB := (km_but sB (.head _) : KM [C] gA gB).of kA fun b hb => by rw [List.mem_singleton.mp hb]; exact hN C hCN
          have dB := d4.keeps kB
          have hcd := hdig c hc
          obtain ⟨tu, rfl⟩ := hu
          refine Tri.itemR (x := pieceOf c) (PX.cell dB.cell rfl) dB.pl (PX.intOf (PX.built (site dB) (by kernel_rfl) (by boot_fast)) ((PX.local nB (if_pos rfl)).mono fun v e => ⟨tu, e⟩) (digit_reads hcd) (by show 1 ≤ 640; decide)) (by omega) (by omega) ?pieceAt fun u1 hu1 => ?_
          case pieceAt =>
            rw [Int.toNat_natCast]
            have hp10 : pieces.length = 10 := rfl
            unfold pieceOf
            rw [List.getD_eq_getElem?_getD, List.getElem?_eq_getElem (by omega)]; rfl
          exact ⟨Keeps.refl _, hu1⟩
        obtain ⟨k5, r5⟩ := q
        refine ⟨_, r5, joinOk_of ?jok, fun t5 => ?_⟩
        case jok =>
          have hl : ∀ (l : List Nat), (∀ c ∈ l, 48 ≤ c ∧ c < 58) → ((l.map pieceOf).map (·.length)).sum ≤ l.length := fun l hl => by
            induction l with
            | nil => exact Nat.le_refl _
            | cons c l ih =>
              have := ih fun b hb => hl b (.tail _ hb)
              have := pieceOf_len (hl c (.head _)).2
              simp only [List.map_cons, List.sum_cons, List.length_cons] at *
              omega
          have h0 := hl _ hdig
          rw [Array.length_toList] at h0
          have hz : (Str.ofString "").length = 0 := by decide
          rw [hz]
          omega
        have hname' : Txt.join (Str.ofString "") ((Str.ofString (toString ((thirdOf x % 1000 : Nat) : Int))).cps.toList.map pieceOf) = nameOf (thirdOf x) := hname
        rw [hname']
        have d5 := d4.keeps k5
        refine ⟨_, n4.keeps k5, fun g6 n6 s6 => ⟨rfl, ?_⟩⟩
        have d6 := d5.store V' s6 n6 ((if_neg (by decide)).trans ((if_neg (by decide)).trans ((if_neg (by decide)).trans hp)))
        have hov : (byteArr [((thirdOf x % 256 : Nat) : Int), ((thirdOf x / 9 % 256 : Nat) : Int), ((255 - thirdOf x % 256 : Nat) : Int)]).size ≤ 1000 := by simp [byteArr]
        refine Tri.then (Tri.asgLocal ((Tri.bytesUpto (n := thirdOf x % 4) (Tri.bytesOf (ns := [((thirdOf x % 256 : Nat) : Int), ((thirdOf x / 9 % 256 : Nat) : Int), ((255 - thirdOf x % 256 : Nat) : Int)]) (PX.built (site d6) (by kernel_rfl) (by boot_fast)) rfl (Tri.list ?octL) ?octR (by show 3 ≤ 1000; decide)) (fun g k => ?octK) hov).mono fun v7 g7 q => ?_))
        case octK =>
          exact (PX.mod ((PX.local (n6.keeps k) ((if_neg (by decide)).trans (if_pos rfl))).mono fun v e => ⟨t3, e⟩) PX.const_int (by decide)).mono fun v e => by
            have f4 : ((thirdOf x : Nat) : Int).fmod 4 = ((thirdOf x % 4 : Nat) : Int) := fm (b := 4) (by decide)
            rwa [f4] at e
        case octR =>
          intro n hn'
          simp only [List.mem_cons, List.not_mem_nil, or_false] at hn'
          rcases hn' with rfl | rfl | rfl <;> omega
        case octL =>
          refine Tri.args_cons ((PX.mod ((PX.local n6 ((if_neg (by decide)).trans (if_pos rfl))).mono fun v e => ⟨t3, e⟩) PX.const_int (by decide)).here.mono fun u1 ga q => ?_)
          obtain ⟨⟨ta, rfl⟩, rfl⟩ := q
          refine Tri.args_cons ((PX.mod (PX.fdiv ((PX.local n6 ((if_neg (by decide)).trans (if_pos rfl))).mono fun v e => ⟨t3, e⟩) PX.const_int (by decide) (PyProof.noPylong_of_log2 (by decide +kernel))) PX.const_int (by decide)).here.mono fun u2 ga q => ?_)
          obtain ⟨⟨tb, rfl⟩, rfl⟩ := q
          refine Tri.args_cons ((PX.sub PX.const_int (PX.mod ((PX.local n6 ((if_neg (by decide)).trans (if_pos rfl))).mono fun v e => ⟨t3, e⟩) PX.const_int (by decide))).here.mono fun u3 ga q => ?_)
          obtain ⟨⟨tc, rfl⟩, rfl⟩ := q
          have f9 : ((thirdOf x : Nat) : Int).fdiv 9 = ((thirdOf x / 9 : Nat) : Int) := by rw [Int.fdiv_eq_ediv_of_nonneg _ (by decide)]; omega
          have g1 : ((thirdOf x : Nat) : Int).fmod 256 = ((thirdOf x % 256 : Nat) : Int) := fm (b := 256) (by decide)
          have g2 : ((thirdOf x / 9 : Nat) : Int).fmod 256 = ((thirdOf x / 9 % 256 : Nat) : Int) := fm (b := 256) (by decide)
          rw [f9, g2, g1, show (255 : Int) - ((thirdOf x % 256 : Nat) : Int) = ((255 - thirdOf x % 256 : Nat) : Int) by omega]
          refine Tri.args_nil ?_
          exact Tri.newList (fun a gb ha k l => ⟨k, a, _, rfl, l, .cons _ _ (.cons _ _ (.cons _ _ .nil))⟩)
        obtain ⟨k7, t7, rfl⟩ := q
        have ho : ((byteArr [((thirdOf x % 256 : Nat) : Int), ((thirdOf x / 9 % 256 : Nat) : Int), ((255 - thirdOf x % 256 : Nat) : Int)]).toList.take (thirdOf x % 4)).toArray = octetsOf (thirdOf x) := by
          unfold octetsOf byteArr
          simp only [List.map_cons, List.map_nil, Int.toNat_natCast]
        rw [ho]
        have d7 := d6.keeps k7
        refine ⟨_, n6.keeps k7, fun g8 n8 s8 => ⟨rfl, ?_⟩⟩
        have d8 := d7.store V' s8 n8 ((if_neg (by decide)).trans ((if_neg (by decide)).trans ((if_neg (by decide)).trans ((if_neg (by decide)).trans hp))))
        have fm3 : x.fmod 3 = x % 3 := Int.fmod_eq_emod_of_nonneg _ (by decide)
        have c03 : 0 ≤ x.fmod 3 ∧ x.fmod 3 < 3 := by rw [fm3]; omega
        refine Tri.cons ?_
        rw [← triI_eq]
        refine TriI.mono (P := fun f h' => f = .next ∧ KM [L', la, lb] g h' ∧ PS ⟨h, L', pl, pa, la, lb, [I]⟩ (turnP ((ns.take i).foldl turnP firstP) x) (2 * i + 2) h') (choice_for rfl IntsE.one IntsE.one IntsE.both (fun gg kk => ?x3) c03.1 c03.2 (fun vc g9 qc => ?_) (fun I a i h' v hi => go_name)) fun f h' q => ?_
        case x3 => exact PX.mod ((PX.local (n8.keeps kk) ((if_neg (by decide)).trans ((if_neg (by decide)).trans ((if_neg (by decide)).trans (if_pos rfl))))).mono fun v e => ⟨t, e⟩) PX.const_int (by decide)
        · obtain ⟨k9, ca, cvs, rfl, hca, lca, ica⟩ := qc
          have d9 := d8.keeps k9
          refine ⟨ca, cvs, [L', la, lb], rfl, lca, fresh_of (fun b hb => d8.live b (.tail _ hb)) hca, fun b hb => d9.live b (.tail _ hb), fun J hJ => ?_⟩
          have Aq := d9.apart hJ
          have V'' : PV ⟨h, L', pl, pa, la, lb, [J, I]⟩ := V'.add (I := J)
          have n9 := n8.keeps k9
          have km9 : KM [L', la, lb] g g9 := ((((((km_but s1 (.head _)).trans (km_but s4 (.head _))).trans k5.km).trans (km_but s6 (.head _))).trans k7.km).trans (km_but s8 (.head _))).trans k9.km
          have gJ : g.get? J = none := by
            cases q : g.get? J with
            | none => rfl
            | some o =>
              have := km9 J o (fun q => by
                simp only [List.mem_cons, List.not_mem_nil, or_false] at q
                rcases q with q | q | q
                · exact Aq.L q.symm
                · exact Aq.la q.symm
                · exact Aq.lb q.symm) q
              rw [hJ] at this; cases this
          have nm9 : ∃ m, g9.Ns L' m ∧ m (S "parcels") = some (.ref pa) ∧ m (S "name") = some (.str (nameOf (thirdOf x)) t5) ∧ m (S "octets") = some (.bytes (octetsOf (thirdOf x)) t7) := ⟨_, n9, (if_neg (by decide)).trans ((if_neg (by decide)).trans ((if_neg (by decide)).trans ((if_neg (by decide)).trans hp))), (if_neg (by decide)).trans (if_pos rfl), if_pos rfl⟩
          refine ⟨fun j gg => PS ⟨h, L', pl, pa, la, lb, [J, I]⟩ (((chosen (x.fmod 3)).take j).foldl (stepP (fileOf x)) ((ns.take i).foldl turnP firstP)) (2 * i + j) gg ∧ (∃ m, gg.Ns L' m ∧ m (S "parcels") = some (.ref pa) ∧ m (S "name") = some (.str (nameOf (thirdOf x)) t5) ∧ m (S "octets") = some (.bytes (octetsOf (thirdOf x)) t7)) ∧ KM [L', la, lb] g gg,
            fun h₂ k o => ⟨d9.add hJ k o, let ⟨m, hm, e⟩ := nm9; ⟨m, hm.keeps k, e⟩, km9.trans k.km⟩, fun j ga gb ⟨da, ⟨m, hm, e⟩, ka⟩ k o => ⟨da.iter Aq k o, ⟨m, k.ns hm (single Aq.L), e⟩, ka.off k gJ⟩, ?turn2, fun ga gb ⟨da, _, ka⟩ k => ⟨rfl, ka.off k gJ, ?fin2⟩⟩
          case fin2 =>
            have dd := PS.off Aq da k
            have hcs : cvs.size = (chosen (x.fmod 3)).length := by rw [← ica.length]; simp
            rw [hcs, List.take_length, stepP_all] at dd
            exact dd.next (by have := chosen_len (x.fmod 3); omega)
          case turn2 =>
            rintro j vj ga hvj ⟨da, ⟨m, hm, hpa, hnm, hoc⟩, ka⟩
            have hjc : cvs.toList[j]? = some vj := by simpa using hvj
            have hlc := ica.length
            have hj2 : j < (chosen (x.fmod 3)).length := by have := (List.getElem?_eq_some_iff.mp hjc).1; omega
            obtain ⟨wc, hwc⟩ : ∃ wc, (chosen (x.fmod 3))[j]? = some wc := ⟨_, List.getElem?_eq_getElem hj2⟩
            obtain ⟨tw, etw⟩ := ica.get j wc hwc
            rw [hjc] at etw
            cases etw
            have hcl := chosen_len (x.fmod 3)
            have hi6 : i < 6 := by have := (List.getElem?_eq_some_iff.mp hx).1; omega
            refine Tri.bindLocal hm fun gb nb sb => ?_
            have db := da.store V'' sb nb ((if_neg (by decide)).trans hpa)
            have kab : KM [L', la, lb] ga gb := km_but sb (.head _)
            have hfold : ((chosen (x.fmod 3)).take (j + 1)).foldl (stepP (fileOf x)) ((ns.take i).foldl turnP firstP) = stepP (fileOf x) (((chosen (x.fmod 3)).take j).foldl (stepP (fileOf x)) ((ns.take i).foldl turnP firstP)) wc := by
              rw [List.take_add_one, hwc, Option.toList_some, List.foldl_append]; rfl
            obtain ⟨Pj, hPj⟩ : ∃ P, P = ((chosen (x.fmod 3)).take j).foldl (stepP (fileOf x)) ((ns.take i).foldl turnP firstP) := ⟨_, rfl⟩
            rw [← hPj] at db da hfold
            rcases chosen_mem (List.mem_of_getElem? hwc) with rfl | rfl
            · refine Tri.cons ((addOne (f := fileOf x) (k := 0) (D := la) (Pof := fun l' => (l', Pj.2)) ?u1 rfl rfl rfl rfl rfl rfl rfl db nb ((if_neg (by decide)).trans hnm) ((if_neg (by decide)).trans hoc) ((if_neg (by decide)).trans hpa) (if_pos rfl) rfl (by omega) (Ne.symm V.La) (.head _) db.a db.na (by omega) (db.next (Nat.le_succ _)) (fun gx gy l' dx sx ax hl => (dx.next (Nat.le_succ _)).growA V'' sx ax hl) rfl rfl).mono fun fl g₂ q => ?_)
              case u1 => show un + 3 + 2 < cLine; omega
              obtain ⟨rfl, kq, dq, nq⟩ := q
              exact .inl ⟨rfl, Tri.nil ⟨rfl, kab.trans kq, (by rw [hfold]; exact dq : PS _ (List.foldl (stepP (fileOf x)) (List.foldl turnP firstP (List.take i ns)) (List.take (j + 1) (chosen (x.fmod 3)))) (2 * i + (j + 1)) g₂), ⟨_, nq, (if_neg (by decide)).trans hpa, (if_neg (by decide)).trans hnm, (if_neg (by decide)).trans hoc⟩, (ka.trans kab).trans kq⟩⟩
            · refine Tri.cons ((addOne (f := fileOf x) (k := 1) (D := lb) (Pof := fun l' => (Pj.1, l')) ?u2 rfl rfl rfl rfl rfl rfl rfl db nb ((if_neg (by decide)).trans hnm) ((if_neg (by decide)).trans hoc) ((if_neg (by decide)).trans hpa) (if_pos rfl) rfl (by omega) (Ne.symm V.Lb) (.tail _ (.head _)) db.b db.nb (by omega) (db.next (Nat.le_succ _)) (fun gx gy l' dx sx ax hl => (dx.next (Nat.le_succ _)).growB V'' sx ax hl) rfl rfl).mono fun fl g₂ q => ?_)
              case u2 => show un + 3 + 2 < cLine; omega
              obtain ⟨rfl, kq, dq, nq⟩ := q
              exact .inl ⟨rfl, Tri.nil ⟨rfl, kab.trans kq, (by rw [hfold]; exact dq : PS _ (List.foldl (stepP (fileOf x)) (List.foldl turnP firstP (List.take i ns)) (List.take (j + 1) (chosen (x.fmod 3)))) (2 * i + (j + 1)) g₂), ⟨_, nq, (if_neg (by decide)).trans hpa, (if_neg (by decide)).trans hnm, (if_neg (by decide)).trans hoc⟩, (ka.trans kab).trans kq⟩⟩
        · obtain ⟨rfl, km, dn⟩ := q
          refine .inl ⟨rfl, Tri.nil ⟨rfl, km, ?_⟩⟩
          show PS _ (List.foldl turnP firstP (List.take (i + 1) ns)) (2 * i + 2) _
          rw [List.take_add_one, hx, Option.toList_some, List.foldl_append]
          exact dn
end Mine
end

section
open PySem PySem.W PyProof.Rows PySem.Calls PySem.SeqAt
set_option maxRecDepth 100000
set_option maxHeartbeats 400000
set_option linter.unusedVariables false
set_option linter.unusedSimpArgs false
namespace Mine
section
variable {prog : Program} {w : World} {A : Around} {env : Env} {h : Heap}
theorem Tri.replace {obj e1 e2 : Expr} {x y z : Str} {t u v : Tok} {p pos : Pos} {P : Value → Heap → Prop} (ho : PX (model prog w) A env obj (· = .str x t) h) (h1 : PX (model prog w) A env e1 (· = .str y u) h) (h2 : PX (model prog w) A env e2 (· = .str z v) h)
    (hu : u ≠ 0) (hv : v ≠ 0) (huv : u ≠ v) (hyz : (y == z) = false) (hx : x.length ≤ 1000000) (hz : z.length ≤ 14) (k : ∀ t', P (.str (Txt.replace x y z) t') h)
    (hse : starEach [e1, e2] env = (false, eval e1 env) :: starEach [e2] env := by rfl) (hse2 : starEach [e2] env = (false, eval e2 env) :: starEach [] env := by rfl) (hpl : (backTo pos (starEach [e2] env)).any (·.1) = false := by rfl) {pl : Sem Bool}
    (hc : eval (.Call (.Attribute obj (Str.ofString "replace") p) [e1, e2] [] pos) env = (do
      let ov ← eval obj env
      standAt p.atName
      let (f, first) ← holding [ov] (getMethod ov (Str.ofString "replace") pl)
      callWith pos f first (backTo pos (starEach [e1, e2] env)) []) := by rfl) :
    Tri (model prog w) A (eval (.Call (.Attribute obj (Str.ofString "replace") p) [e1, e2] [] pos) env) P h := by
  intro s Q E es ht hQ
  refine MethodCall_ (pl := pl) (ho.here.use es ht fun v0 h₁ tk₁ t₁ hv' => ?_) hc
  obtain ⟨rfl, rfl⟩ := hv'
  refine GM.replace ?_
  refine callWith_method1 (PyProof.Rows.args_cons (h1.here.use rfl t₁ fun v2 h₂ tk₂ t₂ q => PyProof.Rows.args_cons ?_ hse2) hse) hse hpl
  obtain ⟨rfl, rfl⟩ := q
  refine h2.here.use rfl t₂ fun v3 h₃ tk₃ t₃ q => PyProof.Rows.args_nil ?_
  obtain ⟨rfl, rfl⟩ := q
  show wpAny _ _ (call (.builtin "str.replace") [.str x t, .str y u, .str z v]) _ _ _
  exact wpAny_keep (SC.replaceW hu hv huv hyz (by omega) hz fun t' k' hk => hQ _ _ _ (Nat.lt_of_lt_of_le t₃ hk) (k t'))
end
end Mine
end

section
open PySem PySem.W PyProof.Rows PySem.Calls PySem.SeqAt
set_option maxRecDepth 100000
set_option maxHeartbeats 400000
set_option linter.unusedVariables false
set_option linter.unusedSimpArgs false
namespace Mine
/-- replacing on lists of signs: k signs still to be passed over -/
noncomputable def rpk (c r : List Nat) : Nat → List Nat → List Nat
  | _, [] => []
  | 0, a :: l => if c.isPrefixOf (a :: l) then r ++ rpk c r (c.length - 1) l else a :: rpk c r 0 l
  | k + 1, _ :: l => rpk c r k l
noncomputable def rp (c r l : List Nat) : List Nat := rpk c r 0 l
theorem rpk_drop (c r : List Nat) : ∀ (k : Nat) (l : List Nat), rpk c r k l = rp c r (l.drop k)
  | 0, l => by simp [rp]
  | k + 1, [] => by simp [rp, rpk]
  | k + 1, a :: l => by rw [rpk, rpk_drop c r k l, List.drop_succ_cons]
theorem rp_nil (c r : List Nat) : rp c r [] = [] := by simp [rp, rpk]
theorem rp_cons (c r : List Nat) (a : Nat) (l : List Nat) : rp c r (a :: l) = if c.isPrefixOf (a :: l) then r ++ rp c r (l.drop (c.length - 1)) else a :: rp c r l := by
  unfold rp
  rw [rpk]
  split
  · rw [rpk_drop]; rfl
  · rfl
theorem pre_iff {c l : List Nat} : c.isPrefixOf l = true ↔ l.take c.length = c := by
  rw [List.isPrefixOf_iff_prefix]
  exact ⟨fun h => (List.prefix_iff_eq_take.mp h).symm, fun h => List.prefix_iff_eq_take.mpr h.symm⟩
theorem at_iff {x y : Str} (hy : 1 ≤ y.length) {i : Nat} : StrLaws.At x y x.length i ↔ y.cps.toList.isPrefixOf (x.cps.toList.drop i) = true := by
  rw [pre_iff]
  show (i + y.length ≤ x.length ∧ Builtin.Str.subAt x y i = true) ↔ _
  rw [StrLaws.subAt_eq, beq_iff_eq]
  have e : y.cps.toList.length = y.length := by simp [Str.length]
  rw [e]
  refine ⟨fun h => h.2, fun h => ⟨?_, h⟩⟩
  have := congrArg List.length h
  simp [Str.length] at this hy ⊢
  omega
theorem rp_gap {x y : Str} (hy : 1 ≤ y.length) (r : List Nat) : ∀ (n a : Nat), (∀ k, a ≤ k → k < a + n → ¬ StrLaws.At x y x.length k) → rp y.cps.toList r (x.cps.toList.drop a) = (x.cps.toList.drop a).take n ++ rp y.cps.toList r (x.cps.toList.drop (a + n))
  | 0, a, _ => by simp
  | n + 1, a, h => by
    have h0 := h a (Nat.le_refl _) (by omega)
    rw [at_iff hy] at h0
    have ih := rp_gap hy r n (a + 1) fun k h1 h2 => h k (by omega) (by omega)
    cases hd : x.cps.toList.drop a with
    | nil =>
      have : x.cps.toList.drop (a + (n + 1)) = [] := by rw [← List.drop_drop, hd]; simp
      rw [this, rp_nil]; simp
    | cons b l =>
      have h1 : x.cps.toList.drop (a + 1) = l := by rw [← List.drop_drop, hd]; rfl
      rw [hd] at h0
      rw [rp_cons, if_neg h0, ← h1, ih]
      rw [show a + 1 + n = a + (n + 1) by omega, h1]
      simp
theorem rp_at {x y : Str} (hy : 1 ≤ y.length) (r : List Nat) {c : Nat} (h : StrLaws.At x y x.length c) : rp y.cps.toList r (x.cps.toList.drop c) = r ++ rp y.cps.toList r (x.cps.toList.drop (c + y.length)) := by
  have h' := (at_iff hy).mp h
  have e : y.cps.toList.length = y.length := by simp [Str.length]
  cases hd : x.cps.toList.drop c with
  | nil =>
    rw [hd, pre_iff] at h'
    rw [List.take_nil] at h'
    rw [← h'] at e
    simp at e
    omega
  | cons b l =>
    rw [hd] at h'
    rw [rp_cons, if_pos h', e, show c + y.length = c + 1 + (y.length - 1) by omega, ← List.drop_drop, ← List.drop_drop (i := 1), hd]
    rfl
theorem rp_chain {x y z : Str} (hy : 1 ≤ y.length) : ∀ (cuts : List Nat) (a f : Nat), StrLaws.ChainG x y x.length a cuts f → (∀ k, f ≤ k → ¬ StrLaws.At x y x.length k) →
    (Str.join z (StrLaws.partsFrom x y.length a cuts)).cps.toList = rp y.cps.toList z.cps.toList (x.cps.toList.drop a)
  | [], a, f, h, hn => by
    have e : f = a := h
    subst e
    rw [rp_gap hy _ (x.length - f) f fun k h1 _ => hn k h1]
    have e2 : x.cps.toList.drop (f + (x.length - f)) = [] := by simp [Str.length]; omega
    rw [e2, rp_nil, List.append_nil]
    show (Builtin.Str.strSub x f x.length).cps.toList = _
    rw [StrLaws.strSub_toList]
  | c :: r, a, f, h, hn => by
    have ih := rp_chain (z := z) hy r _ f h.2.2.2 hn
    obtain ⟨p, q, e⟩ := StrLaws.partsFrom_ne x y.length (c + y.length) r
    have hac : a ≤ c := h.1
    rw [rp_gap hy _ (c - a) a fun k h1 h2 => h.2.2.1 k h1 (by omega), show a + (c - a) = c by omega, rp_at hy _ h.2.1, ← ih]
    show (Str.join z (Builtin.Str.strSub x a c :: StrLaws.partsFrom x y.length (c + y.length) r)).cps.toList = _
    rw [e]
    show (Builtin.Str.strSub x a c ++ z ++ Str.join z (p :: q)).cps.toList = _
    rw [Str.cps_append, Str.cps_append, Array.toList_append, Array.toList_append, StrLaws.strSub_toList, List.append_assoc]
/-- replacing, on lists -/
theorem replace_rp (x y z : Str) (hy : 1 ≤ y.length) : (Txt.replace x y z).cps.toList = rp y.cps.toList z.cps.toList x.cps.toList := by
  obtain ⟨f, hG, hn⟩ := StrLaws.occ_tight x y hy
  have key := rp_chain (z := z) hy _ _ f hG hn
  rw [List.drop_zero] at key
  have h10 : (y.length == 0) = false := by rw [beq_eq_false_iff_ne]; omega
  rw [← key]
  unfold Txt.replace
  rw [h10, Bool.false_and, Bool.or_false]
  split
  · rename_i he
    rw [List.isEmpty_iff.mp he]
    show x.cps.toList = (Builtin.Str.strSub x 0 x.length).cps.toList
    rw [StrLaws.strSub_toList, List.drop_zero, Nat.sub_zero, List.take_of_length_le]
    simp [Str.length]
  · rw [StrLaws.glued_eq_join, StrLaws.partsBetween_eq]
theorem rp_one (c : Nat) (r : List Nat) : ∀ l : List Nat, rp [c] r l = l.flatMap fun a => if a = c then r else [a]
  | [] => by rw [rp_nil]; rfl
  | a :: l => by
    rw [rp_cons, List.flatMap_cons]
    by_cases h : a = c
    · subst h
      simp only [List.isPrefixOf, beq_self_eq_true, Bool.and_true, if_true, List.length_singleton, Nat.sub_self, List.drop_zero]
      rw [rp_one a r l]
    · have : [c].isPrefixOf (a :: l) = false := by simp [List.isPrefixOf, Ne.symm h]
      rw [this, if_neg Bool.false_ne_true, if_neg h, rp_one c r l]; rfl
end Mine
end

section
open PySem PySem.W PyProof.Rows PySem.Calls PySem.SeqAt
set_option maxRecDepth 100000
set_option maxHeartbeats 400000
set_option linter.unusedVariables false
set_option linter.unusedSimpArgs false
namespace Mine
noncomputable def refs : List (Str × Str) := [(S "&lt;", S "<"), (S "&gt;", S ">"), (S "&quot;", S "\""), (S "&#13;", S "\r"), (S "&#10;", S "\n"), (S "&#09;", S "\t"), (S "&amp;", S "&")]
noncomputable def undo (x : Str) (p : Str × Str) : Str := Txt.replace x p.1 p.2
noncomputable def plain (x : Str) : Str := refs.foldl undo x
noncomputable abbrev eLt : List Nat := [38, 108, 116, 59]
noncomputable abbrev eGt : List Nat := [38, 103, 116, 59]
noncomputable abbrev eQu : List Nat := [38, 113, 117, 111, 116, 59]
noncomputable abbrev e13 : List Nat := [38, 35, 49, 51, 59]
noncomputable abbrev e10 : List Nat := [38, 35, 49, 48, 59]
noncomputable abbrev e09 : List Nat := [38, 35, 48, 57, 59]
noncomputable abbrev eAm : List Nat := [38, 97, 109, 112, 59]
theorem escC_list (x : Str) : (escC x).cps.toList = rp [62] eGt (rp [60] eLt (rp [38] eAm x.cps.toList)) := by
  unfold escC
  rw [replace_rp _ _ _ (by decide), replace_rp _ _ _ (by decide), replace_rp _ _ _ (by decide)]
  rfl
theorem escA_list (x : Str) : (escA x).cps.toList = rp [9] e09 (rp [10] e10 (rp [13] e13 (rp [34] eQu (escC x).cps.toList))) := by
  unfold escA
  rw [replace_rp _ _ _ (by decide), replace_rp _ _ _ (by decide), replace_rp _ _ _ (by decide), replace_rp _ _ _ (by decide)]
  rfl
theorem plain_list (x : Str) : (plain x).cps.toList = rp eAm [38] (rp e09 [9] (rp e10 [10] (rp e13 [13] (rp eQu [34] (rp eGt [62] (rp eLt [60] x.cps.toList)))))) := by
  show (undo (undo (undo (undo (undo (undo (undo x _) _) _) _) _) _) _).cps.toList = _
  unfold undo
  rw [replace_rp _ _ _ (by decide), replace_rp _ _ _ (by decide), replace_rp _ _ _ (by decide), replace_rp _ _ _ (by decide), replace_rp _ _ _ (by decide), replace_rp _ _ _ (by decide), replace_rp _ _ _ (by decide)]
  rfl
/-- what a sign is written as -/
noncomputable def tokC (a : Nat) : List Nat := if a = 38 then eAm else if a = 60 then eLt else if a = 62 then eGt else [a]
noncomputable def tokA (a : Nat) : List Nat := if a = 34 then eQu else if a = 13 then e13 else if a = 10 then e10 else if a = 9 then e09 else tokC a
theorem escC_toks (x : Str) : (escC x).cps.toList = x.cps.toList.flatMap tokC := by
  rw [escC_list, rp_one, rp_one, rp_one, List.flatMap_assoc, List.flatMap_assoc]
  congr 1; funext a
  unfold tokC
  by_cases h1 : a = 38
  · subst h1; decide
  by_cases h2 : a = 60
  · subst h2; decide
  by_cases h3 : a = 62
  · subst h3; decide
  simp [h1, h2, h3]
theorem escA_toks (x : Str) : (escA x).cps.toList = x.cps.toList.flatMap tokA := by
  rw [escA_list, escC_toks, rp_one, rp_one, rp_one, rp_one, List.flatMap_assoc, List.flatMap_assoc, List.flatMap_assoc, List.flatMap_assoc]
  congr 1; funext a
  unfold tokA tokC
  by_cases h1 : a = 38
  · subst h1; decide
  by_cases h2 : a = 60
  · subst h2; decide
  by_cases h3 : a = 62
  · subst h3; decide
  by_cases h4 : a = 34
  · subst h4; decide
  by_cases h5 : a = 13
  · subst h5; decide
  by_cases h6 : a = 10
  · subst h6; decide
  by_cases h7 : a = 9
  · subst h7; decide
  simp [h1, h2, h3, h4, h5, h6, h7]
/-- the references -/
noncomputable def refE : List (List Nat) := [eLt, eGt, eQu, e13, e10, e09, eAm]
/-- what a text may be made of: a sign other than &, or a reference -/
noncomputable def Tk (t : List Nat) : Prop := (∃ b, b ≠ 38 ∧ t = [b]) ∨ t ∈ refE
theorem tk_off {s : List Nat} {b : Nat} {c l : List Nat} (h : b ≠ 38) : rp (38 :: c) s (b :: l) = b :: rp (38 :: c) s l := by
  rw [rp_cons, if_neg]
  rw [List.isPrefixOf, beq_eq_false_iff_ne.mpr (Ne.symm h)]
  exact Bool.false_ne_true
/-- somewhere the two differ -/
noncomputable def mis : List Nat → List Nat → Bool
  | a :: c, b :: t => a != b || mis c t
  | _, _ => false
theorem mis_pre : ∀ {c t l : List Nat}, mis c t = true → c.isPrefixOf (t ++ l) = false
  | a :: c, b :: t, l, h => by
    show (a == b && c.isPrefixOf (t ++ l)) = false
    cases e : a == b with
    | false => rfl
    | true =>
      have h' : (!(a == b) || mis c t) = true := h
      rw [e] at h'
      exact mis_pre h'
theorem tk_offs {s c l : List Nat} : ∀ {t : List Nat}, t.all (· != 38) = true → rp (38 :: c) s (t ++ l) = t ++ rp (38 :: c) s l
  | [], _ => rfl
  | b :: t, h => by
    have h' := Bool.and_eq_true_iff.mp h
    show rp (38 :: c) s (b :: (t ++ l)) = _
    rw [tk_off (bne_iff_ne.mp h'.1), tk_offs h'.2]; rfl
theorem refE_head : ∀ t ∈ refE, t = 38 :: t.tail ∧ t.tail.all (· != 38) = true := by decide
theorem refE_mis : ∀ c ∈ refE, ∀ t ∈ refE, t = c ∨ mis c t = true := by decide
theorem rp_self {a : Nat} {c s l : List Nat} : rp (a :: c) s (a :: c ++ l) = s ++ rp (a :: c) s l := by
  show rp (a :: c) s (a :: (c ++ l)) = _
  rw [rp_cons, if_pos]
  · show s ++ rp (a :: c) s (List.drop c.length (c ++ l)) = _
    rw [List.drop_left]
  · exact List.isPrefixOf_iff_prefix.mpr ⟨l, rfl⟩
theorem rp_tk {c s : List Nat} (hc : c ∈ refE) {t l : List Nat} (ht : Tk t) : rp c s (t ++ l) = (if t = c then s else t) ++ rp c s l := by
  have ec := (refE_head c hc).1
  rcases ht with ⟨b, hb, rfl⟩ | ht
  · have hne : [b] ≠ c := fun e => by
      rw [← e] at ec
      exact hb (List.cons.inj ec).1
    rw [if_neg hne, ec]
    exact tk_off hb
  · have et := refE_head t ht
    rcases refE_mis c hc t ht with h | h
    · rw [if_pos h, h, ec]; exact rp_self
    · have hne : t ≠ c := fun e => by
        have hp := mis_pre (l := []) h
        rw [List.append_nil, e, Bool.eq_false_iff] at hp
        exact hp (List.isPrefixOf_iff_prefix.mpr (List.prefix_refl c))
      rw [if_neg hne]
      have hp := mis_pre (l := l) h
      rw [et.1] at hp ⊢
      show rp c s (38 :: (t.tail ++ l)) = _
      rw [rp_cons, if_neg (by rw [show 38 :: (t.tail ++ l) = 38 :: t.tail ++ l from rfl, hp]; exact Bool.false_ne_true), ec, tk_offs et.2]; rfl
theorem rp_tks {c s : List Nat} (hc : c ∈ refE) (f : Nat → List Nat) : ∀ (l : List Nat), (∀ a, Tk (f a)) → rp c s (l.flatMap f) = l.flatMap fun a => if f a = c then s else f a
  | [], _ => by rw [List.flatMap_nil, List.flatMap_nil, rp_nil]
  | a :: l, h => by rw [List.flatMap_cons, List.flatMap_cons, rp_tk hc (h a), rp_tks hc f l h]
theorem Tk.one {c t : List Nat} {b : Nat} (h : Tk t) (hb : b ≠ 38) : Tk (if t = c then [b] else t) := by
  split
  · exact .inl ⟨b, hb, rfl⟩
  · exact h
theorem tokC_tk (a : Nat) : Tk (tokC a) := by
  unfold tokC
  split
  · exact .inr (by decide)
  split
  · exact .inr (by decide)
  split
  · exact .inr (by decide)
  · rename_i h _ _; exact .inl ⟨a, h, rfl⟩
theorem tokA_tk (a : Nat) : Tk (tokA a) := by
  unfold tokA
  split
  · exact .inr (by decide)
  split
  · exact .inr (by decide)
  split
  · exact .inr (by decide)
  split
  · exact .inr (by decide)
  · exact tokC_tk a
noncomputable def und (t : List Nat) : List Nat :=
  let t := if t = eLt then [60] else t
  let t := if t = eGt then [62] else t
  let t := if t = eQu then [34] else t
  let t := if t = e13 then [13] else t
  let t := if t = e10 then [10] else t
  let t := if t = e09 then [9] else t
  if t = eAm then [38] else t
theorem plain_toks (f : Nat → List Nat) (l : List Nat) (h : ∀ a, Tk (f a)) (hu : ∀ a, und (f a) = [a]) {x : Str} (hx : x.cps.toList = l.flatMap f) : (plain x).cps.toList = l := by
  have h1 : ∀ a, Tk (if f a = eLt then [60] else f a) := fun a => (h a).one (by decide)
  have h2 : ∀ a, Tk (if (if f a = eLt then [60] else f a) = eGt then [62] else (if f a = eLt then [60] else f a)) := fun a => (h1 a).one (by decide)
  have h3 := fun a => (h2 a).one (c := eQu) (b := 34) (by decide)
  have h4 := fun a => (h3 a).one (c := e13) (b := 13) (by decide)
  have h5 := fun a => (h4 a).one (c := e10) (b := 10) (by decide)
  have h6 := fun a => (h5 a).one (c := e09) (b := 9) (by decide)
  rw [plain_list, hx, rp_tks (by decide) _ _ h, rp_tks (by decide) _ _ h1, rp_tks (by decide) _ _ h2, rp_tks (by decide) _ _ h3, rp_tks (by decide) _ _ h4, rp_tks (by decide) _ _ h5, rp_tks (by decide) _ _ h6]
  have e : (fun a => und (f a)) = fun a => [a] := funext hu
  show l.flatMap (fun a => und (f a)) = l
  rw [e]
  simp
theorem und_one {a : Nat} (h : a ≠ 38) : und [a] = [a] := by simp [und]
theorem und_C (a : Nat) : und (tokC a) = [a] := by
  unfold tokC
  split
  · rename_i h; subst h; decide
  split
  · rename_i h; subst h; decide
  split
  · rename_i h; subst h; decide
  · rename_i h _ _; exact und_one h
theorem und_A (a : Nat) : und (tokA a) = [a] := by
  unfold tokA
  split
  · rename_i h; subst h; decide
  split
  · rename_i h; subst h; decide
  split
  · rename_i h; subst h; decide
  split
  · rename_i h; subst h; decide
  · exact und_C a
theorem sx {x y : Str} (h : x.cps.toList = y.cps.toList) : x = y := by
  cases x; cases y; simp only [Str.mk.injEq]; exact Array.toList_inj.mp h
/-- what is written is read back -/
theorem plain_escA (x : Str) : plain (escA x) = x := sx (plain_toks tokA _ tokA_tk und_A (escA_toks x))
theorem plain_escC (x : Str) : plain (escC x) = x := sx (plain_toks tokC _ tokC_tk und_C (escC_toks x))
theorem tokC_off (b : Nat) : ∀ a ∈ tokC b, (a ≠ 60 ∧ a ≠ 62) ∧ ((a ≠ 34 ∧ a ≠ 10 ∧ a ≠ 9 ∧ a ≠ 13) ∨ a = b) := by
  unfold tokC
  split
  · have h : ∀ a ∈ eAm, (a ≠ 60 ∧ a ≠ 62) ∧ (a ≠ 34 ∧ a ≠ 10 ∧ a ≠ 9 ∧ a ≠ 13) := by decide
    exact fun a ha => ⟨(h a ha).1, .inl (h a ha).2⟩
  split
  · have h : ∀ a ∈ eLt, (a ≠ 60 ∧ a ≠ 62) ∧ (a ≠ 34 ∧ a ≠ 10 ∧ a ≠ 9 ∧ a ≠ 13) := by decide
    exact fun a ha => ⟨(h a ha).1, .inl (h a ha).2⟩
  split
  · have h : ∀ a ∈ eGt, (a ≠ 60 ∧ a ≠ 62) ∧ (a ≠ 34 ∧ a ≠ 10 ∧ a ≠ 9 ∧ a ≠ 13) := by decide
    exact fun a ha => ⟨(h a ha).1, .inl (h a ha).2⟩
  · rename_i h1 h2 h3
    intro a ha
    rw [List.mem_singleton.mp ha]
    exact ⟨⟨h2, h3⟩, .inr rfl⟩
theorem tokA_off (b : Nat) : ∀ a ∈ tokA b, a ≠ 60 ∧ a ≠ 62 ∧ a ≠ 34 ∧ a ≠ 10 ∧ a ≠ 9 ∧ a ≠ 13 := by
  unfold tokA
  split
  · decide
  split
  · decide
  split
  · decide
  split
  · decide
  · rename_i h1 h2 h3 h4
    intro a ha
    obtain ⟨⟨p, q⟩, r | rfl⟩ := tokC_off b a ha
    · exact ⟨p, q, r⟩
    · exact ⟨p, q, h1, h3, h4, h2⟩
theorem escA_off (x : Str) : ∀ a ∈ (escA x).cps.toList, a ≠ 60 ∧ a ≠ 62 ∧ a ≠ 34 ∧ a ≠ 10 ∧ a ≠ 9 ∧ a ≠ 13 := by
  rw [escA_toks]
  intro a ha
  obtain ⟨b, _, hb⟩ := List.mem_flatMap.mp ha
  exact tokA_off b a hb
theorem escC_off (x : Str) : ∀ a ∈ (escC x).cps.toList, a ≠ 60 ∧ a ≠ 62 := by
  rw [escC_toks]
  intro a ha
  obtain ⟨b, _, hb⟩ := List.mem_flatMap.mp ha
  exact (tokC_off b a hb).1
end Mine
end

section
open PySem PySem.W PyProof.Rows PySem.Calls PySem.SeqAt
set_option maxRecDepth 100000
set_option maxHeartbeats 400000
set_option linter.unusedVariables false
set_option linter.unusedSimpArgs false
namespace Mine
theorem plainT {w mg mb} {x : Str} {t : Tok} (hx : x.length ≤ 1000) : GivesT w mg mb 2 149 [.str x t] [] rStr (plain x) (fun _ => True) := by
  intro dp un gd cn cs a' ccd cl outer h₀ h L ST hdp hun hI
  refine Tri.mono (P := fun v h' => Keeps h h' ∧ isStr (plain x) v) ?_ fun v h' q => ⟨q.1, fun G hG => q.2⟩
  refine' enterT ST ?ho ?hcd ?room ?bind ?loc ?go ?c1 ?c2 ?c3 ?c4
  case ho => exact f149
  case hcd => kernel_rfl
  case room => omega
  case bind => exact fun s e => BindsTo.of_eq rfl
  case loc => exact locs rfl
  case c1 => rfl
  case c2 => rfl
  case c3 => rfl
  case c4 => decide
  case go =>
    intro g L' h₁ kg hL' F S₁
    rw [← triI_eq]
    refine for_pairs rfl (.cons PairE.mk (.cons PairE.mk (.cons PairE.mk (.cons PairE.mk (.cons PairE.mk (.cons PairE.mk (.cons PairE.mk .nil))))))) (by show 7 ≤ 1000; decide) (l := refs) (fun v0 h₂ q => ?_) (fun I a i h' v hi => go_pair hi v)
    obtain ⟨k₂, a, vs, rfl, ha, la, ok⟩ := q
    have oL2 : ∃ o, h₂.get? L' = some o := let ⟨o, _, _, e, _⟩ := F.ns; ⟨o, k₂ _ _ e⟩
    refine ⟨a, vs, [L'], rfl, la, fun q => ?_, fun b hb => by rw [List.mem_singleton.mp hb]; exact oL2, fun I hI => ?_⟩
    · obtain ⟨o, _, _, e, _⟩ := F.ns
      rw [← List.mem_singleton.mp q, ha] at e; cases e
    have nLI : L' ≠ I := fun q => by obtain ⟨o, e⟩ := oL2; rw [q, hI] at e; cases e
    refine ⟨fun i g2 => KM [L'] h₂ g2 ∧ ∃ m t', g2.Ns L' m ∧ m (S "text") = some (.str ((refs.take i).foldl undo x) t') ∧ ((refs.take i).foldl undo x).length + 1 ≤ 1001 * 2 ^ i,
      fun g2 k o => ⟨k.km, _, t, (F.ns.keeps k₂).keeps k, rfl, by show x.length + 1 ≤ _; omega⟩, fun i ga gb ⟨ka, m, t', hm, r⟩ k o => ⟨ka.off k hI, m, t', k.ns hm (single nLI), r⟩, ?turn, fun ga gb ⟨ka, m, t', hm, htx, _⟩ k => ⟨rfl, ?fin⟩⟩
    case fin =>
      have hlen : vs.size = refs.length := by have := ok.1; simpa using this
      rw [hlen, List.take_length] at htx
      have kM : KM [L'] h₁ gb := k₂.km.trans (ka.off k hI)
      have hmb := k.ns hm (single nLI)
      have Fb : Fr g L' gb m := ⟨hmb, fun b o e => kM b o (single (fun q => by rw [q, Heap.get?_none_of_le F.above] at e; cases e)) (F.keep b o e), F.above⟩
      refine Tri.cons (Tri.ret ((PX.local hmb htx).here.mono fun v1 g1 q => ?_))
      obtain ⟨rfl, rfl⟩ := q
      exact .inr ⟨(fun q => nomatch q), _, rfl, ⟨t', rfl⟩, m, Fb⟩
    case turn =>
      rintro i v gi hv ⟨kM, m, t', hm, htx, hlen⟩
      have hi : i < vs.size := (Array.getElem?_eq_some_iff.mp hv).1
      have hlen7 : vs.size = 7 := by have := ok.1; simpa [refs] using this
      have hv' : vs.toList[i]? = some v := by simpa using hv
      have hi7 : i < refs.length := by show i < 7; omega
      have hp : refs[i]? = some refs[i] := List.getElem?_eq_getElem hi7
      generalize refs[i] = p at hp
      obtain ⟨T, tt, uu, rfl, lT, h1, h2, h3⟩ := ok.2 i v p hv' hp
      have nT : T ≠ L' := fun q => by
        obtain ⟨o, e, _, n, hd⟩ := lT
        obtain ⟨o', _, _, e', hd', _⟩ := F.ns
        rw [q, k₂ _ _ e'] at e
        cases e
        rw [hd'] at hd; cases hd
      have lTi : gi.IsTuple T #[.str p.1 tt, .str p.2 uu] := lT.at fun o e => kM _ _ (single nT) e
      refine Tri.bindPair rfl hm lTi fun g3 n3 k3 => ?_
      have hpf : (p.1 == p.2) = false ∧ p.2.length ≤ 1 := by
        have : ∀ q ∈ refs, (q.1 == q.2) = false ∧ q.2.length ≤ 1 := by decide +kernel
        exact this p (List.mem_of_getElem? hp)
      have hbig : 2 ^ i ≤ 2 ^ 7 := Nat.pow_le_pow_right (by decide) (by omega)
      refine Tri.cons (Tri.asgLocal (Tri.replace (PX.local n3 ((if_neg (by decide)).trans ((if_neg (by decide)).trans htx))) (PX.local n3 ((if_neg (by decide)).trans (if_pos rfl))) (PX.local n3 (if_pos rfl)) h1 h2 h3 hpf.1 (by omega) (by omega) fun t'' => ⟨_, n3, fun g4 n4 s4 => .inl ⟨rfl, Tri.nil ⟨rfl, k3.trans (km_but s4 (.head _)), (kM.trans k3).trans (km_but s4 (.head _)), _, t'', n4, ?_, ?_⟩⟩⟩))
      · rw [if_pos rfl, List.take_add_one, hp, Option.toList_some, List.foldl_append]; rfl
      · rw [List.take_add_one, hp, Option.toList_some, List.foldl_append]
        have hr := repl_len ((refs.take i).foldl undo x) p.1 p.2
        have h4 : (((refs.take i).foldl undo x).length + 1) * p.2.length ≤ (((refs.take i).foldl undo x).length + 1) * 1 := Nat.mul_le_mul_left _ hpf.2
        show (Txt.replace ((refs.take i).foldl undo x) p.1 p.2).length + 1 ≤ _
        rw [Nat.pow_succ]
        omega
end Mine
end

section
open PySem PySem.W PyProof.Rows PySem.Calls PySem.SeqAt
set_option maxRecDepth 100000
set_option maxHeartbeats 400000
set_option linter.unusedVariables false
set_option linter.unusedSimpArgs false
namespace Mine
theorem Tri.free {α : Type} {M : Model} {A : Around} {h : Heap} {t : Sem α} {P : α → Heap → Prop} (x : ∀ (s : Shared) (Q : α → Shared → Prop) (E : Value → Shared → Prop), s.heap = h → 0 < s.toks → (∀ a h' tk, P a h' → Q a { s with heap := h', toks := tk }) → wpAny M A t Q E s) : Tri M A t P h :=
  fun s Q E es ht hQ => wpAny_keep (x s (fun a s' => s.toks ≤ s'.toks → Q a s') _ es ht fun a h' tk hp hle => hQ a h' tk (Nat.lt_of_lt_of_le ht hle) hp)
section
variable {prog : Program} {w : World} {A : Around} {env : Env} {h : Heap} {G : List Addr}
/-- x[i:] -/
theorem Tri.strFrom {value : Expr} {x : Str} {i : Int} {k : Nat} {p1 p pos : Pos} (hv : PX (model prog w) A env value (isStr x) h) (hx : x.length ≤ 1000) (htmp : ∀ o r, letTemporaryGo value o r = Pure.pure () := by intro _ _; rfl) :
    Tri (model prog w) A (eval (.Subscript value (.Slice (some (.Constant (.int i) k p1)) none none p) pos) env) (fun v h' => Keeps h h' ∧ isStr (Txt.slice x (some i) none) v) h := Tri.free fun s Q E es ht hQ => by
  refine PySem.Subscript_Slice (hv.here.use es ht fun v h₁ tk₁ t₁ q => ?_) htmp
  obtain ⟨⟨t, rfl⟩, rfl⟩ := q
  refine wpAny_Slice (evalPart_some_step (wpAny_Constant_int ?_))
  rw [evalPart_none]
  refine wpAny_pure (wpAny_pure ?_)
  refine SBH.sliceItem_sn (s := { s with heap := h₁, toks := tk₁ + 1 }) (P := Keeps h₁) (fun g ob k b o e => Heap.get?_push_of_some _ (k b o e)) (Keeps.refl _) (fun h' t' k kk => ?_) (by rw [sizeLine_eq]; omega)
  exact hQ _ h' k ⟨kk, t', rfl⟩
/-- x[:i] -/
theorem Tri.strUpto {value : Expr} {x : Str} {i : Int} {k : Nat} {p1 p pos : Pos} (hv : PX (model prog w) A env value (isStr x) h) (hx : x.length ≤ 1000) (htmp : ∀ o r, letTemporaryGo value o r = Pure.pure () := by intro _ _; rfl) :
    Tri (model prog w) A (eval (.Subscript value (.Slice none (some (.Constant (.int i) k p1)) none p) pos) env) (fun v h' => Keeps h h' ∧ isStr (Txt.slice x none (some i)) v) h := Tri.free fun s Q E es ht hQ => by
  refine PySem.Subscript_Slice (hv.here.use es ht fun v h₁ tk₁ t₁ q => ?_) htmp
  obtain ⟨⟨t, rfl⟩, rfl⟩ := q
  refine wpAny_Slice (evalPart_none_step (evalPart_some_step (wpAny_Constant_int ?_)))
  rw [evalPart_none]
  refine wpAny_pure ?_
  refine SBH.sliceItem_ns (s := { s with heap := h₁, toks := tk₁ + 1 }) (P := Keeps h₁) (fun g ob k b o e => Heap.get?_push_of_some _ (k b o e)) (Keeps.refl _) (fun h' t' k kk => ?_) (by rw [sizeLine_eq]; omega)
  exact hQ _ h' k ⟨kk, t', rfl⟩
/-- x.partition(y) -/
theorem Tri.partition {obj e1 : Expr} {x y p q r : Str} {pp pos : Pos} {P : Value → Heap → Prop} (ho : Tri (model prog w) A (eval obj env) (fun v h₁ => Keeps h h₁ ∧ isStr x v) h) (h1 : ∀ g, PX (model prog w) A env e1 (isStr y) g)
    (hy : (y.length == 0) = false) (hx : x.length ≤ 1000) (hp : Txt.partition x y = (p, q, r))
    (k : ∀ T h' ta tb tc, Keeps h h' → h'.IsTuple T #[.str p ta, .str q tb, .str r tc] → P (.ref T) h')
    (hse : starEach [e1] env = (false, eval e1 env) :: starEach [] env := by rfl) {pl : Sem Bool}
    (hc : eval (.Call (.Attribute obj (Str.ofString "partition") pp) [e1] [] pos) env = (do
      let ov ← eval obj env
      standAt pp.atName
      let (f, first) ← holding [ov] (getMethod ov (Str.ofString "partition") pl)
      callWith pos f first (backTo pos (starEach [e1] env)) []) := by rfl) :
    Tri (model prog w) A (eval (.Call (.Attribute obj (Str.ofString "partition") pp) [e1] [] pos) env) P h := Tri.free fun s Q E es ht hQ => by
  refine MethodCall_ (pl := pl) (ho.use es ht fun v0 h₁ tk₁ t₁ hv' => ?_) hc
  obtain ⟨k₁, t, rfl⟩ := hv'
  refine GM.partition ?_
  refine callWith_method1 (PyProof.Rows.args_cons ((h1 h₁).here.use rfl t₁ fun v2 h₂ tk₂ t₂ q => PyProof.Rows.args_nil ?_) hse) hse
  obtain ⟨⟨u, rfl⟩, rfl⟩ := q
  show wpAny _ _ (call (.builtin "str.partition") [.str x t, .str y u]) _ _ _
  refine call_meets PySem.F.slot_str_partition (typeIs_str _ _ _) PySem.F.entry_str_partition (PySem.F.args_str_partition_2 _ _) (PySem.meets_str_partition x y t u hy (by rw [sizeLine_eq]; omega)) ?_
  have h' : ∀ ta tb tc tk, Q (.ref h₂.objs.size) { s with heap := h₂.push { cls := .type "tuple", data := .seq [.str (Txt.partition x y).1 ta, .str (Txt.partition x y).2.1 tb, .str (Txt.partition x y).2.2 tc].toArray }, toks := tk } := fun ta tb tc tk => by
    refine hQ _ _ _ (k _ _ ta tb tc (k₁.trans fun b o e => Heap.get?_push_of_some _ e) ?_)
    rw [hp]
    exact ⟨_, Heap.get?_push_size _ rfl, rfl, _, rfl⟩
  unfold Txt.partition at h'
  revert h'
  cases Builtin.Str.occurrences x y 0 x.length 1 with
  | nil => intro h'; exact h' _ _ _ _
  | cons i r => intro h'; exact h' _ _ _ _
/-- a, b, c = value -/
theorem Tri.asgThree {x y z : Str} {p1 p2 p3 tp pos : Pos} {kk : Nat} {value : Expr} {P : Flow → Heap → Prop} (hh : A.handled = none)
    (a : Tri (model prog w) A (eval value env) (fun v h₁ => ∃ T v1 v2 v3 m, v = .ref T ∧ h₁.IsTuple T #[v1, v2, v3] ∧ h₁.Ns env.locals m ∧
      ∀ h₂, h₂.Ns env.locals (fun n => if n = z then some v3 else if n = y then some v2 else if n = x then some v1 else m n) → KM [env.locals] h₁ h₂ → P .next h₂) h)
    (he : assignEach [.Name x p1, .Name y p2, .Name z p3] env = [(false, assign (.Name x p1) env), (false, assign (.Name y p2) env), (false, assign (.Name z p3) env)] := by rfl)
    (hx : env.kindOf x = some .local := by rfl) (hy : env.kindOf y = some .local := by rfl) (hz : env.kindOf z = some .local := by rfl) (hp : (env.scope.kind == .class || (env.scope.kind == .module && env.locals != env.globals)) = false := by rfl)
    (hs : swapsWithSole [.Tuple [.Name x p1, .Name y p2, .Name z p3] kk tp] value pos.line env = Pure.pure false := by rfl)
    (hw : swappedStores [.Tuple [.Name x p1, .Name y p2, .Name z p3] kk tp] value env = Pure.pure none := by rfl) :
    Tri (model prog w) A (exec (.Assign [.Tuple [.Name x p1, .Name y p2, .Name z p3] kk tp] value pos) env) P h := Tri.free fun s Q E es ht hQ => by
  refine PyProof.Rows.Assign_Tuple (a.use es ht fun v h₁ tk₁ t₁ q => ?_) hs hw
  obtain ⟨T, v1, v2, v3, m, rfl, hT, n, kk⟩ := q
  refine wpAny_assign_Tuple hh hT (by rw [he]; rfl) (by rw [he]; rfl) fun h₂ k₂ => ?_
  rw [he]
  have n₂ : h₂.Ns env.locals m := n.keeps (ext_keeps k₂)
  refine wpAny_assignInOrder_more ?_
  refine wpAny_assign_Name (wpAny_storeName_local hx n₂ (fun h₃ n₃ s₃ => ?_) hp)
  refine wpAny_assignInOrder_more ?_
  refine wpAny_assign_Name (wpAny_storeName_local hy n₃ (fun h₄ n₄ s₄ => ?_) hp)
  refine wpAny_assignInOrder_more ?_
  refine wpAny_assign_Name (wpAny_storeName_local hz n₄ (fun h₅ n₅ s₅ => ?_) hp)
  refine wpAny_assignInOrder_none (hQ _ h₅ _ (kk h₅ n₅ ?_))
  exact (((Keeps.km (ext_keeps k₂)).trans (km_but s₃ (.head _))).trans (km_but s₄ (.head _))).trans (km_but s₅ (.head _))
theorem Tri.orFalse {x : Expr} {rest : List Expr} {pos : Pos} {whole : Sem Value} {P : Bool → Heap → Prop} (a : Tri (model prog w) A (isTrue x env (eval x env)) (fun c h₁ => c = false ∧ Tri (model prog w) A (isTrue (.BoolOp .Or rest pos) env whole) P h₁) h) :
    Tri (model prog w) A (isTrue (.BoolOp .Or (x :: rest) pos) env whole) P h := fun s Q E es ht hQ =>
  isTrue_or (a.use es ht fun c h₁ tk₁ t₁ q => by
    obtain ⟨rfl, q⟩ := q
    simp only [Bool.false_eq_true, if_false]
    exact q.use rfl t₁ hQ)
theorem Tri.orEnd {pos : Pos} {whole : Sem Value} {P : Bool → Heap → Prop} (a : P false h) : Tri (model prog w) A (isTrue (.BoolOp .Or [] pos) env whole) P h := fun s Q E es ht hQ =>
  isTrue_or_nil (by subst es; exact hQ false s.heap s.toks ht a)
end
end Mine
end

section
open PySem PySem.W PyProof.Rows PySem.Calls PySem.SeqAt
set_option maxRecDepth 100000
set_option maxHeartbeats 400000
set_option linter.unusedVariables false
set_option linter.unusedSimpArgs false
namespace Mine
section
variable {prog : Program} {w : World} {A : Around} {env : Env} {h : Heap} {G : List Addr}
/-- a block along a text's signs whose test holds of none of them -/
theorem comp_strNone (y : Str) {elt e c : Expr} {x : Str} {px : Pos} {scope : Scope} {pos : Pos} {cl : List (Str × Addr)}
    (hh : A.handled = none) (he : PX (model prog w) A env e (isStr y) h) (hG : Live G h)
    (test : ∀ C u ch g m, g.Ns C m → m x = some u → ch ∈ y.cps.toList → isStr ⟨#[ch]⟩ u →
      Tri (model prog w) A (isTrue c (compEnvC scope cl C env) (eval c (compEnvC scope cl C env))) (fun b g' => Keeps g g' ∧ b = false) g)
    (hclos : closureFor scope env = Pure.pure cl) (oc : OneCell scope none) (hkind : scope.kind = .function) (hnames : ∀ y ∈ scope.names, y.2 = .local → scope.names.lookup y.1 = some .local)
    (hx : scope.names.lookup x = some .local)
    (hs : ∀ x, foldedSetIterable e env x = Pure.pure x) :
    Tri (model prog w) A (eval (.ListComp elt [⟨.Name x px, e, [c], 0⟩] scope pos) env) (fun v h' => Keeps h h' ∧ (rLst rStr).r G h' v []) h := by
  have src := (src_str (target := .Name x px) hh he (fun I v h' _ => go_name)).mono fun x' h₁ q' => q'.mono fun it h₂ q' => (let ⟨I, e, s⟩ := q'; ⟨I, e, s.src (x := x) (px := px)⟩ : ∃ I, it = .ref I ∧ Src prog w A (.Name x px) h y.cps.size (fun i v => ∃ c, y.cps[i]? = some c ∧ isStr ⟨#[c]⟩ v) I h₂)
  have key := comp_acc (env := env) rStr (fun _ => ([] : List Str)) (cq := none) (n := y.cps.size) (elt := elt) (target := .Name x px) (iter := e) (ifs := [c]) (rest := []) (scope := scope) (pos := pos) (cl := cl) (h := h) (G₀ := G) (Pv := fun i v => ∃ c, y.cps[i]? = some c ∧ isStr ⟨#[c]⟩ v) (A := A) (prog := prog) (w := w)
    (fun D C cs v => assign (.Name x px) (compEnvC scope cl C env) v >>= fun _ =>
        (forIn [c] true fun c r => if r = true then do let ok ← isTrue c (compEnvC scope cl C env) (eval c (compEnvC scope cl C env)); Pure.pure (ForInStep.yield ok) else Pure.pure (ForInStep.yield r)) >>= fun ok =>
          (if ok = true then (eval elt (compEnvC scope cl C env) >>= fun x => call (.builtin "list.append") [.ref D, x] >>= fun _ => (Pure.pure () : Sem Unit)) else Pure.pure ()))
    (fun I D C cs => ?_) hclos oc hkind hnames (fun I D C => Around.under_of_weight rfl) hG src ?_ hs
  · have e0 : (List.range y.cps.size).flatMap (fun _ => ([] : List Str)) = [] := by simp
    rw [e0] at key
    exact key
  · show compTurn _ 0 (.ref I) (.ref D) (compEnvC scope cl C env) = _
    rw [compTurn_list]
    congr 1; funext _; congr 1; funext r
    cases r with
    | none => rfl
    | some v =>
      simp only [bind_assoc]
      congr 1; funext _; congr 1; funext _; congr 1; funext ok
      cases ok with
      | true => simp only [if_true, bind_assoc, pure_bind]; rfl
      | false => simp only [Bool.false_eq_true, if_false, pure_bind]; rfl
  · intro N D C cs i v h₁ l hcs hsub hDC hDcs hCcs hN k₁ lv fr hi hv hl hac
    obtain rfl : cs = [] := hcs
    obtain ⟨m, hm⟩ := fr.1
    obtain ⟨ch, hc, hu⟩ := hv
    have loc : (compEnvC scope cl C env).kindOf x = some .local := lookup_relabel_local hx
    have hp : ((compEnvC scope cl C env).scope.kind == .class || ((compEnvC scope cl C env).scope.kind == .module && (compEnvC scope cl C env).locals != (compEnvC scope cl C env).globals)) = false := by
      show (scope.kind == .class || (scope.kind == .module && _)) = false
      rw [hkind]; rfl
    refine Tri.bind (P := fun _ h₂ => (∃ m, h₂.Ns C m ∧ m x = some v) ∧ KM [C] h₁ h₂) (Tri.bindLocal (env := compEnvC scope cl C env) hm (fun h₂ n₂ s₂ => ⟨⟨_, n₂, by rw [if_pos rfl]⟩, km_but s₂ (.head _)⟩) loc hp) fun _ h₂ q₂ => ?_
    obtain ⟨⟨m₂, hm₂, hv₂⟩, km₂⟩ := q₂
    have hac₂ : AccIs rStr (N ++ G) h₂ D l := hac.km km₂ (fun q => hDC (List.mem_singleton.mp q)) fun b hb => by rw [List.mem_singleton.mp hb]; exact List.mem_append_left _ (hsub C (.tail _ (.head _)))
    refine Tri.bind (P := fun ok h₃ => Keeps h₂ h₃ ∧ ok = false) ?_ fun ok h₃ q₃ => ?_
    · intro s Q E es ht hQ
      exact wpAny_tests_one ((test C v ch h₂ m₂ hm₂ hv₂ (List.mem_of_getElem? (by simpa using hc)) hu).use es ht fun b h' tk t0 q => hQ b h' tk t0 q)
    · obtain ⟨k₃, rfl⟩ := q₃
      simp only [Bool.false_eq_true, if_false]
      have hac₃ : AccIs rStr (N ++ G) h₃ D l := hac₂.km (Keeps.km (M := []) k₃) List.not_mem_nil fun b hb => by cases hb
      exact Tri.pure ⟨(km₂.more fun b hb => by rw [List.mem_singleton.mp hb]; exact .tail _ (.head _)).trans (Keeps.km k₃), ⟨⟨m₂, hm₂.keeps k₃⟩, fun c hc => by cases hc⟩, by simpa using hac₃⟩
/-- a sign that a text has not -/
theorem Tri.notInText {l r : Expr} {pos : Pos} {c : Nat} {y : Str} {whole : Sem Value} (hl : PX (model prog w) A env l (isStr ⟨#[c]⟩) h) (hr : PX (model prog w) A env r (isStr y) h) (hc : c ∉ y.cps.toList) (hm : behindInMarks .In r = false := by with_unfolding_all rfl) :
    Tri (model prog w) A (isTrue (.Compare l [.In] [r] pos) env whole) (fun b h' => Keeps h h' ∧ b = false) h := by
  refine Tri.cmpTrue (hl.here.mono fun v h₁ q => ?_) hm
  obtain ⟨⟨t, rfl⟩, rfl⟩ := q
  refine hr.here.mono fun v h₂ q => ?_
  obtain ⟨⟨u, rfl⟩, rfl⟩ := q
  refine (Tri.quick (Q' := fun b => b = .bool false) fun s Q E es ht hQ => PySem.P.in_str ?_).mono fun b h₃ q => ?_
  · rw [StrLaws.found_one, decide_eq_false hc]
    exact hQ _ _ ht rfl
  · obtain ⟨rfl, rfl⟩ := q
    exact ⟨_, rfl, Keeps.refl _, rfl⟩
end
end Mine
end

section
open PySem PySem.W PyProof.Rows
set_option maxRecDepth 100000
set_option maxHeartbeats 8000000
set_option linter.unusedVariables false
set_option linter.unusedSimpArgs false
namespace Mine
open Builtin Builtin._codecs
theorem loop2 {β : Type} {n : Nat} {body : Nat → β → Sem (ForInStep β)} {init s1 : β} (h0 : body 0 init = pure (.yield s1)) (h1 : body 1 s1 = pure (.done s1)) : forIn [0 : n + 2] init body = pure s1 := by
  rw [Std.Legacy.Range.forIn_eq_forIn_range']
  have e : [:n + 2].size = n + 2 := by show (n + 2 - 0 + 1 - 1) / 1 = n + 2; rw [Nat.div_one]; rfl
  rw [e]
  show forIn (0 :: 1 :: List.range' 2 n 1) init body = _
  rw [List.forIn_cons, h0]
  show forIn (1 :: List.range' 2 n 1) s1 body = _
  rw [List.forIn_cons, h1]
  rfl
theorem loop4 {σ : Type} {body : Nat → Nat × Array Nat × σ → Sem (ForInStep (Nat × Array Nat × σ))} {z : σ} {g : Nat → Nat} (T : ∀ k p out, p < 4 → out.size = p → body k (p, out, z) = pure (.yield (p + 1, out ++ [g p].toArray, z))) : forIn [0 : 4] (0, #[], z) body = pure (4, #[g 0, g 1, g 2, g 3], z) := by
  rw [Std.Legacy.Range.forIn_eq_forIn_range']
  show forIn [0, 1, 2, 3] (0, #[], z) body = _
  rw [List.forIn_cons, T 0 0 #[] (by decide) rfl]
  show forIn [1, 2, 3] (1, #[g 0], z) body = _
  rw [List.forIn_cons, T 1 1 _ (by decide) rfl]
  show forIn [2, 3] (2, #[g 0, g 1], z) body = _
  rw [List.forIn_cons, T 2 2 _ (by decide) rfl]
  show forIn [3] (3, #[g 0, g 1, g 2], z) body = _
  rw [List.forIn_cons, T 3 3 _ (by decide) rfl]
  rfl
theorem find_none {a b c d : Nat} (ha : a < 128) (hb : b < 128) (hc : c < 128) (hd : d < 128) : (#[a, b, c, d] : Array Nat).findIdx? asciiCodec.bad = none := by
  show ([a, b, c, d].toArray).findIdx? asciiCodec.bad = none
  rw [List.findIdx?_toArray, List.findIdx?_eq_none_iff]
  intro x hx
  have : x < 128 := by
    rcases List.mem_cons.mp hx with rfl | hx
    · exact ha
    rcases List.mem_cons.mp hx with rfl | hx
    · exact hb
    rcases List.mem_cons.mp hx with rfl | hx
    · exact hc
    · rw [List.mem_singleton.mp hx]; exact hd
  exact decide_eq_false (Nat.not_le_of_lt this)
theorem enc4 {id : String} {v : Value} {a b c d : Nat} (ha : a < 128) (hb : b < 128) (hc : c < 128) (hd : d < 128) :
    encodeNarrow id asciiCodec none v ⟨#[a, b, c, d]⟩ = pure #[a.toUInt8, b.toUInt8, c.toUInt8, d.toUInt8] := by
  have ea : (!asciiCodec.bad a) = true := by show (!decide (128 ≤ a)) = true; rw [decide_eq_false (Nat.not_le_of_lt ha)]; rfl
  unfold encodeNarrow
  refine Eq.trans (congrArg (· >>= _) (loop2 (n := 2) (s1 := (4, #[a.toUInt8, b.toUInt8, c.toUInt8, d.toUInt8], {})) ?_ ?_)) ?_
  · refine (if_neg (by decide)).trans ?_
    refine (if_pos ea).trans ?_
    show pure (ForInStep.yield (0 + (Array.findIdx? asciiCodec.bad #[a, b, c, d]).getD 4, Array.foldl (fun acc y => acc ++ (asciiCodec.bytesOf y).toArray) #[] (Array.extract #[a, b, c, d] 0 ((Array.findIdx? asciiCodec.bad #[a, b, c, d]).getD 4)), ({} : Faults))) = _
    rw [find_none ha hb hc hd]
    kernel_rfl
  · kernel_rfl
  · kernel_rfl
theorem run4 {id : String} {a b c d : UInt8} (ha : a.toNat < 128) (hb : b.toNat < 128) (hc : c.toNat < 128) (hd : d.toNat < 128) :
    runDecoder id asciiDecoder none true #[a, b, c, d] 0 [] = pure (#[a.toNat, b.toNat, c.toNat, d.toNat], 4) := by
  unfold runDecoder
  refine Eq.trans (congrArg (· >>= _) (loop4 (g := fun p => (#[a, b, c, d].getD p 0).toNat) fun k p out hp hs => ?_)) ?_
  · refine (if_neg (by show ¬ out.size > sizeLine; rw [hs, sizeLine_eq]; omega)).trans ?_
    refine (if_neg (show ¬ 4 ≤ p by omega)).trans ?_
    have hg : (#[a, b, c, d].getD p 0).toNat < 128 := by
      rcases (by omega : p = 0 ∨ p = 1 ∨ p = 2 ∨ p = 3) with rfl | rfl | rfl | rfl
      · exact ha
      · exact hb
      · exact hc
      · exact hd
    dsimp only
    rw [show asciiDecoder.find true #[a, b, c, d] p = .char (#[a, b, c, d].getD p 0).toNat (p + 1) from if_pos hg]
    rfl
  · rfl
theorem run0 {id : String} : runDecoder id asciiDecoder none true #[] 0 [] = pure (#[], 0) := by kernel_rfl
theorem enc0 {id : String} {v : Value} : encodeNarrow id asciiCodec none v ⟨#[]⟩ = pure #[] := by kernel_rfl
theorem road_asc {id : String} {b : Array UInt8} : decodeRoad id b (PySem.Str.ofString "ascii") none [] = (runDecoder id asciiDecoder none true b 0 [] >>= fun r => mkStr ⟨r.1⟩) := by kernel_rfl
theorem eroad_asc (id : String) (self : Value) (x : Str) : encodeRoad id self x (Str.ofString "ascii") none = (do mkBytes (← encodeNarrow id asciiCodec none self x)) := by kernel_rfl
theorem args_decode2 (a b : Value) : argsOk "bytes.decode" ⟨[a, b], []⟩ := by
  unfold argsOk; rw [signature?_of (id := "bytes.decode") (n := ['e', 'd', 'o', 'c', 'e', 'd']) (o := ['s', 'e', 't', 'y', 'b']) (by kernel_rfl) FB.owner_bytes]; kernel_rfl
theorem dec_entry {c : UInt8} {cs : List UInt8} {t u : Tok} : «bytes.decode» ⟨[.bytes (c :: cs).toArray t, .str (Str.ofString "ascii") u], []⟩ = (mkStr (PySem.Str.ofString "utf-8") >>= fun e => mkStr (PySem.Str.ofString "ascii") >>= fun a => mkStr (PySem.Str.ofString "bytes.decode") >>= fun d =>
    call (.builtin "_codecs.decode.text") [.bytes (c :: cs).toArray t, a, .none, d] >>= fun v => ret v) := by kernel_rfl
theorem dec_entry0 {t u : Tok} : «bytes.decode» ⟨[.bytes #[] t, .str (Str.ofString "ascii") u], []⟩ = (rule "bytes.decode.empty" >>= fun _ => retStr Str.empty) := by kernel_rfl
theorem enc_entry {x : Str} {t u : Tok} : «str.encode» ⟨[.str x t, .str (Str.ofString "ascii") u], []⟩ = (encodeRoad "str.encode" (.str x t) x (Str.ofString "ascii") none >>= fun v => ret v) := by kernel_rfl
section
variable {prog : Program} {w : World} {A : Around} {E : Value → Shared → Prop} {s : Shared} {Q : Value → Shared → Prop} {t u : Tok}
theorem decode4 {a b c d : UInt8} (ha : a.toNat < 128) (hb : b.toNat < 128) (hc : c.toNat < 128) (hd : d.toNat < 128)
    (h : ∀ t' k, Q (.str ⟨#[a.toNat, b.toNat, c.toNat, d.toNat]⟩ t') { s with toks := k }) : wpAny (model prog w) A (call (.builtin "bytes.decode") [.bytes #[a, b, c, d] t, .str (Str.ofString "ascii") u]) Q E s := by
  refine call_meets (S := fun _ R s => ∀ t' k, R (.ok (.ret (.str ⟨#[a.toNat, b.toNat, c.toNat, d.toNat]⟩ t'))) { s with toks := k }) FB.slot_bytes_decode (typeIs_bytes _ _ _) FB.entry_bytes_decode (args_decode2 _ _) (.of_wp fun prog w A R s hS => ?_) h
  have e := dec_entry (c := a) (cs := [b, c, d]) (t := t) (u := u)
  rw [show ([a, b, c, d] : List UInt8).toArray = #[a, b, c, d] from rfl] at e
  rw [e]
  refine wpAny_bind (wpAny_mkStr ?_ (by decide))
  refine wpAny_bind (wpAny_mkStr ?_ (by decide))
  refine wpAny_bind (wpAny_mkStr ?_ (by decide))
  refine wpAny_bind (call_function_meets (S := fun _ R s => R (.ok (.ret (.str ⟨#[a.toNat, b.toNat, c.toNat, d.toNat]⟩ s.toks))) { s with toks := s.toks + 1 }) KBd.kind_text KBd.plain_text KBd.entry_text (KBd.args_text _ _ _ _) (.of_wp fun prog w A R s hS => ?_) (wpAny_pure ⟨_, rfl, hS _ _⟩))
  show wpAny _ _ (Bytes.bytesLike _ (.bytes _ t) >>= fun r => _) _ _ s
  refine wpAny_bind (wpAny_of_eq KBd.like_eq ?_)
  refine wpAny_bind (wpAny_of_eq KBd.held_eq ?_)
  show wpAny _ _ (decodeRoad _ _ (PySem.Str.ofString "ascii") none [] >>= fun v => _) _ _ s
  rw [road_asc, run4 ha hb hc hd]
  refine wpAny_bind (wpAny_bind (wpAny_pure ?_))
  exact wpAny_mkStr (wpAny_pure ⟨_, rfl, hS⟩) (show 4 ≤ sizeLine by decide)
theorem decode0 (h : ∀ t' k, Q (.str ⟨#[]⟩ t') { s with toks := k }) : wpAny (model prog w) A (call (.builtin "bytes.decode") [.bytes #[] t, .str (Str.ofString "ascii") u]) Q E s := by
  refine call_meets (S := fun _ R s => ∀ t' k, R (.ok (.ret (.str ⟨#[]⟩ t'))) { s with toks := k }) FB.slot_bytes_decode (typeIs_bytes _ _ _) FB.entry_bytes_decode (args_decode2 _ _) (.of_wp fun prog w A R s hS => ?_) h
  rw [dec_entry0]
  refine wpAny_bind (wpAny_rule ?_)
  exact wpAny_bind (wpAny_mkStr (wpAny_pure ⟨_, rfl, hS _ _⟩) (by decide))
theorem encode4 {a b c d : Nat} (ha : a < 128) (hb : b < 128) (hc : c < 128) (hd : d < 128)
    (h : ∀ t' k, Q (.bytes #[a.toUInt8, b.toUInt8, c.toUInt8, d.toUInt8] t') { s with toks := k }) : wpAny (model prog w) A (call (.builtin "str.encode") [.str ⟨#[a, b, c, d]⟩ t, .str (Str.ofString "ascii") u]) Q E s := by
  refine call_meets (S := fun _ R s => ∀ t' k, R (.ok (.ret (.bytes #[a.toUInt8, b.toUInt8, c.toUInt8, d.toUInt8] t'))) { s with toks := k }) F.slot_str_encode (typeIs_str _ _ _) F.entry_str_encode (F.args_str_encode_2 _ _) (.of_wp fun prog w A R s hS => ?_) h
  rw [enc_entry, eroad_asc, enc4 ha hb hc hd]
  refine wpAny_bind (wpAny_bind (wpAny_pure ?_))
  exact wpAny_mkBytes (wpAny_pure ⟨_, rfl, hS _ _⟩) (show 4 ≤ sizeLine by decide)
theorem encode0 (h : ∀ t' k, Q (.bytes #[] t') { s with toks := k }) : wpAny (model prog w) A (call (.builtin "str.encode") [.str ⟨#[]⟩ t, .str (Str.ofString "ascii") u]) Q E s := by
  refine call_meets (S := fun _ R s => ∀ t' k, R (.ok (.ret (.bytes #[] t'))) { s with toks := k }) F.slot_str_encode (typeIs_str _ _ _) F.entry_str_encode (F.args_str_encode_2 _ _) (.of_wp fun prog w A R s hS => ?_) h
  rw [enc_entry, eroad_asc, enc0]
  refine wpAny_bind (wpAny_bind (wpAny_pure ?_))
  exact wpAny_mkBytes (wpAny_pure ⟨_, rfl, hS _ _⟩) (by decide)
theorem gm_encode {M : Model} {x : Str} {pl : Sem Bool} {Q : Value × List Value → Shared → Prop} (h : Q (.builtin "str.encode", [.str x t]) s) : wpAny M A (getMethod (.str x t) (Str.ofString "encode") pl) Q E s := by
  with_reducible exact GM.of (.str x t) (typeIs_str _ _ _) F.slot_str_encode F.type_str_encode GM.noRef h
end
end Mine
end

section
open PySem PySem.W PyProof.Rows PySem.Calls PySem.SeqAt
set_option maxRecDepth 100000
set_option maxHeartbeats 400000
set_option linter.unusedVariables false
set_option linter.unusedSimpArgs false
namespace Mine
/-- the figure of a sign -/
noncomputable def b64v (c : Int) : Int := if 65 ≤ c ∧ c ≤ 90 then c - 65 else if 97 ≤ c ∧ c ≤ 122 then c - 71 else if 48 ≤ c ∧ c ≤ 57 then c + 4 else if c = 43 then 62 else if c = 47 then 63 else 64
/-- the sign of a figure -/
noncomputable def ch (i : Int) : Int := ((b64l.getD i.toNat 0).toNat : Int)
noncomputable abbrev Nms := List (Str × NameKind)
noncomputable def isLoc (nm : Nms) (x : Str) : Bool := match nm.lookup x with | some .local => !(x == ("__debug__" : Str)) | _ => false
noncomputable def isGlb (nm : Nms) (x : Str) : Bool := match nm.lookup x with | some .globalImplicit => true | _ => false
theorem isLoc_iff {nm : Nms} {x : Str} (h : isLoc nm x = true) : nm.lookup x = some .local ∧ (x == ("__debug__" : Str)) = false := by
  unfold isLoc at h
  split at h
  · exact ⟨by assumption, by simpa using h⟩
  · cases h
theorem isGlb_iff {nm : Nms} {x : Str} (h : isGlb nm x = true) : nm.lookup x = some .globalImplicit := by
  unfold isGlb at h
  split at h
  · assumption
  · cases h
/-- what an operator gives, and what it asks -/
noncomputable def bin : Operator → Int → Int → Option (Int × Prop)
  | .Add, a, b => some (a + b, True)
  | .Sub, a, b => some (a - b, True)
  | .BitAnd, a, b => some (Builtin.bitAnd a b, True)
  | .BitOr, a, b => some (Builtin.bitOr a b, True)
  | .LShift, a, b => some (a * 2 ^ b.toNat, 0 ≤ b ∧ b ≤ 1000000 ∧ a.natAbs < 2 ^ 64)
  | .RShift, a, b => some (a.fdiv (2 ^ b.toNat), 0 ≤ b)
  | _, _, _ => none
noncomputable abbrev IV := List (Str × Int)
noncomputable abbrev XR := Option (Int × Prop)
noncomputable def constX : Const → XR
  | .int i => some (i, True)
  | _ => none
noncomputable def nameX (nm : Nms) (iv : IV) (x : Str) : XR := if isLoc nm x then (iv.lookup x).map fun i => (i, True) else none
noncomputable def binX (rec : Expr → XR) (l : Expr) (op : Operator) (r : Expr) : XR := (rec l).bind fun a => (rec r).bind fun b => (bin op a.1 b.1).map fun c => (c.1, a.2 ∧ b.2 ∧ c.2)
noncomputable def isName : Expr → Option (Str × Pos)
  | .Name x p => some (x, p)
  | _ => none
noncomputable def isBin : Expr → Bool
  | .BinOp .. => true
  | _ => false
noncomputable def callX (rec : Expr → XR) (cl : Bool) (nm : Nms) (g : Expr) : List Expr → List Keyword → XR
  | [a], [] => (isName g).bind fun x => (isName a).bind fun y => if cl && (x.1 == S "_b64_value") && isGlb nm x.1 then (rec a).map fun a => (b64v a.1, a.2) else none
  | _, _ => none
noncomputable def subX (rec : Expr → XR) (nm : Nms) (g s : Expr) : XR := (isName g).bind fun x => if isBin s && (x.1 == S "_B64") && isGlb nm x.1 then (rec s).map fun a => (ch a.1, a.2 ∧ 0 ≤ a.1 ∧ a.1 < 64) else none
noncomputable def stepX (rec : Expr → XR) (cl : Bool) (nm : Nms) (iv : IV) : Expr → XR
  | .Name x _ => nameX nm iv x
  | .Constant c _ _ => constX c
  | .BinOp l op r _ => binX rec l op r
  | .Call g as kws _ => callX rec cl nm g as kws
  | .Subscript g s _ => subX rec nm g s
  | _ => none
/-- an expression's int, and what it asks -/
noncomputable def evx : Nat → Bool → Nms → Expr → IV → XR
  | 0, _, _, _, _ => none
  | n + 1, cl, nm, e, iv => stepX (fun e => evx n cl nm e iv) cl nm iv e
theorem isName_iff {e : Expr} {x : Str × Pos} (h : isName e = some x) : e = .Name x.1 x.2 := by
  cases e <;> first | (cases h; rfl) | exact nomatch h
theorem isBin_iff {e : Expr} (h : isBin e = true) : ∃ l op r p, e = .BinOp l op r p := by
  cases e <;> first | exact ⟨_, _, _, _, rfl⟩ | exact nomatch h
noncomputable def cmpI : CmpOp → Int → Int → Option Bool
  | .Eq, a, b => some (a == b)
  | .NotEq, a, b => some (a != b)
  | .Lt, a, b => some (decide (a < b))
  | .LtE, a, b => some (decide (a ≤ b))
  | .Gt, a, b => some (decide (a > b))
  | .GtE, a, b => some (decide (a ≥ b))
  | _, _, _ => none
noncomputable abbrev BV := List (Str × Bool)
noncomputable abbrev TR := Option (Bool × Prop)
noncomputable def cmpT (rec : Expr → XR) (l : Expr) : List CmpOp → List Expr → TR
  | [op], [r] => (rec l).bind fun a => (rec r).bind fun b => (cmpI op a.1 b.1).map fun c => (c, a.2 ∧ b.2)
  | [o1, o2], [m, r] => (rec l).bind fun a => (rec m).bind fun b => (rec r).bind fun c => (cmpI o1 a.1 b.1).bind fun x => (cmpI o2 b.1 c.1).map fun y => (x && y, a.2 ∧ b.2 ∧ c.2)
  | _, _ => none
noncomputable def nameT (nm : Nms) (iv : IV) (bv : BV) (x : Str) : TR := if isLoc nm x then (match bv.lookup x with | some b => some (b, True) | none => (iv.lookup x).map fun i => (i != 0, True)) else none
noncomputable def notT (rec : Expr → TR) (t : Expr) : UnaryOp → TR
  | .Not => (rec t).map fun c => (!c.1, c.2)
  | _ => none
noncomputable def andT (rec : Expr → TR) : BoolOp → List Expr → TR
  | .And, [a, b] => (rec a).bind fun x => (rec b).map fun y => (x.1 && y.1, x.2 ∧ y.2)
  | _, _ => none
noncomputable def stepT (rx : Expr → XR) (rt : Expr → TR) (nm : Nms) (iv : IV) (bv : BV) : Expr → TR
  | .Compare l ops rs _ => cmpT rx l ops rs
  | .Name x _ => nameT nm iv bv x
  | .UnaryOp op t _ => notT rt t op
  | .BoolOp op es _ => andT rt op es
  | _ => none
/-- a test's truth, and what it asks -/
noncomputable def tst : Nat → Bool → Nms → Expr → IV → BV → TR
  | 0, _, _, _, _, _ => none
  | n + 1, cl, nm, e, iv, bv => stepT (fun e => evx n cl nm e iv) (fun e => tst n cl nm e iv bv) nm iv bv e
/-- where a def's code is run: what stays the same in it -/
structure Cfg where
  w : World
  mg : Str → Option Value
  mb : Str → Option Value
  dp : Nat
  un : Nat
  gd : Option (List Code)
  q : Str
  sc : Scope
  L : Addr
  f : Addr
  cd : Value
  outer : List Env
  h₀ : Heap
  cl : Bool
  D : Addr
  bv : BV
namespace Cfg
noncomputable def A (K : Cfg) : Around := ktrTop K.dp K.un K.gd K.q K.sc K.L K.f K.cd [] K.outer
noncomputable def env (K : Cfg) : Env := envX K.q K.sc K.L K.f K.cd []
noncomputable def M (K : Cfg) : Model := model PG K.w
noncomputable def st (K : Cfg) (h : Heap) : Prop := Site K.w K.mg K.mb K.sc K.L K.outer K.h₀ h
structure Ok (K : Cfg) : Prop where
  sc : K.sc.kind = .function
  v : K.cl = true → ∀ c t, GivesT K.w K.mg K.mb 1 91 [.int c t] [] rInt (b64v c) (fun _ => True)
  dp : K.cl = true → K.dp + 1 < recursionLimit
  un : K.cl = true → K.un + 100 < cLine
end Cfg
noncomputable def IvOk (m : Str → Option Value) (iv : IV) : Prop := ∀ x i, iv.lookup x = some i → ∃ t, m x = some (.int i t)
noncomputable def BvOk (m : Str → Option Value) (bv : BV) : Prop := ∀ x b, bv.lookup x = some b → m x = some (.bool b)
theorem Tri.intop {op : Operator} {a b : Int} {t u : Tok} {c : Int × Prop} {A : Around} {prog : Program} {w : World} {h : Heap} (e : bin op a b = some c) (hv : c.2) : Tri (model prog w) A (binaryOp op (.int a t) (.int b u)) (fun v h' => isInt c.1 v ∧ h' = h) h := Tri.quick fun s Q E es ht hQ => by
  cases op <;> simp only [bin, Option.some.injEq, reduceCtorEq] at e <;> subst e
  · exact add_int (hQ _ _ (Nat.succ_pos _) ⟨_, rfl⟩)
  · exact sub_int (hQ _ _ (Nat.succ_pos _) ⟨_, rfl⟩)
  · exact PyProof.Rows.lshift_int_small hv.1 hv.2.1 hv.2.2 (hQ _ _ (Nat.succ_pos _) ⟨_, rfl⟩)
  · exact PyProof.Rows.rshift_int hv (hQ _ _ (Nat.succ_pos _) ⟨_, rfl⟩)
  · exact PyProof.Rows.or_int (hQ _ _ (Nat.succ_pos _) ⟨_, rfl⟩)
  · exact PyProof.Rows.and_int (hQ _ _ (Nat.succ_pos _) ⟨_, rfl⟩)
end Mine
end

section
open PySem PySem.W PyProof.Rows PySem.Calls PySem.SeqAt
set_option maxRecDepth 100000
set_option maxHeartbeats 400000
set_option linter.unusedVariables false
set_option linter.unusedSimpArgs false
namespace Mine
theorem gB64 {P : Params} : nsIn (KK P) mainGlobals (S "_B64") = some (some (.bytes b64l.toArray 271)) := by kernel_rfl
section
variable {K : Cfg} {iv : IV} {cl : Bool}
/-- what it is that an expression gives i -/
noncomputable def GoodX (K : Cfg) (iv : IV) (e : Expr) (i : Int) : Prop := ∀ h m, K.st h → h.Ns K.L m → IvOk m iv → Tri K.M K.A (eval e K.env) (fun v h' => Keeps h h' ∧ isInt i v) h
theorem callX_iff {rec : Expr → XR} {nm : Nms} {g : Expr} {as : List Expr} {kws : List Keyword} {c : Int × Prop} (h : callX rec cl nm g as kws = some c) : ∃ p y py a, g = .Name (S "_b64_value") p ∧ as = [.Name y py] ∧ kws = [] ∧ cl = true ∧ isGlb nm (S "_b64_value") = true ∧ rec (.Name y py) = some a ∧ c = (b64v a.1, a.2) := by
  unfold callX at h
  split at h
  · simp only [Option.bind_eq_some_iff] at h
    obtain ⟨⟨x, px⟩, hx, ⟨y, py⟩, hy, h⟩ := h
    obtain rfl := isName_iff hx
    obtain rfl := isName_iff hy
    split at h
    · rename_i hl
      simp only [Bool.and_eq_true, beq_iff_eq] at hl
      obtain ⟨a, ea, rfl⟩ := Option.map_eq_some_iff.mp h
      obtain rfl : x = S "_b64_value" := hl.1.2
      exact ⟨_, _, _, a, rfl, rfl, rfl, hl.1.1, hl.2, ea, rfl⟩
    · cases h
  · cases h
theorem subX_iff {rec : Expr → XR} {nm : Nms} {g s : Expr} {c : Int × Prop} (h : subX rec nm g s = some c) : ∃ p l op r ps a, g = .Name (S "_B64") p ∧ s = .BinOp l op r ps ∧ isGlb nm (S "_B64") = true ∧ rec s = some a ∧ c = (ch a.1, a.2 ∧ 0 ≤ a.1 ∧ a.1 < 64) := by
  unfold subX at h
  simp only [Option.bind_eq_some_iff] at h
  obtain ⟨⟨x, px⟩, hx, h⟩ := h
  obtain rfl := isName_iff hx
  split at h
  · rename_i hl
    simp only [Bool.and_eq_true, beq_iff_eq] at hl
    obtain ⟨a, ea, rfl⟩ := Option.map_eq_some_iff.mp h
    obtain ⟨l, op, r, ps, rfl⟩ := isBin_iff hl.1.1
    obtain rfl : x = S "_B64" := hl.1.2
    exact ⟨_, l, op, r, ps, a, rfl, rfl, hl.2, ea, rfl⟩
  · cases h
theorem stepX_ok (O : K.Ok) {rec : Expr → XR} (ih : ∀ e c, rec e = some c → c.2 → GoodX K iv e c.1) (e : Expr) (c : Int × Prop) (ev : stepX rec K.cl K.sc.names iv e = some c) (hc : c.2) : GoodX K iv e c.1 := by
  intro h m ST N hm
  cases e
  case Name x p =>
    change nameX K.sc.names iv x = some c at ev
    unfold nameX at ev
    split at ev
    · rename_i hl
      obtain ⟨i, ei, rfl⟩ := Option.map_eq_some_iff.mp ev
      obtain ⟨t, et⟩ := hm x i ei
      have hx := isLoc_iff hl
      exact (PX.local (env := K.env) N et O.sc hx.1 hx.2).here.mono fun v h' q => ⟨q.2 ▸ Keeps.refl _, t, q.1⟩
    · cases ev
  case Constant k _ _ =>
    change constX k = some c at ev
    unfold constX at ev
    split at ev
    · cases ev
      exact PX.const_int.here.mono fun v h' q => ⟨q.2 ▸ Keeps.refl _, q.1⟩
    · cases ev
  case BinOp l op r p =>
    change binX rec l op r = some c at ev
    simp only [binX, Option.bind_eq_some_iff, Option.map_eq_some_iff] at ev
    obtain ⟨a, ea, b, eb, d, ed, rfl⟩ := ev
    refine Tri.binop ((ih l a ea hc.1 _ _ ST N hm).mono fun u h₁ q => ?_)
    obtain ⟨k₁, t, rfl⟩ := q
    refine (ih r b eb hc.2.1 _ _ (Site.keeps ST k₁) (N.keeps k₁) hm).mono fun u h₂ q => ?_
    obtain ⟨k₂, t, rfl⟩ := q
    exact (Tri.intop ed hc.2.2).mono fun v h' q => ⟨q.2 ▸ k₁.trans k₂, q.1⟩
  case Call g as kws p =>
    obtain ⟨pg, y, py, a, rfl, rfl, rfl, hcl, hg, ea, rfl⟩ := callX_iff ev
    refine Tri.call1 (PX.glob (env := K.env) ST g91 (hk := O.sc) (hx := isGlb_iff hg)) (Site.keep ST _ _ (Site.frag ST _ _ f91)) rfl ?_
    refine (ih _ a ea hc _ _ ST N hm).mono fun u h₁ q => ?_
    obtain ⟨k₁, t, rfl⟩ := q
    exact ⟨k₁, ((O.v hcl a.1 t) _ _ K.gd _ _ _ _ _ _ _ h₁ K.L (Site.keeps ST k₁) (O.dp hcl) (by have := O.un hcl; omega) trivial).mono fun v h₂ q => ⟨k₁.trans q.1, q.2 [] fun b hb => by cases hb⟩⟩
  case Subscript g s p =>
    obtain ⟨pg, l, op, r, ps, a, rfl, rfl, hg, ea, rfl⟩ := subX_iff ev
    refine Tri.sub ((PX.glob (env := K.env) ST gB64 (hk := O.sc) (hx := isGlb_iff hg)).here.mono fun u h₁ q => ?_)
    obtain ⟨rfl, rfl⟩ := q
    refine (ih _ a ea hc.1 _ _ ST N hm).mono fun u h₁ q => ?_
    obtain ⟨k₁, t, rfl⟩ := q
    exact (Tri.quick (Q' := isInt (ch a.1)) fun s Q E es ht hQ => bytes_item_K (x := b64l) (by decide) hc.2.1 hc.2.2 rfl (hQ _ _ (Nat.succ_pos _) ⟨_, rfl⟩)).mono fun v h' q => ⟨q.2 ▸ k₁, q.1⟩
  all_goals exact nomatch ev
/-- the evaluator speaks true of expressions -/
theorem evx_ok (O : K.Ok) (n : Nat) : ∀ (e : Expr) (c : Int × Prop), evx n K.cl K.sc.names e iv = some c → c.2 → GoodX K iv e c.1 := by
  induction n with
  | zero => intro e c ev; exact nomatch ev
  | succ n ih => intro e c ev hc; exact stepX_ok O ih e c ev hc
end
end Mine
end

section
open PySem PySem.W PyProof.Rows PySem.Calls PySem.SeqAt
set_option maxRecDepth 100000
set_option maxHeartbeats 400000
set_option linter.unusedVariables false
set_option linter.unusedSimpArgs false
namespace Mine
section
variable {K : Cfg} {iv : IV} {w : World} {h : Heap}
theorem Tri.intcmp {op : CmpOp} {a b : Int} {t u : Tok} {c : Bool} {A : Around} {prog : Program} (e : cmpI op a b = some c) : Tri (model prog w) A (compareOp op (.int a t) (.int b u)) (fun v h' => v = .bool c ∧ h' = h) h := Tri.quick fun s Q E es ht hQ => by
  cases op <;> simp only [cmpI, Option.some.injEq, reduceCtorEq] at e <;> subst e
  · exact PySem.P.eq_int (hQ _ _ ht rfl)
  · exact PySem.P.ne_int (hQ _ _ ht rfl)
  · exact PySem.P.lt_int (hQ _ _ ht rfl)
  · exact PySem.P.le_int (hQ _ _ ht rfl)
  · exact PySem.P.gt_int (hQ _ _ ht rfl)
  · exact PySem.P.ge_int (hQ _ _ ht rfl)
theorem marks_int {op : CmpOp} {a b : Int} {c : Bool} (e : cmpI op a b = some c) (r : Expr) : behindInMarks op r = false := by
  have h : (op == .In || op == .NotIn) = false := by cases op <;> first | rfl | exact nomatch e
  unfold behindInMarks
  split
  · rw [h, Bool.and_false, Bool.false_and]
  · rfl
noncomputable def GoodT (K : Cfg) (iv : IV) (e : Expr) (c : Bool) : Prop := ∀ h m, K.st h → h.Ns K.L m → IvOk m iv → BvOk m K.bv → Tri K.M K.A (isTrue e K.env (eval e K.env)) (fun b h' => Keeps h h' ∧ b = c) h
theorem cmpT_ok {rx : Expr → XR} (ix : ∀ e c, rx e = some c → c.2 → GoodX K iv e c.1) {l : Expr} {ops : List CmpOp} {rs : List Expr} {p : Pos} {c : Bool × Prop} (ev : cmpT rx l ops rs = some c) (hc : c.2) : GoodT K iv (.Compare l ops rs p) c.1 := by
  intro h m ST N hm hb
  unfold cmpT at ev
  split at ev
  · simp only [Option.bind_eq_some_iff, Option.map_eq_some_iff] at ev
    obtain ⟨a, ea, b, eb, d, ed, rfl⟩ := ev
    refine Tri.cmpTrue ((ix _ a ea hc.1 _ _ ST N hm).mono fun u h₁ q => ?_) (marks_int ed _)
    obtain ⟨k₁, t, rfl⟩ := q
    refine (ix _ b eb hc.2 _ _ (Site.keeps ST k₁) (N.keeps k₁) hm).mono fun u h₂ q => ?_
    obtain ⟨k₂, t, rfl⟩ := q
    exact (Tri.intcmp ed).mono fun v h' q => ⟨d, q.1, q.2 ▸ k₁.trans k₂, rfl⟩
  · simp only [Option.bind_eq_some_iff, Option.map_eq_some_iff] at ev
    obtain ⟨a, ea, b, eb, d, ed, x, ex, y, ey, rfl⟩ := ev
    intro s Q E es ht hQ
    refine PyProof.Rows.isTrue_chain ((ix _ a ea hc.1 _ _ ST N hm).use es ht fun u h₁ tk₁ t₁ q => ?_) ?_
    · obtain ⟨k₁, t, rfl⟩ := q
      refine PyProof.Rows.test_link ((ix _ b eb hc.2.1 _ _ (Site.keeps ST k₁) (N.keeps k₁) hm).use rfl t₁ fun u h₂ tk₂ t₂ q => ?_)
      obtain ⟨k₂, t, rfl⟩ := q
      refine (Tri.intcmp ex).use rfl t₂ fun u h₃ tk₃ t₃ q => ?_
      obtain ⟨rfl, rfl⟩ := q
      refine wpAny_truthy_bool ?_
      cases x with
      | false => exact hQ _ _ _ t₃ ⟨k₁.trans k₂, rfl⟩
      | true =>
        refine PyProof.Rows.test_last ((ix _ d ed hc.2.2 _ _ (Site.keeps (Site.keeps ST k₁) k₂) ((N.keeps k₁).keeps k₂) hm).use rfl t₃ fun u h₄ tk₄ t₄ q => ?_)
        obtain ⟨k₄, t, rfl⟩ := q
        refine (Tri.intcmp ey).use rfl t₄ fun u h₅ tk₅ t₅ q => ?_
        obtain ⟨rfl, rfl⟩ := q
        exact wpAny_truthy_bool (hQ _ _ _ t₅ ⟨(k₁.trans k₂).trans k₄, rfl⟩)
    · show (false || behindInMarks _ _) = false
      rw [marks_int ey]; rfl
  · cases ev
theorem nameT_ok (O : K.Ok) {x : Str} {p : Pos} {c : Bool × Prop} (ev : nameT K.sc.names iv K.bv x = some c) (hc : c.2) : GoodT K iv (.Name x p) c.1 := by
  intro h m ST N hm hb
  unfold nameT at ev
  split at ev
  · rename_i hl
    have hx := isLoc_iff hl
    intro s Q E es ht hQ
    split at ev
    · rename_i b eb
      cases ev
      exact PyProof.Rows.isTrue_plain ((PX.local (env := K.env) N (hb x b eb) O.sc hx.1 hx.2).here.use es ht fun u h₁ tk₁ t₁ q => by
        obtain ⟨rfl, rfl⟩ := q
        exact wpAny_truthy_bool (hQ _ _ _ t₁ ⟨Keeps.refl _, rfl⟩))
    · obtain ⟨i, ei, rfl⟩ := Option.map_eq_some_iff.mp ev
      obtain ⟨t, et⟩ := hm x i ei
      exact PyProof.Rows.isTrue_plain ((PX.local (env := K.env) N et O.sc hx.1 hx.2).here.use es ht fun u h₁ tk₁ t₁ q => by
        obtain ⟨rfl, rfl⟩ := q
        exact PySem.P.truthy_int (hQ _ _ _ t₁ ⟨Keeps.refl _, rfl⟩))
  · cases ev
theorem andT_ok {rt : Expr → TR} (it : ∀ e c, rt e = some c → c.2 → GoodT K iv e c.1) {op : BoolOp} {es : List Expr} {p : Pos} {c : Bool × Prop} (ev : andT rt op es = some c) (hc : c.2) : GoodT K iv (.BoolOp op es p) c.1 := by
  intro h m ST N hm hb
  unfold andT at ev
  split at ev
  · simp only [Option.bind_eq_some_iff, Option.map_eq_some_iff] at ev
    obtain ⟨x, ex, y, ey, rfl⟩ := ev
    intro s Q E es ht hQ
    refine PyProof.Rows.isTrue_and ((it _ x ex hc.1 _ _ ST N hm hb).use es ht fun b₁ h₁ tk₁ t₁ q => ?_)
    obtain ⟨k₁, rfl⟩ := q
    cases hx : x.1 with
    | false => exact hQ _ _ _ t₁ ⟨k₁, by rw [hx]; rfl⟩
    | true =>
      refine PyProof.Rows.isTrue_and ((it _ y ey hc.2 _ _ (Site.keeps ST k₁) (N.keeps k₁) hm hb).use rfl t₁ fun b₂ h₂ tk₂ t₂ q => ?_)
      obtain ⟨k₂, rfl⟩ := q
      cases hy : y.1 with
      | false => exact hQ _ _ _ t₂ ⟨k₁.trans k₂, by rw [hx, hy]; rfl⟩
      | true => exact PyProof.Rows.isTrue_and_nil (hQ _ _ _ t₂ ⟨k₁.trans k₂, by rw [hx, hy]; rfl⟩)
  · cases ev
theorem stepT_ok (O : K.Ok) {rx : Expr → XR} {rt : Expr → TR} (ix : ∀ e c, rx e = some c → c.2 → GoodX K iv e c.1) (it : ∀ e c, rt e = some c → c.2 → GoodT K iv e c.1)
    (e : Expr) (c : Bool × Prop) (ev : stepT rx rt K.sc.names iv K.bv e = some c) (hc : c.2) : GoodT K iv e c.1 := by
  cases e
  case Compare l ops rs p => exact cmpT_ok ix ev hc
  case Name x p => exact nameT_ok O ev hc
  case BoolOp op es p => exact andT_ok it ev hc
  case UnaryOp op t p =>
    intro h m ST N hm hb
    change notT rt t op = some c at ev
    unfold notT at ev
    split at ev
    · obtain ⟨a, ea, rfl⟩ := Option.map_eq_some_iff.mp ev
      intro s Q E es ht hQ
      exact PyProof.Rows.isTrue_not ((it t a ea hc _ _ ST N hm hb).use es ht fun b h₁ tk₁ t₁ q => hQ _ _ _ t₁ ⟨q.1, by rw [q.2]⟩)
    · cases ev
  all_goals exact nomatch ev
theorem tst_ok (O : K.Ok) (n : Nat) : ∀ (e : Expr) (c : Bool × Prop), tst n K.cl K.sc.names e iv K.bv = some c → c.2 → GoodT K iv e c.1 := by
  induction n with
  | zero => intro e c ev; exact nomatch ev
  | succ n ih => intro e c ev hc; exact stepT_ok O (evx_ok O n) ih e c ev hc
end
end Mine
end

section
open PySem PySem.W PyProof.Rows PySem.Calls PySem.SeqAt
set_option maxRecDepth 100000
set_option maxHeartbeats 400000
set_option linter.unusedVariables false
set_option linter.unusedSimpArgs false
namespace Mine
structure Sg where
  iv : IV
  out : List Int
inductive Fl where | nxt | cnt | ret (i : Int) | stop (l : List Stmt)
inductive Job where | blk (l : List Stmt) | lp (t : Expr) (b : List Stmt)
structure Rs where
  cs : List Bool
  fl : Fl
  σ : Sg
  vc : Prop
noncomputable def Rs.and (p : Prop) (r : Rs) : Rs := { r with vc := p ∧ r.vc }
noncomputable abbrev Rec := Job → List Bool → Sg → Option Rs
/-- behind a block that ended as r tells -/
noncomputable def thenR (rec : Rec) (rest : List Stmt) (p : Prop) (r : Rs) : Option Rs := match r.fl with
  | .nxt => (rec (.blk rest) r.cs r.σ).map fun r' => r'.and (p ∧ r.vc)
  | .stop _ => none
  | _ => some (r.and p)
noncomputable def lpR (rec : Rec) (rt : IV → Expr → TR) (t : Expr) (b : List Stmt) (σ : Sg) : List Bool → Option Rs
  | c :: cs => (rt σ.iv t).bind fun v => if c then (rec (.blk b) cs σ).bind fun r => (match r.fl with
      | .nxt => (rec (.lp t b) r.cs r.σ).map fun r' => r'.and (v.1 = c ∧ v.2 ∧ r.vc)
      | _ => none) else some ⟨cs, .nxt, σ, v.1 = c ∧ v.2⟩
  | [] => none
noncomputable def assR (rec : Rec) (rx : IV → Expr → XR) (nm : Nms) (bv : BV) (rest : List Stmt) (cs : List Bool) (σ : Sg) (e : Expr) : List Expr → Option Rs
  | [t] => (isName t).bind fun x => if isLoc nm x.1 && !(x.1 == S "out") && (bv.lookup x.1).isNone then (rx σ.iv e).bind fun a => (rec (.blk rest) cs ⟨(x.1, a.1) :: σ.iv, σ.out⟩).map fun r => r.and a.2 else none
  | _ => none
noncomputable def isAttr : Expr → Option (Expr × Str × Pos)
  | .Attribute o a p => some (o, a, p)
  | _ => none
theorem isAttr_iff {e : Expr} {x : Expr × Str × Pos} (h : isAttr e = some x) : e = .Attribute x.1 x.2.1 x.2.2 := by
  cases e <;> first | (cases h; rfl) | exact nomatch h
noncomputable def appR (rec : Rec) (rx : IV → Expr → XR) (cl : Bool) (nm : Nms) (rest : List Stmt) (cs : List Bool) (σ : Sg) (f : Expr) (pos : Pos) : List Expr → List Keyword → Option Rs
  | [e], [] => (isAttr f).bind fun y => (isName y.1).bind fun o => if (y.2.2.endLine == pos.line) && cl && (o.1 == S "out") && (y.2.1 == S "append") && isLoc nm o.1 && decide (σ.out.length < 100) then (rx σ.iv e).bind fun a => (rec (.blk rest) cs ⟨σ.iv, σ.out ++ [a.1]⟩).map fun r => r.and a.2 else none
  | _, _ => none
noncomputable def exprR (rec : Rec) (rx : IV → Expr → XR) (cl : Bool) (nm : Nms) (rest : List Stmt) (cs : List Bool) (σ : Sg) : Expr → Option Rs
  | .Call f as kws pos => appR rec rx cl nm rest cs σ f pos as kws
  | _ => none
noncomputable def ifR (rec : Rec) (rt : IV → Expr → TR) (rest : List Stmt) (t : Expr) (b o : List Stmt) (σ : Sg) : List Bool → Option Rs
  | c :: cs => (rt σ.iv t).bind fun v => (rec (.blk (if c then b else o)) cs σ).bind fun r => thenR rec rest (v.1 = c ∧ v.2) r
  | [] => none
noncomputable def whR (rec : Rec) (rest : List Stmt) (t : Expr) (b : List Stmt) (cs : List Bool) (σ : Sg) : List Stmt → Option Rs
  | [] => (rec (.lp t b) cs σ).bind fun r => (match r.fl with
      | .nxt => (rec (.blk rest) r.cs r.σ).map fun r' => r'.and r.vc
      | _ => none)
  | _ => none
noncomputable def stopR (cs : List Bool) (σ : Sg) (l : List Stmt) : Option Rs := some ⟨cs, .stop l, σ, True⟩
noncomputable def isCall : Expr → Bool
  | .Call .. => true
  | _ => false
noncomputable def retR (rx : IV → Expr → XR) (rest : List Stmt) (p : Pos) (cs : List Bool) (σ : Sg) : Option Expr → Option Rs
  | some e => if isCall e then stopR cs σ (.Return (some e) p :: rest) else (rx σ.iv e).map fun a => ⟨cs, .ret a.1, σ, a.2⟩
  | none => none
noncomputable def stmR (rec : Rec) (rx : IV → Expr → XR) (rt : IV → Expr → TR) (cl : Bool) (nm : Nms) (bv : BV) (rest : List Stmt) (cs : List Bool) (σ : Sg) : Stmt → Option Rs
  | .Assign ts e _ => assR rec rx nm bv rest cs σ e ts
  | .Expr e _ => exprR rec rx cl nm rest cs σ e
  | .For t i b o p => stopR cs σ (.For t i b o p :: rest)
  | .If t b o _ => ifR rec rt rest t b o σ cs
  | .While t b o _ => whR rec rest t b cs σ o
  | .Continue _ => some ⟨cs, .cnt, σ, True⟩
  | .Return v p => retR rx rest p cs σ v
  | _ => none
noncomputable def jobR (rec : Rec) (rx : IV → Expr → XR) (rt : IV → Expr → TR) (cl : Bool) (nm : Nms) (bv : BV) (cs : List Bool) (σ : Sg) : Job → Option Rs
  | .lp t b => lpR rec rt t b σ cs
  | .blk [] => some ⟨cs, .nxt, σ, True⟩
  | .blk (st :: rest) => stmR rec rx rt cl nm bv rest cs σ st
/-- statements, run by given choices; what it asks -/
noncomputable def run (cl : Bool) (nm : Nms) (bv : BV) : Nat → Job → List Bool → Sg → Option Rs
  | 0, _, _, _ => none
  | n + 1, j, cs, σ => jobR (fun j cs σ => run cl nm bv n j cs σ) (fun iv e => evx n cl nm e iv) (fun iv e => tst n cl nm e iv bv) cl nm bv cs σ j
/-- what a state stands for -/
structure Rp (K : Cfg) (σ : Sg) (h : Heap) : Prop where
  st : K.st h
  fr : ∃ m, h.Ns K.L m ∧ IvOk m σ.iv ∧ BvOk m K.bv ∧ (K.cl = true → m (S "out") = some (.ref K.D))
  ls : K.cl = true → ∃ ys : Array Value, h.PlainList K.D ys ∧ IntsAre ys.toList σ.out
  nD : K.cl = true → K.h₀.get? K.D = none ∧ K.L ≠ K.D
section
variable {K : Cfg} {h h' : Heap} {σ : Sg}
theorem Rp.keeps (x : Rp K σ h) (k : Keeps h h') : Rp K σ h' := by
  obtain ⟨m, n, a, b, c⟩ := x.fr
  exact ⟨Site.keeps x.st k, ⟨m, n.keeps k, a, b, c⟩, fun e => let ⟨ys, p, i⟩ := x.ls e; ⟨ys, p.at fun o q => k _ _ q, i⟩, x.nD⟩
theorem Rp.noL (x : Rp K σ h) : K.h₀.get? K.L = none := Site.noL x.st
theorem lookup_cons {α : Type} {x y : Str} {a : α} {l : List (Str × α)} : ((x, a) :: l).lookup y = if y = x then some a else l.lookup y := by
  rw [List.lookup_cons]
  by_cases e : y = x
  · rw [if_pos e, beq_iff_eq.mpr e]
  · rw [if_neg e, beq_eq_false_iff_ne.mpr e]
/-- a name is set -/
theorem Rp.set (x : Rp K σ h) {y : Str} {i : Int} {t : Tok} {m : Str → Option Value} (a : IvOk m σ.iv) (b : BvOk m K.bv) (c : K.cl = true → m (S "out") = some (.ref K.D)) (n : h'.Ns K.L (fun z => if z = y then some (.int i t) else m z)) (k1 : KM [K.L] h h') (ho : y ≠ S "out") (hb : K.bv.lookup y = none) :
    Rp K ⟨(y, i) :: σ.iv, σ.out⟩ h' := by
  refine ⟨Site.km x.st k1 (fun b hb => by rw [List.mem_singleton.mp hb]; exact x.noL) n, ⟨_, n, fun z j e => ?_, fun z j e => ?_, fun e => (if_neg (Ne.symm ho)).trans (c e)⟩, fun e => ?_, x.nD⟩
  · rw [lookup_cons] at e
    by_cases q : z = y
    · rw [if_pos q] at e; cases e; exact ⟨t, if_pos q⟩
    · rw [if_neg q] at e; obtain ⟨u, eu⟩ := a z j e; exact ⟨u, (if_neg q).trans eu⟩
  · by_cases q : z = y
    · rw [q, hb] at e; cases e
    · exact (if_neg q).trans (b z j e)
  · obtain ⟨ys, p, i⟩ := x.ls e
    exact ⟨ys, p.at fun o q => k1 _ _ (fun r => (x.nD e).2 (List.mem_singleton.mp r).symm) q, i⟩
theorem Rp.push (x : Rp K σ h) (hcl : K.cl = true) {ys : Array Value} {i : Int} {t : Tok} (hi : IntsAre ys.toList σ.out) (p : h'.PlainList K.D (ys.push (.int i t))) (k1 : KM [K.D] h h') :
    Rp K ⟨σ.iv, σ.out ++ [i]⟩ h' := by
  obtain ⟨m, n, a, b, c⟩ := x.fr
  have n' : h'.Ns K.L m := k1.ns n fun q => (x.nD hcl).2 (List.mem_singleton.mp q)
  exact ⟨Site.km x.st k1 (fun b hb => by rw [List.mem_singleton.mp hb]; exact (x.nD hcl).1) n', ⟨m, n', a, b, c⟩, fun _ => ⟨_, p, intsAre_push hi⟩, x.nD⟩
/-- how a run may end: P holds there -/
noncomputable def Ends (K : Cfg) (r : Rs) (h : Heap) (P : Flow → Heap → Prop) : Prop := ∀ h', KM [K.L, K.D] h h' → Rp K r.σ h' → match r.fl with
  | .nxt => P .next h'
  | .cnt => P .cont h'
  | .ret i => ∀ v, isInt i v → P (.ret v) h'
  | .stop l => Tri K.M K.A (execs l K.env) P h'
theorem Ends.km {r : Rs} {P : Flow → Heap → Prop} (x : Ends K r h P) (k : KM [K.L, K.D] h h') : Ends K r h' P := fun h'' k' X => x h'' (k.trans k') X
end
end Mine
end

section
open PySem PySem.W PyProof.Rows PySem.Calls PySem.SeqAt
set_option maxRecDepth 100000
set_option maxHeartbeats 400000
set_option linter.unusedVariables false
set_option linter.unusedSimpArgs false
namespace Mine
section
variable {K : Cfg} {cl : Bool}
theorem swap_of {n : Nat} {nm : Nms} {e : Expr} {iv : IV} {c : Int × Prop} (ev : evx n cl nm e iv = some c) (t : Option Expr) (l : Nat) (env : Env) : swapsWith e t l env = Pure.pure false := by
  cases n with
  | zero => exact nomatch ev
  | succ n => cases e <;> first | rfl | exact nomatch ev
theorem star_of {n : Nat} {nm : Nms} {e : Expr} {iv : IV} {c : Int × Prop} (ev : evx n cl nm e iv = some c) (rest : List Expr) (env : Env) : starEach (e :: rest) env = (false, eval e env) :: starEach rest env := by
  cases n with
  | zero => exact nomatch ev
  | succ n => cases e <;> first | rfl | exact nomatch ev
theorem call_of {n : Nat} {nm : Nms} {e : Expr} {iv : IV} {c : Int × Prop} (ev : evx n cl nm e iv = some c) {o : Str} {p0 p pos : Pos} {env : Env} (hl : (p.endLine == pos.line) = true) : eval (.Call (.Attribute (.Name o p0) (Str.ofString "append") p) [e] [] pos) env = (do
      let ov ← eval (.Name o p0) env
      standAt p.atName
      let (f, first) ← holding [ov] (getMethod ov (Str.ofString "append") (do return (← importBound (.Name o p0) env).getD true))
      callWith pos f first (backTo pos (starEach [e] env)) []) := by
  have hpos : methodCallPos true (.Name o p0) env p pos = Pure.pure pos := by unfold methodCallPos; rw [hl]; rfl
  show (do
    let ov ← eval (.Name o p0) env
    standAt p.atName
    methodCall (.Name o p0) (Str.ofString "append") p pos env ov ([e].length + 0) (backTo pos (starEach [e] env)) []) = _
  rw [star_of ev [] env]
  show (do
    let ov ← eval (.Name o p0) env
    standAt p.atName
    let (f, first) ← holding [ov] (getMethod ov (Str.ofString "append") (do return (← importBound (.Name o p0) env).getD true))
    let cp ← methodCallPos true (.Name o p0) env p pos
    callWith cp f first _ []) = _
  simp only [hpos, pure_bind]
theorem inter_ne {env : Env} (h : env.scope.kind = .function) : interactive env = false := by unfold interactive; rw [h]; rfl
theorem kind_ne {k : ScopeKind} (h : k = .function) {b : Bool} : (k == .class || (k == .module && b)) = false := by subst h; rfl
/-- what it is that statements, from σ, end as r tells -/
noncomputable def GoodR (K : Cfg) (l : List Stmt) (σ : Sg) (r : Rs) : Prop := ∀ h P, Rp K σ h → Ends K r h P → Tri K.M K.A (execs l K.env) P h
noncomputable abbrev rn (K : Cfg) (n : Nat) : Rec := fun j cs σ => run K.cl K.sc.names K.bv n j cs σ
noncomputable abbrev rx (K : Cfg) (n : Nat) (iv : IV) (e : Expr) : XR := evx n K.cl K.sc.names e iv
noncomputable abbrev rt (K : Cfg) (n : Nat) (iv : IV) (e : Expr) : TR := tst n K.cl K.sc.names e iv K.bv
/-- all jobs up to n -/
noncomputable def Upto (K : Cfg) (n : Nat) : Prop := ∀ k, k ≤ n → ∀ l cs σ r, rn K k (.blk l) cs σ = some r → r.vc → GoodR K l σ r
section
variable {n : Nat} {rest : List Stmt} {cs : List Bool} {σ : Sg} {r : Rs} {p : Pos} (O : K.Ok) (ih : Upto K n)
include O ih
theorem ass_ok {e : Expr} {ts : List Expr} (hr : assR (rn K n) (rx K n) K.sc.names K.bv rest cs σ e ts = some r) (hc : r.vc) : GoodR K (.Assign ts e p :: rest) σ r := by
  intro h P X hP
  obtain ⟨m, N, hm, hb, ho⟩ := X.fr
  unfold assR at hr
  split at hr
  · simp only [Option.bind_eq_some_iff] at hr
    obtain ⟨⟨x, px⟩, hx, hr⟩ := hr
    obtain rfl := isName_iff hx
    split at hr
    · rename_i hl
      simp only [Bool.and_eq_true, Bool.not_eq_true', Option.isNone_iff_eq_none] at hl
      simp only [Option.bind_eq_some_iff, Option.map_eq_some_iff] at hr
      obtain ⟨a, ea, r', er, rfl⟩ := hr
      refine Tri.then (Tri.asgLocal (env := K.env) ((evx_ok O n _ a ea hc.1 _ _ X.st N hm).mono fun v h₁ g => ?_) (swap_of ea _ _ _) (isLoc_iff hl.1.1).1 (kind_ne O.sc))
      obtain ⟨k₁, t, rfl⟩ := g
      have k0 : KM [K.L, K.D] h h₁ := Keeps.km k₁
      exact ⟨m, N.keeps k₁, fun h₂ n₂ s₂ => ⟨rfl, ih n (Nat.le_refl _) _ _ _ r' er hc.2 _ _ ((X.keeps k₁).set hm hb ho n₂ (km_but s₂ (.head _)) (beq_eq_false_iff_ne.mp hl.1.2) hl.2) (Ends.km hP (k0.trans (km_but s₂ (.head _))))⟩⟩
    · cases hr
  · cases hr
theorem app_ok {e : Expr} (hr : exprR (rn K n) (rx K n) K.cl K.sc.names rest cs σ e = some r) (hc : r.vc) : GoodR K (.Expr e p :: rest) σ r := by
  intro h P X hP
  obtain ⟨m, N, hm, hb, ho⟩ := X.fr
  unfold exprR at hr
  split at hr
  · unfold appR at hr
    split at hr
    · simp only [Option.bind_eq_some_iff] at hr
      obtain ⟨⟨y, ya, yp⟩, hy, ⟨o, po⟩, hno, hr⟩ := hr
      obtain rfl := isAttr_iff hy
      obtain rfl := isName_iff hno
      split at hr
      · rename_i hl
        simp only [Bool.and_eq_true, decide_eq_true_eq] at hl
        obtain rfl : o = S "out" := beq_iff_eq.mp hl.1.1.1.2
        obtain rfl : ya = S "append" := beq_iff_eq.mp hl.1.1.2
        have hcl := hl.1.1.1.1.2
        simp only [Option.bind_eq_some_iff, Option.map_eq_some_iff] at hr
        obtain ⟨a, ea, r', er, rfl⟩ := hr
        obtain ⟨ys, hp, hi⟩ := X.ls hcl
        have hx := isLoc_iff hl.1.2
        refine Tri.then (Tri.appendE (hc := call_of ea hl.1.1.1.1.1) (hi := inter_ne O.sc) (env := K.env) (PX.local (env := K.env) N (ho hcl) O.sc hx.1 hx.2) hp (by have := hi.length; have := hl.2; simp at *; omega) ((evx_ok O n _ a ea hc.1 _ _ X.st N hm).mono fun v h₁ g => ?_) (star_of ea _ _))
        obtain ⟨k₁, t, rfl⟩ := g
        have k0 : KM [K.L, K.D] h h₁ := Keeps.km k₁
        exact ⟨k₁, fun h₂ p₂ s₂ => ⟨rfl, ih n (Nat.le_refl _) _ _ _ r' er hc.2 _ _ ((X.keeps k₁).push hcl hi p₂ (km_but s₂ (.head _))) (Ends.km hP (k0.trans (km_but s₂ (.tail _ (.head _)))))⟩⟩
      · cases hr
    · cases hr
  · cases hr
theorem if_ok {t : Expr} {b o : List Stmt} (hr : ifR (rn K n) (rt K n) rest t b o σ cs = some r) (hc : r.vc) : GoodR K (.If t b o p :: rest) σ r := by
  intro h P X hP
  obtain ⟨m, N, hm, hb, ho⟩ := X.fr
  cases cs with
  | nil => exact nomatch hr
  | cons c cs =>
  simp only [ifR, Option.bind_eq_some_iff] at hr
  obtain ⟨v, ev, r', er, hr⟩ := hr
  have body : ∀ {h₁ : Heap}, Keeps h h₁ → r'.vc → Tri K.M K.A (execs (if c then b else o) K.env) (fun f h₂ => (f = .next ∧ Tri K.M K.A (execs rest K.env) P h₂) ∨ (f ≠ .next ∧ P f h₂)) h₁ := fun k₁ hv => by
    refine ih n (Nat.le_refl _) _ _ _ r' er hv _ _ (X.keeps k₁) fun h₂ k₂ X₂ => ?_
    have k12 : KM [K.L, K.D] h h₂ := KM.trans (Keeps.km k₁) k₂
    unfold thenR at hr
    cases hf : r'.fl with
    | nxt =>
      rw [hf] at hr
      obtain ⟨r2, e2, rfl⟩ := Option.map_eq_some_iff.mp hr
      exact .inl ⟨rfl, ih n (Nat.le_refl _) _ _ _ r2 e2 hc.2 _ _ X₂ (Ends.km hP k12)⟩
    | cnt =>
      rw [hf] at hr
      cases hr
      have := hP h₂ k12 X₂
      rw [show (r'.and (v.1 = c ∧ v.2)).fl = .cnt from hf] at this
      exact .inr ⟨(fun e => nomatch e), this⟩
    | ret i =>
      rw [hf] at hr
      cases hr
      have := hP h₂ k12 X₂
      rw [show (r'.and (v.1 = c ∧ v.2)).fl = .ret i from hf] at this
      exact fun w hw => .inr ⟨(fun e => nomatch e), this w hw⟩
    | stop l => rw [hf] at hr; cases hr
  have hv : (v.1 = c ∧ v.2) ∧ r'.vc := by
    unfold thenR at hr
    cases hf : r'.fl with
    | nxt => rw [hf] at hr; obtain ⟨r2, e2, rfl⟩ := Option.map_eq_some_iff.mp hr; exact hc.1
    | cnt => rw [hf] at hr; cases hr; exact hc
    | ret i => rw [hf] at hr; cases hr; exact hc
    | stop l => rw [hf] at hr; cases hr
  refine Tri.cons (Tri.cond ((tst_ok O n t v ev hv.1.2 _ _ X.st N hm hb).mono fun b₁ h₁ g => ?_))
  rw [g.2, hv.1.1]
  cases c with
  | true => exact body g.1 hv.2
  | false => exact body g.1 hv.2
/-- a loop's state between the turns -/
structure AtLp (K : Cfg) (n : Nat) (t : Expr) (b : List Stmt) (σe : Sg) (h : Heap) (k : Nat) (cs : List Bool) (σ : Sg) (r : Rs) (g : Heap) : Prop where
  le : k ≤ n
  er : rn K k (.lp t b) cs σ = some r
  vc : r.vc
  eq : r.σ = σe
  km : KM [K.L, K.D] h g
  X : Rp K σ g
omit O in
theorem wh_turn {t : Expr} {b : List Stmt} {σe : Sg} {h : Heap} {k : Nat} {c : Bool} {σ' : Sg} {r' : Rs} {g : Heap} (x : AtLp K n t b σe h (k + 1) (c :: cs) σ' r' g) : ∃ v, tst k K.cl K.sc.names t σ'.iv K.bv = some v ∧ v.1 = c ∧ v.2 ∧
    (c = false → r'.σ = σ') ∧ (c = true → ∀ g₁, Keeps g g₁ → Tri K.M K.A (execs b K.env) (fun f g₂ => f = .next ∧ ∃ cs σ r, AtLp K n t b σe h k cs σ r g₂) g₁) := by
  have er := x.er
  change lpR (rn K k) (rt K k) t b σ' (c :: cs) = some r' at er
  simp only [lpR, Option.bind_eq_some_iff] at er
  obtain ⟨v, ev, er⟩ := er
  refine ⟨v, ev, ?_⟩
  have hvc := x.vc
  cases c with
  | false =>
    simp only [Bool.false_eq_true, if_false, Option.some.injEq] at er
    subst er
    exact ⟨hvc.1, hvc.2, fun _ => rfl, fun e => nomatch e⟩
  | true =>
    simp only [if_true, Option.bind_eq_some_iff] at er
    obtain ⟨rb, eb, er⟩ := er
    cases hf : rb.fl with
    | nxt =>
      rw [hf] at er
      obtain ⟨rr, err, rfl⟩ := Option.map_eq_some_iff.mp er
      refine ⟨hvc.1.1, hvc.1.2.1, (fun e => nomatch e), fun _ g₁ k₁ => ?_⟩
      refine ih k (Nat.le_of_succ_le x.le) _ _ _ rb eb hvc.1.2.2 _ _ (x.X.keeps k₁) fun g₂ k₂ X₂ => ?_
      rw [hf]
      exact ⟨rfl, _, _, rr, Nat.le_of_succ_le x.le, err, hvc.2, x.eq, (x.km.trans (Keeps.km k₁)).trans k₂, X₂⟩
    | _ => rw [hf] at er; cases er
theorem wh_ok {t : Expr} {b : List Stmt} {h : Heap} (hr : rn K n (.lp t b) cs σ = some r) (hc : r.vc) (X : Rp K σ h) :
    Tri K.M K.A (exec (.While t b [] p) K.env) (fun fl h' => fl = .next ∧ KM [K.L, K.D] h h' ∧ Rp K r.σ h') h := by
  intro s Q E es ht hQ
  refine wpAny_While (codeAny_whileLoop (fun k s' => ∃ g tk cs' σ' r', s' = { s with heap := g, toks := tk } ∧ 0 < tk ∧ AtLp K n t b r.σ h k cs' σ' r' g) ?_ n ⟨h, s.toks, _, _, r, by subst es; rfl, ht, Nat.le_refl _, hr, hc, rfl, (fun _ _ _ e => e), X⟩)
  rintro k s' ⟨g, tk, cs', σ', r', rfl, htk, x⟩
  obtain ⟨m', N', hm', hb', _⟩ := x.X.fr
  cases k with
  | zero => exact nomatch x.er
  | succ k =>
  cases cs' with
  | nil => exact nomatch x.er
  | cons c cs' =>
  obtain ⟨v, ev, e1, e2, hf, ht'⟩ := wh_turn ih x
  refine (tst_ok O k t v ev e2 _ _ x.X.st N' hm' hb').use rfl htk fun b₁ g₁ tk₁ t₁ q => ?_
  rw [q.2, e1]
  cases c with
  | false =>
    refine wpAny_execs_nil (hQ _ _ _ t₁ ⟨rfl, x.km.trans (Keeps.km q.1), ?_⟩)
    rw [← x.eq, hf rfl]
    exact x.X.keeps q.1
  | true =>
    refine (ht' rfl g₁ q.1).use rfl t₁ fun fl g₂ tk₂ t₂ q' => ?_
    obtain ⟨rfl, cs2, σ2, r2, x2⟩ := q'
    exact ⟨k, Nat.lt_succ_self _, g₂, tk₂, cs2, σ2, r2, rfl, t₂, x2⟩
theorem stm_ok {st : Stmt} (hr : stmR (rn K n) (rx K n) (rt K n) K.cl K.sc.names K.bv rest cs σ st = some r) (hc : r.vc) : GoodR K (st :: rest) σ r := by
  cases st
  case Assign ts e p => exact ass_ok O ih hr hc
  case Expr e p => exact app_ok O ih hr hc
  case If t b o p => exact if_ok O ih hr hc
  case For t i b o p =>
    cases hr
    exact fun h P X hP => hP h (fun _ _ _ e => e) X
  case While t b o p =>
    intro h P X hP
    change whR (rn K n) rest t b cs σ o = some r at hr
    unfold whR at hr
    split at hr
    · simp only [Option.bind_eq_some_iff] at hr
      obtain ⟨r1, e1, hr⟩ := hr
      split at hr
      · obtain ⟨r2, e2, rfl⟩ := Option.map_eq_some_iff.mp hr
        exact Tri.then ((wh_ok O ih e1 hc.1 X).mono fun fl h₁ g => ⟨g.1, ih n (Nat.le_refl _) _ _ _ r2 e2 hc.2 _ _ g.2.2 (Ends.km hP g.2.1)⟩)
      · cases hr
    · cases hr
  case Continue p =>
    cases hr
    exact fun h P X hP => Tri.cons (fun s Q E es ht hQ => wpAny_Continue (by subst es; exact hQ .cont s.heap s.toks ht (.inr ⟨(fun e => nomatch e), hP _ (fun _ _ _ e => e) X⟩)))
  case Return v p =>
    intro h P X hP
    obtain ⟨m, N, hm, hb, ho⟩ := X.fr
    change retR (rx K n) rest p cs σ v = some r at hr
    unfold retR at hr
    split at hr
    · split at hr
      · cases hr
        exact hP h (fun _ _ _ e => e) X
      · obtain ⟨a, ea, rfl⟩ := Option.map_eq_some_iff.mp hr
        exact Tri.cons (Tri.ret ((evx_ok O n _ a ea hc _ _ X.st N hm).mono fun v h₁ g => .inr ⟨(fun e => nomatch e), hP h₁ (Keeps.km g.1) (X.keeps g.1) v g.2⟩))
    · cases hr
  all_goals exact nomatch hr
end
/-- the evaluator speaks true -/
theorem run_ok (O : K.Ok) (n : Nat) : Upto K n := by
  induction n using Nat.strongRecOn with
  | _ n ih =>
  intro k hk l cs σ r hr hc
  cases k with
  | zero => exact nomatch hr
  | succ k =>
  cases l with
  | nil =>
    cases hr
    exact fun h P X hP => Tri.nil (hP h (fun _ _ _ e => e) X)
  | cons st rest => exact stm_ok O (ih k hk) hr hc
end
end Mine
end

section
open PySem PySem.W PyProof.Rows PySem.Calls PySem.SeqAt
set_option maxRecDepth 100000
set_option maxHeartbeats 400000
set_option linter.unusedVariables false
set_option linter.unusedSimpArgs false
namespace Mine
/-- the scope of the top's i-th statement, a def -/
noncomputable def fscope (i : Nat) : Scope := match PySem.Challenge.pw_oy0102_01.main.body.drop i with
  | .FunctionDef _ _ _ _ _ _ scope _ _ _ :: _ => scope
  | _ => default
theorem IvOk.nil {m : Str → Option Value} : IvOk m [] := fun x i e => by cases e
theorem IvOk.cons {m : Str → Option Value} {y : Str} {i : Int} {l : IV} (h : ∃ t, m y = some (.int i t)) (r : IvOk m l) : IvOk m ((y, i) :: l) := fun x j e => by
  rw [lookup_cons] at e
  by_cases q : x = y
  · rw [if_pos q] at e; cases e; exact q ▸ h
  · rw [if_neg q] at e; exact r x j e
theorem BvOk.nil {m : Str → Option Value} : BvOk m [] := fun x i e => by cases e
theorem BvOk.cons {m : Str → Option Value} {y : Str} {b : Bool} {l : BV} (h : m y = some (.bool b)) (r : BvOk m l) : BvOk m ((y, b) :: l) := fun x j e => by
  rw [lookup_cons] at e
  by_cases q : x = y
  · rw [if_pos q] at e; cases e; exact q ▸ h
  · rw [if_neg q] at e; exact r x j e
/-- statements are run -/
theorem runs {K : Cfg} (O : K.Ok) {n : Nat} {l : List Stmt} {σ : Sg} {h : Heap} {P : Flow → Heap → Prop} (cs : List Bool) {r : Rs} (hr : rn K n (.blk l) cs σ = some r) (hc : r.vc) (X : Rp K σ h) (hP : Ends K r h P) : Tri K.M K.A (execs l K.env) P h := run_ok O n n (Nat.le_refl n) l cs σ r hr hc h P X hP
theorem b64T {w mg mb} {c : Int} {t : Tok} : GivesT w mg mb 1 91 [.int c t] [] rInt (b64v c) (fun _ => True) := by
  intro dp un gd cn cs a' ccd cl outer h₀ h L ST hdp hun hI
  refine Tri.mono (P := fun v h' => Keeps h h' ∧ isInt (b64v c) v) ?_ fun v h' q => ⟨q.1, fun G hG => q.2⟩
  refine' enterT ST ?ho ?hcd ?room ?bind ?loc ?go ?c1 ?c2 ?c3 ?c4
  case ho => exact f91
  case hcd => kernel_rfl
  case room => omega
  case bind => exact fun s e => BindsTo.of_eq rfl
  case loc => exact locs rfl
  case c1 => rfl
  case c2 => rfl
  case c3 => rfl
  case c4 => decide
  case go =>
    intro g L' h₁ kg hL' F S₁
    have O : (Cfg.mk w mg mb (dp + 1) (un + 3) gd (Str.ofString "_b64_value") (fscope 14) L' 91 (.ref 90) (envX cn cs L a' ccd cl :: outer) g false 0 []).Ok := ⟨rfl, (fun e => nomatch e), (fun e => nomatch e), fun e => nomatch e⟩
    have X : Rp _ ⟨[(S "c", c)], []⟩ h₁ := Rp.mk (K := Cfg.mk w mg mb (dp + 1) (un + 3) gd (Str.ofString "_b64_value") (fscope 14) L' 91 (.ref 90) (envX cn cs L a' ccd cl :: outer) g false 0 []) S₁ ⟨_, F.ns, IvOk.cons ⟨t, rfl⟩ IvOk.nil, BvOk.nil, fun e => nomatch e⟩ (fun e => nomatch e) (fun e => nomatch e)
    refine Tri.mono (P := fun fl h' => ∃ v, fl = .ret v ∧ isInt (b64v c) v ∧ ∃ m', Fr g L' h' m') ?_ fun fl h' q => q
    have fin : ∀ {i : Int} {h' : Heap} {σ : Sg}, i = b64v c → Rp (Cfg.mk w mg mb (dp + 1) (un + 3) gd (Str.ofString "_b64_value") (fscope 14) L' 91 (.ref 90) (envX cn cs L a' ccd cl :: outer) g false 0 []) σ h' → ∀ v, isInt i v → ∃ u, Flow.ret v = .ret u ∧ isInt (b64v c) u ∧ ∃ m', Fr g L' h' m' := fun e X' v hv => ⟨v, rfl, e ▸ hv, Site.fr X'.st⟩
    by_cases h0 : 65 ≤ c ∧ c ≤ 90
    · have y0 : (decide (65 ≤ c) && decide (c ≤ 90)) = true := by simp [h0]
      refine' runs O (n := 30) [true] ?hr ?hc X ?hP
      case hr => rfl
      case hc => exact ⟨⟨y0, ⟨trivial, trivial, trivial⟩⟩, ⟨trivial, trivial, trivial⟩⟩
      case hP => exact fun h' _ X' => fin (by unfold b64v; rw [if_pos h0]) X'
    have n0 : (decide (65 ≤ c) && decide (c ≤ 90)) = false := by simpa using h0
    by_cases h1 : 97 ≤ c ∧ c ≤ 122
    · have y1 : (decide (97 ≤ c) && decide (c ≤ 122)) = true := by simp [h1]
      refine' runs O (n := 30) [false, true] ?hr ?hc X ?hP
      case hr => rfl
      case hc => exact ⟨⟨⟨n0, ⟨trivial, trivial, trivial⟩⟩, trivial⟩, ⟨y1, ⟨trivial, trivial, trivial⟩⟩, ⟨trivial, trivial, trivial⟩⟩
      case hP => exact fun h' _ X' => fin (by unfold b64v; rw [if_neg h0]; rw [if_pos h1]) X'
    have n1 : (decide (97 ≤ c) && decide (c ≤ 122)) = false := by simpa using h1
    by_cases h2 : 48 ≤ c ∧ c ≤ 57
    · have y2 : (decide (48 ≤ c) && decide (c ≤ 57)) = true := by simp [h2]
      refine' runs O (n := 30) [false, false, true] ?hr ?hc X ?hP
      case hr => rfl
      case hc => exact ⟨⟨⟨n0, ⟨trivial, trivial, trivial⟩⟩, trivial⟩, ⟨⟨n1, ⟨trivial, trivial, trivial⟩⟩, trivial⟩, ⟨y2, ⟨trivial, trivial, trivial⟩⟩, ⟨trivial, trivial, trivial⟩⟩
      case hP => exact fun h' _ X' => fin (by unfold b64v; rw [if_neg h0]; rw [if_neg h1]; rw [if_pos h2]) X'
    have n2 : (decide (48 ≤ c) && decide (c ≤ 57)) = false := by simpa using h2
    by_cases h3 : c = 43
    · have y3 : (c == 43) = true := by simp [h3]
      refine' runs O (n := 30) [false, false, false, true] ?hr ?hc X ?hP
      case hr => rfl
      case hc => exact ⟨⟨⟨n0, ⟨trivial, trivial, trivial⟩⟩, trivial⟩, ⟨⟨n1, ⟨trivial, trivial, trivial⟩⟩, trivial⟩, ⟨⟨n2, ⟨trivial, trivial, trivial⟩⟩, trivial⟩, ⟨y3, ⟨trivial, trivial⟩⟩, trivial⟩
      case hP => exact fun h' _ X' => fin (by unfold b64v; rw [if_neg h0]; rw [if_neg h1]; rw [if_neg h2]; rw [if_pos h3]) X'
    have n3 : (c == 43) = false := by simpa using h3
    by_cases h4 : c = 47
    · have y4 : (c == 47) = true := by simp [h4]
      refine' runs O (n := 30) [false, false, false, false, true] ?hr ?hc X ?hP
      case hr => rfl
      case hc => exact ⟨⟨⟨n0, ⟨trivial, trivial, trivial⟩⟩, trivial⟩, ⟨⟨n1, ⟨trivial, trivial, trivial⟩⟩, trivial⟩, ⟨⟨n2, ⟨trivial, trivial, trivial⟩⟩, trivial⟩, ⟨⟨n3, ⟨trivial, trivial⟩⟩, trivial⟩, ⟨y4, ⟨trivial, trivial⟩⟩, trivial⟩
      case hP => exact fun h' _ X' => fin (by unfold b64v; rw [if_neg h0]; rw [if_neg h1]; rw [if_neg h2]; rw [if_neg h3]; rw [if_pos h4]) X'
    have n4 : (c == 47) = false := by simpa using h4
    refine' runs O (n := 30) [false, false, false, false, false] ?hr ?hc X ?hP
    case hr => rfl
    case hc => exact ⟨⟨⟨n0, ⟨trivial, trivial, trivial⟩⟩, trivial⟩, ⟨⟨n1, ⟨trivial, trivial, trivial⟩⟩, trivial⟩, ⟨⟨n2, ⟨trivial, trivial, trivial⟩⟩, trivial⟩, ⟨⟨n3, ⟨trivial, trivial⟩⟩, trivial⟩, ⟨⟨n4, ⟨trivial, trivial⟩⟩, trivial⟩, trivial⟩
    case hP => exact fun h' _ X' => fin (by unfold b64v; rw [if_neg h0]; rw [if_neg h1]; rw [if_neg h2]; rw [if_neg h3]; rw [if_neg h4]) X'
end Mine
end

section
open PySem PySem.W PyProof.Rows PySem.Calls PySem.SeqAt
set_option maxRecDepth 100000
set_option maxHeartbeats 400000
set_option linter.unusedVariables false
set_option linter.unusedSimpArgs false
namespace Mine
noncomputable def SubIv (l l' : IV) : Prop := ∀ x i, l.lookup x = some i → l'.lookup x = some i
theorem SubIv.nil {l : IV} : SubIv [] l := fun x i e => nomatch e
theorem SubIv.cons {l l' : IV} {y : Str} {j : Int} (h : l'.lookup y = some j) (r : SubIv l l') : SubIv ((y, j) :: l) l' := fun x i e => by
  rw [lookup_cons] at e
  by_cases q : x = y
  · rw [if_pos q] at e; cases e; exact q ▸ h
  · rw [if_neg q] at e; exact r x i e
section
variable {K : Cfg} {σ σ1 σ' : Sg} {h : Heap} {n : Nat}
theorem Rp.less (X : Rp K σ' h) (s : SubIv σ.iv σ'.iv) (e : σ.out = σ'.out) : Rp K σ h :=
  ⟨X.st, let ⟨m, N, a, b, c⟩ := X.fr; ⟨m, N, fun x i q => a x i (s x i q), b, c⟩, e ▸ X.ls, X.nD⟩
noncomputable def Fl.on : Fl → Bool
  | .nxt | .cnt => true
  | _ => false
/-- the turns of a for along octets -/
inductive Turns (K : Cfg) (n : Nat) (body : List Stmt) (x : Str) : Sg → List UInt8 → Sg → Prop
  | nil (σ : Sg) : Turns K n body x σ [] σ
  | cons {σ σ1 σ' : Sg} {c : UInt8} {l : List UInt8} (cs : List Bool) (r : Rs) (hr : rn K n (.blk body) cs ⟨(x, (c.toNat : Int)) :: σ.iv, σ.out⟩ = some r) (hc : r.vc) (ho : r.fl.on = true) (s : SubIv σ1.iv r.σ.iv) (e : σ1.out = r.σ.out) (t : Turns K n body x σ1 l σ') : Turns K n body x σ (c :: l) σ'
/-- a turn's state -/
structure AtTurn (K : Cfg) (n : Nat) (body : List Stmt) (x : Str) (b : Array UInt8) (σ' : Sg) (h : Heap) (i : Nat) (σ : Sg) (g : Heap) : Prop where
  t : Turns K n body x σ (b.toList.drop i) σ'
  km : KM [K.L, K.D] h g
  X : Rp K σ g
/-- what a turn of the body leaves -/
theorem turn_ok (O : K.Ok) {body : List Stmt} {x : Str} {b : Array UInt8} {i : Nat} {c : UInt8} {g g₁ : Heap} (a : AtTurn K n body x b σ' h i σ g) (hc : b[i]? = some c) (X₁ : Rp K ⟨(x, (c.toNat : Int)) :: σ.iv, σ.out⟩ g₁) (k₁ : KM [K.L, K.D] g g₁) :
    Tri K.M K.A (execs body K.env) (fun f g₂ => (f = .next ∨ f = .cont) ∧ KM [K.L, K.D] g₁ g₂ ∧ ∃ σ1, AtTurn K n body x b σ' h (i + 1) σ1 g₂) g₁ := by
  have hd : b.toList.drop i = c :: b.toList.drop (i + 1) := by
    have : b.toList[i]? = some c := by simpa using hc
    obtain ⟨hi, e⟩ := List.getElem?_eq_some_iff.mp this
    rw [List.drop_eq_getElem_cons hi, e]
  have t := a.t
  rw [hd] at t
  cases t with
  | cons cs r hr hv ho s e t =>
    refine runs O cs hr hv X₁ fun g₂ k₂ X₂ => ?_
    have fin : AtTurn K n body x b σ' h (i + 1) _ g₂ := ⟨t, (a.km.trans k₁).trans k₂, X₂.less s e⟩
    cases hf : r.fl with
    | nxt => exact ⟨.inl rfl, k₂, _, fin⟩
    | cnt => exact ⟨.inr rfl, k₂, _, fin⟩
    | ret i => rw [hf] at ho; cases ho
    | stop l => rw [hf] at ho; cases ho
theorem Rp.kmI (X : Rp K σ h) {h' : Heap} {I : Addr} (k : KM [I] h h') (n0 : K.h₀.get? I = none) (nL : K.L ≠ I) (nD : K.D ≠ I) : Rp K σ h' := by
  obtain ⟨m, N, a, b, c⟩ := X.fr
  have N' : h'.Ns K.L m := k.ns N (fun q => nL (List.mem_singleton.mp q))
  exact ⟨Site.km X.st k (fun b hb => by rw [List.mem_singleton.mp hb]; exact n0) N', ⟨m, N', a, b, c⟩, fun e => let ⟨ys, p, i⟩ := X.ls e; ⟨ys, p.at fun o q => k _ _ (fun r => nD (List.mem_singleton.mp r)) q, i⟩, X.nD⟩
/-- a for along octets -/
theorem forB (O : K.Ok) (hcl : K.cl = true) {body : List Stmt} {x y : Str} {px py pos : Pos} {b : Array UInt8} {t : Tok} (X : Rp K σ h) (hy : PX K.M K.A K.env (.Name y py) (· = .bytes b t) h) (T : Turns K n body x σ b.toList σ') (hx : K.sc.names.lookup x = some .local) (ho : x ≠ S "out") (hb : K.bv.lookup x = none) :
    Tri K.M K.A (exec (.For (.Name x px) (.Name y py) body [] pos) K.env) (fun f h' => f = .next ∧ KM [K.L, K.D] h h' ∧ Rp K σ' h') h := by
  intro s Q E es ht hQ
  refine wpAny_For (hy.here.use es ht fun v h₁ tk₁ t₁ q => ?_) (fun _ => rfl)
  obtain ⟨rfl, rfl⟩ := q
  generalize hIe : h₁.objs.size = I
  have W := KBw.walks (prog := PG) (w := K.w) (A := K.A) rfl I b t
  have hI : h₁.get? I = none := Heap.get?_none_of_le (Nat.le_of_eq hIe)
  have nL : K.L ≠ I := fun q => by obtain ⟨o, e⟩ := Site.liveL X.st; rw [q, hI] at e; cases e
  have nD : K.D ≠ I := fun q => by obtain ⟨ys, ⟨k, e⟩, _⟩ := X.ls hcl; rw [q, hI] at e; cases e
  have n0 : K.h₀.get? I = none := (Site.keep X.st).none hI
  have nI : I ∉ [K.L, K.D] := fun q => by
    rcases List.mem_cons.mp q with q | q
    · exact nL q.symm
    · exact nD (List.mem_singleton.mp q).symm
  have mv : ∀ {i : Nat} {σ : Sg} {g g' : Heap}, AtTurn K n body x b σ' h₁ i σ g → (∀ b o, b ∉ [I] → g.get? b = some o → g'.get? b = some o) → AtTurn K n body x b σ' h₁ i σ g' := fun a k => ⟨a.t, a.km.off k hI, a.X.kmI k n0 nL nD⟩
  refine KBw.pyIter_bytes ?_
  rw [hIe]
  refine codeAny_forLoop_any (fun k s' => ∃ i g tk σi, k = b.size + 1 - i ∧ i ≤ b.size ∧ s' = { s with heap := g, toks := tk } ∧ 0 < tk ∧ KBw.IsBytesIter g I b t i ∧ AtTurn K n body x b σ' h₁ i σi g) ?_ (b.size + 1)
    ⟨0, _, tk₁, σ, rfl, Nat.zero_le _, rfl, t₁, ⟨_, by rw [← hIe]; exact Heap.get?_push_size _ rfl, rfl, rfl⟩, T, Keeps.km (fun b o e => Heap.get?_push_of_some _ e), X.keeps fun b o e => Heap.get?_push_of_some _ e⟩
  rintro k s' ⟨i, g, tk, σi, rfl, hi, rfl, htk, hit, a⟩
  refine wpAny_keep ?_
  by_cases hlt : i < b.size
  · refine W.item i _ _ _ hlt hit fun v g₁ tk₁ hv hit₁ hk₁ htk₁ => ?_
    obtain ⟨c, u, hc, rfl⟩ := hv
    have p₁ : 0 < tk₁ := Nat.lt_of_lt_of_le htk htk₁
    have a₁ := mv a hk₁
    refine Tri.use (go_name (prog := PG) (w := K.w) (A := K.A)) rfl p₁ fun _ g₂ tk₂ p₂ e₂ => ?_
    subst e₂
    obtain ⟨m, N, am, bm, cm⟩ := a₁.X.fr
    refine Tri.use (Tri.bindLocal (env := K.env) (P := fun _ g₃ => Rp K ⟨(x, (c.toNat : Int)) :: σi.iv, σi.out⟩ g₃ ∧ KM [K.L, K.D] g₂ g₃) N (fun g₃ n₃ s₃ => ⟨a₁.X.set am bm cm n₃ (km_but s₃ (.head _)) ho hb, km_but s₃ (.head _)⟩) hx (kind_ne O.sc)) rfl p₂ fun _ g₃ tk₃ p₃ q => ?_
    refine (turn_ok O a₁ hc q.1 q.2).use rfl p₃ fun f g₄ tk₄ p₄ q' => ?_
    obtain ⟨hf, k₄, σ1, a₄⟩ := q'
    have hit₄ : KBw.IsBytesIter g₄ I b t (i + 1) := let ⟨o, e, r⟩ := hit₁; ⟨o, k₄ _ _ nI (q.2 _ _ nI e), r⟩
    rcases hf with rfl | rfl
    · exact ⟨b.size + 1 - (i + 1), by omega, i + 1, g₄, tk₄, σ1, rfl, hlt, rfl, p₄, hit₄, a₄⟩
    · exact ⟨b.size + 1 - (i + 1), by omega, i + 1, g₄, tk₄, σ1, rfl, hlt, rfl, p₄, hit₄, a₄⟩
  · obtain rfl : i = b.size := by omega
    refine W.done _ _ _ hit fun g₁ tk₁ hk₁ htk₁ => wpAny_execs_nil ?_
    have a₁ := mv a hk₁
    have t := a₁.t
    rw [List.drop_eq_nil_of_le (by simp)] at t
    cases t
    exact hQ .next g₁ tk₁ (Nat.lt_of_lt_of_le htk htk₁) ⟨rfl, a₁.km, a₁.X⟩
end
end Mine
end

section
open PySem PySem.W PyProof.Rows PySem.Calls PySem.SeqAt
set_option maxRecDepth 100000
set_option maxHeartbeats 400000
set_option linter.unusedVariables false
set_option linter.unusedSimpArgs false
namespace Mine
noncomputable def rBool : Rel Bool := ⟨fun _ _ v b => v = .bool b, fun x _ => x, fun x _ => x, fun x _ => x⟩
section
variable {prog : Program} {w : World} {A : Around} {env : Env} {h : Heap} {P : Value → Heap → Prop}
/-- a value that stands, in continuation form -/
theorem PX.at {M : Model} {e : Expr} {v : Value} (x : PX M A env e (· = v) h) (k : P v h) : Tri M A (eval e env) P h := x.here.mono fun u h' q => by
  obtain ⟨rfl, rfl⟩ := q; exact k
theorem Tri.typeOf {e : Expr} {x : Str} {p pos : Pos} {v : Value} {T : String} (f : PX (model prog w) A env (.Name x p) (· = .type "type") h) (he : PX (model prog w) A env e (· = v) h) (hT : ∀ s : Shared, s.heap = h → s.TypeIs v T) (hn : (Value.type T == Value.type "builtin_function_or_method") = false) (k : P (.type T) h) (hs : starEach [e] env = [(false, eval e env)] := by rfl) :
    Tri (model prog w) A (eval (.Call (.Name x p) [e] [] pos) env) P h :=
  Tri.callT1 f (he.at (fun s Q E es ht hQ => PySem.call_type_of (hT s es) hn (by subst es; exact hQ _ _ _ ht k))) hs
/-- a test by `is` -/
theorem Tri.isTest {l r : Expr} {op : CmpOp} {pos : Pos} {u v : Value} {c : Bool} {whole : Sem Value} {R : Bool → Heap → Prop} (hl : PX (model prog w) A env l (· = u) h) (hr : PX (model prog w) A env r (· = v) h) (hp : plainIs u v = true) (ho : (op = .Is ∧ c = (u == v)) ∨ (op = .IsNot ∧ c = !(u == v))) (k : R c h) (hm : behindInMarks op r = false := by with_unfolding_all rfl) :
    Tri (model prog w) A (isTrue (.Compare l [op] [r] pos) env whole) R h := by
  rcases ho with ⟨rfl, rfl⟩ | ⟨rfl, rfl⟩
  · exact Tri.cmpTrue (hl.at (hr.at (fun s Q E es ht hQ => wpAny_is_plain hp (by subst es; exact hQ _ _ _ ht ⟨_, rfl, k⟩)))) hm
  · exact Tri.cmpTrue (hl.at (hr.at (fun s Q E es ht hQ => wpAny_isNot_plain hp (by subst es; exact hQ _ _ _ ht ⟨_, rfl, k⟩)))) hm
end
section
variable {prog : Program} {w : World} {A : Around} {env : Env} {h : Heap}
theorem Tri.orTrue {x : Expr} {rest : List Expr} {pos : Pos} {whole : Sem Value} {P : Bool → Heap → Prop} (a : Tri (model prog w) A (isTrue x env (eval x env)) (fun c h₁ => c = true ∧ P true h₁) h) :
    Tri (model prog w) A (isTrue (.BoolOp .Or (x :: rest) pos) env whole) P h := fun s Q E es ht hQ =>
  PyProof.Rows.isTrue_or (a.use es ht fun c h₁ tk₁ t₁ q => by
    obtain ⟨rfl, q⟩ := q
    exact hQ true h₁ tk₁ t₁ q)
/-- a bool name's truth -/
theorem Tri.boolName {x : Str} {p : Pos} {b : Bool} {P : Bool → Heap → Prop} (he : PX (model prog w) A env (.Name x p) (· = .bool b) h) (k : P b h) : Tri (model prog w) A (isTrue (.Name x p) env (eval (.Name x p) env)) P h := fun s Q E es ht hQ =>
  PyProof.Rows.isTrue_plain ((he.at (P := fun v h' => v = .bool b ∧ P b h') ⟨rfl, k⟩).use es ht fun v h₁ tk₁ t₁ q => by
    obtain ⟨rfl, q⟩ := q
    exact wpAny_truthy_bool (hQ b h₁ tk₁ t₁ q))
theorem Tri.ifExp {t b o : Expr} {pos : Pos} {P : Value → Heap → Prop} (a : Tri (model prog w) A (isTrue t env (eval t env)) (fun c h₁ => (c = true ∧ Tri (model prog w) A (eval b env) P h₁) ∨ (c = false ∧ Tri (model prog w) A (eval o env) P h₁)) h) : Tri (model prog w) A (eval (.IfExp t b o pos) env) P h := fun s Q E es ht hQ =>
  wpAny_IfExp (a.use es ht fun c h₁ tk₁ t₁ q => by
    rcases q with ⟨rfl, q⟩ | ⟨rfl, q⟩
    · exact q.use rfl t₁ hQ
    · exact q.use rfl t₁ hQ)
theorem Tri.constBool {b : Bool} {k : Nat} {p : Pos} {P : Value → Heap → Prop} (x : P (.bool b) h) : Tri (model prog w) A (eval (.Constant (.bool b) k p) env) P h := fun s Q E es ht hQ => wpAny_Constant_bool (by subst es; exact hQ _ s.heap s.toks ht x)
end
theorem bufferT {w mg mb} {b : Array UInt8} {t : Tok} : GivesT w mg mb 1 77 [.bytes b t] [] rBytes b (fun _ => True) := by
  intro dp un gd cn cs a' ccd cl outer h₀ h L ST hdp hun hI
  refine Tri.mono (P := fun v h' => Keeps h h' ∧ isBytes b v) ?_ fun v h' q => ⟨q.1, fun G hG => q.2⟩
  refine' enterT ST ?ho ?hcd ?room ?bind ?loc ?go ?c1 ?c2 ?c3 ?c4
  case ho => exact f77
  case hcd => kernel_rfl
  case room => omega
  case bind => exact fun s e => BindsTo.of_eq rfl
  case loc => exact locs rfl
  case c1 => rfl
  case c2 => rfl
  case c3 => rfl
  case c4 => decide
  case go =>
    intro g L' h₁ kg hL' F S₁
    refine Tri.then (Tri.asgLocal (Tri.typeOf (T := "bytes") (PX.built S₁ (by kernel_rfl) (by boot_fast)) (PX.local (v := .bytes b t) F.ns rfl) (fun s _ => typeIs_bytes s b t) (by decide +kernel) ⟨_, F.ns, fun h₂ n₂ s₂ => ⟨rfl, ?_⟩⟩))
    have k₂ : KM [L'] h₁ h₂ := km_but s₂ (.head _)
    have S₂ : Site w mg mb _ L' _ g h₂ := S₁.km k₂ (fun b hb => by rw [List.mem_singleton.mp hb]; exact Heap.get?_none_of_le F.above) n₂
    refine Tri.cons (Tri.cond (Tri.isTest (c := true) (PX.local n₂ (if_pos rfl)) (PX.built S₂ (by kernel_rfl) (by boot_fast)) rfl (.inl ⟨rfl, by decide +kernel⟩) ?_))
    refine Tri.cons (Tri.ret ((PX.local (v := .bytes b t) n₂ ((if_neg (by decide)).trans rfl)).at ?_))
    exact .inr ⟨(fun e => nomatch e), .inr ⟨(fun e => nomatch e), _, rfl, ⟨t, rfl⟩, S₂.fr⟩⟩
theorem abufferT {w mg mb} {b : Array UInt8} {t : Tok} : GivesT w mg mb 1 70 [.bytes b t] [] rBytes b (fun _ => True) := by
  intro dp un gd cn cs a' ccd cl outer h₀ h L ST hdp hun hI
  refine Tri.mono (P := fun v h' => Keeps h h' ∧ isBytes b v) ?_ fun v h' q => ⟨q.1, fun G hG => q.2⟩
  refine' enterT ST ?ho ?hcd ?room ?bind ?loc ?go ?c1 ?c2 ?c3 ?c4
  case ho => exact f70
  case hcd => kernel_rfl
  case room => omega
  case bind => exact fun s e => BindsTo.of_eq rfl
  case loc => exact locs rfl
  case c1 => rfl
  case c2 => rfl
  case c3 => rfl
  case c4 => decide
  case go =>
    intro g L' h₁ kg hL' F S₁
    refine Tri.then (Tri.asgLocal (Tri.typeOf (T := "bytes") (PX.built S₁ (by kernel_rfl) (by boot_fast)) (PX.local (v := .bytes b t) F.ns rfl) (fun s _ => typeIs_bytes s b t) (by decide +kernel) ⟨_, F.ns, fun h₂ n₂ s₂ => ⟨rfl, ?_⟩⟩))
    have k₂ : KM [L'] h₁ h₂ := km_but s₂ (.head _)
    have S₂ : Site w mg mb _ L' _ g h₂ := S₁.km k₂ (fun b hb => by rw [List.mem_singleton.mp hb]; exact Heap.get?_none_of_le F.above) n₂
    refine Tri.then (Tri.cond (Tri.isTest (c := false) (PX.local n₂ (if_pos rfl)) (PX.built S₂ (by kernel_rfl) (by boot_fast)) rfl (.inl ⟨rfl, by decide +kernel⟩) (Tri.nil ⟨rfl, ?_⟩)))
    refine Tri.cons (Tri.cond (Tri.isTest (c := true) (PX.local n₂ (if_pos rfl)) (PX.built S₂ (by kernel_rfl) (by boot_fast)) rfl (.inl ⟨rfl, by decide +kernel⟩) ?_))
    refine Tri.cons (Tri.ret ((PX.local (v := .bytes b t) n₂ ((if_neg (by decide)).trans rfl)).at ?_))
    exact .inr ⟨(fun e => nomatch e), .inr ⟨(fun e => nomatch e), _, rfl, ⟨t, rfl⟩, S₂.fr⟩⟩
theorem truthT {w mg mb} {b : Bool} : GivesT w mg mb 1 84 [.bool b] [] rBool b (fun _ => True) := by
  intro dp un gd cn cs a' ccd cl outer h₀ h L ST hdp hun hI
  refine Tri.mono (P := fun v h' => Keeps h h' ∧ v = .bool b) ?_ fun v h' q => ⟨q.1, fun G hG => (show v = .bool b from q.2)⟩
  refine' enterT ST ?ho ?hcd ?room ?bind ?loc ?go ?c1 ?c2 ?c3 ?c4
  case ho => exact f84
  case hcd => kernel_rfl
  case room => omega
  case bind => exact fun s e => BindsTo.of_eq rfl
  case loc => exact locs rfl
  case c1 => rfl
  case c2 => rfl
  case c3 => rfl
  case c4 => decide
  case go =>
    intro g L' h₁ kg hL' F S₁
    refine Tri.then (Tri.asgLocal (Tri.typeOf (T := "bool") (PX.built S₁ (by kernel_rfl) (by boot_fast)) (PX.local (v := .bool b) F.ns rfl) (fun s _ => PySem.typeIs_bool s b) (by decide +kernel) ⟨_, F.ns, fun h₂ n₂ s₂ => ⟨rfl, ?_⟩⟩))
    have k₂ : KM [L'] h₁ h₂ := km_but s₂ (.head _)
    have S₂ : Site w mg mb _ L' _ g h₂ := S₁.km k₂ (fun b hb => by rw [List.mem_singleton.mp hb]; exact Heap.get?_none_of_le F.above) n₂
    refine Tri.cons (Tri.cond (Tri.orFalse (Tri.isTest (c := false) (PX.local (v := .bool b) n₂ ((if_neg (by decide)).trans rfl)) PX.const_none rfl (.inl ⟨rfl, rfl⟩) ⟨rfl, ?_⟩)))
    refine Tri.orTrue (Tri.isTest (c := true) (PX.local n₂ (if_pos rfl)) (PX.built S₂ (by kernel_rfl) (by boot_fast)) rfl (.inl ⟨rfl, by decide +kernel⟩) ⟨rfl, ?_⟩)
    rw [if_pos rfl]
    refine Tri.cons (Tri.ret (Tri.ifExp (Tri.boolName (PX.local (v := .bool b) n₂ ((if_neg (by decide)).trans rfl)) ?_)))
    cases b
    · refine .inr ⟨rfl, Tri.constBool ?_⟩
      exact .inr ⟨(fun e => nomatch e), .inr ⟨(fun e => nomatch e), _, rfl, rfl, S₂.fr⟩⟩
    · refine .inl ⟨rfl, Tri.constBool ?_⟩
      exact .inr ⟨(fun e => nomatch e), .inr ⟨(fun e => nomatch e), _, rfl, rfl, S₂.fr⟩⟩
end Mine
end

section
open PySem PySem.W PyProof.Rows PySem.Calls PySem.SeqAt
set_option maxRecDepth 100000
set_option maxHeartbeats 400000
set_option linter.unusedVariables false
set_option linter.unusedSimpArgs false
namespace Mine
/-- the sign of a figure, as an int -/
noncomputable def kbi (n : Nat) : Int := ((kb n).toNat : Int)
theorem ch_kbi (n : Nat) : ch (n : Int) = kbi n := by unfold ch kbi kb; rw [Int.toNat_natCast]
theorem bitNot_eq (x : Int) : Builtin.bitNot x = -x - 1 := rfl
theorem or_nat (x y : Nat) : Builtin.bitOr (x : Int) (y : Int) = ((x ||| y : Nat) : Int) := by
  unfold Builtin.bitOr
  rw [bitNot_eq, bitNot_eq, bitNot_eq]
  unfold Builtin.bitAnd
  have h1 : decide (0 ≤ -(x : Int) - 1) = false := decide_eq_false (by omega)
  have h2 : decide (0 ≤ -(y : Int) - 1) = false := decide_eq_false (by omega)
  rw [h1, h2]
  show -(Builtin.bitNot _) - 1 = _
  rw [bitNot_eq, bitNot_eq, bitNot_eq]
  have e1 : (-(-(x : Int) - 1) - 1).toNat = x := by omega
  have e2 : (-(-(y : Int) - 1) - 1).toNat = y := by omega
  rw [e1, e2]; omega
theorem mulN (n k : Nat) : (n : Int) * 2 ^ k = ((n * 2 ^ k : Nat) : Int) := by push_cast; rfl
theorem orN {n c k : Nat} (h : c < 2 ^ k) : Builtin.bitOr ((n : Int) * 2 ^ k) (c : Int) = ((n * 2 ^ k + c : Nat) : Int) := by
  rw [mulN, or_nat, ← Nat.shiftLeft_eq, Nat.shiftLeft_add_eq_or_of_lt h]
theorem andN (n k : Nat) : Builtin.bitAnd (n : Int) (2 ^ k - 1) = ((n % 2 ^ k : Nat) : Int) := by
  rw [kbt_mask, Int.natCast_emod]; push_cast; rfl
theorem shrN (n k : Nat) : (n : Int).fdiv (2 ^ k) = ((n / 2 ^ k : Nat) : Int) := by
  rw [Int.fdiv_eq_ediv_of_nonneg _ (Int.le_of_lt (kbt_pos k)), Int.natCast_ediv]; push_cast; rfl
/-- an octet joins those on the left -/
theorem joinB (n : Nat) (c : UInt8) : Builtin.bitAnd (Builtin.bitOr ((n : Int) * 2 ^ 8) (c.toNat : Int)) 65535 = (((n * 2 ^ 8 + c.toNat) % 2 ^ 16 : Nat) : Int) := by
  rw [orN c.toNat_lt]; exact andN _ 16
/-- six bits of n from the k-th on -/
theorem sixB (n k : Nat) : Builtin.bitAnd ((n : Int).fdiv (2 ^ k)) 63 = ((n / 2 ^ k % 2 ^ 6 : Nat) : Int) := by
  rw [shrN]; exact andN _ 6
theorem six_rng (n k : Nat) : 0 ≤ Builtin.bitAnd ((n : Int).fdiv (2 ^ k)) 63 ∧ Builtin.bitAnd ((n : Int).fdiv (2 ^ k)) 63 < 64 := by
  rw [sixB]; exact ⟨Int.natCast_nonneg _, by exact_mod_cast Nat.mod_lt _ (by decide)⟩
end Mine
end

section
open PySem PySem.W PyProof.Rows PySem.Calls PySem.SeqAt
set_option maxRecDepth 100000
set_option maxHeartbeats 400000
set_option linter.unusedVariables false
set_option linter.unusedSimpArgs false
namespace Mine
/-- the body of the top's i-th statement, a def -/
noncomputable def fbody (i : Nat) : List Stmt := match PySem.Challenge.pw_oy0102_01.main.body.drop i with
  | .FunctionDef _ _ body _ _ _ _ _ _ _ :: _ => body
  | _ => []
noncomputable def forBody : List Stmt → List Stmt
  | .For _ _ b _ _ :: _ => b
  | _ => []
noncomputable abbrev bvB : BV := [(S "newline", false)]
noncomputable def stB (lb n : Nat) (out : List Int) : Sg := ⟨[(S "leftbits", (lb : Int)), (S "leftchar", (n : Int))], out⟩
/-- a turn of b2a's loop -/
noncomputable def TurnB (σ : Sg) (c : UInt8) (σ1 : Sg) : Prop := ∃ cs r, run true (fscope 16).names bvB 40 (.blk (forBody ((fbody 16).drop 5))) cs ⟨(S "b", (c.toNat : Int)) :: σ.iv, σ.out⟩ = some r ∧ r.vc ∧ r.fl.on = true ∧ SubIv σ1.iv r.σ.iv ∧ σ1.out = r.σ.out
theorem small16 {n : Nat} (h : n < 2 ^ 16) : ((n : Int)).natAbs < 2 ^ 64 := by rw [Int.natAbs_natCast]; exact Nat.lt_of_lt_of_le h (by decide)
theorem turnB0 {n : Nat} (h : n < 2 ^ 16) (c : UInt8) : TurnB (stB 0 n []) c (stB 2 ((n * 2 ^ 8 + c.toNat) % 2 ^ 16) [kbi (((n * 2 ^ 8 + c.toNat) % 2 ^ 16) / 2 ^ 2 % 2 ^ 6)]) := by
  have e := joinB n c
  have r2 := e ▸ six_rng ((n * 2 ^ 8 + c.toNat) % 2 ^ 16) 2
  refine ⟨[true, false], _, rfl, ?_, rfl, .cons rfl (.cons (congrArg some e) .nil), ?_⟩
  · have h2 := small16 h
    have d1 : (0 : Int) ≤ 8 := by decide
    have d2 : (8 : Int) ≤ 1000000 := by decide
    have g2 : (0 : Int) ≤ 2 := by decide
    repeat' (first | exact trivial | exact h2 | exact r2 | exact rfl | exact d1 | exact d2 | exact g2 | refine And.intro ?_ ?_)
  · refine Eq.trans (b := [ch (Builtin.bitAnd ((Builtin.bitAnd (Builtin.bitOr ((n : Int) * 2 ^ 8) (c.toNat : Int)) 65535).fdiv (2 ^ 2)) 63)]) ?_ (by kernel_rfl)
    rw [joinB, sixB, ch_kbi]
    rfl
theorem turnB2 {n : Nat} {a : Int} (h : n < 2 ^ 16) (c : UInt8) : TurnB (stB 2 n [a]) c (stB 4 ((n * 2 ^ 8 + c.toNat) % 2 ^ 16) [a, kbi (((n * 2 ^ 8 + c.toNat) % 2 ^ 16) / 2 ^ 4 % 2 ^ 6)]) := by
  have e := joinB n c
  have r4 := e ▸ six_rng ((n * 2 ^ 8 + c.toNat) % 2 ^ 16) 4
  refine ⟨[true, false], _, rfl, ?_, rfl, .cons rfl (.cons (congrArg some e) .nil), ?_⟩
  · have h2 := small16 h
    have d1 : (0 : Int) ≤ 8 := by decide
    have d2 : (8 : Int) ≤ 1000000 := by decide
    have g4 : (0 : Int) ≤ 4 := by decide
    repeat' (first | exact trivial | exact h2 | exact r4 | exact rfl | exact d1 | exact d2 | exact g4 | refine And.intro ?_ ?_)
  · refine Eq.trans (b := [a, ch (Builtin.bitAnd ((Builtin.bitAnd (Builtin.bitOr ((n : Int) * 2 ^ 8) (c.toNat : Int)) 65535).fdiv (2 ^ 4)) 63)]) ?_ (by kernel_rfl)
    rw [joinB, sixB, ch_kbi]
    rfl
theorem turnB4 {n : Nat} {a b : Int} (h : n < 2 ^ 16) (c : UInt8) : TurnB (stB 4 n [a, b]) c (stB 0 ((n * 2 ^ 8 + c.toNat) % 2 ^ 16) [a, b, kbi (((n * 2 ^ 8 + c.toNat) % 2 ^ 16) / 2 ^ 6 % 2 ^ 6), kbi (((n * 2 ^ 8 + c.toNat) % 2 ^ 16) / 2 ^ 0 % 2 ^ 6)]) := by
  have e := joinB n c
  have r6 := e ▸ six_rng ((n * 2 ^ 8 + c.toNat) % 2 ^ 16) 6
  have r0 := e ▸ six_rng ((n * 2 ^ 8 + c.toNat) % 2 ^ 16) 0
  refine ⟨[true, true, false], _, rfl, ?_, rfl, .cons rfl (.cons (congrArg some e) .nil), ?_⟩
  · have h2 := small16 h
    have d1 : (0 : Int) ≤ 8 := by decide
    have d2 : (8 : Int) ≤ 1000000 := by decide
    have g6 : (0 : Int) ≤ 6 := by decide
    have g0 : (0 : Int) ≤ 0 := by decide
    repeat' (first | exact trivial | exact h2 | exact r6 | exact r0 | exact rfl | exact d1 | exact d2 | exact g6 | exact g0 | refine And.intro ?_ ?_)
  · refine Eq.trans (b := [a, b, ch (Builtin.bitAnd ((Builtin.bitAnd (Builtin.bitOr ((n : Int) * 2 ^ 8) (c.toNat : Int)) 65535).fdiv (2 ^ 6)) 63), ch (Builtin.bitAnd ((Builtin.bitAnd (Builtin.bitOr ((n : Int) * 2 ^ 8) (c.toNat : Int)) 65535).fdiv (2 ^ 0)) 63)]) ?_ (by kernel_rfl)
    rw [joinB, sixB, ch_kbi, sixB, ch_kbi]
    rfl
end Mine
end

section
open PySem PySem.W PyProof.Rows PySem.Calls PySem.SeqAt
set_option maxRecDepth 100000
set_option maxHeartbeats 400000
set_option linter.unusedVariables false
set_option linter.unusedSimpArgs false
namespace Mine
/-- the octets are given back -/
theorem retOut {K : Cfg} {σ : Sg} {h : Heap} (O : K.Ok) (X : Rp K σ h) (hcl : K.cl = true) {x : Str} {p po pos pr : Pos} {rest : List Stmt} (f : PX K.M K.A K.env (.Name x p) (· = .type "bytes") h) (ho : K.sc.names.lookup (S "out") = some .local) (hr : ∀ n ∈ σ.out, 0 ≤ n ∧ n < 256) (hz : σ.out.length ≤ 1000) :
    Tri K.M K.A (execs (.Return (some (.Call (.Name x p) [.Name (S "out") po] [] pos)) pr :: rest) K.env) (fun fl h' => ∃ v, fl = .ret v ∧ isBytes (byteArr σ.out) v ∧ Keeps h h') h := by
  obtain ⟨m, N, _, _, c⟩ := X.fr
  obtain ⟨ys, hp, hi⟩ := X.ls hcl
  refine Tri.cons (Tri.ret ((Tri.bytesOf (ns := σ.out) f rfl ((PX.local (env := K.env) N (c hcl) O.sc ho).at ⟨Keeps.refl _, _, ys, rfl, hp.isList, hi⟩) hr hz).mono fun v h' q => ?_))
  exact .inr ⟨(fun e => nomatch e), v, rfl, q.2, q.1⟩
/-- what stands behind b2a's loop -/
noncomputable def DoneB (σ : Sg) (outs : List Int) : Prop := ∃ cs r, run true (fscope 16).names bvB 40 (.blk ((fbody 16).drop 6)) cs σ = some r ∧ r.vc ∧ r.fl = .stop ((fbody 16).drop 8) ∧ r.σ.out = outs
theorem TurnB.cons {K : Cfg} {σ σ1 σ' : Sg} {c : UInt8} {l : List UInt8} (hcl : K.cl = true) (hsc : K.sc = fscope 16) (hbv : K.bv = bvB) (T : TurnB σ c σ1) (t : Turns K 40 (forBody ((fbody 16).drop 5)) (S "b") σ1 l σ') : Turns K 40 (forBody ((fbody 16).drop 5)) (S "b") σ (c :: l) σ' := by
  obtain ⟨cs, r, hr, hc, ho, s, e⟩ := T
  refine .cons cs r ?_ hc ho s e t
  show run K.cl K.sc.names K.bv _ _ _ _ = _
  rw [hcl, hsc, hbv]; exact hr
theorem doneB0 {n : Nat} : DoneB (stB 0 n []) [] := by
  refine ⟨[false, false, false], _, rfl, ?_, rfl, rfl⟩
  repeat' (first | exact trivial | exact rfl | refine And.intro ?_ ?_)
theorem doneB3 {n : Nat} {a b c d : Int} : DoneB (stB 0 n [a, b, c, d]) [a, b, c, d] := by
  refine ⟨[false, false, false], _, rfl, ?_, rfl, rfl⟩
  repeat' (first | exact trivial | exact rfl | refine And.intro ?_ ?_)
theorem doneB2 {n : Nat} {a : Int} : DoneB (stB 2 n [a]) [a, kbi (n % 2 ^ 2 * 2 ^ 4), 61, 61] := by
  have e : Builtin.bitAnd (n : Int) 3 = _ := andN n 2
  have m : n % 2 ^ 2 < 2 ^ 2 := Nat.mod_lt _ (by decide)
  have h2 : (Builtin.bitAnd (n : Int) 3).natAbs < 2 ^ 64 := by rw [e, Int.natAbs_natCast]; exact Nat.lt_trans m (by decide)
  have h3 : 0 ≤ Builtin.bitAnd (n : Int) 3 * 2 ^ 4 := by rw [e, mulN]; exact Int.natCast_nonneg _
  have h4 : Builtin.bitAnd (n : Int) 3 * 2 ^ 4 < 64 := by rw [e, mulN]; exact Int.ofNat_lt.mpr (Nat.mul_lt_mul_of_pos_right m (by decide))
  have d1 : (0 : Int) ≤ 4 := by decide
  have d2 : (4 : Int) ≤ 1000000 := by decide
  refine ⟨[true, false], _, rfl, ?_, rfl, ?_⟩
  · repeat' (first | exact trivial | exact h2 | exact h3 | exact h4 | exact rfl | exact d1 | exact d2 | refine And.intro ?_ ?_)
  · refine Eq.trans (b := [a, ch (Builtin.bitAnd (n : Int) 3 * 2 ^ 4), 61, 61]) (by kernel_rfl) ?_
    rw [e, mulN, ch_kbi]
theorem doneB4 {n : Nat} {a b : Int} : DoneB (stB 4 n [a, b]) [a, b, kbi (n % 2 ^ 4 * 2 ^ 2), 61] := by
  have e : Builtin.bitAnd (n : Int) 15 = _ := andN n 4
  have m : n % 2 ^ 4 < 2 ^ 4 := Nat.mod_lt _ (by decide)
  have h2 : (Builtin.bitAnd (n : Int) 15).natAbs < 2 ^ 64 := by rw [e, Int.natAbs_natCast]; exact Nat.lt_trans m (by decide)
  have h3 : 0 ≤ Builtin.bitAnd (n : Int) 15 * 2 ^ 2 := by rw [e, mulN]; exact Int.natCast_nonneg _
  have h4 : Builtin.bitAnd (n : Int) 15 * 2 ^ 2 < 64 := by rw [e, mulN]; exact Int.ofNat_lt.mpr (Nat.mul_lt_mul_of_pos_right m (by decide))
  have d1 : (0 : Int) ≤ 2 := by decide
  have d2 : (2 : Int) ≤ 1000000 := by decide
  refine ⟨[false, true, false], _, rfl, ?_, rfl, ?_⟩
  · repeat' (first | exact trivial | exact h2 | exact h3 | exact h4 | exact rfl | exact d1 | exact d2 | refine And.intro ?_ ?_)
  · refine Eq.trans (b := [a, b, ch (Builtin.bitAnd (n : Int) 15 * 2 ^ 2), 61]) (by kernel_rfl) ?_
    rw [e, mulN, ch_kbi]
theorem kbi_rng (n : Nat) : 0 ≤ kbi n ∧ kbi n < 256 := ⟨Int.natCast_nonneg _, Int.ofNat_lt.mpr (UInt8.toNat_lt _)⟩
theorem all_cons {P : Int → Prop} {a : Int} {l : List Int} (h : P a) (t : ∀ n ∈ l, P n) : ∀ n ∈ a :: l, P n := fun n q => by
  rcases List.mem_cons.mp q with rfl | q
  · exact h
  · exact t n q
theorem all_nil {P : Int → Prop} : ∀ n ∈ ([] : List Int), P n := fun n q => nomatch q
theorem lt16 (n : Nat) : n % 2 ^ 16 < 2 ^ 16 := Nat.mod_lt _ (by decide)
theorem kbi_u8 (n : Nat) : (kbi n).toNat.toUInt8 = kb n := by unfold kbi; rw [Int.toNat_natCast]; exact UInt8.ofNat_toNat
theorem fig1 {x : Nat} (h : x < 256) : (0 * 2 ^ 8 + x) % 2 ^ 16 = x := by omega
theorem fig2 {x y : Nat} (h : x < 256) (h' : y < 256) : (x * 2 ^ 8 + y) % 2 ^ 16 = x * 256 + y := by omega
theorem figA {x : Nat} (h : x < 256) : x / 2 ^ 2 % 2 ^ 6 = x / 4 := by omega
theorem figB {x y : Nat} (h' : y < 256) : (x * 256 + y) / 2 ^ 4 % 2 ^ 6 = x % 4 * 16 + y / 16 := by omega
theorem figC {x y : Nat} : (x * 256 + y) % 2 ^ 4 * 2 ^ 2 = y % 16 * 4 := by omega
theorem figN {x y z : Nat} (hx : x < 256) (hy : y < 256) (hz : z < 256) : ((x * 256 + y) * 2 ^ 8 + z) % 2 ^ 16 / 2 ^ 6 % 2 ^ 6 = y % 16 * 4 + z / 64 := by omega
theorem figO {x z : Nat} (hz : z < 256) : (x * 2 ^ 8 + z) % 2 ^ 16 / 2 ^ 0 % 2 ^ 6 = z % 64 := by omega
theorem casesB {K : Cfg} (hcl : K.cl = true) (hsc : K.sc = fscope 16) (hbv : K.bv = bvB) {b : Array UInt8} (hb : b.size ≤ 3) : ∃ σ' outs, Turns K 40 (forBody ((fbody 16).drop 5)) (S "b") (stB 0 0 []) b.toList σ' ∧ DoneB σ' outs ∧ (∀ n ∈ outs, 0 ≤ n ∧ n < 256) ∧ outs.length ≤ 1000 ∧ byteArr outs = enc b := by
  have r61 : (0 : Int) ≤ 61 ∧ (61 : Int) < 256 := by decide
  obtain rfl | ⟨x, rfl⟩ | ⟨x, y, rfl⟩ | ⟨x, y, z, rfl⟩ := small_cases hb
  · exact ⟨_, _, .nil _, doneB0, all_nil, by decide, rfl⟩
  · refine ⟨_, _, (turnB0 (by decide) x).cons hcl hsc hbv (.nil _), doneB2, all_cons (kbi_rng _) (all_cons (kbi_rng _) (all_cons r61 (all_cons r61 all_nil))), by show 4 ≤ 1000; decide, ?_⟩
    show #[_, _, 61, 61] = enc1 x
    dsimp only
    rw [kbi_u8, kbi_u8, fig1 x.toNat_lt, figA x.toNat_lt]
    rfl
  · refine ⟨_, _, (turnB0 (by decide) x).cons hcl hsc hbv ((turnB2 (lt16 _) y).cons hcl hsc hbv (.nil _)), doneB4, all_cons (kbi_rng _) (all_cons (kbi_rng _) (all_cons (kbi_rng _) (all_cons r61 all_nil))), by show 4 ≤ 1000; decide, ?_⟩
    show #[_, _, _, 61] = enc2 x y
    dsimp only
    rw [kbi_u8, kbi_u8, kbi_u8, fig1 x.toNat_lt, fig2 x.toNat_lt y.toNat_lt, figA x.toNat_lt, figB y.toNat_lt, figC]
    rfl
  · refine ⟨_, _, (turnB0 (by decide) x).cons hcl hsc hbv ((turnB2 (lt16 _) y).cons hcl hsc hbv ((turnB4 (lt16 _) z).cons hcl hsc hbv (.nil _))), doneB3, all_cons (kbi_rng _) (all_cons (kbi_rng _) (all_cons (kbi_rng _) (all_cons (kbi_rng _) all_nil))), by show 4 ≤ 1000; decide, ?_⟩
    show #[_, _, _, _] = enc3 x y z
    dsimp only
    rw [kbi_u8, kbi_u8, kbi_u8, kbi_u8, fig1 x.toNat_lt, fig2 x.toNat_lt y.toNat_lt, figA x.toNat_lt, figB y.toNat_lt, figN x.toNat_lt y.toNat_lt z.toNat_lt, figO z.toNat_lt]
    rfl
theorem b2aT {w mg mb} {b : Array UInt8} {t : Tok} : GivesT w mg mb 2 107 [.bytes b t] [(S "newline", .bool false)] rBytes (enc b) (fun _ => b.size ≤ 3) := by
  intro dp un gd cn cs a' ccd cl outer h₀ h L ST hdp hun hI
  refine Tri.mono (P := fun v h' => Keeps h h' ∧ isBytes (enc b) v) ?_ fun v h' q => ⟨q.1, fun G hG => q.2⟩
  refine' enterT ST ?ho ?hcd ?room ?bind ?loc ?go ?c1 ?c2 ?c3 ?c4
  case ho => exact f107
  case hcd => kernel_rfl
  case room => omega
  case bind => exact fun s e => BindsTo.of_eq rfl
  case loc => exact locs rfl
  case c1 => rfl
  case c2 => rfl
  case c3 => rfl
  case c4 => decide
  case go =>
    intro g L' h₁ kg hL' F S₁
    refine Tri.then (Tri.asgLocal (Tri.call1 (PX.glob S₁ g77) (S₁.keep _ _ (S₁.frag _ _ f77)) rfl ((PX.local (v := .bytes b t) F.ns rfl).at ⟨Keeps.refl _, ?_⟩)))
    refine (bufferT _ _ _ _ _ _ _ _ _ _ h₁ _ S₁ (by omega) (by omega) trivial).mono fun v h₂ q => ?_
    obtain ⟨tb, rfl⟩ : isBytes b v := q.2 [] fun b hb => by cases hb
    refine ⟨_, F.ns.keeps q.1, fun h₃ n₃ s₃ => ⟨rfl, ?_⟩⟩
    have S₃ : Site w mg mb _ L' _ g h₃ := (S₁.keeps q.1).km (km_but s₃ (.head _)) (fun b hb => by rw [List.mem_singleton.mp hb]; exact Heap.get?_none_of_le F.above) n₃
    refine Tri.then (Tri.asgLocal (Tri.call1 (PX.glob S₃ g84) (S₃.keep _ _ (S₃.frag _ _ f84)) rfl ((PX.local (v := .bool false) n₃ rfl).at ⟨Keeps.refl _, ?_⟩)))
    refine (truthT _ _ _ _ _ _ _ _ _ _ h₃ _ S₃ (by omega) (by omega) trivial).mono fun v h₄ q => ?_
    obtain rfl : v = .bool false := q.2 [] fun b hb => by cases hb
    refine ⟨_, n₃.keeps q.1, fun h₅ n₅ s₅ => ⟨rfl, ?_⟩⟩
    have S₅ : Site w mg mb _ L' _ g h₅ := (S₃.keeps q.1).km (km_but s₅ (.head _)) (fun b hb => by rw [List.mem_singleton.mp hb]; exact Heap.get?_none_of_le F.above) n₅
    refine Tri.then (Tri.asgLocal (Tri.list (Tri.args_nil (Tri.newListP fun D h₆ hD k₆ ld => ⟨_, n₅.keeps k₆, fun h₇ n₇ s₇ => ⟨rfl, ?_⟩⟩))))
    have S₇ : Site w mg mb _ L' _ g h₇ := (S₅.keeps k₆).km (km_but s₇ (.head _)) (fun b hb => by rw [List.mem_singleton.mp hb]; exact Heap.get?_none_of_le F.above) n₇
    refine Tri.then (Tri.asgLocal (PX.const_int.here.mono fun v h' q => ?_))
    obtain ⟨⟨t0, rfl⟩, rfl⟩ := q
    refine ⟨_, n₇, fun h₈ n₈ s₈ => ⟨rfl, ?_⟩⟩
    have S₈ : Site w mg mb _ L' _ g h₈ := S₇.km (km_but s₈ (.head _)) (fun b hb => by rw [List.mem_singleton.mp hb]; exact Heap.get?_none_of_le F.above) n₈
    refine Tri.then (Tri.asgLocal (PX.const_int.here.mono fun v h' q => ?_))
    obtain ⟨⟨t1, rfl⟩, rfl⟩ := q
    refine ⟨_, n₈, fun h₉ n₉ s₉ => ⟨rfl, ?_⟩⟩
    have S₉ : Site w mg mb _ L' _ g h₉ := S₈.km (km_but s₉ (.head _)) (fun b hb => by rw [List.mem_singleton.mp hb]; exact Heap.get?_none_of_le F.above) n₉
    have gD : g.get? D = none := S₅.keep.none hD
    have nD : L' ≠ D := fun e => by obtain ⟨o, eo⟩ := S₅.liveL; rw [e, hD] at eo; cases eo
    have O : (Cfg.mk w mg mb (dp + 1) (un + 3) gd (Str.ofString "b2a_base64") (fscope 16) L' 107 (.ref 106) (envX cn cs L a' ccd cl :: outer) g true D bvB).Ok := ⟨rfl, (fun _ c t => b64T), (fun _ => show dp + 1 + 1 < recursionLimit by omega), fun _ => show un + 3 + 100 < cLine by omega⟩
    have k69 : KM [L'] h₆ h₉ := ((km_but s₇ (.head _)).trans (km_but s₈ (.head _))).trans (km_but s₉ (.head _))
    have X : Rp (Cfg.mk w mg mb (dp + 1) (un + 3) gd (Str.ofString "b2a_base64") (fscope 16) L' 107 (.ref 106) (envX cn cs L a' ccd cl :: outer) g true D bvB) (stB 0 0 []) h₉ := ⟨S₉, ⟨_, n₉, .cons ⟨t0, rfl⟩ (.cons ⟨t1, rfl⟩ .nil), .cons rfl .nil, fun _ => rfl⟩, fun _ => ⟨#[], (ld.at fun o e => k69 _ _ (fun r => nD (List.mem_singleton.mp r).symm) e), .nil⟩, fun _ => ⟨gD, nD⟩⟩
    obtain ⟨σ', outs, T, d, hr, hz, he⟩ := casesB (K := Cfg.mk w mg mb (dp + 1) (un + 3) gd (Str.ofString "b2a_base64") (fscope 16) L' 107 (.ref 106) (envX cn cs L a' ccd cl :: outer) g true D bvB) rfl rfl rfl hI
    refine Tri.then ((forB O rfl X (PX.local (x := S "bin_data") (v := .bytes b tb) n₉ rfl) T rfl (by decide) rfl).mono fun fl h' q => ⟨q.1, ?_⟩)
    obtain ⟨cs, r, h1, h2, h3, h4⟩ := d
    refine runs O cs h1 h2 q.2.2 fun h'' k'' X'' => ?_
    rw [h3]
    subst h4
    refine (retOut O X'' rfl (PX.built X''.st (by kernel_rfl) (by boot_fast)) rfl hr hz).mono fun fl h3 q => ?_
    obtain ⟨v, rfl, hv, kv⟩ := q
    exact ⟨v, rfl, he ▸ hv, Site.fr (Site.keeps X''.st kv)⟩
end Mine
end

section
open PySem PySem.W PyProof.Rows PySem.Calls PySem.SeqAt
set_option maxRecDepth 100000
set_option maxHeartbeats 400000
set_option linter.unusedVariables false
set_option linter.unusedSimpArgs false
namespace Mine
section
variable {M : Model} {A : Around} {env : Env} {h : Heap}
/-- f(x, k=v) -/
theorem Tri.call1k {P : Value → Heap → Prop} {x k : Str} {p pos kp : Pos} {e d : Expr} {fa : Addr} {o : Obj} {fd : FuncData} (f : PX M A env (.Name x p) (· = .ref fa) h) (ho : h.get? fa = some o) (hd : o.data = .func fd)
    (a : Tri M A (eval e env) (fun v h₁ => Keeps h h₁ ∧ Tri M A (eval d env) (fun u h₂ => Keeps h h₂ ∧ Tri M A (call (.ref fa) [v] [(k, u)]) P h₂) h₁) h) (hs : starEach [e] env = [(false, eval e env)] := by rfl) :
    Tri M A (eval (.Call (.Name x p) [e] [⟨some k, d, kp⟩] pos) env) P h := fun s Q E es ht hQ => by
  refine wpAny_bind (f.here.use es ht fun v h₁ tk htk hv => ?_)
  obtain ⟨rfl, rfl⟩ := hv
  refine callWith_function_kw (o := o) (fd := fd) (evalArgs_kw2 rfl ?_ hs)
  rw [hs]
  refine spliced_cons (a.use rfl htk fun v h₂ tk₂ ht₂ hv => spliced_nil ?_)
  refine kwAll_cons (hv.2.use rfl ht₂ fun u h₃ tk₃ ht₃ hu => kwAll_nil ?_)
  exact ⟨⟨hu.1 _ _ ho, hd⟩, hu.2.use rfl ht₃ hQ⟩
end
theorem encT {w mg mb} {b : Array UInt8} {t : Tok} : GivesT w mg mb 3 115 [.bytes b t] [] rBytes (enc b) (fun _ => b.size ≤ 3) := by
  intro dp un gd cn cs a' ccd cl outer h₀ h L ST hdp hun hI
  refine Tri.mono (P := fun v h' => Keeps h h' ∧ isBytes (enc b) v) ?_ fun v h' q => ⟨q.1, fun G hG => q.2⟩
  refine' enterT (binds := [(S "s", .bytes b t), (S "altchars", .none)]) ST ?ho ?hcd ?room ?bind ?loc ?go ?c1 ?c2 ?c3 ?c4
  case ho => exact f115
  case hcd => kernel_rfl
  case room => omega
  case bind => exact fun s e => binds_K (by subst e; exact (show (KK w.params).In s.heap from ST.frag.keeps ST.keep)) rfl rfl rfl rfl rfl
  case loc => exact locs rfl
  case c1 => rfl
  case c2 => rfl
  case c3 => rfl
  case c4 => decide
  case go =>
    intro g L' h₁ kg hL' F S₁
    refine Tri.then (Tri.asgLocal (Tri.call1k (PX.glob S₁ g107) (S₁.keep _ _ (S₁.frag _ _ f107)) rfl ((PX.local (v := .bytes b t) F.ns rfl).at ⟨Keeps.refl _, Tri.constBool ⟨Keeps.refl _, ?_⟩⟩)))
    refine (b2aT _ _ _ _ _ _ _ _ _ _ h₁ _ S₁ (by omega) (by omega) hI).mono fun v h₂ q => ?_
    obtain ⟨tb, rfl⟩ : isBytes (enc b) v := q.2 [] fun b hb => by cases hb
    refine ⟨_, F.ns.keeps q.1, fun h₃ n₃ s₃ => ⟨rfl, ?_⟩⟩
    have S₃ : Site w mg mb _ L' _ g h₃ := (S₁.keeps q.1).km (km_but s₃ (.head _)) (fun b hb => by rw [List.mem_singleton.mp hb]; exact Heap.get?_none_of_le F.above) n₃
    refine Tri.then (Tri.cond (Tri.isTest (c := false) (PX.local n₃ rfl) PX.const_none rfl (.inr ⟨rfl, rfl⟩) (Tri.nil ⟨rfl, ?_⟩)))
    exact Tri.cons (Tri.ret ((PX.local (v := .bytes (enc b) tb) n₃ (if_pos rfl)).at (.inr ⟨(fun e => nomatch e), _, rfl, ⟨tb, rfl⟩, S₃.fr⟩)))
end Mine
end

section
open PySem PySem.W PyProof.Rows PySem.Calls PySem.SeqAt
set_option maxRecDepth 100000
set_option maxHeartbeats 400000
set_option linter.unusedVariables false
set_option linter.unusedSimpArgs false
namespace Mine
noncomputable abbrev bvA : BV := [(S "strict_mode", false)]
noncomputable def stA (q l p i : Int) (out : List Int) : Sg := ⟨[(S "quad_pos", q), (S "leftchar", l), (S "pads", p), (S "i", i)], out⟩
/-- a turn of a2b's loop -/
noncomputable def TurnA (σ : Sg) (c : UInt8) (σ1 : Sg) : Prop := ∃ cs r, run true (fscope 15).names bvA 40 (.blk (forBody ((fbody 15).drop 7))) cs ⟨(S "this_ch", (c.toNat : Int)) :: σ.iv, σ.out⟩ = some r ∧ r.vc ∧ r.fl.on = true ∧ SubIv σ1.iv r.σ.iv ∧ σ1.out = r.σ.out
theorem kb_v {n : Nat} (h : n < 64) : b64v ((kb n).toNat : Int) = (n : Int) :=
  (by decide +kernel : ∀ m : Fin 64, b64v ((kb m.1).toNat : Int) = (m.1 : Int)) ⟨n, h⟩
theorem kb_ne {n : Nat} (h : n < 64) : (((kb n).toNat : Int) == 61) = false :=
  (by decide +kernel : ∀ m : Fin 64, (((kb m.1).toNat : Int) == 61) = false) ⟨n, h⟩
theorem v_lt {n : Nat} (h : n < 64) : decide (b64v ((kb n).toNat : Int) ≥ 64) = false := by rw [kb_v h]; exact decide_eq_false (by omega)
theorem turnA0 {n : Nat} {l i : Int} (h : n < 64) : TurnA (stA 0 l 0 i []) (kb n) (stA 1 n 0 (i + 1) []) := by
  have e := kb_v h
  have e1 := kb_ne h
  have e2 := v_lt h
  refine ⟨[false, false, false, true], _, rfl, ?_, rfl, .cons rfl (.cons (congrArg some e) (.cons rfl (.cons rfl .nil))), rfl⟩
  repeat' (first | exact trivial | exact e1 | exact e2 | exact rfl | refine And.intro ?_ ?_)
theorem orS (l n k : Nat) (h : n < 2 ^ k) : Builtin.bitOr ((l : Int) * 2 ^ k) (n : Int) = ((l * 2 ^ k + n : Nat) : Int) := orN h
theorem low {n a b : Nat} (h : n < 64) (q : 2 ^ a * 2 ^ b = 64) : n / 2 ^ a < 2 ^ b := Nat.div_lt_of_lt_mul (by rw [q]; exact h)
theorem small64 {n : Nat} (h : n < 64) : ((n : Int)).natAbs < 2 ^ 64 := by rw [Int.natAbs_natCast]; exact Nat.lt_trans h (by decide)
theorem turnA1 {n l : Nat} {i : Int} (h : n < 64) (hl : l < 64) : TurnA (stA 1 l 0 i []) (kb n) (stA 2 ((n % 2 ^ 4 : Nat) : Int) 0 (i + 1) [((l * 2 ^ 2 + n / 2 ^ 4 : Nat) : Int)]) := by
  have e := kb_v h
  have e1 := kb_ne h
  have e2 := v_lt h
  have h2 := small64 hl
  have d1 : (0 : Int) ≤ 2 := by decide
  have d2 : (2 : Int) ≤ 1000000 := by decide
  have d3 : (0 : Int) ≤ 4 := by decide
  refine ⟨[false, false, false, false, true], _, rfl, ?_, rfl, .cons rfl (.cons (congrArg some ?_) (.cons rfl (.cons rfl .nil))), ?_⟩
  · repeat' (first | exact trivial | exact e1 | exact e2 | exact rfl | exact h2 | exact d1 | exact d2 | exact d3 | refine And.intro ?_ ?_)
  · refine Eq.trans (b := Builtin.bitAnd (b64v ((kb n).toNat : Int)) 15) (by kernel_rfl) ?_
    rw [e]; exact andN n 4
  · refine Eq.trans (b := [Builtin.bitOr ((l : Int) * 2 ^ 2) ((b64v ((kb n).toNat : Int)).fdiv (2 ^ 4))]) ?_ (by kernel_rfl)
    rw [e, shrN, orS l _ 2 (low h rfl)]
    rfl
theorem turnA2 {n l : Nat} {i a : Int} (h : n < 64) (hl : l < 64) : TurnA (stA 2 l 0 i [a]) (kb n) (stA 3 ((n % 2 ^ 2 : Nat) : Int) 0 (i + 1) [a, ((l * 2 ^ 4 + n / 2 ^ 2 : Nat) : Int)]) := by
  have e := kb_v h
  have e1 := kb_ne h
  have e2 := v_lt h
  have h2 := small64 hl
  have d1 : (0 : Int) ≤ 4 := by decide
  have d2 : (4 : Int) ≤ 1000000 := by decide
  have d3 : (0 : Int) ≤ 2 := by decide
  refine ⟨[false, false, false, false, false, true], _, rfl, ?_, rfl, .cons rfl (.cons (congrArg some ?_) (.cons rfl (.cons rfl .nil))), ?_⟩
  · repeat' (first | exact trivial | exact e1 | exact e2 | exact rfl | exact h2 | exact d1 | exact d2 | exact d3 | refine And.intro ?_ ?_)
  · refine Eq.trans (b := Builtin.bitAnd (b64v ((kb n).toNat : Int)) 3) (by kernel_rfl) ?_
    rw [e]; exact andN n 2
  · refine Eq.trans (b := [a, Builtin.bitOr ((l : Int) * 2 ^ 4) ((b64v ((kb n).toNat : Int)).fdiv (2 ^ 2))]) ?_ (by kernel_rfl)
    rw [e, shrN, orS l _ 4 (low h rfl)]
    rfl
theorem turnA3 {n l : Nat} {i a b : Int} (h : n < 64) (hl : l < 64) : TurnA (stA 3 l 0 i [a, b]) (kb n) (stA 0 0 0 (i + 1) [a, b, ((l * 2 ^ 6 + n : Nat) : Int)]) := by
  have e := kb_v h
  have e1 := kb_ne h
  have e2 := v_lt h
  have h2 := small64 hl
  have d1 : (0 : Int) ≤ 6 := by decide
  have d2 : (6 : Int) ≤ 1000000 := by decide
  refine ⟨[false, false, false, false, false, false], _, rfl, ?_, rfl, .cons rfl (.cons rfl (.cons rfl (.cons rfl .nil))), ?_⟩
  · repeat' (first | exact trivial | exact e1 | exact e2 | exact rfl | exact h2 | exact d1 | exact d2 | refine And.intro ?_ ?_)
  · refine Eq.trans (b := [a, b, Builtin.bitOr ((l : Int) * 2 ^ 6) (b64v ((kb n).toNat : Int))]) ?_ (by kernel_rfl)
    rw [e, orS l _ 6 h]
    rfl
theorem turnP20 {l i a : Int} : TurnA (stA 2 l 0 i [a]) 61 (stA 2 l 1 (i + 1) [a]) := by
  refine ⟨[true, true], _, rfl, ?_, rfl, .cons rfl (.cons rfl (.cons rfl (.cons rfl .nil))), rfl⟩
  repeat' (first | exact trivial | exact rfl | refine And.intro ?_ ?_)
theorem turnP21 {l i a : Int} : TurnA (stA 2 l 1 i [a]) 61 (stA 2 l 2 (i + 1) [a]) := by
  refine ⟨[true, true], _, rfl, ?_, rfl, .cons rfl (.cons rfl (.cons rfl (.cons rfl .nil))), rfl⟩
  repeat' (first | exact trivial | exact rfl | refine And.intro ?_ ?_)
theorem turnP3 {l i a b : Int} : TurnA (stA 3 l 0 i [a, b]) 61 (stA 3 l 1 (i + 1) [a, b]) := by
  refine ⟨[true, true], _, rfl, ?_, rfl, .cons rfl (.cons rfl (.cons rfl (.cons rfl .nil))), rfl⟩
  repeat' (first | exact trivial | exact rfl | refine And.intro ?_ ?_)
/-- what stands behind a2b's loop -/
noncomputable def DoneA (σ : Sg) : Prop := ∃ cs r, run true (fscope 15).names bvA 40 (.blk ((fbody 15).drop 8)) cs σ = some r ∧ r.vc ∧ r.fl = .stop ((fbody 15).drop 10) ∧ r.σ.out = σ.out
theorem doneA0 {i : Int} {out : List Int} : DoneA (stA 0 0 0 i out) := by
  refine ⟨[false, false], _, rfl, ?_, rfl, rfl⟩
  repeat' (first | exact trivial | exact rfl | refine And.intro ?_ ?_)
theorem doneA2 {l i : Int} {out : List Int} : DoneA (stA 2 l 2 i out) := by
  refine ⟨[false, false], _, rfl, ?_, rfl, rfl⟩
  repeat' (first | exact trivial | exact rfl | refine And.intro ?_ ?_)
theorem doneA3 {l i : Int} {out : List Int} : DoneA (stA 3 l 1 i out) := by
  refine ⟨[false, false], _, rfl, ?_, rfl, rfl⟩
  repeat' (first | exact trivial | exact rfl | refine And.intro ?_ ?_)
end Mine
end

section
open PySem PySem.W PyProof.Rows PySem.Calls PySem.SeqAt
set_option maxRecDepth 100000
set_option maxHeartbeats 400000
set_option linter.unusedVariables false
set_option linter.unusedSimpArgs false
namespace Mine
/-- an int is given a name -/
theorem asgI {w : World} {mg mb : Str → Option Value} {A : Around} {q : Str} {sc : Scope} {L f : Addr} {cd : Value} {outer : List Env} {g h : Heap} {m : Str → Option Value} {x : Str} {i : Int} {p pc pos : Pos} {kk : Nat} {rest : List Stmt} {P : Flow → Heap → Prop} (S : Site w mg mb sc L outer g h) (n : h.Ns L m)
    (k : ∀ h' t, h'.Ns L (fun y => if y = x then some (.int i t) else m y) → Site w mg mb sc L outer g h' → KM [L] h h' → Tri (model PG w) A (execs rest (envX q sc L f cd [])) P h') (hl : sc.names.lookup x = some .local) :
    Tri (model PG w) A (execs (.Assign [.Name x p] (.Constant (.int i) kk pc) pos :: rest) (envX q sc L f cd [])) P h := by
  refine Tri.then (Tri.asgLocal (env := envX q sc L f cd []) (PX.const_int.here.mono fun v h' q => ?_) rfl hl (kind_ne S.kind))
  obtain ⟨⟨t, rfl⟩, rfl⟩ := q
  exact ⟨m, n, fun h₂ n₂ s₂ => ⟨rfl, k h₂ t n₂ (S.km (km_but s₂ (.head _)) (fun b hb => by rw [List.mem_singleton.mp hb]; exact S.noL) n₂) (km_but s₂ (.head _))⟩⟩
theorem TurnA.cons {K : Cfg} {σ σ1 σ' : Sg} {c : UInt8} {l : List UInt8} (hcl : K.cl = true) (hsc : K.sc = fscope 15) (hbv : K.bv = bvA) (T : TurnA σ c σ1) (t : Turns K 40 (forBody ((fbody 15).drop 7)) (S "this_ch") σ1 l σ') : Turns K 40 (forBody ((fbody 15).drop 7)) (S "this_ch") σ (c :: l) σ' := by
  obtain ⟨cs, r, hr, hc, ho, s, e⟩ := T
  refine .cons cs r ?_ hc ho s e t
  show run K.cl K.sc.names K.bv _ _ _ _ = _
  rw [hcl, hsc, hbv]; exact hr
theorem nat_u8 {n : Nat} {x : UInt8} (h : n = x.toNat) : ((n : Nat) : Int).toNat.toUInt8 = x := by rw [Int.toNat_natCast, h]; exact UInt8.ofNat_toNat
theorem oct_rng {n : Nat} {x : UInt8} (h : n = x.toNat) : 0 ≤ ((n : Nat) : Int) ∧ ((n : Nat) : Int) < 256 := ⟨Int.natCast_nonneg _, h ▸ Int.ofNat_lt.mpr x.toNat_lt⟩
theorem gA {x : Nat} (h : x < 256) : x / 4 < 64 := by omega
theorem gB (x : Nat) : x % 4 * 16 < 64 := by omega
theorem gC {x y : Nat} (h : y < 256) : x % 4 * 16 + y / 16 < 64 := by omega
theorem gD (x : Nat) : x % 16 * 4 < 64 := by omega
theorem gE {x y : Nat} (h : y < 256) : x % 16 * 4 + y / 64 < 64 := by omega
theorem gF (x : Nat) : x % 64 < 64 := Nat.mod_lt _ (by decide)
theorem gM (x : Nat) : x % 2 ^ 4 < 64 := by omega
theorem gN (x : Nat) : x % 2 ^ 2 < 64 := by omega
theorem o1 {x : Nat} : x / 4 * 2 ^ 2 + x % 4 * 16 / 2 ^ 4 = x := by omega
theorem o2 {x y : Nat} (h : y < 256) : x / 4 * 2 ^ 2 + (x % 4 * 16 + y / 16) / 2 ^ 4 = x := by omega
theorem o3 {x y : Nat} (h : y < 256) : (x % 4 * 16 + y / 16) % 2 ^ 4 * 2 ^ 4 + y % 16 * 4 / 2 ^ 2 = y := by omega
theorem o4 {x y z : Nat} (h : y < 256) (h' : z < 256) : (x % 4 * 16 + y / 16) % 2 ^ 4 * 2 ^ 4 + (y % 16 * 4 + z / 64) / 2 ^ 2 = y := by omega
theorem o5 {y z : Nat} (h' : z < 256) : (y % 16 * 4 + z / 64) % 2 ^ 2 * 2 ^ 6 + z % 64 = z := by omega
theorem casesA {K : Cfg} (hcl : K.cl = true) (hsc : K.sc = fscope 15) (hbv : K.bv = bvA) {b : Array UInt8} (hb : b.size ≤ 3) : ∃ σ', Turns K 40 (forBody ((fbody 15).drop 7)) (S "this_ch") (stA 0 0 0 0 []) (enc b).toList σ' ∧ DoneA σ' ∧ (∀ n ∈ σ'.out, 0 ≤ n ∧ n < 256) ∧ σ'.out.length ≤ 1000 ∧ byteArr σ'.out = b := by
  obtain rfl | ⟨x, rfl⟩ | ⟨x, y, rfl⟩ | ⟨x, y, z, rfl⟩ := small_cases hb
  · exact ⟨_, .nil _, doneA0, all_nil, by decide, rfl⟩
  · refine ⟨_, (turnA0 (gA x.toNat_lt)).cons hcl hsc hbv ((turnA1 (gB _) (gA x.toNat_lt)).cons hcl hsc hbv (turnP20.cons hcl hsc hbv (turnP21.cons hcl hsc hbv (.nil _)))), doneA2, all_cons (oct_rng o1) all_nil, by show 1 ≤ 1000; decide, ?_⟩
    show #[_] = #[x]
    dsimp only
    rw [nat_u8 o1]
  · refine ⟨_, (turnA0 (gA x.toNat_lt)).cons hcl hsc hbv ((turnA1 (gC y.toNat_lt) (gA x.toNat_lt)).cons hcl hsc hbv ((turnA2 (gD _) (gM _)).cons hcl hsc hbv (turnP3.cons hcl hsc hbv (.nil _)))), doneA3, all_cons (oct_rng (o2 y.toNat_lt)) (all_cons (oct_rng (o3 y.toNat_lt)) all_nil), by show 2 ≤ 1000; decide, ?_⟩
    show #[_, _] = #[x, y]
    dsimp only
    rw [nat_u8 (o2 y.toNat_lt), nat_u8 (o3 y.toNat_lt)]
  · refine ⟨_, (turnA0 (gA x.toNat_lt)).cons hcl hsc hbv ((turnA1 (gC y.toNat_lt) (gA x.toNat_lt)).cons hcl hsc hbv ((turnA2 (gE z.toNat_lt) (gM _)).cons hcl hsc hbv ((turnA3 (gF _) (gN _)).cons hcl hsc hbv (.nil _)))), doneA0, all_cons (oct_rng (o2 y.toNat_lt)) (all_cons (oct_rng (o4 y.toNat_lt z.toNat_lt)) (all_cons (oct_rng (o5 z.toNat_lt)) all_nil)), by show 3 ≤ 1000; decide, ?_⟩
    show #[_, _, _] = #[x, y, z]
    dsimp only
    rw [nat_u8 (o2 y.toNat_lt), nat_u8 (o4 y.toNat_lt z.toNat_lt), nat_u8 (o5 z.toNat_lt)]
theorem a2bT {w mg mb} {b : Array UInt8} {t : Tok} : GivesT w mg mb 2 99 [.bytes (enc b) t] [(S "strict_mode", .bool false)] rBytes b (fun _ => b.size ≤ 3) := by
  intro dp un gd cn cs a' ccd cl outer h₀ h L ST hdp hun hI
  refine Tri.mono (P := fun v h' => Keeps h h' ∧ isBytes b v) ?_ fun v h' q => ⟨q.1, fun G hG => q.2⟩
  refine' enterT ST ?ho ?hcd ?room ?bind ?loc ?go ?c1 ?c2 ?c3 ?c4
  case ho => exact f99
  case hcd => kernel_rfl
  case room => omega
  case bind => exact fun s e => BindsTo.of_eq rfl
  case loc => exact locs rfl
  case c1 => rfl
  case c2 => rfl
  case c3 => rfl
  case c4 => decide
  case go =>
    intro g L' h₁ kg hL' F S₁
    refine Tri.then (Tri.asgLocal (Tri.call1 (PX.glob S₁ g70) (S₁.keep _ _ (S₁.frag _ _ f70)) rfl ((PX.local (v := .bytes (enc b) t) F.ns rfl).at ⟨Keeps.refl _, ?_⟩)))
    refine (abufferT _ _ _ _ _ _ _ _ _ _ h₁ _ S₁ (by omega) (by omega) trivial).mono fun v h₂ q => ?_
    obtain ⟨tb, rfl⟩ : isBytes (enc b) v := q.2 [] fun b hb => by cases hb
    refine ⟨_, F.ns.keeps q.1, fun h₃ n₃ s₃ => ⟨rfl, ?_⟩⟩
    have S₃ : Site w mg mb _ L' _ g h₃ := (S₁.keeps q.1).km (km_but s₃ (.head _)) (fun b hb => by rw [List.mem_singleton.mp hb]; exact Heap.get?_none_of_le F.above) n₃
    refine Tri.then (Tri.asgLocal (Tri.call1 (PX.glob S₃ g84) (S₃.keep _ _ (S₃.frag _ _ f84)) rfl ((PX.local (v := .bool false) n₃ rfl).at ⟨Keeps.refl _, ?_⟩)))
    refine (truthT _ _ _ _ _ _ _ _ _ _ h₃ _ S₃ (by omega) (by omega) trivial).mono fun v h₄ q => ?_
    obtain rfl : v = .bool false := q.2 [] fun b hb => by cases hb
    refine ⟨_, n₃.keeps q.1, fun h₅ n₅ s₅ => ⟨rfl, ?_⟩⟩
    have S₅ : Site w mg mb _ L' _ g h₅ := (S₃.keeps q.1).km (km_but s₅ (.head _)) (fun b hb => by rw [List.mem_singleton.mp hb]; exact Heap.get?_none_of_le F.above) n₅
    refine Tri.then (Tri.asgLocal (Tri.list (Tri.args_nil (Tri.newListP fun D h₆ hD k₆ ld => ⟨_, n₅.keeps k₆, fun h₇ n₇ s₇ => ⟨rfl, ?_⟩⟩))))
    have S₇ : Site w mg mb _ L' _ g h₇ := (S₅.keeps k₆).km (km_but s₇ (.head _)) (fun b hb => by rw [List.mem_singleton.mp hb]; exact Heap.get?_none_of_le F.above) n₇
    refine asgI S₇ n₇ (fun h₈ t₀ n₈ S₈ k₈ => ?_) (by decide)
    refine asgI S₈ n₈ (fun h₉ t₁ n₉ S₉ k₉ => ?_) (by decide)
    refine asgI S₉ n₉ (fun h₁₀ t₂ n₁₀ S₁₀ k₁₀ => ?_) (by decide)
    refine asgI S₁₀ n₁₀ (fun h₁₁ t₃ n₁₁ S₁₁ k₁₁ => ?_) (by decide)
    have gD : g.get? D = none := S₅.keep.none hD
    have nD : L' ≠ D := fun e => by obtain ⟨o, eo⟩ := S₅.liveL; rw [e, hD] at eo; cases eo
    have O : (Cfg.mk w mg mb (dp + 1) (un + 3) gd (Str.ofString "a2b_base64") (fscope 15) L' 99 (.ref 98) (envX cn cs L a' ccd cl :: outer) g true D bvA).Ok := ⟨rfl, (fun _ c t => b64T), (fun _ => show dp + 1 + 1 < recursionLimit by omega), fun _ => show un + 3 + 100 < cLine by omega⟩
    have k6 : KM [L'] h₆ h₁₁ := ((((km_but s₇ (.head _)).trans k₈).trans k₉).trans k₁₀).trans k₁₁
    have X : Rp (Cfg.mk w mg mb (dp + 1) (un + 3) gd (Str.ofString "a2b_base64") (fscope 15) L' 99 (.ref 98) (envX cn cs L a' ccd cl :: outer) g true D bvA) (stA 0 0 0 0 []) h₁₁ := ⟨S₁₁, ⟨_, n₁₁, .cons ⟨t₀, rfl⟩ (.cons ⟨t₁, rfl⟩ (.cons ⟨t₂, rfl⟩ (.cons ⟨t₃, rfl⟩ .nil))), .cons rfl .nil, fun _ => rfl⟩, fun _ => ⟨#[], (ld.at fun o e => k6 _ _ (fun r => nD (List.mem_singleton.mp r).symm) e), .nil⟩, fun _ => ⟨gD, nD⟩⟩
    obtain ⟨σ', T, d, hr, hz, he⟩ := casesA (K := Cfg.mk w mg mb (dp + 1) (un + 3) gd (Str.ofString "a2b_base64") (fscope 15) L' 99 (.ref 98) (envX cn cs L a' ccd cl :: outer) g true D bvA) rfl rfl rfl hI
    refine Tri.then ((forB O rfl X (PX.local (x := S "ascii_data") (v := .bytes (enc b) tb) n₁₁ rfl) T rfl (by decide) rfl).mono fun fl h' q => ⟨q.1, ?_⟩)
    obtain ⟨cs, r, h1, h2, h3, h4⟩ := d
    refine runs O cs h1 h2 q.2.2 fun h'' k'' X'' => ?_
    rw [h3]
    rw [← h4] at hr hz he
    refine (retOut O X'' rfl (PX.built X''.st (by kernel_rfl) (by boot_fast)) rfl hr hz).mono fun fl h3 q => ?_
    obtain ⟨v, rfl, hv, kv⟩ := q
    exact ⟨v, rfl, he ▸ hv, Site.fr (Site.keeps X''.st kv)⟩
end Mine
end

section
open PySem PySem.W PyProof.Rows PySem.Calls PySem.SeqAt
set_option maxRecDepth 100000
set_option maxHeartbeats 400000
set_option linter.unusedVariables false
set_option linter.unusedSimpArgs false
namespace Mine
open Builtin.Str in
theorem repl_none {x c r : Str} (h : (occurrences x c 0 x.length 1).isEmpty = true) : Txt.replace x c r = x := by
  unfold Txt.replace
  have : (occurrences x c 0 x.length (x.length + 1)).isEmpty = true := by
    obtain ⟨f, hc⟩ := StrLaws.occ_chain x c (x.length + 1)
    cases ho : occurrences x c 0 x.length (x.length + 1) with
    | nil => rfl
    | cons i r =>
      rw [ho] at hc
      have := (StrLaws.found_iff x c).mpr ⟨i, hc.2.1⟩
      rw [h] at this
      cases this
  rw [this]; rfl
section
variable {w : World} {mg mb : Str → Option Value} {A : Around} {q : Str} {sc : Scope} {L f : Addr} {cd : Value} {outer : List Env} {g h : Heap} {m : Str → Option Value} {rest : List Stmt} {P : Flow → Heap → Prop}
/-- a sign is escaped, if it stands there -/
theorem escS {x c r : Str} {t : Tok} {k1 k2 k3 : Nat} {p1 p2 p3 p4 p5 p6 p7 p8 p9 p10 p11 : Pos} (S₀ : Site w mg mb sc L outer g h) (n : h.Ns L m) (hm : m (S "text") = some (.str x t)) (hx : x.length ≤ 1000000) (hr : r.length ≤ 14) (hcr : (c == r) = false) (hl : sc.names.lookup (S "text") = some .local)
    (hc : eval (.Call (.Attribute (.Name (S "text") p5) (Str.ofString "replace") p6) [.Constant (.str c) k2 p7, .Constant (.str r) k3 p8] [] p9) (envX q sc L f cd []) = (do
      let ov ← eval (.Name (S "text") p5) (envX q sc L f cd [])
      standAt p6.atName
      let (fn, first) ← holding [ov] (getMethod ov (Str.ofString "replace") (do return (← importBound (.Name (S "text") p5) (envX q sc L f cd [])).getD true))
      callWith p9 fn first (backTo p9 (starEach [.Constant (.str c) k2 p7, .Constant (.str r) k3 p8] (envX q sc L f cd []))) []))
    (k : ∀ h' t' m', h'.Ns L m' → m' (S "text") = some (.str (Txt.replace x c r) t') → Site w mg mb sc L outer g h' → Tri (model PG w) A (execs rest (envX q sc L f cd [])) P h') :
    Tri (model PG w) A (execs (.If (.Compare (.Constant (.str c) k1 p1) [.In] [.Name (S "text") p2] p3)
      [.Assign [.Name (S "text") p4] (.Call (.Attribute (.Name (S "text") p5) (Str.ofString "replace") p6) [.Constant (.str c) k2 p7, .Constant (.str r) k3 p8] [] p9) p10] [] p11 :: rest) (envX q sc L f cd [])) P h := by
  have hN : ∀ {p h}, h.Ns L m → PX (model PG w) A (envX q sc L f cd []) (.Name (S "text") p) (· = .str x t) h := fun n => PX.local (env := envX q sc L f cd []) n hm S₀.kind hl
  refine Tri.then (Tri.cond (Tri.cmpTrue (PX.const_str.here.mono fun v h₁ q => ?_)))
  obtain ⟨⟨u, rfl⟩, rfl⟩ := q
  refine (hN n).at ?_
  intro s Q E es ht hQ
  subst es
  refine PySem.P.in_str (hQ _ _ _ ht ⟨_, rfl, ?_⟩)
  cases ho : (Builtin.Str.occurrences x c 0 x.length 1).isEmpty with
  | true => exact Tri.nil ⟨rfl, k _ t m n (by rw [repl_none ho]; exact hm) S₀⟩
  | false =>
    refine Tri.then (Tri.asgLocal (env := envX q sc L f cd []) ?_ rfl hl (kind_ne S₀.kind))
    intro s' Q' E' es' ht' hQ'
    refine MethodCall_ ((hN n).here.use es' ht' fun v0 h₁ tk₁ t₁ hv' => ?_) hc
    obtain ⟨rfl, rfl⟩ := hv'
    refine GM.replace ?_
    refine callWith_method1 (PyProof.Rows.args_cons (wpAny_Constant_str (PyProof.Rows.args_cons (wpAny_Constant_str (PyProof.Rows.args_nil ?_)) rfl)) rfl) rfl rfl
    refine wpAny_keep (SC.replaceW (Nat.ne_of_gt t₁) (Nat.succ_ne_zero _) (Nat.ne_of_lt (Nat.lt_succ_self _)) hcr (by omega) hr fun t' k' hk => hQ' _ _ _ (Nat.lt_of_lt_of_le (Nat.succ_pos _) hk) ?_)
    exact ⟨m, n, fun h₂ n₂ s₂ => ⟨rfl, Tri.nil ⟨rfl, k h₂ t' _ n₂ (if_pos rfl) (S₀.km (km_but s₂ (.head _)) (fun b hb => by rw [List.mem_singleton.mp hb]; exact S₀.noL) n₂)⟩⟩⟩
/-- a try whose suite returns -/
theorem Tri.tryRet {prog : Program} {env : Env} {body : List Stmt} {h₀ : ExceptHandler} {hs : List ExceptHandler} {pos : Pos} {P : Flow → Heap → Prop} (a : Tri (model prog w) A (execs body env) (fun f h₁ => f ≠ .next ∧ P f h₁) h) : Tri (model prog w) A (exec (.Try body (h₀ :: hs) [] [] pos) env) P h := fun s Q E es ht hQ =>
  wpAny_Try_except (a.use es ht fun f h₁ tk t0 q => by
    cases f with
    | next => exact absurd rfl q.1
    | _ => exact hQ _ _ _ t0 q.2)
end
theorem escStep {n m : Nat} {x c r : Str} (hx : x.length ≤ n) (hr : r.length ≤ 6) (h : 7 * n + 6 ≤ m) : (Txt.replace x c r).length ≤ m := by
  have h2 := repl_len x c r
  have h3 : (x.length + 1) * r.length ≤ (x.length + 1) * 6 := Nat.mul_le_mul_left _ hr
  omega
theorem e1 {x : Str} (h : x.length ≤ 5) : (Txt.replace x (S "&") (S "&amp;")).length ≤ 41 := escStep h (by decide) (by decide)
theorem e2 {x : Str} (h : x.length ≤ 5) : (Txt.replace (Txt.replace x (S "&") (S "&amp;")) (S "<") (S "&lt;")).length ≤ 293 := escStep (e1 h) (by decide) (by decide)
theorem e3 {x : Str} (h : x.length ≤ 5) : (escC x).length ≤ 2057 := escStep (e2 h) (by decide) (by decide)
theorem e4 {x : Str} (h : x.length ≤ 5) : (Txt.replace (escC x) (S "\"") (S "&quot;")).length ≤ 14405 := escStep (e3 h) (by decide) (by decide)
theorem e5 {x : Str} (h : x.length ≤ 5) : (Txt.replace (Txt.replace (escC x) (S "\"") (S "&quot;")) (S "\r") (S "&#13;")).length ≤ 100841 := escStep (e4 h) (by decide) (by decide)
theorem e6 {x : Str} (h : x.length ≤ 5) : (Txt.replace (Txt.replace (Txt.replace (escC x) (S "\"") (S "&quot;")) (S "\r") (S "&#13;")) (S "\n") (S "&#10;")).length ≤ 705893 := escStep (e5 h) (by decide) (by decide)
theorem e7 {x : Str} (h : x.length ≤ 5) : (escA x).length ≤ 4941257 := escStep (e6 h) (by decide) (by decide)
theorem escCT {w mg mb} {x : Str} {t : Tok} : GivesT w mg mb 1 35 [.str x t] [] rStr (escC x) (fun _ => x.length ≤ 5) := by
  intro dp un gd cn cs a' ccd cl outer h₀ h L ST hdp hun hI
  refine Tri.mono (P := fun v h' => Keeps h h' ∧ isStr (escC x) v) ?_ fun v h' q => ⟨q.1, fun G hG => q.2⟩
  refine' enterT ST ?ho ?hcd ?room ?bind ?loc ?go ?c1 ?c2 ?c3 ?c4
  case ho => exact f35
  case hcd => kernel_rfl
  case room => omega
  case bind => exact fun s e => BindsTo.of_eq rfl
  case loc => exact locs rfl
  case c1 => rfl
  case c2 => rfl
  case c3 => rfl
  case c4 => decide
  case go =>
    intro g L' h₁ kg hL' F S₁
    refine Tri.cons (Tri.tryRet (Tri.mono (P := fun f h' => f ≠ .next ∧ ∃ v, f = .ret v ∧ isStr (escC x) v ∧ ∃ m', Fr g L' h' m') ?_ fun f h' q => ⟨q.1, .inr q⟩))
    refine escS S₁ F.ns rfl (Nat.le_trans hI (by decide)) (by decide) (by decide) rfl rfl fun h t m n hm S₂ => ?_
    refine escS S₂ n hm (Nat.le_trans (e1 hI) (by decide)) (by decide) (by decide) rfl rfl fun h t m n hm S₂ => ?_
    refine escS S₂ n hm (Nat.le_trans (e2 hI) (by decide)) (by decide) (by decide) rfl rfl fun h t m n hm S₂ => ?_
    exact Tri.cons (Tri.ret ((PX.local n hm).at (.inr ⟨(fun e => nomatch e), (fun e => nomatch e), _, rfl, ⟨t, rfl⟩, S₂.fr⟩)))
theorem escAT {w mg mb} {x : Str} {t : Tok} : GivesT w mg mb 1 42 [.str x t] [] rStr (escA x) (fun _ => x.length ≤ 5) := by
  intro dp un gd cn cs a' ccd cl outer h₀ h L ST hdp hun hI
  refine Tri.mono (P := fun v h' => Keeps h h' ∧ isStr (escA x) v) ?_ fun v h' q => ⟨q.1, fun G hG => q.2⟩
  refine' enterT ST ?ho ?hcd ?room ?bind ?loc ?go ?c1 ?c2 ?c3 ?c4
  case ho => exact f42
  case hcd => kernel_rfl
  case room => omega
  case bind => exact fun s e => BindsTo.of_eq rfl
  case loc => exact locs rfl
  case c1 => rfl
  case c2 => rfl
  case c3 => rfl
  case c4 => decide
  case go =>
    intro g L' h₁ kg hL' F S₁
    refine Tri.cons (Tri.tryRet (Tri.mono (P := fun f h' => f ≠ .next ∧ ∃ v, f = .ret v ∧ isStr (escA x) v ∧ ∃ m', Fr g L' h' m') ?_ fun f h' q => ⟨q.1, .inr q⟩))
    refine escS S₁ F.ns rfl (Nat.le_trans hI (by decide)) (by decide) (by decide) rfl rfl fun h t m n hm S₂ => ?_
    refine escS S₂ n hm (Nat.le_trans (e1 hI) (by decide)) (by decide) (by decide) rfl rfl fun h t m n hm S₂ => ?_
    refine escS S₂ n hm (Nat.le_trans (e2 hI) (by decide)) (by decide) (by decide) rfl rfl fun h t m n hm S₂ => ?_
    refine escS S₂ n hm (Nat.le_trans (e3 hI) (by decide)) (by decide) (by decide) rfl rfl fun h t m n hm S₂ => ?_
    refine escS S₂ n hm (Nat.le_trans (e4 hI) (by decide)) (by decide) (by decide) rfl rfl fun h t m n hm S₂ => ?_
    refine escS S₂ n hm (Nat.le_trans (e5 hI) (by decide)) (by decide) (by decide) rfl rfl fun h t m n hm S₂ => ?_
    refine escS S₂ n hm (Nat.le_trans (e6 hI) (by decide)) (by decide) (by decide) rfl rfl fun h t m n hm S₂ => ?_
    exact Tri.cons (Tri.ret ((PX.local n hm).at (.inr ⟨(fun e => nomatch e), (fun e => nomatch e), _, rfl, ⟨t, rfl⟩, S₂.fr⟩)))
end Mine
end

section
open PySem PySem.W PyProof.Rows PySem.Calls PySem.SeqAt
set_option maxRecDepth 100000
set_option maxHeartbeats 400000
set_option linter.unusedVariables false
set_option linter.unusedSimpArgs false
namespace Mine
theorem kb_lt (n : Nat) : (kb n).toNat < 128 := by
  by_cases h : n < 64
  · exact (show ∀ m : Fin 64, (kb m.1).toNat < 128 by decide +kernel) ⟨n, h⟩
  · have e : kb n = 0 := by
      unfold kb
      rw [List.getD_eq_getElem?_getD, List.getElem?_eq_none (Nat.le_of_not_lt h)]
      rfl
    rw [e]; decide
theorem sub_str_str : isSubtype (.type "str") (.type "str") = pure true := by kernel_rfl
theorem type_str : typeOf (.type "str") = pure (.type "type") := by kernel_rfl
section
variable {prog : Program} {w : World} {A : Around} {E : Value → Shared → Prop} {s : Shared} {Q : Value → Shared → Prop} {t u : Tok}
theorem encode4b {a b c d : UInt8} (ha : a.toNat < 128) (hb : b.toNat < 128) (hc : c.toNat < 128) (hd : d.toNat < 128)
    (h : ∀ t' k, Q (.bytes #[a, b, c, d] t') { s with toks := k }) : wpAny (model prog w) A (call (.builtin "str.encode") [.str ⟨#[a.toNat, b.toNat, c.toNat, d.toNat]⟩ t, .str (Str.ofString "ascii") u]) Q E s := by
  refine encode4 ha hb hc hd fun t' k => ?_
  rw [show a.toNat.toUInt8 = a from UInt8.ofNat_toNat, show b.toNat.toUInt8 = b from UInt8.ofNat_toNat, show c.toNat.toUInt8 = c from UInt8.ofNat_toNat, show d.toNat.toUInt8 = d from UInt8.ofNat_toNat]
  exact h t' k
theorem encodeE {b : Array UInt8} (hb : b.size ≤ 3) (h : ∀ t' k, Q (.bytes (enc b) t') { s with toks := k }) : wpAny (model prog w) A (call (.builtin "str.encode") [.str (txt b) t, .str (Str.ofString "ascii") u]) Q E s := by
  rcases small_cases hb with rfl | ⟨x, rfl⟩ | ⟨x, y, rfl⟩ | ⟨x, y, z, rfl⟩
  · exact encode0 h
  · exact encode4b (kb_lt _) (kb_lt _) (by decide) (by decide) h
  · exact encode4b (kb_lt _) (kb_lt _) (kb_lt _) (by decide) h
  · exact encode4b (kb_lt _) (kb_lt _) (kb_lt _) (kb_lt _) h
theorem decodeE {b : Array UInt8} (hb : b.size ≤ 3) (h : ∀ t' k, Q (.str (txt b) t') { s with toks := k }) : wpAny (model prog w) A (call (.builtin "bytes.decode") [.bytes (enc b) t, .str (Str.ofString "ascii") u]) Q E s := by
  rcases small_cases hb with rfl | ⟨x, rfl⟩ | ⟨x, y, rfl⟩ | ⟨x, y, z, rfl⟩
  · exact decode0 h
  · exact decode4 (kb_lt _) (kb_lt _) (by decide) (by decide) h
  · exact decode4 (kb_lt _) (kb_lt _) (kb_lt _) (by decide) h
  · exact decode4 (kb_lt _) (kb_lt _) (kb_lt _) (kb_lt _) h
end
section
variable {prog : Program} {w : World} {A : Around} {env : Env} {h : Heap}
theorem Tri.callB2 {P : Value → Heap → Prop} {x : Str} {p pos : Pos} {e e₂ : Expr} {id : String} (f : PX (model prog w) A env (.Name x p) (· = .builtin id) h)
    (a : Tri (model prog w) A (eval e env) (fun v h₁ => Tri (model prog w) A (eval e₂ env) (fun v₂ h₂ => Tri (model prog w) A (call (.builtin id) [v, v₂]) P h₂) h₁) h) (hs : starEach [e, e₂] env = [(false, eval e env), (false, eval e₂ env)] := by rfl) :
    Tri (model prog w) A (eval (.Call (.Name x p) [e, e₂] [] pos) env) P h := fun s Q E es ht hQ => by
  refine Call_Name2 (f.here.use es ht fun v h₁ tk htk hv => ?_) hs
  obtain ⟨rfl, rfl⟩ := hv
  exact callWith_builtin rfl (evalArgs_plain (spliced_cons (a.use rfl htk fun v h₂ tk₂ ht₂ hv => spliced_cons (hv.use rfl ht₂ fun v₂ h₃ tk₃ ht₃ hv₂ => spliced_nil (hv₂.use rfl ht₃ hQ)))))
/-- isinstance(x, str), x a text -/
theorem Tri.isStrTrue {e e₂ : Expr} {x : Str} {t : Tok} {p pos : Pos} {n : Str} {P : Bool → Heap → Prop} (hf : PX (model prog w) A env (.Name n p) (· = .builtin "isinstance") h) (he : PX (model prog w) A env e (· = .str x t) h) (h2 : PX (model prog w) A env e₂ (· = .type "str") h) (k : P true h)
    (hs : starEach [e, e₂] env = [(false, eval e env), (false, eval e₂ env)] := by rfl) : Tri (model prog w) A (isTrue (.Call (.Name n p) [e, e₂] [] pos) env (eval (.Call (.Name n p) [e, e₂] [] pos) env)) P h := fun s Q E es ht hQ =>
  PyProof.Rows.isTrue_plain ((Tri.callB2 (P := fun v h' => v = .bool true ∧ P true h') hf (he.at (h2.at fun s Q E es ht hQ => call_isinstance_yes (typeIs_str _ _ _) type_str sub_str_str (by subst es; exact hQ _ _ _ ht ⟨rfl, k⟩))) hs).use es ht fun v h₁ tk₁ t₁ q => by
    obtain ⟨rfl, q⟩ := q
    exact wpAny_truthy_bool (hQ true h₁ tk₁ t₁ q))
theorem Tri.encode {obj : Expr} {b : Array UInt8} {t : Tok} {k1 : Nat} {p p1 pos : Pos} {P : Value → Heap → Prop} (ho : PX (model prog w) A env obj (· = .str (txt b) t) h) (hb : b.size ≤ 3) (k : ∀ t', P (.bytes (enc b) t') h) {pl : Sem Bool}
    (hc : eval (.Call (.Attribute obj (Str.ofString "encode") p) [.Constant (.str (Str.ofString "ascii")) k1 p1] [] pos) env = (do
      let ov ← eval obj env
      standAt p.atName
      let (f, first) ← holding [ov] (getMethod ov (Str.ofString "encode") pl)
      callWith pos f first (backTo pos (starEach [.Constant (.str (Str.ofString "ascii")) k1 p1] env)) []) := by rfl) :
    Tri (model prog w) A (eval (.Call (.Attribute obj (Str.ofString "encode") p) [.Constant (.str (Str.ofString "ascii")) k1 p1] [] pos) env) P h := by
  intro s Q E es ht hQ
  refine MethodCall_ (pl := pl) (ho.here.use es ht fun v0 h₁ tk₁ t₁ hv' => ?_) hc
  obtain ⟨rfl, rfl⟩ := hv'
  refine gm_encode ?_
  refine callWith_method1 (PyProof.Rows.args_cons (wpAny_Constant_str (PyProof.Rows.args_nil ?_)) rfl) rfl rfl
  show wpAny _ _ (call (.builtin "str.encode") [.str (txt b) t, .str (Str.ofString "ascii") _]) _ _ _
  exact wpAny_keep (encodeE hb fun t' k' hk => hQ _ _ _ (Nat.lt_of_lt_of_le (Nat.succ_pos _) hk) (k t'))
theorem Tri.decode {obj : Expr} {b : Array UInt8} {k1 : Nat} {p p1 pos : Pos} {P : Value → Heap → Prop} (ho : Tri (model prog w) A (eval obj env) (fun v h' => (∃ t, v = .bytes (enc b) t) ∧ ∀ t', P (.str (txt b) t') h') h) (hb : b.size ≤ 3) {pl : Sem Bool}
    (hc : eval (.Call (.Attribute obj (Str.ofString "decode") p) [.Constant (.str (Str.ofString "ascii")) k1 p1] [] pos) env = (do
      let ov ← eval obj env
      standAt p.atName
      let (f, first) ← holding [ov] (getMethod ov (Str.ofString "decode") pl)
      callWith pos f first (backTo pos (starEach [.Constant (.str (Str.ofString "ascii")) k1 p1] env)) []) := by rfl) :
    Tri (model prog w) A (eval (.Call (.Attribute obj (Str.ofString "decode") p) [.Constant (.str (Str.ofString "ascii")) k1 p1] [] pos) env) P h := by
  intro s Q E es ht hQ
  refine MethodCall_ (pl := pl) (ho.use es ht fun v0 h₁ tk₁ t₁ hv' => ?_) hc
  obtain ⟨⟨t, rfl⟩, k⟩ := hv'
  refine KBd.method ?_
  refine callWith_method1 (PyProof.Rows.args_cons (wpAny_Constant_str (PyProof.Rows.args_nil ?_)) rfl) rfl rfl
  show wpAny _ _ (call (.builtin "bytes.decode") [.bytes (enc b) t, .str (Str.ofString "ascii") _]) _ _ _
  exact wpAny_keep (decodeE hb fun t' k' hk => hQ _ _ _ (Nat.lt_of_lt_of_le (Nat.succ_pos _) hk) (k t'))
end
theorem fromT {w mg mb} {b : Array UInt8} {t : Tok} : GivesT w mg mb 1 50 [.str (txt b) t] [] rBytes (enc b) (fun _ => b.size ≤ 3) := by
  intro dp un gd cn cs a' ccd cl outer h₀ h L ST hdp hun hI
  refine Tri.mono (P := fun v h' => Keeps h h' ∧ isBytes (enc b) v) ?_ fun v h' q => ⟨q.1, fun G hG => q.2⟩
  refine' enterT ST ?ho ?hcd ?room ?bind ?loc ?go ?c1 ?c2 ?c3 ?c4
  case ho => exact f50
  case hcd => kernel_rfl
  case room => omega
  case bind => exact fun s e => BindsTo.of_eq rfl
  case loc => exact locs rfl
  case c1 => rfl
  case c2 => rfl
  case c3 => rfl
  case c4 => decide
  case go =>
    intro g L' h₁ kg hL' F S₁
    refine Tri.cons (Tri.cond (Tri.isStrTrue (PX.built S₁ (by kernel_rfl) (by boot_fast)) (PX.local (v := .str (txt b) t) F.ns rfl) (PX.built S₁ (by kernel_rfl) (by boot_fast)) ?_))
    refine Tri.cons (Tri.tryRet (Tri.mono (P := fun f h' => f ≠ .next ∧ ∃ v, f = .ret v ∧ isBytes (enc b) v ∧ ∃ m', Fr g L' h' m') ?_ fun f h' q => ⟨q.1, .inr ⟨q.1, .inr q⟩⟩))
    exact Tri.cons (Tri.ret (Tri.encode (PX.local F.ns rfl) hI fun t' => .inr ⟨(fun e => nomatch e), (fun e => nomatch e), _, rfl, ⟨t', rfl⟩, S₁.fr⟩))
end Mine
end

section
open PySem PySem.W PyProof.Rows PySem.Calls PySem.SeqAt
set_option maxRecDepth 100000
set_option maxHeartbeats 400000
set_option linter.unusedVariables false
set_option linter.unusedSimpArgs false
namespace Mine
theorem decT9 {w mg mb} {b : Array UInt8} {t : Tok} (hb : b.size ≤ 3) : GivesT w mg mb 3 123 [.str (txt b) t] [] rBytes b (fun _ => True) := by
  intro dp un gd cn cs a' ccd cl outer h₀ h L ST hdp hun hI
  refine Tri.mono (P := fun v h' => Keeps h h' ∧ isBytes b v) ?_ fun v h' q => ⟨q.1, fun G hG => q.2⟩
  refine' enterT (binds := [(S "s", .str (txt b) t), (S "altchars", .none), (S "validate", .bool false)]) ST ?ho ?hcd ?room ?bind ?loc ?go ?c1 ?c2 ?c3 ?c4
  case ho => exact f123
  case hcd => kernel_rfl
  case room => omega
  case bind => exact fun s e => binds_K (by subst e; exact (show (KK w.params).In s.heap from ST.frag.keeps ST.keep)) rfl rfl rfl rfl rfl
  case loc => exact locs rfl
  case c1 => rfl
  case c2 => rfl
  case c3 => rfl
  case c4 => decide
  case go =>
    intro g L' h₁ kg hL' F S₁
    refine Tri.then (Tri.asgLocal (Tri.call1 (PX.glob S₁ g50) (S₁.keep _ _ (S₁.frag _ _ f50)) rfl ((PX.local (v := .str (txt b) t) F.ns rfl).at ⟨Keeps.refl _, ?_⟩)))
    refine (fromT _ _ _ _ _ _ _ _ _ _ h₁ _ S₁ (by omega) (by omega) hb).mono fun v h₂ q => ?_
    obtain ⟨tb, rfl⟩ : isBytes (enc b) v := q.2 [] fun b hb => by cases hb
    refine ⟨_, F.ns.keeps q.1, fun h₃ n₃ s₃ => ⟨rfl, ?_⟩⟩
    have S₃ : Site w mg mb _ L' _ g h₃ := (S₁.keeps q.1).km (km_but s₃ (.head _)) (fun b hb => by rw [List.mem_singleton.mp hb]; exact Heap.get?_none_of_le F.above) n₃
    refine Tri.then (Tri.cond (Tri.isTest (c := false) (PX.local n₃ rfl) PX.const_none rfl (.inr ⟨rfl, rfl⟩) (Tri.nil ⟨rfl, ?_⟩)))
    refine Tri.cons (Tri.ret (Tri.call1k (PX.glob S₃ g99) (S₃.keep _ _ (S₃.frag _ _ f99)) rfl ((PX.local (v := .bytes (enc b) tb) n₃ (if_pos rfl)).at ⟨Keeps.refl _, (PX.local (v := .bool false) n₃ rfl).at ⟨Keeps.refl _, ?_⟩⟩)))
    refine (a2bT _ _ _ _ _ _ _ _ _ _ h₃ _ S₃ (by omega) (by omega) hb).mono fun v h₄ q => .inr ⟨(fun e => nomatch e), _, rfl, (q.2 [] fun b hb => by cases hb), (S₃.keeps q.1).fr⟩
end Mine
end

section
open PySem PySem.W PyProof.Rows PySem.Calls PySem.SeqAt
set_option maxRecDepth 100000
set_option maxHeartbeats 400000
set_option linter.unusedVariables false
set_option linter.unusedSimpArgs false
namespace Mine
theorem txt_len {b : Array UInt8} (hb : b.size ≤ 3) : (txt b).length ≤ 4 := by
  rcases small_cases hb with rfl | ⟨x, rfl⟩ | ⟨x, y, rfl⟩ | ⟨x, y, z, rfl⟩ <;> first | exact Nat.zero_le _ | exact Nat.le_refl 4
section
variable {prog : Program} {w : World} {A : Around} {env : Env} {h : Heap}
/-- e gives the text x of at most n signs -/
noncomputable def TxE (M : Model) (A : Around) (env : Env) (e : Expr) (x : Str) (n : Nat) (h : Heap) : Prop := x.length ≤ n ∧ ∀ h', Keeps h h' → Tri M A (eval e env) (fun v h'' => Keeps h' h'' ∧ isStr x v) h'
theorem TxE.add {l r : Expr} {pos : Pos} {x y : Str} {n m : Nat} (a : TxE (model prog w) A env l x n h) (b : TxE (model prog w) A env r y m h) (hs : n + m ≤ 16777216) : TxE (model prog w) A env (.BinOp l .Add r pos) (x ++ y) (n + m) h := by
  have hl : (x ++ y).length ≤ n + m := by rw [Str.length_append]; exact Nat.add_le_add a.1 b.1
  refine ⟨hl, fun h' k => Tri.binop ((a.2 h' k).mono fun v h₁ q => (b.2 h₁ (k.trans q.1)).mono fun u h₂ q₂ => ?_)⟩
  obtain ⟨k₁, t, rfl⟩ := q
  obtain ⟨k₂, u, rfl⟩ := q₂
  exact fun s Q E es ht hQ => wpAny_keep (PyProof.Rows.add_str (fun t' k hk => by subst es; exact hQ _ s.heap k (Nat.lt_of_lt_of_le ht hk) ⟨k₁.trans k₂, _, rfl⟩) (by rw [sizeLine_eq, ← Str.length_append]; exact Nat.le_trans hl hs))
theorem TxE.lit {x : Str} {k : Nat} {p : Pos} {n : Nat} (hn : x.length ≤ n) : TxE (model prog w) A env (.Constant (.str x) k p) x n h := ⟨hn, fun h' k => PX.const_str.here.mono fun v h'' q => by
  obtain ⟨q, rfl⟩ := q; exact ⟨Keeps.refl _, q⟩⟩
end
theorem rowT9 {w mg mb} {f : File} {t u : Tok} (hf : OkFile f) : GivesT w mg mb 4 142 [.str f.1 t, .bytes f.2 u] [] rStr (rowOf f) (fun _ => True) := by
  intro dp un gd cn cs a' ccd cl outer h₀ h L ST hdp hun hI
  refine Tri.mono (P := fun v h' => Keeps h h' ∧ isStr (rowOf f) v) ?_ fun v h' q => ⟨q.1, fun G hG => q.2⟩
  have hx : f.1.length ≤ 5 := hf.len
  refine' enterT ST ?ho ?hcd ?room ?bind ?loc ?go ?c1 ?c2 ?c3 ?c4
  case ho => exact f142
  case hcd => kernel_rfl
  case room => omega
  case bind => exact fun s e => BindsTo.of_eq rfl
  case loc => exact locs rfl
  case c1 => rfl
  case c2 => rfl
  case c3 => rfl
  case c4 => decide
  case go =>
    intro g L' h₁ kg hL' F S₁
    refine Tri.cons (Tri.ret (Tri.mono (P := fun v h' => Keeps h₁ h' ∧ isStr (rowOf f) v) ?_ fun v h' q => .inr ⟨(fun e => nomatch e), _, rfl, q.2, (S₁.keeps q.1).fr⟩))
    have T := fun {M A env e x n} (q : TxE M A env e x n h₁) => q.2 h₁ (Keeps.refl _)
    refine T (.add (.add (.add (.add (.add (.lit (n := 20) (by decide)) ⟨e7 hx, fun h' k => ?a⟩ (by decide)) (.lit (n := 20) (by decide)) (by decide)) ⟨txt_len hf.2, fun h' k => ?b⟩ (by decide)) (.lit (n := 20) (by decide)) (by decide)) ⟨e3 hx, fun h' k => ?c⟩ (by decide))
    case a =>
      have S₂ := S₁.keeps k
      refine Tri.call1 (PX.glob S₂ g42) (S₂.keep _ _ (S₂.frag _ _ f42)) rfl ((PX.local (v := .str f.1 t) (F.ns.keeps k) rfl).at ⟨Keeps.refl _, ?_⟩)
      exact (escAT _ _ _ _ _ _ _ _ _ _ h' _ S₂ (by omega) (by omega) hx).mono fun v h₂ q => ⟨q.1, q.2 [] fun b hb => by cases hb⟩
    case b =>
      have S₂ := S₁.keeps k
      refine Tri.decode (Tri.call1 (PX.glob S₂ g115) (S₂.keep _ _ (S₂.frag _ _ f115)) rfl ((PX.local (v := .bytes f.2 u) (F.ns.keeps k) rfl).at ⟨Keeps.refl _, ?_⟩)) hf.2
      exact (encT _ _ _ _ _ _ _ _ _ _ h' _ S₂ (by omega) (by omega) hf.2).mono fun v h₂ q => ⟨q.2 [] (fun b hb => by cases hb), fun t' => ⟨q.1, _, rfl⟩⟩
    case c =>
      have S₂ := S₁.keeps k
      refine Tri.call1 (PX.glob S₂ g35) (S₂.keep _ _ (S₂.frag _ _ f35)) rfl ((PX.local (v := .str f.1 t) (F.ns.keeps k) rfl).at ⟨Keeps.refl _, ?_⟩)
      exact (escCT _ _ _ _ _ _ _ _ _ _ h' _ S₂ (by omega) (by omega) hx).mono fun v h₂ q => ⟨q.1, q.2 [] fun b hb => by cases hb⟩
end Mine
end

section
namespace Mine
end Mine
end

section
open PySem PySem.W PyProof.Rows PySem.Calls PySem.SeqAt
set_option maxRecDepth 100000
set_option maxHeartbeats 400000
set_option linter.unusedVariables false
set_option linter.unusedSimpArgs false
namespace Mine
theorem len_list (x : Str) : x.length = x.cps.toList.length := by simp [Str.length]
theorem app_list (x y : Str) : (x ++ y).cps.toList = x.cps.toList ++ y.cps.toList := by rw [Str.cps_append, Array.toList_append]
theorem part_at {x p y q : Str} {c : Nat} {r : List Nat} (hx : x = p ++ y ++ q) (hy : y.cps.toList = c :: r) (hp : c ∉ p.cps.toList) : Txt.partition x y = (p, y, q) := by
  have hxl : x.cps.toList = p.cps.toList ++ (y.cps.toList ++ q.cps.toList) := by rw [hx, app_list, app_list, List.append_assoc]
  have hy1 : 1 ≤ y.length := by rw [len_list, hy]; simp
  have hat : StrLaws.At x y x.length p.length := by
    rw [at_iff hy1, hxl, len_list p, List.drop_left, List.isPrefixOf_iff_prefix]
    exact List.prefix_append _ _
  rcases partition_whole x y with ⟨_, hn⟩ | ⟨i, hp', hi, hn⟩
  · exact absurd hat (hn _)
  · have e : i = p.length := by
      rcases Nat.lt_trichotomy i p.length with h | h | h
      · exfalso
        rw [at_iff hy1, hxl, hy] at hi
        rw [len_list] at h
        rw [List.drop_append_of_le_length (by omega)] at hi
        rw [List.drop_eq_getElem_cons h, List.cons_append, List.isPrefixOf_cons_cons, Bool.and_eq_true, beq_iff_eq] at hi
        exact hp (hi.1 ▸ List.getElem_mem _)
      · exact h
      · exact absurd hat (hn _ h)
    subst e
    rw [hp']
    have e1 : Builtin.Str.strSub x 0 p.length = p := sx (by rw [StrLaws.strSub_toList, hxl, len_list]; simp)
    have e2 : Builtin.Str.strSub x (p.length + y.length) x.length = q := sx (by
      rw [StrLaws.strSub_toList, len_list x, hxl, len_list p, len_list y, ← List.drop_drop, List.drop_left, List.drop_left, List.take_of_length_le]
      simp; omega)
    rw [e1, e2]
theorem slice_from {x p q : Str} (hx : x = p ++ q) {i : Int} (hi : i = p.length) : Txt.slice x (some i) none = q := by
  have hl : x.length = p.length + q.length := by rw [hx, Str.length_append]
  have := slice_from_eq (x := x) (i := i) (b := x.length) (by omega) (by omega) rfl
  rw [this]
  refine sx ?_
  show (List.take _ (List.drop _ x.cps.toList)) = q.cps.toList
  have e1 : i.toNat = p.cps.toList.length := by rw [← len_list]; omega
  have e2 : ((x.length : Int) - i).toNat = q.cps.toList.length := by rw [← len_list]; omega
  rw [e1, e2, hx, app_list, List.drop_left, List.take_length]
theorem slice_upto {x p q : Str} (hx : x = p ++ q) {i : Int} (hi : i = p.length) : Txt.slice x none (some i) = p := by
  have hl : x.length = p.length + q.length := by rw [hx, Str.length_append]
  have := beq_iff_eq.mp (slice_closes_to (x := x) (j := i) ⟨by omega, by rw [← len_list]; omega⟩)
  rw [this]
  refine sx ?_
  show (List.take _ (List.drop (0 : Int).toNat x.cps.toList)) = p.cps.toList
  have e2 : (i - 0).toNat = p.cps.toList.length := by rw [← len_list]; omega
  rw [e2, hx, app_list, show (0 : Int).toNat = 0 from rfl, List.drop_zero, List.take_left]
/-- the row's parts -/
noncomputable def behind (f : File) : Str := txt f.2 ++ S "</file>" ++ escC f.1
noncomputable def from12 (f : File) : Str := escA f.1 ++ S "\">" ++ behind f
theorem row_parts (f : File) : rowOf f = S "<file name=\"" ++ from12 f := by
  show S "<file name=\"" ++ escA f.1 ++ S "\">" ++ txt f.2 ++ S "</file>" ++ escC f.1 = _
  unfold from12 behind
  simp only [Str.append_assoc]
theorem row_from (f : File) : Txt.slice (rowOf f) (some 12) none = from12 f := slice_from (row_parts f) rfl
theorem row_upto (f : File) : Txt.slice (rowOf f) none (some 12) = S "<file name=\"" := slice_upto (row_parts f) rfl
theorem part1 (f : File) : Txt.partition (from12 f) (S "\">") = (escA f.1, S "\">", behind f) :=
  part_at (c := 34) (r := [62]) rfl rfl fun h => (escA_off f.1 _ h).2.2.1 rfl
theorem kb_sign : ∀ n, n < 64 → (kb n).toNat ≠ 60 := by decide +kernel
theorem kb_lt64 (n : Nat) : (kb n).toNat ≠ 60 := by
  by_cases h : n < 64
  · exact kb_sign n h
  · unfold kb
    rw [List.getD_eq_getElem?_getD, List.getElem?_eq_none (by have : b64l.length = 64 := by decide
                                                              omega)]
    decide
theorem txt_off (b : Array UInt8) : 60 ∉ (txt b).cps.toList := by
  have h61 : (61 : UInt8).toNat ≠ 60 := by decide
  unfold txt enc
  rcases hb : b.toList with _ | ⟨x, _ | ⟨y, _ | ⟨z, _ | ⟨u, r⟩⟩⟩⟩ <;> simp [enc1, enc2, enc3, kb_lt64, Ne.symm (kb_lt64 _)]
theorem part2 (f : File) : Txt.partition (behind f) (S "</file>") = (txt f.2, S "</file>", escC f.1) :=
  part_at (c := 60) (r := [47, 102, 105, 108, 101, 62]) rfl rfl (txt_off f.2)
theorem toks_len {f : Nat → List Nat} (h : ∀ a, (f a).length ≤ 6) : ∀ l : List Nat, (l.flatMap f).length ≤ 6 * l.length
  | [] => by simp
  | a :: l => by
    have := toks_len h l
    have := h a
    simp only [List.flatMap_cons, List.length_append, List.length_cons]
    omega
theorem tokC_len (a : Nat) : (tokC a).length ≤ 6 := by unfold tokC; (repeat' split) <;> simp
theorem tokA_len (a : Nat) : (tokA a).length ≤ 6 := by unfold tokA; (repeat' split) <;> first | exact tokC_len a | simp
theorem escA_six (x : Str) : (escA x).length ≤ 6 * x.length := by rw [len_list, len_list x, escA_toks]; exact toks_len tokA_len _
theorem escC_six (x : Str) : (escC x).length ≤ 6 * x.length := by rw [len_list, len_list x, escC_toks]; exact toks_len tokC_len _
theorem txt_four (b : Array UInt8) : (txt b).length ≤ 4 := by
  unfold txt enc
  rcases hb : b.toList with _ | ⟨x, _ | ⟨y, _ | ⟨z, _ | ⟨u, r⟩⟩⟩⟩ <;> simp [Str.length, enc1, enc2, enc3]
theorem from12_len {f : File} (h : f.1.length ≤ 5) : (from12 f).length ≤ 1000 := by
  have h1 := escA_six f.1
  have h2 := escC_six f.1
  have h3 := txt_four f.2
  have h4 : (S "\">").length = 2 := by decide
  have h5 : (S "</file>").length = 7 := by decide
  unfold from12 behind
  simp only [Str.length_append]
  omega
theorem rowOf_len {f : File} (h : f.1.length ≤ 5) : (rowOf f).length ≤ 1000 := by
  have h1 := escA_six f.1
  have h2 := escC_six f.1
  have h3 := txt_four f.2
  have h4 : (S "\">").length = 2 := by decide
  have h5 : (S "</file>").length = 7 := by decide
  have h6 : (S "<file name=\"").length = 12 := by decide
  rw [row_parts]
  unfold from12 behind
  simp only [Str.length_append]
  omega
theorem behind_len {f : File} (h : f.1.length ≤ 5) : (behind f).length ≤ 1000 := by
  have h2 := escC_six f.1
  have h3 := txt_four f.2
  have h5 : (S "</file>").length = 7 := by decide
  unfold behind
  simp only [Str.length_append]
  omega
end Mine
end

section
open PySem PySem.W PyProof.Rows PySem.Calls PySem.SeqAt
set_option maxRecDepth 100000
set_option maxHeartbeats 400000
set_option linter.unusedVariables false
set_option linter.unusedSimpArgs false
namespace Mine
theorem PX.tri {M : Model} {A : Around} {env : Env} {e : Expr} {h : Heap} {P : Value → Prop} (x : PX M A env e P h) : Tri M A (eval e env) (fun v h' => Keeps h h' ∧ P v) h := x.here.mono fun v h' q => ⟨q.2 ▸ Keeps.refl _, q.1⟩
theorem Tri.neStr {prog : Program} {w : World} {A : Around} {h : Heap} {x y : Str} {t u : Tok} {k : Bool} (hk : (x.cps.toList != y.cps.toList) = k) : Tri (model prog w) A (compareOp .NotEq (.str x t) (.str y u)) (fun b h' => b = .bool k ∧ h' = h) h :=
  Tri.quick fun s Q E es ht hQ => PySem.P.ne_str (by rw [hk]; exact hQ _ _ ht rfl)
theorem Tri.eqStr {prog : Program} {w : World} {A : Around} {h : Heap} {x y : Str} {t u : Tok} {k : Bool} (hk : (x.cps.toList == y.cps.toList) = k) : Tri (model prog w) A (compareOp .Eq (.str x t) (.str y u)) (fun b h' => b = .bool k ∧ h' = h) h :=
  Tri.quick fun s Q E es ht hQ => PySem.P.eq_str (by rw [hk]; exact hQ _ _ ht rfl)
theorem readT {w mg mb} {f : File} {t : Tok} (h : OkFile f) : GivesT w mg mb 8 154 [.str (rowOf f) t] [] rRead (f.1, f.2, f.1) (fun _ => True) := by
  intro dp un gd cn cs a' ccd cl outer h₀ h L ST hdp hun hI
  refine Tri.mono (P := fun v h' => Keeps h h' ∧ ∀ G, Live G h → rRead.r G h' v (f.1, f.2, f.1)) ?_ fun v h' q => q
  refine' enterT ST ?ho ?hcd ?room ?bind ?loc ?go ?c1 ?c2 ?c3 ?c4
  case ho => exact f154
  case hcd => kernel_rfl
  case room => omega
  case bind => exact fun s e => BindsTo.of_eq rfl
  case loc => exact locs rfl
  case c1 => rfl
  case c2 => rfl
  case c3 => rfl
  case c4 => decide
  case go =>
    intro g L' h₁ kg hL' F S₁
    rename_i hok
    have hlen := hok.len
    have l0 := rowOf_len hlen
    have l1 := from12_len hlen
    have l2 := behind_len hlen
    have gL : g.get? L' = none := Heap.get?_none_of_le F.above
    obtain ⟨m1, n1, hrow, hgk, hab⟩ : ∃ m, h₁.Ns L' m ∧ m (S "row") = some (.str (rowOf f) t) ∧ Keeps g h₁ ∧ g.objs.size ≤ L' := ⟨_, F.ns, rfl, F.keep, F.above⟩
    clear F
    have hp1 : Txt.partition (Txt.slice (rowOf f) (some 12) none) (S "\">") = (escA f.1, S "\">", behind f) := by rw [row_from]; exact part1 f
    refine Tri.then (Tri.asgThree rfl (Tri.partition (Tri.strFrom ((PX.local n1 hrow).mono fun v e => ⟨t, e⟩) l0) (fun g => PX.const_str) (by decide) (by rw [row_from]; exact l1) hp1 fun T h₂ ta tb tc k₂ hT => ⟨T, _, _, _, _, rfl, hT, n1.keeps k₂, fun h₃ n₃ km₃ => ⟨rfl, ?_⟩⟩))
    refine Tri.then (Tri.asgThree rfl (Tri.partition ((PX.local n₃ (if_pos rfl)).mono fun v e => ⟨tc, e⟩).tri (fun g => PX.const_str) (by decide) l2 (part2 f) fun T2 h₄ td te tf k₄ hT2 => ⟨T2, _, _, _, _, rfl, hT2, n₃.keeps k₄, fun h₅ n₅ km₅ => ⟨rfl, ?_⟩⟩))
    have km : KM [L'] h₁ h₅ := ((Keeps.km k₂).trans km₃).trans ((Keeps.km k₄).trans km₅)
    obtain ⟨m5, n5, r0, rn, rm, re, rwr, rb⟩ : ∃ m, h₅.Ns L' m ∧ m (S "row") = some (.str (rowOf f) t) ∧ m (S "name") = some (.str (escA f.1) ta) ∧ m (S "mark") = some (.str (S "\">") tb) ∧ m (S "end") = some (.str (S "</file>") te) ∧ m (S "written") = some (.str (txt f.2) td) ∧ m (S "behind") = some (.str (escC f.1) tf) := by
      refine ⟨_, n₅, ?_, ?_, ?_, ?_, ?_, ?_⟩
      · rw [if_neg (by decide), if_neg (by decide), if_neg (by decide), if_neg (by decide), if_neg (by decide), if_neg (by decide)]; exact hrow
      · rw [if_neg (by decide), if_neg (by decide), if_neg (by decide), if_neg (by decide), if_neg (by decide), if_pos rfl]
      · rw [if_neg (by decide), if_neg (by decide), if_neg (by decide), if_neg (by decide), if_pos rfl]
      · rw [if_neg (by decide), if_pos rfl]
      · rw [if_neg (by decide), if_neg (by decide), if_pos rfl]
      · rw [if_pos rfl]
    clear km₃ km₅ k₂ k₄ hT hT2 n₅ n₃
    refine Tri.then (Tri.cond (Tri.orFalse ((Tri.cmpTrue (P := fun c h' => c = false ∧ Keeps h₅ h') ((Tri.strUpto ((PX.local n5 r0).mono fun v e => ⟨t, e⟩) l0).mono fun v h₆ q => ?_)).mono fun c h₆ q => ⟨q.1, ?_⟩)))
    · obtain ⟨k₆, t6, rfl⟩ := q
      refine PX.const_str.here.mono fun v h₇ q => ?_
      obtain ⟨⟨t7, rfl⟩, rfl⟩ := q
      rw [row_upto]
      refine (Tri.neStr (k := false) (by simp)).mono fun b h₈ q => ?_
      obtain ⟨rfl, rfl⟩ := q
      exact ⟨_, rfl, rfl, k₆⟩
    obtain ⟨rfl, k₆⟩ := q
    have n₆ := n5.keeps k₆
    refine Tri.orFalse ((Tri.cmpTrue (P := fun c h' => c = false ∧ h' = h₆) ((PX.local n₆ rm).here.mono fun v h₇ q => ?_)).mono fun c h₇ q => ⟨q.1, ?_⟩)
    · obtain ⟨rfl, rfl⟩ := q
      refine PX.const_str.here.mono fun v h₈ q => ?_
      obtain ⟨⟨t7, rfl⟩, rfl⟩ := q
      refine (Tri.eqStr (k := false) (by decide)).mono fun b h₈ q => ?_
      obtain ⟨rfl, rfl⟩ := q
      exact ⟨_, rfl, rfl, rfl⟩
    obtain ⟨rfl, rfl⟩ := q
    refine Tri.orFalse ((Tri.cmpTrue (P := fun c h' => c = false ∧ h' = h₇) ((PX.local n₆ re).here.mono fun v h₈ q => ?_)).mono fun c h7 q => ⟨q.1, ?_⟩)
    · obtain ⟨rfl, rfl⟩ := q
      refine PX.const_str.here.mono fun v h₈ q => ?_
      obtain ⟨⟨t7, rfl⟩, rfl⟩ := q
      refine (Tri.eqStr (k := false) (by decide)).mono fun b h₈ q => ?_
      obtain ⟨rfl, rfl⟩ := q
      exact ⟨_, rfl, rfl, rfl⟩
    obtain ⟨rfl, rfl⟩ := q
    refine Tri.orEnd ?_
    simp only [Bool.false_eq_true, if_false]
    refine Tri.nil ⟨rfl, ?_⟩
    have kM : KM [L'] h₁ h7 := km.trans (Keeps.km k₆)
    clear km
    have hall : ∀ c ∈ (escA f.1).cps.toList, c ∉ (Str.ofString "<>\"\n\t\r").cps.toList := fun c hc hm => by
      have e : (Str.ofString "<>\"\n\t\r").cps.toList = [60, 62, 34, 10, 9, 13] := by decide
      rw [e] at hm
      have := escA_off f.1 c hc
      simp only [List.mem_cons, List.not_mem_nil, or_false] at hm
      omega
    have hall2 : ∀ c ∈ (escC f.1).cps.toList, c ∉ (Str.ofString "<>").cps.toList := fun c hc hm => by
      have e : (Str.ofString "<>").cps.toList = [60, 62] := by decide
      rw [e] at hm
      have := escC_off f.1 c hc
      simp only [List.mem_cons, List.not_mem_nil, or_false] at hm
      omega
    refine Tri.then (Tri.cond ((Tri.cmpTrue (P := fun c h' => c = false ∧ Keeps h7 h') (Tri.binop ?_)).mono fun c h₈ q => ?_))
    · refine (comp_strNone (G := []) (cl := []) (escA f.1) rfl ((PX.local n₆ rn).mono fun v e => ⟨ta, e⟩) (fun b hb => by cases hb) (fun C u ch g2 m hC hm hch hu => Tri.notInText (c := ch) ((PX.local hC hm).mono fun v e => e ▸ hu) PX.const_str (hall ch hch)) rfl ⟨fun _ _ => rfl, fun _ => rfl⟩ rfl (by decide) rfl (fun _ => rfl)).mono fun u1 h₈ q => ?_
      obtain ⟨k₈, r1⟩ := q
      refine (comp_strNone (G := []) (cl := []) (escC f.1) rfl ((PX.local (n₆.keeps k₈) rb).mono fun v e => ⟨tf, e⟩) (fun b hb => by cases hb) (fun C u ch g2 m hC hm hch hu => Tri.notInText (c := ch) ((PX.local hC hm).mono fun v e => e ▸ hu) PX.const_str (hall2 ch hch)) rfl ⟨fun _ _ => rfl, fun _ => rfl⟩ rfl (by decide) rfl (fun _ => rfl)).mono fun u2 h₉ q => ?_
      obtain ⟨k₉, r2⟩ := q
      refine (Tri.addLists (G := []) ((rLst rStr).kp' r1 k₉) r2 (by decide) (fun b hb => by cases hb)).mono fun z h₁₀ q => ?_
      obtain ⟨k₁₀, r3⟩ := q
      refine Tri.list (Tri.args_nil (Tri.newList fun a h₁₁ ha k₁₁ hl => ?_))
      have r4 : (rLst rStr).r [] h₁₁ (.ref a) [] := ⟨a, _, rfl, List.not_mem_nil, hl, rfl, fun i u x p q => by simp at q⟩
      refine (Tri.ne (G := []) (k := false) eqr_str (by show un + 3 + _ < _; omega) ((rLst rStr).kp' r3 k₁₁) r4 (by simp)).mono fun b h₁₂ q => ?_
      obtain ⟨rfl, rfl⟩ := q
      exact ⟨_, rfl, rfl, k₈.trans (k₉.trans (k₁₀.trans k₁₁))⟩
    obtain ⟨rfl, k₈⟩ := q
    simp only [Bool.false_eq_true, if_false]
    refine Tri.nil ⟨rfl, ?_⟩
    have n₈ := n₆.keeps k₈
    have kM₈ : KM [L'] h₁ h₈ := kM.trans (Keeps.km k₈)
    have S₈ : Site w mg mb _ L' _ g h₈ := S₁.km kM₈ (fun b hb => by rw [List.mem_singleton.mp hb]; exact gL) n₈
    have F₈ : Fr g L' h₈ _ := ⟨n₈, fun b o e => kM₈ b o (fun q => by rw [List.mem_singleton.mp q, gL] at e; cases e) (hgk b o e), hab⟩
    have e1 := escA_six f.1
    have e2 := escC_six f.1
    have decT : GivesT w mg mb 3 123 [.str (txt f.2) td] [] rBytes f.2 (fun _ => True) := decT9 hok.2
    refine Tri.cons (Tri.ret (Tri.tuple (Tri.args_cons (Tri.call1 (PX.glob S₈ g149) (S₈.keep _ _ (S₈.frag _ _ f149)) rfl ?_))))
    refine (PX.local n₈ rn).here.mono fun w1 h₉ q => ?_
    obtain ⟨rfl, rfl⟩ := q
    refine ⟨Keeps.refl _, ((plainT (x := escA f.1) (t := ta) (by omega)) _ _ gd _ _ _ _ [] _ g h₉ L' S₈ (by omega) (by omega) trivial).mono fun v1 h₁₀ q => ?_⟩
    obtain ⟨k₁₀, r₁₀⟩ := q
    have S₁₀ := S₈.keeps k₁₀
    refine Tri.args_cons (Tri.call1 (PX.glob S₁₀ g123) (S₁₀.keep _ _ (S₁₀.frag _ _ f123)) rfl ?_)
    refine (PX.local (n₈.keeps k₁₀) rwr).here.mono fun w2 h₁₁ q => ?_
    obtain ⟨rfl, rfl⟩ := q
    refine ⟨Keeps.refl _, (decT _ _ gd _ _ _ _ [] _ g h₁₁ L' S₁₀ (by omega) (by omega) trivial).mono fun v2 h₁₂ q => ?_⟩
    obtain ⟨k₁₂, r₁₂⟩ := q
    have S₁₂ := S₁₀.keeps k₁₂
    refine Tri.args_cons (Tri.call1 (PX.glob S₁₂ g149) (S₁₂.keep _ _ (S₁₂.frag _ _ f149)) rfl ?_)
    refine (PX.local ((n₈.keeps k₁₀).keeps k₁₂) rb).here.mono fun w3 h₁₃ q => ?_
    obtain ⟨rfl, rfl⟩ := q
    refine ⟨Keeps.refl _, ((plainT (x := escC f.1) (t := tf) (by omega)) _ _ gd _ _ _ _ [] _ g h₁₃ L' S₁₂ (by omega) (by omega) trivial).mono fun v3 h₁₄ q => ?_⟩
    obtain ⟨k₁₄, r₁₄⟩ := q
    refine Tri.args_nil (Tri.newTuple fun T' h₁₅ hT' k₁₅ lT => ?_)
    have kk := (k₁₀.trans k₁₂).trans (k₁₄.trans k₁₅)
    have keepAll : Keeps h h₁₅ := fun b o e => kk b o (F₈.keep b o (kg b o e))
    refine .inr ⟨(fun q => nomatch q), _, rfl, fun G hG => ?_, _, F₈.kept kk⟩
    obtain ⟨t1, rfl⟩ := r₁₀ [] fun b hb => by cases hb
    obtain ⟨t2, rfl⟩ := r₁₂ [] fun b hb => by cases hb
    obtain ⟨t3, rfl⟩ := r₁₄ [] fun b hb => by cases hb
    rw [plain_escA, plain_escC] at lT
    have hG4 : Live G h₁₄ := fun b hb => by
      obtain ⟨o, e⟩ := hG b hb
      exact ⟨o, k₁₄ _ _ (k₁₂ _ _ (k₁₀ _ _ (F₈.keep b o (kg b o e))))⟩
    exact ⟨T', _, _, _, rfl, fresh_of hG4 hT', lT, ⟨_, rfl⟩, ⟨_, rfl⟩, ⟨_, rfl⟩⟩
end Mine
end

section
open PySem PySem.W PyProof.Rows PySem.Calls PySem.SeqAt
set_option maxRecDepth 100000
set_option maxHeartbeats 8000000
set_option linter.unusedVariables false
set_option linter.unusedSimpArgs false
namespace Mine
theorem rowT {w mg mb} {f : File} {t u : Tok} (h : OkFile f) : GivesT w mg mb 4 142 [.str f.1 t, .bytes f.2 u] [] rStr (rowOf f) (fun _ => True) := rowT9 h
end Mine
end

section
open PySem PySem.W PyProof.Rows PySem.Calls PySem.SeqAt
set_option maxRecDepth 100000
set_option maxHeartbeats 400000
set_option linter.unusedVariables false
set_option linter.unusedSimpArgs false
namespace Mine
theorem kb_idx : ∀ n, n < 64 → b64l.idxOf (kb n) = n := by decide +kernel
theorem kb_inj {m n : Nat} (hm : m < 64) (hn : n < 64) (e : kb m = kb n) : m = n := by
  have := kb_idx m hm
  rw [e, kb_idx n hn] at this
  exact this.symm
theorem kb_61 : ∀ n, n < 64 → kb n ≠ 61 := by decide +kernel
theorem u8_ext {a b : UInt8} (h : a.toNat = b.toNat) : a = b := UInt8.toNat_inj.mp h
/-- the figure of a sign -/
noncomputable def fv (c : UInt8) : Nat := b64l.idxOf c
noncomputable def d1 (p q : UInt8) : UInt8 := (fv p * 2 ^ 2 + fv q / 2 ^ 4).toUInt8
noncomputable def d2 (q r : UInt8) : UInt8 := (fv q % 2 ^ 4 * 2 ^ 4 + fv r / 2 ^ 2).toUInt8
noncomputable def d3 (r s : UInt8) : UInt8 := (fv r % 2 ^ 2 * 2 ^ 6 + fv s).toUInt8
/-- the octets behind the signs -/
noncomputable def decL : List UInt8 → Array UInt8
  | [p, q, r, s] => if r = 61 then #[d1 p q] else if s = 61 then #[d1 p q, d2 q r] else #[d1 p q, d2 q r, d3 r s]
  | _ => #[]
theorem fv_kb {n : Nat} (h : n < 64) : fv (kb n) = n := kb_idx n h
theorem u8_of {n : Nat} {x : UInt8} (h : n = x.toNat) : n.toUInt8 = x := by rw [h]; exact UInt8.ofNat_toNat
theorem d1_1 {x : UInt8} : d1 (kb (x.toNat / 4)) (kb (x.toNat % 4 * 16)) = x := by
  unfold d1; rw [fv_kb (gA x.toNat_lt), fv_kb (gB _)]; exact u8_of o1
theorem d1_2 {x y : UInt8} : d1 (kb (x.toNat / 4)) (kb (x.toNat % 4 * 16 + y.toNat / 16)) = x := by
  unfold d1; rw [fv_kb (gA x.toNat_lt), fv_kb (gC y.toNat_lt)]; exact u8_of (o2 y.toNat_lt)
theorem d2_2 {x y : UInt8} : d2 (kb (x.toNat % 4 * 16 + y.toNat / 16)) (kb (y.toNat % 16 * 4)) = y := by
  unfold d2; rw [fv_kb (gC y.toNat_lt), fv_kb (gD _)]; exact u8_of (o3 y.toNat_lt)
theorem d2_3 {x y z : UInt8} : d2 (kb (x.toNat % 4 * 16 + y.toNat / 16)) (kb (y.toNat % 16 * 4 + z.toNat / 64)) = y := by
  unfold d2; rw [fv_kb (gC y.toNat_lt), fv_kb (gE z.toNat_lt)]; exact u8_of (o4 y.toNat_lt z.toNat_lt)
theorem d3_3 {y z : UInt8} : d3 (kb (y.toNat % 16 * 4 + z.toNat / 64)) (kb (z.toNat % 64)) = z := by
  unfold d3; rw [fv_kb (gE z.toNat_lt), fv_kb (gF _)]; exact u8_of (o5 z.toNat_lt)
theorem dec_enc {b : Array UInt8} (hb : b.size ≤ 3) : decL (enc b).toList = b := by
  obtain rfl | ⟨x, rfl⟩ | ⟨x, y, rfl⟩ | ⟨x, y, z, rfl⟩ := small_cases hb
  · rfl
  · show #[d1 (kb (x.toNat / 4)) (kb (x.toNat % 4 * 16))] = #[x]
    rw [d1_1]
  · refine (if_neg (kb_61 _ (gD _))).trans ?_
    show #[d1 (kb (x.toNat / 4)) (kb (x.toNat % 4 * 16 + y.toNat / 16)), d2 (kb (x.toNat % 4 * 16 + y.toNat / 16)) (kb (y.toNat % 16 * 4))] = #[x, y]
    rw [d1_2, d2_2]
  · refine (if_neg (kb_61 _ (gE z.toNat_lt))).trans ((if_neg (kb_61 _ (gF _))).trans ?_)
    rw [d1_2, d2_3, d3_3]
theorem enc_inj {a b : Array UInt8} (ha : a.size ≤ 3) (hb : b.size ≤ 3) (e : enc a = enc b) : a = b := by
  rw [← dec_enc ha, e, dec_enc hb]
theorem txt_inj {a b : Array UInt8} (ha : a.size ≤ 3) (hb : b.size ≤ 3) (e : txt a = txt b) : a = b := by
  refine enc_inj ha hb (Array.toList_inj.mp ?_)
  have h := congrArg (fun s : Str => s.cps.toList) e
  simp only [txt] at h
  exact (List.map_inj_right (fun x y h => u8_ext h)).mp h
theorem row_inj {f g : File} (hf : OkFile f) (hg : OkFile g) (e : rowOf f = rowOf g) : f = g := by
  have e1 : from12 f = from12 g := by rw [← row_from, ← row_from, e]
  have p1 := part1 f
  rw [e1, part1 g] at p1
  injection p1 with a1 a2
  injection a2 with _ a3
  have p2 := part2 f
  rw [← a3, part2 g] at p2
  injection p2 with b1 b2
  have h1 : f.1 = g.1 := by rw [← plain_escA f.1, ← a1, plain_escA]
  have h2 : f.2 = g.2 := (txt_inj hg.2 hf.2 b1).symm
  exact Prod.ext h1 h2
end Mine
end

section
open PySem PySem.W PyProof.Rows PySem.Calls PySem.SeqAt
set_option maxRecDepth 100000
set_option maxHeartbeats 400000
set_option linter.unusedVariables false
set_option linter.unusedSimpArgs false
namespace Mine
theorem below_iff {x y : Str} : below x y = true ↔ x.cps.toList < y.cps.toList := by unfold below; exact decide_eq_true_iff
theorem below_irr (x : Str) : below x x = false := by
  rw [Bool.eq_false_iff]; intro h; exact List.lt_irrefl _ (below_iff.mp h)
theorem below_trans {x y z : Str} (a : below x y = true) (b : below y z = true) : below x z = true := below_iff.mpr (List.lt_trans (below_iff.mp a) (below_iff.mp b))
theorem str_ext {x y : Str} (h : x.cps.toList = y.cps.toList) : x = y := by
  cases x; cases y; simp only [Str.mk.injEq]; exact Array.toList_inj.mp h
theorem below_total {x y : Str} (a : below x y = false) (b : below y x = false) : x = y := by
  refine str_ext (List.le_antisymm ?_ ?_)
  · intro h; rw [below_iff.mpr h] at b; cases b
  · intro h; rw [below_iff.mpr h] at a; cases a
theorem below_asymm {x y : Str} (a : below x y = true) : below y x = false := by
  cases h : below y x with
  | false => rfl
  | true => have := below_trans a h; rw [below_irr] at this; cases this
/-- not below is carried on -/
theorem nb_trans {x y z : Str} (a : below y x = false) (b : below z y = false) : below z x = false := by
  cases h : below z x with
  | false => rfl
  | true =>
    cases h2 : below x y with
    | true => have := below_trans h h2; rw [b] at this; cases this
    | false => rw [below_total h2 a] at h; rw [b] at h; cases h
theorem ltCps_below (x y : Str) : Spec.ltCps x.cps.toList y.cps.toList = below x y := ltCps_eq _ _
noncomputable abbrev Rises (l : List Str) : Prop := l.Pairwise (fun a b => below b a = false)
theorem rises_cons : ∀ (p : Str) (l : List Str), risingS p l = true → Rises (p :: l)
  | p, [], _ => List.pairwise_singleton ..
  | p, x :: r, h => by
    have h' : (!Spec.ltCps x.cps.toList p.cps.toList && risingS x r) = true := h
    rw [ltCps_below, Bool.and_eq_true, Bool.not_eq_true'] at h'
    have ih := rises_cons x r h'.2
    refine List.pairwise_cons.mpr ⟨fun y hy => ?_, ih⟩
    rcases List.mem_cons.mp hy with rfl | hy
    · exact h'.1
    · exact nb_trans h'.1 (List.rel_of_pairwise_cons ih hy)
theorem rises_of {l : List Str} (h : sortedS l = true) : Rises l := by
  cases l with
  | nil => exact List.Pairwise.nil
  | cons x r => exact rises_cons x r h
theorem rises_eq {l m : List Str} (a : Rises l) (b : Rises m) (p : l.Perm m) : l = m :=
  List.Perm.eq_of_pairwise (le := fun a b => below b a = false) (fun x y _ _ h1 h2 => below_total h2 h1) a b p
open Classical in
/-- the list in order -/
noncomputable def srt (l : List Str) : List Str := if h : ∃ m, m.Perm l ∧ Rises m then h.choose else l
theorem srt_of {l m : List Str} (p : m.Perm l) (h : Rises m) : srt l = m := by
  have hx : ∃ m, m.Perm l ∧ Rises m := ⟨m, p, h⟩
  unfold srt
  rw [dif_pos hx]
  exact rises_eq hx.choose_spec.2 h (hx.choose_spec.1.trans p.symm)
end Mine
end

section
open PySem PySem.W PyProof.Rows PySem.Calls PySem.SeqAt
set_option maxRecDepth 100000
set_option maxHeartbeats 400000
set_option linter.unusedVariables false
set_option linter.unusedSimpArgs false
namespace Mine
noncomputable def tops (r : Str) (l : List Str) : Bool := l.all fun z => below z r
noncomputable abbrev Ups (l : List Str) : Prop := l.Pairwise (fun a b => below a b = true)
noncomputable def dup (l : List Str) : List Str := l.flatMap fun r => [r, r]
theorem dup_cons (x : Str) (l : List Str) : dup (x :: l) = x :: x :: dup l := rfl
open Classical in
noncomputable def al (ys : List Str) (x : Str) : List Str := if x ∈ ys then [] else if tops x ys = true then [x, x] else [x]
noncomputable def alone (xs ys : List Str) : List Str := xs.flatMap (al ys)
theorem alone_cons (x : Str) (xs ys : List Str) : alone (x :: xs) ys = al ys x ++ alone xs ys := by simp [alone]
theorem below_ne {x y : Str} (h : below x y = true) : x ≠ y := fun e => by rw [e, below_irr] at h; cases h
theorem al_nil (x : Str) : al [] x = [x, x] := by unfold al tops; simp
theorem alone_nil (xs : List Str) : alone xs [] = dup xs := by
  unfold alone dup
  rw [show al [] = fun r => [r, r] from funext al_nil]
/-- a lower head tells nothing -/
theorem al_low {x y : Str} {xs : List Str} (h : below x y = true) : al (x :: xs) y = al xs y := by
  have e1 : (y ∈ x :: xs) = (y ∈ xs) := by
    rw [List.mem_cons, eq_iff_iff]
    exact ⟨fun q => q.resolve_left fun e => below_ne h e.symm, .inr⟩
  have e2 : tops y (x :: xs) = tops y xs := by unfold tops; rw [List.all_cons, h, Bool.true_and]
  unfold al
  simp only [e1, e2]
theorem alone_low {x : Str} {xs ys : List Str} (h : ∀ y ∈ ys, below x y = true) : alone ys (x :: xs) = alone ys xs := by
  induction ys with
  | nil => rfl
  | cons y ys ih =>
    rw [alone_cons, alone_cons, al_low (h y (.head _)), ih fun z hz => h z (.tail _ hz)]
theorem al_head {x y : Str} {ys : List Str} (h : below x y = true) (hy : ∀ z ∈ ys, below y z = true) : al (y :: ys) x = [x] := by
  have e1 : x ∉ y :: ys := fun q => by
    rcases List.mem_cons.mp q with q | q
    · exact below_ne h q
    · exact below_ne (below_trans h (hy x q)) rfl
  have e2 : tops x (y :: ys) = false := by unfold tops; rw [List.all_cons, below_asymm h, Bool.false_and]
  unfold al
  rw [if_neg e1, e2]
  rfl
theorem al_same {x : Str} {ys : List Str} : al (x :: ys) x = [] := by
  unfold al
  rw [if_pos (.head _)]
theorem dw {x : Str} {xs : List Str} (h : ∀ z ∈ xs, below x z = true) : (x :: dup xs).dropWhile (· == x) = dup xs := by
  rw [List.dropWhile_cons, if_pos (by simp)]
  cases xs with
  | nil => rfl
  | cons z xs =>
    rw [dup_cons, List.dropWhile_cons, if_neg]
    simp only [beq_iff_eq]
    exact fun e => below_ne (h z (.head _)) e.symm
theorem sdiff_dup : ∀ (xs ys : List Str), Ups xs → Ups ys → sdiff (dup xs) (dup ys) = (alone xs ys, alone ys xs)
  | [], ys, _, _ => by
    show sdiff [] (dup ys) = _
    rw [sdiff, alone_nil]; rfl
  | x :: xs, [], _, _ => by
    show sdiff (x :: x :: dup xs) [] = _
    rw [sdiff, alone_nil]; rfl
  | x :: xs, y :: ys, hx, hy => by
    have hx' := List.pairwise_cons.mp hx
    have hy' := List.pairwise_cons.mp hy
    rw [dup_cons, dup_cons, sdiff, dw hx'.1, dw hy'.1]
    by_cases h1 : below x y = true
    · rw [if_pos h1]
      have ih := sdiff_dup xs (y :: ys) hx'.2 hy
      rw [dup_cons] at ih
      dsimp only
      rw [ih, alone_cons x, al_head h1 hy'.1, alone_low (ys := y :: ys) (x := x) (xs := xs)]
      · rfl
      · intro z hz
        rcases List.mem_cons.mp hz with rfl | hz
        · exact h1
        · exact below_trans h1 (hy'.1 z hz)
    · rw [if_neg h1]
      by_cases h2 : below y x = true
      · rw [if_pos h2]
        have ih := sdiff_dup (x :: xs) ys hx hy'.2
        rw [dup_cons] at ih
        dsimp only
        rw [ih, alone_cons y, al_head h2 hx'.1, alone_low (ys := x :: xs) (x := y) (xs := ys)]
        · rfl
        · intro z hz
          rcases List.mem_cons.mp hz with rfl | hz
          · exact h2
          · exact below_trans h2 (hx'.1 z hz)
      · rw [if_neg h2]
        have e : x = y := below_total (by simpa using h1) (by simpa using h2)
        subst e
        rw [sdiff_dup xs ys hx'.2 hy'.2, alone_cons, alone_cons, al_same, al_same, alone_low hx'.1, alone_low hy'.1]
        rfl
termination_by xs ys => xs.length + ys.length
/-- there is an order -/
theorem has_order (l : List Str) : ∃ m, m.Perm l ∧ Rises m := by
  refine ⟨l.mergeSort (fun a b => !below b a), List.mergeSort_perm _ _, ?_⟩
  have := List.pairwise_mergeSort (le := fun a b : Str => !below b a) (fun a b c h1 h2 => by
    simp only [Bool.not_eq_true'] at *
    exact nb_trans h1 h2) (fun a b => by
    cases h : below b a with
    | false => rfl
    | true => simp [below_asymm h]) l
  exact this.imp fun h => by simpa using h
theorem srt_perm (l : List Str) : (srt l).Perm l := by
  unfold srt; rw [dif_pos (has_order l)]; exact (has_order l).choose_spec.1
theorem srt_rises (l : List Str) : Rises (srt l) := by
  unfold srt; rw [dif_pos (has_order l)]; exact (has_order l).choose_spec.2
theorem ups_of {l : List Str} (h : Rises l) (n : l.Nodup) : Ups l := by
  refine (List.Pairwise.and h n).imp fun {a b} q => ?_
  cases e : below a b with
  | true => rfl
  | false => exact absurd (below_total e q.1) q.2
theorem dup_perm : ∀ l : List Str, (dup l).Perm (l ++ l)
  | [] => List.Perm.refl _
  | x :: l => by
    rw [dup_cons, List.cons_append]
    exact (((dup_perm l).cons x).trans List.perm_middle.symm).cons x
theorem mem_dup {z : Str} {l : List Str} : z ∈ dup l → z ∈ l := fun h => by
  obtain ⟨r, hr, hz⟩ := List.mem_flatMap.mp h
  simp at hz
  exact hz ▸ hr
theorem rises_dup : ∀ {l : List Str}, Rises l → Rises (dup l)
  | [], _ => List.Pairwise.nil
  | x :: l, h => by
    have h' := List.pairwise_cons.mp h
    rw [dup_cons]
    refine List.pairwise_cons.mpr ⟨fun z hz => ?_, List.pairwise_cons.mpr ⟨fun z hz => h'.1 z (mem_dup hz), rises_dup h'.2⟩⟩
    rcases List.mem_cons.mp hz with rfl | hz
    · exact below_irr _
    · exact h'.1 z (mem_dup hz)
theorem srt_dup {X : List Str} : srt (X ++ X) = dup (srt X) :=
  srt_of ((dup_perm _).trans ((srt_perm X).append (srt_perm X))) (rises_dup (srt_rises X))
theorem mem_al {z x : Str} {ys : List Str} (h : z ∈ al ys x) : z = x := by
  unfold al at h
  split at h
  · cases h
  split at h
  · simpa using h
  · simpa using h
theorem mem_alone {z : Str} {xs ys : List Str} (h : z ∈ alone xs ys) : z ∈ xs := by
  obtain ⟨r, hr, hz⟩ := List.mem_flatMap.mp h
  exact mem_al hz ▸ hr
theorem rises_al (ys : List Str) (x : Str) : Rises (al ys x) := by
  unfold al
  split
  · exact List.Pairwise.nil
  split
  · exact List.pairwise_cons.mpr ⟨fun z hz => by rw [List.mem_singleton.mp hz]; exact below_irr _, List.pairwise_singleton ..⟩
  · exact List.pairwise_singleton ..
theorem rises_alone {ys : List Str} : ∀ {xs : List Str}, Rises xs → Rises (alone xs ys)
  | [], _ => List.Pairwise.nil
  | x :: xs, h => by
    have h' := List.pairwise_cons.mp h
    rw [alone_cons]
    refine List.pairwise_append.mpr ⟨rises_al _ _, rises_alone h'.2, fun a ha b hb => ?_⟩
    rw [mem_al ha]
    exact h'.1 b (mem_alone hb)
theorem al_perm {ys zs : List Str} (p : ys.Perm zs) (x : Str) : al ys x = al zs x := by
  have e1 : (x ∈ ys) = (x ∈ zs) := eq_iff_iff.mpr p.mem_iff
  have e2 : tops x ys = tops x zs := by
    unfold tops
    rw [Bool.eq_iff_iff, List.all_eq_true, List.all_eq_true]
    exact ⟨fun h z hz => h z (p.mem_iff.mpr hz), fun h z hz => h z (p.mem_iff.mp hz)⟩
  unfold al
  simp only [e1, e2]
theorem srt_alone (X Y : List Str) : srt (X.flatMap (al Y)) = alone (srt X) (srt Y) := by
  refine srt_of ?_ (rises_alone (srt_rises X))
  unfold alone
  have e : al (srt Y) = al Y := funext fun x => al_perm (srt_perm Y) x
  rw [e]
  exact (srt_perm X).flatMap_right _
/-- the difference of two orders -/
theorem sdiff_law {X Y : List Str} (hX : X.Nodup) (hY : Y.Nodup) : sdiff (srt (X ++ X)) (srt (Y ++ Y)) = (srt (X.flatMap (al Y)), srt (Y.flatMap (al X))) := by
  rw [srt_dup, srt_dup, srt_alone, srt_alone]
  exact sdiff_dup _ _ (ups_of (srt_rises X) ((srt_perm X).nodup_iff.mpr hX)) (ups_of (srt_rises Y) ((srt_perm Y).nodup_iff.mpr hY))
end Mine
end

section
open PySem PySem.W PyProof.Rows PySem.Calls PySem.SeqAt
set_option maxRecDepth 100000
set_option maxHeartbeats 8000000
set_option linter.unusedVariables false
set_option linter.unusedSimpArgs false
namespace Mine
/-- the body and the scope of the top's i-th statement, a def -/
noncomputable def defAt (i : Nat) : List Stmt × Scope := match PySem.Challenge.pw_oy0102_01.main.body.drop i with
  | .FunctionDef _ _ body _ _ _ scope _ _ _ :: _ => (body, scope)
  | _ => ([], default)
noncomputable def lawBody : List Stmt := (defAt 27).1
noncomputable def lawScope : Scope := (defAt 27).2
/-- a name read, whatever the count -/
noncomputable def PN (M : Model) (A : Around) (env : Env) (e : Expr) (v : Value) (h : Heap) : Prop := ∀ (s : Shared) (Q : Value → Shared → Prop) (E : Value → Shared → Prop), s.heap = h → Q v s → wpAny M A (eval e env) Q E s
theorem PN.local {M : Model} {A : Around} {env : Env} {h : Heap} {m : Str → Option Value} {x : Str} {pos : Pos} {v : Value} (n : h.Ns env.locals m) (hv : m x = some v) (hk : env.scope.kind = .function := by rfl) (hx : env.kindOf x = some .local := by rfl) (hd : (x == ("__debug__" : Str)) = false := by decide) :
    PN M A env (.Name x pos) v h := fun s Q E e hQ => wpAny_Name (wpAny_loadName_local hk hx (by rw [e]; exact n) hv hQ) hd
theorem PN.glob {w : World} {mg mb : Str → Option Value} {cs : Scope} {L : Addr} {outer : List Env} {h₀ h : Heap} {env : Env} {M : Model} {A : Around} {x : Str} {pos : Pos} {v : Value} (S : Site w mg mb cs L outer h₀ h) (e : nsIn (KK w.params) mainGlobals x = some (some v)) (hg : env.globals = mainGlobals := by rfl) (hk : env.scope.kind = .function := by rfl) (hx : env.kindOf x = some .globalImplicit := by rfl) (hdb : (x == ("__debug__" : Str)) = false := by decide) :
    PN M A env (.Name x pos) v h := fun s Q E es hQ => by
  obtain ⟨_, _, mean, T⟩ := S.top
  exact Name_function_global hk hx (loadGlobal_global (env := env) (by rw [hg, es]; exact T.g.keeps S.keep) (mg_of S.frag T.g e) hQ) hdb
/-- a name's first use: a call of a def upon a list cut short, stored in a cell -/
theorem first_asg {w : World} {A : Around} {env : Env} {x f y : Str} {p1 p2 p3 p4 p5 p6 p7 pos : Pos} {kk : Nat} {rest : List Stmt} {h : Heap} {P : Flow → Heap → Prop} {c fa l : Addr} {o : Obj} {fd : FuncData} {vs : List Value} {ns : List Int} {n : Nat}
    (hf : PN (model PG w) A env (.Name f p2) (.ref fa) h) (ho : h.get? fa = some o) (hd : o.data = .func fd) (hy : PN (model PG w) A env (.Name y p3) (.ref l) h) (hl : h.IsList l vs.toArray) (hi : IntsAre vs ns) (hsz : ns.length ≤ 63)
    (hc : env.cells.lookup x = some c)
    (go : ∀ v h₁, Keeps h h₁ → (rLst rInt).r [] h₁ v (ns.take n) → Tri (model PG w) A (call (.ref fa) [v]) (fun v h₂ => (∃ v₀, h₂.IsCell c v₀) ∧ ∀ h₃, h₃.IsCell c (some v) → Heap.SameBut c h₂ h₃ → Tri (model PG w) A (execs rest env) P h₃) h₁)
    {s : Shared} {Q : Flow → Shared → Prop} {E : Value → Shared → Prop} (es : s.heap = h) (hQ : ∀ f h' tk, 0 < tk → P f h' → Q f { s with heap := h', toks := tk })
    (hk : env.scope.kind = .function := by rfl) (hx : env.kindOf x = some .cell := by rfl) (hs2 : swapsWith (.Call (.Name f p2) [.Subscript (.Name y p3) (.Slice none (some (.Constant (.int n) kk p4)) none p5) p6] [] p7) (some (.Name x p1)) pos.line env = Pure.pure false := by rfl)
    (hse : starEach [.Subscript (.Name y p3) (.Slice none (some (.Constant (.int n) kk p4)) none p5) p6] env = [(false, eval (.Subscript (.Name y p3) (.Slice none (some (.Constant (.int n) kk p4)) none p5) p6) env)] := by rfl) :
    wpAny (model PG w) A (execs (.Assign [.Name x p1] (.Call (.Name f p2) [.Subscript (.Name y p3) (.Slice none (some (.Constant (.int n) kk p4)) none p5) p6] [] p7) pos :: rest) env) Q E s := by
  subst es
  refine wpAny_execs_cons (wpAny_Assign_Name ?_ hs2)
  refine Call_Name1 (hf _ _ _ rfl ?_) hse
  refine callWith_function (o := o) (fd := fd) (evalArgs_plain (spliced_cons ?_))
  refine wpAny_Subscript_list_slice (hy _ _ _ rfl ?_)
  refine evalPart_none_step (evalPart_some_step (wpAny_Constant_int ?_))
  have hlen := hi.length
  refine ⟨l, vs.toArray, none, some n, rfl, hl, by rw [sizeLine_eq]; simp; omega, .none, .int _ _, spliced_nil ⟨⟨?_, hd⟩, ?_⟩⟩
  · exact Heap.get?_push_of_some _ (Heap.get?_push_of_some _ ho)
  · have hi2 := slice_ints_uptoW hi (y := (n : Int)) (by omega)
    rw [Int.toNat_natCast] at hi2
    have rd : (rLst rInt).r [] ((s.heap.push { cls := .type "slice", data := .fields #[.none, .int n s.toks, .none] }).push { cls := .type "list", data := .seq (slicePick vs.toArray none (some (n : Int)) none) }) (.ref (s.heap.objs.size + 1)) (ns.take n) := by
      refine ⟨_, slicePick vs.toArray none (some (n : Int)) none, rfl, List.not_mem_nil, ⟨{ cls := .type "list", data := .seq (slicePick vs.toArray none (some (n : Int)) none) }, ?_, rfl, _, rfl⟩, by have := hi2.length; simpa using this, fun i u z p q => ?_⟩
      · rw [show s.heap.objs.size + 1 = (s.heap.push { cls := .type "slice", data := .fields #[.none, .int n s.toks, .none] }).objs.size from (Heap.size_push ..).symm]
        exact Heap.get?_push_size _ rfl
      · obtain ⟨t, e⟩ := hi2.get i z q
        have p' : (slicePick vs.toArray none (some (n : Int)) none).toList[i]? = some u := by simpa using p
        rw [p'] at e
        exact ⟨t, Option.some.inj e⟩
    refine Tri.use (go _ _ (fun b o e => Heap.get?_push_of_some _ (Heap.get?_push_of_some _ e)) rd) rfl (Nat.succ_pos _) fun v h₂ tk₂ t₂ q₂ => ?_
    obtain ⟨⟨v₀, hv⟩, k₂⟩ := q₂
    refine wpAny_storeName_cell hk hx hc hv fun h₃ n₃ s₃ => ?_
    exact (k₂ h₃ n₃ s₃).use rfl t₂ hQ

/-- law's frame and its four cells -/
structure LS (w : World) (mg mb : Str → Option Value) (cs : Scope) (L : Addr) (h₀ : Heap) (v1 v2 v3 v4 : Option Value) (h : Heap) : Prop where
  st : Site w mg mb cs L [] h₀ h
  c1 : h.IsCell (L + 1) v1
  c2 : h.IsCell (L + 1 + 1) v2
  c3 : h.IsCell (L + 1 + 1 + 1) v3
  c4 : h.IsCell (L + 1 + 1 + 1 + 1) v4
noncomputable def LG (L : Addr) : List Addr := [L, L + 1, L + 1 + 1, L + 1 + 1 + 1, L + 1 + 1 + 1 + 1]
section
variable {w : World} {mg mb : Str → Option Value} {cs : Scope} {L : Addr} {h₀ h h' : Heap} {v1 v2 v3 v4 : Option Value}
theorem LS.keeps (x : LS w mg mb cs L h₀ v1 v2 v3 v4 h) (k : Keeps h h') : LS w mg mb cs L h₀ v1 v2 v3 v4 h' := ⟨x.st.keeps k, x.c1.keeps k, x.c2.keeps k, x.c3.keeps k, x.c4.keeps k⟩
theorem LS.live (x : LS w mg mb cs L h₀ v1 v2 v3 v4 h) : Live (LG L) h := fun b hb => by
  simp only [LG, List.mem_cons, List.not_mem_nil, or_false] at hb
  rcases hb with rfl | rfl | rfl | rfl | rfl
  · exact x.st.liveL
  · obtain ⟨o, e, _⟩ := x.c1; exact ⟨o, e⟩
  · obtain ⟨o, e, _⟩ := x.c2; exact ⟨o, e⟩
  · obtain ⟨o, e, _⟩ := x.c3; exact ⟨o, e⟩
  · obtain ⟨o, e, _⟩ := x.c4; exact ⟨o, e⟩
theorem Site.set (S : Site w mg mb cs L [] h₀ h) {c : Addr} (k : KM [c] h h') (hc : L < c) : Site w mg mb cs L [] h₀ h' := by
  obtain ⟨m, F⟩ := S.fr
  refine S.km k (fun b hb => ?_) (k.ns F.ns (fun q => Nat.ne_of_lt hc (List.mem_singleton.mp q)))
  rw [List.mem_singleton.mp hb]
  exact Heap.get?_none_of_le (Nat.le_trans F.above (Nat.le_of_lt hc))
theorem KM.cell1 {c d : Addr} {v : Option Value} (k : KM [c] h h') (x : h.IsCell d v) (n : d ≠ c) : h'.IsCell d v := k.cell x fun q => n (List.mem_singleton.mp q)
theorem LS.set1 (x : LS w mg mb cs L h₀ v1 v2 v3 v4 h) {v : Option Value} (n : h'.IsCell (L + 1) v) (s : Heap.SameBut (L + 1) h h') : LS w mg mb cs L h₀ v v2 v3 v4 h' :=
  have k : KM [L + 1] h h' := km_but s (.head _)
  ⟨x.st.set k (Nat.lt_succ_self _), n, k.cell1 x.c2 (by change @Ne Nat _ _; omega), k.cell1 x.c3 (by change @Ne Nat _ _; omega), k.cell1 x.c4 (by change @Ne Nat _ _; omega)⟩
theorem LS.set2 (x : LS w mg mb cs L h₀ v1 v2 v3 v4 h) {v : Option Value} (n : h'.IsCell (L + 1 + 1) v) (s : Heap.SameBut (L + 1 + 1) h h') : LS w mg mb cs L h₀ v1 v v3 v4 h' :=
  have k : KM [L + 1 + 1] h h' := km_but s (.head _)
  ⟨x.st.set k (by change @LT.lt Nat _ _ _; omega), k.cell1 x.c1 (by change @Ne Nat _ _; omega), n, k.cell1 x.c3 (by change @Ne Nat _ _; omega), k.cell1 x.c4 (by change @Ne Nat _ _; omega)⟩
theorem LS.set3 (x : LS w mg mb cs L h₀ v1 v2 v3 v4 h) {v : Option Value} (n : h'.IsCell (L + 1 + 1 + 1) v) (s : Heap.SameBut (L + 1 + 1 + 1) h h') : LS w mg mb cs L h₀ v1 v2 v v4 h' :=
  have k : KM [L + 1 + 1 + 1] h h' := km_but s (.head _)
  ⟨x.st.set k (by change @LT.lt Nat _ _ _; omega), k.cell1 x.c1 (by change @Ne Nat _ _; omega), k.cell1 x.c2 (by change @Ne Nat _ _; omega), n, k.cell1 x.c4 (by change @Ne Nat _ _; omega)⟩
theorem LS.set4 (x : LS w mg mb cs L h₀ v1 v2 v3 v4 h) {v : Option Value} (n : h'.IsCell (L + 1 + 1 + 1 + 1) v) (s : Heap.SameBut (L + 1 + 1 + 1 + 1) h h') : LS w mg mb cs L h₀ v1 v2 v3 v h' :=
  have k : KM [L + 1 + 1 + 1 + 1] h h' := km_but s (.head _)
  ⟨x.st.set k (by change @LT.lt Nat _ _ _; omega), k.cell1 x.c1 (by change @Ne Nat _ _; omega), k.cell1 x.c2 (by change @Ne Nat _ _; omega), k.cell1 x.c3 (by change @Ne Nat _ _; omega), n⟩
theorem km_LG {c : Addr} {i : Nat} (s : Heap.SameBut c h h') (hc : c ∈ LG L) : KM (LG L) h h' := km_but s hc
theorem Tri.with {M : Model} {A : Around} {α : Type} {t : Sem α} {P P' : α → Heap → Prop} (x : Tri M A t P h) (k : ∀ a h', P a h' → P' a h') : Tri M A t P' h := x.mono k
end
section
variable {prog : Program} {w : World} {A : Around} {env : Env} {h : Heap} {G : List Addr}
/-- walks along a list that stands, told by what it stands for -/
theorem src_of {α : Type} {R : Rel α} {e target : Expr} {v : Value} {xs : List α} (hh : A.handled = none) (hl : PX (model prog w) A env e (· = v) h) (hv : (rLst R).r G h v xs)
    (go : ∀ I a i h' v, h'.IsListIter I a i → Tri (model prog w) A (letOwnedTupleGo target (.ref I) v) (fun _ h'' => h'' = h') h') :
    Tri (model prog w) A (eval e env) (fun x h₁ => Tri (model prog w) A (pyIter x) (fun it h₂ => ∃ I, it = .ref I ∧ Src prog w A target h xs.length (fun i u => ∃ x, xs[i]? = some x ∧ R.r G h u x) I h₂) h₁) h := by
  obtain ⟨a, vs, rfl, _, hl', hs, hr⟩ := hv
  refine (src_list hh hl hl' (target := target) (fun I i h' v hi => go I a i h' v hi)).mono fun x h₁ q => q.mono fun it h₂ q => ?_
  obtain ⟨I, rfl, k, fp, wr, St, W, rest⟩ := q
  rw [hs] at W
  refine ⟨I, rfl, k, fp, wr, St, ⟨W.sub, W.frame, fun i s Q E hi st hQ => W.item i s Q E hi st fun v h' tk hP => hQ v h' tk ?_, W.done, W.self⟩, rest⟩
  exact ⟨xs[i], by simp [hi], hr i v xs[i] hP (by simp [hi])⟩
theorem comp_of {α β : Type} (R : Rel α) (S : Rel β) (f : β → α) (xs : List β) {elt target iter : Expr} {scope : Scope} {pos : Pos} {cl : List (Str × Addr)} {v : Value}
    (hh : A.handled = none) (hl : PX (model prog w) A env iter (· = v) h) (hv : (rLst S).r G h v xs) (hsz : xs.length ≤ 1000) (hG : Live G h)
    (turn : ∀ N C u x h₁ m, (∀ b ∈ N, h.get? b = none) → Keeps h h₁ → Live (N ++ G) h₁ → C ∈ N → h₁.Ns C m → x ∈ xs → S.r (N ++ G) h₁ u x →
      Tri (model prog w) A (assign target (compEnvC scope cl C env) u) (fun _ h₂ => KM [C] h₁ h₂ ∧ (∃ m, h₂.Ns C m) ∧ Tri (model prog w) A (eval elt (compEnvC scope cl C env)) (fun y h₃ => Keeps h₂ h₃ ∧ R.r (N ++ G) h₃ y (f x)) h₂) h₁)
    (go : ∀ I a i h' v, h'.IsListIter I a i → Tri (model prog w) A (letOwnedTupleGo target (.ref I) v) (fun _ h'' => h'' = h') h')
    (hclos : closureFor scope env = Pure.pure cl) (oc : OneCell scope none) (hkind : scope.kind = .function) (hnames : ∀ y ∈ scope.names, y.2 = .local → scope.names.lookup y.1 = some .local)
    (hs : ∀ x, foldedSetIterable iter env x = Pure.pure x) :
    Tri (model prog w) A (eval (.ListComp elt [⟨target, iter, [], 0⟩] scope pos) env) (fun v h' => Keeps h h' ∧ (rLst R).r G h' v (xs.map f)) h := by
  have src := src_of (target := target) hh hl hv go
  rw [← List.length_map f] at src
  refine comp_map R (xs.map f) (cq := none) hclos oc hkind hnames hG (by rw [List.length_map, sizeLine_eq]; omega) src ?_ hs
  intro N D C cs i u a h₁ hcs hsub hCcs hN k₁ lv fr hla hPv
  obtain rfl : cs = [] := hcs
  obtain ⟨x, hx, hr⟩ := hPv
  rw [List.getElem?_map, hx] at hla
  cases hla
  obtain ⟨m, hm⟩ := fr.1
  refine (turn N C u x h₁ m hN k₁ lv (hsub C (.tail _ (.head _))) hm (List.mem_of_getElem? hx) (S.kp' (S.fresh2 N hr hN) k₁)).mono fun _ h₂ q => ?_
  exact ⟨q.1, ⟨q.2.1, fun c hc => by cases hc⟩, q.2.2⟩
theorem comp_rng {α : Type} (R : Rel α) (f : Nat → α) (n : Nat) {cq : Option Str} {elt e : Expr} {x fn : Str} {px p q : Pos} {scope : Scope} {pos : Pos} {cl : List (Str × Addr)}
    (hh : A.handled = none) (hf : PX (model prog w) A env (.Name fn p) (· = .type "range") h) (he : PX (model prog w) A env e (isInt n) h) (hn : n ≤ 1000) (hG : Live G h)
    (turn : ∀ N D C cs u i h₁, cs = addrsOf cq (C + 1) → (∀ b ∈ N, h.get? b = none) → Keeps h h₁ → Live (N ++ G) h₁ → (∀ b ∈ scr D C cs, b ∈ N) → C ∉ cs → FrameOk h₁ C cs → i < n → isInt i u →
      Tri (model prog w) A (assign (.Name x px) (compEnvC scope (cellsOf cq (C + 1) cl) C env) u) (fun _ h₂ => KM (C :: cs) h₁ h₂ ∧ FrameOk h₂ C cs ∧ Tri (model prog w) A (eval elt (compEnvC scope (cellsOf cq (C + 1) cl) C env)) (fun y h₃ => Keeps h₂ h₃ ∧ R.r (N ++ G) h₃ y (f i)) h₂) h₁)
    (hclos : closureFor scope env = Pure.pure cl) (oc : OneCell scope cq) (hkind : scope.kind = .function) (hnames : ∀ y ∈ scope.names, y.2 = .local → scope.names.lookup y.1 = some .local)
    (hs : ∀ x, foldedSetIterable (.Call (.Name fn p) [e] [] q) env x = Pure.pure x) (hse : starEach [e] env = [(false, eval e env)] := by rfl) :
    Tri (model prog w) A (eval (.ListComp elt [⟨.Name x px, .Call (.Name fn p) [e] [] q, [], 0⟩] scope pos) env) (fun v h' => Keeps h h' ∧ (rLst R).r G h' v ((List.range n).map f)) h := by
  have src := (src_range hh hf (he.here.mono fun u h' q => ⟨q.2 ▸ Keeps.refl _, q.1⟩) (by omega) (pos := q) hse).mono fun x' h₁ q' => q'.mono fun it h₂ q' => (let ⟨I, e, s⟩ := q'; ⟨I, e, s.src (x := x) (px := px)⟩ : ∃ I, it = .ref I ∧ Src prog w A (.Name x px) h n (fun i v => isInt i v) I h₂)
  have hl : ((List.range n).map f).length = n := by simp
  rw [← hl] at src
  refine comp_map R ((List.range n).map f) hclos oc hkind hnames hG (by rw [hl, sizeLine_eq]; omega) src ?_ hs
  intro N D C cs i u a h₁ hcs hsub hCcs hN k₁ lv fr hla hPv
  have hi : i < n := by have := (List.getElem?_eq_some_iff.mp hla).1; omega
  have ha : a = f i := by
    rw [List.getElem?_map, List.getElem?_range hi] at hla
    cases hla; rfl
  rw [ha]
  exact turn N D C cs u i h₁ hcs hN k₁ lv hsub hCcs fr hi hPv
end
open Classical in
noncomputable def unrow (r : Str) : File := if h : ∃ f, OkFile f ∧ rowOf f = r then h.choose else (⟨#[]⟩, #[])
theorem unrow_row {f : File} (hf : OkFile f) : unrow (rowOf f) = f := by
  have hx : ∃ g, OkFile g ∧ rowOf g = rowOf f := ⟨f, hf, rfl⟩
  unfold unrow
  rw [dif_pos hx]
  exact row_inj hx.choose_spec.1 hf hx.choose_spec.2
noncomputable def thrice (f : File) : Str × Array UInt8 × Str := (f.1, f.2, f.1)
noncomputable def readRow (r : Str) : Str × Array UInt8 × Str := thrice (unrow r)
theorem eqr_read : EqR rRead 1 := eqr_tup3 eqr_str eqr_bytes eqr_str
theorem tops_of {y r : Str} {l : List Str} (hy : y ∈ l) (hm : ∀ z ∈ l, ¬ (y.cps.toList < z.cps.toList)) : below y r = tops r l := by
  unfold tops
  refine bool_of_iff (P := ∀ z ∈ l, below z r = true) ⟨fun h z hz => ?_, fun h => h y hy⟩ (by rw [List.all_eq_true])
  have h1 : below y z = false := by rw [Bool.eq_false_iff]; exact fun q => hm z hz (below_iff.mp q)
  cases h2 : below z r with
  | true => rfl
  | false => have := nb_trans h2 h1; rw [h] at this; cases this
noncomputable abbrev nof : File := (⟨#[]⟩, #[])
open Classical in
noncomputable def offL (f : File) (l : List File) : Bool := decide (f ∉ l)
theorem offL_iff {f : File} {l : List File} : offL f l = true ↔ f ∉ l := by unfold offL; simp
/-- the rows of the files of A that B has not, those behind all of B's twice -/
noncomputable def aloneL (A B : List File) : List Str := (List.range A.length).flatMap fun p =>
  if offL (A.getD p nof) B then List.replicate (if tops (rowOf (A.getD p nof)) (B.map rowOf) then 2 else 1) (rowOf (A.getD p nof)) else []
theorem aloneL_len (A B : List File) : (aloneL A B).length ≤ 2 * A.length := by
  unfold aloneL
  generalize A.length = n
  induction n with
  | zero => simp
  | succ n ih =>
    rw [List.range_succ, List.flatMap_append, List.length_append, List.flatMap_singleton]
    have : (if offL (A.getD n nof) B = true then List.replicate (if tops (rowOf (A.getD n nof)) (B.map rowOf) then 2 else 1) (rowOf (A.getD n nof)) else []).length ≤ 2 := by
      split
      · rw [List.length_replicate]; split <;> omega
      · exact Nat.zero_le _
    omega
noncomputable def sel (P : List File × List File) (q : Nat) : List File := if q = 0 then P.1 else P.2
theorem sel_get {P : List File × List File} {q : Nat} (h : q < 2) : [P.1, P.2][((q : Nat) : Int).toNat]? = some (sel P q) := by
  match q, h with
  | 0, _ => rfl
  | 1, _ => rfl
theorem sel_get' {P : List File × List File} {q : Nat} (h : q < 2) : [P.1, P.2][((1 : Int) - (q : Nat)).toNat]? = some (sel P (1 - q)) := by
  match q, h with
  | 0, _ => rfl
  | 1, _ => rfl
theorem selR_get {P : List File × List File} {q : Nat} (h : q < 2) : ([P.1, P.2].map fun fs => fs.map rowOf)[((q : Nat) : Int).toNat]? = some ((sel P q).map rowOf) := by
  match q, h with
  | 0, _ => rfl
  | 1, _ => rfl
theorem selR_get' {P : List File × List File} {q : Nat} (h : q < 2) : ([P.1, P.2].map fun fs => fs.map rowOf)[((1 : Int) - (q : Nat)).toNat]? = some ((sel P (1 - q)).map rowOf) := by
  match q, h with
  | 0, _ => rfl
  | 1, _ => rfl
theorem getD_of {α : Type} {l : List α} {p : Nat} {d : α} (h : p < l.length) : l[((p : Nat) : Int).toNat]? = some (l.getD p d) := by
  rw [Int.toNat_natCast, List.getD_eq_getElem?_getD, List.getElem?_eq_getElem h]; rfl
theorem eqr_file : EqR rFile 1 := eqr_tup2 eqr_str eqr_bytes
theorem range_getD {α β : Type} (F : α → List β) (d : α) (A : List α) : (List.range A.length).flatMap (fun p => F (A.getD p d)) = A.flatMap F := by
  have key : ∀ n, n ≤ A.length → (List.range n).flatMap (fun p => F (A.getD p d)) = (A.take n).flatMap F := by
    intro n
    induction n with
    | zero => intro _; rfl
    | succ n ih =>
      intro h
      rw [List.range_succ, List.flatMap_append, ih (by omega), List.take_add_one, List.flatMap_append, List.flatMap_singleton, List.getD_eq_getElem?_getD, List.getElem?_eq_getElem (by omega)]
      simp
  rw [key _ (Nat.le_refl _), List.take_length]
theorem aloneL_eq {A B : List File} (hA : ∀ f ∈ A, OkFile f) (hB : ∀ f ∈ B, OkFile f) : aloneL A B = (A.map rowOf).flatMap (al (B.map rowOf)) := by
  unfold aloneL
  rw [range_getD (fun f => if offL f B then List.replicate (if tops (rowOf f) (B.map rowOf) then 2 else 1) (rowOf f) else []) nof A, List.flatMap_map]
  have key : ∀ l : List File, (∀ f ∈ l, OkFile f) → l.flatMap (fun f => if offL f B then List.replicate (if tops (rowOf f) (B.map rowOf) then 2 else 1) (rowOf f) else []) = l.flatMap fun f => al (B.map rowOf) (rowOf f) := by
    intro l
    induction l with
    | nil => intro _; rfl
    | cons f l ih =>
      intro h
      rw [List.flatMap_cons, List.flatMap_cons, ih fun g hg => h g (.tail _ hg)]
      congr 1
      have e : rowOf f ∈ B.map rowOf ↔ f ∈ B := by
        refine ⟨fun q => ?_, fun q => List.mem_map.mpr ⟨f, q, rfl⟩⟩
        obtain ⟨g, hg, e⟩ := List.mem_map.mp q
        exact row_inj (hB g hg) (h f (.head _)) e ▸ hg
      unfold al
      by_cases q : f ∈ B
      · rw [if_neg (by rw [offL_iff]; exact fun n => n q), if_pos (e.mpr q)]
      · rw [if_pos (offL_iff.mpr q), if_neg (fun n => q (e.mp n))]
        split <;> rfl
  exact key A hA
theorem nodup_rows {A : List File} (hA : ∀ f ∈ A, OkFile f) (nA : A.Nodup) : (A.map rowOf).Nodup := by
  refine List.pairwise_map.mpr (List.Pairwise.imp_of_mem ?_ nA)
  intro f g hf hg n e
  exact n (row_inj (hA f hf) (hA g hg) e)
theorem diff_law {A B : List File} (hA : ∀ f ∈ A, OkFile f) (hB : ∀ f ∈ B, OkFile f) (nA : A.Nodup) (nB : B.Nodup) (eA : A ≠ []) (eB : B ≠ []) :
    sdiff (srt (A.map rowOf ++ A.map rowOf)) (srt (B.map rowOf ++ B.map rowOf)) = (srt (aloneL A B), srt (aloneL B A)) := by
  rw [sdiff_law (nodup_rows hA nA) (nodup_rows hB nB), aloneL_eq hA hB, aloneL_eq hB hA]
theorem rises_srt (l : List Str) : (srt l).length = l.length := by
  unfold srt
  split
  · rename_i h; exact h.choose_spec.1.length_eq
  · rfl
noncomputable def pairL (P : List File × List File) (q : Nat) : List Str := (sel P q).map rowOf ++ (sel P q).map rowOf
theorem pair_get {P : List File × List File} {q : Nat} (h : q < 2) : (([P.1, P.2].map fun fs => fs.map rowOf).map fun rs => srt (rs ++ rs))[((q : Nat) : Int).toNat]? = some (srt (pairL P q)) := by
  match q, h with
  | 0, _ => rfl
  | 1, _ => rfl
theorem pair_get' {P : List File × List File} {q : Nat} (h : q < 2) : (([P.1, P.2].map fun fs => fs.map rowOf).map fun rs => srt (rs ++ rs))[((1 : Int) - (q : Nat)).toNat]? = some (srt (pairL P (1 - q))) := by
  match q, h with
  | 0, _ => rfl
  | 1, _ => rfl
noncomputable def alP (P : List File × List File) (q : Nat) : List Str := srt (aloneL (sel P q) (sel P (1 - q)))
theorem al_get {P : List File × List File} {q : Nat} (h : q < 2) : ((List.range 2).map (alP P))[((q : Nat) : Int).toNat]? = some (alP P q) := by
  match q, h with
  | 0, _ => rfl
  | 1, _ => rfl
theorem al_get' {P : List File × List File} {q : Nat} (h : q < 2) : ((List.range 2).map (alP P))[((1 : Int) - (q : Nat)).toNat]? = some (alP P (1 - q)) := by
  match q, h with
  | 0, _ => rfl
  | 1, _ => rfl
noncomputable abbrev rPair : Rel (List Str × List Str) := rTup2 rTexts rTexts
theorem eqr_pair : EqR rPair 2 := eqr_tup2 (eqr_list eqr_str) (eqr_list eqr_str)
theorem law_pair {P : List File × List File} (h1 : ∀ q, ∀ f ∈ sel P q, OkFile f) (h2 : ∀ q, (sel P q).Nodup) (h3 : ∀ q, sel P q ≠ []) :
    (List.range 2).map (fun q => sdiff (srt (pairL P q)) (srt (pairL P (1 - q)))) = (List.range 2).map fun q => (alP P q, alP P (1 - q)) := by
  refine List.map_congr_left fun q hq => ?_
  have hq : q < 2 := List.mem_range.mp hq
  have e : 1 - (1 - q) = q := by omega
  unfold pairL alP
  rw [diff_law (h1 q) (h1 (1 - q)) (h2 q) (h2 (1 - q)) (h3 q) (h3 (1 - q)), e]
end Mine
end

section
open PySem PySem.W PyProof.Rows PySem.Calls PySem.SeqAt
set_option maxRecDepth 100000
set_option maxHeartbeats 400000
set_option linter.unusedVariables false
set_option linter.unusedSimpArgs false
namespace Mine
section
variable {K : DC} {w : World} {A : Around} {h : Heap} {c : Bool} {Fc : Heap → Prop} {p1 p2 p3 p4 p5 p6 p7 p8 p9 : Pos} {kk : Nat}
theorem scanI (V : DV K) (W : XW K.hB K.base K.env K.outer K.L Fc) (hfr : A.frames = some (K.env :: K.outer)) (hu : A.units + 8 < cLine) (hk : K.env.scope.kind = .function) (k1 : K.env.kindOf (S "expected") = some .local) (k2 : K.env.kindOf (S "i") = some .local) (k3 : K.env.kindOf (S "e") = some .local)
    {j : Nat} {e : Str} {ao : Option Str} {ms us : List Str} {X : Heap → Prop} (hX : ∀ h h', X h → Heap.SameBut K.L h h' → X h') (hA : ∀ h, X h → HandOk A h)
    (n0 : Nat) (up : ∀ h h' e', DS K K.x.length j (some e) ao ms us h → X h → NewX A h h' e' → (K.x.drop n0).dropWhile (· == e) = [] → Up K.hB K.L c Fc (.ref e') h')
    (d : DS K n0 j (some e) ao ms us h) (x : X h) (hn : n0 ≤ K.x.length) :
    TriE (model PG w) A (exec (.While (.Compare (.Subscript (.Name (S "expected") p1) (.Name (S "i") p2) p3) [.Eq] [.Name (S "e") p4] p5) [.AugAssign (.Name (S "i") p6) .Add (.Constant (.int 1) kk p7) p8] [] p9) K.env)
      (fun f h' => f = .next ∧ ∃ n, n0 ≤ n ∧ n < K.x.length ∧ (DS K n j (some e) ao ms us h' ∧ X h') ∧ K.x.drop n = (K.x.drop n0).dropWhile (· == e)) (Up K.hB K.L c Fc) h := by
  refine scan (F := fun n h => DS K n j (some e) ao ms us h ∧ X h) W hfr hu (by have := V.nx; omega) (fun n g ⟨d, x⟩ => ?_) n0 (fun n g g' e' ⟨d, x⟩ h1 h2 q r => ?_) ⟨d, x⟩ hn hk k1 k2 k3 (by decide) (by decide) (by decide)
  · obtain ⟨m, hm, hv⟩ := d.ns
    obtain ⟨t, ht⟩ := hv.2.2.2.2.1
    obtain ⟨t', ht'⟩ := hv.2.2.2.2.2.2.1 e rfl
    refine ⟨m, K.xe, K.xs, t, t', by rw [V.hl]; exact hm, hv.1, d.lx, V.tx, ht, ht', hA g x, fun g' t n' s' hlt => ?_⟩
    rw [V.hl] at n' s'
    exact ⟨d.store V s' n' hv.setI, hX _ _ x s'⟩
  · obtain rfl : n = K.x.length := by omega
    exact up g g' e' d x q r
theorem scanJ (V : DV K) (W : XW K.hB K.base K.env K.outer K.L Fc) (hfr : A.frames = some (K.env :: K.outer)) (hu : A.units + 8 < cLine) (hk : K.env.scope.kind = .function) (k1 : K.env.kindOf (S "actual") = some .local) (k2 : K.env.kindOf (S "j") = some .local) (k3 : K.env.kindOf (S "a") = some .local)
    {i : Nat} {a : Str} {eo : Option Str} {ms us : List Str} {X : Heap → Prop} (hX : ∀ h h', X h → Heap.SameBut K.L h h' → X h') (hA : ∀ h, X h → HandOk A h)
    (n0 : Nat) (up : ∀ h h' e', DS K i K.y.length eo (some a) ms us h → X h → NewX A h h' e' → (K.y.drop n0).dropWhile (· == a) = [] → Up K.hB K.L c Fc (.ref e') h')
    (d : DS K i n0 eo (some a) ms us h) (x : X h) (hn : n0 ≤ K.y.length) :
    TriE (model PG w) A (exec (.While (.Compare (.Subscript (.Name (S "actual") p1) (.Name (S "j") p2) p3) [.Eq] [.Name (S "a") p4] p5) [.AugAssign (.Name (S "j") p6) .Add (.Constant (.int 1) kk p7) p8] [] p9) K.env)
      (fun f h' => f = .next ∧ ∃ n, n0 ≤ n ∧ n < K.y.length ∧ (DS K i n eo (some a) ms us h' ∧ X h') ∧ K.y.drop n = (K.y.drop n0).dropWhile (· == a)) (Up K.hB K.L c Fc) h := by
  refine scan (F := fun n h => DS K i n eo (some a) ms us h ∧ X h) W hfr hu (by have := V.ny; omega) (fun n g ⟨d, x⟩ => ?_) n0 (fun n g g' e' ⟨d, x⟩ h1 h2 q r => ?_) ⟨d, x⟩ hn hk k1 k2 k3 (by decide) (by decide) (by decide)
  · obtain ⟨m, hm, hv⟩ := d.ns
    obtain ⟨t, ht⟩ := hv.2.2.2.2.2.1
    obtain ⟨t', ht'⟩ := hv.2.2.2.2.2.2.2 a rfl
    refine ⟨m, K.ya, K.ys, t, t', by rw [V.hl]; exact hm, hv.2.1, d.ly, V.ty, ht, ht', hA g x, fun g' t n' s' hlt => ?_⟩
    rw [V.hl] at n' s'
    exact ⟨d.store V s' n' hv.setJ, hX _ _ x s'⟩
  · obtain rfl : n = K.y.length := by omega
    exact up g g' e' d x q r
end
end Mine
end

section
open PySem PySem.W PyProof.Rows PySem.Calls PySem.SeqAt
set_option maxRecDepth 100000
set_option maxHeartbeats 400000
set_option linter.unusedVariables false
set_option linter.unusedSimpArgs false
namespace Mine
theorem mkK {h₁ base : Heap} {E : Env} {r : List Env} (ff : h₁.FunFrames base (E :: r)) (hB : Heap) (L mL uL xe ya : Addr) (xs ys : Array Value) (x y : List Str) (mg mb : Str → Option Value) : ∃ K : DC, K = ⟨hB, base, E, r, L, mL, uL, xe, ya, xs, ys, x, y, mg, mb⟩ := ⟨_, rfl⟩
noncomputable abbrev DS.k {K : DC} {i j : Nat} {eo ao : Option Str} {ms us : List Str} {h : Heap} (_ : DS K i j eo ao ms us h) : DC := K
theorem Tri.ltStr {prog : Program} {w : World} {A : Around} {x y : Str} {t u : Tok} {P : Value → Heap → Prop} {h : Heap} (k : P (.bool (below x y)) h) : Tri (model prog w) A (compareOp .Lt (.str x t) (.str y u)) P h :=
  fun s Q E es ht hQ => PySem.P.lt_str (by subst es; exact hQ _ s.heap s.toks ht k)
theorem Tri.gtStr {prog : Program} {w : World} {A : Around} {x y : Str} {t u : Tok} {P : Value → Heap → Prop} {h : Heap} (k : P (.bool (below y x)) h) : Tri (model prog w) A (compareOp .Gt (.str x t) (.str y u)) P h :=
  fun s Q E es ht hQ => PySem.P.gt_str (by subst es; exact hQ _ s.heap s.toks ht k)
theorem TextsAre.drop {vs : Array Value} {x : List Str} (t : TextsAre vs x) (n : Nat) : TextsAre (vs.toList.drop n).toArray (x.drop n) :=
  ⟨by simp [t.1], fun i u s p q => t.2 (n + i) u s (by simpa using p) (by simpa using q)⟩
theorem diffZ {w mg mb} {u v : Value} {x y : List Str} (nx : x.length ≤ 16) (ny : y.length ≤ 16) {dp un : Nat} {gd : Option (List Code)} {cn : Str} {cs : Scope} {a' : Addr} {ccd : Value} {cl : List (Str × Addr)} {outer : List Env} {h₀ h : Heap} {L : Addr} (ST : Site w mg mb cs L outer h₀ h) (hdp : dp + 8 < recursionLimit) (hun : un + 800 < cLine)
    (hI : ∃ G, rTexts.r G h u x ∧ rTexts.r G h v y) :
    Tri (model PG w) (ktrTop dp un gd cn cs L a' ccd cl outer) (call (.ref 130) [u, v] []) (fun r h' => Stand (frs (envX cn cs L a' ccd cl :: outer)) h h' ∧ ∀ G, Live G h → (rTup2 rTexts rTexts).r G h' r (sdiff x y)) h := by
  refine' enterZ ST ?ho ?hcd ?room ?bind ?loc ?go ?c1 ?c2 ?c3 ?c4
  case ho => exact f130
  case hcd => kernel_rfl
  case room => omega
  case bind => exact fun s e => BindsTo.of_eq rfl
  case loc => exact locs rfl
  case c1 => rfl
  case c2 => rfl
  case c3 => rfl
  case c4 => decide
  case go =>
    intro L' h₁ base k₁ hL' n₁ ff gl bl names
    refine Tri.then (Tri.asgTwo n₁ PX.const_int (fun v0 h₂ hv0 n₂ k₂ => ⟨rfl, ?_⟩) rfl rfl rfl)
    refine Tri.then (Tri.asgLocal (Tri.list (Tri.args_nil (Tri.newListP fun mL h₃ hmL k₃ lm => ⟨_, n₂.keeps k₃, fun h₄ n₄ s₄ => ⟨rfl, ?_⟩⟩))))
    refine Tri.then (Tri.asgLocal (Tri.list (Tri.args_nil (Tri.newListP fun uL h₅ huL k₅ lu => ⟨_, n₄.keeps k₅, fun h₆ n₆ s₆ => ⟨rfl, ?_⟩⟩))))
    obtain ⟨Gx, ⟨xe, xs, rfl, _, hlx, hsx, hrx⟩, ⟨ya, ys, rfl, _, hly, hsy, hry⟩⟩ := hI
    obtain ⟨_, _, mean, T⟩ := ST.top
    have gl0 : h.Ns mainGlobals mg := T.g.keeps ST.keep
    have bl0 : h.Ns builtinsNs mb := T.b.keeps ST.keep
    obtain ⟨_, _, _, eL2, _⟩ := id n₂
    obtain ⟨_, _, _, eL4, _⟩ := id n₄
    obtain ⟨_, _, _, eL6, _⟩ := id n₆
    have neL : ∀ b o, h.get? b = some o → b ≠ L' := fun b o e q => by rw [q, hL'] at e; cases e
    have k12 : ∀ b o, b ≠ L' → h₁.get? b = some o → h₂.get? b = some o := fun b o n e => k₂ b o (fun q => n (List.mem_singleton.mp q)) e
    have k24 : ∀ b o, b ≠ L' → h₂.get? b = some o → h₄.get? b = some o := fun b o n e => s₄.extBut b o n (k₃ b o e)
    have k46 : ∀ b o, b ≠ L' → h₄.get? b = some o → h₆.get? b = some o := fun b o n e => s₆.extBut b o n (k₅ b o e)
    have k16 : ∀ b o, b ≠ L' → h₁.get? b = some o → h₆.get? b = some o := fun b o n e => k46 b o n (k24 b o n (k12 b o n e))
    have k06 : Keeps h h₆ := fun b o e => k16 b o (neL b o e) (k₁ b o e)
    have nmL : mL ≠ L' := fun q => by rw [q, eL2] at hmL; cases hmL
    have nuL : uL ≠ L' := fun q => by rw [q, eL4] at huL; cases huL
    obtain ⟨c3, lm3⟩ := id lm
    have lm4 := s₄.extBut _ _ nmL lm3
    have nmu : mL ≠ uL := fun q => by rw [← q, lm4] at huL; cases huL
    obtain ⟨c5, lu5⟩ := id lu
    have lm6 := k46 _ _ nmL lm4
    have lu6 := s₆.extBut _ _ nuL lu5
    have l1 := fun b hb => mem_frs (b := b) ff hb
    have l2 : ∀ b, (∃ o, h₁.get? b = some o) → ∃ o, h₂.get? b = some o := fun b ⟨o, e⟩ => by
      by_cases q : b = L'
      · exact ⟨_, q ▸ eL2⟩
      · exact ⟨o, k12 b o q e⟩
    have l4 : ∀ b, (∃ o, h₂.get? b = some o) → ∃ o, h₄.get? b = some o := fun b ⟨o, e⟩ => by
      by_cases q : b = L'
      · exact ⟨_, q ▸ eL4⟩
      · exact ⟨o, k24 b o q e⟩
    have l6 : ∀ b, (∃ o, h₄.get? b = some o) → ∃ o, h₆.get? b = some o := fun b ⟨o, e⟩ => by
      by_cases q : b = L'
      · exact ⟨_, q ▸ eL6⟩
      · exact ⟨o, k46 b o q e⟩
    have fr2 : ∀ b, h₂.get? b = none → h.get? b = none := fun b e => by
      cases q : h.get? b with
      | none => rfl
      | some o => rw [k12 b o (neL b o q) (k₁ b o q)] at e; cases e
    have fr4 : ∀ b, h₄.get? b = none → h.get? b = none := fun b e => by
      cases q : h.get? b with
      | none => rfl
      | some o => rw [k24 b o (neL b o q) (k12 b o (neL b o q) (k₁ b o q))] at e; cases e
    have hm0 := fr2 mL hmL
    have hu0 := fr4 uL huL
    have ne0 : ∀ b c, (∃ o, h.get? b = some o) → h.get? c = none → b ≠ c := fun b c ⟨o, e⟩ n q => by rw [q, n] at e; cases e
    have oX : ∃ o, h.get? xe = some o := let ⟨o, e, _⟩ := hlx; ⟨o, e⟩
    have oY : ∃ o, h.get? ya = some o := let ⟨o, e, _⟩ := hly; ⟨o, e⟩
    have oG : ∃ o, h.get? mainGlobals = some o := let ⟨o, _, _, e, _⟩ := gl0; ⟨o, e⟩
    have oB : ∃ o, h.get? builtinsNs = some o := let ⟨o, _, _, e, _⟩ := bl0; ⟨o, e⟩
    have up6 : ∀ b, (∃ o, h.get? b = some o) → ∃ o, h₆.get? b = some o := fun b ⟨o, e⟩ => ⟨o, k06 b o e⟩
    obtain ⟨K, hK⟩ := mkK ff h₆ L' mL uL xe ya xs ys x y mg mb
    have V : DV K := by
      subst hK
      exact {
        hf := rfl, hl := rfl
        live := fun b hb => l6 b (l4 b (l2 b (l1 b hb)))
        liveM := ⟨_, lm6⟩, liveU := ⟨_, lu6⟩, liveX := up6 _ oX, liveY := up6 _ oY, liveG := up6 _ oG, liveB := up6 _ oB
        mfs := fun q => by obtain ⟨o, e⟩ := l2 _ (l1 _ q); rw [hmL] at e; cases e
        ufs := fun q => by obtain ⟨o, e⟩ := l4 _ (l2 _ (l1 _ q)); rw [huL] at e; cases e
        mu := nmu, Lm := Ne.symm nmL, Lu := Ne.symm nuL
        xm := ne0 _ _ oX hm0, xu := ne0 _ _ oX hu0, ym := ne0 _ _ oY hm0, yu := ne0 _ _ oY hu0, xL := ne0 _ _ oX hL', yL := ne0 _ _ oY hL'
        gL := ne0 _ _ oG hL', gm := ne0 _ _ oG hm0, gu := ne0 _ _ oG hu0, bL := ne0 _ _ oB hL', bm := ne0 _ _ oB hm0, bu := ne0 _ _ oB hu0
        tx := ⟨hsx, fun i u s p q => hrx i u s p q⟩, ty := ⟨hsy, fun i u s p q => hry i u s p q⟩, nx := nx, ny := ny }
    have d0 : DS K 0 0 none none [] [] h₆ := by
      subst hK
      exact {
        keep := fun b o e _ _ _ => e, slots := fun b o e _ _ _ => ⟨o.slots, e⟩
        ns := ⟨_, n₆, by
          obtain ⟨t0, rfl⟩ := hv0
          exact ⟨rfl, rfl, rfl, rfl, ⟨t0, rfl⟩, ⟨t0, rfl⟩, (fun z q => nomatch q), (fun z q => nomatch q)⟩⟩
        lx := k06.list hlx, ly := k06.list hly
        am := ⟨#[], ⟨_, lm6⟩, rfl, fun j u x p => by simp at p⟩, au := ⟨#[], ⟨_, lu6⟩, rfl, fun j u x p => by simp at p⟩
        ff := fun_on ff fun b hb o e nf => by
          by_cases q : b = L'
          · obtain ⟨o', es, ep, ho', hd', _⟩ := n₆
            exact ⟨o', q ▸ ho', fun vs q' => by rw [hd'] at q'; cases q'⟩
          · exact ⟨o, k16 b o q e, nf⟩
        gl := gl0.keeps k06, bl := bl0.keeps k06 }
    subst hK
    refine Tri.then ((loopK V rfl d0 ?turn).mono fun f h₇ q => ?rest)
    case turn =>
      intro i j eo ao ms us g d hi hj hL
      have W := V.world (fun i j eo ao ms us => i ≤ x.length ∧ j ≤ y.length ∧ Last x y i j ms us)
      have ind := names "IndexError" (.type "IndexError") (by kernel_rfl) (by decide) (by boot_fast)
      have hi0 : i ≤ x.length := hi
      have hj0 : j ≤ y.length := hj
      have hxs : xs.size = x.length := V.tx.1
      have hys : ys.size = y.length := V.ty.1
      refine Tri.cons (Tri.exc (c := false) W rfl ?hn ?hb ?hs)
      case hn =>
        rintro A' g' ⟨_, _, _, _, _, _, d', _⟩
        exact PX.builtN d'.gl d'.bl ind.1 ind.2
      case hs =>
        rintro e' g' ⟨i', j', eo', ao', ms', us', d', hi', hj', hLL⟩
        have hlen : ms'.length ≤ x.length ∧ us'.length ≤ y.length := hLL.lens
        obtain ⟨m, hm, hv⟩ := d'.ns
        obtain ⟨t1, ht1⟩ := hv.2.2.2.2.1
        obtain ⟨ym, hpm, hsm, hrm⟩ := d'.am
        have hsmx : ym.size = ms'.length := hsm
        refine Tri.then (Tri.extend (PX.local hm hv.2.2.1) hpm (by omega) (Tri.sliceFrom (n := i') (PX.local hm hv.1) d'.lx ((PX.local hm ht1).mono fun v e => ⟨t1, e⟩) (by show xs.size ≤ 1000; omega) (fun a1 g1 k1 nw l1 => ⟨k1, a1, _, rfl, l1, by simp; omega, fun g2 hp2 s2 => ⟨rfl, ?_⟩⟩)))
        have zx := V.tx.drop i'
        have d2 := (d'.keeps k1).growM V s2 (AccT.app hp2 hsm hrm zx.1 zx.2)
        obtain ⟨m2, hm2, hv2⟩ := d2.ns
        obtain ⟨t2, ht2⟩ := hv2.2.2.2.2.2.1
        obtain ⟨yu, hpu, hsu, hru⟩ := d2.au
        have hsux : yu.size = us'.length := hsu
        refine Tri.then (Tri.extend (PX.local hm2 hv2.2.2.2.1) hpu (by omega) (Tri.sliceFrom (n := j') (PX.local hm2 hv2.2.1) d2.ly ((PX.local hm2 ht2).mono fun v e => ⟨t2, e⟩) (by show ys.size ≤ 1000; omega) (fun a2 g3 k3 nw2 l3 => ⟨k3, a2, _, rfl, l3, by simp; omega, fun g4 hp4 s4 => ⟨rfl, ?_⟩⟩)))
        have zy := V.ty.drop j'
        have d4 := (d2.keeps k3).growU V s4 (AccT.app hp4 hsu hru zy.1 zy.2)
        refine Tri.cons (Tri.brk (.inr ⟨(fun q => nomatch q), .inr ⟨(fun q => nomatch q), .inr ⟨rfl, i', j', eo', ao', ?_⟩⟩⟩))
        have e1 : ms' ++ x.drop i' = _ := hLL.1
        have e2 : us' ++ y.drop j' = _ := hLL.2
        rw [← e1, ← e2]
        exact d4
      case hb =>
        obtain ⟨m, hm, hv⟩ := d.ns
        obtain ⟨ti, hti⟩ := hv.2.2.2.2.1
        refine TriE.then (TriE.asgLocal (TriE.item (n := i) (PX.local hm hv.1) d.lx ((PX.local hm hti).mono fun v e => ⟨ti, e⟩) (.inl rfl) (by omega) (fun u hu => ⟨m, hm, fun g1 n1 s1 => ⟨rfl, ?_⟩⟩) (fun hle e' g' q => d.raise V q ⟨hi, hj, hL.endX (List.drop_eq_nil_of_le (by have : xs.size ≤ i := hle; show x.length ≤ i; omega))⟩ (fun q => nomatch q))))
        have hix : i < x.length := by have : i < xs.size := (Array.getElem?_eq_some_iff.mp hu).1; omega
        obtain ⟨e, he⟩ : ∃ e, x[i]? = some e := ⟨x[i], by simp [hix]⟩
        obtain ⟨te, rfl⟩ := V.tx.2 i u e hu he
        have d1 := d.store V s1 n1 (hv.setE (z := e) (t := te))
        obtain ⟨m, hm, hv⟩ := d1.ns
        obtain ⟨tj, htj⟩ := hv.2.2.2.2.2.1
        refine TriE.then (TriE.asgLocal (TriE.item (n := j) (PX.local hm hv.2.1) d1.ly ((PX.local hm htj).mono fun v e => ⟨tj, e⟩) (.inl rfl) (by omega) (fun u hu => ⟨m, hm, fun g2 n2 s2 => ⟨rfl, ?_⟩⟩) (fun hle e' g' q => d1.raise V q ⟨hi, hj, hL.endY (List.drop_eq_nil_of_le (by have : ys.size ≤ j := hle; show y.length ≤ j; omega))⟩ (fun q => nomatch q))))
        have hjy : j < y.length := by have : j < ys.size := (Array.getElem?_eq_some_iff.mp hu).1; omega
        obtain ⟨a, ha⟩ : ∃ a, y[j]? = some a := ⟨y[j], by simp [hjy]⟩
        obtain ⟨ta, rfl⟩ := V.ty.2 j u a hu ha
        have d2 := d1.store V s2 n2 (hv.setA (z := a) (t := ta))
        obtain ⟨m, hm, hv⟩ := d2.ns
        obtain ⟨ti, hti⟩ := hv.2.2.2.2.1
        obtain ⟨tj, htj⟩ := hv.2.2.2.2.2.1
        obtain ⟨te, hte⟩ := hv.2.2.2.2.2.2.1 e rfl
        obtain ⟨ta, hta⟩ := hv.2.2.2.2.2.2.2 a rfl
        refine TriE.cons (TriE.cond (TriE.cmpTrue (Tri.e ((PX.local hm hte).here.mono fun v0 g0 q0 => ?_))))
        obtain ⟨rfl, rfl⟩ := q0
        refine Tri.e ((PX.local hm hta).here.mono fun v1 g1 q1 => ?_)
        obtain ⟨rfl, rfl⟩ := q1
        refine Tri.e (Tri.ltStr ⟨below e a, rfl, ?_⟩)
        have hlen : ms.length ≤ x.length ∧ us.length ≤ y.length := hL.lens
        by_cases hb : below e a = true
        · rw [if_pos hb]
          obtain ⟨ym, hpm, hsm, hrm⟩ := d2.am
          have hsmx : ym.size = ms.length := hsm
          refine TriE.then (Tri.e (Tri.append (PX.local hm hv.2.2.1) hpm (by omega) ((PX.local hm hte).here.mono fun v3 g3 q3 => ?_)))
          obtain ⟨rfl, rfl⟩ := q3
          refine ⟨Keeps.refl _, fun g4 hp4 s4 => ⟨rfl, ?_⟩⟩
          have d4 := d2.growM V s4 (AccT.app (m := [e]) (zs := #[.str e te]) (by simpa using hp4) hsm hrm rfl (fun j u x p q => by
            cases j with
            | zero => simp at p q; subst p; subst q; exact ⟨te, rfl⟩
            | succ j => simp at p))
          obtain ⟨m4, hm4, hv4⟩ := d4.ns
          obtain ⟨ti4, hti4⟩ := hv4.2.2.2.2.1
          refine TriE.then (Tri.e (Tri.augInt hm4 hti4 PX.const_int (fun g5 t5 n5 s5 => ⟨rfl, ?_⟩) (fun s Q E t u hq => iadd_int hq)))
          have d5 := d4.store V s5 n5 (hv4.setI (i' := i + 1))
          refine TriE.cons ((scanI (c := false) (X := fun _ => True) V W rfl (by show un + 3 + 8 < cLine; omega) rfl rfl rfl rfl (fun _ _ _ _ => trivial) (fun _ _ => .inl rfl) (i + 1) (fun g6 g7 e' d6 _ q r => d6.raise V q ⟨Nat.le_refl _, hj, (hL.less he ha hb (by rw [List.drop_length]; exact r.symm)).endX (List.drop_length)⟩ (fun q => nomatch q)) d5 trivial (by show i + 1 ≤ x.length; omega)).mono (fun f g6 q => ?_) fun _ _ q => q)
          obtain ⟨rfl, n, hn1, hn2, ⟨d6, _⟩, hd⟩ := q
          exact .inl ⟨rfl, Tri.e (Tri.nil (.inl ⟨rfl, Tri.e (Tri.nil (.inl ⟨rfl, Tri.nil (.inl ⟨rfl, n, j, _, _, _, _, d6, by have : n < x.length := hn2; show n ≤ x.length; omega, hj, by have : n < x.length := hn2; show x.length - n + (y.length - j) < x.length - i + (y.length - j); omega, hL.less he ha hb hd⟩)⟩))⟩))⟩
        · have hb0 : below e a = false := by simpa using hb
          rw [if_neg hb]
          refine TriE.cons (TriE.mono (P := fun f h' => f = .next ∧ ∃ i' j' eo ao ms us, DS d2.k i' j' eo ao ms us h' ∧ i' ≤ x.length ∧ j' ≤ y.length ∧ (x.length - i') + (y.length - j') < (x.length - i) + (y.length - j) ∧ Left x y i' j' ms us) ?_ (fun f h' q => by
            obtain ⟨rfl, q⟩ := q
            exact .inl ⟨rfl, Tri.e (Tri.nil (.inl ⟨rfl, Tri.e (Tri.nil (.inl ⟨rfl, Tri.nil (.inl ⟨rfl, q⟩)⟩))⟩))⟩) fun _ _ q => q)
          refine TriE.cond (TriE.cmpTrue (Tri.e ((PX.local hm hte).here.mono fun v0 g0 q0 => ?_)))
          obtain ⟨rfl, rfl⟩ := q0
          refine Tri.e ((PX.local hm hta).here.mono fun v1 g1 q1 => ?_)
          obtain ⟨rfl, rfl⟩ := q1
          refine Tri.e (Tri.gtStr ⟨below a e, rfl, ?_⟩)
          by_cases hb' : below a e = true
          · rw [if_pos hb']
            obtain ⟨yu, hpu, hsu, hru⟩ := d2.au
            have hsux : yu.size = us.length := hsu
            refine TriE.then (Tri.e (Tri.append (PX.local hm hv.2.2.2.1) hpu (by omega) ((PX.local hm hta).here.mono fun v3 g3 q3 => ?_)))
            obtain ⟨rfl, rfl⟩ := q3
            refine ⟨Keeps.refl _, fun g4 hp4 s4 => ⟨rfl, ?_⟩⟩
            have d4 := d2.growU V s4 (AccT.app (m := [a]) (zs := #[.str a ta]) (by simpa using hp4) hsu hru rfl (fun j u x p q => by
              cases j with
              | zero => simp at p q; subst p; subst q; exact ⟨ta, rfl⟩
              | succ j => simp at p))
            obtain ⟨m4, hm4, hv4⟩ := d4.ns
            obtain ⟨tj4, htj4⟩ := hv4.2.2.2.2.2.1
            refine TriE.then (Tri.e (Tri.augInt hm4 htj4 PX.const_int (fun g5 t5 n5 s5 => ⟨rfl, ?_⟩) (fun s Q E t u hq => iadd_int hq)))
            have d5 := d4.store V s5 n5 (hv4.setJ (i' := j + 1))
            refine TriE.cons ((scanJ (c := false) (X := fun _ => True) V W rfl (by show un + 3 + 8 < cLine; omega) rfl rfl rfl rfl (fun _ _ _ _ => trivial) (fun _ _ => .inl rfl) (j + 1) (fun g6 g7 e' d6 _ q r => d6.raise V q ⟨hi, Nat.le_refl _, (hL.more he ha hb0 hb' (by rw [List.drop_length]; exact r.symm)).endY (List.drop_length)⟩ (fun q => nomatch q)) d5 trivial (by show j + 1 ≤ y.length; omega)).mono (fun f g6 q => ?_) fun _ _ q => q)
            obtain ⟨rfl, n, hn1, hn2, ⟨d6, _⟩, hd⟩ := q
            exact .inl ⟨rfl, Tri.e (Tri.nil ⟨rfl, i, n, _, _, _, _, d6, hi, by have : n < y.length := hn2; omega, by have : n < y.length := hn2; omega, hL.more he ha hb0 hb' hd⟩)⟩
          · have hb1 : below a e = false := by simpa using hb'
            rw [if_neg hb']
            refine TriE.then (Tri.e (Tri.augInt hm hti PX.const_int (fun g5 t5 n5 s5 => ⟨rfl, ?_⟩) (fun s Q E t u hq => iadd_int hq)))
            have d5 := d2.store V s5 n5 (hv.setI (i' := i + 1))
            have W₁ := V.world (fun i' j' eo' ao' ms' us' => i' = x.length ∧ j' = j ∧ eo' = some e ∧ ao' = some a ∧ ms' = ms ∧ us' = us ∧ (x.drop (i + 1)).dropWhile (· == e) = [])
            refine TriE.cons ((TriE.fin (c := false) W₁ W rfl ?hbody ?hrai rfl (P := fun h' => ∃ i' j' eo ao ms us, DS d2.k i' j' eo ao ms us h' ∧ i' ≤ x.length ∧ j' ≤ y.length ∧ (x.length - i') + (y.length - j') < (x.length - i) + (y.length - j) ∧ Left x y i' j' ms us)).mono (fun f g6 q => by
              obtain ⟨rfl, q⟩ := q
              exact .inl ⟨rfl, Tri.e (Tri.nil ⟨rfl, q⟩)⟩) fun _ _ q => q)
            case hbody =>
              refine TriE.cons ((scanI (c := true) (X := fun _ => True) V W₁ rfl (by show un + 3 + 8 < cLine; omega) rfl rfl rfl rfl (fun _ _ _ _ => trivial) (fun _ _ => .inl rfl) (i + 1) (fun g6 g7 e' d6 _ q r => d6.raise V q ⟨rfl, rfl, rfl, rfl, rfl, rfl, r⟩ (fun _ => rfl)) d5 trivial (by show i + 1 ≤ x.length; omega)).mono (fun f g6 q => ?_) fun _ _ q => q)
              obtain ⟨rfl, n, hn1, hn2, ⟨d6, _⟩, hd⟩ := q
              have hn3 : n < x.length := hn2
              refine .inl ⟨rfl, Tri.e (Tri.nil ⟨rfl, ?_⟩)⟩
              obtain ⟨m6, hm6, hv6⟩ := d6.ns
              obtain ⟨tj6, htj6⟩ := hv6.2.2.2.2.2.1
              refine TriE.then (Tri.e (Tri.augInt hm6 htj6 PX.const_int (fun g7 t7 n7 s7 => ⟨rfl, ?_⟩) (fun s Q E t u hq => iadd_int hq)))
              have d7 := d6.store V s7 n7 (hv6.setJ (i' := j + 1))
              refine TriE.cons ((scanJ (c := false) (X := fun _ => True) V W rfl (by show un + 3 + 8 < cLine; omega) rfl rfl rfl rfl (fun _ _ _ _ => trivial) (fun _ _ => .inl rfl) (j + 1) (fun g8 g9 e' d8 _ q r => d8.raise V q ⟨by show n ≤ x.length; omega, Nat.le_refl _, (hL.same he ha hb0 hb1 hd (by rw [List.drop_length]; exact r.symm)).endY (List.drop_length)⟩ (fun q => nomatch q)) d7 trivial (by show j + 1 ≤ y.length; omega)).mono (fun f g8 q => ?_) fun _ _ q => q)
              obtain ⟨rfl, k, hk1, hk2, ⟨d8, _⟩, hdk⟩ := q
              have hk3 : k < y.length := hk2
              exact .inl ⟨rfl, Tri.e (Tri.nil ⟨rfl, n, k, _, _, _, _, d8, by omega, by omega, by omega, hL.same he ha hb0 hb1 hd hdk⟩)⟩
            case hrai =>
              rintro e' g6 ⟨i', j', eo', ao', ms', us', d6, rfl, rfl, rfl, rfl, rfl, rfl, hdi⟩ x6
              obtain ⟨m6, hm6, hv6⟩ := d6.ns
              obtain ⟨tj6, htj6⟩ := hv6.2.2.2.2.2.1
              refine TriE.then (Tri.e (Tri.augInt hm6 htj6 PX.const_int (fun g7 t7 n7 s7 => ⟨rfl, ?_⟩) (fun s Q E t u hq => iadd_int hq)))
              have d7 := d6.store V s7 n7 (hv6.setJ (i' := j' + 1))
              have lv : ∀ b ∈ [L'], ∃ o, h₆.get? b = some o := fun b hb => by
                rw [List.mem_singleton.mp hb]; exact ⟨_, eL6⟩
              have x7 := x6.km (km_but (M := [L']) s7 (.head _)) lv
              have hx1 : ∀ k, y.drop k = (y.drop (j' + 1)).dropWhile (· == a) → Left x y x.length k ms' us' := fun k hk => hL.same he ha hb0 hb1 (by rw [List.drop_length]; exact hdi.symm) hk
              refine TriE.cons ((scanJ (c := false) (X := fun h => ExcS h₆ h e' (some .none) true) V W rfl (by show un + 3 + 8 < cLine; omega) rfl rfl rfl rfl (fun _ _ q s => q.km (km_but (M := [L']) s (.head _)) lv) (fun _ q => ?hok) (j' + 1) (fun g8 g9 e'' d8 _ q r => d8.raise V q ⟨Nat.le_refl _, Nat.le_refl _, (hx1 y.length (by rw [List.drop_length]; exact r.symm)).endY (List.drop_length)⟩ (fun q => nomatch q)) d7 x7 (by show j' + 1 ≤ y.length; omega)).mono (fun f g8 q => ?_) fun _ _ q => q)
              case hok =>
                obtain ⟨oe, vs, a1, a2, a3, a4, a5⟩ := q.there
                exact .inr ⟨e', oe, vs, rfl, a1, a3, a4 rfl⟩
              obtain ⟨rfl, k, hk1, hk2, ⟨d8, x8⟩, hdk⟩ := q
              have hk3 : k < y.length := hk2
              exact .inl ⟨rfl, Tri.e (Tri.nil ⟨rfl, ⟨_, _, _, _, _, _, d8, Nat.le_refl _, by show k ≤ y.length; omega, (hx1 k hdk).endX (List.drop_length)⟩, x8⟩)⟩
    case rest =>
      obtain ⟨rfl, i, j, eo, ao, d⟩ := q
      refine ⟨rfl, ?_⟩
      obtain ⟨m, hm, hv⟩ := d.ns
      refine Tri.cons (Tri.ret (Tri.tuple (Tri.args_cons ((PX.local hm hv.2.2.1).here.mono fun u1 g1 q1 => ?_))))
      obtain ⟨rfl, rfl⟩ := q1
      refine Tri.args_cons ((PX.local hm hv.2.2.2.1).here.mono fun u1 g2 q2 => ?_)
      obtain ⟨rfl, rfl⟩ := q2
      refine Tri.args_nil (Tri.newTuple fun T g3 hT k3 lT => .inr ⟨by simp, ?_⟩)
      refine ⟨_, rfl, ⟨fun b o n e => ?_, fun b o e => ?_⟩, fun G hG => ?_⟩
      · refine k3 _ _ (d.keep b o (k06 b o e) (fun q => ?_) (ne0 _ _ ⟨o, e⟩ hm0) (ne0 _ _ ⟨o, e⟩ hu0))
        unfold DC.fs frs at q
        rw [List.filterMap_cons] at q
        rcases List.mem_cons.mp q with q | q
        · exact ne0 _ _ ⟨o, e⟩ hL' q
        · exact n q
      · obtain ⟨sl, e1⟩ := d.slots b o (k06 b o e) (ne0 _ _ ⟨o, e⟩ hL') (ne0 _ _ ⟨o, e⟩ hm0) (ne0 _ _ ⟨o, e⟩ hu0)
        exact ⟨sl, k3 _ _ e1⟩
      · have nf : ∀ b, h.get? b = none → b ∉ G := fun b n q => by obtain ⟨o, e⟩ := hG b q; rw [n] at e; cases e
        obtain ⟨ys1, hp1, hs1, hr1⟩ := d.am
        obtain ⟨ys2, hp2, hs2, hr2⟩ := d.au
        have hT0 : h.get? T = none := by
          cases q : h.get? T with
          | none => rfl
          | some o =>
            obtain ⟨sl, e1⟩ := d.slots T o (k06 T o q) (ne0 _ _ ⟨o, q⟩ hL') (ne0 _ _ ⟨o, q⟩ hm0) (ne0 _ _ ⟨o, q⟩ hu0)
            rw [hT] at e1; cases e1
        exact ⟨T, _, _, rfl, nf T hT0, lT, ⟨mL, ys1, rfl, nf mL hm0, (hp1.at fun o e => k3 _ _ e).isList, hs1, hr1⟩, ⟨uL, ys2, rfl, nf uL hu0, (hp2.at fun o e => k3 _ _ e).isList, hs2, hr2⟩⟩
end Mine
end

section

open PySem PySem.W PyProof.Rows PySem.Calls PySem.SeqAt
set_option maxRecDepth 100000
set_option maxHeartbeats 400000
set_option linter.unusedVariables false
set_option linter.unusedSimpArgs false
namespace Mine
theorem Stand.refl (Z : List Addr) (h : Heap) : Stand Z h h := ⟨fun _ _ _ e => e, fun _ o e => ⟨o.slots, e⟩⟩
theorem Stand.trans {Z : List Addr} {a b c : Heap} (x : Stand Z a b) (y : Stand Z b c) : Stand Z a c :=
  ⟨fun p o n e => y.off p o n (x.off p o n e), fun p o e => let ⟨_, e1⟩ := x.slots p o e; let ⟨sl, e2⟩ := y.slots p _ e1; ⟨sl, e2⟩⟩
theorem Keeps.stand {Z : List Addr} {h h' : Heap} (k : Keeps h h') : Stand Z h h' := ⟨fun b o _ e => k b o e, fun b o e => ⟨o.slots, k b o e⟩⟩
theorem Stand.km {Z : List Addr} {h h' : Heap} (x : Stand Z h h') : KM Z h h' := fun b o n e => x.off b o n e
theorem Stand.but {Z M : List Addr} {h h₁ h₂ : Heap} (x : Stand Z h h₁) (k : KM M h₁ h₂) (f : ∀ b ∈ M, h.get? b = none) : Stand Z h h₂ where
  off := fun b o n e => k b o (fun q => by rw [f b q] at e; cases e) (x.off b o n e)
  slots := fun b o e => let ⟨sl, e1⟩ := x.slots b o e; ⟨sl, k b _ (fun q => by rw [f b q] at e; cases e) e1⟩
theorem Stand.live {Z G : List Addr} {h h' : Heap} (x : Stand Z h h') (l : Live G h) : Live G h' := fun b hb => let ⟨o, e⟩ := l b hb; let ⟨sl, e'⟩ := x.slots b o e; ⟨_, e'⟩
section
variable {prog : Program} {w : World} {A : Around} {env : Env} {h : Heap} {G Z : List Addr}
theorem comp_rngZ {α : Type} (R : Rel α) (f : Nat → α) (n : Nat) {elt e : Expr} {x fn : Str} {px p q : Pos} {scope : Scope} {pos : Pos} {cl : List (Str × Addr)}
    (hh : A.handled = none) (hf : PX (model prog w) A env (.Name fn p) (· = .type "range") h) (he : PX (model prog w) A env e (isInt n) h) (hn : n ≤ 1000) (hG : Live G h) (hZ : ∀ b ∈ Z, b ∈ G)
    (turn : ∀ N C u i h₁, (∀ b ∈ N, h.get? b = none) → C ∈ N → Stand Z h h₁ → Live (N ++ G) h₁ → (∃ m, h₁.Ns C m) → i < n → isInt i u →
      Tri (model prog w) A (assign (.Name x px) (compEnvC scope cl C env) u) (fun _ h₂ => KM [C] h₁ h₂ ∧ (∃ m, h₂.Ns C m) ∧ Tri (model prog w) A (eval elt (compEnvC scope cl C env)) (fun y h₃ => Stand Z h₂ h₃ ∧ R.r (N ++ G) h₃ y (f i)) h₂) h₁)
    (hclos : closureFor scope env = Pure.pure cl) (oc : OneCell scope none) (hkind : scope.kind = .function) (hnames : ∀ y ∈ scope.names, y.2 = .local → scope.names.lookup y.1 = some .local)
    (hs : ∀ x, foldedSetIterable (.Call (.Name fn p) [e] [] q) env x = Pure.pure x) (hse : starEach [e] env = [(false, eval e env)] := by rfl) :
    Tri (model prog w) A (eval (.ListComp elt [⟨.Name x px, .Call (.Name fn p) [e] [] q, [], 0⟩] scope pos) env) (fun v h' => Stand Z h h' ∧ (rLst R).r G h' v ((List.range n).map f)) h := by
  have src := src_range hh hf (he.here.mono fun u h' q => ⟨q.2 ▸ Keeps.refl _, q.1⟩) (by omega) (pos := q) hse
  refine comp_go hclos oc hkind hnames src ?_ hs
  intro I h₂ h₃ D C ⟨k₂, St, W, hst, hI0, hlive⟩ hD hC hDC _ old hacc hns₃
  have hIo : ∃ o, h₂.get? I = some o := hlive _ _ hst
  have nDI : D ≠ I := fun q => by obtain ⟨o, e⟩ := hIo; rw [← q, hD] at e; cases e
  have nCI : C ≠ I := fun q => by obtain ⟨o, e⟩ := hIo; rw [← q, hC] at e; cases e
  have hN : ∀ b ∈ [D, C, I], h.get? b = none := fun b hb => by
    simp only [List.mem_cons, List.not_mem_nil, or_false] at hb
    rcases hb with rfl | rfl | rfl
    · exact k₂.none hD
    · exact k₂.none hC
    · exact hI0
  have nZ : ∀ b ∈ [D, C, I], b ∉ Z := fun b hb q => by obtain ⟨o, e⟩ := hG b (hZ b q); rw [hN b hb] at e; cases e
  have nG : ∀ b ∈ [D, C, I], b ∉ G := fun b hb q => by obtain ⟨o, e⟩ := hG b q; rw [hN b hb] at e; cases e
  have st₃ : St 0 h₃ := W.frame _ _ _ hst fun b _ o e => old b o e
  refine ⟨fun s Q E e hQ => W.self 0 _ _ _ (by rw [e]; exact st₃) hQ, ?_⟩
  have key := comp_loop (prog := prog) (w := w) (A := A) (e := .ListComp elt [⟨.Name x px, .Call (.Name fn p) [e] [] q, [], 0⟩] scope pos) (d := 0) (I := I) (acc := .ref D) (env := compEnvC scope cl C env) (h := h₃)
    (body := fun v => letOwnedTupleGo (.Name x px) (.ref I) v >>= fun _ => assign (.Name x px) (compEnvC scope cl C env) v >>= fun _ => eval elt (compEnvC scope cl C env) >>= fun x => call (.builtin "list.append") [.ref D, x] >>= fun _ => (Pure.pure () : Sem Unit))
    (Inv := fun i h' => Stand Z h h' ∧ Live ([D, C] ++ G) h' ∧ (∃ m, h'.Ns C m) ∧ AccIs R ([D, C, I] ++ G) h' D ((List.range i).map f))
    rfl rfl (by
      show compTurn _ 0 _ _ (compEnvC scope cl C env) = _
      rw [compTurn_list1]
      congr 1; funext _; congr 1; funext r
      cases r with
      | none => rfl
      | some v => simp only [bind_assoc, pure_bind]) (Around.under_of_weight rfl) W ?_ ?_ st₃ ?_
  · intro s R' e ht hR
    refine key s R' e ht fun h' tk htk hp => hR h' tk htk ?_
    obtain ⟨sp, lv, hfr, ys, hl, hys, hr⟩ := hp
    refine ⟨hfr, fun h'' hsb => ?_⟩
    have kc : KM [C] h' h'' := km_but hsb (.head _)
    refine ⟨sp.but kc fun b hb => hN b (by rw [List.mem_singleton.mp hb]; simp), D, ys, rfl, nG D (by simp), kc.list hl (by simpa using hDC), hys, fun j u x p q => ?_⟩
    exact R.anti (R.km (hr j u x p q) kc fun b hb => by rw [List.mem_singleton.mp hb]; simp) fun b hb => List.mem_append_right _ hb
  · rintro i g g' ⟨sp, lv, hfr, ys, hl, hys, hr⟩ hk
    have kI : KM [I] g g' := hk
    refine ⟨sp.but kI fun b hb => hN b (by rw [List.mem_singleton.mp hb]; simp), fun b hb => ?_, ?_, ys, kI.list hl (by simpa using nDI), hys, fun j u x p q => R.km (hr j u x p q) kI fun b hb => by rw [List.mem_singleton.mp hb]; simp⟩
    · obtain ⟨o, e⟩ := lv b hb
      refine ⟨o, kI b o (fun q => ?_) e⟩
      rw [List.mem_singleton.mp q] at hb
      simp only [List.cons_append, List.nil_append, List.mem_cons] at hb
      rcases hb with hb | hb | hb
      · exact nDI hb.symm
      · exact nCI hb.symm
      · exact nG I (by simp) hb
    · obtain ⟨m, hm⟩ := hfr
      exact ⟨m, kI.ns hm (by simpa using nCI)⟩
  · rintro i v g hi hv hsti ⟨sp, lv, hfr, hac⟩
    refine (go_name (v := v)).bind fun _ g' eg => ?_
    subst eg
    have lv' : Live ([D, C, I] ++ G) g' := fun b hb => by
      rcases List.mem_append.mp hb with hb | hb
      · simp only [List.mem_cons, List.not_mem_nil, or_false] at hb
        rcases hb with rfl | rfl | rfl
        · exact lv _ (.head _)
        · exact lv _ (.tail _ (.head _))
        · exact hlive _ _ hsti
      · exact lv b (List.mem_append_right _ hb)
    refine (turn [D, C, I] C v i g' hN (by simp) sp lv' hfr hi hv).bind fun _ g₂ t₂ => ?_
    obtain ⟨km, fr₂, te⟩ := t₂
    refine te.bind fun y g₃ t₃ => ?_
    obtain ⟨s₃, ry⟩ := t₃
    obtain ⟨ys, hl, hys, hr⟩ := hac
    have hl₂ := km.list hl (by simpa using hDC)
    have hl₃ := s₃.km.list hl₂ (nZ D (by simp))
    intro s Q E es ht hQ
    subst es
    have hsz : ys.size ≤ 1000 := by rw [hys]; simp; omega
    refine wpAny_bind (wpAny_list_append hl₃ (fun h₄ hl₄ sb => ?_) (by rw [sizeLine_eq]; omega))
    have kD : KM [D] s.heap h₄ := km_but sb (.head _)
    refine wpAny_pure (hQ () h₄ _ ht ⟨?_, ?_, ?_, ?_, ?_⟩)
    · refine W.frame _ _ _ hsti fun b hb o e => ?_
      obtain rfl := List.mem_singleton.mp hb
      exact kD b o (by simpa using (Ne.symm nDI)) (s₃.off b o (nZ b (by simp)) (km b o (by simpa using (Ne.symm nCI)) e))
    · refine Stand.but ((sp.but km fun b hb => hN b (by rw [List.mem_singleton.mp hb]; simp)).trans s₃) kD fun b hb => hN b (by rw [List.mem_singleton.mp hb]; simp)
    · have lv₂ : Live ([D, C] ++ G) g₂ := lv.km km fun b hb => by
        rw [List.mem_singleton.mp hb]; obtain ⟨m, o, _, _, e, _⟩ := fr₂; exact ⟨o, e⟩
      exact (s₃.live lv₂).km kD fun b hb => by
        rw [List.mem_singleton.mp hb]; obtain ⟨o, e, _⟩ := hl₄; exact ⟨o, e⟩
    · obtain ⟨m, hm⟩ := fr₂
      exact ⟨m, kD.ns (s₃.km.ns hm (nZ C (by simp))) (by simpa using (Ne.symm hDC))⟩
    · rw [List.range_succ, List.map_append]
      refine AccIs.push (h := h₄) (by simpa using hys) (fun j u x p q => ?_) hl₄ (R.km ry kD fun b hb => by rw [List.mem_singleton.mp hb]; simp)
      exact R.km (R.km (R.km (hr j u x p q) km fun b hb => by rw [List.mem_singleton.mp hb]; simp) s₃.km fun b hb => List.mem_append_right _ (hZ b hb)) kD fun b hb => by rw [List.mem_singleton.mp hb]; simp
  · refine ⟨(k₂.trans old).stand, fun b hb => ?_, ⟨_, hns₃⟩, #[], hacc, rfl, fun j u x p => by simp at p⟩
    rcases List.mem_append.mp hb with hb | hb
    · simp only [List.mem_cons, List.not_mem_nil, or_false] at hb
      rcases hb with rfl | rfl
      · obtain ⟨o, ho, _⟩ := hacc; exact ⟨o, ho⟩
      · obtain ⟨o, _, _, ho, _⟩ := hns₃; exact ⟨o, ho⟩
    · obtain ⟨o, e⟩ := hG b hb; exact ⟨o, old _ _ (k₂ b o e)⟩
end
end Mine
end

section
open PySem PySem.W PyProof.Rows PySem.Calls PySem.SeqAt
set_option maxRecDepth 100000
set_option maxHeartbeats 400000
set_option linter.unusedVariables false
set_option linter.unusedSimpArgs false
namespace Mine
theorem LS.stand {w : World} {mg mb : Str → Option Value} {cs : Scope} {L : Addr} {h₀ h h' : Heap} {v1 v2 v3 v4 : Option Value} (x : LS w mg mb cs L h₀ v1 v2 v3 v4 h) (k : Stand [L] h h') : LS w mg mb cs L h₀ v1 v2 v3 v4 h' := by
  obtain ⟨m, F⟩ := x.st.fr
  have nl : ∀ n : Nat, 0 < n → (L + n : Nat) ∉ [L] := fun n hn q => by
    have : @Eq Nat (@HAdd.hAdd Nat Nat Nat _ L n) L := List.mem_singleton.mp q
    exact absurd this (Nat.ne_of_gt (Nat.lt_add_of_pos_right hn))
  exact ⟨x.st.km k.km (fun b hb => by rw [List.mem_singleton.mp hb]; exact x.st.noL) (slots_ns F.ns fun o e => k.slots _ o e),
    k.km.cell x.c1 (nl 1 (by omega)), k.km.cell x.c2 (nl 2 (by omega)), k.km.cell x.c3 (nl 3 (by omega)), k.km.cell x.c4 (nl 4 (by omega))⟩
theorem law_body {w : World} {mg mb : Str → Option Value} {cn : Str} {L a l : Addr} {ccd : Value} {dp un : Nat} {gd : Option (List Code)} {h₀ h : Heap} {m : Str → Option Value} {vs : List Value} {ns : List Int}
    (ST : Site w mg mb lawScope L [] h₀ h) (hm : h.Ns L m) (hsc : m (S "script") = some (.ref l)) (hl : h.IsList l vs.toArray) (hi : IntsAre vs ns) (hsz : ns.length ≤ 63)
    (c1 : h.IsCell (L + 1) none) (c2 : h.IsCell (L + 1 + 1) none) (c3 : h.IsCell (L + 1 + 1 + 1) none) (c4 : h.IsCell (L + 1 + 1 + 1 + 1) none) (hdp : dp ≤ 400) (hun : un ≤ 100)
    {s : Shared} {Q : Flow → Shared → Prop} {E : Value → Shared → Prop} (es : s.heap = h) (hQ : ∀ f h' tk, 0 < tk → (f = .ret (.bool true) ∧ ∃ m, Fr h₀ L h' m) → Q f { s with heap := h', toks := tk }) :
    wpAny (model PG w) (ktrTop dp un gd cn lawScope L a ccd (cellsFrom (L + 1) lawScope.names []) []) (execs lawBody (envX cn lawScope L a ccd (cellsFrom (L + 1) lawScope.names []))) Q E s := by
  unfold lawBody lawScope defAt at *
  dsimp only [PySem.Challenge.pw_oy0102_01, List.drop] at *
  have fnOf : ∀ {a o h'}, (KK w.params).lookup a = some o → Keeps h h' → h'.get? a = some o := fun e k => k _ _ (ST.keep _ _ (ST.frag _ _ e))
  refine' first_asg (P := fun f h' => f = .ret (.bool true) ∧ ∃ m, Fr h₀ L h' m) ?hf ?ho ?hd ?hy hl hi hsz ?hc ?go es hQ ?hk ?hx ?hs2 ?hse
  case hk => rfl
  case hx => rfl
  case hs2 => rfl
  case hse => rfl
  case hc => rfl
  case hy => exact PN.local hm hsc
  case hf => exact PN.glob ST g135
  case ho => exact fnOf f135 (Keeps.refl _)
  case hd => rfl
  case go =>
    intro v h₁ k₁ rv
    have X : LS w mg mb _ L h₀ none none none none h := ⟨ST, c1, c2, c3, c4⟩
    have hlen : (ns.take 6).length ≤ 6 := by rw [List.length_take]; omega
    refine ((parcelsT hlen) dp un gd cn _ a ccd _ [] h₀ h₁ L (X.st.keeps k₁) (by rw [show recursionLimit = 1000 from rfl]; omega) (by rw [cLine_is]; omega) ⟨_, rv⟩).mono fun d h₂ q => ?_
    obtain ⟨k₂, rd⟩ := q
    replace rd := rd (LG L) (X.keeps k₁).live
    refine ⟨⟨_, (X.keeps (k₁.trans k₂)).c1⟩, fun h₃ n₃ s₃ => ?_⟩
    replace X := (X.keeps (k₁.trans k₂)).set1 n₃ s₃
    replace rd := rParcels.km rd (km_but s₃ (.tail _ (.head _))) fun _ hb => hb
    have gp := good_parcels (ns.take 6)
    generalize parcels (ns.take 6) = P at rd gp
    have hP1 : ∀ f ∈ P.1, OkFile f := gp.1.1
    have hP2 : ∀ f ∈ P.2, OkFile f := gp.2.1
    have hPall : ∀ fs ∈ [P.1, P.2], ∀ f ∈ fs, OkFile f := fun fs hfs => by
      simp only [List.mem_cons, List.not_mem_nil, or_false] at hfs
      rcases hfs with rfl | rfl
      · exact hP1
      · exact hP2
    have hn1 : P.1.length ≤ 8 := by have := gp.1.2.1; omega
    have hn2 : P.2.length ≤ 8 := by have := gp.2.2.1; omega
    have hnall : ∀ fs ∈ [P.1, P.2], fs.length ≤ 8 := fun fs hfs => by
      simp only [List.mem_cons, List.not_mem_nil, or_false] at hfs
      rcases hfs with rfl | rfl
      · exact hn1
      · exact hn2
    have hroom : ∀ n, n ≤ 8 → dp + n < recursionLimit ∧ un + 100 * n < cLine := fun n hn => by
      rw [show recursionLimit = 1000 from rfl, cLine_is]; omega
    refine Tri.then (Tri.asgCell (c := L + 1 + 1) rfl ?_)
    have G0 : Live (LG L) h₃ := X.live
    refine (comp_of rTexts rFiles (fun fs => fs.map rowOf) [P.1, P.2] (cl := []) rfl (PX.cell X.c1 rfl) rd (by simp) G0 ?tn1 (fun I a i h' v hi => go_name) rfl ⟨fun _ _ => rfl, fun _ => rfl⟩ rfl (by decide) (fun _ => rfl)).mono fun ro h₄ q => ?_
    case tn1 =>
      intro N C u fs g mC hN kg lv hCN hmC hfs hu
      refine Tri.bindLocal hmC fun g₂ n₂ s₂ => ⟨km_but s₂ (.head _), ⟨_, n₂⟩, ?_⟩
      have kg2 : Keeps h₃ g₂ := (km_but s₂ (.head _) : KM [C] g g₂).of kg fun b hb => by rw [List.mem_singleton.mp hb]; exact hN C hCN
      have u2 : rFiles.r (N ++ LG L) g₂ u fs := rFiles.km hu (km_but s₂ (.head _) : KM [C] g g₂) fun b hb => by rw [List.mem_singleton.mp hb]; exact List.mem_append_left _ hCN
      have lv2 : Live (N ++ LG L) g₂ := lv.km (km_but s₂ (.head _) : KM [C] g g₂) fun b hb => by
        rw [List.mem_singleton.mp hb]
        obtain ⟨o, _, _, e, _⟩ := n₂; exact ⟨o, e⟩
      refine (comp_of rStr rFile rowOf fs (cl := []) rfl (PX.local n₂ (if_pos rfl)) u2 (by have := hnall fs hfs; omega) lv2 ?tn2 (fun I a i h' v hi => go_pair hi v) rfl ⟨fun _ _ => rfl, fun _ => rfl⟩ rfl (by decide) (fun _ => rfl))
      intro N' C' u' f g₃ mC' hN' kg3 lv3 hCN' hmC' hf hu'
      obtain ⟨T, v1, v2, rfl, nT, hT, r1, r2⟩ := hu'
      refine Tri.bindPair rfl hmC' hT fun g₄ n₄ k₄ => ⟨k₄, ⟨_, n₄⟩, ?_⟩
      have X4 : LS w mg mb _ L h₀ _ _ _ _ g₄ := X.keeps (kg2.trans (k₄.of kg3 fun b hb => by rw [List.mem_singleton.mp hb]; exact hN' C' hCN'))
      obtain ⟨t1, rfl⟩ := r1
      obtain ⟨t2, rfl⟩ := r2
      refine Tri.call2 (PX.glob X4.st g142) (X4.st.keep _ _ (X4.st.frag _ _ f142)) rfl ?_
      refine (PX.local (v := .str f.1 t1) n₄ rfl).here.mono fun w1 g₅ q => ?_
      obtain ⟨rfl, rfl⟩ := q
      refine (PX.local (v := .bytes f.2 t2) n₄ rfl).here.mono fun w2 g₆ q => ?_
      obtain ⟨rfl, rfl⟩ := q
      refine ⟨Keeps.refl _, ?_⟩
      refine ((rowT (hPall fs hfs f hf)) dp un gd cn _ a ccd _ [] h₀ g₆ L X4.st (hroom 4 (by omega)).1 (hroom 4 (by omega)).2 trivial).mono fun d g₇ q => ?_
      exact ⟨q.1, q.2 [] fun b hb => by cases hb⟩
    obtain ⟨k₄, rr⟩ := q
    refine ⟨⟨_, (X.keeps k₄).c2⟩, fun h₅ n₅ s₅ => ⟨rfl, ?_⟩⟩
    replace X := (X.keeps k₄).set2 n₅ s₅
    replace rd := rParcels.km (rParcels.kp' rd k₄) (km_but s₅ (.tail _ (.tail _ (.head _)))) fun _ hb => hb
    replace rr := (rLst rTexts).km rr (km_but s₅ (.tail _ (.tail _ (.head _)))) fun _ hb => hb
    have hread : ∀ rs ∈ [P.1, P.2].map (fun fs => fs.map rowOf), ∀ r ∈ rs, ∃ f, OkFile f ∧ r = rowOf f := fun rs hrs r hr => by
      obtain ⟨fs, hfs, rfl⟩ := List.mem_map.mp hrs
      obtain ⟨f, hf, rfl⟩ := List.mem_map.mp hr
      exact ⟨f, hPall fs hfs f hf, rfl⟩
    have hrall : ∀ rs ∈ [P.1, P.2].map (fun fs => fs.map rowOf), rs.length ≤ 8 := fun rs hrs => by
      obtain ⟨fs, hfs, rfl⟩ := List.mem_map.mp hrs
      rw [List.length_map]; exact hnall fs hfs
    refine Tri.then (Tri.cond (Tri.cmpTrue ?test3))
    case test3 =>
      have G1 : Live (LG L) h₅ := X.live
      refine (comp_of (rLst rRead) rTexts (fun rs => rs.map readRow) ([P.1, P.2].map (fun fs => fs.map rowOf)) (cl := []) rfl (PX.cell X.c2 rfl) rr (by simp) G1 ?tn3 (fun I a i h' v hi => go_name) rfl ⟨fun _ _ => rfl, fun _ => rfl⟩ rfl (by decide) (fun _ => rfl)).mono fun lv3 h₆ q => ?_
      case tn3 =>
        intro N C u rs g mC hN kg lv hCN hmC hrs hu
        refine Tri.bindLocal hmC fun g₂ n₂ s₂ => ⟨km_but s₂ (.head _), ⟨_, n₂⟩, ?_⟩
        have kg2 : Keeps h₅ g₂ := (km_but s₂ (.head _) : KM [C] g g₂).of kg fun b hb => by rw [List.mem_singleton.mp hb]; exact hN C hCN
        have u2 : rTexts.r (N ++ LG L) g₂ u rs := rTexts.km hu (km_but s₂ (.head _) : KM [C] g g₂) fun b hb => by rw [List.mem_singleton.mp hb]; exact List.mem_append_left _ hCN
        have lv2 : Live (N ++ LG L) g₂ := lv.km (km_but s₂ (.head _) : KM [C] g g₂) fun b hb => by
          rw [List.mem_singleton.mp hb]
          obtain ⟨o, _, _, e, _⟩ := n₂; exact ⟨o, e⟩
        refine (comp_of rRead rStr readRow rs (cl := []) rfl (PX.local n₂ (if_pos rfl)) u2 (by have := hrall rs hrs; omega) lv2 ?tn4 (fun I a i h' v hi => go_name) rfl ⟨fun _ _ => rfl, fun _ => rfl⟩ rfl (by decide) (fun _ => rfl))
        intro N' C' u' r g₃ mC' hN' kg3 lv3 hCN' hmC' hr hu'
        refine Tri.bindLocal hmC' fun g₄ n₄ s₄ => ⟨km_but s₄ (.head _), ⟨_, n₄⟩, ?_⟩
        have kg4 : Keeps g₂ g₄ := (km_but s₄ (.head _) : KM [C'] g₃ g₄).of kg3 fun b hb => by rw [List.mem_singleton.mp hb]; exact hN' C' hCN'
        have lv4 : Live (N' ++ (N ++ LG L)) g₄ := lv3.km (km_but s₄ (.head _) : KM [C'] g₃ g₄) fun b hb => by
          rw [List.mem_singleton.mp hb]
          obtain ⟨o, _, _, e, _⟩ := n₄; exact ⟨o, e⟩
        have X4 : LS w mg mb _ L h₀ _ _ _ _ g₄ := X.keeps (kg2.trans kg4)
        obtain ⟨t1, rfl⟩ := hu'
        refine Tri.call1 (PX.glob X4.st g154) (X4.st.keep _ _ (X4.st.frag _ _ f154)) rfl ?_
        refine (PX.local n₄ (if_pos rfl)).here.mono fun w1 g₅ q => ?_
        obtain ⟨rfl, rfl⟩ := q
        refine ⟨Keeps.refl _, ?_⟩
        obtain ⟨f, hf, rfl⟩ := hread rs hrs r hr
        have e1 : readRow (rowOf f) = (f.1, f.2, f.1) := by unfold readRow; rw [unrow_row hf]; rfl
        rw [e1]
        refine ((readT hf) dp un gd cn _ a ccd _ [] h₀ g₅ L X4.st (hroom 8 (by omega)).1 (hroom 8 (by omega)).2 trivial).mono fun d g₇ q => ?_
        exact ⟨q.1, q.2 _ lv4⟩
      obtain ⟨k₆, r6⟩ := q
      have X6 := X.keeps k₆
      have rd6 := rParcels.kp' rd k₆
      refine (comp_of (rLst rRead) rFiles (fun fs => fs.map thrice) [P.1, P.2] (cl := []) rfl (PX.cell X6.c1 rfl) rd6 (by simp) X6.live ?tn5 (fun I a i h' v hi => go_name) rfl ⟨fun _ _ => rfl, fun _ => rfl⟩ rfl (by decide) (fun _ => rfl)).mono fun rv3 h₇ q => ?_
      case tn5 =>
        intro N C u fs g mC hN kg lv hCN hmC hfs hu
        refine Tri.bindLocal hmC fun g₂ n₂ s₂ => ⟨km_but s₂ (.head _), ⟨_, n₂⟩, ?_⟩
        have u2 : rFiles.r (N ++ LG L) g₂ u fs := rFiles.km hu (km_but s₂ (.head _) : KM [C] g g₂) fun b hb => by rw [List.mem_singleton.mp hb]; exact List.mem_append_left _ hCN
        have lv2 : Live (N ++ LG L) g₂ := lv.km (km_but s₂ (.head _) : KM [C] g g₂) fun b hb => by
          rw [List.mem_singleton.mp hb]
          obtain ⟨o, _, _, e, _⟩ := n₂; exact ⟨o, e⟩
        refine (comp_of rRead rFile thrice fs (cl := []) rfl (PX.local n₂ (if_pos rfl)) u2 (by have := hnall fs hfs; omega) lv2 ?tn6 (fun I a i h' v hi => go_pair hi v) rfl ⟨fun _ _ => rfl, fun _ => rfl⟩ rfl (by decide) (fun _ => rfl))
        intro N' C' u' f g₃ mC' hN' kg3 lv3 hCN' hmC' hf hu'
        obtain ⟨T, v1, v2, rfl, nT, hT, r1, r2⟩ := hu'
        refine Tri.bindPair rfl hmC' hT fun g₄ n₄ k₄ => ⟨k₄, ⟨_, n₄⟩, ?_⟩
        have lv4 : Live (N' ++ (N ++ LG L)) g₄ := lv3.km k₄ fun b hb => by
          rw [List.mem_singleton.mp hb]
          obtain ⟨o, _, _, e, _⟩ := n₄; exact ⟨o, e⟩
        obtain ⟨t1, rfl⟩ := r1
        obtain ⟨t2, rfl⟩ := r2
        refine Tri.tuple (Tri.args_cons ?_)
        refine (PX.local (v := .str f.1 t1) n₄ rfl).here.mono fun w1 g₅ q => ?_
        obtain ⟨rfl, rfl⟩ := q
        refine Tri.args_cons ((PX.local (v := .bytes f.2 t2) n₄ rfl).here.mono fun w1 g₅ q => ?_)
        obtain ⟨rfl, rfl⟩ := q
        refine Tri.args_cons ((PX.local (v := .str f.1 t1) n₄ rfl).here.mono fun w1 g₅ q => ?_)
        obtain ⟨rfl, rfl⟩ := q
        refine Tri.args_nil (Tri.newTuple fun T' g₆ hT' k6 hT6 => ⟨k6, T', _, _, _, rfl, fresh_of lv4 hT', hT6, ⟨_, rfl⟩, ⟨_, rfl⟩, ⟨_, rfl⟩⟩)
      obtain ⟨k₇, r7⟩ := q
      have r6' := (rLst (rLst rRead)).kp' r6 k₇
      refine (Tri.ne (k := false) (eqr_list eqr_read) (by have := (hroom 8 (by omega)).2; show un + _ < _; omega) r6' r7 ?_).mono fun b h' q => ?_
      · constructor
        · intro q; cases q
        · intro q
          refine absurd ?_ q
          rw [List.map_map]
          refine List.map_congr_left fun fs hfs => ?_
          show (fs.map rowOf).map readRow = _
          rw [List.map_map]
          refine List.map_congr_left fun f hf => ?_
          show thrice (unrow (rowOf f)) = _
          rw [unrow_row (hPall fs hfs f hf)]
      · obtain ⟨rfl, rfl⟩ := q
        refine ⟨false, rfl, ?_⟩
        simp only [Bool.false_eq_true, if_false]
        refine Tri.nil ⟨rfl, ?_⟩
        have k57 := k₆.trans k₇
        replace X := X.keeps k57
        replace rd := rParcels.kp' rd k57
        replace rr := (rLst rTexts).kp' rr k57
        clear k57 r6 r7 r6' k₆ k₇ rd6 X6
        have hne : ∀ q, sel P q ≠ [] := fun q => by
          unfold sel; split
          · exact gp.1.2.2.2
          · exact gp.2.2.2.2
        have hseln : ∀ q, (sel P q).length ≤ 8 := fun q => by unfold sel; split <;> assumption
        refine Tri.then (Tri.asgCell (c := L + 1 + 1 + 1) rfl ?_)
        have G2 : Live (LG L) h' := X.live
        refine (comp_rng rTexts (alP P) 2 (cq := some (Str.ofString "q")) rfl (PX.built X.st (by kernel_rfl) (by boot_fast)) PX.const_int (by omega) G2 ?tq rfl ⟨fun _ _ => rfl, fun _ => rfl⟩ rfl (by decide) (fun _ => rfl)).mono fun al h₈ q => ?_
        case tq =>
          intro N D C cs u q g hcs hN kg lv hsub hCcs fr hq hu
          obtain rfl : cs = [C + 1] := hcs
          obtain ⟨v₀, hv₀⟩ := fr.2 (C + 1) (.head _)
          refine Tri.bindCell hv₀ rfl fun g₂ n₂ s₂ => ⟨km_but s₂ (.tail _ (.head _)), ⟨?_, fun c hc => ?_⟩, ?_⟩
          · obtain ⟨m, hm⟩ := fr.1
            exact ⟨m, (km_but s₂ (.head _) : KM [C + 1] g g₂).ns hm (fun q => hCcs q)⟩
          · rw [List.mem_singleton.mp hc]; exact ⟨_, n₂⟩
          have hqN : C + 1 ∈ N := hsub _ (.tail _ (.tail _ (.head _)))
          have km2 : KM [C + 1] g g₂ := km_but s₂ (.head _)
          have kg2 : Keeps h' g₂ := km2.of kg fun b hb => by rw [List.mem_singleton.mp hb]; exact hN _ hqN
          have lv2 : Live (N ++ LG L) g₂ := lv.km km2 fun b hb => by
            rw [List.mem_singleton.mp hb]
            obtain ⟨o, e, _⟩ := n₂; exact ⟨o, e⟩
          have X2 := X.keeps kg2
          have rd2 := rParcels.kp' (rParcels.fresh2 N rd hN) kg2
          have rr2 := (rLst rTexts).kp' ((rLst rTexts).fresh2 N rr hN) kg2
          refine Tri.callB1 (PX.built X2.st (by kernel_rfl) (by boot_fast)) ?_
          have hsl := hseln q
          have hsl' := hseln (1 - q)
          refine (comp_two (n := (sel P q).length) (Pv := fun i v => isInt i v) (Pv2 := fun _ i v => isInt i v) (fun p => offL ((sel P q).getD p nof) (sel P (1 - q))) (fun p => if tops (rowOf ((sel P q).getD p nof)) ((sel P (1 - q)).map rowOf) then 2 else 1) (fun p => rowOf ((sel P q).getD p nof))
            (cl := ?cl4) ?k1 ⟨fun _ _ => rfl, fun _ => rfl⟩ rfl (by decide) ?k2 ?k3 ?k4 lv2 ?cnt4 (by omega) ?src4 ?test4 ?src4b ?elt4 (fun _ => rfl) (fun _ _ => rfl)).mono fun lst g₃ q4 => ?_
          case k1 => rfl
          case k2 => rfl
          case k3 => rfl
          case k4 => decide
          case cnt4 => intro i; split <;> omega
          case src4 =>
            refine src_range rfl (PX.built X2.st (by kernel_rfl) (by boot_fast)) (Tri.lenOf (PX.built X2.st (by kernel_rfl) (by boot_fast)) (Tri.itemR (PX.cell X2.c1 rfl) rd2 ((PX.cell n₂ rfl).mono fun v e => e ▸ hu) (by omega) (by omega) (sel_get hq) fun u hu => ⟨rfl, hu⟩) (by omega)) (by omega)
          case test4 =>
            intro C2 i v g₄ m4 k4 hm4 hv4 hi4 hp4
            have X4 := X2.keeps k4
            have rd4 := rParcels.kp' rd2 k4
            have n4 := n₂.keeps k4
            refine Tri.cmpTrue (Tri.item2 (PX.cell X4.c1 rfl) rd4 ((PX.cell n4 rfl).mono fun v e => e ▸ hu) (by omega) (by omega) (sel_get hq) ((PX.local hm4 hv4).mono fun v e => e ▸ hp4) (by omega) (by omega) (getD_of (d := nof) hi4) fun u1 hu1 => ?_)
            refine (Tri.itemR (PX.cell X4.c1 rfl) rd4 (PX.sub PX.const_int ((PX.cell n4 rfl).mono fun v e => e ▸ hu)) (by omega) (by omega) (sel_get' hq) fun u2 hu2 => ?_)
            refine (Tri.notIn eqr_file (by have := (hroom 8 (by omega)).2; show un + _ < _; omega) hu1 hu2 offL_iff).mono fun b g5 q => ?_
            obtain ⟨rfl, rfl⟩ := q
            exact ⟨_, rfl, Keeps.refl _, rfl⟩
          case src4b =>
            intro C2 i v g₄ m4 k4 hm4 hv4 hi4 hp4 htst
            have X4 := X2.keeps k4
            have rr4 := (rLst rTexts).kp' rr2 k4
            have n4 := n₂.keeps k4
            have hi4' : i < ((sel P q).map rowOf).length := by rw [List.length_map]; exact hi4
            refine src_range rfl (PX.built X4.st (by kernel_rfl) (by boot_fast)) (Tri.binop (PX.const_int.here.mono fun u5 g₅ q5 => ?_)) (by split <;> omega)
            obtain ⟨⟨t5, rfl⟩, rfl⟩ := q5
            refine Tri.cmp (Tri.item2 (PX.cell X4.c2 rfl) rr4 ((PX.cell n4 rfl).mono fun v e => e ▸ hu) (by omega) (by omega) (selR_get hq) ((PX.local hm4 hv4).mono fun v e => e ▸ hp4) (by omega) (by omega) (getD_of (d := rowOf nof) hi4') fun u1 hu1 => ?_)
            refine Tri.callB1 (PX.built X4.st (by kernel_rfl) (by boot_fast)) (Tri.itemR (PX.cell X4.c2 rfl) rr4 (PX.sub PX.const_int ((PX.cell n4 rfl).mono fun v e => e ▸ hu)) (by omega) (by omega) (selR_get' hq) fun u2 hu2 => ?_)
            refine (Tri.maxS rfl hu2 (by simpa using hne (1 - q))).mono fun u6 g₆ q6 => ?_
            obtain ⟨k6, y, hy, hmax, t6, rfl⟩ := q6
            obtain ⟨t1, rfl⟩ := hu1
            refine (Tri.quick (Q' := fun b => b = .bool (below y (((sel P q).map rowOf).getD i (rowOf nof)))) fun s Q E es ht hQ => PySem.P.gt_str (hQ _ _ ht rfl)).mono fun b g₇ q7 => ?_
            obtain ⟨rfl, rfl⟩ := q7
            refine (Tri.quick (Q' := isInt ((1 : Int) + if below y (((sel P q).map rowOf).getD i (rowOf nof)) = true then (1 : Int) else 0)) fun s Q E es ht hQ => PySem.add_int_bool (hQ _ _ (Nat.succ_pos _) ⟨_, rfl⟩)).mono fun b g₈ q8 => ?_
            obtain ⟨q8, rfl⟩ := q8
            refine ⟨k6, ?_⟩
            have e0 : ((sel P q).map rowOf).getD i (rowOf nof) = rowOf ((sel P q).getD i nof) := by
              rw [List.getD_eq_getElem?_getD, List.getD_eq_getElem?_getD, List.getElem?_map, List.getElem?_eq_getElem hi4]; rfl
            rw [e0, tops_of hy hmax] at q8
            by_cases hc : tops (rowOf ((sel P q).getD i nof)) ((sel P (1 - q)).map rowOf) = true
            · rw [if_pos hc] at q8 ⊢; exact q8
            · rw [if_neg hc] at q8 ⊢; exact q8
          case elt4 =>
            intro C2 i v g₄ m4 k4 hm4 hv4 hi4 hp4 htst
            have X4 := X2.keeps k4
            have rr4 := (rLst rTexts).kp' rr2 k4
            have n4 := n₂.keeps k4
            have hi4' : i < ((sel P q).map rowOf).length := by rw [List.length_map]; exact hi4
            refine (Tri.item2 (PX.cell X4.c2 rfl) rr4 ((PX.cell n4 rfl).mono fun v e => e ▸ hu) (by omega) (by omega) (selR_get hq) ((PX.local hm4 hv4).mono fun v e => e ▸ hp4) (by omega) (by omega) (getD_of (d := rowOf nof) hi4') fun u1 hu1 => ?_)
            have e0 : ((sel P q).map rowOf).getD i (rowOf nof) = rowOf ((sel P q).getD i nof) := by
              rw [List.getD_eq_getElem?_getD, List.getD_eq_getElem?_getD, List.getElem?_map, List.getElem?_eq_getElem hi4]; rfl
            rw [e0] at hu1
            exact ⟨Keeps.refl _, hu1⟩
          obtain ⟨k3, r3⟩ := q4
          have hlen3 : (aloneL (sel P q) (sel P (1 - q))).length < 64 := by have := aloneL_len (sel P q) (sel P (1 - q)); omega
          refine (Tri.sorted (G := N ++ LG L) (l := aloneL (sel P q) (sel P (1 - q))) r3 hlen3 (lv2.keeps k3)).mono fun u9 g9 q9 => ?_
          obtain ⟨k9, l', hp, hs, r9⟩ := q9
          refine ⟨k3.trans k9, ?_⟩
          unfold alP
          rw [srt_of hp (rises_of hs)]
          exact r9
        obtain ⟨k₈, ra⟩ := q
        refine ⟨⟨_, (X.keeps k₈).c3⟩, fun h₉ n₉ s₉ => ⟨rfl, ?_⟩⟩
        replace X := (X.keeps k₈).set3 n₉ s₉
        replace rd := rParcels.km (rParcels.kp' rd k₈) (km_but s₉ (.tail _ (.tail _ (.tail _ (.head _))))) fun _ hb => hb
        replace rr := (rLst rTexts).km ((rLst rTexts).kp' rr k₈) (km_but s₉ (.tail _ (.tail _ (.tail _ (.head _))))) fun _ hb => hb
        replace ra := (rLst rTexts).km ra (km_but s₉ (.tail _ (.tail _ (.tail _ (.head _))))) fun _ hb => hb
        refine Tri.then (Tri.asgCell (c := L + 1 + 1 + 1 + 1) rfl ?_)
        refine (comp_of rTexts rTexts (fun rs => srt (rs ++ rs)) ([P.1, P.2].map (fun fs => fs.map rowOf)) (cl := []) rfl (PX.cell X.c2 rfl) rr (by simp) X.live ?tp (fun I a i h' v hi => go_name) rfl ⟨fun _ _ => rfl, fun _ => rfl⟩ rfl (by decide) (fun _ => rfl)).mono fun pv h₁₀ q => ?_
        case tp =>
          intro N C u rs g mC hN kg lv hCN hmC hrs hu
          refine Tri.bindLocal hmC fun g₂ n₂ s₂ => ⟨km_but s₂ (.head _), ⟨_, n₂⟩, ?_⟩
          have u2 : rTexts.r (N ++ LG L) g₂ u rs := rTexts.km hu (km_but s₂ (.head _) : KM [C] g g₂) fun b hb => by rw [List.mem_singleton.mp hb]; exact List.mem_append_left _ hCN
          have lv2 : Live (N ++ LG L) g₂ := lv.km (km_but s₂ (.head _) : KM [C] g g₂) fun b hb => by
            rw [List.mem_singleton.mp hb]
            obtain ⟨o, _, _, e, _⟩ := n₂; exact ⟨o, e⟩
          have kg2 : Keeps h₉ g₂ := (km_but s₂ (.head _) : KM [C] g g₂).of kg fun b hb => by rw [List.mem_singleton.mp hb]; exact hN C hCN
          have hl := hrall rs hrs
          refine Tri.callB1 (PX.built (X.keeps kg2).st (by kernel_rfl) (by boot_fast)) (Tri.binop ?_)
          refine (PX.local n₂ (if_pos rfl)).here.mono fun w1 g₅ q => ?_
          obtain ⟨rfl, rfl⟩ := q
          refine (PX.local n₂ (if_pos rfl)).here.mono fun w2 g₆ q => ?_
          obtain ⟨rfl, rfl⟩ := q
          refine (Tri.addLists u2 u2 (by rw [sizeLine_eq]; omega) lv2).mono fun z g₇ q => ?_
          refine (Tri.sorted q.2 (by rw [List.length_append]; omega) (lv2.keeps q.1)).mono fun u9 g9 q9 => ?_
          obtain ⟨k9, l', hp, hs, r9⟩ := q9
          refine ⟨q.1.trans k9, ?_⟩
          rw [srt_of hp (rises_of hs)]
          exact r9
        obtain ⟨k₁₀, rp⟩ := q
        refine ⟨⟨_, (X.keeps k₁₀).c4⟩, fun h₁₁ n₁₁ s₁₁ => ⟨rfl, ?_⟩⟩
        replace X := (X.keeps k₁₀).set4 n₁₁ s₁₁
        replace ra := (rLst rTexts).km ((rLst rTexts).kp' ra k₁₀) (km_but s₁₁ (.tail _ (.tail _ (.tail _ (.tail _ (.head _)))))) fun _ hb => hb
        replace rp := (rLst rTexts).km rp (km_but s₁₁ (.tail _ (.tail _ (.tail _ (.tail _ (.head _)))))) fun _ hb => hb
        refine Tri.cons (Tri.ret (Tri.cmp ?_))
        refine (comp_rngZ (Z := [L]) rPair (fun q => sdiff (srt (pairL P q)) (srt (pairL P (1 - q)))) 2 rfl (PX.built X.st (by kernel_rfl) (by boot_fast)) PX.const_int (by omega) X.live (fun b hb => by rw [List.mem_singleton.mp hb]; exact .head _) ?te rfl ⟨fun _ _ => rfl, fun _ => rfl⟩ rfl (by decide) (fun _ => rfl)).mono fun lv6 h₁₂ q => ?_
        case te =>
          intro N C u q g hN hCN sg lv fr hq hu
          obtain ⟨mC, hmC⟩ := fr
          refine Tri.bindLocal hmC fun g₂ n₂ s₂ => ⟨km_but s₂ (.head _), ⟨_, n₂⟩, ?_⟩
          have sg2 : Stand [L] h₁₁ g₂ := sg.but (km_but s₂ (.head _) : KM [C] g g₂) fun b hb => by rw [List.mem_singleton.mp hb]; exact hN C hCN
          have X2 := X.stand sg2
          have rp2 := (rLst rTexts).km ((rLst rTexts).fresh2 N rp hN) sg2.km fun b hb => by rw [List.mem_singleton.mp hb]; exact List.mem_append_right _ (.head _)
          have lv2 : Live (N ++ LG L) g₂ := lv.km (km_but s₂ (.head _) : KM [C] g g₂) fun b hb => by
            rw [List.mem_singleton.mp hb]
            obtain ⟨o, _, _, e, _⟩ := n₂; exact ⟨o, e⟩
          refine Tri.call2 (PX.glob X2.st g130) (X2.st.keep _ _ (X2.st.frag _ _ f130)) rfl ?_
          refine Tri.itemR (PX.cell X2.c4 rfl) rp2 ((PX.local n₂ (if_pos rfl)).mono fun v e => e ▸ hu) (by omega) (by omega) (pair_get hq) fun u1 hu1 => ?_
          refine Tri.itemR (PX.cell X2.c4 rfl) rp2 (PX.sub PX.const_int ((PX.local n₂ (if_pos rfl)).mono fun v e => e ▸ hu)) (by omega) (by omega) (pair_get' hq) fun u2 hu2 => ?_
          refine ⟨Keeps.refl _, ?_⟩
          have l1 : (srt (pairL P q)).length ≤ 16 := by rw [rises_srt]; unfold pairL; rw [List.length_append, List.length_map]; have := hseln q; omega
          have l2 : (srt (pairL P (1 - q))).length ≤ 16 := by rw [rises_srt]; unfold pairL; rw [List.length_append, List.length_map]; have := hseln (1 - q); omega
          exact (diffZ l1 l2 X2.st (hroom 8 (by omega)).1 (hroom 8 (by omega)).2 ⟨_, hu1, hu2⟩).mono fun d g₇ q => ⟨q.1, q.2 _ lv2⟩
        obtain ⟨s₁₂, r12⟩ := q
        have X12 := X.stand s₁₂
        have ra12 := (rLst rTexts).km ra s₁₂.km fun b hb => by rw [List.mem_singleton.mp hb]; exact .head _
        refine (comp_rng rPair (fun q => (alP P q, alP P (1 - q))) 2 (cq := none) rfl (PX.built X12.st (by kernel_rfl) (by boot_fast)) PX.const_int (by omega) X12.live ?tf rfl ⟨fun _ _ => rfl, fun _ => rfl⟩ rfl (by decide) (fun _ => rfl)).mono fun rv6 h₁₃ q => ?_
        case tf =>
          intro N D C cs u q g hcs hN kg lv hsub hCcs fr hq hu
          obtain rfl : cs = [] := hcs
          obtain ⟨mC, hmC⟩ := fr.1
          refine Tri.bindLocal hmC fun g₂ n₂ s₂ => ⟨km_but s₂ (.head _), ⟨⟨_, n₂⟩, fun c hc => by cases hc⟩, ?_⟩
          have hCN : C ∈ N := hsub _ (.tail _ (.head _))
          have kg2 : Keeps h₁₂ g₂ := (km_but s₂ (.head _) : KM [C] g g₂).of kg fun b hb => by rw [List.mem_singleton.mp hb]; exact hN C hCN
          have lv2 : Live (N ++ LG L) g₂ := lv.km (km_but s₂ (.head _) : KM [C] g g₂) fun b hb => by
            rw [List.mem_singleton.mp hb]
            obtain ⟨o, _, _, e, _⟩ := n₂; exact ⟨o, e⟩
          have X2 := X12.keeps kg2
          have ra2 := (rLst rTexts).kp' ((rLst rTexts).fresh2 N ra12 hN) kg2
          refine Tri.tuple (Tri.args_cons ?_)
          refine Tri.itemR (PX.cell X2.c3 rfl) ra2 ((PX.local n₂ (if_pos rfl)).mono fun v e => e ▸ hu) (by omega) (by omega) (al_get hq) fun u1 hu1 => ?_
          refine Tri.args_cons ?_
          refine Tri.itemR (PX.cell X2.c3 rfl) ra2 (PX.sub PX.const_int ((PX.local n₂ (if_pos rfl)).mono fun v e => e ▸ hu)) (by omega) (by omega) (al_get' hq) fun u2 hu2 => ?_
          refine Tri.args_nil (Tri.newTuple fun T' g₆ hT' k6 hT6 => ⟨k6, T', _, _, rfl, fresh_of lv2 hT', hT6, rTexts.kp' hu1 k6, rTexts.kp' hu2 k6⟩)
        obtain ⟨k₁₃, r13⟩ := q
        have hall : ∀ q, ∀ f ∈ sel P q, OkFile f := fun q => by unfold sel; split <;> assumption
        have hnd : ∀ q, (sel P q).Nodup := fun q => by
          unfold sel; split
          · exact gp.1.2.2.1
          · exact gp.2.2.2.1
        refine (Tri.eq (k := true) (eqr_list eqr_pair) (by have := (hroom 8 (by omega)).2; show un + _ < _; omega) ((rLst rPair).kp' r12 k₁₃) r13 ?_).mono fun b h' q => ?_
        · exact ⟨fun _ => law_pair hall hnd hne, fun _ => rfl⟩
        · obtain ⟨rfl, rfl⟩ := q
          exact .inr ⟨by simp, rfl, (X12.keeps k₁₃).st.fr⟩
end Mine
end

section
open PySem PySem.W PyProof.Rows PySem.Calls PySem.SeqAt
set_option maxRecDepth 100000
set_option maxHeartbeats 4000000
set_option linter.unusedVariables false
set_option linter.unusedSimpArgs false
namespace Mine
noncomputable def qv : Program := view PySem.Challenge.pw_oy0102_01 [27]
noncomputable def lz : List Str := [S "_wall", S "_raise_serialization_error", S "_escape_cdata", S "_escape_attrib", S "bytes_types", S "_bytes_from_decode_data", S "Error", S "_ascii_buffer", S "_buffer", S "_truth", S "_B64", S "_b64_value", S "a2b_base64", S "b2a_base64", S "b64encode", S "b64decode", S "sorted_list_difference", S "_law_parcels", S "_law_row", S "_law_plain", S "_law_read"]
theorem fin : PySem.Challenge.rw_oy0102_01.Holds := by
  w_on; o_law
  refine holds_open (q := qv) (loose := lz) (Xt := fun s => xlAt qv [] s && recOk (RowW.records (OpenRow.toRowW PySem.Challenge.rw_oy0102_01.row)) s) (XP := XL qv []) (Yf := Hook.obs (kHook KK KA (fun _ => by kernel_rfl))) (Ya := Hook.val (kHook KK KA (fun _ => by kernel_rfl))) (YP := Hook.says (kHook KK KA (fun _ => by kernel_rfl))) (N := 1826) ?hl (Hook.of (kHook KK KA (fun _ => by kernel_rfl))) (Hook.keeps (kHook KK KA (fun _ => by kernel_rfl))) (fun s e => xl_of s (Bool.and_eq_true_iff.mp e).1) XL.keeps (by rfl) (by rfl) (by rfl) (fun s e => recFacts_of (Bool.and_eq_true_iff.mp e).2) (by rfl) (by first | assumption | decide +kernel) (by decide +kernel) ⟨rfl, rfl, rfl, rfl, rfl, by decide +kernel⟩ ?hw ?hc
  case hl => intro w; kernel_rfl
  case hw => w_witness2
  k_go0
  rename Fr _ _ _ _ => F
  rename Top _ _ _ _ _ _ => T
  rename (KK _).In _ => KX
  rename Below _ _ _ _ => K0
  rename IntsAre _ _ => hI
  rename News _ _ _ _ => N
  rename CellsAre _ _ _ => Y
  rename Heap.IsList _ _ _ => hL
  rename ¬ ((63 : Nat) : Int) < _ => h63
  rename Shared.gens _ = _ => hg
  rename_i o4 o3 o2 o1 e4 e3 e2 e1
  refine law_body ⟨⟨_, _, K0⟩, ⟨_, F⟩, KX, ⟨_, _, _, T⟩, rfl⟩ F.ns rfl (hL.at fun o e => F.keep _ o e) hI (by omega) ?c1 ?c2 ?c3 ?c4 ?dp ?un rfl ?fin
  case c1 => exact ⟨_, N.get (.tail _ (.tail _ (.tail _ (.head _)))), e1⟩
  case c2 => exact ⟨_, N.get (.tail _ (.tail _ (.head _))), e2⟩
  case c3 => exact ⟨_, N.get (.tail _ (.head _)), e3⟩
  case c4 => exact ⟨_, N.get (.head _), e4⟩
  case dp => decide
  case un => decide
  case fin =>
    rintro f h' tk htk ⟨rfl, m, Fr'⟩
    refine goodW_bool Fr' hg (raisesW_false ?_) ?_
    · wrow_none_raised
    · wrow_post
end Mine
end

set_option maxRecDepth 100000 in
set_option maxHeartbeats 8000000 in
theorem PySem.Challenge.cw_oy0102_01_holds : PySem.Challenge.rw_oy0102_01.Holds :=
  Mine.fin
