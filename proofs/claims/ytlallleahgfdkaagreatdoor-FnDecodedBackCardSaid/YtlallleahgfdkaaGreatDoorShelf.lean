/- The guide's contracts of Go's library at this dump, as the guide's tools lay-shelf.mjs and lay-plain.mjs wrote them (remarks struck): each is one application of a theorem of the guide's library. -/
import Derived.Shelf.Strings.Builder1
import Derived.Shelf.Strings.Builder2
import Derived.Shelf.Strings.OnBuilder
import Derived.Shelf.Small.Utf8
import Derived.Shelf.Strings.BuilderF
import Derived.Shelf.Strings.BuilderK
import Derived.Shelf.Strconv.Itoa0
import Derived.Shelf.Strconv.Itoa1
import Derived.Shelf.LaysM
import Derived.Shelf.Strconv.Itoa2
import Derived.Shelf.Strconv.Itoa3
import Derived.Shelf.Strings.Prefix
import Derived.Shelf.Unicode.Latin
import Derived.Shelf.Unicode.Decode
import Derived.Shelf.Unicode.DecodeSlow
import Derived.Shelf.Unicode.CaseLookup
import Derived.Shelf.Unicode.CaseConvert
import Derived.Shelf.Unicode.CaseTo
import Derived.Shelf.Unicode.CaseLaid
import Derived.Ground.PaProg
import Derived.Shelf.Hex.Lens
import Derived.Shelf.Hex.Encode
import Derived.Shelf.Hex.Decode
import Derived.Shelf.Hex.DecodeOwns
import Derived.Shelf.Hex.More
import Derived.Test.YtlallleahgfdkaaGreatDoorProg
namespace Go.Proofs
open Go.Shelf
def Tryz.lays169_ren : Go.Shelf.Ren := ⟨fun | 169 => 155 | n => n, fun | 70 => 107 | 9 => 9 | 0 => 0 | 72 => 109 | 37 => 58 | 127 => 144 | 3 => 3 | 5 => 5 | n => n, fun | n => n⟩
theorem Tryz.lays169 : Go.Proofs.Lays.n169 Tryz.prog Tryz.lays169_ren := {
  mixed := by kernel_rfl
  f169 := Tryz.func155.trans (congrArg some (by kernel_rfl))
  t0 := Tryz.underlying0
  a0 := Tryz.isAgg0
  z0 := Tryz.sizeOf0
  v0 := Tryz.zeroValue0
  t3 := Tryz.underlying3
  a3 := Tryz.isAgg3
  z3 := Tryz.sizeOf3
  v3 := Tryz.zeroValue3
  t9 := Tryz.underlying9
  a9 := Tryz.isAgg9
  z9 := Tryz.sizeOf9
  v9 := Tryz.zeroValue9
  t37 := Tryz.underlying58
  a37 := Tryz.isAgg58
  z37 := Tryz.sizeOf58
  v37 := Tryz.zeroValue58
  t70 := Tryz.underlying107
  a70 := Tryz.isAgg107
  z70 := Tryz.sizeOf107
  v70 := Tryz.zeroValue107
  t72 := Tryz.underlying109
  a72 := Tryz.isAgg109
  z72 := Tryz.sizeOf109
  v72 := Tryz.zeroValue109
  t127 := Tryz.underlying144
  a127 := Tryz.isAgg144
  z127 := Tryz.sizeOf144
  v127 := Tryz.zeroValue144 }
theorem Tryz.Builder_Extra_169 : Builder.Extra Tryz.prog Tryz.lays169_ren := {
  sizeBuilder := by kernel_rfl
  liesBuilder := by kernel_rfl
  t5 := Tryz.underlying5
  a5 := Tryz.isAgg5
  z5 := Tryz.sizeOf5
  v5 := Tryz.zeroValue5
  infoByte := by kernel_rfl
  cellsByte := by kernel_rfl
  sizeByte := by kernel_rfl
  neB5 := by decide }
open Go.RowKit in
theorem Tryz.Builder_String (B b : Nat) (l : List UInt8) (w : World) (h : Lib.IsBuilder 109 5 B b (Lib.byteCells l) w) (h0 : l ≠ []) :
    Calls Tryz.prog 155 #[.pointer (some ⟨b, 0, none⟩)] w fun e w' => e = .returned (.string ⟨l.toArray⟩) ∧ Below B w w' := Any.Builder_String Tryz.lays169 Tryz.Builder_Extra_169 B b l w h h0
open Go.RowKit in
theorem Tryz.Builder_String_empty (B b : Nat) (w : World) (h : Lib.IsBuilder 109 5 B b [] w) (hBw : B ≤ w.heap.size) :
    Calls Tryz.prog 155 #[.pointer (some ⟨b, 0, none⟩)] w fun e w' => e = .returned (.string ⟨#[]⟩) ∧ Below B w w' := Any.Builder_String_empty Tryz.lays169 Tryz.Builder_Extra_169 B b w h hBw
open Go.RowKit in
theorem Tryz.Builder_String_any (B b : Nat) (l : List UInt8) (w : World) (h : Lib.IsBuilder 109 5 B b (Lib.byteCells l) w) (hBw : B ≤ w.heap.size) :
    Calls Tryz.prog 155 #[.pointer (some ⟨b, 0, none⟩)] w fun e w' => e = .returned (.string ⟨l.toArray⟩) ∧ Below B w w' := Any.Builder_String_any Tryz.lays169 Tryz.Builder_Extra_169 B b l w h hBw
def Tryz.lays241_ren : Go.Shelf.Ren := ⟨fun | 241 => 178 | 277 => 194 | n => n, fun | 70 => 107 | 3 => 3 | 0 => 0 | 72 => 109 | 37 => 58 | 5 => 5 | n => n, fun | n => n⟩
theorem Tryz.lays241 : Go.Proofs.Lays.n241 Tryz.prog Tryz.lays241_ren := {
  mixed := by kernel_rfl
  f241 := Tryz.func178.trans (congrArg some (by kernel_rfl))
  f277 := Tryz.func194.trans (congrArg some (by kernel_rfl))
  t0 := Tryz.underlying0
  a0 := Tryz.isAgg0
  z0 := Tryz.sizeOf0
  v0 := Tryz.zeroValue0
  t3 := Tryz.underlying3
  a3 := Tryz.isAgg3
  z3 := Tryz.sizeOf3
  v3 := Tryz.zeroValue3
  t37 := Tryz.underlying58
  a37 := Tryz.isAgg58
  z37 := Tryz.sizeOf58
  v37 := Tryz.zeroValue58
  t70 := Tryz.underlying107
  a70 := Tryz.isAgg107
  z70 := Tryz.sizeOf107
  v70 := Tryz.zeroValue107
  t72 := Tryz.underlying109
  a72 := Tryz.isAgg109
  z72 := Tryz.sizeOf109
  v72 := Tryz.zeroValue109 }
theorem Tryz.Builder_Extra_241 : Builder.Extra Tryz.prog Tryz.lays241_ren := {
  sizeBuilder := by kernel_rfl
  liesBuilder := by kernel_rfl
  t5 := Tryz.underlying5
  a5 := Tryz.isAgg5
  z5 := Tryz.sizeOf5
  v5 := Tryz.zeroValue5
  infoByte := by kernel_rfl
  cellsByte := by kernel_rfl
  sizeByte := by kernel_rfl
  neB5 := by decide }
open Go.RowKit in
theorem Tryz.Builder_grow_fresh (B b n : Nat) (w : World) (hB : B ≤ b) (hbk : w.heap[b]? = some (.cells #[.pointer (some ⟨b, 0, none⟩), .slice none 0 0] 109 (0, 0))) (hBw : B ≤ w.heap.size) (hn : n ≤ 281474976710656) :
    Calls Tryz.prog 178 #[.pointer (some ⟨b, 0, none⟩), .int .i64 n] w fun e w' => e = .returned (.tuple #[]) ∧ (Lib.BuilderAt 109 5 B b (.pointer (some ⟨b, 0, none⟩)) [] w' ∧ Below B w w') := Any.Builder_grow_fresh Tryz.lays241 Tryz.Builder_Extra_241 B b n w hB hbk hBw hn
def Tryz.lays165_ren : Go.Shelf.Ren := ⟨fun | 165 => 152 | 240 => 177 | 241 => 178 | 276 => 193 | 277 => 194 | n => n, fun | 70 => 107 | 3 => 3 | 0 => 0 | 4 => 4 | 9 => 9 | 20 => 20 | 72 => 109 | 37 => 58 | 164 => 176 | 5 => 5 | n => n, fun | n => n⟩
theorem Tryz.lays165 : Go.Proofs.Lays.n165 Tryz.prog Tryz.lays165_ren := {
  mixed := by kernel_rfl
  f165 := Tryz.func152.trans (congrArg some (by kernel_rfl))
  f240 := Tryz.func177.trans (congrArg some (by kernel_rfl))
  f241 := Tryz.func178.trans (congrArg some (by kernel_rfl))
  f276 := Tryz.func193.trans (congrArg some (by kernel_rfl))
  f277 := Tryz.func194.trans (congrArg some (by kernel_rfl))
  t0 := Tryz.underlying0
  a0 := Tryz.isAgg0
  z0 := Tryz.sizeOf0
  v0 := Tryz.zeroValue0
  t3 := Tryz.underlying3
  a3 := Tryz.isAgg3
  z3 := Tryz.sizeOf3
  v3 := Tryz.zeroValue3
  t4 := Tryz.underlying4
  a4 := Tryz.isAgg4
  z4 := Tryz.sizeOf4
  v4 := Tryz.zeroValue4
  t9 := Tryz.underlying9
  a9 := Tryz.isAgg9
  z9 := Tryz.sizeOf9
  v9 := Tryz.zeroValue9
  t20 := Tryz.underlying20
  a20 := Tryz.isAgg20
  z20 := Tryz.sizeOf20
  v20 := Tryz.zeroValue20
  t37 := Tryz.underlying58
  a37 := Tryz.isAgg58
  z37 := Tryz.sizeOf58
  v37 := Tryz.zeroValue58
  t70 := Tryz.underlying107
  a70 := Tryz.isAgg107
  z70 := Tryz.sizeOf107
  v70 := Tryz.zeroValue107
  t72 := Tryz.underlying109
  a72 := Tryz.isAgg109
  z72 := Tryz.sizeOf109
  v72 := Tryz.zeroValue109
  t164 := Tryz.underlying176
  a164 := Tryz.isAgg176
  z164 := Tryz.sizeOf176
  v164 := Tryz.zeroValue176 }
theorem Tryz.Builder_Extra_165 : Builder.Extra Tryz.prog Tryz.lays165_ren := {
  sizeBuilder := by kernel_rfl
  liesBuilder := by kernel_rfl
  t5 := Tryz.underlying5
  a5 := Tryz.isAgg5
  z5 := Tryz.sizeOf5
  v5 := Tryz.zeroValue5
  infoByte := by kernel_rfl
  cellsByte := by kernel_rfl
  sizeByte := by kernel_rfl
  neB5 := by decide }
open Go.RowKit in
theorem Tryz.Builder_Grow_fresh (B b n : Nat) (w : World) (hB : B ≤ b) (hbk : w.heap[b]? = some (.cells #[.pointer none, .slice none 0 0] 109 (0, 0))) (hBw : B ≤ w.heap.size) (hn : n ≤ 281474976710656) :
    Calls Tryz.prog 152 #[.pointer (some ⟨b, 0, none⟩), .int .i64 n] w fun e w' => e = .returned (.tuple #[]) ∧ (Lib.BuilderAt 109 5 B b (.pointer (some ⟨b, 0, none⟩)) [] w' ∧ Below B w w') := Any.Builder_Grow_fresh Tryz.lays165 Tryz.Builder_Extra_165 B b n w hB hbk hBw hn
def Tryz.lays158_ren : Go.Shelf.Ren := ⟨fun | 158 => 120 | 165 => 152 | 166 => 153 | 167 => 154 | 169 => 155 | 230 => 156 | 203 => 158 | 240 => 177 | 241 => 178 | 197 => 159 | 118 => 179 | 168 => 180 | 270 => 181 | 262 => 182 | 276 => 193 | 277 => 194 | 260 => 183 | 242 => 195 | 313 => 196 | 278 => 198 | 274 => 199 | 275 => 200 | n => n, fun | 9 => 9 | 4 => 4 | 3 => 3 | 5 => 5 | 72 => 109 | 0 => 0 | 76 => 90 | 75 => 51 | 107 => 115 | 70 => 107 | 20 => 20 | 37 => 58 | 127 => 144 | 21 => 21 | 105 => 117 | 164 => 176 | 162 => 182 | 203 => 180 | 119 => 131 | 46 => 57 | 139 => 185 | 138 => 184 | 51 => 141 | 160 => 191 | 208 => 201 | 206 => 199 | 80 => 113 | n => n, fun | 13 => 1 | 3 => 2 | 4 => 3 | n => n⟩
theorem Tryz.lays158 : Go.Proofs.Lays.n158 Tryz.prog Tryz.lays158_ren := {
  mixed := by kernel_rfl
  f118 := Tryz.func179.trans (congrArg some (by kernel_rfl))
  f158 := Tryz.func120.trans (congrArg some (by kernel_rfl))
  f165 := Tryz.func152.trans (congrArg some (by kernel_rfl))
  f166 := Tryz.func153.trans (congrArg some (by kernel_rfl))
  f167 := Tryz.func154.trans (congrArg some (by kernel_rfl))
  f168 := Tryz.func180.trans (congrArg some (by kernel_rfl))
  f169 := Tryz.func155.trans (congrArg some (by kernel_rfl))
  f197 := Tryz.func159.trans (congrArg some (by kernel_rfl))
  f203 := Tryz.func158.trans (congrArg some (by kernel_rfl))
  f230 := Tryz.func156.trans (congrArg some (by kernel_rfl))
  f240 := Tryz.func177.trans (congrArg some (by kernel_rfl))
  f241 := Tryz.func178.trans (congrArg some (by kernel_rfl))
  f242 := Tryz.func195.trans (congrArg some (by kernel_rfl))
  f260 := Tryz.func183.trans (congrArg some (by kernel_rfl))
  f262 := Tryz.func182.trans (congrArg some (by kernel_rfl))
  f270 := Tryz.func181.trans (congrArg some (by kernel_rfl))
  f274 := Tryz.func199.trans (congrArg some (by kernel_rfl))
  f275 := Tryz.func200.trans (congrArg some (by kernel_rfl))
  f276 := Tryz.func193.trans (congrArg some (by kernel_rfl))
  f277 := Tryz.func194.trans (congrArg some (by kernel_rfl))
  f278 := Tryz.func198.trans (congrArg some (by kernel_rfl))
  f313 := Tryz.func196.trans (congrArg some (by kernel_rfl))
  t0 := Tryz.underlying0
  a0 := Tryz.isAgg0
  z0 := Tryz.sizeOf0
  v0 := Tryz.zeroValue0
  t3 := Tryz.underlying3
  a3 := Tryz.isAgg3
  z3 := Tryz.sizeOf3
  v3 := Tryz.zeroValue3
  t4 := Tryz.underlying4
  a4 := Tryz.isAgg4
  z4 := Tryz.sizeOf4
  v4 := Tryz.zeroValue4
  t5 := Tryz.underlying5
  a5 := Tryz.isAgg5
  z5 := Tryz.sizeOf5
  v5 := Tryz.zeroValue5
  t9 := Tryz.underlying9
  a9 := Tryz.isAgg9
  z9 := Tryz.sizeOf9
  v9 := Tryz.zeroValue9
  t20 := Tryz.underlying20
  a20 := Tryz.isAgg20
  z20 := Tryz.sizeOf20
  v20 := Tryz.zeroValue20
  t21 := Tryz.underlying21
  a21 := Tryz.isAgg21
  z21 := Tryz.sizeOf21
  v21 := Tryz.zeroValue21
  t37 := Tryz.underlying58
  a37 := Tryz.isAgg58
  z37 := Tryz.sizeOf58
  v37 := Tryz.zeroValue58
  t46 := Tryz.underlying57
  a46 := Tryz.isAgg57
  z46 := Tryz.sizeOf57
  v46 := Tryz.zeroValue57
  t51 := Tryz.underlying141
  a51 := Tryz.isAgg141
  z51 := Tryz.sizeOf141
  v51 := Tryz.zeroValue141
  t70 := Tryz.underlying107
  a70 := Tryz.isAgg107
  z70 := Tryz.sizeOf107
  v70 := Tryz.zeroValue107
  t72 := Tryz.underlying109
  a72 := Tryz.isAgg109
  z72 := Tryz.sizeOf109
  v72 := Tryz.zeroValue109
  t75 := Tryz.underlying51
  a75 := Tryz.isAgg51
  z75 := Tryz.sizeOf51
  v75 := Tryz.zeroValue51
  t76 := Tryz.underlying90
  a76 := Tryz.isAgg90
  z76 := Tryz.sizeOf90
  v76 := Tryz.zeroValue90
  t105 := Tryz.underlying117
  a105 := Tryz.isAgg117
  z105 := Tryz.sizeOf117
  v105 := Tryz.zeroValue117
  t107 := Tryz.underlying115
  a107 := Tryz.isAgg115
  z107 := Tryz.sizeOf115
  v107 := Tryz.zeroValue115
  t119 := Tryz.underlying131
  a119 := Tryz.isAgg131
  z119 := Tryz.sizeOf131
  t127 := Tryz.underlying144
  a127 := Tryz.isAgg144
  z127 := Tryz.sizeOf144
  v127 := Tryz.zeroValue144
  t138 := Tryz.underlying184
  a138 := Tryz.isAgg184
  z138 := Tryz.sizeOf184
  v138 := Tryz.zeroValue184
  t139 := Tryz.underlying185
  a139 := Tryz.isAgg185
  z139 := Tryz.sizeOf185
  v139 := Tryz.zeroValue185
  t160 := Tryz.underlying191
  a160 := Tryz.isAgg191
  z160 := Tryz.sizeOf191
  v160 := Tryz.zeroValue191
  t162 := Tryz.underlying182
  a162 := Tryz.isAgg182
  z162 := Tryz.sizeOf182
  v162 := Tryz.zeroValue182
  t164 := Tryz.underlying176
  a164 := Tryz.isAgg176
  z164 := Tryz.sizeOf176
  v164 := Tryz.zeroValue176
  t203 := Tryz.underlying180
  a203 := Tryz.isAgg180
  z203 := Tryz.sizeOf180
  v203 := Tryz.zeroValue180
  t206 := Tryz.underlying199
  a206 := Tryz.isAgg199
  z206 := Tryz.sizeOf199
  v206 := Tryz.zeroValue199
  t208 := Tryz.underlying201
  a208 := Tryz.isAgg201
  z208 := Tryz.sizeOf201
  v208 := Tryz.zeroValue201
  g3 := by kernel_rfl
  g4 := by kernel_rfl
  g13 := by kernel_rfl }
theorem Tryz.Builder_Extra_158 : Builder.Extra Tryz.prog Tryz.lays158_ren := {
  sizeBuilder := by kernel_rfl
  liesBuilder := by kernel_rfl
  t5 := Tryz.underlying5
  a5 := Tryz.isAgg5
  z5 := Tryz.sizeOf5
  v5 := Tryz.zeroValue5
  infoByte := by kernel_rfl
  cellsByte := by kernel_rfl
  sizeByte := by kernel_rfl
  neB5 := by decide }
open Go.RowKit in
theorem Tryz.strings_ToUpper_ascii (s : ByteArray) (w : World) (hs : s.size ≤ 140737488355328) (hascii : ∀ (j : Nat) (b : UInt8), s.data.toList[j]? = some b → b.toNat < 128) :
    Calls Tryz.prog 120 #[.string s] w fun e w' => e = .returned (.string ⟨(Lib.toUpperA s.data.toList).toArray⟩) ∧ Below w.heap.size w w' := Any.strings_ToUpper_ascii Tryz.lays158 Tryz.Builder_Extra_158 s w hs hascii
def Tryz.lays159_ren : Go.Shelf.Ren := ⟨fun | 159 => 119 | 165 => 152 | 166 => 153 | 167 => 154 | 169 => 155 | 230 => 156 | 204 => 157 | 240 => 177 | 241 => 178 | 197 => 159 | 118 => 179 | 168 => 180 | 270 => 181 | 262 => 182 | 276 => 193 | 277 => 194 | 260 => 183 | 242 => 195 | 313 => 196 | 278 => 198 | 274 => 199 | 275 => 200 | n => n, fun | 9 => 9 | 4 => 4 | 3 => 3 | 5 => 5 | 72 => 109 | 0 => 0 | 76 => 90 | 75 => 51 | 107 => 115 | 70 => 107 | 20 => 20 | 37 => 58 | 127 => 144 | 21 => 21 | 105 => 117 | 164 => 176 | 162 => 182 | 203 => 180 | 119 => 131 | 46 => 57 | 139 => 185 | 138 => 184 | 51 => 141 | 160 => 191 | 208 => 201 | 206 => 199 | 80 => 113 | n => n, fun | 13 => 1 | 3 => 2 | 4 => 3 | n => n⟩
theorem Tryz.lays159 : Go.Proofs.Lays.n159 Tryz.prog Tryz.lays159_ren := {
  mixed := by kernel_rfl
  f118 := Tryz.func179.trans (congrArg some (by kernel_rfl))
  f159 := Tryz.func119.trans (congrArg some (by kernel_rfl))
  f165 := Tryz.func152.trans (congrArg some (by kernel_rfl))
  f166 := Tryz.func153.trans (congrArg some (by kernel_rfl))
  f167 := Tryz.func154.trans (congrArg some (by kernel_rfl))
  f168 := Tryz.func180.trans (congrArg some (by kernel_rfl))
  f169 := Tryz.func155.trans (congrArg some (by kernel_rfl))
  f197 := Tryz.func159.trans (congrArg some (by kernel_rfl))
  f204 := Tryz.func157.trans (congrArg some (by kernel_rfl))
  f230 := Tryz.func156.trans (congrArg some (by kernel_rfl))
  f240 := Tryz.func177.trans (congrArg some (by kernel_rfl))
  f241 := Tryz.func178.trans (congrArg some (by kernel_rfl))
  f242 := Tryz.func195.trans (congrArg some (by kernel_rfl))
  f260 := Tryz.func183.trans (congrArg some (by kernel_rfl))
  f262 := Tryz.func182.trans (congrArg some (by kernel_rfl))
  f270 := Tryz.func181.trans (congrArg some (by kernel_rfl))
  f274 := Tryz.func199.trans (congrArg some (by kernel_rfl))
  f275 := Tryz.func200.trans (congrArg some (by kernel_rfl))
  f276 := Tryz.func193.trans (congrArg some (by kernel_rfl))
  f277 := Tryz.func194.trans (congrArg some (by kernel_rfl))
  f278 := Tryz.func198.trans (congrArg some (by kernel_rfl))
  f313 := Tryz.func196.trans (congrArg some (by kernel_rfl))
  t0 := Tryz.underlying0
  a0 := Tryz.isAgg0
  z0 := Tryz.sizeOf0
  v0 := Tryz.zeroValue0
  t3 := Tryz.underlying3
  a3 := Tryz.isAgg3
  z3 := Tryz.sizeOf3
  v3 := Tryz.zeroValue3
  t4 := Tryz.underlying4
  a4 := Tryz.isAgg4
  z4 := Tryz.sizeOf4
  v4 := Tryz.zeroValue4
  t5 := Tryz.underlying5
  a5 := Tryz.isAgg5
  z5 := Tryz.sizeOf5
  v5 := Tryz.zeroValue5
  t9 := Tryz.underlying9
  a9 := Tryz.isAgg9
  z9 := Tryz.sizeOf9
  v9 := Tryz.zeroValue9
  t20 := Tryz.underlying20
  a20 := Tryz.isAgg20
  z20 := Tryz.sizeOf20
  v20 := Tryz.zeroValue20
  t21 := Tryz.underlying21
  a21 := Tryz.isAgg21
  z21 := Tryz.sizeOf21
  v21 := Tryz.zeroValue21
  t37 := Tryz.underlying58
  a37 := Tryz.isAgg58
  z37 := Tryz.sizeOf58
  v37 := Tryz.zeroValue58
  t46 := Tryz.underlying57
  a46 := Tryz.isAgg57
  z46 := Tryz.sizeOf57
  v46 := Tryz.zeroValue57
  t51 := Tryz.underlying141
  a51 := Tryz.isAgg141
  z51 := Tryz.sizeOf141
  v51 := Tryz.zeroValue141
  t70 := Tryz.underlying107
  a70 := Tryz.isAgg107
  z70 := Tryz.sizeOf107
  v70 := Tryz.zeroValue107
  t72 := Tryz.underlying109
  a72 := Tryz.isAgg109
  z72 := Tryz.sizeOf109
  v72 := Tryz.zeroValue109
  t75 := Tryz.underlying51
  a75 := Tryz.isAgg51
  z75 := Tryz.sizeOf51
  v75 := Tryz.zeroValue51
  t76 := Tryz.underlying90
  a76 := Tryz.isAgg90
  z76 := Tryz.sizeOf90
  v76 := Tryz.zeroValue90
  t105 := Tryz.underlying117
  a105 := Tryz.isAgg117
  z105 := Tryz.sizeOf117
  v105 := Tryz.zeroValue117
  t107 := Tryz.underlying115
  a107 := Tryz.isAgg115
  z107 := Tryz.sizeOf115
  v107 := Tryz.zeroValue115
  t119 := Tryz.underlying131
  a119 := Tryz.isAgg131
  z119 := Tryz.sizeOf131
  t127 := Tryz.underlying144
  a127 := Tryz.isAgg144
  z127 := Tryz.sizeOf144
  v127 := Tryz.zeroValue144
  t138 := Tryz.underlying184
  a138 := Tryz.isAgg184
  z138 := Tryz.sizeOf184
  v138 := Tryz.zeroValue184
  t139 := Tryz.underlying185
  a139 := Tryz.isAgg185
  z139 := Tryz.sizeOf185
  v139 := Tryz.zeroValue185
  t160 := Tryz.underlying191
  a160 := Tryz.isAgg191
  z160 := Tryz.sizeOf191
  v160 := Tryz.zeroValue191
  t162 := Tryz.underlying182
  a162 := Tryz.isAgg182
  z162 := Tryz.sizeOf182
  v162 := Tryz.zeroValue182
  t164 := Tryz.underlying176
  a164 := Tryz.isAgg176
  z164 := Tryz.sizeOf176
  v164 := Tryz.zeroValue176
  t203 := Tryz.underlying180
  a203 := Tryz.isAgg180
  z203 := Tryz.sizeOf180
  v203 := Tryz.zeroValue180
  t206 := Tryz.underlying199
  a206 := Tryz.isAgg199
  z206 := Tryz.sizeOf199
  v206 := Tryz.zeroValue199
  t208 := Tryz.underlying201
  a208 := Tryz.isAgg201
  z208 := Tryz.sizeOf201
  v208 := Tryz.zeroValue201
  g3 := by kernel_rfl
  g4 := by kernel_rfl
  g13 := by kernel_rfl }
theorem Tryz.Builder_Extra_159 : Builder.Extra Tryz.prog Tryz.lays159_ren := {
  sizeBuilder := by kernel_rfl
  liesBuilder := by kernel_rfl
  t5 := Tryz.underlying5
  a5 := Tryz.isAgg5
  z5 := Tryz.sizeOf5
  v5 := Tryz.zeroValue5
  infoByte := by kernel_rfl
  cellsByte := by kernel_rfl
  sizeByte := by kernel_rfl
  neB5 := by decide }
open Go.RowKit in
theorem Tryz.strings_ToLower_ascii (s : ByteArray) (w : World) (hs : s.size ≤ 140737488355328) (hascii : ∀ (j : Nat) (b : UInt8), s.data.toList[j]? = some b → b.toNat < 128) :
    Calls Tryz.prog 119 #[.string s] w fun e w' => e = .returned (.string ⟨(Lib.toLowerA s.data.toList).toArray⟩) ∧ Below w.heap.size w w' := Any.strings_ToLower_ascii Tryz.lays159 Tryz.Builder_Extra_159 s w hs hascii
def Tryz.lays156_ren : Go.Shelf.Ren := ⟨fun | 156 => 175 | 165 => 152 | 166 => 153 | 169 => 155 | 240 => 177 | 241 => 178 | 276 => 193 | 277 => 194 | n => n, fun | 31 => 41 | 9 => 9 | 3 => 3 | 4 => 4 | 0 => 0 | 20 => 20 | 72 => 109 | 76 => 90 | 70 => 107 | 37 => 58 | 75 => 51 | 127 => 144 | 164 => 176 | 5 => 5 | 80 => 113 | n => n, fun | n => n⟩
theorem Tryz.lays156 : Go.Proofs.Lays.n156 Tryz.prog Tryz.lays156_ren := {
  mixed := by kernel_rfl
  f156 := Tryz.func175.trans (congrArg some (by kernel_rfl))
  f165 := Tryz.func152.trans (congrArg some (by kernel_rfl))
  f166 := Tryz.func153.trans (congrArg some (by kernel_rfl))
  f169 := Tryz.func155.trans (congrArg some (by kernel_rfl))
  f240 := Tryz.func177.trans (congrArg some (by kernel_rfl))
  f241 := Tryz.func178.trans (congrArg some (by kernel_rfl))
  f276 := Tryz.func193.trans (congrArg some (by kernel_rfl))
  f277 := Tryz.func194.trans (congrArg some (by kernel_rfl))
  t0 := Tryz.underlying0
  a0 := Tryz.isAgg0
  z0 := Tryz.sizeOf0
  v0 := Tryz.zeroValue0
  t3 := Tryz.underlying3
  a3 := Tryz.isAgg3
  z3 := Tryz.sizeOf3
  v3 := Tryz.zeroValue3
  t4 := Tryz.underlying4
  a4 := Tryz.isAgg4
  z4 := Tryz.sizeOf4
  v4 := Tryz.zeroValue4
  t9 := Tryz.underlying9
  a9 := Tryz.isAgg9
  z9 := Tryz.sizeOf9
  v9 := Tryz.zeroValue9
  t20 := Tryz.underlying20
  a20 := Tryz.isAgg20
  z20 := Tryz.sizeOf20
  v20 := Tryz.zeroValue20
  t31 := Tryz.underlying41
  a31 := Tryz.isAgg41
  z31 := Tryz.sizeOf41
  v31 := Tryz.zeroValue41
  t37 := Tryz.underlying58
  a37 := Tryz.isAgg58
  z37 := Tryz.sizeOf58
  v37 := Tryz.zeroValue58
  t70 := Tryz.underlying107
  a70 := Tryz.isAgg107
  z70 := Tryz.sizeOf107
  v70 := Tryz.zeroValue107
  t72 := Tryz.underlying109
  a72 := Tryz.isAgg109
  z72 := Tryz.sizeOf109
  v72 := Tryz.zeroValue109
  t75 := Tryz.underlying51
  a75 := Tryz.isAgg51
  z75 := Tryz.sizeOf51
  v75 := Tryz.zeroValue51
  t76 := Tryz.underlying90
  a76 := Tryz.isAgg90
  z76 := Tryz.sizeOf90
  v76 := Tryz.zeroValue90
  t127 := Tryz.underlying144
  a127 := Tryz.isAgg144
  z127 := Tryz.sizeOf144
  v127 := Tryz.zeroValue144
  t164 := Tryz.underlying176
  a164 := Tryz.isAgg176
  z164 := Tryz.sizeOf176
  v164 := Tryz.zeroValue176 }
theorem Tryz.Builder_Extra_156 : Builder.Extra Tryz.prog Tryz.lays156_ren := {
  sizeBuilder := by kernel_rfl
  liesBuilder := by kernel_rfl
  t5 := Tryz.underlying5
  a5 := Tryz.isAgg5
  z5 := Tryz.sizeOf5
  v5 := Tryz.zeroValue5
  infoByte := by kernel_rfl
  cellsByte := by kernel_rfl
  sizeByte := by kernel_rfl
  neB5 := by decide }
open Go.RowKit in
theorem Tryz.strings_Join_none (a : Option Addr) (c : Nat) (sep : ByteArray) (w : World) :
    Calls Tryz.prog 175 #[.slice a 0 c, .string sep] w fun e w' => e = .returned (.string ⟨#[]⟩) ∧ w' = w := Any.strings_Join_none Tryz.lays156 Tryz.Builder_Extra_156 a c sep w
open Go.RowKit in
theorem Tryz.strings_Join (bk o c : Nat) (xs : List ByteArray) (sep : ByteArray) (w : World) (hcells : ∀ (j : Nat) x, xs[j]? = some x → w.cell? ⟨bk, o + j, none⟩ = some (.string x)) (hbk : bk < w.heap.size) (hN : xs.length ≤ 140737488355328) (hcap : xs.length ≤ c) (hlen : (Lib.join (xs.map (·.data.toList)) sep.data.toList).length ≤ 140737488355328) :
    Calls Tryz.prog 175 #[.slice (some ⟨bk, o, none⟩) xs.length c, .string sep] w fun e w' => e = .returned (.string ⟨(Lib.join (xs.map (·.data.toList)) sep.data.toList).toArray⟩) ∧ Below w.heap.size w w' := Any.strings_Join Tryz.lays156 Tryz.Builder_Extra_156 bk o c xs sep w hcells hbk hN hcap hlen
def Tryz.lays118_ren : Go.Shelf.Ren := ⟨fun | 118 => 179 | n => n, fun | 21 => 21 | 3 => 3 | 4 => 4 | n => n, fun | n => n⟩
theorem Tryz.lays118 : Go.Proofs.Lays.n118 Tryz.prog Tryz.lays118_ren := {
  mixed := by kernel_rfl
  f118 := Tryz.func179.trans (congrArg some (by kernel_rfl))
  t3 := Tryz.underlying3
  a3 := Tryz.isAgg3
  z3 := Tryz.sizeOf3
  v3 := Tryz.zeroValue3
  t4 := Tryz.underlying4
  a4 := Tryz.isAgg4
  z4 := Tryz.sizeOf4
  v4 := Tryz.zeroValue4
  t21 := Tryz.underlying21
  a21 := Tryz.isAgg21
  z21 := Tryz.sizeOf21
  v21 := Tryz.zeroValue21 }
theorem Tryz.utf8_RuneLen (r : Int) (w : World) :
    Calls Tryz.prog 179 #[.int .i32 r] w fun e w' => e = .returned (.int .i64 (Lib.runeLen r)) ∧ w' = w := Any.utf8_RuneLen Tryz.lays118 r w
open Go.RowKit in
theorem Tryz.Builder_String_f (B b : Nat) (l : List UInt8) (w : World) (h : Lib.IsBuilderF 109 5 B b (Lib.byteCells l) w) (h0 : l ≠ []) :
    Calls Tryz.prog 155 #[.pointer (some ⟨b, 0, none⟩)] w fun e w' => e = .returned (.string ⟨l.toArray⟩) ∧ (Lib.IsBuilderF 109 5 B b (Lib.byteCells l) w' ∧ Below B w w') := Any.Builder_String_f Tryz.lays169 Tryz.Builder_Extra_169 B b l w h h0
open Go.RowKit in
theorem Tryz.Builder_String_empty_f (B b : Nat) (w : World) (h : Lib.IsBuilderF 109 5 B b [] w) (hBw : B ≤ w.heap.size) :
    Calls Tryz.prog 155 #[.pointer (some ⟨b, 0, none⟩)] w fun e w' => e = .returned (.string ⟨#[]⟩) ∧ (Lib.IsBuilderF 109 5 B b [] w' ∧ Below B w w') := Any.Builder_String_empty_f Tryz.lays169 Tryz.Builder_Extra_169 B b w h hBw
open Go.RowKit in
theorem Tryz.Builder_String_any_f (B b : Nat) (l : List UInt8) (w : World) (h : Lib.IsBuilderF 109 5 B b (Lib.byteCells l) w) (hBw : B ≤ w.heap.size) :
    Calls Tryz.prog 155 #[.pointer (some ⟨b, 0, none⟩)] w fun e w' => e = .returned (.string ⟨l.toArray⟩) ∧ (Lib.IsBuilderF 109 5 B b (Lib.byteCells l) w' ∧ Below B w w') := Any.Builder_String_any_f Tryz.lays169 Tryz.Builder_Extra_169 B b l w h hBw
open Go.RowKit in
theorem Tryz.Builder_String_k (B b : Nat) (l : List UInt8) (w : World) (h : Lib.IsBuilderF 109 5 B b (Lib.byteCells l) w) (h0 : l ≠ []) :
    Calls Tryz.prog 155 #[.pointer (some ⟨b, 0, none⟩)] w fun e w' => e = .returned (.string ⟨l.toArray⟩) ∧ (Lib.IsBuilderF 109 5 B b (Lib.byteCells l) w' ∧ Below B w w' ∧ Lib.OthersKept 5 (some b) w w') := Any.Builder_String_k Tryz.lays169 Tryz.Builder_Extra_169 B b l w h h0
open Go.RowKit in
theorem Tryz.Builder_String_empty_k (B b : Nat) (w : World) (h : Lib.IsBuilderF 109 5 B b [] w) (hBw : B ≤ w.heap.size) :
    Calls Tryz.prog 155 #[.pointer (some ⟨b, 0, none⟩)] w fun e w' => e = .returned (.string ⟨#[]⟩) ∧ (Lib.IsBuilderF 109 5 B b [] w' ∧ Below B w w' ∧ Lib.OthersKept 5 (some b) w w') := Any.Builder_String_empty_k Tryz.lays169 Tryz.Builder_Extra_169 B b w h hBw
open Go.RowKit in
theorem Tryz.Builder_String_any_k (B b : Nat) (l : List UInt8) (w : World) (h : Lib.IsBuilderF 109 5 B b (Lib.byteCells l) w) (hBw : B ≤ w.heap.size) :
    Calls Tryz.prog 155 #[.pointer (some ⟨b, 0, none⟩)] w fun e w' => e = .returned (.string ⟨l.toArray⟩) ∧ (Lib.IsBuilderF 109 5 B b (Lib.byteCells l) w' ∧ Below B w w' ∧ Lib.OthersKept 5 (some b) w w') := Any.Builder_String_any_k Tryz.lays169 Tryz.Builder_Extra_169 B b l w h hBw
def Tryz.lays129_ren : Go.Shelf.Ren := ⟨fun | 129 => 206 | n => n, fun | 53 => 142 | 3 => 3 | 4 => 4 | 46 => 57 | 5 => 5 | 9 => 9 | n => n, fun | n => n⟩
theorem Tryz.lays129 : Go.Proofs.Lays.n129 Tryz.prog Tryz.lays129_ren := {
  mixed := by kernel_rfl
  f129 := Tryz.func206.trans (congrArg some (by kernel_rfl))
  t3 := Tryz.underlying3
  a3 := Tryz.isAgg3
  z3 := Tryz.sizeOf3
  v3 := Tryz.zeroValue3
  t4 := Tryz.underlying4
  a4 := Tryz.isAgg4
  z4 := Tryz.sizeOf4
  v4 := Tryz.zeroValue4
  t5 := Tryz.underlying5
  a5 := Tryz.isAgg5
  z5 := Tryz.sizeOf5
  v5 := Tryz.zeroValue5
  t9 := Tryz.underlying9
  a9 := Tryz.isAgg9
  z9 := Tryz.sizeOf9
  v9 := Tryz.zeroValue9
  t46 := Tryz.underlying57
  a46 := Tryz.isAgg57
  z46 := Tryz.sizeOf57
  v46 := Tryz.zeroValue57
  t53 := Tryz.underlying142
  a53 := Tryz.isAgg142
  z53 := Tryz.sizeOf142
  v53 := Tryz.zeroValue142 }
theorem Tryz.bits_Len64 (x : Int) (w : World) (h0 : 0 ≤ x) (h1 : x ≤ 18446744073709551615) :
    Calls Tryz.prog 206 #[.int .u64 x] w fun e w' => e = .returned (.int .i64 (Lib.bitLen x.toNat)) ∧ w' = w := Any.bits_Len64 Tryz.lays129 x w h0 h1
def Tryz.lays317_ren : Go.Shelf.Ren := ⟨fun | 317 => 205 | n => n, fun | 3 => 3 | 46 => 57 | n => n, fun | n => n⟩
theorem Tryz.lays317 : Go.Proofs.Lays.n317 Tryz.prog Tryz.lays317_ren := {
  mixed := by kernel_rfl
  f317 := Tryz.func205.trans (congrArg some (by kernel_rfl))
  t3 := Tryz.underlying3
  a3 := Tryz.isAgg3
  z3 := Tryz.sizeOf3
  v3 := Tryz.zeroValue3
  t46 := Tryz.underlying57
  a46 := Tryz.isAgg57
  z46 := Tryz.sizeOf57
  v46 := Tryz.zeroValue57 }
open Go.Lib in
theorem Tryz.internal_strconv_log10Pow2 (x : Nat) (h : x ≤ 64) (w : World) :
    Calls Tryz.prog 205 #[.int .i64 x] w fun e w' => e = .returned (.int .i64 (Lib.l10 x)) ∧ w' = w := Any.internal_strconv_log10Pow2 Tryz.lays317 x h w
def Tryz.lays318_ren : Go.Shelf.Ren := ⟨fun | 318 => 207 | n => n, fun | 3 => 3 | 4 => 4 | n => n, fun | n => n⟩
theorem Tryz.lays318 : Go.Proofs.Lays.n318 Tryz.prog Tryz.lays318_ren := {
  mixed := by kernel_rfl
  f318 := Tryz.func207.trans (congrArg some (by kernel_rfl))
  t3 := Tryz.underlying3
  a3 := Tryz.isAgg3
  z3 := Tryz.sizeOf3
  v3 := Tryz.zeroValue3
  t4 := Tryz.underlying4
  a4 := Tryz.isAgg4
  z4 := Tryz.sizeOf4
  v4 := Tryz.zeroValue4 }
open Go.Lib in
theorem Tryz.internal_strconv_bool2_int (b : Bool) (w : World) :
    Calls Tryz.prog 207 #[.bool b] w fun e w' => e = .returned (.int .i64 (if b then 1 else 0)) ∧ w' = w := Any.internal_strconv_bool2_int Tryz.lays318 b w
def Tryz.lays283_ren : Go.Shelf.Ren := ⟨fun | 283 => 201 | n => n, fun | 3 => 3 | 9 => 9 | 4 => 4 | n => n, fun | n => n⟩
theorem Tryz.lays283 : Go.Proofs.Lays.n283 Tryz.prog Tryz.lays283_ren := {
  mixed := by kernel_rfl
  f283 := Tryz.func201.trans (congrArg some (by kernel_rfl))
  t3 := Tryz.underlying3
  a3 := Tryz.isAgg3
  z3 := Tryz.sizeOf3
  v3 := Tryz.zeroValue3
  t4 := Tryz.underlying4
  a4 := Tryz.isAgg4
  z4 := Tryz.sizeOf4
  v4 := Tryz.zeroValue4
  t9 := Tryz.underlying9
  a9 := Tryz.isAgg9
  z9 := Tryz.sizeOf9
  v9 := Tryz.zeroValue9 }
open Go.Lib in
theorem Tryz.internal_strconv_small (i : Nat) (h : i < 100) (w : World) :
    Calls Tryz.prog 201 #[.int .i64 i] w fun e w' => e = .returned (.string ⟨(Lib.decDigits i).toArray⟩) ∧ w' = w := Any.internal_strconv_small Tryz.lays283 i h w
def Tryz.laysM284_ren : Go.Shelf.Ren := ⟨fun | 284 => 202 | 129 => 206 | 317 => 205 | 318 => 207 | n => n, fun | 53 => 142 | 3 => 3 | 212 => 203 | 0 => 0 | 4 => 4 | 46 => 57 | 5 => 5 | 9 => 9 | n => n, fun | 17 => 5 | n => n⟩
theorem Tryz.laysM284 : Go.Proofs.LaysM.n284 Tryz.prog Tryz.laysM284_ren := {
  mixed := by kernel_rfl
  f129 := Tryz.func206.trans (congrArg some (by kernel_rfl))
  f284 := Tryz.func202.trans (congrArg some (by kernel_rfl))
  f317 := Tryz.func205.trans (congrArg some (by kernel_rfl))
  f318 := Tryz.func207.trans (congrArg some (by kernel_rfl))
  t0 := Tryz.underlying0
  a0 := Tryz.isAgg0
  z0 := Tryz.sizeOf0
  v0 := Tryz.zeroValue0
  t3 := Tryz.underlying3
  a3 := Tryz.isAgg3
  z3 := Tryz.sizeOf3
  v3 := Tryz.zeroValue3
  t4 := Tryz.underlying4
  a4 := Tryz.isAgg4
  z4 := Tryz.sizeOf4
  v4 := Tryz.zeroValue4
  t5 := Tryz.underlying5
  a5 := Tryz.isAgg5
  z5 := Tryz.sizeOf5
  v5 := Tryz.zeroValue5
  t9 := Tryz.underlying9
  a9 := Tryz.isAgg9
  z9 := Tryz.sizeOf9
  v9 := Tryz.zeroValue9
  t46 := Tryz.underlying57
  a46 := Tryz.isAgg57
  z46 := Tryz.sizeOf57
  v46 := Tryz.zeroValue57
  t53 := Tryz.underlying142
  a53 := Tryz.isAgg142
  z53 := Tryz.sizeOf142
  v53 := Tryz.zeroValue142
  t212 := Tryz.underlying203
  a212 := Tryz.isAgg203
  z212 := Tryz.sizeOf203
  v212 := Tryz.zeroValue203
  g17 := by kernel_rfl
  i0 := by kernel_rfl
  i3 := by kernel_rfl
  i4 := by kernel_rfl
  i5 := by kernel_rfl
  i9 := by kernel_rfl
  i46 := by kernel_rfl
  i53 := by kernel_rfl
  i212 := by kernel_rfl
  m17 := by kernel_rfl }
open Go.Lib in
theorem Tryz.internal_strconv_numDigits (u : Nat) (h1 : 1 ≤ u) (h2 : u < 18446744073709551616) (w : World) (htab : Lib.TabIs Tryz.prog w "internal/strconv.uint64pow10" .u64 Lib.pow10Tab) :
    Calls Tryz.prog 202 #[.int .u64 u] w fun e w' => e = .returned (.int .i64 (Lib.nDigits u)) ∧ w' = w := Any.internal_strconv_numDigits Tryz.laysM284 u h1 h2 w htab
def Tryz.lays285_ren : Go.Shelf.Ren := ⟨fun | 285 => 203 | n => n, fun | 37 => 58 | 53 => 142 | 3 => 3 | 4 => 4 | 51 => 141 | 9 => 9 | 5 => 5 | 0 => 0 | n => n, fun | n => n⟩
theorem Tryz.lays285 : Go.Proofs.Lays.n285 Tryz.prog Tryz.lays285_ren := {
  mixed := by kernel_rfl
  f285 := Tryz.func203.trans (congrArg some (by kernel_rfl))
  t0 := Tryz.underlying0
  a0 := Tryz.isAgg0
  z0 := Tryz.sizeOf0
  v0 := Tryz.zeroValue0
  t3 := Tryz.underlying3
  a3 := Tryz.isAgg3
  z3 := Tryz.sizeOf3
  v3 := Tryz.zeroValue3
  t4 := Tryz.underlying4
  a4 := Tryz.isAgg4
  z4 := Tryz.sizeOf4
  v4 := Tryz.zeroValue4
  t5 := Tryz.underlying5
  a5 := Tryz.isAgg5
  z5 := Tryz.sizeOf5
  v5 := Tryz.zeroValue5
  t9 := Tryz.underlying9
  a9 := Tryz.isAgg9
  z9 := Tryz.sizeOf9
  v9 := Tryz.zeroValue9
  t37 := Tryz.underlying58
  a37 := Tryz.isAgg58
  z37 := Tryz.sizeOf58
  v37 := Tryz.zeroValue58
  t51 := Tryz.underlying141
  a51 := Tryz.isAgg141
  z51 := Tryz.sizeOf141
  v51 := Tryz.zeroValue141
  t53 := Tryz.underlying142
  a53 := Tryz.isAgg142
  z53 := Tryz.sizeOf142
  v53 := Tryz.zeroValue142 }
open Go.RowKit Go.Sort Go.Lib in
theorem Tryz.internal_strconv_formatBase10 (blk off cap : Nat) (u : Nat) (d : Array UInt8) (w : World) (hH : Holds (fun (b : UInt8) => Value.int .u8 (b.toNat : Int)) w blk off d) (hu : u < 10 ^ d.size) (hu64 : u < 18446744073709551616) (hsz : d.size < 4611686018427387904) :
    Calls Tryz.prog 203 #[.slice (some ⟨blk, off, none⟩) d.size cap, .int .u64 u] w fun e w' =>
      e = .returned (.tuple #[]) ∧ ∃ (n v' : Nat) (dk : Array UInt8), w' = (putRow (fun (b : UInt8) => Value.int .u8 (b.toNat : Int)) w blk off dk).drewN n ∧ FmtInv d.size u 0 v' dk := Any.internal_strconv_formatBase10 Tryz.lays285 blk off cap u d w hH hu hu64 hsz
def Tryz.laysM246_ren : Go.Shelf.Ren := ⟨fun | 246 => 197 | 283 => 201 | 284 => 202 | 285 => 203 | 286 => 204 | 129 => 206 | 317 => 205 | 318 => 207 | 319 => 208 | 320 => 209 | 337 => 210 | 338 => 211 | n => n, fun | 2 => 2 | 3 => 3 | 9 => 9 | 4 => 4 | 171 => 194 | 0 => 0 | 53 => 142 | 37 => 58 | 5 => 5 | 173 => 196 | 212 => 203 | 51 => 141 | 20 => 20 | 213 => 204 | 46 => 57 | 232 => 208 | 233 => 130 | n => n, fun | 17 => 5 | 18 => 6 | 19 => 7 | n => n⟩
theorem Tryz.laysM246 : Go.Proofs.LaysM.n246 Tryz.prog Tryz.laysM246_ren := {
  mixed := by kernel_rfl
  f129 := Tryz.func206.trans (congrArg some (by kernel_rfl))
  f246 := Tryz.func197.trans (congrArg some (by kernel_rfl))
  f283 := Tryz.func201.trans (congrArg some (by kernel_rfl))
  f284 := Tryz.func202.trans (congrArg some (by kernel_rfl))
  f285 := Tryz.func203.trans (congrArg some (by kernel_rfl))
  f286 := Tryz.func204.trans (congrArg some (by kernel_rfl))
  f317 := Tryz.func205.trans (congrArg some (by kernel_rfl))
  f318 := Tryz.func207.trans (congrArg some (by kernel_rfl))
  f319 := Tryz.func208.trans (congrArg some (by kernel_rfl))
  f320 := Tryz.func209.trans (congrArg some (by kernel_rfl))
  f337 := Tryz.func210.trans (congrArg some (by kernel_rfl))
  f338 := Tryz.func211.trans (congrArg some (by kernel_rfl))
  t0 := Tryz.underlying0
  a0 := Tryz.isAgg0
  z0 := Tryz.sizeOf0
  v0 := Tryz.zeroValue0
  t2 := Tryz.underlying2
  a2 := Tryz.isAgg2
  z2 := Tryz.sizeOf2
  v2 := Tryz.zeroValue2
  t3 := Tryz.underlying3
  a3 := Tryz.isAgg3
  z3 := Tryz.sizeOf3
  v3 := Tryz.zeroValue3
  t4 := Tryz.underlying4
  a4 := Tryz.isAgg4
  z4 := Tryz.sizeOf4
  v4 := Tryz.zeroValue4
  t5 := Tryz.underlying5
  a5 := Tryz.isAgg5
  z5 := Tryz.sizeOf5
  v5 := Tryz.zeroValue5
  t9 := Tryz.underlying9
  a9 := Tryz.isAgg9
  z9 := Tryz.sizeOf9
  v9 := Tryz.zeroValue9
  t20 := Tryz.underlying20
  a20 := Tryz.isAgg20
  z20 := Tryz.sizeOf20
  v20 := Tryz.zeroValue20
  t37 := Tryz.underlying58
  a37 := Tryz.isAgg58
  z37 := Tryz.sizeOf58
  v37 := Tryz.zeroValue58
  t46 := Tryz.underlying57
  a46 := Tryz.isAgg57
  z46 := Tryz.sizeOf57
  v46 := Tryz.zeroValue57
  t51 := Tryz.underlying141
  a51 := Tryz.isAgg141
  z51 := Tryz.sizeOf141
  v51 := Tryz.zeroValue141
  t53 := Tryz.underlying142
  a53 := Tryz.isAgg142
  z53 := Tryz.sizeOf142
  v53 := Tryz.zeroValue142
  t171 := Tryz.underlying194
  a171 := Tryz.isAgg194
  z171 := Tryz.sizeOf194
  v171 := Tryz.zeroValue194
  t173 := Tryz.underlying196
  a173 := Tryz.isAgg196
  z173 := Tryz.sizeOf196
  v173 := Tryz.zeroValue196
  t212 := Tryz.underlying203
  a212 := Tryz.isAgg203
  z212 := Tryz.sizeOf203
  v212 := Tryz.zeroValue203
  t213 := Tryz.underlying204
  a213 := Tryz.isAgg204
  z213 := Tryz.sizeOf204
  t232 := Tryz.underlying208
  a232 := Tryz.isAgg208
  z232 := Tryz.sizeOf208
  v232 := Tryz.zeroValue208
  t233 := Tryz.underlying130
  a233 := Tryz.isAgg130
  z233 := Tryz.sizeOf130
  v233 := Tryz.zeroValue130
  g17 := by kernel_rfl
  g18 := by kernel_rfl
  g19 := by kernel_rfl
  i0 := by kernel_rfl
  i2 := by kernel_rfl
  i3 := by kernel_rfl
  i4 := by kernel_rfl
  i5 := by kernel_rfl
  i9 := by kernel_rfl
  i20 := by kernel_rfl
  i37 := by kernel_rfl
  i46 := by kernel_rfl
  i51 := by kernel_rfl
  i53 := by kernel_rfl
  i171 := by kernel_rfl
  i173 := by kernel_rfl
  i212 := by kernel_rfl
  i232 := by kernel_rfl
  i233 := by kernel_rfl
  m17 := by kernel_rfl
  m18 := by kernel_rfl
  m19 := by kernel_rfl }
open Go.RowKit Go.Sort Go.Lib in
theorem Tryz.internal_strconv_FormatInt_10 (n : Int) (h0 : -9223372036854775808 ≤ n) (h1 : n ≤ 9223372036854775807) (w : World) (htab : Lib.TabIs Tryz.prog w "internal/strconv.uint64pow10" .u64 Lib.pow10Tab) :
    Calls Tryz.prog 197 #[.int .i64 n, .int .i64 10] w fun e w' => e = .returned (.string ⟨(Lib.itoa n).toArray⟩) ∧ ∃ k os, w' = grow (w.drewN k) os := Any.internal_strconv_FormatInt_10 Tryz.laysM246 n h0 h1 w htab
def Tryz.lays246_ren : Go.Shelf.Ren := ⟨fun | 246 => 197 | 283 => 201 | 284 => 202 | 285 => 203 | 286 => 204 | 129 => 206 | 317 => 205 | 318 => 207 | 319 => 208 | 320 => 209 | 337 => 210 | 338 => 211 | n => n, fun | 2 => 2 | 3 => 3 | 9 => 9 | 4 => 4 | 171 => 194 | 0 => 0 | 53 => 142 | 37 => 58 | 5 => 5 | 173 => 196 | 212 => 203 | 51 => 141 | 20 => 20 | 213 => 204 | 46 => 57 | 232 => 208 | 233 => 130 | n => n, fun | 17 => 5 | 18 => 6 | 19 => 7 | n => n⟩
theorem Tryz.lays246 : Go.Proofs.Lays.n246 Tryz.prog Tryz.lays246_ren := {
  mixed := by kernel_rfl
  f129 := Tryz.func206.trans (congrArg some (by kernel_rfl))
  f246 := Tryz.func197.trans (congrArg some (by kernel_rfl))
  f283 := Tryz.func201.trans (congrArg some (by kernel_rfl))
  f284 := Tryz.func202.trans (congrArg some (by kernel_rfl))
  f285 := Tryz.func203.trans (congrArg some (by kernel_rfl))
  f286 := Tryz.func204.trans (congrArg some (by kernel_rfl))
  f317 := Tryz.func205.trans (congrArg some (by kernel_rfl))
  f318 := Tryz.func207.trans (congrArg some (by kernel_rfl))
  f319 := Tryz.func208.trans (congrArg some (by kernel_rfl))
  f320 := Tryz.func209.trans (congrArg some (by kernel_rfl))
  f337 := Tryz.func210.trans (congrArg some (by kernel_rfl))
  f338 := Tryz.func211.trans (congrArg some (by kernel_rfl))
  t0 := Tryz.underlying0
  a0 := Tryz.isAgg0
  z0 := Tryz.sizeOf0
  v0 := Tryz.zeroValue0
  t2 := Tryz.underlying2
  a2 := Tryz.isAgg2
  z2 := Tryz.sizeOf2
  v2 := Tryz.zeroValue2
  t3 := Tryz.underlying3
  a3 := Tryz.isAgg3
  z3 := Tryz.sizeOf3
  v3 := Tryz.zeroValue3
  t4 := Tryz.underlying4
  a4 := Tryz.isAgg4
  z4 := Tryz.sizeOf4
  v4 := Tryz.zeroValue4
  t5 := Tryz.underlying5
  a5 := Tryz.isAgg5
  z5 := Tryz.sizeOf5
  v5 := Tryz.zeroValue5
  t9 := Tryz.underlying9
  a9 := Tryz.isAgg9
  z9 := Tryz.sizeOf9
  v9 := Tryz.zeroValue9
  t20 := Tryz.underlying20
  a20 := Tryz.isAgg20
  z20 := Tryz.sizeOf20
  v20 := Tryz.zeroValue20
  t37 := Tryz.underlying58
  a37 := Tryz.isAgg58
  z37 := Tryz.sizeOf58
  v37 := Tryz.zeroValue58
  t46 := Tryz.underlying57
  a46 := Tryz.isAgg57
  z46 := Tryz.sizeOf57
  v46 := Tryz.zeroValue57
  t51 := Tryz.underlying141
  a51 := Tryz.isAgg141
  z51 := Tryz.sizeOf141
  v51 := Tryz.zeroValue141
  t53 := Tryz.underlying142
  a53 := Tryz.isAgg142
  z53 := Tryz.sizeOf142
  v53 := Tryz.zeroValue142
  t171 := Tryz.underlying194
  a171 := Tryz.isAgg194
  z171 := Tryz.sizeOf194
  v171 := Tryz.zeroValue194
  t173 := Tryz.underlying196
  a173 := Tryz.isAgg196
  z173 := Tryz.sizeOf196
  v173 := Tryz.zeroValue196
  t212 := Tryz.underlying203
  a212 := Tryz.isAgg203
  z212 := Tryz.sizeOf203
  v212 := Tryz.zeroValue203
  t213 := Tryz.underlying204
  a213 := Tryz.isAgg204
  z213 := Tryz.sizeOf204
  t232 := Tryz.underlying208
  a232 := Tryz.isAgg208
  z232 := Tryz.sizeOf208
  v232 := Tryz.zeroValue208
  t233 := Tryz.underlying130
  a233 := Tryz.isAgg130
  z233 := Tryz.sizeOf130
  v233 := Tryz.zeroValue130
  g17 := by kernel_rfl
  g18 := by kernel_rfl
  g19 := by kernel_rfl }
open Go.RowKit Go.Sort Go.Lib in
theorem Tryz.internal_strconv_FormatInt_10_small (i : Nat) (hi : i < 100) (w : World) :
    Calls Tryz.prog 197 #[.int .i64 i, .int .i64 10] w fun e w' => e = .returned (.string ⟨(Lib.decDigits i).toArray⟩) ∧ w' = w := Any.internal_strconv_FormatInt_10_small Tryz.lays246 i hi w
def Tryz.laysM243_ren : Go.Shelf.Ren := ⟨fun | 243 => 192 | 246 => 197 | 283 => 201 | 284 => 202 | 285 => 203 | 286 => 204 | 129 => 206 | 317 => 205 | 318 => 207 | 319 => 208 | 320 => 209 | 337 => 210 | 338 => 211 | n => n, fun | 3 => 3 | 9 => 9 | 2 => 2 | 4 => 4 | 171 => 194 | 0 => 0 | 53 => 142 | 37 => 58 | 5 => 5 | 173 => 196 | 212 => 203 | 51 => 141 | 20 => 20 | 213 => 204 | 46 => 57 | 232 => 208 | 233 => 130 | n => n, fun | 17 => 5 | 18 => 6 | 19 => 7 | n => n⟩
theorem Tryz.laysM243 : Go.Proofs.LaysM.n243 Tryz.prog Tryz.laysM243_ren := {
  mixed := by kernel_rfl
  f129 := Tryz.func206.trans (congrArg some (by kernel_rfl))
  f243 := Tryz.func192.trans (congrArg some (by kernel_rfl))
  f246 := Tryz.func197.trans (congrArg some (by kernel_rfl))
  f283 := Tryz.func201.trans (congrArg some (by kernel_rfl))
  f284 := Tryz.func202.trans (congrArg some (by kernel_rfl))
  f285 := Tryz.func203.trans (congrArg some (by kernel_rfl))
  f286 := Tryz.func204.trans (congrArg some (by kernel_rfl))
  f317 := Tryz.func205.trans (congrArg some (by kernel_rfl))
  f318 := Tryz.func207.trans (congrArg some (by kernel_rfl))
  f319 := Tryz.func208.trans (congrArg some (by kernel_rfl))
  f320 := Tryz.func209.trans (congrArg some (by kernel_rfl))
  f337 := Tryz.func210.trans (congrArg some (by kernel_rfl))
  f338 := Tryz.func211.trans (congrArg some (by kernel_rfl))
  t0 := Tryz.underlying0
  a0 := Tryz.isAgg0
  z0 := Tryz.sizeOf0
  v0 := Tryz.zeroValue0
  t2 := Tryz.underlying2
  a2 := Tryz.isAgg2
  z2 := Tryz.sizeOf2
  v2 := Tryz.zeroValue2
  t3 := Tryz.underlying3
  a3 := Tryz.isAgg3
  z3 := Tryz.sizeOf3
  v3 := Tryz.zeroValue3
  t4 := Tryz.underlying4
  a4 := Tryz.isAgg4
  z4 := Tryz.sizeOf4
  v4 := Tryz.zeroValue4
  t5 := Tryz.underlying5
  a5 := Tryz.isAgg5
  z5 := Tryz.sizeOf5
  v5 := Tryz.zeroValue5
  t9 := Tryz.underlying9
  a9 := Tryz.isAgg9
  z9 := Tryz.sizeOf9
  v9 := Tryz.zeroValue9
  t20 := Tryz.underlying20
  a20 := Tryz.isAgg20
  z20 := Tryz.sizeOf20
  v20 := Tryz.zeroValue20
  t37 := Tryz.underlying58
  a37 := Tryz.isAgg58
  z37 := Tryz.sizeOf58
  v37 := Tryz.zeroValue58
  t46 := Tryz.underlying57
  a46 := Tryz.isAgg57
  z46 := Tryz.sizeOf57
  v46 := Tryz.zeroValue57
  t51 := Tryz.underlying141
  a51 := Tryz.isAgg141
  z51 := Tryz.sizeOf141
  v51 := Tryz.zeroValue141
  t53 := Tryz.underlying142
  a53 := Tryz.isAgg142
  z53 := Tryz.sizeOf142
  v53 := Tryz.zeroValue142
  t171 := Tryz.underlying194
  a171 := Tryz.isAgg194
  z171 := Tryz.sizeOf194
  v171 := Tryz.zeroValue194
  t173 := Tryz.underlying196
  a173 := Tryz.isAgg196
  z173 := Tryz.sizeOf196
  v173 := Tryz.zeroValue196
  t212 := Tryz.underlying203
  a212 := Tryz.isAgg203
  z212 := Tryz.sizeOf203
  v212 := Tryz.zeroValue203
  t213 := Tryz.underlying204
  a213 := Tryz.isAgg204
  z213 := Tryz.sizeOf204
  t232 := Tryz.underlying208
  a232 := Tryz.isAgg208
  z232 := Tryz.sizeOf208
  v232 := Tryz.zeroValue208
  t233 := Tryz.underlying130
  a233 := Tryz.isAgg130
  z233 := Tryz.sizeOf130
  v233 := Tryz.zeroValue130
  g17 := by kernel_rfl
  g18 := by kernel_rfl
  g19 := by kernel_rfl
  i0 := by kernel_rfl
  i2 := by kernel_rfl
  i3 := by kernel_rfl
  i4 := by kernel_rfl
  i5 := by kernel_rfl
  i9 := by kernel_rfl
  i20 := by kernel_rfl
  i37 := by kernel_rfl
  i46 := by kernel_rfl
  i51 := by kernel_rfl
  i53 := by kernel_rfl
  i171 := by kernel_rfl
  i173 := by kernel_rfl
  i212 := by kernel_rfl
  i232 := by kernel_rfl
  i233 := by kernel_rfl
  m17 := by kernel_rfl
  m18 := by kernel_rfl
  m19 := by kernel_rfl }
open Go.RowKit Go.Sort Go.Lib in
theorem Tryz.internal_strconv_Itoa (n : Int) (h0 : -9223372036854775808 ≤ n) (h1 : n ≤ 9223372036854775807) (w : World) (htab : Lib.TabIs Tryz.prog w "internal/strconv.uint64pow10" .u64 Lib.pow10Tab) :
    Calls Tryz.prog 192 #[.int .i64 n] w fun e w' => e = .returned (.string ⟨(Lib.itoa n).toArray⟩) ∧ ∃ k os, w' = grow (w.drewN k) os := Any.internal_strconv_Itoa Tryz.laysM243 n h0 h1 w htab
def Tryz.lays243_ren : Go.Shelf.Ren := ⟨fun | 243 => 192 | 246 => 197 | 283 => 201 | 284 => 202 | 285 => 203 | 286 => 204 | 129 => 206 | 317 => 205 | 318 => 207 | 319 => 208 | 320 => 209 | 337 => 210 | 338 => 211 | n => n, fun | 3 => 3 | 9 => 9 | 2 => 2 | 4 => 4 | 171 => 194 | 0 => 0 | 53 => 142 | 37 => 58 | 5 => 5 | 173 => 196 | 212 => 203 | 51 => 141 | 20 => 20 | 213 => 204 | 46 => 57 | 232 => 208 | 233 => 130 | n => n, fun | 17 => 5 | 18 => 6 | 19 => 7 | n => n⟩
theorem Tryz.lays243 : Go.Proofs.Lays.n243 Tryz.prog Tryz.lays243_ren := {
  mixed := by kernel_rfl
  f129 := Tryz.func206.trans (congrArg some (by kernel_rfl))
  f243 := Tryz.func192.trans (congrArg some (by kernel_rfl))
  f246 := Tryz.func197.trans (congrArg some (by kernel_rfl))
  f283 := Tryz.func201.trans (congrArg some (by kernel_rfl))
  f284 := Tryz.func202.trans (congrArg some (by kernel_rfl))
  f285 := Tryz.func203.trans (congrArg some (by kernel_rfl))
  f286 := Tryz.func204.trans (congrArg some (by kernel_rfl))
  f317 := Tryz.func205.trans (congrArg some (by kernel_rfl))
  f318 := Tryz.func207.trans (congrArg some (by kernel_rfl))
  f319 := Tryz.func208.trans (congrArg some (by kernel_rfl))
  f320 := Tryz.func209.trans (congrArg some (by kernel_rfl))
  f337 := Tryz.func210.trans (congrArg some (by kernel_rfl))
  f338 := Tryz.func211.trans (congrArg some (by kernel_rfl))
  t0 := Tryz.underlying0
  a0 := Tryz.isAgg0
  z0 := Tryz.sizeOf0
  v0 := Tryz.zeroValue0
  t2 := Tryz.underlying2
  a2 := Tryz.isAgg2
  z2 := Tryz.sizeOf2
  v2 := Tryz.zeroValue2
  t3 := Tryz.underlying3
  a3 := Tryz.isAgg3
  z3 := Tryz.sizeOf3
  v3 := Tryz.zeroValue3
  t4 := Tryz.underlying4
  a4 := Tryz.isAgg4
  z4 := Tryz.sizeOf4
  v4 := Tryz.zeroValue4
  t5 := Tryz.underlying5
  a5 := Tryz.isAgg5
  z5 := Tryz.sizeOf5
  v5 := Tryz.zeroValue5
  t9 := Tryz.underlying9
  a9 := Tryz.isAgg9
  z9 := Tryz.sizeOf9
  v9 := Tryz.zeroValue9
  t20 := Tryz.underlying20
  a20 := Tryz.isAgg20
  z20 := Tryz.sizeOf20
  v20 := Tryz.zeroValue20
  t37 := Tryz.underlying58
  a37 := Tryz.isAgg58
  z37 := Tryz.sizeOf58
  v37 := Tryz.zeroValue58
  t46 := Tryz.underlying57
  a46 := Tryz.isAgg57
  z46 := Tryz.sizeOf57
  v46 := Tryz.zeroValue57
  t51 := Tryz.underlying141
  a51 := Tryz.isAgg141
  z51 := Tryz.sizeOf141
  v51 := Tryz.zeroValue141
  t53 := Tryz.underlying142
  a53 := Tryz.isAgg142
  z53 := Tryz.sizeOf142
  v53 := Tryz.zeroValue142
  t171 := Tryz.underlying194
  a171 := Tryz.isAgg194
  z171 := Tryz.sizeOf194
  v171 := Tryz.zeroValue194
  t173 := Tryz.underlying196
  a173 := Tryz.isAgg196
  z173 := Tryz.sizeOf196
  v173 := Tryz.zeroValue196
  t212 := Tryz.underlying203
  a212 := Tryz.isAgg203
  z212 := Tryz.sizeOf203
  v212 := Tryz.zeroValue203
  t213 := Tryz.underlying204
  a213 := Tryz.isAgg204
  z213 := Tryz.sizeOf204
  t232 := Tryz.underlying208
  a232 := Tryz.isAgg208
  z232 := Tryz.sizeOf208
  v232 := Tryz.zeroValue208
  t233 := Tryz.underlying130
  a233 := Tryz.isAgg130
  z233 := Tryz.sizeOf130
  v233 := Tryz.zeroValue130
  g17 := by kernel_rfl
  g18 := by kernel_rfl
  g19 := by kernel_rfl }
open Go.RowKit Go.Sort Go.Lib in
theorem Tryz.internal_strconv_Itoa_small (i : Nat) (hi : i < 100) (w : World) :
    Calls Tryz.prog 192 #[.int .i64 i] w fun e w' => e = .returned (.string ⟨(Lib.decDigits i).toArray⟩) ∧ w' = w := Any.internal_strconv_Itoa_small Tryz.lays243 i hi w
def Tryz.laysM171_ren : Go.Shelf.Ren := ⟨fun | 171 => 176 | 243 => 192 | 246 => 197 | 283 => 201 | 284 => 202 | 285 => 203 | 286 => 204 | 129 => 206 | 317 => 205 | 318 => 207 | 319 => 208 | 320 => 209 | 337 => 210 | 338 => 211 | n => n, fun | 3 => 3 | 9 => 9 | 2 => 2 | 4 => 4 | 171 => 194 | 0 => 0 | 53 => 142 | 37 => 58 | 5 => 5 | 173 => 196 | 212 => 203 | 51 => 141 | 20 => 20 | 213 => 204 | 46 => 57 | 232 => 208 | 233 => 130 | n => n, fun | 17 => 5 | 18 => 6 | 19 => 7 | n => n⟩
theorem Tryz.laysM171 : Go.Proofs.LaysM.n171 Tryz.prog Tryz.laysM171_ren := {
  mixed := by kernel_rfl
  f129 := Tryz.func206.trans (congrArg some (by kernel_rfl))
  f171 := Tryz.func176.trans (congrArg some (by kernel_rfl))
  f243 := Tryz.func192.trans (congrArg some (by kernel_rfl))
  f246 := Tryz.func197.trans (congrArg some (by kernel_rfl))
  f283 := Tryz.func201.trans (congrArg some (by kernel_rfl))
  f284 := Tryz.func202.trans (congrArg some (by kernel_rfl))
  f285 := Tryz.func203.trans (congrArg some (by kernel_rfl))
  f286 := Tryz.func204.trans (congrArg some (by kernel_rfl))
  f317 := Tryz.func205.trans (congrArg some (by kernel_rfl))
  f318 := Tryz.func207.trans (congrArg some (by kernel_rfl))
  f319 := Tryz.func208.trans (congrArg some (by kernel_rfl))
  f320 := Tryz.func209.trans (congrArg some (by kernel_rfl))
  f337 := Tryz.func210.trans (congrArg some (by kernel_rfl))
  f338 := Tryz.func211.trans (congrArg some (by kernel_rfl))
  t0 := Tryz.underlying0
  a0 := Tryz.isAgg0
  z0 := Tryz.sizeOf0
  v0 := Tryz.zeroValue0
  t2 := Tryz.underlying2
  a2 := Tryz.isAgg2
  z2 := Tryz.sizeOf2
  v2 := Tryz.zeroValue2
  t3 := Tryz.underlying3
  a3 := Tryz.isAgg3
  z3 := Tryz.sizeOf3
  v3 := Tryz.zeroValue3
  t4 := Tryz.underlying4
  a4 := Tryz.isAgg4
  z4 := Tryz.sizeOf4
  v4 := Tryz.zeroValue4
  t5 := Tryz.underlying5
  a5 := Tryz.isAgg5
  z5 := Tryz.sizeOf5
  v5 := Tryz.zeroValue5
  t9 := Tryz.underlying9
  a9 := Tryz.isAgg9
  z9 := Tryz.sizeOf9
  v9 := Tryz.zeroValue9
  t20 := Tryz.underlying20
  a20 := Tryz.isAgg20
  z20 := Tryz.sizeOf20
  v20 := Tryz.zeroValue20
  t37 := Tryz.underlying58
  a37 := Tryz.isAgg58
  z37 := Tryz.sizeOf58
  v37 := Tryz.zeroValue58
  t46 := Tryz.underlying57
  a46 := Tryz.isAgg57
  z46 := Tryz.sizeOf57
  v46 := Tryz.zeroValue57
  t51 := Tryz.underlying141
  a51 := Tryz.isAgg141
  z51 := Tryz.sizeOf141
  v51 := Tryz.zeroValue141
  t53 := Tryz.underlying142
  a53 := Tryz.isAgg142
  z53 := Tryz.sizeOf142
  v53 := Tryz.zeroValue142
  t171 := Tryz.underlying194
  a171 := Tryz.isAgg194
  z171 := Tryz.sizeOf194
  v171 := Tryz.zeroValue194
  t173 := Tryz.underlying196
  a173 := Tryz.isAgg196
  z173 := Tryz.sizeOf196
  v173 := Tryz.zeroValue196
  t212 := Tryz.underlying203
  a212 := Tryz.isAgg203
  z212 := Tryz.sizeOf203
  v212 := Tryz.zeroValue203
  t213 := Tryz.underlying204
  a213 := Tryz.isAgg204
  z213 := Tryz.sizeOf204
  t232 := Tryz.underlying208
  a232 := Tryz.isAgg208
  z232 := Tryz.sizeOf208
  v232 := Tryz.zeroValue208
  t233 := Tryz.underlying130
  a233 := Tryz.isAgg130
  z233 := Tryz.sizeOf130
  v233 := Tryz.zeroValue130
  g17 := by kernel_rfl
  g18 := by kernel_rfl
  g19 := by kernel_rfl
  i0 := by kernel_rfl
  i2 := by kernel_rfl
  i3 := by kernel_rfl
  i4 := by kernel_rfl
  i5 := by kernel_rfl
  i9 := by kernel_rfl
  i20 := by kernel_rfl
  i37 := by kernel_rfl
  i46 := by kernel_rfl
  i51 := by kernel_rfl
  i53 := by kernel_rfl
  i171 := by kernel_rfl
  i173 := by kernel_rfl
  i212 := by kernel_rfl
  i232 := by kernel_rfl
  i233 := by kernel_rfl
  m17 := by kernel_rfl
  m18 := by kernel_rfl
  m19 := by kernel_rfl }
open Go.RowKit Go.Sort Go.Lib in
theorem Tryz.strconv_Itoa (n : Int) (h0 : -9223372036854775808 ≤ n) (h1 : n ≤ 9223372036854775807) (w : World) (htab : Lib.TabIs Tryz.prog w "internal/strconv.uint64pow10" .u64 Lib.pow10Tab) :
    Calls Tryz.prog 176 #[.int .i64 n] w fun e w' => e = .returned (.string ⟨(Lib.itoa n).toArray⟩) ∧ ∃ k os, w' = grow (w.drewN k) os := Any.strconv_Itoa Tryz.laysM171 n h0 h1 w htab
def Tryz.lays171_ren : Go.Shelf.Ren := ⟨fun | 171 => 176 | 243 => 192 | 246 => 197 | 283 => 201 | 284 => 202 | 285 => 203 | 286 => 204 | 129 => 206 | 317 => 205 | 318 => 207 | 319 => 208 | 320 => 209 | 337 => 210 | 338 => 211 | n => n, fun | 3 => 3 | 9 => 9 | 2 => 2 | 4 => 4 | 171 => 194 | 0 => 0 | 53 => 142 | 37 => 58 | 5 => 5 | 173 => 196 | 212 => 203 | 51 => 141 | 20 => 20 | 213 => 204 | 46 => 57 | 232 => 208 | 233 => 130 | n => n, fun | 17 => 5 | 18 => 6 | 19 => 7 | n => n⟩
theorem Tryz.lays171 : Go.Proofs.Lays.n171 Tryz.prog Tryz.lays171_ren := {
  mixed := by kernel_rfl
  f129 := Tryz.func206.trans (congrArg some (by kernel_rfl))
  f171 := Tryz.func176.trans (congrArg some (by kernel_rfl))
  f243 := Tryz.func192.trans (congrArg some (by kernel_rfl))
  f246 := Tryz.func197.trans (congrArg some (by kernel_rfl))
  f283 := Tryz.func201.trans (congrArg some (by kernel_rfl))
  f284 := Tryz.func202.trans (congrArg some (by kernel_rfl))
  f285 := Tryz.func203.trans (congrArg some (by kernel_rfl))
  f286 := Tryz.func204.trans (congrArg some (by kernel_rfl))
  f317 := Tryz.func205.trans (congrArg some (by kernel_rfl))
  f318 := Tryz.func207.trans (congrArg some (by kernel_rfl))
  f319 := Tryz.func208.trans (congrArg some (by kernel_rfl))
  f320 := Tryz.func209.trans (congrArg some (by kernel_rfl))
  f337 := Tryz.func210.trans (congrArg some (by kernel_rfl))
  f338 := Tryz.func211.trans (congrArg some (by kernel_rfl))
  t0 := Tryz.underlying0
  a0 := Tryz.isAgg0
  z0 := Tryz.sizeOf0
  v0 := Tryz.zeroValue0
  t2 := Tryz.underlying2
  a2 := Tryz.isAgg2
  z2 := Tryz.sizeOf2
  v2 := Tryz.zeroValue2
  t3 := Tryz.underlying3
  a3 := Tryz.isAgg3
  z3 := Tryz.sizeOf3
  v3 := Tryz.zeroValue3
  t4 := Tryz.underlying4
  a4 := Tryz.isAgg4
  z4 := Tryz.sizeOf4
  v4 := Tryz.zeroValue4
  t5 := Tryz.underlying5
  a5 := Tryz.isAgg5
  z5 := Tryz.sizeOf5
  v5 := Tryz.zeroValue5
  t9 := Tryz.underlying9
  a9 := Tryz.isAgg9
  z9 := Tryz.sizeOf9
  v9 := Tryz.zeroValue9
  t20 := Tryz.underlying20
  a20 := Tryz.isAgg20
  z20 := Tryz.sizeOf20
  v20 := Tryz.zeroValue20
  t37 := Tryz.underlying58
  a37 := Tryz.isAgg58
  z37 := Tryz.sizeOf58
  v37 := Tryz.zeroValue58
  t46 := Tryz.underlying57
  a46 := Tryz.isAgg57
  z46 := Tryz.sizeOf57
  v46 := Tryz.zeroValue57
  t51 := Tryz.underlying141
  a51 := Tryz.isAgg141
  z51 := Tryz.sizeOf141
  v51 := Tryz.zeroValue141
  t53 := Tryz.underlying142
  a53 := Tryz.isAgg142
  z53 := Tryz.sizeOf142
  v53 := Tryz.zeroValue142
  t171 := Tryz.underlying194
  a171 := Tryz.isAgg194
  z171 := Tryz.sizeOf194
  v171 := Tryz.zeroValue194
  t173 := Tryz.underlying196
  a173 := Tryz.isAgg196
  z173 := Tryz.sizeOf196
  v173 := Tryz.zeroValue196
  t212 := Tryz.underlying203
  a212 := Tryz.isAgg203
  z212 := Tryz.sizeOf203
  v212 := Tryz.zeroValue203
  t213 := Tryz.underlying204
  a213 := Tryz.isAgg204
  z213 := Tryz.sizeOf204
  t232 := Tryz.underlying208
  a232 := Tryz.isAgg208
  z232 := Tryz.sizeOf208
  v232 := Tryz.zeroValue208
  t233 := Tryz.underlying130
  a233 := Tryz.isAgg130
  z233 := Tryz.sizeOf130
  v233 := Tryz.zeroValue130
  g17 := by kernel_rfl
  g18 := by kernel_rfl
  g19 := by kernel_rfl }
open Go.RowKit Go.Sort Go.Lib in
theorem Tryz.strconv_Itoa_small (i : Nat) (hi : i < 100) (w : World) :
    Calls Tryz.prog 176 #[.int .i64 i] w fun e w' => e = .returned (.string ⟨(Lib.decDigits i).toArray⟩) ∧ w' = w := Any.strconv_Itoa_small Tryz.lays171 i hi w
def Tryz.lays206_ren : Go.Shelf.Ren := ⟨fun | 206 => 145 | n => n, fun | 9 => 9 | 4 => 4 | 3 => 3 | n => n, fun | n => n⟩
theorem Tryz.lays206 : Go.Proofs.Lays.n206 Tryz.prog Tryz.lays206_ren := {
  mixed := by kernel_rfl
  f206 := Tryz.func145.trans (congrArg some (by kernel_rfl))
  t3 := Tryz.underlying3
  a3 := Tryz.isAgg3
  z3 := Tryz.sizeOf3
  v3 := Tryz.zeroValue3
  t4 := Tryz.underlying4
  a4 := Tryz.isAgg4
  z4 := Tryz.sizeOf4
  v4 := Tryz.zeroValue4
  t9 := Tryz.underlying9
  a9 := Tryz.isAgg9
  z9 := Tryz.sizeOf9
  v9 := Tryz.zeroValue9 }
open Go.RowKit Go.Lib in
theorem Tryz.stringslite_HasPrefix (s p : ByteArray) (w : World) :
    Calls Tryz.prog 145 #[.string s, .string p] w fun e w' => e = .returned (.bool (Lib.hasPrefix s.data.toList p.data.toList)) ∧ w' = w := Any.stringslite_HasPrefix Tryz.lays206 s p w
def Tryz.lays99_ren : Go.Shelf.Ren := ⟨fun | 99 => 113 | 206 => 145 | n => n, fun | 9 => 9 | 4 => 4 | 3 => 3 | n => n, fun | n => n⟩
theorem Tryz.lays99 : Go.Proofs.Lays.n99 Tryz.prog Tryz.lays99_ren := {
  mixed := by kernel_rfl
  f99 := Tryz.func113.trans (congrArg some (by kernel_rfl))
  f206 := Tryz.func145.trans (congrArg some (by kernel_rfl))
  t3 := Tryz.underlying3
  a3 := Tryz.isAgg3
  z3 := Tryz.sizeOf3
  v3 := Tryz.zeroValue3
  t4 := Tryz.underlying4
  a4 := Tryz.isAgg4
  z4 := Tryz.sizeOf4
  v4 := Tryz.zeroValue4
  t9 := Tryz.underlying9
  a9 := Tryz.isAgg9
  z9 := Tryz.sizeOf9
  v9 := Tryz.zeroValue9 }
open Go.RowKit Go.Lib in
theorem Tryz.strings_HasPrefix (s p : ByteArray) (w : World) :
    Calls Tryz.prog 113 #[.string s, .string p] w fun e w' => e = .returned (.bool (Lib.hasPrefix s.data.toList p.data.toList)) ∧ w' = w := Any.strings_HasPrefix Tryz.lays99 s p w
def Tryz.lays207_ren : Go.Shelf.Ren := ⟨fun | 207 => 146 | n => n, fun | 9 => 9 | 4 => 4 | 3 => 3 | n => n, fun | n => n⟩
theorem Tryz.lays207 : Go.Proofs.Lays.n207 Tryz.prog Tryz.lays207_ren := {
  mixed := by kernel_rfl
  f207 := Tryz.func146.trans (congrArg some (by kernel_rfl))
  t3 := Tryz.underlying3
  a3 := Tryz.isAgg3
  z3 := Tryz.sizeOf3
  v3 := Tryz.zeroValue3
  t4 := Tryz.underlying4
  a4 := Tryz.isAgg4
  z4 := Tryz.sizeOf4
  v4 := Tryz.zeroValue4
  t9 := Tryz.underlying9
  a9 := Tryz.isAgg9
  z9 := Tryz.sizeOf9
  v9 := Tryz.zeroValue9 }
open Go.RowKit Go.Lib in
theorem Tryz.stringslite_HasSuffix (s p : ByteArray) (w : World) (hs : s.size ≤ 9223372036854775807) :
    Calls Tryz.prog 146 #[.string s, .string p] w fun e w' => e = .returned (.bool (Lib.hasSuffix s.data.toList p.data.toList)) ∧ w' = w := Any.stringslite_HasSuffix Tryz.lays207 s p w hs
def Tryz.lays100_ren : Go.Shelf.Ren := ⟨fun | 100 => 114 | 207 => 146 | n => n, fun | 9 => 9 | 4 => 4 | 3 => 3 | n => n, fun | n => n⟩
theorem Tryz.lays100 : Go.Proofs.Lays.n100 Tryz.prog Tryz.lays100_ren := {
  mixed := by kernel_rfl
  f100 := Tryz.func114.trans (congrArg some (by kernel_rfl))
  f207 := Tryz.func146.trans (congrArg some (by kernel_rfl))
  t3 := Tryz.underlying3
  a3 := Tryz.isAgg3
  z3 := Tryz.sizeOf3
  v3 := Tryz.zeroValue3
  t4 := Tryz.underlying4
  a4 := Tryz.isAgg4
  z4 := Tryz.sizeOf4
  v4 := Tryz.zeroValue4
  t9 := Tryz.underlying9
  a9 := Tryz.isAgg9
  z9 := Tryz.sizeOf9
  v9 := Tryz.zeroValue9 }
open Go.RowKit Go.Lib in
theorem Tryz.strings_HasSuffix (s p : ByteArray) (w : World) (hs : s.size ≤ 9223372036854775807) :
    Calls Tryz.prog 114 #[.string s, .string p] w fun e w' => e = .returned (.bool (Lib.hasSuffix s.data.toList p.data.toList)) ∧ w' = w := Any.strings_HasSuffix Tryz.lays100 s p w hs
def Tryz.lays208_ren : Go.Shelf.Ren := ⟨fun | 208 => 147 | 206 => 145 | n => n, fun | 9 => 9 | 4 => 4 | 3 => 3 | n => n, fun | n => n⟩
theorem Tryz.lays208 : Go.Proofs.Lays.n208 Tryz.prog Tryz.lays208_ren := {
  mixed := by kernel_rfl
  f206 := Tryz.func145.trans (congrArg some (by kernel_rfl))
  f208 := Tryz.func147.trans (congrArg some (by kernel_rfl))
  t3 := Tryz.underlying3
  a3 := Tryz.isAgg3
  z3 := Tryz.sizeOf3
  v3 := Tryz.zeroValue3
  t4 := Tryz.underlying4
  a4 := Tryz.isAgg4
  z4 := Tryz.sizeOf4
  v4 := Tryz.zeroValue4
  t9 := Tryz.underlying9
  a9 := Tryz.isAgg9
  z9 := Tryz.sizeOf9
  v9 := Tryz.zeroValue9 }
open Go.RowKit Go.Lib in
theorem Tryz.stringslite_TrimPrefix (s p : ByteArray) (w : World) :
    Calls Tryz.prog 147 #[.string s, .string p] w fun e w' => e = .returned (.string ⟨(Lib.trimPrefix s.data.toList p.data.toList).toArray⟩) ∧ w' = w := Any.stringslite_TrimPrefix Tryz.lays208 s p w
def Tryz.lays101_ren : Go.Shelf.Ren := ⟨fun | 101 => 115 | 208 => 147 | 206 => 145 | n => n, fun | 9 => 9 | 4 => 4 | 3 => 3 | n => n, fun | n => n⟩
theorem Tryz.lays101 : Go.Proofs.Lays.n101 Tryz.prog Tryz.lays101_ren := {
  mixed := by kernel_rfl
  f101 := Tryz.func115.trans (congrArg some (by kernel_rfl))
  f206 := Tryz.func145.trans (congrArg some (by kernel_rfl))
  f208 := Tryz.func147.trans (congrArg some (by kernel_rfl))
  t3 := Tryz.underlying3
  a3 := Tryz.isAgg3
  z3 := Tryz.sizeOf3
  v3 := Tryz.zeroValue3
  t4 := Tryz.underlying4
  a4 := Tryz.isAgg4
  z4 := Tryz.sizeOf4
  v4 := Tryz.zeroValue4
  t9 := Tryz.underlying9
  a9 := Tryz.isAgg9
  z9 := Tryz.sizeOf9
  v9 := Tryz.zeroValue9 }
open Go.RowKit Go.Lib in
theorem Tryz.strings_TrimPrefix (s p : ByteArray) (w : World) :
    Calls Tryz.prog 115 #[.string s, .string p] w fun e w' => e = .returned (.string ⟨(Lib.trimPrefix s.data.toList p.data.toList).toArray⟩) ∧ w' = w := Any.strings_TrimPrefix Tryz.lays101 s p w
def Tryz.lays209_ren : Go.Shelf.Ren := ⟨fun | 209 => 149 | 207 => 146 | n => n, fun | 9 => 9 | 4 => 4 | 3 => 3 | n => n, fun | n => n⟩
theorem Tryz.lays209 : Go.Proofs.Lays.n209 Tryz.prog Tryz.lays209_ren := {
  mixed := by kernel_rfl
  f207 := Tryz.func146.trans (congrArg some (by kernel_rfl))
  f209 := Tryz.func149.trans (congrArg some (by kernel_rfl))
  t3 := Tryz.underlying3
  a3 := Tryz.isAgg3
  z3 := Tryz.sizeOf3
  v3 := Tryz.zeroValue3
  t4 := Tryz.underlying4
  a4 := Tryz.isAgg4
  z4 := Tryz.sizeOf4
  v4 := Tryz.zeroValue4
  t9 := Tryz.underlying9
  a9 := Tryz.isAgg9
  z9 := Tryz.sizeOf9
  v9 := Tryz.zeroValue9 }
open Go.RowKit Go.Lib in
theorem Tryz.stringslite_TrimSuffix (s p : ByteArray) (w : World) (hs : s.size ≤ 9223372036854775807) :
    Calls Tryz.prog 149 #[.string s, .string p] w fun e w' => e = .returned (.string ⟨(Lib.trimSuffix s.data.toList p.data.toList).toArray⟩) ∧ w' = w := Any.stringslite_TrimSuffix Tryz.lays209 s p w hs
def Tryz.lays102_ren : Go.Shelf.Ren := ⟨fun | 102 => 117 | 209 => 149 | 207 => 146 | n => n, fun | 9 => 9 | 4 => 4 | 3 => 3 | n => n, fun | n => n⟩
theorem Tryz.lays102 : Go.Proofs.Lays.n102 Tryz.prog Tryz.lays102_ren := {
  mixed := by kernel_rfl
  f102 := Tryz.func117.trans (congrArg some (by kernel_rfl))
  f207 := Tryz.func146.trans (congrArg some (by kernel_rfl))
  f209 := Tryz.func149.trans (congrArg some (by kernel_rfl))
  t3 := Tryz.underlying3
  a3 := Tryz.isAgg3
  z3 := Tryz.sizeOf3
  v3 := Tryz.zeroValue3
  t4 := Tryz.underlying4
  a4 := Tryz.isAgg4
  z4 := Tryz.sizeOf4
  v4 := Tryz.zeroValue4
  t9 := Tryz.underlying9
  a9 := Tryz.isAgg9
  z9 := Tryz.sizeOf9
  v9 := Tryz.zeroValue9 }
open Go.RowKit Go.Lib in
theorem Tryz.strings_TrimSuffix (s p : ByteArray) (w : World) (hs : s.size ≤ 9223372036854775807) :
    Calls Tryz.prog 117 #[.string s, .string p] w fun e w' => e = .returned (.string ⟨(Lib.trimSuffix s.data.toList p.data.toList).toArray⟩) ∧ w' = w := Any.strings_TrimSuffix Tryz.lays102 s p w hs
def Tryz.lays203_ren : Go.Shelf.Ren := ⟨fun | 203 => 158 | 262 => 182 | 313 => 196 | 274 => 199 | 275 => 200 | n => n, fun | 21 => 21 | 4 => 4 | 3 => 3 | 162 => 182 | 203 => 180 | 160 => 191 | 46 => 57 | 0 => 0 | 208 => 201 | 51 => 141 | 206 => 199 | n => n, fun | 13 => 1 | n => n⟩
theorem Tryz.lays203 : Go.Proofs.Lays.n203 Tryz.prog Tryz.lays203_ren := {
  mixed := by kernel_rfl
  f203 := Tryz.func158.trans (congrArg some (by kernel_rfl))
  f262 := Tryz.func182.trans (congrArg some (by kernel_rfl))
  f274 := Tryz.func199.trans (congrArg some (by kernel_rfl))
  f275 := Tryz.func200.trans (congrArg some (by kernel_rfl))
  f313 := Tryz.func196.trans (congrArg some (by kernel_rfl))
  t0 := Tryz.underlying0
  a0 := Tryz.isAgg0
  z0 := Tryz.sizeOf0
  v0 := Tryz.zeroValue0
  t3 := Tryz.underlying3
  a3 := Tryz.isAgg3
  z3 := Tryz.sizeOf3
  v3 := Tryz.zeroValue3
  t4 := Tryz.underlying4
  a4 := Tryz.isAgg4
  z4 := Tryz.sizeOf4
  v4 := Tryz.zeroValue4
  t21 := Tryz.underlying21
  a21 := Tryz.isAgg21
  z21 := Tryz.sizeOf21
  v21 := Tryz.zeroValue21
  t46 := Tryz.underlying57
  a46 := Tryz.isAgg57
  z46 := Tryz.sizeOf57
  v46 := Tryz.zeroValue57
  t51 := Tryz.underlying141
  a51 := Tryz.isAgg141
  z51 := Tryz.sizeOf141
  v51 := Tryz.zeroValue141
  t160 := Tryz.underlying191
  a160 := Tryz.isAgg191
  z160 := Tryz.sizeOf191
  v160 := Tryz.zeroValue191
  t162 := Tryz.underlying182
  a162 := Tryz.isAgg182
  z162 := Tryz.sizeOf182
  v162 := Tryz.zeroValue182
  t203 := Tryz.underlying180
  a203 := Tryz.isAgg180
  z203 := Tryz.sizeOf180
  v203 := Tryz.zeroValue180
  t206 := Tryz.underlying199
  a206 := Tryz.isAgg199
  z206 := Tryz.sizeOf199
  v206 := Tryz.zeroValue199
  t208 := Tryz.underlying201
  a208 := Tryz.isAgg201
  z208 := Tryz.sizeOf201
  v208 := Tryz.zeroValue201
  g13 := by kernel_rfl }
open Go.RowKit Go.Lib in
theorem Tryz.unicode_ToUpper (r : Int) (w : World) (h : r ≤ 127) :
    Calls Tryz.prog 158 #[.int .i32 r] w fun e w' => e = .returned (.int .i32 (Lib.toUpperR r)) ∧ w' = w := Any.unicode_ToUpper Tryz.lays203 r w h
def Tryz.lays204_ren : Go.Shelf.Ren := ⟨fun | 204 => 157 | 262 => 182 | 313 => 196 | 274 => 199 | 275 => 200 | n => n, fun | 21 => 21 | 4 => 4 | 3 => 3 | 162 => 182 | 203 => 180 | 160 => 191 | 46 => 57 | 0 => 0 | 208 => 201 | 51 => 141 | 206 => 199 | n => n, fun | 13 => 1 | n => n⟩
theorem Tryz.lays204 : Go.Proofs.Lays.n204 Tryz.prog Tryz.lays204_ren := {
  mixed := by kernel_rfl
  f204 := Tryz.func157.trans (congrArg some (by kernel_rfl))
  f262 := Tryz.func182.trans (congrArg some (by kernel_rfl))
  f274 := Tryz.func199.trans (congrArg some (by kernel_rfl))
  f275 := Tryz.func200.trans (congrArg some (by kernel_rfl))
  f313 := Tryz.func196.trans (congrArg some (by kernel_rfl))
  t0 := Tryz.underlying0
  a0 := Tryz.isAgg0
  z0 := Tryz.sizeOf0
  v0 := Tryz.zeroValue0
  t3 := Tryz.underlying3
  a3 := Tryz.isAgg3
  z3 := Tryz.sizeOf3
  v3 := Tryz.zeroValue3
  t4 := Tryz.underlying4
  a4 := Tryz.isAgg4
  z4 := Tryz.sizeOf4
  v4 := Tryz.zeroValue4
  t21 := Tryz.underlying21
  a21 := Tryz.isAgg21
  z21 := Tryz.sizeOf21
  v21 := Tryz.zeroValue21
  t46 := Tryz.underlying57
  a46 := Tryz.isAgg57
  z46 := Tryz.sizeOf57
  v46 := Tryz.zeroValue57
  t51 := Tryz.underlying141
  a51 := Tryz.isAgg141
  z51 := Tryz.sizeOf141
  v51 := Tryz.zeroValue141
  t160 := Tryz.underlying191
  a160 := Tryz.isAgg191
  z160 := Tryz.sizeOf191
  v160 := Tryz.zeroValue191
  t162 := Tryz.underlying182
  a162 := Tryz.isAgg182
  z162 := Tryz.sizeOf182
  v162 := Tryz.zeroValue182
  t203 := Tryz.underlying180
  a203 := Tryz.isAgg180
  z203 := Tryz.sizeOf180
  v203 := Tryz.zeroValue180
  t206 := Tryz.underlying199
  a206 := Tryz.isAgg199
  z206 := Tryz.sizeOf199
  v206 := Tryz.zeroValue199
  t208 := Tryz.underlying201
  a208 := Tryz.isAgg201
  z208 := Tryz.sizeOf201
  v208 := Tryz.zeroValue201
  g13 := by kernel_rfl }
open Go.RowKit Go.Lib in
theorem Tryz.unicode_ToLower (r : Int) (w : World) (h : r ≤ 127) :
    Calls Tryz.prog 157 #[.int .i32 r] w fun e w' => e = .returned (.int .i32 (Lib.toLowerR r)) ∧ w' = w := Any.unicode_ToLower Tryz.lays204 r w h
def Tryz.lays197_ren : Go.Shelf.Ren := ⟨fun | 197 => 159 | 260 => 183 | n => n, fun | 9 => 9 | 21 => 21 | 3 => 3 | 4 => 4 | 5 => 5 | 105 => 117 | 119 => 131 | 0 => 0 | 46 => 57 | 139 => 185 | 138 => 184 | n => n, fun | 3 => 2 | 4 => 3 | n => n⟩
theorem Tryz.lays197 : Go.Proofs.Lays.n197 Tryz.prog Tryz.lays197_ren := {
  mixed := by kernel_rfl
  f197 := Tryz.func159.trans (congrArg some (by kernel_rfl))
  f260 := Tryz.func183.trans (congrArg some (by kernel_rfl))
  t0 := Tryz.underlying0
  a0 := Tryz.isAgg0
  z0 := Tryz.sizeOf0
  v0 := Tryz.zeroValue0
  t3 := Tryz.underlying3
  a3 := Tryz.isAgg3
  z3 := Tryz.sizeOf3
  v3 := Tryz.zeroValue3
  t4 := Tryz.underlying4
  a4 := Tryz.isAgg4
  z4 := Tryz.sizeOf4
  v4 := Tryz.zeroValue4
  t5 := Tryz.underlying5
  a5 := Tryz.isAgg5
  z5 := Tryz.sizeOf5
  v5 := Tryz.zeroValue5
  t9 := Tryz.underlying9
  a9 := Tryz.isAgg9
  z9 := Tryz.sizeOf9
  v9 := Tryz.zeroValue9
  t21 := Tryz.underlying21
  a21 := Tryz.isAgg21
  z21 := Tryz.sizeOf21
  v21 := Tryz.zeroValue21
  t46 := Tryz.underlying57
  a46 := Tryz.isAgg57
  z46 := Tryz.sizeOf57
  v46 := Tryz.zeroValue57
  t105 := Tryz.underlying117
  a105 := Tryz.isAgg117
  z105 := Tryz.sizeOf117
  v105 := Tryz.zeroValue117
  t119 := Tryz.underlying131
  a119 := Tryz.isAgg131
  z119 := Tryz.sizeOf131
  t138 := Tryz.underlying184
  a138 := Tryz.isAgg184
  z138 := Tryz.sizeOf184
  v138 := Tryz.zeroValue184
  t139 := Tryz.underlying185
  a139 := Tryz.isAgg185
  z139 := Tryz.sizeOf185
  v139 := Tryz.zeroValue185
  g3 := by kernel_rfl
  g4 := by kernel_rfl }
open Go.RowKit Go.Lib in
theorem Tryz.utf8_DecodeRuneInString_ascii (s : ByteArray) (x : UInt8) (w : World) (h0 : s.data.toList[0]? = some x) (hx : x.toNat < 128) :
    Calls Tryz.prog 159 #[.string s] w fun e w' => e = .returned (.tuple #[.int .i32 x.toNat, .int .i64 1]) ∧ w' = w := Any.utf8_DecodeRuneInString_ascii Tryz.lays197 s x w h0 hx
def Tryz.lays260_ren : Go.Shelf.Ren := ⟨fun | 260 => 183 | n => n, fun | 9 => 9 | 21 => 21 | 3 => 3 | 4 => 4 | 5 => 5 | 119 => 131 | 0 => 0 | 46 => 57 | 139 => 185 | 138 => 184 | n => n, fun | 3 => 2 | 4 => 3 | n => n⟩
theorem Tryz.lays260 : Go.Proofs.Lays.n260 Tryz.prog Tryz.lays260_ren := {
  mixed := by kernel_rfl
  f260 := Tryz.func183.trans (congrArg some (by kernel_rfl))
  t0 := Tryz.underlying0
  a0 := Tryz.isAgg0
  z0 := Tryz.sizeOf0
  v0 := Tryz.zeroValue0
  t3 := Tryz.underlying3
  a3 := Tryz.isAgg3
  z3 := Tryz.sizeOf3
  v3 := Tryz.zeroValue3
  t4 := Tryz.underlying4
  a4 := Tryz.isAgg4
  z4 := Tryz.sizeOf4
  v4 := Tryz.zeroValue4
  t5 := Tryz.underlying5
  a5 := Tryz.isAgg5
  z5 := Tryz.sizeOf5
  v5 := Tryz.zeroValue5
  t9 := Tryz.underlying9
  a9 := Tryz.isAgg9
  z9 := Tryz.sizeOf9
  v9 := Tryz.zeroValue9
  t21 := Tryz.underlying21
  a21 := Tryz.isAgg21
  z21 := Tryz.sizeOf21
  v21 := Tryz.zeroValue21
  t46 := Tryz.underlying57
  a46 := Tryz.isAgg57
  z46 := Tryz.sizeOf57
  v46 := Tryz.zeroValue57
  t119 := Tryz.underlying131
  a119 := Tryz.isAgg131
  z119 := Tryz.sizeOf131
  t138 := Tryz.underlying184
  a138 := Tryz.isAgg184
  z138 := Tryz.sizeOf184
  v138 := Tryz.zeroValue184
  t139 := Tryz.underlying185
  a139 := Tryz.isAgg185
  z139 := Tryz.sizeOf185
  v139 := Tryz.zeroValue185
  g3 := by kernel_rfl
  g4 := by kernel_rfl }
open Go.RowKit Go.Lib in
theorem Tryz.utf8_decodeRuneInStringSlow (s : ByteArray) (w : World) (hT : Lib.Utf8Tabs 2 3 w) :
    Calls Tryz.prog 183 #[.string s] w fun e w' => e = .returned (.tuple #[.int .i32 (Lib.decodeGo s).1, .int .i64 (Lib.decodeGo s).2]) ∧ Below w.heap.size w w' := Any.utf8_decodeRuneInStringSlow Tryz.lays260 s w hT
def Tryz.lays274_ren : Go.Shelf.Ren := ⟨fun | 274 => 199 | n => n, fun | 21 => 21 | 162 => 182 | 160 => 191 | 3 => 3 | 4 => 4 | 46 => 57 | 0 => 0 | 208 => 201 | 51 => 141 | 206 => 199 | n => n, fun | n => n⟩
theorem Tryz.lays274 : Go.Proofs.Lays.n274 Tryz.prog Tryz.lays274_ren := {
  mixed := by kernel_rfl
  f274 := Tryz.func199.trans (congrArg some (by kernel_rfl))
  t0 := Tryz.underlying0
  a0 := Tryz.isAgg0
  z0 := Tryz.sizeOf0
  v0 := Tryz.zeroValue0
  t3 := Tryz.underlying3
  a3 := Tryz.isAgg3
  z3 := Tryz.sizeOf3
  v3 := Tryz.zeroValue3
  t4 := Tryz.underlying4
  a4 := Tryz.isAgg4
  z4 := Tryz.sizeOf4
  v4 := Tryz.zeroValue4
  t21 := Tryz.underlying21
  a21 := Tryz.isAgg21
  z21 := Tryz.sizeOf21
  v21 := Tryz.zeroValue21
  t46 := Tryz.underlying57
  a46 := Tryz.isAgg57
  z46 := Tryz.sizeOf57
  v46 := Tryz.zeroValue57
  t51 := Tryz.underlying141
  a51 := Tryz.isAgg141
  z51 := Tryz.sizeOf141
  v51 := Tryz.zeroValue141
  t160 := Tryz.underlying191
  a160 := Tryz.isAgg191
  z160 := Tryz.sizeOf191
  v160 := Tryz.zeroValue191
  t162 := Tryz.underlying182
  a162 := Tryz.isAgg182
  z162 := Tryz.sizeOf182
  v162 := Tryz.zeroValue182
  t208 := Tryz.underlying201
  a208 := Tryz.isAgg201
  z208 := Tryz.sizeOf201
  v208 := Tryz.zeroValue201 }
open Go.RowKit Go.Lib in
theorem Tryz.unicode_lookupCaseRange (T : Array CaseRow) (R oR cap : Nat) (r : Int) (w : World) (hT : CaseTab R oR T w) (hok : CaseOk T) (hn : T.size ≤ 1000000000) :
    Calls Tryz.prog 199 #[.int .i32 r, .slice (some ⟨R, oR, none⟩) T.size cap] w fun e w' =>
      e = .returned (match lookupIdx T r (T.size + 1) 0 T.size with | some i => .pointer (some ⟨R, oR + i * 5, none⟩) | none => .pointer none) ∧ w' = w := Any.unicode_lookupCaseRange Tryz.lays274 T R oR cap r w hT hok hn
def Tryz.lays275_ren : Go.Shelf.Ren := ⟨fun | 275 => 200 | n => n, fun | 3 => 3 | 21 => 21 | 160 => 191 | 0 => 0 | 208 => 201 | 206 => 199 | 4 => 4 | 51 => 141 | n => n, fun | n => n⟩
theorem Tryz.lays275 : Go.Proofs.Lays.n275 Tryz.prog Tryz.lays275_ren := {
  mixed := by kernel_rfl
  f275 := Tryz.func200.trans (congrArg some (by kernel_rfl))
  t0 := Tryz.underlying0
  a0 := Tryz.isAgg0
  z0 := Tryz.sizeOf0
  v0 := Tryz.zeroValue0
  t3 := Tryz.underlying3
  a3 := Tryz.isAgg3
  z3 := Tryz.sizeOf3
  v3 := Tryz.zeroValue3
  t4 := Tryz.underlying4
  a4 := Tryz.isAgg4
  z4 := Tryz.sizeOf4
  v4 := Tryz.zeroValue4
  t21 := Tryz.underlying21
  a21 := Tryz.isAgg21
  z21 := Tryz.sizeOf21
  v21 := Tryz.zeroValue21
  t51 := Tryz.underlying141
  a51 := Tryz.isAgg141
  z51 := Tryz.sizeOf141
  v51 := Tryz.zeroValue141
  t160 := Tryz.underlying191
  a160 := Tryz.isAgg191
  z160 := Tryz.sizeOf191
  v160 := Tryz.zeroValue191
  t206 := Tryz.underlying199
  a206 := Tryz.isAgg199
  z206 := Tryz.sizeOf199
  v206 := Tryz.zeroValue199
  t208 := Tryz.underlying201
  a208 := Tryz.isAgg201
  z208 := Tryz.sizeOf201
  v208 := Tryz.zeroValue201 }
open Go.RowKit Go.Lib in
theorem Tryz.unicode_convertCase (c : Nat) (hc : c < 3) (r : Int) (A o : Nat) (x : CaseRow) (w : World) (hlo : (x.1 : Int) ≤ r) (hhi : r ≤ (x.2.1 : Int)) (hH : x.2.1 < 2147483647) (c0 : w.cell? ⟨A, o, none⟩ = some (.int .u32 x.1)) (cD : w.cell? ⟨A, o + 2 + c, none⟩ = some (.int .i32 (x.delta c))) :
    Calls Tryz.prog 200 #[.int .i64 c, .int .i32 r, .pointer (some ⟨A, o, none⟩)] w fun e w' => e = .returned (.int .i32 (wrap32 (convertR c r x))) ∧ ∃ q, w' = w.drewN q := Any.unicode_convertCase Tryz.lays275 c hc r A o x w hlo hhi hH c0 cD
def Tryz.lays313_ren : Go.Shelf.Ren := ⟨fun | 313 => 196 | 274 => 199 | 275 => 200 | n => n, fun | 3 => 3 | 21 => 21 | 162 => 182 | 4 => 4 | 160 => 191 | 46 => 57 | 0 => 0 | 208 => 201 | 51 => 141 | 206 => 199 | n => n, fun | n => n⟩
theorem Tryz.lays313 : Go.Proofs.Lays.n313 Tryz.prog Tryz.lays313_ren := {
  mixed := by kernel_rfl
  f274 := Tryz.func199.trans (congrArg some (by kernel_rfl))
  f275 := Tryz.func200.trans (congrArg some (by kernel_rfl))
  f313 := Tryz.func196.trans (congrArg some (by kernel_rfl))
  t0 := Tryz.underlying0
  a0 := Tryz.isAgg0
  z0 := Tryz.sizeOf0
  v0 := Tryz.zeroValue0
  t3 := Tryz.underlying3
  a3 := Tryz.isAgg3
  z3 := Tryz.sizeOf3
  v3 := Tryz.zeroValue3
  t4 := Tryz.underlying4
  a4 := Tryz.isAgg4
  z4 := Tryz.sizeOf4
  v4 := Tryz.zeroValue4
  t21 := Tryz.underlying21
  a21 := Tryz.isAgg21
  z21 := Tryz.sizeOf21
  v21 := Tryz.zeroValue21
  t46 := Tryz.underlying57
  a46 := Tryz.isAgg57
  z46 := Tryz.sizeOf57
  v46 := Tryz.zeroValue57
  t51 := Tryz.underlying141
  a51 := Tryz.isAgg141
  z51 := Tryz.sizeOf141
  v51 := Tryz.zeroValue141
  t160 := Tryz.underlying191
  a160 := Tryz.isAgg191
  z160 := Tryz.sizeOf191
  v160 := Tryz.zeroValue191
  t162 := Tryz.underlying182
  a162 := Tryz.isAgg182
  z162 := Tryz.sizeOf182
  v162 := Tryz.zeroValue182
  t206 := Tryz.underlying199
  a206 := Tryz.isAgg199
  z206 := Tryz.sizeOf199
  v206 := Tryz.zeroValue199
  t208 := Tryz.underlying201
  a208 := Tryz.isAgg201
  z208 := Tryz.sizeOf201
  v208 := Tryz.zeroValue201 }
open Go.RowKit Go.Lib in
theorem Tryz.unicode_to (c : Nat) (hc : c < 3) (r : Int) (T : Array CaseRow) (R oR cap : Nat) (w : World) (hT : CaseTab R oR T w) (hok : CaseOk2 T) (hn : T.size ≤ 1000000000) :
    Calls Tryz.prog 196 #[.int .i64 c, .int .i32 r, .slice (some ⟨R, oR, none⟩) T.size cap] w fun e w' => e = .returned (.tuple #[.int .i32 (toW T c r), .bool (lookupIdx T r (T.size + 1) 0 T.size).isSome]) ∧ ∃ q, w' = w.drewN q := Any.unicode_to Tryz.lays313 c hc r T R oR cap w hT hok hn
def Tryz.lays262_ren : Go.Shelf.Ren := ⟨fun | 262 => 182 | 313 => 196 | 274 => 199 | 275 => 200 | n => n, fun | 3 => 3 | 21 => 21 | 162 => 182 | 203 => 180 | 4 => 4 | 160 => 191 | 46 => 57 | 0 => 0 | 208 => 201 | 51 => 141 | 206 => 199 | n => n, fun | 13 => 1 | n => n⟩
theorem Tryz.lays262 : Go.Proofs.Lays.n262 Tryz.prog Tryz.lays262_ren := {
  mixed := by kernel_rfl
  f262 := Tryz.func182.trans (congrArg some (by kernel_rfl))
  f274 := Tryz.func199.trans (congrArg some (by kernel_rfl))
  f275 := Tryz.func200.trans (congrArg some (by kernel_rfl))
  f313 := Tryz.func196.trans (congrArg some (by kernel_rfl))
  t0 := Tryz.underlying0
  a0 := Tryz.isAgg0
  z0 := Tryz.sizeOf0
  v0 := Tryz.zeroValue0
  t3 := Tryz.underlying3
  a3 := Tryz.isAgg3
  z3 := Tryz.sizeOf3
  v3 := Tryz.zeroValue3
  t4 := Tryz.underlying4
  a4 := Tryz.isAgg4
  z4 := Tryz.sizeOf4
  v4 := Tryz.zeroValue4
  t21 := Tryz.underlying21
  a21 := Tryz.isAgg21
  z21 := Tryz.sizeOf21
  v21 := Tryz.zeroValue21
  t46 := Tryz.underlying57
  a46 := Tryz.isAgg57
  z46 := Tryz.sizeOf57
  v46 := Tryz.zeroValue57
  t51 := Tryz.underlying141
  a51 := Tryz.isAgg141
  z51 := Tryz.sizeOf141
  v51 := Tryz.zeroValue141
  t160 := Tryz.underlying191
  a160 := Tryz.isAgg191
  z160 := Tryz.sizeOf191
  v160 := Tryz.zeroValue191
  t162 := Tryz.underlying182
  a162 := Tryz.isAgg182
  z162 := Tryz.sizeOf182
  v162 := Tryz.zeroValue182
  t203 := Tryz.underlying180
  a203 := Tryz.isAgg180
  z203 := Tryz.sizeOf180
  v203 := Tryz.zeroValue180
  t206 := Tryz.underlying199
  a206 := Tryz.isAgg199
  z206 := Tryz.sizeOf199
  v206 := Tryz.zeroValue199
  t208 := Tryz.underlying201
  a208 := Tryz.isAgg201
  z208 := Tryz.sizeOf201
  v208 := Tryz.zeroValue201
  g13 := by kernel_rfl }
open Go.RowKit Go.Lib in
theorem Tryz.unicode_To (c : Nat) (hc : c < 3) (r : Int) (T : Array CaseRow) (w : World) (hV : CaseVar 1 T w) (hok : CaseOk2 T) (hn : T.size ≤ 1000000000) :
    Calls Tryz.prog 182 #[.int .i64 c, .int .i32 r] w fun e w' => e = .returned (.int .i32 (toW T c r)) ∧ ∃ q, w' = w.drewN q := Any.unicode_To Tryz.lays262 c hc r T w hV hok hn
open Go.RowKit Go.Lib in
theorem Tryz.unicode_ToLower_any (r : Int) (T : Array CaseRow) (w : World) (hV : CaseVar 1 T w) (hok : CaseOk2 T) (hn : T.size ≤ 1000000000) :
    Calls Tryz.prog 157 #[.int .i32 r] w fun e w' => e = .returned (.int .i32 (Lib.toLowerW T r)) ∧ ∃ q, w' = w.drewN q := Any.unicode_ToLower_any Tryz.lays204 r T w hV hok hn
open Go.RowKit Go.Lib in
theorem Tryz.unicode_ToUpper_any (r : Int) (T : Array CaseRow) (w : World) (hV : CaseVar 1 T w) (hok : CaseOk2 T) (hn : T.size ≤ 1000000000) :
    Calls Tryz.prog 158 #[.int .i32 r] w fun e w' => e = .returned (.int .i32 (Lib.toUpperW T r)) ∧ ∃ q, w' = w.drewN q := Any.unicode_ToUpper_any Tryz.lays203 r T w hV hok hn
open Go.RowKit Go.Lib in
theorem Tryz.unicode_ToLower_laid (r : Int) (w : World) (hV : CaseVar 1 caseA w) :
    Calls Tryz.prog 157 #[.int .i32 r] w fun e w' => e = .returned (.int .i32 (toLowerU r)) ∧ ∃ q, w' = w.drewN q := Any.unicode_ToLower_laid Tryz.lays204 r w hV
open Go.RowKit Go.Lib in
theorem Tryz.unicode_ToUpper_laid (r : Int) (w : World) (hV : CaseVar 1 caseA w) :
    Calls Tryz.prog 158 #[.int .i32 r] w fun e w' => e = .returned (.int .i32 (toUpperU r)) ∧ ∃ q, w' = w.drewN q := Any.unicode_ToUpper_laid Tryz.lays203 r w hV
def Tryz.laysPa41_ren : Go.Shelf.Ren := ⟨fun | 41 => 172 | n => n, fun | 3 => 3 | n => n, fun | n => n⟩
theorem Tryz.laysPa41 : Go.Proofs.Lays.p41 Tryz.prog Tryz.laysPa41_ren := {
  mixed := by kernel_rfl
  f41 := Tryz.func172.trans (congrArg some (by kernel_rfl))
  t3 := Tryz.underlying3
  a3 := Tryz.isAgg3
  z3 := Tryz.sizeOf3
  v3 := Tryz.zeroValue3 }
open Go.RowKit Go.Lib in
theorem Tryz.hex_EncodedLen (n : Int) (h0 : 0 ≤ n) (h1 : n < 4611686018427387904) (w : World) :
    Calls Tryz.prog 172 #[.int .i64 n] w fun e w' => e = .returned (.int .i64 (n * 2)) ∧ w' = w := Any.hex_EncodedLen Tryz.laysPa41 n h0 h1 w
def Tryz.laysPa42_ren : Go.Shelf.Ren := ⟨fun | 42 => 150 | n => n, fun | 3 => 3 | n => n, fun | n => n⟩
theorem Tryz.laysPa42 : Go.Proofs.Lays.p42 Tryz.prog Tryz.laysPa42_ren := {
  mixed := by kernel_rfl
  f42 := Tryz.func150.trans (congrArg some (by kernel_rfl))
  t3 := Tryz.underlying3
  a3 := Tryz.isAgg3
  z3 := Tryz.sizeOf3
  v3 := Tryz.zeroValue3 }
open Go.RowKit Go.Lib in
theorem Tryz.hex_DecodedLen (x : Int) (h0 : 0 ≤ x) (h1 : x < 9223372036854775808) (w : World) :
    Calls Tryz.prog 150 #[.int .i64 x] w fun e w' => e = .returned (.int .i64 (x / 2)) ∧ w' = w := Any.hex_DecodedLen Tryz.laysPa42 x h0 h1 w
def Tryz.laysPa40_ren : Go.Shelf.Ren := ⟨fun | 40 => 173 | n => n, fun | 30 => 58 | 3 => 3 | 0 => 0 | 5 => 5 | 46 => 57 | 9 => 9 | n => n, fun | n => n⟩
theorem Tryz.laysPa40 : Go.Proofs.Lays.p40 Tryz.prog Tryz.laysPa40_ren := {
  mixed := by kernel_rfl
  f40 := Tryz.func173.trans (congrArg some (by kernel_rfl))
  t0 := Tryz.underlying0
  a0 := Tryz.isAgg0
  z0 := Tryz.sizeOf0
  v0 := Tryz.zeroValue0
  t3 := Tryz.underlying3
  a3 := Tryz.isAgg3
  z3 := Tryz.sizeOf3
  v3 := Tryz.zeroValue3
  t5 := Tryz.underlying5
  a5 := Tryz.isAgg5
  z5 := Tryz.sizeOf5
  v5 := Tryz.zeroValue5
  t9 := Tryz.underlying9
  a9 := Tryz.isAgg9
  z9 := Tryz.sizeOf9
  v9 := Tryz.zeroValue9
  t30 := Tryz.underlying58
  a30 := Tryz.isAgg58
  z30 := Tryz.sizeOf58
  v30 := Tryz.zeroValue58
  t46 := Tryz.underlying57
  a46 := Tryz.isAgg57
  z46 := Tryz.sizeOf57
  v46 := Tryz.zeroValue57 }
open Go.RowKit Go.Lib in
theorem Tryz.hex_Encode (bd od nd cd N : Nat) (f : Nat → Value) (bs os n cs : Nat) (xs : List Int) (w : World) (hx : xs.length = n) (hr : ∀ i, i < n → 0 ≤ xs.getD i 0 ∧ xs.getD i 0 < 256) (hsrc : ∀ i, i < n → w.cell? ⟨bs, os + i, none⟩ = some (.int .u8 (xs.getD i 0))) (hrow : w.rowIs bd 5 N f) (hfit : od + nd ≤ N) (hlen : 2 * n ≤ nd) (hne : bd ≠ bs) (hbig : n ≤ 4611686018427387903) :
    Calls Tryz.prog 173 #[.slice (some ⟨bd, od, none⟩) nd cd, .slice (some ⟨bs, os, none⟩) n cs] w fun e w' => e = .returned (.int .i64 ((n : Int) * 2)) ∧ w'.rowIs bd 5 N (Hx.row f od (Lib.bytesOf xs) n) ∧ w.grownBy w' (some bd) := Any.hex_Encode Tryz.laysPa40 bd od nd cd N f bs os n cs xs w hx hr hsrc hrow hfit hlen hne hbig
def Tryz.laysPah39_ren : Go.Shelf.Ren := ⟨fun | 39 => 140 | 41 => 172 | 40 => 173 | n => n, fun | 30 => 58 | 9 => 9 | 3 => 3 | 0 => 0 | 5 => 5 | 46 => 57 | n => n, fun | n => n⟩
theorem Tryz.laysPah39 : Go.Proofs.Lays.ph39 Tryz.prog Tryz.laysPah39_ren := {
  mixed := by kernel_rfl
  f39 := Tryz.func140.trans (congrArg some (by kernel_rfl))
  f40 := Tryz.func173.trans (congrArg some (by kernel_rfl))
  f41 := Tryz.func172.trans (congrArg some (by kernel_rfl))
  t0 := Tryz.underlying0
  a0 := Tryz.isAgg0
  z0 := Tryz.sizeOf0
  v0 := Tryz.zeroValue0
  t3 := Tryz.underlying3
  a3 := Tryz.isAgg3
  z3 := Tryz.sizeOf3
  v3 := Tryz.zeroValue3
  t5 := Tryz.underlying5
  a5 := Tryz.isAgg5
  z5 := Tryz.sizeOf5
  v5 := Tryz.zeroValue5
  t9 := Tryz.underlying9
  a9 := Tryz.isAgg9
  z9 := Tryz.sizeOf9
  v9 := Tryz.zeroValue9
  t30 := Tryz.underlying58
  a30 := Tryz.isAgg58
  z30 := Tryz.sizeOf58
  v30 := Tryz.zeroValue58
  t46 := Tryz.underlying57
  a46 := Tryz.isAgg57
  z46 := Tryz.sizeOf57
  v46 := Tryz.zeroValue57
  info5 := by kernel_rfl }
open Go.RowKit Go.Lib in
theorem Tryz.hex_EncodeToString (bs os n cs : Nat) (xs : List Int) (w : World) (hx : xs.length = n) (hr : ∀ i, i < n → 0 ≤ xs.getD i 0 ∧ xs.getD i 0 < 256) (hsrc : ∀ i, i < n → w.cell? ⟨bs, os + i, none⟩ = some (.int .u8 (xs.getD i 0))) (hb : bs < w.heap.size) (hbig : 2 * n ≤ 281474976710656) :
    Calls Tryz.prog 140 #[.slice (some ⟨bs, os, none⟩) n cs] w fun e w' => e = .returned (.string ⟨(Hx.encode (Lib.bytesOf xs)).toArray⟩) ∧ Below w.heap.size w w' := Any.hex_EncodeToString Tryz.laysPah39 bs os n cs xs w hx hr hsrc hb hbig
open Go.RowKit Go.Lib in
theorem Tryz.hex_Encode_nil (dst : Value) (w : World) :
    Calls Tryz.prog 173 #[dst, .slice none 0 0] w fun e w' => e = .returned (.int .i64 0) ∧ w' = w := Any.hex_Encode_nil Tryz.laysPa40 dst w
open Go.RowKit Go.Lib in
theorem Tryz.hex_EncodeToString_nil (w : World) :
    Calls Tryz.prog 140 #[.slice none 0 0] w fun e w' => e = .returned (.string ⟨#[]⟩) ∧ Below w.heap.size w w' := Any.hex_EncodeToString_nil Tryz.laysPah39 w
def Tryz.laysPa44_ren : Go.Shelf.Ren := ⟨fun | 44 => 151 | n => n, fun | 30 => 58 | 3 => 3 | 35 => 51 | 4 => 4 | 0 => 0 | 5 => 5 | 9 => 9 | 47 => 143 | 46 => 57 | 45 => 113 | n => n, fun | 0 => 0 | n => n⟩
theorem Tryz.laysPa44 : Go.Proofs.Lays.p44 Tryz.prog Tryz.laysPa44_ren := {
  mixed := by kernel_rfl
  f44 := Tryz.func151.trans (congrArg some (by kernel_rfl))
  t0 := Tryz.underlying0
  a0 := Tryz.isAgg0
  z0 := Tryz.sizeOf0
  v0 := Tryz.zeroValue0
  t3 := Tryz.underlying3
  a3 := Tryz.isAgg3
  z3 := Tryz.sizeOf3
  v3 := Tryz.zeroValue3
  t4 := Tryz.underlying4
  a4 := Tryz.isAgg4
  z4 := Tryz.sizeOf4
  v4 := Tryz.zeroValue4
  t5 := Tryz.underlying5
  a5 := Tryz.isAgg5
  z5 := Tryz.sizeOf5
  v5 := Tryz.zeroValue5
  t9 := Tryz.underlying9
  a9 := Tryz.isAgg9
  z9 := Tryz.sizeOf9
  v9 := Tryz.zeroValue9
  t30 := Tryz.underlying58
  a30 := Tryz.isAgg58
  z30 := Tryz.sizeOf58
  v30 := Tryz.zeroValue58
  t35 := Tryz.underlying51
  a35 := Tryz.isAgg51
  z35 := Tryz.sizeOf51
  v35 := Tryz.zeroValue51
  t45 := Tryz.underlying113
  a45 := Tryz.isAgg113
  z45 := Tryz.sizeOf113
  v45 := Tryz.zeroValue113
  t46 := Tryz.underlying57
  a46 := Tryz.isAgg57
  z46 := Tryz.sizeOf57
  v46 := Tryz.zeroValue57
  t47 := Tryz.underlying143
  a47 := Tryz.isAgg143
  z47 := Tryz.sizeOf143
  v47 := Tryz.zeroValue143
  g0 := by kernel_rfl }
open Go.RowKit Go.Lib in
theorem Tryz.hex_Decode (bd od nd cd N : Nat) (f : Nat → Value) (bs os n cs : Nat) (xs : List Int) (w : World) (ev : Value) (hx : xs.length = n) (hr : ∀ i, i < n → 0 ≤ xs.getD i 0 ∧ xs.getD i 0 < 256) (hsrc : ∀ i, i < n → w.cell? ⟨bs, os + i, none⟩ = some (.int .u8 (xs.getD i 0))) (hrow : w.rowIs bd 5 N f) (hfit : od + nd ≤ N) (hlen : n / 2 ≤ nd) (hne : bd ≠ bs) (hbig : n ≤ 4611686018427387903) (hE : w.cell? ⟨0, 0, none⟩ = some ev) (hgb : 0 ≠ bd) :
    Calls Tryz.prog 151 #[.slice (some ⟨bd, od, none⟩) nd cd, .slice (some ⟨bs, os, none⟩) n cs] w fun e w' =>
      e = .returned (.tuple #[.int .i64 ((Hx.decode (Lib.bytesOf xs)).1.length : Int), Hx.errVal 143 ev (Hx.decode (Lib.bytesOf xs)).2]) ∧ w'.rowIs bd 5 N (Hx.rowP f od (Hx.decode (Lib.bytesOf xs)).1) ∧ w.grownBy w' (some bd) := Any.hex_Decode Tryz.laysPa44 bd od nd cd N f bs os n cs xs w ev hx hr hsrc hrow hfit hlen hne hbig hE hgb
def Tryz.laysPah43_ren : Go.Shelf.Ren := ⟨fun | 43 => 118 | 42 => 150 | 44 => 151 | n => n, fun | 9 => 9 | 30 => 58 | 35 => 51 | 3 => 3 | 38 => 90 | 4 => 4 | 0 => 0 | 5 => 5 | 47 => 143 | 46 => 57 | 45 => 113 | n => n, fun | 0 => 0 | n => n⟩
theorem Tryz.laysPah43 : Go.Proofs.Lays.ph43 Tryz.prog Tryz.laysPah43_ren := {
  mixed := by kernel_rfl
  f42 := Tryz.func150.trans (congrArg some (by kernel_rfl))
  f43 := Tryz.func118.trans (congrArg some (by kernel_rfl))
  f44 := Tryz.func151.trans (congrArg some (by kernel_rfl))
  t0 := Tryz.underlying0
  a0 := Tryz.isAgg0
  z0 := Tryz.sizeOf0
  v0 := Tryz.zeroValue0
  t3 := Tryz.underlying3
  a3 := Tryz.isAgg3
  z3 := Tryz.sizeOf3
  v3 := Tryz.zeroValue3
  t4 := Tryz.underlying4
  a4 := Tryz.isAgg4
  z4 := Tryz.sizeOf4
  v4 := Tryz.zeroValue4
  t5 := Tryz.underlying5
  a5 := Tryz.isAgg5
  z5 := Tryz.sizeOf5
  v5 := Tryz.zeroValue5
  t9 := Tryz.underlying9
  a9 := Tryz.isAgg9
  z9 := Tryz.sizeOf9
  v9 := Tryz.zeroValue9
  t30 := Tryz.underlying58
  a30 := Tryz.isAgg58
  z30 := Tryz.sizeOf58
  v30 := Tryz.zeroValue58
  t35 := Tryz.underlying51
  a35 := Tryz.isAgg51
  z35 := Tryz.sizeOf51
  v35 := Tryz.zeroValue51
  t38 := Tryz.underlying90
  a38 := Tryz.isAgg90
  z38 := Tryz.sizeOf90
  v38 := Tryz.zeroValue90
  t45 := Tryz.underlying113
  a45 := Tryz.isAgg113
  z45 := Tryz.sizeOf113
  v45 := Tryz.zeroValue113
  t46 := Tryz.underlying57
  a46 := Tryz.isAgg57
  z46 := Tryz.sizeOf57
  v46 := Tryz.zeroValue57
  t47 := Tryz.underlying143
  a47 := Tryz.isAgg143
  z47 := Tryz.sizeOf143
  v47 := Tryz.zeroValue143
  g0 := by kernel_rfl
  info5 := by kernel_rfl }
open Go.RowKit Go.Lib in
theorem Tryz.hex_DecodeString (s : ByteArray) (w : World) (ev : Value) (hE : w.cell? ⟨0, 0, none⟩ = some ev) (hbig : s.size ≤ 281474976710656) :
    Calls Tryz.prog 118 #[.string s] w fun e w' =>
      e = .returned (.tuple #[.slice (some ⟨w.heap.size, 0, none⟩) (Hx.decode s.data.toList).1.length (s.size / 2), Hx.errVal 143 ev (Hx.decode s.data.toList).2]) ∧
      w'.rowIs w.heap.size 5 (s.size / 2) (Hx.rowP (fun _ => .int .u8 0) 0 (Hx.decode s.data.toList).1) ∧ Below w.heap.size w w' := Any.hex_DecodeString Tryz.laysPah43 s w ev hE hbig
open Go.RowKit Go.Lib in
theorem Tryz.hex_DecodeString_owns (s : ByteArray) (w : World) (ev : Value) (hE : w.cell? ⟨0, 0, none⟩ = some ev) (hbig : s.size ≤ 281474976710656) :
    Calls Tryz.prog 118 #[.string s] w fun e w' => ∃ v, e = .returned (.tuple #[v, Hx.errVal 143 ev (Hx.decode s.data.toList).2]) ∧
      w'.ownsRow w.heap.size 5 1 v (Hx.decode s.data.toList).1.length ((Hx.decode s.data.toList).1.map fun b => Value.int .u8 (b.toNat : Int)) ∧ Below w.heap.size w w' := Any.hex_DecodeString_owns Tryz.laysPah43 s w ev hE hbig
open Go.RowKit Go.Lib in
theorem Tryz.hex_Decode_nil (dst : Value) (w : World) :
    Calls Tryz.prog 151 #[dst, .slice none 0 0] w fun e w' => e = .returned (.tuple #[.int .i64 0, .nilIface]) ∧ w' = w := Any.hex_Decode_nil Tryz.laysPa44 dst w
open Go.RowKit Go.Lib in
theorem Tryz.hex_EncodeToString_bytes (bs os cs : Nat) (l : List UInt8) (w : World) (hsrc : ∀ i (h : i < l.length), w.cell? ⟨bs, os + i, none⟩ = some (.int .u8 ((l[i]'h).toNat : Int))) (hb : bs < w.heap.size) (hbig : 2 * l.length ≤ 281474976710656) :
    Calls Tryz.prog 140 #[.slice (some ⟨bs, os, none⟩) l.length cs] w fun e w' => e = .returned (.string ⟨(Hx.encode l).toArray⟩) ∧ Below w.heap.size w w' := Any.hex_EncodeToString_bytes Tryz.laysPah39 bs os cs l w hsrc hb hbig
end Go.Proofs
