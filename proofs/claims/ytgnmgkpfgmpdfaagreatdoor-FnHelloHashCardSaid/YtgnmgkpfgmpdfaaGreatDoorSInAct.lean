/- sha256.blockGeneric: the frame in the inner loop, told slot by slot. -/
import Derived.Test.YtgnmgkpfgmpdfaaGreatDoorSChg
import Derived.KernelRfl
set_option linter.unusedVariables false
set_option linter.unusedSimpArgs false
namespace Go.Proofs.YtgnmgkpfgmpdfaaGreatDoor
open Go.RowKit

def firstLoop : Code → Option Code
  | .loop c => some c
  | .seq a b => match firstLoop a with
    | some c => some c
    | none => firstLoop b
  | .block _ c => firstLoop c
  | .scope c => firstLoop c
  | .cond _ a b => match firstLoop a with
    | some c => some c
    | none => firstLoop b
  | _ => none
/-- The loops' bodies. -/
noncomputable def outBody : Code := ((Tryz.f126.body.bind firstLoop).getD .skip)
noncomputable def inBody : Code := (((Tryz.f126.body.bind firstLoop).bind firstLoop).getD .skip)
/-- The frame in the inner loop: the state h at the block's begin, the count k, the state s. -/
structure InAct (g b off nn cc B : Nat) (h : St8) (k : Nat) (s : St8) (a : Act) : Prop where
  df : a.defers = []
  sz : a.tmps.size = 283
  e0 : a.tmps.getD 0 undef = .pointer (some ⟨g, 0, none⟩)
  e1 : a.tmps.getD 1 undef = .slice (some ⟨b, off, none⟩) nn cc
  e4 : a.tmps.getD 4 undef = .pointer (some ⟨B, 0, none⟩)
  e5 : a.tmps.getD 5 undef = .int .u32 h.a
  e6 : a.tmps.getD 6 undef = .int .u32 h.b
  e7 : a.tmps.getD 7 undef = .int .u32 h.c
  e8 : a.tmps.getD 8 undef = .int .u32 h.d
  e9 : a.tmps.getD 9 undef = .int .u32 h.e
  e10 : a.tmps.getD 10 undef = .int .u32 h.f
  e11 : a.tmps.getD 11 undef = .int .u32 h.g
  e12 : a.tmps.getD 12 undef = .int .u32 h.h
  e13 : a.tmps.getD 13 undef = .int .u32 s.a
  e14 : a.tmps.getD 14 undef = .int .u32 s.b
  e15 : a.tmps.getD 15 undef = .int .u32 s.c
  e16 : a.tmps.getD 16 undef = .int .u32 s.d
  e17 : a.tmps.getD 17 undef = .int .u32 s.e
  e18 : a.tmps.getD 18 undef = .int .u32 s.f
  e19 : a.tmps.getD 19 undef = .int .u32 s.g
  e20 : a.tmps.getD 20 undef = .int .u32 s.h
  e80 : a.tmps.getD 80 undef = .int .i64 (k : Int)
/-- What a round leaves: the frame a count on, one word laid. -/
def RoundK (g b off nn cc B : Nat) (h : St8) (k : Nat) (s : St8) (v : Int) (w : World) (a : Act) (w1 : World) : Prop :=
  InAct g b off nn cc B h (k + 1) s a ∧ w1 = World.drew (World.drew (w.setCell ⟨B, k, none⟩ (.int .u32 v)))
theorem cell_far {w : World} {B k g j : Nat} {v : Value} (h : w.cell? ⟨g, j, none⟩ = some v) (hne : B ≠ g) (u : Value) : (w.setCell ⟨B, k, none⟩ u).cell? ⟨g, j, none⟩ = some v := by
  have := Below.heap_setCell w ⟨B, k, none⟩ u g (Ne.symm hne)
  simp only [World.cell?] at h ⊢
  rw [this]
  exact h
theorem arr_of (n : Nat) (t : Array Value) (h : t.size = n) : t = ((List.range n).map fun i => t.getD i undef).toArray := by
  apply Array.ext
  · simp [h]
  · intro i h1 h2
    simp [h1]
set_option maxRecDepth 1000000 in
theorem frame283 (t : Array Value) (h : t.size = 283) : t = #[t.getD 0 undef, t.getD 1 undef, t.getD 2 undef, t.getD 3 undef, t.getD 4 undef, t.getD 5 undef, t.getD 6 undef, t.getD 7 undef, t.getD 8 undef, t.getD 9 undef, t.getD 10 undef, t.getD 11 undef, t.getD 12 undef, t.getD 13 undef, t.getD 14 undef, t.getD 15 undef, t.getD 16 undef, t.getD 17 undef, t.getD 18 undef, t.getD 19 undef, t.getD 20 undef, t.getD 21 undef, t.getD 22 undef, t.getD 23 undef, t.getD 24 undef, t.getD 25 undef, t.getD 26 undef, t.getD 27 undef, t.getD 28 undef, t.getD 29 undef, t.getD 30 undef, t.getD 31 undef, t.getD 32 undef, t.getD 33 undef, t.getD 34 undef, t.getD 35 undef, t.getD 36 undef, t.getD 37 undef, t.getD 38 undef, t.getD 39 undef, t.getD 40 undef, t.getD 41 undef, t.getD 42 undef, t.getD 43 undef, t.getD 44 undef, t.getD 45 undef, t.getD 46 undef, t.getD 47 undef, t.getD 48 undef, t.getD 49 undef, t.getD 50 undef, t.getD 51 undef, t.getD 52 undef, t.getD 53 undef, t.getD 54 undef, t.getD 55 undef, t.getD 56 undef, t.getD 57 undef, t.getD 58 undef, t.getD 59 undef, t.getD 60 undef, t.getD 61 undef, t.getD 62 undef, t.getD 63 undef, t.getD 64 undef, t.getD 65 undef, t.getD 66 undef, t.getD 67 undef, t.getD 68 undef, t.getD 69 undef, t.getD 70 undef, t.getD 71 undef, t.getD 72 undef, t.getD 73 undef, t.getD 74 undef, t.getD 75 undef, t.getD 76 undef, t.getD 77 undef, t.getD 78 undef, t.getD 79 undef, t.getD 80 undef, t.getD 81 undef, t.getD 82 undef, t.getD 83 undef, t.getD 84 undef, t.getD 85 undef, t.getD 86 undef, t.getD 87 undef, t.getD 88 undef, t.getD 89 undef, t.getD 90 undef, t.getD 91 undef, t.getD 92 undef, t.getD 93 undef, t.getD 94 undef, t.getD 95 undef, t.getD 96 undef, t.getD 97 undef, t.getD 98 undef, t.getD 99 undef, t.getD 100 undef, t.getD 101 undef, t.getD 102 undef, t.getD 103 undef, t.getD 104 undef, t.getD 105 undef, t.getD 106 undef, t.getD 107 undef, t.getD 108 undef, t.getD 109 undef, t.getD 110 undef, t.getD 111 undef, t.getD 112 undef, t.getD 113 undef, t.getD 114 undef, t.getD 115 undef, t.getD 116 undef, t.getD 117 undef, t.getD 118 undef, t.getD 119 undef, t.getD 120 undef, t.getD 121 undef, t.getD 122 undef, t.getD 123 undef, t.getD 124 undef, t.getD 125 undef, t.getD 126 undef, t.getD 127 undef, t.getD 128 undef, t.getD 129 undef, t.getD 130 undef, t.getD 131 undef, t.getD 132 undef, t.getD 133 undef, t.getD 134 undef, t.getD 135 undef, t.getD 136 undef, t.getD 137 undef, t.getD 138 undef, t.getD 139 undef, t.getD 140 undef, t.getD 141 undef, t.getD 142 undef, t.getD 143 undef, t.getD 144 undef, t.getD 145 undef, t.getD 146 undef, t.getD 147 undef, t.getD 148 undef, t.getD 149 undef, t.getD 150 undef, t.getD 151 undef, t.getD 152 undef, t.getD 153 undef, t.getD 154 undef, t.getD 155 undef, t.getD 156 undef, t.getD 157 undef, t.getD 158 undef, t.getD 159 undef, t.getD 160 undef, t.getD 161 undef, t.getD 162 undef, t.getD 163 undef, t.getD 164 undef, t.getD 165 undef, t.getD 166 undef, t.getD 167 undef, t.getD 168 undef, t.getD 169 undef, t.getD 170 undef, t.getD 171 undef, t.getD 172 undef, t.getD 173 undef, t.getD 174 undef, t.getD 175 undef, t.getD 176 undef, t.getD 177 undef, t.getD 178 undef, t.getD 179 undef, t.getD 180 undef, t.getD 181 undef, t.getD 182 undef, t.getD 183 undef, t.getD 184 undef, t.getD 185 undef, t.getD 186 undef, t.getD 187 undef, t.getD 188 undef, t.getD 189 undef, t.getD 190 undef, t.getD 191 undef, t.getD 192 undef, t.getD 193 undef, t.getD 194 undef, t.getD 195 undef, t.getD 196 undef, t.getD 197 undef, t.getD 198 undef, t.getD 199 undef, t.getD 200 undef, t.getD 201 undef, t.getD 202 undef, t.getD 203 undef, t.getD 204 undef, t.getD 205 undef, t.getD 206 undef, t.getD 207 undef, t.getD 208 undef, t.getD 209 undef, t.getD 210 undef, t.getD 211 undef, t.getD 212 undef, t.getD 213 undef, t.getD 214 undef, t.getD 215 undef, t.getD 216 undef, t.getD 217 undef, t.getD 218 undef, t.getD 219 undef, t.getD 220 undef, t.getD 221 undef, t.getD 222 undef, t.getD 223 undef, t.getD 224 undef, t.getD 225 undef, t.getD 226 undef, t.getD 227 undef, t.getD 228 undef, t.getD 229 undef, t.getD 230 undef, t.getD 231 undef, t.getD 232 undef, t.getD 233 undef, t.getD 234 undef, t.getD 235 undef, t.getD 236 undef, t.getD 237 undef, t.getD 238 undef, t.getD 239 undef, t.getD 240 undef, t.getD 241 undef, t.getD 242 undef, t.getD 243 undef, t.getD 244 undef, t.getD 245 undef, t.getD 246 undef, t.getD 247 undef, t.getD 248 undef, t.getD 249 undef, t.getD 250 undef, t.getD 251 undef, t.getD 252 undef, t.getD 253 undef, t.getD 254 undef, t.getD 255 undef, t.getD 256 undef, t.getD 257 undef, t.getD 258 undef, t.getD 259 undef, t.getD 260 undef, t.getD 261 undef, t.getD 262 undef, t.getD 263 undef, t.getD 264 undef, t.getD 265 undef, t.getD 266 undef, t.getD 267 undef, t.getD 268 undef, t.getD 269 undef, t.getD 270 undef, t.getD 271 undef, t.getD 272 undef, t.getD 273 undef, t.getD 274 undef, t.getD 275 undef, t.getD 276 undef, t.getD 277 undef, t.getD 278 undef, t.getD 279 undef, t.getD 280 undef, t.getD 281 undef, t.getD 282 undef] := (arr_of 283 t h).trans (by kernel_rfl)
end Go.Proofs.YtgnmgkpfgmpdfaaGreatDoor
