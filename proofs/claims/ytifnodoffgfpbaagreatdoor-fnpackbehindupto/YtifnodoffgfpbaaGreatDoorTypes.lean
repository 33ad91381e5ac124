/- Closed facts on the types and functions of this translation, each reckoned by the kernel; written by a program (gentypes.py); conditions: none. -/
import Derived.Test.YtifnodoffgfpbaaGreatDoorData
namespace Go.Proofs.YtifnodoffgfpbaaGreatDoor
open Go
set_option maxRecDepth 100000
def zs24 : List (List Value) := [[.int .u16 0], [.bool false], [.int .u16 0], [.bool false], [.bool false], [.bool false], [.bool false], [.bool false], [.bool false], [.int .u16 0]]
def zs28 : List (List Value) := [[[.int .u16 0], [.bool false], [.int .u16 0], [.bool false], [.bool false], [.bool false], [.bool false], [.bool false], [.bool false], [.int .u16 0]].flatten, [.slice none 0 0], [.slice none 0 0], [.slice none 0 0], [.slice none 0 0]]
def zs34 : List (List Value) := [[[.int .u16 0], [.bool false], [.int .u16 0], [.bool false], [.bool false], [.bool false], [.bool false], [.bool false], [.bool false], [.int .u16 0]].flatten, [.slice none 0 0], [.slice none 0 0], [.slice none 0 0], [.slice none 0 0]]
def zs58 : List (List Value) := [[.string ⟨#[]⟩], [.int .u16 0], [.int .u16 0]]
def zs59 : List (List Value) := [[.string ⟨#[]⟩], [.int .u16 0], [.int .u16 0]]
def zs65 : List (List Value) := [[.string ⟨#[]⟩], [.int .u16 0], [.int .u16 0], [.int .u32 0], [.int .u16 0], [.int .i64 0], [.slice none 0 0], [.string ⟨#[]⟩], [.string ⟨#[]⟩], [.int .u32 0], [.int .u32 0], [.int .u32 0], [.int .u32 0], [.int .u32 0], [.slice none 0 0], [.slice none 0 0]]
def zs67 : List (List Value) := [[.int .u16 0], [.slice none 0 0]]
def zs73 : List (List Value) := [[.int .u16 0], [.bool false], [.int .u16 0], [.bool false], [.bool false], [.bool false], [.bool false], [.bool false], [.bool false], [.int .u16 0]]
def zs79 : List (List Value) := [[[.int .u16 0], [.bool false], [.int .u16 0], [.bool false], [.bool false], [.bool false], [.bool false], [.bool false], [.bool false], [.int .u16 0]].flatten, [.slice none 0 0], [.slice none 0 0], [.slice none 0 0], [.slice none 0 0]]
def zs82 : List (List Value) := [bvs (List.replicate 255 0), [.int .u8 0]]
def zs86 : List (List Value) := [nm [], [.int .u16 0], [.int .u16 0]]
def zs95 : List (List Value) := [[.slice none 0 0], [.int .i64 0], [.bool false], [.bool false]]
def zs112 : List (List Value) := [[.string ⟨#[]⟩], [.int .u16 0], [.int .u16 0], [.int .u32 0], [.int .u16 0], [.int .i64 0], [.slice none 0 0], [.string ⟨#[]⟩], [.string ⟨#[]⟩], [.int .u32 0], [.int .u32 0], [.int .u32 0], [.int .u32 0], [.int .u32 0], [.slice none 0 0], [.slice none 0 0]]
def zs116 : List (List Value) := [[.slice none 0 0], [.slice none 0 0], [.slice none 0 0]]
def zs124 : List (List Value) := [[.slice none 0 0], [[.int .u16 0], [.int .u16 0], [.int .u16 0], [.int .u16 0], [.int .u16 0], [.int .u16 0]].flatten, [.int .u8 0], [.int .i64 0], [.int .i64 0], [.bool false], [.int .i64 0], [.int .u16 0], [.int .u16 0]]
def zs135 : List (List Value) := [nm [], [.int .u16 0], [.int .u16 0], [.int .u32 0], [.int .u16 0]]
def zs139 : List (List Value) := [[nm [], [.int .u16 0], [.int .u16 0], [.int .u32 0], [.int .u16 0]].flatten, [.nilIface]]
def zs145 : List (List Value) := [[.int .u16 0], [.slice none 0 0]]
def zs148 : List (List Value) := [[.slice none 0 0], [.int .u8 0], [[.int .u16 0], [.int .u16 0], [.int .u16 0], [.int .u16 0], [.int .u16 0], [.int .u16 0]].flatten, [.int .i64 0], [.map none]]
def zs168 : List (List Value) := [[.string ⟨#[]⟩], [.nilIface]]
def zs189 : List (List Value) := [bvs (List.replicate 4 0)]
def zs192 : List (List Value) := [nm []]
def zs195 : List (List Value) := [nm []]
def zs198 : List (List Value) := [nm [], nm [], [.int .u32 0], [.int .u32 0], [.int .u32 0], [.int .u32 0], [.int .u32 0]]
def zs201 : List (List Value) := [nm []]
def zs204 : List (List Value) := [[.int .u16 0], nm []]
def zs207 : List (List Value) := [[.slice none 0 0]]
def zs211 : List (List Value) := [bvs (List.replicate 16 0)]
def zs214 : List (List Value) := [[.int .u16 0], [.int .u16 0], [.int .u16 0], nm []]
def zs218 : List (List Value) := [[.slice none 0 0]]
def zs220 : List (List Value) := [[.int .u16 0], [.slice none 0 0]]
def zs224 : List (List Value) := [[.int .u16 0], nm [], [.slice none 0 0]]
def zs228 : List (List Value) := [[[.int .u16 0], nm [], [.slice none 0 0]].flatten]
def zs231 : List (List Value) := [[.int .u16 0], [.slice none 0 0]]
def zs291 : List (List Value) := [[.int .u16 0], [.slice none 0 0]]
theorem ar80 : arrB PP 80 255 5 = true := by kernel_rfl
theorem ar187 : arrB PP 187 4 5 = true := by kernel_rfl
theorem ar209 : arrB PP 209 16 5 = true := by kernel_rfl
theorem ar232 : arrB PP 232 12 5 = true := by kernel_rfl
theorem ar265 : arrB PP 265 14 22 = true := by kernel_rfl
theorem ca12 : callB PP 12 = true := by kernel_rfl
theorem ca13 : callB PP 13 = true := by kernel_rfl
theorem ca14 : callB PP 14 = true := by kernel_rfl
theorem ca15 : callB PP 15 = true := by kernel_rfl
theorem ca16 : callB PP 16 = true := by kernel_rfl
theorem ca17 : callB PP 17 = true := by kernel_rfl
theorem ca18 : callB PP 18 = true := by kernel_rfl
theorem ca19 : callB PP 19 = true := by kernel_rfl
theorem ca20 : callB PP 20 = true := by kernel_rfl
theorem ca21 : callB PP 21 = true := by kernel_rfl
theorem ca22 : callB PP 22 = true := by kernel_rfl
theorem ca23 : callB PP 23 = true := by kernel_rfl
theorem ca24 : callB PP 24 = true := by kernel_rfl
theorem ca25 : callB PP 25 = true := by kernel_rfl
theorem ca26 : callB PP 26 = true := by kernel_rfl
theorem ca27 : callB PP 27 = true := by kernel_rfl
theorem ca28 : callB PP 28 = true := by kernel_rfl
theorem ca29 : callB PP 29 = true := by kernel_rfl
theorem ca30 : callB PP 30 = true := by kernel_rfl
theorem ca31 : callB PP 31 = true := by kernel_rfl
theorem ca32 : callB PP 32 = true := by kernel_rfl
theorem ca33 : callB PP 33 = true := by kernel_rfl
theorem ca34 : callB PP 34 = true := by kernel_rfl
theorem ca35 : callB PP 35 = true := by kernel_rfl
theorem ca36 : callB PP 36 = true := by kernel_rfl
theorem ca37 : callB PP 37 = true := by kernel_rfl
theorem ca38 : callB PP 38 = true := by kernel_rfl
theorem ca39 : callB PP 39 = true := by kernel_rfl
theorem ca40 : callB PP 40 = true := by kernel_rfl
theorem ca41 : callB PP 41 = true := by kernel_rfl
theorem ca42 : callB PP 42 = true := by kernel_rfl
theorem ca43 : callB PP 43 = true := by kernel_rfl
theorem ca44 : callB PP 44 = true := by kernel_rfl
theorem ca45 : callB PP 45 = true := by kernel_rfl
theorem ca46 : callB PP 46 = true := by kernel_rfl
theorem ca47 : callB PP 47 = true := by kernel_rfl
theorem ca48 : callB PP 48 = true := by kernel_rfl
theorem ca49 : callB PP 49 = true := by kernel_rfl
theorem ca50 : callB PP 50 = true := by kernel_rfl
theorem ca51 : callB PP 51 = true := by kernel_rfl
theorem ca52 : callB PP 52 = true := by kernel_rfl
theorem ca53 : callB PP 53 = true := by kernel_rfl
theorem ca54 : callB PP 54 = true := by kernel_rfl
theorem ca55 : callB PP 55 = true := by kernel_rfl
theorem ca56 : callB PP 56 = true := by kernel_rfl
theorem ca57 : callB PP 57 = true := by kernel_rfl
theorem ca58 : callB PP 58 = true := by kernel_rfl
theorem ca59 : callB PP 59 = true := by kernel_rfl
theorem ca60 : callB PP 60 = true := by kernel_rfl
theorem ca61 : callB PP 61 = true := by kernel_rfl
theorem ca62 : callB PP 62 = true := by kernel_rfl
theorem ca63 : callB PP 63 = true := by kernel_rfl
theorem ca64 : callB PP 64 = true := by kernel_rfl
theorem ca65 : callB PP 65 = true := by kernel_rfl
theorem ca66 : callB PP 66 = true := by kernel_rfl
theorem ca67 : callB PP 67 = true := by kernel_rfl
theorem ca68 : callB PP 68 = true := by kernel_rfl
theorem ca69 : callB PP 69 = true := by kernel_rfl
theorem ca70 : callB PP 70 = true := by kernel_rfl
theorem ca71 : callB PP 71 = true := by kernel_rfl
theorem ca72 : callB PP 72 = true := by kernel_rfl
theorem ca73 : callB PP 73 = true := by kernel_rfl
theorem ca74 : callB PP 74 = true := by kernel_rfl
theorem ca75 : callB PP 75 = true := by kernel_rfl
theorem ca76 : callB PP 76 = true := by kernel_rfl
theorem ca77 : callB PP 77 = true := by kernel_rfl
theorem ca78 : callB PP 78 = true := by kernel_rfl
theorem ca79 : callB PP 79 = true := by kernel_rfl
theorem ca80 : callB PP 80 = true := by kernel_rfl
theorem ca81 : callB PP 81 = true := by kernel_rfl
theorem ca82 : callB PP 82 = true := by kernel_rfl
theorem ca83 : callB PP 83 = true := by kernel_rfl
theorem ca84 : callB PP 84 = true := by kernel_rfl
theorem ca85 : callB PP 85 = true := by kernel_rfl
theorem ca86 : callB PP 86 = true := by kernel_rfl
theorem ca87 : callB PP 87 = true := by kernel_rfl
theorem ca88 : callB PP 88 = true := by kernel_rfl
theorem ca89 : callB PP 89 = true := by kernel_rfl
theorem ca90 : callB PP 90 = true := by kernel_rfl
theorem ca91 : callB PP 91 = true := by kernel_rfl
theorem ca92 : callB PP 92 = true := by kernel_rfl
theorem ca93 : callB PP 93 = true := by kernel_rfl
theorem ca94 : callB PP 94 = true := by kernel_rfl
theorem ca95 : callB PP 95 = true := by kernel_rfl
theorem ca96 : callB PP 96 = true := by kernel_rfl
theorem ca97 : callB PP 97 = true := by kernel_rfl
theorem ca98 : callB PP 98 = true := by kernel_rfl
theorem ca99 : callB PP 99 = true := by kernel_rfl
theorem ca100 : callB PP 100 = true := by kernel_rfl
theorem ca101 : callB PP 101 = true := by kernel_rfl
theorem ca102 : callB PP 102 = true := by kernel_rfl
theorem ca103 : callB PP 103 = true := by kernel_rfl
theorem ca104 : callB PP 104 = true := by kernel_rfl
theorem ca105 : callB PP 105 = true := by kernel_rfl
theorem ca106 : callB PP 106 = true := by kernel_rfl
theorem ca107 : callB PP 107 = true := by kernel_rfl
theorem ca108 : callB PP 108 = true := by kernel_rfl
theorem ca109 : callB PP 109 = true := by kernel_rfl
theorem ca110 : callB PP 110 = true := by kernel_rfl
theorem ca111 : callB PP 111 = true := by kernel_rfl
theorem ca112 : callB PP 112 = true := by kernel_rfl
theorem ca113 : callB PP 113 = true := by kernel_rfl
theorem ca114 : callB PP 114 = true := by kernel_rfl
theorem ca115 : callB PP 115 = true := by kernel_rfl
theorem ca116 : callB PP 116 = true := by kernel_rfl
theorem ca117 : callB PP 117 = true := by kernel_rfl
theorem ca118 : callB PP 118 = true := by kernel_rfl
theorem ca119 : callB PP 119 = true := by kernel_rfl
theorem ca120 : callB PP 120 = true := by kernel_rfl
theorem ca121 : callB PP 121 = true := by kernel_rfl
theorem ca122 : callB PP 122 = true := by kernel_rfl
theorem ca123 : callB PP 123 = true := by kernel_rfl
theorem ca124 : callB PP 124 = true := by kernel_rfl
theorem ca125 : callB PP 125 = true := by kernel_rfl
theorem ca126 : callB PP 126 = true := by kernel_rfl
theorem ca127 : callB PP 127 = true := by kernel_rfl
theorem ca128 : callB PP 128 = true := by kernel_rfl
theorem ca129 : callB PP 129 = true := by kernel_rfl
theorem ca130 : callB PP 130 = true := by kernel_rfl
theorem ca131 : callB PP 131 = true := by kernel_rfl
theorem ca132 : callB PP 132 = true := by kernel_rfl
theorem ca133 : callB PP 133 = true := by kernel_rfl
theorem ca134 : callB PP 134 = true := by kernel_rfl
theorem ca135 : callB PP 135 = true := by kernel_rfl
theorem ca136 : callB PP 136 = true := by kernel_rfl
theorem ca137 : callB PP 137 = true := by kernel_rfl
theorem ca138 : callB PP 138 = true := by kernel_rfl
theorem ca139 : callB PP 139 = true := by kernel_rfl
theorem ca140 : callB PP 140 = true := by kernel_rfl
theorem ca141 : callB PP 141 = true := by kernel_rfl
theorem ca142 : callB PP 142 = true := by kernel_rfl
theorem ca143 : callB PP 143 = true := by kernel_rfl
theorem ca144 : callB PP 144 = true := by kernel_rfl
theorem ca145 : callB PP 145 = true := by kernel_rfl
theorem ca146 : callB PP 146 = true := by kernel_rfl
theorem ca147 : callB PP 147 = true := by kernel_rfl
theorem ca148 : callB PP 148 = true := by kernel_rfl
theorem ca149 : callB PP 149 = true := by kernel_rfl
theorem ca150 : callB PP 150 = true := by kernel_rfl
theorem ca151 : callB PP 151 = true := by kernel_rfl
theorem ca152 : callB PP 152 = true := by kernel_rfl
theorem ca153 : callB PP 153 = true := by kernel_rfl
theorem ca154 : callB PP 154 = true := by kernel_rfl
theorem ca155 : callB PP 155 = true := by kernel_rfl
theorem ca156 : callB PP 156 = true := by kernel_rfl
theorem ca157 : callB PP 157 = true := by kernel_rfl
theorem ca158 : callB PP 158 = true := by kernel_rfl
theorem ca159 : callB PP 159 = true := by kernel_rfl
theorem ca160 : callB PP 160 = true := by kernel_rfl
theorem ca161 : callB PP 161 = true := by kernel_rfl
theorem ca162 : callB PP 162 = true := by kernel_rfl
theorem ca163 : callB PP 163 = true := by kernel_rfl
theorem ca164 : callB PP 164 = true := by kernel_rfl
theorem ca165 : callB PP 165 = true := by kernel_rfl
theorem ca166 : callB PP 166 = true := by kernel_rfl
theorem ca167 : callB PP 167 = true := by kernel_rfl
theorem ca168 : callB PP 168 = true := by kernel_rfl
theorem ca169 : callB PP 169 = true := by kernel_rfl
theorem ca170 : callB PP 170 = true := by kernel_rfl
theorem ca171 : callB PP 171 = true := by kernel_rfl
theorem ca172 : callB PP 172 = true := by kernel_rfl
theorem ca173 : callB PP 173 = true := by kernel_rfl
theorem ca174 : callB PP 174 = true := by kernel_rfl
theorem ca175 : callB PP 175 = true := by kernel_rfl
theorem ca176 : callB PP 176 = true := by kernel_rfl
theorem ca177 : callB PP 177 = true := by kernel_rfl
theorem ca178 : callB PP 178 = true := by kernel_rfl
theorem ca179 : callB PP 179 = true := by kernel_rfl
theorem ca180 : callB PP 180 = true := by kernel_rfl
theorem ca181 : callB PP 181 = true := by kernel_rfl
theorem ca182 : callB PP 182 = true := by kernel_rfl
theorem ca183 : callB PP 183 = true := by kernel_rfl
theorem ca184 : callB PP 184 = true := by kernel_rfl
theorem ca185 : callB PP 185 = true := by kernel_rfl
theorem ca186 : callB PP 186 = true := by kernel_rfl
theorem ca187 : callB PP 187 = true := by kernel_rfl
theorem ca188 : callB PP 188 = true := by kernel_rfl
theorem ca189 : callB PP 189 = true := by kernel_rfl
theorem ca190 : callB PP 190 = true := by kernel_rfl
theorem ca191 : callB PP 191 = true := by kernel_rfl
theorem ca192 : callB PP 192 = true := by kernel_rfl
theorem ca193 : callB PP 193 = true := by kernel_rfl
theorem ca194 : callB PP 194 = true := by kernel_rfl
theorem ca195 : callB PP 195 = true := by kernel_rfl
theorem ca196 : callB PP 196 = true := by kernel_rfl
theorem ca197 : callB PP 197 = true := by kernel_rfl
theorem ca198 : callB PP 198 = true := by kernel_rfl
theorem ca199 : callB PP 199 = true := by kernel_rfl
theorem ca200 : callB PP 200 = true := by kernel_rfl
theorem ca201 : callB PP 201 = true := by kernel_rfl
theorem ca202 : callB PP 202 = true := by kernel_rfl
theorem ca203 : callB PP 203 = true := by kernel_rfl
theorem ca204 : callB PP 204 = true := by kernel_rfl
theorem ca205 : callB PP 205 = true := by kernel_rfl
theorem ca206 : callB PP 206 = true := by kernel_rfl
theorem ca207 : callB PP 207 = true := by kernel_rfl
theorem ca208 : callB PP 208 = true := by kernel_rfl
theorem ca209 : callB PP 209 = true := by kernel_rfl
theorem ca210 : callB PP 210 = true := by kernel_rfl
theorem ca211 : callB PP 211 = true := by kernel_rfl
theorem ca212 : callB PP 212 = true := by kernel_rfl
theorem ca213 : callB PP 213 = true := by kernel_rfl
theorem fl24_0 : fldB PP 24 0 0 = true := by kernel_rfl
theorem fl24_1 : fldB PP 24 1 1 = true := by kernel_rfl
theorem fl24_2 : fldB PP 24 2 2 = true := by kernel_rfl
theorem fl24_3 : fldB PP 24 3 3 = true := by kernel_rfl
theorem fl24_4 : fldB PP 24 4 4 = true := by kernel_rfl
theorem fl24_5 : fldB PP 24 5 5 = true := by kernel_rfl
theorem fl24_6 : fldB PP 24 6 6 = true := by kernel_rfl
theorem fl24_7 : fldB PP 24 7 7 = true := by kernel_rfl
theorem fl24_8 : fldB PP 24 8 8 = true := by kernel_rfl
theorem fl24_9 : fldB PP 24 9 9 = true := by kernel_rfl
theorem fl28_0 : fldB PP 28 0 0 = true := by kernel_rfl
theorem fl28_1 : fldB PP 28 1 10 = true := by kernel_rfl
theorem fl28_2 : fldB PP 28 2 11 = true := by kernel_rfl
theorem fl28_3 : fldB PP 28 3 12 = true := by kernel_rfl
theorem fl28_4 : fldB PP 28 4 13 = true := by kernel_rfl
theorem fl30_0 : fldB PP 30 0 0 = true := by kernel_rfl
theorem fl30_1 : fldB PP 30 1 1 = true := by kernel_rfl
theorem fl30_2 : fldB PP 30 2 2 = true := by kernel_rfl
theorem fl30_3 : fldB PP 30 3 3 = true := by kernel_rfl
theorem fl30_4 : fldB PP 30 4 4 = true := by kernel_rfl
theorem fl30_5 : fldB PP 30 5 5 = true := by kernel_rfl
theorem fl30_6 : fldB PP 30 6 6 = true := by kernel_rfl
theorem fl30_7 : fldB PP 30 7 7 = true := by kernel_rfl
theorem fl30_8 : fldB PP 30 8 8 = true := by kernel_rfl
theorem fl30_9 : fldB PP 30 9 9 = true := by kernel_rfl
theorem fl34_0 : fldB PP 34 0 0 = true := by kernel_rfl
theorem fl34_1 : fldB PP 34 1 10 = true := by kernel_rfl
theorem fl34_2 : fldB PP 34 2 11 = true := by kernel_rfl
theorem fl34_3 : fldB PP 34 3 12 = true := by kernel_rfl
theorem fl34_4 : fldB PP 34 4 13 = true := by kernel_rfl
theorem fl58_0 : fldB PP 58 0 0 = true := by kernel_rfl
theorem fl58_1 : fldB PP 58 1 1 = true := by kernel_rfl
theorem fl58_2 : fldB PP 58 2 2 = true := by kernel_rfl
theorem fl59_0 : fldB PP 59 0 0 = true := by kernel_rfl
theorem fl59_1 : fldB PP 59 1 1 = true := by kernel_rfl
theorem fl59_2 : fldB PP 59 2 2 = true := by kernel_rfl
theorem fl65_0 : fldB PP 65 0 0 = true := by kernel_rfl
theorem fl65_1 : fldB PP 65 1 1 = true := by kernel_rfl
theorem fl65_2 : fldB PP 65 2 2 = true := by kernel_rfl
theorem fl65_3 : fldB PP 65 3 3 = true := by kernel_rfl
theorem fl65_4 : fldB PP 65 4 4 = true := by kernel_rfl
theorem fl65_5 : fldB PP 65 5 5 = true := by kernel_rfl
theorem fl65_6 : fldB PP 65 6 6 = true := by kernel_rfl
theorem fl65_7 : fldB PP 65 7 7 = true := by kernel_rfl
theorem fl65_8 : fldB PP 65 8 8 = true := by kernel_rfl
theorem fl65_9 : fldB PP 65 9 9 = true := by kernel_rfl
theorem fl65_10 : fldB PP 65 10 10 = true := by kernel_rfl
theorem fl65_11 : fldB PP 65 11 11 = true := by kernel_rfl
theorem fl65_12 : fldB PP 65 12 12 = true := by kernel_rfl
theorem fl65_13 : fldB PP 65 13 13 = true := by kernel_rfl
theorem fl65_14 : fldB PP 65 14 14 = true := by kernel_rfl
theorem fl65_15 : fldB PP 65 15 15 = true := by kernel_rfl
theorem fl67_0 : fldB PP 67 0 0 = true := by kernel_rfl
theorem fl67_1 : fldB PP 67 1 1 = true := by kernel_rfl
theorem fl73_0 : fldB PP 73 0 0 = true := by kernel_rfl
theorem fl73_1 : fldB PP 73 1 1 = true := by kernel_rfl
theorem fl73_2 : fldB PP 73 2 2 = true := by kernel_rfl
theorem fl73_3 : fldB PP 73 3 3 = true := by kernel_rfl
theorem fl73_4 : fldB PP 73 4 4 = true := by kernel_rfl
theorem fl73_5 : fldB PP 73 5 5 = true := by kernel_rfl
theorem fl73_6 : fldB PP 73 6 6 = true := by kernel_rfl
theorem fl73_7 : fldB PP 73 7 7 = true := by kernel_rfl
theorem fl73_8 : fldB PP 73 8 8 = true := by kernel_rfl
theorem fl73_9 : fldB PP 73 9 9 = true := by kernel_rfl
theorem fl79_0 : fldB PP 79 0 0 = true := by kernel_rfl
theorem fl79_1 : fldB PP 79 1 10 = true := by kernel_rfl
theorem fl79_2 : fldB PP 79 2 11 = true := by kernel_rfl
theorem fl79_3 : fldB PP 79 3 12 = true := by kernel_rfl
theorem fl79_4 : fldB PP 79 4 13 = true := by kernel_rfl
theorem fl82_0 : fldB PP 82 0 0 = true := by kernel_rfl
theorem fl82_1 : fldB PP 82 1 255 = true := by kernel_rfl
theorem fl86_0 : fldB PP 86 0 0 = true := by kernel_rfl
theorem fl86_1 : fldB PP 86 1 256 = true := by kernel_rfl
theorem fl86_2 : fldB PP 86 2 257 = true := by kernel_rfl
theorem fl95_0 : fldB PP 95 0 0 = true := by kernel_rfl
theorem fl95_1 : fldB PP 95 1 1 = true := by kernel_rfl
theorem fl95_2 : fldB PP 95 2 2 = true := by kernel_rfl
theorem fl95_3 : fldB PP 95 3 3 = true := by kernel_rfl
theorem fl112_0 : fldB PP 112 0 0 = true := by kernel_rfl
theorem fl112_1 : fldB PP 112 1 1 = true := by kernel_rfl
theorem fl112_2 : fldB PP 112 2 2 = true := by kernel_rfl
theorem fl112_3 : fldB PP 112 3 3 = true := by kernel_rfl
theorem fl112_4 : fldB PP 112 4 4 = true := by kernel_rfl
theorem fl112_5 : fldB PP 112 5 5 = true := by kernel_rfl
theorem fl112_6 : fldB PP 112 6 6 = true := by kernel_rfl
theorem fl112_7 : fldB PP 112 7 7 = true := by kernel_rfl
theorem fl112_8 : fldB PP 112 8 8 = true := by kernel_rfl
theorem fl112_9 : fldB PP 112 9 9 = true := by kernel_rfl
theorem fl112_10 : fldB PP 112 10 10 = true := by kernel_rfl
theorem fl112_11 : fldB PP 112 11 11 = true := by kernel_rfl
theorem fl112_12 : fldB PP 112 12 12 = true := by kernel_rfl
theorem fl112_13 : fldB PP 112 13 13 = true := by kernel_rfl
theorem fl112_14 : fldB PP 112 14 14 = true := by kernel_rfl
theorem fl112_15 : fldB PP 112 15 15 = true := by kernel_rfl
theorem fl116_0 : fldB PP 116 0 0 = true := by kernel_rfl
theorem fl116_1 : fldB PP 116 1 1 = true := by kernel_rfl
theorem fl116_2 : fldB PP 116 2 2 = true := by kernel_rfl
theorem fl121_0 : fldB PP 121 0 0 = true := by kernel_rfl
theorem fl121_1 : fldB PP 121 1 1 = true := by kernel_rfl
theorem fl121_2 : fldB PP 121 2 2 = true := by kernel_rfl
theorem fl121_3 : fldB PP 121 3 3 = true := by kernel_rfl
theorem fl121_4 : fldB PP 121 4 4 = true := by kernel_rfl
theorem fl121_5 : fldB PP 121 5 5 = true := by kernel_rfl
theorem fl124_0 : fldB PP 124 0 0 = true := by kernel_rfl
theorem fl124_1 : fldB PP 124 1 1 = true := by kernel_rfl
theorem fl124_2 : fldB PP 124 2 7 = true := by kernel_rfl
theorem fl124_3 : fldB PP 124 3 8 = true := by kernel_rfl
theorem fl124_4 : fldB PP 124 4 9 = true := by kernel_rfl
theorem fl124_5 : fldB PP 124 5 10 = true := by kernel_rfl
theorem fl124_6 : fldB PP 124 6 11 = true := by kernel_rfl
theorem fl124_7 : fldB PP 124 7 12 = true := by kernel_rfl
theorem fl124_8 : fldB PP 124 8 13 = true := by kernel_rfl
theorem fl135_0 : fldB PP 135 0 0 = true := by kernel_rfl
theorem fl135_1 : fldB PP 135 1 256 = true := by kernel_rfl
theorem fl135_2 : fldB PP 135 2 257 = true := by kernel_rfl
theorem fl135_3 : fldB PP 135 3 258 = true := by kernel_rfl
theorem fl135_4 : fldB PP 135 4 259 = true := by kernel_rfl
theorem fl139_0 : fldB PP 139 0 0 = true := by kernel_rfl
theorem fl139_1 : fldB PP 139 1 260 = true := by kernel_rfl
theorem fl145_0 : fldB PP 145 0 0 = true := by kernel_rfl
theorem fl145_1 : fldB PP 145 1 1 = true := by kernel_rfl
theorem fl148_0 : fldB PP 148 0 0 = true := by kernel_rfl
theorem fl148_1 : fldB PP 148 1 1 = true := by kernel_rfl
theorem fl148_2 : fldB PP 148 2 2 = true := by kernel_rfl
theorem fl148_3 : fldB PP 148 3 8 = true := by kernel_rfl
theorem fl148_4 : fldB PP 148 4 9 = true := by kernel_rfl
theorem fl189_0 : fldB PP 189 0 0 = true := by kernel_rfl
theorem fl192_0 : fldB PP 192 0 0 = true := by kernel_rfl
theorem fl195_0 : fldB PP 195 0 0 = true := by kernel_rfl
theorem fl198_0 : fldB PP 198 0 0 = true := by kernel_rfl
theorem fl198_1 : fldB PP 198 1 256 = true := by kernel_rfl
theorem fl198_2 : fldB PP 198 2 512 = true := by kernel_rfl
theorem fl198_3 : fldB PP 198 3 513 = true := by kernel_rfl
theorem fl198_4 : fldB PP 198 4 514 = true := by kernel_rfl
theorem fl198_5 : fldB PP 198 5 515 = true := by kernel_rfl
theorem fl198_6 : fldB PP 198 6 516 = true := by kernel_rfl
theorem fl201_0 : fldB PP 201 0 0 = true := by kernel_rfl
theorem fl204_0 : fldB PP 204 0 0 = true := by kernel_rfl
theorem fl204_1 : fldB PP 204 1 1 = true := by kernel_rfl
theorem fl207_0 : fldB PP 207 0 0 = true := by kernel_rfl
theorem fl211_0 : fldB PP 211 0 0 = true := by kernel_rfl
theorem fl214_0 : fldB PP 214 0 0 = true := by kernel_rfl
theorem fl214_1 : fldB PP 214 1 1 = true := by kernel_rfl
theorem fl214_2 : fldB PP 214 2 2 = true := by kernel_rfl
theorem fl214_3 : fldB PP 214 3 3 = true := by kernel_rfl
theorem fl218_0 : fldB PP 218 0 0 = true := by kernel_rfl
theorem fl220_0 : fldB PP 220 0 0 = true := by kernel_rfl
theorem fl220_1 : fldB PP 220 1 1 = true := by kernel_rfl
theorem fl224_0 : fldB PP 224 0 0 = true := by kernel_rfl
theorem fl224_1 : fldB PP 224 1 1 = true := by kernel_rfl
theorem fl224_2 : fldB PP 224 2 257 = true := by kernel_rfl
theorem fl228_0 : fldB PP 228 0 0 = true := by kernel_rfl
theorem fl231_0 : fldB PP 231 0 0 = true := by kernel_rfl
theorem fl231_1 : fldB PP 231 1 1 = true := by kernel_rfl
theorem fl291_0 : fldB PP 291 0 0 = true := by kernel_rfl
theorem fl291_1 : fldB PP 291 1 1 = true := by kernel_rfl
theorem hs3 : hasB PP 3 = true := by kernel_rfl
theorem hs5 : hasB PP 5 = true := by kernel_rfl
theorem hs22 : hasB PP 22 = true := by kernel_rfl
theorem hs61 : hasB PP 61 = true := by kernel_rfl
theorem if89 : ifcB PP 89 = true := by kernel_rfl
theorem if137 : ifcB PP 137 = true := by kernel_rfl
theorem in3 : Inf PP 3 (.int .i64 0) 1 8 := inf_of (by kernel_rfl)
theorem in5 : Inf PP 5 (.int .u8 0) 1 1 := inf_of (by kernel_rfl)
theorem in9 : Inf PP 9 (.string ⟨#[]⟩) 1 16 := inf_of (by kernel_rfl)
theorem in22 : Inf PP 22 (.int .u16 0) 1 2 := inf_of (by kernel_rfl)
theorem in24 : Inf PP 24 (ag [[.int .u16 0], [.bool false], [.int .u16 0], [.bool false], [.bool false], [.bool false], [.bool false], [.bool false], [.bool false], [.int .u16 0]]) 10 14 := inf_of (by kernel_rfl)
theorem in26 : Inf PP 26 (.slice none 0 0) 1 24 := inf_of (by kernel_rfl)
theorem in28 : Inf PP 28 (ag [[.int .u16 0], [.bool false], [.int .u16 0], [.bool false], [.bool false], [.bool false], [.bool false], [.bool false], [.bool false], [.int .u16 0], [.slice none 0 0], [.slice none 0 0], [.slice none 0 0], [.slice none 0 0]]) 14 112 := inf_of (by kernel_rfl)
theorem in32 : Inf PP 32 (.slice none 0 0) 1 24 := inf_of (by kernel_rfl)
theorem in34 : Inf PP 34 (ag [[.int .u16 0], [.bool false], [.int .u16 0], [.bool false], [.bool false], [.bool false], [.bool false], [.bool false], [.bool false], [.int .u16 0], [.slice none 0 0], [.slice none 0 0], [.slice none 0 0], [.slice none 0 0]]) 14 112 := inf_of (by kernel_rfl)
theorem in37 : Inf PP 37 (.slice none 0 0) 1 24 := inf_of (by kernel_rfl)
theorem in58 : Inf PP 58 (ag [[.string ⟨#[]⟩], [.int .u16 0], [.int .u16 0]]) 3 24 := inf_of (by kernel_rfl)
theorem in59 : Inf PP 59 (ag [[.string ⟨#[]⟩], [.int .u16 0], [.int .u16 0]]) 3 24 := inf_of (by kernel_rfl)
theorem in65 : Inf PP 65 (ag [[.string ⟨#[]⟩], [.int .u16 0], [.int .u16 0], [.int .u32 0], [.int .u16 0], [.int .i64 0], [.slice none 0 0], [.string ⟨#[]⟩], [.string ⟨#[]⟩], [.int .u32 0], [.int .u32 0], [.int .u32 0], [.int .u32 0], [.int .u32 0], [.slice none 0 0], [.slice none 0 0]]) 16 168 := inf_of (by kernel_rfl)
theorem in67 : Inf PP 67 (ag [[.int .u16 0], [.slice none 0 0]]) 2 32 := inf_of (by kernel_rfl)
theorem in73 : Inf PP 73 (ag [[.int .u16 0], [.bool false], [.int .u16 0], [.bool false], [.bool false], [.bool false], [.bool false], [.bool false], [.bool false], [.int .u16 0]]) 10 14 := inf_of (by kernel_rfl)
theorem in79 : Inf PP 79 (ag [[.int .u16 0], [.bool false], [.int .u16 0], [.bool false], [.bool false], [.bool false], [.bool false], [.bool false], [.bool false], [.int .u16 0], [.slice none 0 0], [.slice none 0 0], [.slice none 0 0], [.slice none 0 0]]) 14 112 := inf_of (by kernel_rfl)
theorem in82 : Inf PP 82 (ag [nm []]) 256 256 := inf_of (by kernel_rfl)
theorem in86 : Inf PP 86 (ag [nm [], [.int .u16 0], [.int .u16 0]]) 258 260 := inf_of (by kernel_rfl)
theorem in112 : Inf PP 112 (ag [[.string ⟨#[]⟩], [.int .u16 0], [.int .u16 0], [.int .u32 0], [.int .u16 0], [.int .i64 0], [.slice none 0 0], [.string ⟨#[]⟩], [.string ⟨#[]⟩], [.int .u32 0], [.int .u32 0], [.int .u32 0], [.int .u32 0], [.int .u32 0], [.slice none 0 0], [.slice none 0 0]]) 16 168 := inf_of (by kernel_rfl)
theorem in121 : Inf PP 121 (ag [[.int .u16 0], [.int .u16 0], [.int .u16 0], [.int .u16 0], [.int .u16 0], [.int .u16 0]]) 6 12 := inf_of (by kernel_rfl)
theorem in124 : Inf PP 124 (ag [[.slice none 0 0], [.int .u16 0], [.int .u16 0], [.int .u16 0], [.int .u16 0], [.int .u16 0], [.int .u16 0], [.int .u8 0], [.int .i64 0], [.int .i64 0], [.bool false], [.int .i64 0], [.int .u16 0], [.int .u16 0]]) 14 80 := inf_of (by kernel_rfl)
theorem in135 : Inf PP 135 (ag [nm [], [.int .u16 0], [.int .u16 0], [.int .u32 0], [.int .u16 0]]) 260 268 := inf_of (by kernel_rfl)
theorem in139 : Inf PP 139 (ag [nm [], [.int .u16 0], [.int .u16 0], [.int .u32 0], [.int .u16 0], [.nilIface]]) 261 288 := inf_of (by kernel_rfl)
theorem in143 : Inf PP 143 (.nilFunc) 1 8 := inf_of (by kernel_rfl)
theorem in145 : Inf PP 145 (ag [[.int .u16 0], [.slice none 0 0]]) 2 32 := inf_of (by kernel_rfl)
theorem in148 : Inf PP 148 (ag [[.slice none 0 0], [.int .u8 0], [.int .u16 0], [.int .u16 0], [.int .u16 0], [.int .u16 0], [.int .u16 0], [.int .u16 0], [.int .i64 0], [.map none]]) 10 56 := inf_of (by kernel_rfl)
theorem in186 : Inf PP 186 (.pointer none) 1 8 := inf_of (by kernel_rfl)
theorem in187 : Inf PP 187 (ag [bvs (List.replicate 4 0)]) 4 4 := inf_of (by kernel_rfl)
theorem in189 : Inf PP 189 (ag [bvs (List.replicate 4 0)]) 4 4 := inf_of (by kernel_rfl)
theorem in190 : Inf PP 190 (.pointer none) 1 8 := inf_of (by kernel_rfl)
theorem in192 : Inf PP 192 (ag [nm []]) 256 256 := inf_of (by kernel_rfl)
theorem in193 : Inf PP 193 (.pointer none) 1 8 := inf_of (by kernel_rfl)
theorem in195 : Inf PP 195 (ag [nm []]) 256 256 := inf_of (by kernel_rfl)
theorem in196 : Inf PP 196 (.pointer none) 1 8 := inf_of (by kernel_rfl)
theorem in198 : Inf PP 198 (ag [nm [], nm [], [.int .u32 0], [.int .u32 0], [.int .u32 0], [.int .u32 0], [.int .u32 0]]) 517 532 := inf_of (by kernel_rfl)
theorem in199 : Inf PP 199 (.pointer none) 1 8 := inf_of (by kernel_rfl)
theorem in201 : Inf PP 201 (ag [nm []]) 256 256 := inf_of (by kernel_rfl)
theorem in202 : Inf PP 202 (.pointer none) 1 8 := inf_of (by kernel_rfl)
theorem in204 : Inf PP 204 (ag [[.int .u16 0], nm []]) 257 258 := inf_of (by kernel_rfl)
theorem in205 : Inf PP 205 (.pointer none) 1 8 := inf_of (by kernel_rfl)
theorem in207 : Inf PP 207 (ag [[.slice none 0 0]]) 1 24 := inf_of (by kernel_rfl)
theorem in208 : Inf PP 208 (.pointer none) 1 8 := inf_of (by kernel_rfl)
theorem in209 : Inf PP 209 (ag [bvs (List.replicate 16 0)]) 16 16 := inf_of (by kernel_rfl)
theorem in211 : Inf PP 211 (ag [bvs (List.replicate 16 0)]) 16 16 := inf_of (by kernel_rfl)
theorem in212 : Inf PP 212 (.pointer none) 1 8 := inf_of (by kernel_rfl)
theorem in214 : Inf PP 214 (ag [[.int .u16 0], [.int .u16 0], [.int .u16 0], nm []]) 259 262 := inf_of (by kernel_rfl)
theorem in215 : Inf PP 215 (.pointer none) 1 8 := inf_of (by kernel_rfl)
theorem in218 : Inf PP 218 (ag [[.slice none 0 0]]) 1 24 := inf_of (by kernel_rfl)
theorem in220 : Inf PP 220 (ag [[.int .u16 0], [.slice none 0 0]]) 2 32 := inf_of (by kernel_rfl)
theorem in221 : Inf PP 221 (.pointer none) 1 8 := inf_of (by kernel_rfl)
theorem in224 : Inf PP 224 (ag [[.int .u16 0], nm [], [.slice none 0 0]]) 258 288 := inf_of (by kernel_rfl)
theorem in226 : Inf PP 226 (.pointer none) 1 8 := inf_of (by kernel_rfl)
theorem in228 : Inf PP 228 (ag [[.int .u16 0], nm [], [.slice none 0 0]]) 258 288 := inf_of (by kernel_rfl)
theorem in229 : Inf PP 229 (.pointer none) 1 8 := inf_of (by kernel_rfl)
theorem in231 : Inf PP 231 (ag [[.int .u16 0], [.slice none 0 0]]) 2 32 := inf_of (by kernel_rfl)
theorem in232 : Inf PP 232 (ag [bvs (List.replicate 12 0)]) 12 12 := inf_of (by kernel_rfl)
theorem in265 : Inf PP 265 (ag [[.int .u16 0], [.int .u16 0], [.int .u16 0], [.int .u16 0], [.int .u16 0], [.int .u16 0], [.int .u16 0], [.int .u16 0], [.int .u16 0], [.int .u16 0], [.int .u16 0], [.int .u16 0], [.int .u16 0], [.int .u16 0]]) 14 28 := inf_of (by kernel_rfl)
theorem in291 : Inf PP 291 (ag [[.int .u16 0], [.slice none 0 0]]) 2 32 := inf_of (by kernel_rfl)
theorem ki3 : intB PP 3 .i64 = true := by kernel_rfl
theorem ki5 : intB PP 5 .u8 = true := by kernel_rfl
theorem ki22 : intB PP 22 .u16 = true := by kernel_rfl
theorem ki61 : intB PP 61 .u32 = true := by kernel_rfl
theorem ly24 : layB PP 24 (zs24.map List.length) = true := by kernel_rfl
theorem ly28 : layB PP 28 (zs28.map List.length) = true := by kernel_rfl
theorem ly34 : layB PP 34 (zs34.map List.length) = true := by kernel_rfl
theorem ly58 : layB PP 58 (zs58.map List.length) = true := by kernel_rfl
theorem ly59 : layB PP 59 (zs59.map List.length) = true := by kernel_rfl
theorem ly65 : layB PP 65 (zs65.map List.length) = true := by kernel_rfl
theorem ly67 : layB PP 67 (zs67.map List.length) = true := by kernel_rfl
theorem ly73 : layB PP 73 (zs73.map List.length) = true := by kernel_rfl
theorem ly79 : layB PP 79 (zs79.map List.length) = true := by kernel_rfl
theorem ly82 : layB PP 82 (zs82.map List.length) = true := by kernel_rfl
theorem ly86 : layB PP 86 (zs86.map List.length) = true := by kernel_rfl
theorem ly95 : layB PP 95 (zs95.map List.length) = true := by kernel_rfl
theorem ly112 : layB PP 112 (zs112.map List.length) = true := by kernel_rfl
theorem ly116 : layB PP 116 (zs116.map List.length) = true := by kernel_rfl
theorem ly124 : layB PP 124 (zs124.map List.length) = true := by kernel_rfl
theorem ly135 : layB PP 135 (zs135.map List.length) = true := by kernel_rfl
theorem ly139 : layB PP 139 (zs139.map List.length) = true := by kernel_rfl
theorem ly145 : layB PP 145 (zs145.map List.length) = true := by kernel_rfl
theorem ly148 : layB PP 148 (zs148.map List.length) = true := by kernel_rfl
theorem ly168 : layB PP 168 (zs168.map List.length) = true := by kernel_rfl
theorem ly189 : layB PP 189 (zs189.map List.length) = true := by kernel_rfl
theorem ly192 : layB PP 192 (zs192.map List.length) = true := by kernel_rfl
theorem ly195 : layB PP 195 (zs195.map List.length) = true := by kernel_rfl
theorem ly198 : layB PP 198 (zs198.map List.length) = true := by kernel_rfl
theorem ly201 : layB PP 201 (zs201.map List.length) = true := by kernel_rfl
theorem ly204 : layB PP 204 (zs204.map List.length) = true := by kernel_rfl
theorem ly207 : layB PP 207 (zs207.map List.length) = true := by kernel_rfl
theorem ly211 : layB PP 211 (zs211.map List.length) = true := by kernel_rfl
theorem ly214 : layB PP 214 (zs214.map List.length) = true := by kernel_rfl
theorem ly218 : layB PP 218 (zs218.map List.length) = true := by kernel_rfl
theorem ly220 : layB PP 220 (zs220.map List.length) = true := by kernel_rfl
theorem ly224 : layB PP 224 (zs224.map List.length) = true := by kernel_rfl
theorem ly228 : layB PP 228 (zs228.map List.length) = true := by kernel_rfl
theorem ly231 : layB PP 231 (zs231.map List.length) = true := by kernel_rfl
theorem ly291 : layB PP 291 (zs291.map List.length) = true := by kernel_rfl
theorem mp146 : mapB PP 146 9 22 = true := by kernel_rfl
theorem ni166 : notIfB PP 166 = true := by kernel_rfl
theorem ni186 : notIfB PP 186 = true := by kernel_rfl
theorem ni190 : notIfB PP 190 = true := by kernel_rfl
theorem ni193 : notIfB PP 193 = true := by kernel_rfl
theorem ni196 : notIfB PP 196 = true := by kernel_rfl
theorem ni199 : notIfB PP 199 = true := by kernel_rfl
theorem ni202 : notIfB PP 202 = true := by kernel_rfl
theorem ni205 : notIfB PP 205 = true := by kernel_rfl
theorem ni208 : notIfB PP 208 = true := by kernel_rfl
theorem ni212 : notIfB PP 212 = true := by kernel_rfl
theorem ni215 : notIfB PP 215 = true := by kernel_rfl
theorem ni221 : notIfB PP 221 = true := by kernel_rfl
theorem ni226 : notIfB PP 226 = true := by kernel_rfl
theorem ni229 : notIfB PP 229 = true := by kernel_rfl
theorem on3 : oneB PP 3 = true := by kernel_rfl
theorem on4 : oneB PP 4 = true := by kernel_rfl
theorem on5 : oneB PP 5 = true := by kernel_rfl
theorem on9 : oneB PP 9 = true := by kernel_rfl
theorem on22 : oneB PP 22 = true := by kernel_rfl
theorem on25 : oneB PP 25 = true := by kernel_rfl
theorem on26 : oneB PP 26 = true := by kernel_rfl
theorem on31 : oneB PP 31 = true := by kernel_rfl
theorem on32 : oneB PP 32 = true := by kernel_rfl
theorem on37 : oneB PP 37 = true := by kernel_rfl
theorem on61 : oneB PP 61 = true := by kernel_rfl
theorem on62 : oneB PP 62 = true := by kernel_rfl
theorem on63 : oneB PP 63 = true := by kernel_rfl
theorem on70 : oneB PP 70 = true := by kernel_rfl
theorem on71 : oneB PP 71 = true := by kernel_rfl
theorem on75 : oneB PP 75 = true := by kernel_rfl
theorem on77 : oneB PP 77 = true := by kernel_rfl
theorem on83 : oneB PP 83 = true := by kernel_rfl
theorem on84 : oneB PP 84 = true := by kernel_rfl
theorem on89 : oneB PP 89 = true := by kernel_rfl
theorem on99 : oneB PP 99 = true := by kernel_rfl
theorem on110 : oneB PP 110 = true := by kernel_rfl
theorem on122 : oneB PP 122 = true := by kernel_rfl
theorem on137 : oneB PP 137 = true := by kernel_rfl
theorem on143 : oneB PP 143 = true := by kernel_rfl
theorem on146 : oneB PP 146 = true := by kernel_rfl
theorem on216 : oneB PP 216 = true := by kernel_rfl
theorem on222 : oneB PP 222 = true := by kernel_rfl
theorem on288 : oneB PP 288 = true := by kernel_rfl
theorem on289 : oneB PP 289 = true := by kernel_rfl
theorem ro24 : rowB PP 24 10 = true := by kernel_rfl
theorem ro28 : rowB PP 28 14 = true := by kernel_rfl
theorem ro30 : rowB PP 30 10 = true := by kernel_rfl
theorem ro34 : rowB PP 34 14 = true := by kernel_rfl
theorem ro58 : rowB PP 58 3 = true := by kernel_rfl
theorem ro59 : rowB PP 59 3 = true := by kernel_rfl
theorem ro65 : rowB PP 65 16 = true := by kernel_rfl
theorem ro67 : rowB PP 67 2 = true := by kernel_rfl
theorem ro73 : rowB PP 73 10 = true := by kernel_rfl
theorem ro82 : rowB PP 82 256 = true := by kernel_rfl
theorem ro86 : rowB PP 86 258 = true := by kernel_rfl
theorem ro112 : rowB PP 112 16 = true := by kernel_rfl
theorem ro135 : rowB PP 135 260 = true := by kernel_rfl
theorem ro139 : rowB PP 139 261 = true := by kernel_rfl
theorem ro145 : rowB PP 145 2 = true := by kernel_rfl
theorem ro148 : rowB PP 148 10 = true := by kernel_rfl
theorem ro187 : rowB PP 187 4 = true := by kernel_rfl
theorem ro189 : rowB PP 189 4 = true := by kernel_rfl
theorem ro192 : rowB PP 192 256 = true := by kernel_rfl
theorem ro195 : rowB PP 195 256 = true := by kernel_rfl
theorem ro198 : rowB PP 198 517 = true := by kernel_rfl
theorem ro201 : rowB PP 201 256 = true := by kernel_rfl
theorem ro204 : rowB PP 204 257 = true := by kernel_rfl
theorem ro207 : rowB PP 207 1 = true := by kernel_rfl
theorem ro209 : rowB PP 209 16 = true := by kernel_rfl
theorem ro211 : rowB PP 211 16 = true := by kernel_rfl
theorem ro214 : rowB PP 214 259 = true := by kernel_rfl
theorem ro218 : rowB PP 218 1 = true := by kernel_rfl
theorem ro220 : rowB PP 220 2 = true := by kernel_rfl
theorem ro224 : rowB PP 224 258 = true := by kernel_rfl
theorem ro228 : rowB PP 228 258 = true := by kernel_rfl
theorem ro231 : rowB PP 231 2 = true := by kernel_rfl
theorem ro291 : rowB PP 291 2 = true := by kernel_rfl
theorem sl25 : slcB PP 25 58 = true := by kernel_rfl
theorem sl26 : slcB PP 26 112 = true := by kernel_rfl
theorem sl31 : slcB PP 31 59 = true := by kernel_rfl
theorem sl32 : slcB PP 32 65 = true := by kernel_rfl
theorem sl37 : slcB PP 37 5 = true := by kernel_rfl
theorem sl60 : slcB PP 60 32 = true := by kernel_rfl
theorem sl62 : slcB PP 62 9 = true := by kernel_rfl
theorem sl63 : slcB PP 63 67 = true := by kernel_rfl
theorem sl75 : slcB PP 75 139 = true := by kernel_rfl
theorem sl77 : slcB PP 77 86 = true := by kernel_rfl
theorem sl99 : slcB PP 99 3 = true := by kernel_rfl
theorem sl105 : slcB PP 105 37 = true := by kernel_rfl
theorem sl110 : slcB PP 110 145 = true := by kernel_rfl
theorem sl133 : slcB PP 133 26 = true := by kernel_rfl
theorem sl144 : slcB PP 144 143 = true := by kernel_rfl
theorem sl216 : slcB PP 216 220 = true := by kernel_rfl
theorem sl222 : slcB PP 222 291 = true := by kernel_rfl
theorem sl262 : slcB PP 262 22 = true := by kernel_rfl
theorem st9 : strB PP 9 = true := by kernel_rfl
theorem sz3 : szB PP 3 1 = true := by kernel_rfl
theorem sz4 : szB PP 4 1 = true := by kernel_rfl
theorem sz5 : szB PP 5 1 = true := by kernel_rfl
theorem sz9 : szB PP 9 1 = true := by kernel_rfl
theorem sz22 : szB PP 22 1 = true := by kernel_rfl
theorem sz24 : szB PP 24 10 = true := by kernel_rfl
theorem sz25 : szB PP 25 1 = true := by kernel_rfl
theorem sz26 : szB PP 26 1 = true := by kernel_rfl
theorem sz28 : szB PP 28 14 = true := by kernel_rfl
theorem sz31 : szB PP 31 1 = true := by kernel_rfl
theorem sz32 : szB PP 32 1 = true := by kernel_rfl
theorem sz34 : szB PP 34 14 = true := by kernel_rfl
theorem sz37 : szB PP 37 1 = true := by kernel_rfl
theorem sz58 : szB PP 58 3 = true := by kernel_rfl
theorem sz59 : szB PP 59 3 = true := by kernel_rfl
theorem sz61 : szB PP 61 1 = true := by kernel_rfl
theorem sz62 : szB PP 62 1 = true := by kernel_rfl
theorem sz63 : szB PP 63 1 = true := by kernel_rfl
theorem sz65 : szB PP 65 16 = true := by kernel_rfl
theorem sz67 : szB PP 67 2 = true := by kernel_rfl
theorem sz73 : szB PP 73 10 = true := by kernel_rfl
theorem sz75 : szB PP 75 1 = true := by kernel_rfl
theorem sz77 : szB PP 77 1 = true := by kernel_rfl
theorem sz79 : szB PP 79 14 = true := by kernel_rfl
theorem sz82 : szB PP 82 256 = true := by kernel_rfl
theorem sz83 : szB PP 83 1 = true := by kernel_rfl
theorem sz84 : szB PP 84 1 = true := by kernel_rfl
theorem sz86 : szB PP 86 258 = true := by kernel_rfl
theorem sz99 : szB PP 99 1 = true := by kernel_rfl
theorem sz110 : szB PP 110 1 = true := by kernel_rfl
theorem sz112 : szB PP 112 16 = true := by kernel_rfl
theorem sz122 : szB PP 122 1 = true := by kernel_rfl
theorem sz124 : szB PP 124 14 = true := by kernel_rfl
theorem sz135 : szB PP 135 260 = true := by kernel_rfl
theorem sz137 : szB PP 137 1 = true := by kernel_rfl
theorem sz139 : szB PP 139 261 = true := by kernel_rfl
theorem sz143 : szB PP 143 1 = true := by kernel_rfl
theorem sz145 : szB PP 145 2 = true := by kernel_rfl
theorem sz146 : szB PP 146 1 = true := by kernel_rfl
theorem sz148 : szB PP 148 10 = true := by kernel_rfl
theorem sz189 : szB PP 189 4 = true := by kernel_rfl
theorem sz192 : szB PP 192 256 = true := by kernel_rfl
theorem sz195 : szB PP 195 256 = true := by kernel_rfl
theorem sz198 : szB PP 198 517 = true := by kernel_rfl
theorem sz201 : szB PP 201 256 = true := by kernel_rfl
theorem sz204 : szB PP 204 257 = true := by kernel_rfl
theorem sz207 : szB PP 207 1 = true := by kernel_rfl
theorem sz211 : szB PP 211 16 = true := by kernel_rfl
theorem sz214 : szB PP 214 259 = true := by kernel_rfl
theorem sz218 : szB PP 218 1 = true := by kernel_rfl
theorem sz220 : szB PP 220 2 = true := by kernel_rfl
theorem sz222 : szB PP 222 1 = true := by kernel_rfl
theorem sz224 : szB PP 224 258 = true := by kernel_rfl
theorem sz228 : szB PP 228 258 = true := by kernel_rfl
theorem sz231 : szB PP 231 2 = true := by kernel_rfl
theorem sz265 : szB PP 265 14 = true := by kernel_rfl
theorem sz289 : szB PP 289 1 = true := by kernel_rfl
theorem sz291 : szB PP 291 2 = true := by kernel_rfl
theorem zr24 : (PP.info? 24).map (·.zero) = some (some (.agg zs24.flatten.toArray)) := by kernel_rfl
theorem zr28 : (PP.info? 28).map (·.zero) = some (some (.agg zs28.flatten.toArray)) := by kernel_rfl
theorem zr34 : (PP.info? 34).map (·.zero) = some (some (.agg zs34.flatten.toArray)) := by kernel_rfl
theorem zr58 : (PP.info? 58).map (·.zero) = some (some (.agg zs58.flatten.toArray)) := by kernel_rfl
theorem zr59 : (PP.info? 59).map (·.zero) = some (some (.agg zs59.flatten.toArray)) := by kernel_rfl
theorem zr65 : (PP.info? 65).map (·.zero) = some (some (.agg zs65.flatten.toArray)) := by kernel_rfl
theorem zr67 : (PP.info? 67).map (·.zero) = some (some (.agg zs67.flatten.toArray)) := by kernel_rfl
theorem zr73 : (PP.info? 73).map (·.zero) = some (some (.agg zs73.flatten.toArray)) := by kernel_rfl
theorem zr79 : (PP.info? 79).map (·.zero) = some (some (.agg zs79.flatten.toArray)) := by kernel_rfl
theorem zr82 : (PP.info? 82).map (·.zero) = some (some (.agg zs82.flatten.toArray)) := by kernel_rfl
theorem zr86 : (PP.info? 86).map (·.zero) = some (some (.agg zs86.flatten.toArray)) := by kernel_rfl
theorem zr95 : (PP.info? 95).map (·.zero) = some (some (.agg zs95.flatten.toArray)) := by kernel_rfl
theorem zr112 : (PP.info? 112).map (·.zero) = some (some (.agg zs112.flatten.toArray)) := by kernel_rfl
theorem zr116 : (PP.info? 116).map (·.zero) = some (some (.agg zs116.flatten.toArray)) := by kernel_rfl
theorem zr124 : (PP.info? 124).map (·.zero) = some (some (.agg zs124.flatten.toArray)) := by kernel_rfl
theorem zr135 : (PP.info? 135).map (·.zero) = some (some (.agg zs135.flatten.toArray)) := by kernel_rfl
theorem zr139 : (PP.info? 139).map (·.zero) = some (some (.agg zs139.flatten.toArray)) := by kernel_rfl
theorem zr145 : (PP.info? 145).map (·.zero) = some (some (.agg zs145.flatten.toArray)) := by kernel_rfl
theorem zr148 : (PP.info? 148).map (·.zero) = some (some (.agg zs148.flatten.toArray)) := by kernel_rfl
theorem zr168 : (PP.info? 168).map (·.zero) = some (some (.agg zs168.flatten.toArray)) := by kernel_rfl
theorem zr189 : (PP.info? 189).map (·.zero) = some (some (.agg zs189.flatten.toArray)) := by kernel_rfl
theorem zr192 : (PP.info? 192).map (·.zero) = some (some (.agg zs192.flatten.toArray)) := by kernel_rfl
theorem zr195 : (PP.info? 195).map (·.zero) = some (some (.agg zs195.flatten.toArray)) := by kernel_rfl
theorem zr198 : (PP.info? 198).map (·.zero) = some (some (.agg zs198.flatten.toArray)) := by kernel_rfl
theorem zr201 : (PP.info? 201).map (·.zero) = some (some (.agg zs201.flatten.toArray)) := by kernel_rfl
theorem zr204 : (PP.info? 204).map (·.zero) = some (some (.agg zs204.flatten.toArray)) := by kernel_rfl
theorem zr207 : (PP.info? 207).map (·.zero) = some (some (.agg zs207.flatten.toArray)) := by kernel_rfl
theorem zr211 : (PP.info? 211).map (·.zero) = some (some (.agg zs211.flatten.toArray)) := by kernel_rfl
theorem zr214 : (PP.info? 214).map (·.zero) = some (some (.agg zs214.flatten.toArray)) := by kernel_rfl
theorem zr218 : (PP.info? 218).map (·.zero) = some (some (.agg zs218.flatten.toArray)) := by kernel_rfl
theorem zr220 : (PP.info? 220).map (·.zero) = some (some (.agg zs220.flatten.toArray)) := by kernel_rfl
theorem zr224 : (PP.info? 224).map (·.zero) = some (some (.agg zs224.flatten.toArray)) := by kernel_rfl
theorem zr228 : (PP.info? 228).map (·.zero) = some (some (.agg zs228.flatten.toArray)) := by kernel_rfl
theorem zr231 : (PP.info? 231).map (·.zero) = some (some (.agg zs231.flatten.toArray)) := by kernel_rfl
theorem zr291 : (PP.info? 291).map (·.zero) = some (some (.agg zs291.flatten.toArray)) := by kernel_rfl
end Go.Proofs.YtifnodoffgfpbaaGreatDoor
