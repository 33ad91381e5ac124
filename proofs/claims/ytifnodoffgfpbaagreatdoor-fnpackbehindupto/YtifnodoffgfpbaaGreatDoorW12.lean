/- Walks: names and headers that are converted. Conditions: none. -/
import Derived.Test.YtifnodoffgfpbaaGreatDoorW11
import Derived.Test.YtifnodoffgfpbaaGreatDoorMp
namespace Go.Proofs.YtifnodoffgfpbaaGreatDoor
open Go

def questSegs (a : AskD) : List (List Value) := [nm (bt a.name), [.int .u16 (a.typ.toNat : Int)], [.int .u16 (a.cls.toNat : Int)]]
def rhSegs (s : List UInt8) (typ cls : UInt16) (ttl : UInt32) (len : Nat) : List (List Value) := [nm s, [.int .u16 (typ.toNat : Int)], [.int .u16 (cls.toNat : Int)], [.int .u32 (ttl.toNat : Int)], [.int .u16 (len : Int)]]
theorem nm_nil : [nm []].flatten = bvs (List.replicate 255 0) ++ [Value.int .u8 0] := by
  simp only [List.flatten_cons, List.flatten_nil, List.append_nil, nm, List.nil_append, List.length_nil]
  rw [List.take_of_length_le (by rw [List.length_replicate]; exact Nat.le_refl _)]
  rfl
theorem nm_copy (s : ByteArray) (_h : s.size ≤ 255) (v : Value) (hv : v = .int .u8 (s.size : Int)) : ((bvs (fixedL (bt s) 255) ++ [Value.int .u8 0]).set 255 v) = [nm (bt s)].flatten := by
  subst hv
  have hl : (bvs (fixedL (bt s) 255)).length = 255 := by simp [bvs, fixedL_length]
  rw [List.set_append_right _ _ (by omega), hl]
  simp only [Nat.sub_self, List.set_cons_zero, List.flatten_cons, List.flatten_nil, List.append_nil, nm, fixedL, bt_length]

set_option maxHeartbeats 4000000 in
set_option maxRecDepth 100000 in
theorem c36 {w : World} {h : HeadD} :
    Ret PP 36 [ag (headSegs h)] w (fun u w' => u = ag (headSegs h) ∧ Fr0 w w') := by
  have hf : Fr (fun _ => False) w w := Fr.refl _ _
  refine ret_of Tryz.func36 rfl rfl rfl [(0, _)] rfl ?_
  refine sreg ?_
  refine svK (xboxS (lens := [1, 1, 1, 1, 1, 1, 1, 1, 1, 1]) rfl rfl) ?_
  rintro _ w2 ⟨b1, rfl, m3, h1, e1, s1⟩
  have hf := hf.step0 m3
  refine svK (xallS (lens := [1, 1, 1, 1, 1, 1, 1, 1, 1, 1]) in73 rfl) ?_
  rintro _ w5 ⟨b2, rfl, m6, h2, e4, s4⟩
  have hf := hf.step0 m6
  have h1 := h1.keep m6 (fun h => h)
  refine send ?_
  refine forget_wp [(1, _), (2, _)] ⟨rfl, rfl, trivial⟩ fun _ => ?_
  refine sreg ?_
  refine sv (xfld fl24_0 rfl) ?_
  refine sv (xld on22 rfl (h1.r.c 0 rfl rfl)) ?_
  refine sv (xfld fl24_1 rfl) ?_
  refine sv (xld on4 rfl (h1.r.c 1 rfl rfl)) ?_
  refine sv (xfld fl24_2 rfl) ?_
  refine sv (xld on22 rfl (h1.r.c 2 rfl rfl)) ?_
  refine sv (xfld fl24_3 rfl) ?_
  refine sv (xld on4 rfl (h1.r.c 3 rfl rfl)) ?_
  refine sv (xfld fl24_4 rfl) ?_
  refine sv (xld on4 rfl (h1.r.c 4 rfl rfl)) ?_
  refine sv (xfld fl24_5 rfl) ?_
  refine sv (xld on4 rfl (h1.r.c 5 rfl rfl)) ?_
  refine sv (xfld fl24_6 rfl) ?_
  refine sv (xld on4 rfl (h1.r.c 6 rfl rfl)) ?_
  refine sv (xfld fl24_7 rfl) ?_
  refine sv (xld on4 rfl (h1.r.c 7 rfl rfl)) ?_
  refine sv (xfld fl24_8 rfl) ?_
  refine sv (xld on4 rfl (h1.r.c 8 rfl rfl)) ?_
  refine sv (xfld fl24_9 rfl) ?_
  refine sv (xld on22 rfl (h1.r.c 9 rfl rfl)) ?_
  refine sv (xbuildS (headSegs h) zr73 ly73 rfl (by simp [fitAll, zs73, Value.cells]) rfl) ?_
  refine suK (xstW h2 (lens' := [1, 1, 1, 1, 1, 1, 1, 1, 1, 1]) sz73 rfl rfl rfl rfl rfl) ?_
  rintro w8 ⟨m9, h2, s7⟩
  have hf := hf.step m9 (fun k hk hS => by have hS : k = b2 := hS; show False; omega)
  have h1 := h1.keep m9 (by show ¬ (b1 = b2); omega)
  refine send ?_
  refine forget_wp [(2, _)] ⟨rfl, trivial⟩ fun _ => ?_
  refine wp_ret ?_
  refine rp1 rfl ⟨_, rfl, ldS (lens := [1, 1, 1, 1, 1, 1, 1, 1, 1, 1]) ro73 h2.r⟩ ?_
  exact ⟨rfl, hf⟩
set_option maxHeartbeats 4000000 in
set_option maxRecDepth 100000 in
theorem c89 {w : World} {s : ByteArray} (hs : s.size ≤ 255) :
    Ret PP 89 [.string s] w (fun u w' => u = ag [nm (bt s)] ∧ Fr0 w w') := by
  have hf : Fr (fun _ => False) w w := Fr.refl _ _
  refine ret_of Tryz.func89 rfl rfl rfl [(0, _)] rfl ?_
  refine sreg ?_
  refine svK (xallS (lens := [256]) in82 (by simp [nm_length])) ?_
  rintro _ w2 ⟨b2, rfl, m3, h2, e1, s1⟩
  have hf := hf.step0 m3
  refine send ?_
  refine forget_wp [(0, _), (2, _)] ⟨rfl, rfl, trivial⟩ fun _ => ?_
  refine sreg ?_
  refine sv (xbuildS [nm []] zr82 ly82 rfl trivial rfl) ?_
  refine svK (xallS (lens := [256]) in82 (by simp [nm_length])) ?_
  rintro _ w5 ⟨b3, rfl, m6, h3, e4, s4⟩
  have hf := hf.step0 m6
  have h2 := h2.keep m6 (fun h => h)
  refine suK (xstW h3 (lens' := [256]) sz82 (by simp [nm_length]) rfl (by simp only [List.flatten_cons, List.flatten_nil, List.append_nil, nm_one] <;> rfl) rfl rfl) ?_
  rintro w8 ⟨m9, h3, s7⟩
  have hf := hf.step m9 (fun k hk hS => by have hS : k = b3 := hS; show False; omega)
  have h2 := h2.keep m9 (by show ¬ (b2 = b3); omega)
  refine send ?_
  refine forget_wp [(0, _), (2, _), (3, _)] ⟨rfl, rfl, rfl, trivial⟩ fun _ => ?_
  refine sreg ?_
  refine sv (xfld fl82_0 rfl) ?_
  refine sv (xcutA ar80 sz5 rfl) ?_
  refine sv (xmove rfl) ?_
  have k3 : Blk w8 b3 (bvs (List.replicate 255 0) ++ [Value.int .u8 0]) := by rw [← nm_nil]; exact h3.1
  refine svK (xcopyZ sl37 sz5 rfl rfl (cpy_str s) k3) ?_
  rintro _ w10 ⟨rfl, m11, k3, s8⟩
  have hf := hf.step m11 (fun k hk hS => by have hS : k = b3 := hS; show False; omega)
  have h2 := h2.keep m11 (by show ¬ (b2 = b3); omega)
  refine sv (xconv hs3 ki5 rfl (wu8n s.size (by rw [bt_length]; omega))) ?_
  refine sv (xfld fl82_1 rfl) ?_
  refine suK (xst (i := 255) sz5 rfl rfl k3 (by simp [bvs, fixedL_length]) rfl) ?_
  rintro w12 ⟨m13, k3, s10⟩
  have hf := hf.step m13 (fun k hk hS => by have hS : k = b3 := hS; show False; omega)
  have h2 := h2.keep m13 (by show ¬ (b2 = b3); omega)
  rw [nm_copy s hs _ rfl] at k3
  have h3 : SB w12 b3 [256] [nm (bt s)] := ⟨k3, by simp [nm_length]⟩
  refine send ?_
  refine forget_wp [(2, _), (3, _)] ⟨rfl, rfl, trivial⟩ fun _ => ?_
  refine sreg ?_
  refine sv (xldS (lens := [256]) ro82 rfl h3.r) ?_
  refine suK (xstW h2 (lens' := [256]) sz82 (by simp [nm_length]) rfl (by simp only [List.flatten_cons, List.flatten_nil, List.append_nil, nm_one] <;> rfl) rfl rfl) ?_
  rintro w15 ⟨m16, h2, s14⟩
  have hf := hf.step m16 (fun k hk hS => by have hS : k = b2 := hS; show False; omega)
  have h3 := h3.keep m16 (by show ¬ (b3 = b2); omega)
  refine send ?_
  refine forget_wp [(2, _)] ⟨rfl, trivial⟩ fun _ => ?_
  refine wp_ret ?_
  refine rp1 rfl ⟨_, rfl, ldS (lens := [256]) ro82 h2.r⟩ ?_
  exact ⟨rfl, hf⟩
set_option maxHeartbeats 4000000 in
set_option maxRecDepth 100000 in
theorem c38 {w : World} {a : AskD} (hs : a.name.size ≤ 255) :
    Ret PP 38 [ag (askSegs a)] w (fun u w' => u = ag (questSegs a) ∧ Fr0 w w') := by
  have hf : Fr (fun _ => False) w w := Fr.refl _ _
  refine ret_of Tryz.func38 rfl rfl rfl [(0, _)] rfl ?_
  refine sreg ?_
  refine svK (xboxS (lens := [1, 1, 1]) rfl rfl) ?_
  rintro _ w2 ⟨b1, rfl, m3, h1, e1, s1⟩
  have hf := hf.step0 m3
  refine svK (xallS (lens := [256, 1, 1]) in86 (by simp [nm_length])) ?_
  rintro _ w5 ⟨b2, rfl, m6, h2, e4, s4⟩
  have hf := hf.step0 m6
  have h1 := h1.keep m6 (fun h => h)
  refine send ?_
  refine forget_wp [(1, _), (2, _)] ⟨rfl, rfl, trivial⟩ fun _ => ?_
  refine sdraw (Fr (fun _ => False) w5.drew) [(0, .rd), (1, .rd), (3, .rd), (4, .rd), (5, .rd), (6, .rd), (2, .ld), (7, .rd), (8, .bh)] mixed (by kernel_rfl) (fun _ _ _ _ _ h => h) ?_
  have z7 : w5.drew.heap.size = w5.heap.size := rfl
  have hf := hf.drew
  have h1 := h1.drew
  have h2 := h2.drew
  have hS8 : Fr (fun _ => False) w5.drew w5.drew := Fr.refl _ _
  refine hv rfl (fun _ _ => xfld fl58_0 rfl) hS8 ?_
  refine hv rfl (fun w' hS => xld on9 rfl ((h1.keep hS (fun h => h)).r.c 0 rfl rfl)) hS8 ?_
  refine hv rfl (fun _ _ => xfld fl58_1 rfl) hS8 ?_
  refine hv rfl (fun w' hS => xld on22 rfl ((h1.keep hS (fun h => h)).r.c 1 rfl rfl)) hS8 ?_
  refine hv rfl (fun _ _ => xfld fl58_2 rfl) hS8 ?_
  refine hv rfl (fun w' hS => xld on22 rfl ((h1.keep hS (fun h => h)).r.c 2 rfl rfl)) hS8 ?_
  refine hc rfl (xcall ca89 rfl) (c89 (by omega)) ?_
  rintro _ w9 ⟨rfl, m10⟩
  have z11 := m10.size
  have hf := hf.step0 m10
  have h1 := h1.keep m10 (fun h => h)
  have h2 := h2.keep m10 (fun h => h)
  have hS12 := hS8.step0 m10
  refine ⟨hS12, ?_⟩
  refine hv rfl (fun _ _ => xbuildS (questSegs a) zr86 ly86 rfl (by simp [fitAll, zs86, Value.cells, nm_length]) (by simp [setAll, zs86, Value.cells, questSegs])) hS12 ?_
  refine bluK rfl (xstW h2 (lens' := [256, 1, 1]) sz86 (by simp [questSegs, nm_length]) rfl (by simp only [questSegs, List.flatten_cons, List.flatten_nil, List.all_append, List.append_nil, nm_one, Bool.true_and] <;> rfl) rfl rfl) ?_
  rintro w14 ⟨m15, h2, s13⟩
  have hf := hf.step m15 (fun k hk hS => by have hS : k = b2 := hS; show False; omega)
  have h1 := h1.keep m15 (by show ¬ (b1 = b2); omega)
  refine hend ?_
  refine forget_wp [(2, _)] ⟨rfl, trivial⟩ fun _ => ?_
  refine wp_ret ?_
  refine rp1 rfl ⟨_, rfl, ldS (lens := [256, 1, 1]) ro86 h2.r⟩ ?_
  exact ⟨rfl, hf⟩
set_option maxHeartbeats 4000000 in
set_option maxRecDepth 100000 in
theorem c87 {w : World} {r : RecD} {vd vt vp : Value} (hs : r.name.size ≤ 255) :
    Ret PP 87 [ag (recSegs r vd vt vp)] w (fun u w' => u = ag (rhSegs (bt r.name) r.typ r.cls r.ttl r.len.toNat) ∧ Fr0 w w') := by
  have hf : Fr (fun _ => False) w w := Fr.refl _ _
  refine ret_of Tryz.func87 rfl rfl rfl [(0, _)] rfl ?_
  refine sreg ?_
  refine svK (xboxS (lens := [1, 1, 1, 1, 1, 1, 1, 1, 1, 1, 1, 1, 1, 1, 1, 1]) rfl rfl) ?_
  rintro _ w2 ⟨b1, rfl, m3, h1, e1, s1⟩
  have hf := hf.step0 m3
  refine svK (xallS (lens := [256, 1, 1, 1, 1]) in135 (by simp [nm_length])) ?_
  rintro _ w5 ⟨b2, rfl, m6, h2, e4, s4⟩
  have hf := hf.step0 m6
  have h1 := h1.keep m6 (fun h => h)
  refine send ?_
  refine forget_wp [(1, _), (2, _)] ⟨rfl, rfl, trivial⟩ fun _ => ?_
  refine sdraw (Fr (fun _ => False) w5.drew) [(0, .rd), (1, .rd), (3, .rd), (4, .rd), (5, .rd), (6, .rd), (7, .rd), (8, .rd), (9, .rd), (10, .rd), (2, .ld), (11, .rd), (12, .bh)] mixed (by kernel_rfl) (fun _ _ _ _ _ h => h) ?_
  have z7 : w5.drew.heap.size = w5.heap.size := rfl
  have hf := hf.drew
  have h1 := h1.drew
  have h2 := h2.drew
  have hS8 : Fr (fun _ => False) w5.drew w5.drew := Fr.refl _ _
  refine hv rfl (fun _ _ => xfld fl112_0 rfl) hS8 ?_
  refine hv rfl (fun w' hS => xld on9 rfl ((h1.keep hS (fun h => h)).r.c 0 rfl rfl)) hS8 ?_
  refine hv rfl (fun _ _ => xfld fl112_1 rfl) hS8 ?_
  refine hv rfl (fun w' hS => xld on22 rfl ((h1.keep hS (fun h => h)).r.c 1 rfl rfl)) hS8 ?_
  refine hv rfl (fun _ _ => xfld fl112_2 rfl) hS8 ?_
  refine hv rfl (fun w' hS => xld on22 rfl ((h1.keep hS (fun h => h)).r.c 2 rfl rfl)) hS8 ?_
  refine hv rfl (fun _ _ => xfld fl112_3 rfl) hS8 ?_
  refine hv rfl (fun w' hS => xld on61 rfl ((h1.keep hS (fun h => h)).r.c 3 rfl rfl)) hS8 ?_
  refine hv rfl (fun _ _ => xfld fl112_4 rfl) hS8 ?_
  refine hv rfl (fun w' hS => xld on22 rfl ((h1.keep hS (fun h => h)).r.c 4 rfl rfl)) hS8 ?_
  refine hc rfl (xcall ca89 rfl) (c89 (by omega)) ?_
  rintro _ w9 ⟨rfl, m10⟩
  have z11 := m10.size
  have hf := hf.step0 m10
  have h1 := h1.keep m10 (fun h => h)
  have h2 := h2.keep m10 (fun h => h)
  have hS12 := hS8.step0 m10
  refine ⟨hS12, ?_⟩
  refine hv rfl (fun _ _ => xbuildS (rhSegs (bt r.name) r.typ r.cls r.ttl r.len.toNat) zr135 ly135 rfl (by simp [fitAll, zs135, Value.cells, nm_length]) (by simp [setAll, zs135, Value.cells, rhSegs])) hS12 ?_
  refine bluK rfl (xstW h2 (lens' := [256, 1, 1, 1, 1]) sz135 (by simp [rhSegs, nm_length]) rfl (by simp only [rhSegs, List.flatten_cons, List.flatten_nil, List.all_append, List.append_nil, nm_one, Bool.true_and] <;> rfl) rfl rfl) ?_
  rintro w14 ⟨m15, h2, s13⟩
  have hf := hf.step m15 (fun k hk hS => by have hS : k = b2 := hS; show False; omega)
  have h1 := h1.keep m15 (by show ¬ (b1 = b2); omega)
  refine hend ?_
  refine forget_wp [(2, _)] ⟨rfl, trivial⟩ fun _ => ?_
  refine wp_ret ?_
  refine rp1 rfl ⟨_, rfl, ldS (lens := [256, 1, 1, 1, 1]) ro135 h2.r⟩ ?_
  exact ⟨rfl, hf⟩
end Go.Proofs.YtifnodoffgfpbaaGreatDoor
