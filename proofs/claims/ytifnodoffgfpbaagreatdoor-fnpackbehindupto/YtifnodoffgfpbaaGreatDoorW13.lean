/- Walks: bodies that are converted. Conditions: none. -/
import Derived.Test.YtifnodoffgfpbaaGreatDoorW12
namespace Go.Proofs.YtifnodoffgfpbaaGreatDoor
open Go
set_option maxHeartbeats 4000000 in
set_option maxRecDepth 100000 in
theorem c119 {w : World} {r : RecD} {vd vt vp : Value} (hs : r.host.size ≤ 255)  :
    Ret PP 119 [ag (recSegs r vd vt vp)] w (fun u w' => u = ag [nm (bt r.host)] ∧ Fr0 w w') := by
  have hf : Fr (fun _ => False) w w := Fr.refl _ _
  refine ret_of Tryz.func119 rfl rfl rfl [(0, _)] rfl ?_
  refine sreg ?_
  refine svK (xboxS (lens := [1, 1, 1, 1, 1, 1, 1, 1, 1, 1, 1, 1, 1, 1, 1, 1]) rfl rfl) ?_
  rintro _ w2 ⟨b1, rfl, m3, h1, e1, s1⟩
  have hf := hf.step0 m3
  refine svK (xallS (lens := [256]) in192 (by simp [nm_length])) ?_
  rintro _ w5 ⟨b2, rfl, m6, h2, e4, s4⟩
  have hf := hf.step0 m6
  have h1 := h1.keep m6 (fun h => h)
  refine send ?_
  refine forget_wp [(1, _), (2, _)] ⟨rfl, rfl, trivial⟩ fun _ => ?_
  refine sreg ?_
  refine sv (xfld fl112_7 rfl) ?_
  refine sv (xld on9 rfl (h1.r.c 7 rfl rfl)) ?_
  refine sc (xcall ca89 rfl) (c89 (by omega)) ?_
  rintro _ w7 ⟨rfl, m8⟩
  have z9 := m8.size
  have hf := hf.step0 m8
  have h1 := h1.keep m8 (fun h => h)
  have h2 := h2.keep m8 (fun h => h)
  refine sv (xbuildS [nm (bt r.host)] zr192 ly192 rfl (by simp [fitAll, zs192, Value.cells, nm_length]) (by simp [setAll, zs192, Value.cells])) ?_
  refine suK (xstW h2 (lens' := [256]) sz192 (by simp [nm_length]) rfl (by simp only [List.flatten_cons, List.flatten_nil, List.append_nil, nm_one] <;> rfl) rfl rfl) ?_
  rintro w11 ⟨m12, h2, s10⟩
  have hf := hf.step m12 (fun k hk hS => by have hS : k = b2 := hS; show False; omega)
  have h1 := h1.keep m12 (by show ¬ (b1 = b2); omega)
  refine send ?_
  refine forget_wp [(2, _)] ⟨rfl, trivial⟩ fun _ => ?_
  refine wp_ret ?_
  refine rp1 rfl ⟨_, rfl, ldS (lens := [256]) ro192 h2.r⟩ ?_
  exact ⟨rfl, hf⟩
set_option maxHeartbeats 4000000 in
set_option maxRecDepth 100000 in
theorem c121 {w : World} {r : RecD} {vd vt vp : Value} (hs : r.host.size ≤ 255)  :
    Ret PP 121 [ag (recSegs r vd vt vp)] w (fun u w' => u = ag [nm (bt r.host)] ∧ Fr0 w w') := by
  have hf : Fr (fun _ => False) w w := Fr.refl _ _
  refine ret_of Tryz.func121 rfl rfl rfl [(0, _)] rfl ?_
  refine sreg ?_
  refine svK (xboxS (lens := [1, 1, 1, 1, 1, 1, 1, 1, 1, 1, 1, 1, 1, 1, 1, 1]) rfl rfl) ?_
  rintro _ w2 ⟨b1, rfl, m3, h1, e1, s1⟩
  have hf := hf.step0 m3
  refine svK (xallS (lens := [256]) in195 (by simp [nm_length])) ?_
  rintro _ w5 ⟨b2, rfl, m6, h2, e4, s4⟩
  have hf := hf.step0 m6
  have h1 := h1.keep m6 (fun h => h)
  refine send ?_
  refine forget_wp [(1, _), (2, _)] ⟨rfl, rfl, trivial⟩ fun _ => ?_
  refine sreg ?_
  refine sv (xfld fl112_7 rfl) ?_
  refine sv (xld on9 rfl (h1.r.c 7 rfl rfl)) ?_
  refine sc (xcall ca89 rfl) (c89 (by omega)) ?_
  rintro _ w7 ⟨rfl, m8⟩
  have z9 := m8.size
  have hf := hf.step0 m8
  have h1 := h1.keep m8 (fun h => h)
  have h2 := h2.keep m8 (fun h => h)
  refine sv (xbuildS [nm (bt r.host)] zr195 ly195 rfl (by simp [fitAll, zs195, Value.cells, nm_length]) (by simp [setAll, zs195, Value.cells])) ?_
  refine suK (xstW h2 (lens' := [256]) sz195 (by simp [nm_length]) rfl (by simp only [List.flatten_cons, List.flatten_nil, List.append_nil, nm_one] <;> rfl) rfl rfl) ?_
  rintro w11 ⟨m12, h2, s10⟩
  have hf := hf.step m12 (fun k hk hS => by have hS : k = b2 := hS; show False; omega)
  have h1 := h1.keep m12 (by show ¬ (b1 = b2); omega)
  refine send ?_
  refine forget_wp [(2, _)] ⟨rfl, trivial⟩ fun _ => ?_
  refine wp_ret ?_
  refine rp1 rfl ⟨_, rfl, ldS (lens := [256]) ro195 h2.r⟩ ?_
  exact ⟨rfl, hf⟩
set_option maxHeartbeats 4000000 in
set_option maxRecDepth 100000 in
theorem c125 {w : World} {r : RecD} {vd vt vp : Value} (hs : r.host.size ≤ 255)  :
    Ret PP 125 [ag (recSegs r vd vt vp)] w (fun u w' => u = ag [nm (bt r.host)] ∧ Fr0 w w') := by
  have hf : Fr (fun _ => False) w w := Fr.refl _ _
  refine ret_of Tryz.func125 rfl rfl rfl [(0, _)] rfl ?_
  refine sreg ?_
  refine svK (xboxS (lens := [1, 1, 1, 1, 1, 1, 1, 1, 1, 1, 1, 1, 1, 1, 1, 1]) rfl rfl) ?_
  rintro _ w2 ⟨b1, rfl, m3, h1, e1, s1⟩
  have hf := hf.step0 m3
  refine svK (xallS (lens := [256]) in201 (by simp [nm_length])) ?_
  rintro _ w5 ⟨b2, rfl, m6, h2, e4, s4⟩
  have hf := hf.step0 m6
  have h1 := h1.keep m6 (fun h => h)
  refine send ?_
  refine forget_wp [(1, _), (2, _)] ⟨rfl, rfl, trivial⟩ fun _ => ?_
  refine sreg ?_
  refine sv (xfld fl112_7 rfl) ?_
  refine sv (xld on9 rfl (h1.r.c 7 rfl rfl)) ?_
  refine sc (xcall ca89 rfl) (c89 (by omega)) ?_
  rintro _ w7 ⟨rfl, m8⟩
  have z9 := m8.size
  have hf := hf.step0 m8
  have h1 := h1.keep m8 (fun h => h)
  have h2 := h2.keep m8 (fun h => h)
  refine sv (xbuildS [nm (bt r.host)] zr201 ly201 rfl (by simp [fitAll, zs201, Value.cells, nm_length]) (by simp [setAll, zs201, Value.cells])) ?_
  refine suK (xstW h2 (lens' := [256]) sz201 (by simp [nm_length]) rfl (by simp only [List.flatten_cons, List.flatten_nil, List.append_nil, nm_one] <;> rfl) rfl rfl) ?_
  rintro w11 ⟨m12, h2, s10⟩
  have hf := hf.step m12 (fun k hk hS => by have hS : k = b2 := hS; show False; omega)
  have h1 := h1.keep m12 (by show ¬ (b1 = b2); omega)
  refine send ?_
  refine forget_wp [(2, _)] ⟨rfl, trivial⟩ fun _ => ?_
  refine wp_ret ?_
  refine rp1 rfl ⟨_, rfl, ldS (lens := [256]) ro201 h2.r⟩ ?_
  exact ⟨rfl, hf⟩
set_option maxHeartbeats 4000000 in
set_option maxRecDepth 100000 in
theorem c127 {w : World} {r : RecD} {vd vt vp : Value} (hs : r.host.size ≤ 255)  :
    Ret PP 127 [ag (recSegs r vd vt vp)] w (fun u w' => u = ag [[.int .u16 ((r.n1.toNat % 65536 : Nat) : Int)], nm (bt r.host)] ∧ Fr0 w w') := by
  have hf : Fr (fun _ => False) w w := Fr.refl _ _
  refine ret_of Tryz.func127 rfl rfl rfl [(0, _)] rfl ?_
  refine sreg ?_
  refine svK (xboxS (lens := [1, 1, 1, 1, 1, 1, 1, 1, 1, 1, 1, 1, 1, 1, 1, 1]) rfl rfl) ?_
  rintro _ w2 ⟨b1, rfl, m3, h1, e1, s1⟩
  have hf := hf.step0 m3
  refine svK (xallS (lens := [1, 256]) in204 (by simp [nm_length])) ?_
  rintro _ w5 ⟨b2, rfl, m6, h2, e4, s4⟩
  have hf := hf.step0 m6
  have h1 := h1.keep m6 (fun h => h)
  refine send ?_
  refine forget_wp [(1, _), (2, _)] ⟨rfl, rfl, trivial⟩ fun _ => ?_
  refine sdraw (Fr (fun _ => False) w5.drew) [(0, .rd), (1, .rd), (2, .rd), (3, .rd), (4, .rd), (5, .ld), (6, .rd), (7, .bh)] mixed (by kernel_rfl) (fun _ _ _ _ _ h => h) ?_
  have z7 : w5.drew.heap.size = w5.heap.size := rfl
  have hf := hf.drew
  have h1 := h1.drew
  have h2 := h2.drew
  have hS8 : Fr (fun _ => False) w5.drew w5.drew := Fr.refl _ _
  refine hv rfl (fun _ _ => xfld fl112_9 rfl) hS8 ?_
  refine hv rfl (fun w' hS => xld on61 rfl ((h1.keep hS (fun h => h)).r.c 9 rfl rfl)) hS8 ?_
  refine hv rfl (fun _ _ => xconv hs61 ki22 rfl (wu16n (r.n1.toNat % 65536) (by omega))) hS8 ?_
  refine hv rfl (fun _ _ => xfld fl112_7 rfl) hS8 ?_
  refine hv rfl (fun w' hS => xld on9 rfl ((h1.keep hS (fun h => h)).r.c 7 rfl rfl)) hS8 ?_
  refine hc rfl (xcall ca89 rfl) (c89 (by omega)) ?_
  rintro _ w9 ⟨rfl, m10⟩
  have z11 := m10.size
  have hf := hf.step0 m10
  have h1 := h1.keep m10 (fun h => h)
  have h2 := h2.keep m10 (fun h => h)
  have hS12 := hS8.step0 m10
  refine ⟨hS12, ?_⟩
  refine hv rfl (fun _ _ => xbuildS [[.int .u16 ((r.n1.toNat % 65536 : Nat) : Int)], nm (bt r.host)] zr204 ly204 rfl (by simp [fitAll, zs204, Value.cells, nm_length]) (by simp [setAll, zs204, Value.cells])) hS12 ?_
  refine bluK rfl (xstW h2 (lens' := [1, 256]) sz204 (by simp [nm_length]) rfl (by simp only [List.flatten_cons, List.flatten_nil, List.all_append, List.append_nil, nm_one] <;> rfl) rfl rfl) ?_
  rintro w14 ⟨m15, h2, s13⟩
  have hf := hf.step m15 (fun k hk hS => by have hS : k = b2 := hS; show False; omega)
  have h1 := h1.keep m15 (by show ¬ (b1 = b2); omega)
  refine hend ?_
  refine forget_wp [(2, _)] ⟨rfl, trivial⟩ fun _ => ?_
  refine wp_ret ?_
  refine rp1 rfl ⟨_, rfl, ldS (lens := [1, 256]) ro204 h2.r⟩ ?_
  exact ⟨rfl, hf⟩
set_option maxHeartbeats 4000000 in
set_option maxRecDepth 100000 in
theorem c133 {w : World} {r : RecD} {vd vt vp : Value} (hs : r.host.size ≤ 255)  :
    Ret PP 133 [ag (recSegs r vd vt vp)] w (fun u w' => u = ag [[.int .u16 ((r.n1.toNat % 65536 : Nat) : Int)], [.int .u16 ((r.n2.toNat % 65536 : Nat) : Int)], [.int .u16 ((r.n3.toNat % 65536 : Nat) : Int)], nm (bt r.host)] ∧ Fr0 w w') := by
  have hf : Fr (fun _ => False) w w := Fr.refl _ _
  refine ret_of Tryz.func133 rfl rfl rfl [(0, _)] rfl ?_
  refine sreg ?_
  refine svK (xboxS (lens := [1, 1, 1, 1, 1, 1, 1, 1, 1, 1, 1, 1, 1, 1, 1, 1]) rfl rfl) ?_
  rintro _ w2 ⟨b1, rfl, m3, h1, e1, s1⟩
  have hf := hf.step0 m3
  refine svK (xallS (lens := [1, 1, 1, 256]) in214 (by simp [nm_length])) ?_
  rintro _ w5 ⟨b2, rfl, m6, h2, e4, s4⟩
  have hf := hf.step0 m6
  have h1 := h1.keep m6 (fun h => h)
  refine send ?_
  refine forget_wp [(1, _), (2, _)] ⟨rfl, rfl, trivial⟩ fun _ => ?_
  refine sdraw (Fr (fun _ => False) w5.drew) [(0, .rd), (1, .rd), (2, .rd), (3, .rd), (4, .rd), (5, .rd), (6, .rd), (7, .rd), (8, .rd), (9, .rd), (10, .rd), (11, .ld), (12, .rd), (13, .bh)] mixed (by kernel_rfl) (fun _ _ _ _ _ h => h) ?_
  have z7 : w5.drew.heap.size = w5.heap.size := rfl
  have hf := hf.drew
  have h1 := h1.drew
  have h2 := h2.drew
  have hS8 : Fr (fun _ => False) w5.drew w5.drew := Fr.refl _ _
  refine hv rfl (fun _ _ => xfld fl112_9 rfl) hS8 ?_
  refine hv rfl (fun w' hS => xld on61 rfl ((h1.keep hS (fun h => h)).r.c 9 rfl rfl)) hS8 ?_
  refine hv rfl (fun _ _ => xconv hs61 ki22 rfl (wu16n (r.n1.toNat % 65536) (by omega))) hS8 ?_
  refine hv rfl (fun _ _ => xfld fl112_10 rfl) hS8 ?_
  refine hv rfl (fun w' hS => xld on61 rfl ((h1.keep hS (fun h => h)).r.c 10 rfl rfl)) hS8 ?_
  refine hv rfl (fun _ _ => xconv hs61 ki22 rfl (wu16n (r.n2.toNat % 65536) (by omega))) hS8 ?_
  refine hv rfl (fun _ _ => xfld fl112_11 rfl) hS8 ?_
  refine hv rfl (fun w' hS => xld on61 rfl ((h1.keep hS (fun h => h)).r.c 11 rfl rfl)) hS8 ?_
  refine hv rfl (fun _ _ => xconv hs61 ki22 rfl (wu16n (r.n3.toNat % 65536) (by omega))) hS8 ?_
  refine hv rfl (fun _ _ => xfld fl112_7 rfl) hS8 ?_
  refine hv rfl (fun w' hS => xld on9 rfl ((h1.keep hS (fun h => h)).r.c 7 rfl rfl)) hS8 ?_
  refine hc rfl (xcall ca89 rfl) (c89 (by omega)) ?_
  rintro _ w9 ⟨rfl, m10⟩
  have z11 := m10.size
  have hf := hf.step0 m10
  have h1 := h1.keep m10 (fun h => h)
  have h2 := h2.keep m10 (fun h => h)
  have hS12 := hS8.step0 m10
  refine ⟨hS12, ?_⟩
  refine hv rfl (fun _ _ => xbuildS [[.int .u16 ((r.n1.toNat % 65536 : Nat) : Int)], [.int .u16 ((r.n2.toNat % 65536 : Nat) : Int)], [.int .u16 ((r.n3.toNat % 65536 : Nat) : Int)], nm (bt r.host)] zr214 ly214 rfl (by simp [fitAll, zs214, Value.cells, nm_length]) (by simp [setAll, zs214, Value.cells])) hS12 ?_
  refine bluK rfl (xstW h2 (lens' := [1, 1, 1, 256]) sz214 (by simp [nm_length]) rfl (by simp only [List.flatten_cons, List.flatten_nil, List.all_append, List.append_nil, nm_one] <;> rfl) rfl rfl) ?_
  rintro w14 ⟨m15, h2, s13⟩
  have hf := hf.step m15 (fun k hk hS => by have hS : k = b2 := hS; show False; omega)
  have h1 := h1.keep m15 (by show ¬ (b1 = b2); omega)
  refine hend ?_
  refine forget_wp [(2, _)] ⟨rfl, trivial⟩ fun _ => ?_
  refine wp_ret ?_
  refine rp1 rfl ⟨_, rfl, ldS (lens := [1, 1, 1, 256]) ro214 h2.r⟩ ?_
  exact ⟨rfl, hf⟩
set_option maxHeartbeats 4000000 in
set_option maxRecDepth 100000 in
theorem c123 {w : World} {r : RecD} {vd vt vp : Value} (hs : r.host.size ≤ 255) (hs2 : r.box.size ≤ 255) :
    Ret PP 123 [ag (recSegs r vd vt vp)] w (fun u w' => u = ag [nm (bt r.host), nm (bt r.box), [.int .u32 (r.n1.toNat : Int)], [.int .u32 (r.n2.toNat : Int)], [.int .u32 (r.n3.toNat : Int)], [.int .u32 (r.n4.toNat : Int)], [.int .u32 (r.n5.toNat : Int)]] ∧ Fr0 w w') := by
  have hf : Fr (fun _ => False) w w := Fr.refl _ _
  refine ret_of Tryz.func123 rfl rfl rfl [(0, _)] rfl ?_
  refine sreg ?_
  refine svK (xboxS (lens := [1, 1, 1, 1, 1, 1, 1, 1, 1, 1, 1, 1, 1, 1, 1, 1]) rfl rfl) ?_
  rintro _ w2 ⟨b1, rfl, m3, h1, e1, s1⟩
  have hf := hf.step0 m3
  refine svK (xallS (lens := [256, 256, 1, 1, 1, 1, 1]) in198 (by simp [nm_length])) ?_
  rintro _ w5 ⟨b2, rfl, m6, h2, e4, s4⟩
  have hf := hf.step0 m6
  have h1 := h1.keep m6 (fun h => h)
  refine send ?_
  refine forget_wp [(1, _), (2, _)] ⟨rfl, rfl, trivial⟩ fun _ => ?_
  refine sdraw (Fr (fun _ => False) w5.drew) [(0, .rd), (1, .rd), (3, .rd), (4, .rd), (6, .rd), (7, .rd), (8, .rd), (9, .rd), (10, .rd), (11, .rd), (12, .rd), (13, .rd), (14, .rd), (15, .rd), (2, .ld), (5, .ld), (16, .rd), (17, .bh)] mixed (by kernel_rfl) (fun _ _ _ _ _ h => h) ?_
  have z7 : w5.drew.heap.size = w5.heap.size := rfl
  have hf := hf.drew
  have h1 := h1.drew
  have h2 := h2.drew
  have hS8 : Fr (fun _ => False) w5.drew w5.drew := Fr.refl _ _
  refine hv rfl (fun _ _ => xfld fl112_7 rfl) hS8 ?_
  refine hv rfl (fun w' hS => xld on9 rfl ((h1.keep hS (fun h => h)).r.c 7 rfl rfl)) hS8 ?_
  refine hv rfl (fun _ _ => xfld fl112_8 rfl) hS8 ?_
  refine hv rfl (fun w' hS => xld on9 rfl ((h1.keep hS (fun h => h)).r.c 8 rfl rfl)) hS8 ?_
  refine hv rfl (fun _ _ => xfld fl112_9 rfl) hS8 ?_
  refine hv rfl (fun w' hS => xld on61 rfl ((h1.keep hS (fun h => h)).r.c 9 rfl rfl)) hS8 ?_
  refine hv rfl (fun _ _ => xfld fl112_10 rfl) hS8 ?_
  refine hv rfl (fun w' hS => xld on61 rfl ((h1.keep hS (fun h => h)).r.c 10 rfl rfl)) hS8 ?_
  refine hv rfl (fun _ _ => xfld fl112_11 rfl) hS8 ?_
  refine hv rfl (fun w' hS => xld on61 rfl ((h1.keep hS (fun h => h)).r.c 11 rfl rfl)) hS8 ?_
  refine hv rfl (fun _ _ => xfld fl112_12 rfl) hS8 ?_
  refine hv rfl (fun w' hS => xld on61 rfl ((h1.keep hS (fun h => h)).r.c 12 rfl rfl)) hS8 ?_
  refine hv rfl (fun _ _ => xfld fl112_13 rfl) hS8 ?_
  refine hv rfl (fun w' hS => xld on61 rfl ((h1.keep hS (fun h => h)).r.c 13 rfl rfl)) hS8 ?_
  refine hc rfl (xcall ca89 rfl) (c89 (by omega)) ?_
  rintro _ w9 ⟨rfl, m10⟩
  have z11 := m10.size
  have hf := hf.step0 m10
  have h1 := h1.keep m10 (fun h => h)
  have h2 := h2.keep m10 (fun h => h)
  have hS12 := hS8.step0 m10
  refine ⟨hS12, ?_⟩
  refine hc rfl (xcall ca89 rfl) (c89 (by omega)) ?_
  rintro _ w13 ⟨rfl, m14⟩
  have z15 := m14.size
  have hf := hf.step0 m14
  have h1 := h1.keep m14 (fun h => h)
  have h2 := h2.keep m14 (fun h => h)
  have hS16 := hS12.step0 m14
  refine ⟨hS16, ?_⟩
  refine hv rfl (fun _ _ => xbuildS [nm (bt r.host), nm (bt r.box), [.int .u32 (r.n1.toNat : Int)], [.int .u32 (r.n2.toNat : Int)], [.int .u32 (r.n3.toNat : Int)], [.int .u32 (r.n4.toNat : Int)], [.int .u32 (r.n5.toNat : Int)]] zr198 ly198 rfl (by simp [fitAll, zs198, Value.cells, nm_length]) (by simp [setAll, zs198, Value.cells])) hS16 ?_
  refine bluK rfl (xstW h2 (lens' := [256, 256, 1, 1, 1, 1, 1]) sz198 (by simp [nm_length]) rfl (by simp only [List.flatten_cons, List.flatten_nil, List.all_append, List.append_nil, nm_one, Bool.true_and] <;> rfl) rfl rfl) ?_
  rintro w18 ⟨m19, h2, s17⟩
  have hf := hf.step m19 (fun k hk hS => by have hS : k = b2 := hS; show False; omega)
  have h1 := h1.keep m19 (by show ¬ (b1 = b2); omega)
  refine hend ?_
  refine forget_wp [(2, _)] ⟨rfl, trivial⟩ fun _ => ?_
  refine wp_ret ?_
  refine rp1 rfl ⟨_, rfl, ldS (lens := [256, 256, 1, 1, 1, 1, 1]) ro198 h2.r⟩ ?_
  exact ⟨rfl, hf⟩
set_option maxHeartbeats 4000000 in
set_option maxRecDepth 100000 in
theorem c186 {w : World} {U : Nat → Prop} (hU : ∀ k, U k → k < w.heap.size) {v : Value} {ps : List PairD} (hp : LA PairEl lPair U w v ps) (hn : ps.length ≤ 1048576) (hpl : ∀ p ∈ ps, p.data.length ≤ 1048576) :
    Ret PP 186 [v] w (fun u w' => LA PairEl lPair (Ub U w w') w' u ps ∧ Fr0 w w') := by
  obtain ⟨a0, c0, rfl⟩ := hp.form
  have hf : Fr (fun _ => False) w w := Fr.refl _ _
  refine ret_of Tryz.func186 rfl rfl rfl [(0, _)] rfl ?_
  refine sreg ?_
  refine sv (xassign rfl) ?_
  refine send ?_
  refine forget_wp [(0, _)] ⟨rfl, trivial⟩ fun _ => ?_
  refine sreg ?_
  refine svK (xslit ([]) sl222 in291 rfl (by decide) rfl rfl rfl rfl (by decide) rfl rfl) ?_
  rintro _ w2 ⟨b6, rfl, m3, h6, e6, s6, r6⟩
  have hp := hp.keep pair_st (fun k hk => by have hk := hU k hk; omega) m3 (fun _ _ h => h)
  have hf := hf.step0 m3
  have hv3 : RX PairEl lPair U w.heap.size w2.heap.size w2 _ b6 291 0 [] := RX.ofNil r6
  refine sv (xassign rfl) ?_
  refine send ?_
  refine forget_wp [(0, _), (3, _)] ⟨rfl, rfl, trivial⟩ fun _ => ?_
  refine wp_seq ?_
  refine sreg ?_
  refine sv (xmove rfl) ?_
  refine sv (xlen sl110 rfl) ?_
  refine sv (xmove rfl) ?_
  refine send ?_
  refine forget_wp [(3, _), (7, _), (8, _), (9, _)] ⟨rfl, rfl, rfl, rfl, trivial⟩ fun _ => ?_
  refine wp_block ?_
  refine lp [(7, _), (8, _)] (fun (x : Nat × Value × Nat) => match x with | (k, v, g) => [(3, v), (9, .int .i64 (k : Int))]) (fun (x : Nat × Value × Nat) wx => match x with | (k, v, g) => Fr (fun k => k = b6) w2 wx ∧ (k ≤ ps.length) ∧ (RX PairEl lPair U w.heap.size wx.heap.size wx v g 291 k (ps.take k)) ∧ (w.heap.size ≤ g) ∧ (g < wx.heap.size) ∧ (g = b6 ∨ w2.heap.size ≤ g)) (fun (x : Nat × Value × Nat) => match x with | (k, v, g) => ps.length - k) (0, _, b6) ⟨rfl, rfl, rfl, rfl, trivial⟩ ⟨Fr.refl _ _, Nat.zero_le _, hv3, by omega, by omega, .inl rfl⟩ ?_
  rintro ⟨k, v, g⟩ _ w5 ⟨hL4, hk, hv3, hg, hg2, hg3⟩
  refine forget_wp [(3, _), (7, _), (8, _), (9, _)] ⟨rfl, rfl, rfl, rfl, trivial⟩ fun _ => ?_
  have z6 := hL4.size
  have hp := hp.keep pair_st (fun k hk => by have hk := hU k hk; omega) hL4 (fun k hk hS => by have hk := hU k hk; have hS : k = b6 := hS; omega)
  have hf := hf.step hL4 (fun k hk hS => by have hS : k = b6 := hS; show False; omega)
  obtain ⟨a3, c3, rfl⟩ := RA.form hv3
  refine sreg ?_
  refine svP (xlss rfl rfl) (fun hc10 => ?_) (fun hc10 => ?_)
  · skip
    refine send ?_
    refine forget_wp [(3, _), (7, _), (8, _), (9, _), (10, _)] ⟨rfl, rfl, rfl, rfl, rfl, trivial⟩ fun _ => ?_
    refine wp_seq ?_
    refine cyes rfl ?_
    refine wp_skip ?_
    refine nThen ?_
    refine forget_wp [(3, _), (7, _), (8, _), (9, _)] ⟨rfl, rfl, rfl, rfl, trivial⟩ fun _ => ?_
    refine wp_seq ?_
    refine wp_block ?_
    obtain ⟨p, hpk⟩ := some_of_lt (by omega : k < ps.length)
    have hpd := hpl _ (List.mem_of_getElem? hpk)
    refine sreg ?_
    obtain ⟨bE11, oE11, sgE11, rfl, uE11, hsE11, heE11⟩ := LA.get hp hpk
    obtain ⟨vd, rfl, hd⟩ := heE11
    have zE11 := hU _ uE11
    obtain ⟨ad, cd, rfl, -⟩ := id hd
    refine sv (xidx sl110 sz145 rfl rfl rfl (by omega)) ?_
    refine sv (xldS (lens := [1, 1]) ro145 rfl hsE11) ?_
    refine svK (xallS (lens := [1, 1]) in145 rfl) ?_
    rintro _ w8 ⟨b5, rfl, m9, h5, e7, s7⟩
    have hp := hp.keep pair_st (fun k hk => by have hk := hU k hk; omega) m9 (fun _ _ h => h)
    have hf := hf.step0 m9
    have hv3 := RX.keep hv3 pair_st (fun k hk => by have hk := hU k hk; omega) (by omega) m9 (fun _ _ _ h => h) (fun h => h)
    have hL4 := hL4.step0 m9
    have hsE11 := hsE11.keep m9 (by omega) (fun h => h)
    have hd := hd.keep (fun k hk => by have hk := hU k hk; omega) m9 (fun _ _ h => h)
    refine suK (xstW h5 (lens' := [1, 1]) sz145 rfl rfl rfl rfl rfl) ?_
    rintro w11 ⟨m12, h5, s10⟩
    have hp := hp.keep pair_st (fun k hk => by have hk := hU k hk; omega) m12 (fun k hk hS => by have hk := hU k hk; have hS : k = b5 := hS; omega)
    have hf := hf.step m12 (fun k hk hS => by have hS : k = b5 := hS; show False; omega)
    have hv3 := RX.keep hv3 pair_st (fun k hk => by have hk := hU k hk; omega) (by omega) m12 (fun k hk hk3 hS => by have hS : k = b5 := hS; rcases hk with hk | hk <;> first | omega | (have := hU k hk; omega)) (by show ¬ (g = b5); omega)
    have hL4 := hL4.step m12 (fun k hk hS => by have hS : k = b5 := hS; show k = b6; omega)
    have hsE11 := hsE11.keep m12 (by omega) (by show ¬ (bE11 = b5); omega)
    have hd := hd.keep (fun k hk => by have hk := hU k hk; omega) m12 (fun k hk hS => by have hk := hU k hk; have hS : k = b5 := hS; omega)
    refine send ?_
    refine forget_wp [(3, _), (5, _), (7, _), (8, _), (9, _)] ⟨rfl, rfl, rfl, rfl, rfl, trivial⟩ fun _ => ?_
    refine ldraw (Fr (fun k => k = g) w11.drew) [(0, .rd), (1, .rd), (2, .rd), (4, .rd), (5, .rd), (3, .ld), (6, .ld), (7, .rd), (8, .ld), (9, .ld), (10, .rd)] mixed (by kernel_rfl) (fun _ _ _ _ _ h => h) ?_
    have z13 : w11.drew.heap.size = w11.heap.size := rfl
    have hp := hp.keep pair_st (fun k hk => by have hk := hU k hk; omega) (Fr.drew (Fr.refl (fun _ => False) w11)) (fun _ _ h => h)
    have hf := hf.drew
    have hv3 := RX.keep hv3 pair_st (fun k hk => by have hk := hU k hk; omega) (by omega) (Fr.drew (Fr.refl (fun _ => False) w11)) (fun _ _ _ h => h) (fun h => h)
    have hL4 := hL4.drew
    have hsE11 := hsE11.keep (Fr.drew (Fr.refl (fun _ => False) w11)) (by omega) (fun h => h)
    have hd := hd.keep (fun k hk => by have hk := hU k hk; omega) (Fr.drew (Fr.refl (fun _ => False) w11)) (fun _ _ h => h)
    have h5 := h5.drew
    have hS14 : Fr (fun k => k = g) w11.drew w11.drew := Fr.refl _ _
    refine hv rfl (fun _ _ => xmove rfl) hS14 ?_
    refine hv rfl (fun _ _ => xfld fl145_0 rfl) hS14 ?_
    refine hv rfl (fun w' hS => xld on22 rfl ((h5.keep hS (by show ¬ (b5 = g); omega)).r.c 0 rfl rfl)) hS14 ?_
    refine hv rfl (fun _ _ => xfld fl145_1 rfl) hS14 ?_
    refine hv rfl (fun w' hS => xld on37 rfl ((h5.keep hS (by show ¬ (b5 = g); omega)).r.c 1 rfl rfl)) hS14 ?_
    refine hlK rfl (xslit (bvs []) sl37 in5 rfl (by decide) rfl rfl rfl rfl (by decide) rfl (bvs_one _)) ?_
    rintro _ w16 ⟨b16, rfl, m17, h16, e16, s16, r16⟩
    have hp := hp.keep pair_st (fun k hk => by have hk := hU k hk; omega) m17 (fun _ _ h => h)
    have hf := hf.step0 m17
    have hv3 := RX.keep hv3 pair_st (fun k hk => by have hk := hU k hk; omega) (by omega) m17 (fun _ _ _ h => h) (fun h => h)
    have hL4 := hL4.step0 m17
    have hsE11 := hsE11.keep m17 (by omega) (fun h => h)
    have hd := hd.keep (fun k hk => by have hk := hU k hk; omega) m17 (fun _ _ h => h)
    have h5 := h5.keep m17 (fun h => h)
    have hS18 := hS14.step0 m17
    refine ⟨hS18, ?_⟩
    refine hlK rfl (xapp sl37 in5 rfl (by decide) rfl rfl r16 (hd.src sl37) (by simp only [maxLen]; omega) (by omega)) ?_
    rintro _ w19 ⟨g19, r19, m20, a19, l19⟩
    have z21 := m20.size
    have hp := hp.keep pair_st (fun k hk => by have hk := hU k hk; omega) m20 (fun k hk hS => by have hk := hU k hk; have hS : k = b16 := hS; omega)
    have hf := hf.step m20 (fun k hk hS => by have hS : k = b16 := hS; show False; omega)
    have hv3 := RX.keep hv3 pair_st (fun k hk => by have hk := hU k hk; omega) (by omega) m20 (fun k hk hk3 hS => by have hS : k = b16 := hS; rcases hk with hk | hk <;> first | omega | (have := hU k hk; omega)) (by show ¬ (g = b16); omega)
    have hL4 := hL4.step m20 (fun k hk hS => by have hS : k = b16 := hS; show k = b6; omega)
    have hsE11 := hsE11.keep m20 (by omega) (by show ¬ (bE11 = b16); omega)
    have hd := hd.keep (fun k hk => by have hk := hU k hk; omega) m20 (fun k hk hS => by have hk := hU k hk; have hS : k = b16 := hS; omega)
    have h5 := h5.keep m20 (by show ¬ (b5 = b16); omega)
    have hS22 := hS18.step m20 (fun k hk hS => by have hS : k = b16 := hS; show k = g; omega)
    obtain ⟨p19, q19, rfl, -⟩ := r19.form
    refine ⟨hS22, ?_⟩
    refine hv rfl (fun _ _ => xbuildS (pairSegs p (.slice p19 (0 + p.data.length) q19)) zr291 ly291 rfl (by simp [fitAll, zs291, Value.cells]) rfl) hS22 ?_
    refine hlK rfl (xslit ((pairSegs p (.slice p19 (0 + p.data.length) q19)).flatten) sl222 in291 rfl (by decide) rfl rfl rfl rfl (by decide) rfl rfl) ?_
    rintro _ w24 ⟨b21, rfl, m25, h21, e21, s21, r21⟩
    have hp := hp.keep pair_st (fun k hk => by have hk := hU k hk; omega) m25 (fun _ _ h => h)
    have hf := hf.step0 m25
    have hv3 := RX.keep hv3 pair_st (fun k hk => by have hk := hU k hk; omega) (by omega) m25 (fun _ _ _ h => h) (fun h => h)
    have hL4 := hL4.step0 m25
    have hsE11 := hsE11.keep m25 (by omega) (fun h => h)
    have hd := hd.keep (fun k hk => by have hk := hU k hk; omega) m25 (fun _ _ h => h)
    have h5 := h5.keep m25 (fun h => h)
    have r19 := r19.keep m25 (fun h => h)
    have hS26 := hS22.step0 m25
    refine ⟨hS26, ?_⟩
    obtain ⟨ss22, hR22, hA22⟩ := hv3
    refine hlK rfl (xapp sl222 in291 rfl (by decide) rfl rfl hR22 (r21.src sl222) (by simp only [maxLen]; omega) (by omega)) ?_
    rintro v22 w27 ⟨g22, r22, m28, a22, l22⟩
    have z29 := m28.size
    have hp := hp.keep pair_st (fun k hk => by have hk := hU k hk; omega) m28 (fun k hk hS => by have hk := hU k hk; have hS : k = g := hS; omega)
    have hf := hf.step m28 (fun k hk hS => by have hS : k = g := hS; show False; omega)
    have hL4 := hL4.step m28 (fun k hk hS => by have hS : k = g := hS; show k = b6; omega)
    have hsE11 := hsE11.keep m28 (by omega) (by show ¬ (bE11 = g); omega)
    have hd := hd.keep (fun k hk => by have hk := hU k hk; omega) m28 (fun k hk hS => by have hk := hU k hk; have hS : k = g := hS; omega)
    have h5 := h5.keep m28 (by show ¬ (b5 = g); omega)
    have r19 := r19.keep m28 (by show ¬ (g19 = g); omega)
    have hS30 := hS26.step m28 (fun k hk hS => by have hS : k = g := hS; show k = g; omega)
    have hv3 := RX.snoc (x := p) w27.heap.size hA22 pair_st pair_gr (fun k hk => by have hk := hU k hk; omega) (by omega) (by omega) m28 a22 r22 rfl (⟨_, rfl, BR.ba (show BR _ _ _ _ p.data from r19) ⟨.inr ⟨by omega, by omega⟩, by omega⟩⟩)
    refine ⟨hS30, ?_⟩
    refine hv rfl (fun _ _ => xassign rfl) hS30 ?_
    refine lhend ?_
    refine nBlock ?_
    refine nThen ?_
    refine forget_wp [(3, _), (7, _), (8, _), (9, _)] ⟨rfl, rfl, rfl, rfl, trivial⟩ fun _ => ?_
    refine lreg ?_
    refine sv (xadd rfl rfl (w64 (by omega) (by omega))) ?_
    refine sv (xmove rfl) ?_
    refine lend ?_
    refine nThen ?_
    refine ⟨(k + 1, _, g22), _, env_okl ⟨rfl, rfl, rfl, rfl, trivial⟩, ⟨hL4, (by omega), (by rw [take_snoc hpk]; exact RX.up pair_gr hv3 (by omega)), (by omega), (l22 (by omega)), (by omega)⟩, ?_⟩
    show ps.length - (k + 1) < ps.length - k; omega
  · skip
    refine send ?_
    refine forget_wp [(3, _), (7, _), (8, _), (9, _), (10, _)] ⟨rfl, rfl, rfl, rfl, rfl, trivial⟩ fun _ => ?_
    refine wp_seq ?_
    refine cno rfl ?_
    refine wp_exit ?_
    refine eThen ?_
    refine eThen ?_
    refine eHit ?_
    refine nThen ?_
    refine forget_wp [(3, _)] ⟨rfl, trivial⟩ fun _ => ?_
    refine sreg ?_
    refine sv (xmove rfl) ?_
    refine sv (xassign rfl) ?_
    refine send ?_
    refine forget_wp [(2, _)] ⟨rfl, trivial⟩ fun _ => ?_
    refine wp_ret ?_
    refine rp1 rfl rfl ?_
    have e : ps.take k = ps := List.take_of_length_le (by omega)
    rw [e] at hv3
    exact ⟨RX.la hv3 (by decide) pair_gr (fun k hk => hk.elim .inl .inr) (.inr ⟨hg, hg2⟩), hf⟩
set_option maxHeartbeats 4000000 in
set_option maxRecDepth 100000 in
theorem c183 {w : World} {U : Nat → Prop} (hU : ∀ k, U k → k < w.heap.size) {v : Value} {ps : List PairD} (hp : LA PairEl lPair U w v ps) (hn : ps.length ≤ 1048576) (hpl : ∀ p ∈ ps, p.data.length ≤ 1048576) :
    Ret PP 183 [v] w (fun u w' => LA PairEl lPair (Ub U w w') w' u ps ∧ Fr0 w w') := by
  obtain ⟨a0, c0, rfl⟩ := hp.form
  have hf : Fr (fun _ => False) w w := Fr.refl _ _
  refine ret_of Tryz.func183 rfl rfl rfl [(0, _)] rfl ?_
  refine sreg ?_
  refine sv (xassign rfl) ?_
  refine send ?_
  refine forget_wp [(0, _)] ⟨rfl, trivial⟩ fun _ => ?_
  refine sreg ?_
  refine svK (xslit ([]) sl216 in220 rfl (by decide) rfl rfl rfl rfl (by decide) rfl rfl) ?_
  rintro _ w2 ⟨b6, rfl, m3, h6, e6, s6, r6⟩
  have hp := hp.keep pair_st (fun k hk => by have hk := hU k hk; omega) m3 (fun _ _ h => h)
  have hf := hf.step0 m3
  have hv3 : RX PairEl lPair U w.heap.size w2.heap.size w2 _ b6 220 0 [] := RX.ofNil r6
  refine sv (xassign rfl) ?_
  refine send ?_
  refine forget_wp [(0, _), (3, _)] ⟨rfl, rfl, trivial⟩ fun _ => ?_
  refine wp_seq ?_
  refine sreg ?_
  refine sv (xmove rfl) ?_
  refine sv (xlen sl110 rfl) ?_
  refine sv (xmove rfl) ?_
  refine send ?_
  refine forget_wp [(3, _), (7, _), (8, _), (9, _)] ⟨rfl, rfl, rfl, rfl, trivial⟩ fun _ => ?_
  refine wp_block ?_
  refine lp [(7, _), (8, _)] (fun (x : Nat × Value × Nat) => match x with | (k, v, g) => [(3, v), (9, .int .i64 (k : Int))]) (fun (x : Nat × Value × Nat) wx => match x with | (k, v, g) => Fr (fun k => k = b6) w2 wx ∧ (k ≤ ps.length) ∧ (RX PairEl lPair U w.heap.size wx.heap.size wx v g 220 k (ps.take k)) ∧ (w.heap.size ≤ g) ∧ (g < wx.heap.size) ∧ (g = b6 ∨ w2.heap.size ≤ g)) (fun (x : Nat × Value × Nat) => match x with | (k, v, g) => ps.length - k) (0, _, b6) ⟨rfl, rfl, rfl, rfl, trivial⟩ ⟨Fr.refl _ _, Nat.zero_le _, hv3, by omega, by omega, .inl rfl⟩ ?_
  rintro ⟨k, v, g⟩ _ w5 ⟨hL4, hk, hv3, hg, hg2, hg3⟩
  refine forget_wp [(3, _), (7, _), (8, _), (9, _)] ⟨rfl, rfl, rfl, rfl, trivial⟩ fun _ => ?_
  have z6 := hL4.size
  have hp := hp.keep pair_st (fun k hk => by have hk := hU k hk; omega) hL4 (fun k hk hS => by have hk := hU k hk; have hS : k = b6 := hS; omega)
  have hf := hf.step hL4 (fun k hk hS => by have hS : k = b6 := hS; show False; omega)
  obtain ⟨a3, c3, rfl⟩ := RA.form hv3
  refine sreg ?_
  refine svP (xlss rfl rfl) (fun hc10 => ?_) (fun hc10 => ?_)
  · skip
    refine send ?_
    refine forget_wp [(3, _), (7, _), (8, _), (9, _), (10, _)] ⟨rfl, rfl, rfl, rfl, rfl, trivial⟩ fun _ => ?_
    refine wp_seq ?_
    refine cyes rfl ?_
    refine wp_skip ?_
    refine nThen ?_
    refine forget_wp [(3, _), (7, _), (8, _), (9, _)] ⟨rfl, rfl, rfl, rfl, trivial⟩ fun _ => ?_
    refine wp_seq ?_
    refine wp_block ?_
    obtain ⟨p, hpk⟩ := some_of_lt (by omega : k < ps.length)
    have hpd := hpl _ (List.mem_of_getElem? hpk)
    refine sreg ?_
    obtain ⟨bE11, oE11, sgE11, rfl, uE11, hsE11, heE11⟩ := LA.get hp hpk
    obtain ⟨vd, rfl, hd⟩ := heE11
    have zE11 := hU _ uE11
    obtain ⟨ad, cd, rfl, -⟩ := id hd
    refine sv (xidx sl110 sz145 rfl rfl rfl (by omega)) ?_
    refine sv (xldS (lens := [1, 1]) ro145 rfl hsE11) ?_
    refine svK (xallS (lens := [1, 1]) in145 rfl) ?_
    rintro _ w8 ⟨b5, rfl, m9, h5, e7, s7⟩
    have hp := hp.keep pair_st (fun k hk => by have hk := hU k hk; omega) m9 (fun _ _ h => h)
    have hf := hf.step0 m9
    have hv3 := RX.keep hv3 pair_st (fun k hk => by have hk := hU k hk; omega) (by omega) m9 (fun _ _ _ h => h) (fun h => h)
    have hL4 := hL4.step0 m9
    have hsE11 := hsE11.keep m9 (by omega) (fun h => h)
    have hd := hd.keep (fun k hk => by have hk := hU k hk; omega) m9 (fun _ _ h => h)
    refine suK (xstW h5 (lens' := [1, 1]) sz145 rfl rfl rfl rfl rfl) ?_
    rintro w11 ⟨m12, h5, s10⟩
    have hp := hp.keep pair_st (fun k hk => by have hk := hU k hk; omega) m12 (fun k hk hS => by have hk := hU k hk; have hS : k = b5 := hS; omega)
    have hf := hf.step m12 (fun k hk hS => by have hS : k = b5 := hS; show False; omega)
    have hv3 := RX.keep hv3 pair_st (fun k hk => by have hk := hU k hk; omega) (by omega) m12 (fun k hk hk3 hS => by have hS : k = b5 := hS; rcases hk with hk | hk <;> first | omega | (have := hU k hk; omega)) (by show ¬ (g = b5); omega)
    have hL4 := hL4.step m12 (fun k hk hS => by have hS : k = b5 := hS; show k = b6; omega)
    have hsE11 := hsE11.keep m12 (by omega) (by show ¬ (bE11 = b5); omega)
    have hd := hd.keep (fun k hk => by have hk := hU k hk; omega) m12 (fun k hk hS => by have hk := hU k hk; have hS : k = b5 := hS; omega)
    refine send ?_
    refine forget_wp [(3, _), (5, _), (7, _), (8, _), (9, _)] ⟨rfl, rfl, rfl, rfl, rfl, trivial⟩ fun _ => ?_
    refine ldraw (Fr (fun k => k = g) w11.drew) [(0, .rd), (1, .rd), (2, .rd), (4, .rd), (5, .rd), (3, .ld), (6, .ld), (7, .rd), (8, .ld), (9, .ld), (10, .rd)] mixed (by kernel_rfl) (fun _ _ _ _ _ h => h) ?_
    have z13 : w11.drew.heap.size = w11.heap.size := rfl
    have hp := hp.keep pair_st (fun k hk => by have hk := hU k hk; omega) (Fr.drew (Fr.refl (fun _ => False) w11)) (fun _ _ h => h)
    have hf := hf.drew
    have hv3 := RX.keep hv3 pair_st (fun k hk => by have hk := hU k hk; omega) (by omega) (Fr.drew (Fr.refl (fun _ => False) w11)) (fun _ _ _ h => h) (fun h => h)
    have hL4 := hL4.drew
    have hsE11 := hsE11.keep (Fr.drew (Fr.refl (fun _ => False) w11)) (by omega) (fun h => h)
    have hd := hd.keep (fun k hk => by have hk := hU k hk; omega) (Fr.drew (Fr.refl (fun _ => False) w11)) (fun _ _ h => h)
    have h5 := h5.drew
    have hS14 : Fr (fun k => k = g) w11.drew w11.drew := Fr.refl _ _
    refine hv rfl (fun _ _ => xmove rfl) hS14 ?_
    refine hv rfl (fun _ _ => xfld fl145_0 rfl) hS14 ?_
    refine hv rfl (fun w' hS => xld on22 rfl ((h5.keep hS (by show ¬ (b5 = g); omega)).r.c 0 rfl rfl)) hS14 ?_
    refine hv rfl (fun _ _ => xfld fl145_1 rfl) hS14 ?_
    refine hv rfl (fun w' hS => xld on37 rfl ((h5.keep hS (by show ¬ (b5 = g); omega)).r.c 1 rfl rfl)) hS14 ?_
    refine hlK rfl (xslit (bvs []) sl37 in5 rfl (by decide) rfl rfl rfl rfl (by decide) rfl (bvs_one _)) ?_
    rintro _ w16 ⟨b16, rfl, m17, h16, e16, s16, r16⟩
    have hp := hp.keep pair_st (fun k hk => by have hk := hU k hk; omega) m17 (fun _ _ h => h)
    have hf := hf.step0 m17
    have hv3 := RX.keep hv3 pair_st (fun k hk => by have hk := hU k hk; omega) (by omega) m17 (fun _ _ _ h => h) (fun h => h)
    have hL4 := hL4.step0 m17
    have hsE11 := hsE11.keep m17 (by omega) (fun h => h)
    have hd := hd.keep (fun k hk => by have hk := hU k hk; omega) m17 (fun _ _ h => h)
    have h5 := h5.keep m17 (fun h => h)
    have hS18 := hS14.step0 m17
    refine ⟨hS18, ?_⟩
    refine hlK rfl (xapp sl37 in5 rfl (by decide) rfl rfl r16 (hd.src sl37) (by simp only [maxLen]; omega) (by omega)) ?_
    rintro _ w19 ⟨g19, r19, m20, a19, l19⟩
    have z21 := m20.size
    have hp := hp.keep pair_st (fun k hk => by have hk := hU k hk; omega) m20 (fun k hk hS => by have hk := hU k hk; have hS : k = b16 := hS; omega)
    have hf := hf.step m20 (fun k hk hS => by have hS : k = b16 := hS; show False; omega)
    have hv3 := RX.keep hv3 pair_st (fun k hk => by have hk := hU k hk; omega) (by omega) m20 (fun k hk hk3 hS => by have hS : k = b16 := hS; rcases hk with hk | hk <;> first | omega | (have := hU k hk; omega)) (by show ¬ (g = b16); omega)
    have hL4 := hL4.step m20 (fun k hk hS => by have hS : k = b16 := hS; show k = b6; omega)
    have hsE11 := hsE11.keep m20 (by omega) (by show ¬ (bE11 = b16); omega)
    have hd := hd.keep (fun k hk => by have hk := hU k hk; omega) m20 (fun k hk hS => by have hk := hU k hk; have hS : k = b16 := hS; omega)
    have h5 := h5.keep m20 (by show ¬ (b5 = b16); omega)
    have hS22 := hS18.step m20 (fun k hk hS => by have hS : k = b16 := hS; show k = g; omega)
    obtain ⟨p19, q19, rfl, -⟩ := r19.form
    refine ⟨hS22, ?_⟩
    refine hv rfl (fun _ _ => xbuildS (pairSegs p (.slice p19 (0 + p.data.length) q19)) zr220 ly220 rfl (by simp [fitAll, zs220, Value.cells]) rfl) hS22 ?_
    refine hlK rfl (xslit ((pairSegs p (.slice p19 (0 + p.data.length) q19)).flatten) sl216 in220 rfl (by decide) rfl rfl rfl rfl (by decide) rfl rfl) ?_
    rintro _ w24 ⟨b21, rfl, m25, h21, e21, s21, r21⟩
    have hp := hp.keep pair_st (fun k hk => by have hk := hU k hk; omega) m25 (fun _ _ h => h)
    have hf := hf.step0 m25
    have hv3 := RX.keep hv3 pair_st (fun k hk => by have hk := hU k hk; omega) (by omega) m25 (fun _ _ _ h => h) (fun h => h)
    have hL4 := hL4.step0 m25
    have hsE11 := hsE11.keep m25 (by omega) (fun h => h)
    have hd := hd.keep (fun k hk => by have hk := hU k hk; omega) m25 (fun _ _ h => h)
    have h5 := h5.keep m25 (fun h => h)
    have r19 := r19.keep m25 (fun h => h)
    have hS26 := hS22.step0 m25
    refine ⟨hS26, ?_⟩
    obtain ⟨ss22, hR22, hA22⟩ := hv3
    refine hlK rfl (xapp sl216 in220 rfl (by decide) rfl rfl hR22 (r21.src sl216) (by simp only [maxLen]; omega) (by omega)) ?_
    rintro v22 w27 ⟨g22, r22, m28, a22, l22⟩
    have z29 := m28.size
    have hp := hp.keep pair_st (fun k hk => by have hk := hU k hk; omega) m28 (fun k hk hS => by have hk := hU k hk; have hS : k = g := hS; omega)
    have hf := hf.step m28 (fun k hk hS => by have hS : k = g := hS; show False; omega)
    have hL4 := hL4.step m28 (fun k hk hS => by have hS : k = g := hS; show k = b6; omega)
    have hsE11 := hsE11.keep m28 (by omega) (by show ¬ (bE11 = g); omega)
    have hd := hd.keep (fun k hk => by have hk := hU k hk; omega) m28 (fun k hk hS => by have hk := hU k hk; have hS : k = g := hS; omega)
    have h5 := h5.keep m28 (by show ¬ (b5 = g); omega)
    have r19 := r19.keep m28 (by show ¬ (g19 = g); omega)
    have hS30 := hS26.step m28 (fun k hk hS => by have hS : k = g := hS; show k = g; omega)
    have hv3 := RX.snoc (x := p) w27.heap.size hA22 pair_st pair_gr (fun k hk => by have hk := hU k hk; omega) (by omega) (by omega) m28 a22 r22 rfl (⟨_, rfl, BR.ba (show BR _ _ _ _ p.data from r19) ⟨.inr ⟨by omega, by omega⟩, by omega⟩⟩)
    refine ⟨hS30, ?_⟩
    refine hv rfl (fun _ _ => xassign rfl) hS30 ?_
    refine lhend ?_
    refine nBlock ?_
    refine nThen ?_
    refine forget_wp [(3, _), (7, _), (8, _), (9, _)] ⟨rfl, rfl, rfl, rfl, trivial⟩ fun _ => ?_
    refine lreg ?_
    refine sv (xadd rfl rfl (w64 (by omega) (by omega))) ?_
    refine sv (xmove rfl) ?_
    refine lend ?_
    refine nThen ?_
    refine ⟨(k + 1, _, g22), _, env_okl ⟨rfl, rfl, rfl, rfl, trivial⟩, ⟨hL4, (by omega), (by rw [take_snoc hpk]; exact RX.up pair_gr hv3 (by omega)), (by omega), (l22 (by omega)), (by omega)⟩, ?_⟩
    show ps.length - (k + 1) < ps.length - k; omega
  · skip
    refine send ?_
    refine forget_wp [(3, _), (7, _), (8, _), (9, _), (10, _)] ⟨rfl, rfl, rfl, rfl, rfl, trivial⟩ fun _ => ?_
    refine wp_seq ?_
    refine cno rfl ?_
    refine wp_exit ?_
    refine eThen ?_
    refine eThen ?_
    refine eHit ?_
    refine nThen ?_
    refine forget_wp [(3, _)] ⟨rfl, trivial⟩ fun _ => ?_
    refine sreg ?_
    refine sv (xmove rfl) ?_
    refine sv (xassign rfl) ?_
    refine send ?_
    refine forget_wp [(2, _)] ⟨rfl, trivial⟩ fun _ => ?_
    refine wp_ret ?_
    refine rp1 rfl rfl ?_
    have e : ps.take k = ps := List.take_of_length_le (by omega)
    rw [e] at hv3
    exact ⟨RX.la hv3 (by decide) pair_gr (fun k hk => hk.elim .inl .inr) (.inr ⟨hg, hg2⟩), hf⟩
set_option maxHeartbeats 4000000 in
set_option maxRecDepth 100000 in
theorem c117 {w : World} {U : Nat → Prop} (hU : ∀ k, U k → k < w.heap.size) {r : RecD} {vd vt vp : Value} (hd : BA U w vd r.data) :
    Ret PP 117 [ag (recSegs r vd vt vp)] w (fun u w' => u = ag [bvs (fixedL r.data 4)] ∧ Fr0 w w') := by
  obtain ⟨ad0, cd0, rfl, -⟩ := id hd
  have hf : Fr (fun _ => False) w w := Fr.refl _ _
  refine ret_of Tryz.func117 rfl rfl rfl [(0, _)] rfl ?_
  refine sreg ?_
  refine svK (xboxS (lens := [1, 1, 1, 1, 1, 1, 1, 1, 1, 1, 1, 1, 1, 1, 1, 1]) rfl rfl) ?_
  rintro _ w2 ⟨b1, rfl, m3, h1, e1, s1⟩
  have hd := hd.keep (fun k hk => by have hk := hU k hk; omega) m3 (fun _ _ h => h)
  have hf := hf.step0 m3
  refine svK (xallS (lens := [4]) in189 rfl) ?_
  rintro _ w5 ⟨b2, rfl, m6, h2, e4, s4⟩
  have hd := hd.keep (fun k hk => by have hk := hU k hk; omega) m6 (fun _ _ h => h)
  have hf := hf.step0 m6
  have h1 := h1.keep m6 (fun h => h)
  refine send ?_
  refine forget_wp [(1, _), (2, _)] ⟨rfl, rfl, trivial⟩ fun _ => ?_
  refine sreg ?_
  refine sv (xbuildS zs189 zr189 ly189 rfl trivial rfl) ?_
  refine svK (xallS (lens := [4]) in189 rfl) ?_
  rintro _ w8 ⟨b3, rfl, m9, h3, e7, s7⟩
  have hd := hd.keep (fun k hk => by have hk := hU k hk; omega) m9 (fun _ _ h => h)
  have hf := hf.step0 m9
  have h1 := h1.keep m9 (fun h => h)
  have h2 := h2.keep m9 (fun h => h)
  refine suK (xstW h3 (lens' := [4]) sz189 rfl rfl rfl rfl rfl) ?_
  rintro w11 ⟨m12, h3, s10⟩
  have hd := hd.keep (fun k hk => by have hk := hU k hk; omega) m12 (fun k hk hS => by have hk := hU k hk; have hS : k = b3 := hS; omega)
  have hf := hf.step m12 (fun k hk hS => by have hS : k = b3 := hS; show False; omega)
  have h1 := h1.keep m12 (by show ¬ (b1 = b3); omega)
  have h2 := h2.keep m12 (by show ¬ (b2 = b3); omega)
  refine send ?_
  refine forget_wp [(1, _), (2, _), (3, _)] ⟨rfl, rfl, rfl, trivial⟩ fun _ => ?_
  have k3 : Blk w11 b3 (bvs (List.replicate 4 0)) := h3.1
  refine sdraw (Fr (fun k => k = b3) w11.drew) [(0, .rd), (1, .rd), (2, .rd), (3, .rd), (4, .bh)] mixed (by kernel_rfl) (fun _ _ _ _ _ h => h) ?_
  have z13 : w11.drew.heap.size = w11.heap.size := rfl
  have hd := hd.keep (fun k hk => by have hk := hU k hk; omega) (Fr.drew (Fr.refl (fun _ => False) w11)) (fun _ _ h => h)
  have hf := hf.drew
  have h1 := h1.drew
  have h2 := h2.drew
  have h3 := h3.drew
  have hS14 : Fr (fun k => k = b3) w11.drew w11.drew := Fr.refl _ _
  refine hv rfl (fun _ _ => xfld fl189_0 rfl) hS14 ?_
  refine hv rfl (fun _ _ => xcutA ar187 sz5 rfl) hS14 ?_
  refine hv rfl (fun _ _ => xfld fl112_6 rfl) hS14 ?_
  refine hv rfl (fun w' hS => xld on37 rfl ((h1.keep hS (by show ¬ (b1 = b3); omega)).r.c 6 rfl rfl)) hS14 ?_
  refine blK rfl (xcopyZ sl37 sz5 rfl rfl (cpy_ba hd) (rest := []) (by rw [List.append_nil]; exact k3)) ?_
  rintro _ w15 ⟨rfl, m16, k3, s9⟩
  have hd := hd.keep (fun k hk => by have hk := hU k hk; omega) m16 (fun k hk hS => by have hk := hU k hk; have hS : k = b3 := hS; omega)
  have hf := hf.step m16 (fun k hk hS => by have hS : k = b3 := hS; show False; omega)
  have h1 := h1.keep m16 (by show ¬ (b1 = b3); omega)
  have h2 := h2.keep m16 (by show ¬ (b2 = b3); omega)
  rw [List.append_nil] at k3
  have h3 : SB w15 b3 [4] [bvs (fixedL r.data 4)] := ⟨by simpa using k3, by simp [bvs_length, fixedL_length]⟩
  refine hend ?_
  refine forget_wp [(2, _), (3, _)] ⟨rfl, rfl, trivial⟩ fun _ => ?_
  refine sreg ?_
  refine sv (xldS (lens := [4]) ro189 rfl h3.r) ?_
  refine suK (xstW h2 (lens' := [4]) sz189 (by simp [bvs_length, fixedL_length]) rfl (by simp only [List.flatten_cons, List.flatten_nil, List.append_nil, bvs_one] <;> rfl) rfl rfl) ?_
  rintro w18 ⟨m19, h2, s17⟩
  have hd := hd.keep (fun k hk => by have hk := hU k hk; omega) m19 (fun k hk hS => by have hk := hU k hk; have hS : k = b2 := hS; omega)
  have hf := hf.step m19 (fun k hk hS => by have hS : k = b2 := hS; show False; omega)
  have h1 := h1.keep m19 (by show ¬ (b1 = b2); omega)
  have h3 := h3.keep m19 (by show ¬ (b3 = b2); omega)
  refine send ?_
  refine forget_wp [(2, _)] ⟨rfl, trivial⟩ fun _ => ?_
  refine wp_ret ?_
  refine rp1 rfl ⟨_, rfl, ldS (lens := [4]) ro189 h2.r⟩ ?_
  exact ⟨rfl, hf⟩
set_option maxHeartbeats 4000000 in
set_option maxRecDepth 100000 in
theorem c131 {w : World} {U : Nat → Prop} (hU : ∀ k, U k → k < w.heap.size) {r : RecD} {vd vt vp : Value} (hd : BA U w vd r.data) :
    Ret PP 131 [ag (recSegs r vd vt vp)] w (fun u w' => u = ag [bvs (fixedL r.data 16)] ∧ Fr0 w w') := by
  obtain ⟨ad0, cd0, rfl, -⟩ := id hd
  have hf : Fr (fun _ => False) w w := Fr.refl _ _
  refine ret_of Tryz.func131 rfl rfl rfl [(0, _)] rfl ?_
  refine sreg ?_
  refine svK (xboxS (lens := [1, 1, 1, 1, 1, 1, 1, 1, 1, 1, 1, 1, 1, 1, 1, 1]) rfl rfl) ?_
  rintro _ w2 ⟨b1, rfl, m3, h1, e1, s1⟩
  have hd := hd.keep (fun k hk => by have hk := hU k hk; omega) m3 (fun _ _ h => h)
  have hf := hf.step0 m3
  refine svK (xallS (lens := [16]) in211 rfl) ?_
  rintro _ w5 ⟨b2, rfl, m6, h2, e4, s4⟩
  have hd := hd.keep (fun k hk => by have hk := hU k hk; omega) m6 (fun _ _ h => h)
  have hf := hf.step0 m6
  have h1 := h1.keep m6 (fun h => h)
  refine send ?_
  refine forget_wp [(1, _), (2, _)] ⟨rfl, rfl, trivial⟩ fun _ => ?_
  refine sreg ?_
  refine sv (xbuildS zs211 zr211 ly211 rfl trivial rfl) ?_
  refine svK (xallS (lens := [16]) in211 rfl) ?_
  rintro _ w8 ⟨b3, rfl, m9, h3, e7, s7⟩
  have hd := hd.keep (fun k hk => by have hk := hU k hk; omega) m9 (fun _ _ h => h)
  have hf := hf.step0 m9
  have h1 := h1.keep m9 (fun h => h)
  have h2 := h2.keep m9 (fun h => h)
  refine suK (xstW h3 (lens' := [16]) sz211 rfl rfl rfl rfl rfl) ?_
  rintro w11 ⟨m12, h3, s10⟩
  have hd := hd.keep (fun k hk => by have hk := hU k hk; omega) m12 (fun k hk hS => by have hk := hU k hk; have hS : k = b3 := hS; omega)
  have hf := hf.step m12 (fun k hk hS => by have hS : k = b3 := hS; show False; omega)
  have h1 := h1.keep m12 (by show ¬ (b1 = b3); omega)
  have h2 := h2.keep m12 (by show ¬ (b2 = b3); omega)
  refine send ?_
  refine forget_wp [(1, _), (2, _), (3, _)] ⟨rfl, rfl, rfl, trivial⟩ fun _ => ?_
  have k3 : Blk w11 b3 (bvs (List.replicate 16 0)) := h3.1
  refine sdraw (Fr (fun k => k = b3) w11.drew) [(0, .rd), (1, .rd), (2, .rd), (3, .rd), (4, .bh)] mixed (by kernel_rfl) (fun _ _ _ _ _ h => h) ?_
  have z13 : w11.drew.heap.size = w11.heap.size := rfl
  have hd := hd.keep (fun k hk => by have hk := hU k hk; omega) (Fr.drew (Fr.refl (fun _ => False) w11)) (fun _ _ h => h)
  have hf := hf.drew
  have h1 := h1.drew
  have h2 := h2.drew
  have h3 := h3.drew
  have hS14 : Fr (fun k => k = b3) w11.drew w11.drew := Fr.refl _ _
  refine hv rfl (fun _ _ => xfld fl211_0 rfl) hS14 ?_
  refine hv rfl (fun _ _ => xcutA ar209 sz5 rfl) hS14 ?_
  refine hv rfl (fun _ _ => xfld fl112_6 rfl) hS14 ?_
  refine hv rfl (fun w' hS => xld on37 rfl ((h1.keep hS (by show ¬ (b1 = b3); omega)).r.c 6 rfl rfl)) hS14 ?_
  refine blK rfl (xcopyZ sl37 sz5 rfl rfl (cpy_ba hd) (rest := []) (by rw [List.append_nil]; exact k3)) ?_
  rintro _ w15 ⟨rfl, m16, k3, s9⟩
  have hd := hd.keep (fun k hk => by have hk := hU k hk; omega) m16 (fun k hk hS => by have hk := hU k hk; have hS : k = b3 := hS; omega)
  have hf := hf.step m16 (fun k hk hS => by have hS : k = b3 := hS; show False; omega)
  have h1 := h1.keep m16 (by show ¬ (b1 = b3); omega)
  have h2 := h2.keep m16 (by show ¬ (b2 = b3); omega)
  rw [List.append_nil] at k3
  have h3 : SB w15 b3 [16] [bvs (fixedL r.data 16)] := ⟨by simpa using k3, by simp [bvs_length, fixedL_length]⟩
  refine hend ?_
  refine forget_wp [(2, _), (3, _)] ⟨rfl, rfl, trivial⟩ fun _ => ?_
  refine sreg ?_
  refine sv (xldS (lens := [16]) ro211 rfl h3.r) ?_
  refine suK (xstW h2 (lens' := [16]) sz211 (by simp [bvs_length, fixedL_length]) rfl (by simp only [List.flatten_cons, List.flatten_nil, List.append_nil, bvs_one] <;> rfl) rfl rfl) ?_
  rintro w18 ⟨m19, h2, s17⟩
  have hd := hd.keep (fun k hk => by have hk := hU k hk; omega) m19 (fun k hk hS => by have hk := hU k hk; have hS : k = b2 := hS; omega)
  have hf := hf.step m19 (fun k hk hS => by have hS : k = b2 := hS; show False; omega)
  have h1 := h1.keep m19 (by show ¬ (b1 = b2); omega)
  have h3 := h3.keep m19 (by show ¬ (b3 = b2); omega)
  refine send ?_
  refine forget_wp [(2, _)] ⟨rfl, trivial⟩ fun _ => ?_
  refine wp_ret ?_
  refine rp1 rfl ⟨_, rfl, ldS (lens := [16]) ro211 h2.r⟩ ?_
  exact ⟨rfl, hf⟩
set_option maxHeartbeats 4000000 in
set_option maxRecDepth 100000 in
theorem c135 {w : World} {U : Nat → Prop} (hU : ∀ k, U k → k < w.heap.size) {r : RecD} {vd vt vp : Value} (hp : LA PairEl lPair U w vp r.pairs) (hn : r.pairs.length ≤ 1048576) (hpl : ∀ p ∈ r.pairs, p.data.length ≤ 1048576)  :
    Ret PP 135 [ag (recSegs r vd vt vp)] w (fun u w' => ∃ v, u = ag [[v]] ∧ LA PairEl lPair (Ub U w w') w' v r.pairs ∧ Fr0 w w') := by
  obtain ⟨ap0, cp0, rfl⟩ := hp.form
  have hf : Fr (fun _ => False) w w := Fr.refl _ _
  refine ret_of Tryz.func135 rfl rfl rfl [(0, _)] rfl ?_
  refine sreg ?_
  refine svK (xboxS (lens := [1, 1, 1, 1, 1, 1, 1, 1, 1, 1, 1, 1, 1, 1, 1, 1]) rfl rfl) ?_
  rintro _ w2 ⟨b1, rfl, m3, h1, e1, s1⟩
  have hp := hp.keep pair_st (fun k hk => by have hk := hU k hk; omega) m3 (fun _ _ h => h)
  have hf := hf.step0 m3
  refine svK (xallS (lens := [1]) in218 rfl) ?_
  rintro _ w5 ⟨b2, rfl, m6, h2, e4, s4⟩
  have hp := hp.keep pair_st (fun k hk => by have hk := hU k hk; omega) m6 (fun _ _ h => h)
  have hf := hf.step0 m6
  have h1 := h1.keep m6 (fun h => h)
  refine send ?_
  refine forget_wp [(1, _), (2, _)] ⟨rfl, rfl, trivial⟩ fun _ => ?_
  refine sreg ?_
  refine sv (xfld fl112_15 rfl) ?_
  refine sv (xld on110 rfl (h1.r.c 15 rfl rfl)) ?_
  refine sc (xcall ca183 rfl) (c183 (U := U) (fun k hk => by have hk := hU k hk; omega) hp (by omega) hpl) ?_
  rintro v5 w7 ⟨L5, m8⟩
  have z9 := m8.size
  have hp := hp.keep pair_st (fun k hk => by have hk := hU k hk; omega) m8 (fun _ _ h => h)
  have hf := hf.step0 m8
  have h1 := h1.keep m8 (fun h => h)
  have h2 := h2.keep m8 (fun h => h)
  obtain ⟨aq5, cq5, rfl⟩ := L5.form
  refine sv (xbuildS [[.slice aq5 r.pairs.length cq5]] zr218 ly218 rfl (by simp [fitAll, zs218, Value.cells]) rfl) ?_
  refine suK (xstW h2 (lens' := [1]) sz218 rfl rfl rfl rfl rfl) ?_
  rintro w11 ⟨m12, h2, s10⟩
  have hp := hp.keep pair_st (fun k hk => by have hk := hU k hk; omega) m12 (fun k hk hS => by have hk := hU k hk; have hS : k = b2 := hS; omega)
  have hf := hf.step m12 (fun k hk hS => by have hS : k = b2 := hS; show False; omega)
  have h1 := h1.keep m12 (by show ¬ (b1 = b2); omega)
  have L5 := L5.keep pair_st (fun k hk => by have hk := Ub.num hU hk; omega) m12 (fun k hk hS => by have hk := Ub.num hU hk; have hS : k = b2 := hS; omega)
  refine send ?_
  refine forget_wp [(2, _)] ⟨rfl, trivial⟩ fun _ => ?_
  refine wp_ret ?_
  refine rp1 rfl ⟨_, rfl, ldS (lens := [1]) ro218 h2.r⟩ ?_
  exact ⟨_, rfl, L5.mono pair_gr (fun k hk => hk.elim .inl (fun h => .inr ⟨by omega, by omega⟩)), hf⟩
set_option maxHeartbeats 4000000 in
set_option maxRecDepth 100000 in
theorem c137 {w : World} {U : Nat → Prop} (hU : ∀ k, U k → k < w.heap.size) {r : RecD} {vd vt vp : Value} (hp : LA PairEl lPair U w vp r.pairs) (hn : r.pairs.length ≤ 1048576) (hpl : ∀ p ∈ r.pairs, p.data.length ≤ 1048576) (hs : r.host.size ≤ 255)  :
    Ret PP 137 [ag (recSegs r vd vt vp)] w (fun u w' => ∃ v, u = ag [[.int .u16 ((r.n1.toNat % 65536 : Nat) : Int)], nm (bt r.host), [v]] ∧ LA PairEl lPair (Ub U w w') w' v r.pairs ∧ Fr0 w w') := by
  obtain ⟨ap0, cp0, rfl⟩ := hp.form
  have hf : Fr (fun _ => False) w w := Fr.refl _ _
  refine ret_of Tryz.func137 rfl rfl rfl [(0, _)] rfl ?_
  refine sreg ?_
  refine svK (xboxS (lens := [1, 1, 1, 1, 1, 1, 1, 1, 1, 1, 1, 1, 1, 1, 1, 1]) rfl rfl) ?_
  rintro _ w2 ⟨b1, rfl, m3, h1, e1, s1⟩
  have hp := hp.keep pair_st (fun k hk => by have hk := hU k hk; omega) m3 (fun _ _ h => h)
  have hf := hf.step0 m3
  refine svK (xallS (lens := [1, 256, 1]) in224 (by simp [nm_length])) ?_
  rintro _ w5 ⟨b2, rfl, m6, h2, e4, s4⟩
  have hp := hp.keep pair_st (fun k hk => by have hk := hU k hk; omega) m6 (fun _ _ h => h)
  have hf := hf.step0 m6
  have h1 := h1.keep m6 (fun h => h)
  refine send ?_
  refine forget_wp [(1, _), (2, _)] ⟨rfl, rfl, trivial⟩ fun _ => ?_
  refine sdraw (Fr (fun _ => False) w5.drew) [(0, .rd), (1, .rd), (2, .rd), (3, .rd), (4, .rd), (6, .rd), (7, .rd), (5, .ld), (8, .ld), (9, .rd), (10, .bh)] mixed (by kernel_rfl) (fun _ _ _ _ _ h => h) ?_
  have z7 : w5.drew.heap.size = w5.heap.size := rfl
  have hp := hp.keep pair_st (fun k hk => by have hk := hU k hk; omega) (Fr.drew (Fr.refl (fun _ => False) w5)) (fun _ _ h => h)
  have hf := hf.drew
  have h1 := h1.drew
  have h2 := h2.drew
  have hS8 : Fr (fun _ => False) w5.drew w5.drew := Fr.refl _ _
  refine hv rfl (fun _ _ => xfld fl112_9 rfl) hS8 ?_
  refine hv rfl (fun w' hS => xld on61 rfl ((h1.keep hS (fun h => h)).r.c 9 rfl rfl)) hS8 ?_
  refine hv rfl (fun _ _ => xconv hs61 ki22 rfl (wu16n (r.n1.toNat % 65536) (by omega))) hS8 ?_
  refine hv rfl (fun _ _ => xfld fl112_7 rfl) hS8 ?_
  refine hv rfl (fun w' hS => xld on9 rfl ((h1.keep hS (fun h => h)).r.c 7 rfl rfl)) hS8 ?_
  refine hv rfl (fun _ _ => xfld fl112_15 rfl) hS8 ?_
  refine hv rfl (fun w' hS => xld on110 rfl ((h1.keep hS (fun h => h)).r.c 15 rfl rfl)) hS8 ?_
  refine hc rfl (xcall ca89 rfl) (c89 (by omega)) ?_
  rintro _ w9 ⟨rfl, m10⟩
  have z11 := m10.size
  have hp := hp.keep pair_st (fun k hk => by have hk := hU k hk; omega) m10 (fun _ _ h => h)
  have hf := hf.step0 m10
  have h1 := h1.keep m10 (fun h => h)
  have h2 := h2.keep m10 (fun h => h)
  have hS12 := hS8.step0 m10
  refine ⟨hS12, ?_⟩
  refine hc rfl (xcall ca186 rfl) (c186 (U := U) (fun k hk => by have hk := hU k hk; omega) hp (by omega) hpl) ?_
  rintro v11 w13 ⟨L11, m14⟩
  have z15 := m14.size
  have hp := hp.keep pair_st (fun k hk => by have hk := hU k hk; omega) m14 (fun _ _ h => h)
  have hf := hf.step0 m14
  have h1 := h1.keep m14 (fun h => h)
  have h2 := h2.keep m14 (fun h => h)
  have hS16 := hS12.step0 m14
  obtain ⟨aq11, cq11, rfl⟩ := L11.form
  refine ⟨hS16, ?_⟩
  refine hv rfl (fun _ _ => xbuildS [[.int .u16 ((r.n1.toNat % 65536 : Nat) : Int)], nm (bt r.host), [.slice aq11 r.pairs.length cq11]] zr224 ly224 rfl (by simp [fitAll, zs224, Value.cells, nm_length]) (by simp [setAll, zs224, Value.cells])) hS16 ?_
  refine bluK rfl (xstW h2 (lens' := [1, 256, 1]) sz224 (by simp [nm_length]) rfl (by simp only [List.flatten_cons, List.flatten_nil, List.all_append, List.append_nil, nm_one, Bool.true_and] <;> rfl) rfl rfl) ?_
  rintro w18 ⟨m19, h2, s17⟩
  have hp := hp.keep pair_st (fun k hk => by have hk := hU k hk; omega) m19 (fun k hk hS => by have hk := hU k hk; have hS : k = b2 := hS; omega)
  have hf := hf.step m19 (fun k hk hS => by have hS : k = b2 := hS; show False; omega)
  have h1 := h1.keep m19 (by show ¬ (b1 = b2); omega)
  have L11 := L11.keep pair_st (fun k hk => by have hk := Ub.num hU hk; omega) m19 (fun k hk hS => by have hk := Ub.num hU hk; have hS : k = b2 := hS; omega)
  refine hend ?_
  refine forget_wp [(2, _)] ⟨rfl, trivial⟩ fun _ => ?_
  refine wp_ret ?_
  refine rp1 rfl ⟨_, rfl, ldS (lens := [1, 256, 1]) ro224 h2.r⟩ ?_
  exact ⟨_, rfl, L11.mono pair_gr (fun k hk => hk.elim .inl (fun h => .inr ⟨by omega, by omega⟩)), hf⟩
set_option maxHeartbeats 4000000 in
set_option maxRecDepth 100000 in
theorem c139 {w : World} {U : Nat → Prop} (hU : ∀ k, U k → k < w.heap.size) {r : RecD} {vd vt vp : Value} (hp : LA PairEl lPair U w vp r.pairs) (hn : r.pairs.length ≤ 1048576) (hpl : ∀ p ∈ r.pairs, p.data.length ≤ 1048576) (hs : r.host.size ≤ 255)  :
    Ret PP 139 [ag (recSegs r vd vt vp)] w (fun u w' => ∃ v, u = ag [[.int .u16 ((r.n1.toNat % 65536 : Nat) : Int)], nm (bt r.host), [v]] ∧ LA PairEl lPair (Ub U w w') w' v r.pairs ∧ Fr0 w w') := by
  obtain ⟨ap0, cp0, rfl⟩ := hp.form
  have hf : Fr (fun _ => False) w w := Fr.refl _ _
  refine ret_of Tryz.func139 rfl rfl rfl [(0, _)] rfl ?_
  refine sreg ?_
  refine svK (xboxS (lens := [1, 1, 1, 1, 1, 1, 1, 1, 1, 1, 1, 1, 1, 1, 1, 1]) rfl rfl) ?_
  rintro _ w2 ⟨b1, rfl, m3, h1, e1, s1⟩
  have hp := hp.keep pair_st (fun k hk => by have hk := hU k hk; omega) m3 (fun _ _ h => h)
  have hf := hf.step0 m3
  refine svK (xallS (lens := [1, 256, 1]) in228 (by simp [nm_length])) ?_
  rintro _ w5 ⟨b2, rfl, m6, h2, e4, s4⟩
  have hp := hp.keep pair_st (fun k hk => by have hk := hU k hk; omega) m6 (fun _ _ h => h)
  have hf := hf.step0 m6
  have h1 := h1.keep m6 (fun h => h)
  refine send ?_
  refine forget_wp [(1, _), (2, _)] ⟨rfl, rfl, trivial⟩ fun _ => ?_
  refine sreg ?_
  refine sv (xldS (lens := [1, 1, 1, 1, 1, 1, 1, 1, 1, 1, 1, 1, 1, 1, 1, 1]) ro112 rfl h1.r) ?_
  refine sc (xcall ca137 rfl) (c137 (U := U) (fun k hk => by have hk := hU k hk; omega) hp (by omega) hpl hs) ?_
  rintro _ w7 ⟨v4, rfl, L4, m8⟩
  have z9 := m8.size
  have hp := hp.keep pair_st (fun k hk => by have hk := hU k hk; omega) m8 (fun _ _ h => h)
  have hf := hf.step0 m8
  have h1 := h1.keep m8 (fun h => h)
  have h2 := h2.keep m8 (fun h => h)
  obtain ⟨aq4, cq4, rfl⟩ := L4.form
  refine sv (xbuildS [[.int .u16 ((r.n1.toNat % 65536 : Nat) : Int)], nm (bt r.host), [.slice aq4 r.pairs.length cq4]] zr228 ly228 rfl (by simp [fitAll, zs228, Value.cells, nm_length]) (by simp [setAll, zs228, Value.cells])) ?_
  refine suK (xstW h2 (lens' := [1, 256, 1]) sz228 (by simp [nm_length]) rfl (by simp only [List.flatten_cons, List.flatten_nil, List.all_append, List.append_nil, nm_one, Bool.true_and] <;> rfl) rfl rfl) ?_
  rintro w11 ⟨m12, h2, s10⟩
  have hp := hp.keep pair_st (fun k hk => by have hk := hU k hk; omega) m12 (fun k hk hS => by have hk := hU k hk; have hS : k = b2 := hS; omega)
  have hf := hf.step m12 (fun k hk hS => by have hS : k = b2 := hS; show False; omega)
  have h1 := h1.keep m12 (by show ¬ (b1 = b2); omega)
  have L4 := L4.keep pair_st (fun k hk => by have hk := Ub.num hU hk; omega) m12 (fun k hk hS => by have hk := Ub.num hU hk; have hS : k = b2 := hS; omega)
  refine send ?_
  refine forget_wp [(2, _)] ⟨rfl, trivial⟩ fun _ => ?_
  refine wp_ret ?_
  refine rp1 rfl ⟨_, rfl, ldS (lens := [1, 256, 1]) ro228 h2.r⟩ ?_
  exact ⟨_, rfl, L4.mono pair_gr (fun k hk => hk.elim .inl (fun h => .inr ⟨by omega, by omega⟩)), hf⟩
set_option maxHeartbeats 4000000 in
set_option maxRecDepth 100000 in
theorem c141 {w : World} {U : Nat → Prop} (hU : ∀ k, U k → k < w.heap.size) {r : RecD} {vd vt vp : Value} (hd : BA U w vd r.data) (hn : r.data.length ≤ 1048576) :
    Ret PP 141 [ag (recSegs r vd vt vp)] w (fun u w' => ∃ v, u = ag [[.int .u16 (r.typ.toNat : Int)], [v]] ∧ BA (Ub U w w') w' v r.data ∧ Fr0 w w') := by
  obtain ⟨ad0, cd0, rfl, -⟩ := id hd
  have hf : Fr (fun _ => False) w w := Fr.refl _ _
  refine ret_of Tryz.func141 rfl rfl rfl [(0, _)] rfl ?_
  refine sreg ?_
  refine svK (xboxS (lens := [1, 1, 1, 1, 1, 1, 1, 1, 1, 1, 1, 1, 1, 1, 1, 1]) rfl rfl) ?_
  rintro _ w2 ⟨b1, rfl, m3, h1, e1, s1⟩
  have hd := hd.keep (fun k hk => by have hk := hU k hk; omega) m3 (fun _ _ h => h)
  have hf := hf.step0 m3
  refine svK (xallS (lens := [1, 1]) in231 rfl) ?_
  rintro _ w5 ⟨b2, rfl, m6, h2, e4, s4⟩
  have hd := hd.keep (fun k hk => by have hk := hU k hk; omega) m6 (fun _ _ h => h)
  have hf := hf.step0 m6
  have h1 := h1.keep m6 (fun h => h)
  refine send ?_
  refine forget_wp [(1, _), (2, _)] ⟨rfl, rfl, trivial⟩ fun _ => ?_
  refine sdraw (Fr (fun _ => False) w5.drew) [(0, .rd), (1, .rd), (3, .rd), (4, .rd), (2, .ld), (5, .ld), (6, .rd), (7, .bh)] mixed (by kernel_rfl) (fun _ _ _ _ _ h => h) ?_
  have z7 : w5.drew.heap.size = w5.heap.size := rfl
  have hd := hd.keep (fun k hk => by have hk := hU k hk; omega) (Fr.drew (Fr.refl (fun _ => False) w5)) (fun _ _ h => h)
  have hf := hf.drew
  have h1 := h1.drew
  have h2 := h2.drew
  have hS8 : Fr (fun _ => False) w5.drew w5.drew := Fr.refl _ _
  refine hv rfl (fun _ _ => xfld fl112_1 rfl) hS8 ?_
  refine hv rfl (fun w' hS => xld on22 rfl ((h1.keep hS (fun h => h)).r.c 1 rfl rfl)) hS8 ?_
  refine hv rfl (fun _ _ => xfld fl112_6 rfl) hS8 ?_
  refine hv rfl (fun w' hS => xld on37 rfl ((h1.keep hS (fun h => h)).r.c 6 rfl rfl)) hS8 ?_
  refine hlK rfl (xslit (bvs []) sl37 in5 rfl (by decide) rfl rfl rfl rfl (by decide) rfl (bvs_one _)) ?_
  rintro _ w10 ⟨b5, rfl, m11, h5, e5, s5, r5⟩
  have hd := hd.keep (fun k hk => by have hk := hU k hk; omega) m11 (fun _ _ h => h)
  have hf := hf.step0 m11
  have h1 := h1.keep m11 (fun h => h)
  have h2 := h2.keep m11 (fun h => h)
  have hS12 := hS8.step0 m11
  refine ⟨hS12, ?_⟩
  refine hlK rfl (xapp sl37 in5 rfl (by decide) rfl rfl r5 (hd.src sl37) (by simp only [maxLen]; omega) (by omega)) ?_
  rintro _ w13 ⟨g8, r8, m14, a8, l8⟩
  have z15 := m14.size
  have hd := hd.keep (fun k hk => by have hk := hU k hk; omega) m14 (fun k hk hS => by have hk := hU k hk; have hS : k = b5 := hS; omega)
  have hf := hf.step m14 (fun k hk hS => by have hS : k = b5 := hS; show False; omega)
  have h1 := h1.keep m14 (by show ¬ (b1 = b5); omega)
  have h2 := h2.keep m14 (by show ¬ (b2 = b5); omega)
  have hS16 := hS12.step m14 (fun k hk hS => by have hS : k = b5 := hS; show False; omega)
  obtain ⟨p8, q8, rfl, -⟩ := r8.form
  refine ⟨hS16, ?_⟩
  refine hv rfl (fun _ _ => xbuildS [[.int .u16 (r.typ.toNat : Int)], [.slice p8 (0 + r.data.length) q8]] zr231 ly231 rfl (by simp [fitAll, zs231, Value.cells]) rfl) hS16 ?_
  refine bluK rfl (xstW h2 (lens' := [1, 1]) sz231 rfl rfl rfl rfl rfl) ?_
  rintro w18 ⟨m19, h2, s17⟩
  have hd := hd.keep (fun k hk => by have hk := hU k hk; omega) m19 (fun k hk hS => by have hk := hU k hk; have hS : k = b2 := hS; omega)
  have hf := hf.step m19 (fun k hk hS => by have hS : k = b2 := hS; show False; omega)
  have h1 := h1.keep m19 (by show ¬ (b1 = b2); omega)
  have r8 := r8.keep m19 (by show ¬ (g8 = b2); omega)
  refine hend ?_
  refine forget_wp [(2, _)] ⟨rfl, trivial⟩ fun _ => ?_
  refine wp_ret ?_
  refine rp1 rfl ⟨_, rfl, ldS (lens := [1, 1]) ro231 h2.r⟩ ?_
  exact ⟨_, rfl, BR.ba (show BR _ _ _ _ r.data from r8) (.inr ⟨by omega, by omega⟩), hf⟩
end Go.Proofs.YtifnodoffgfpbaaGreatDoor
