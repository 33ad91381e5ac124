/- Walks: methods of bodies, called through an interface. Conditions: none. -/
import Derived.Test.YtifnodoffgfpbaaGreatDoorW19
namespace Go.Proofs.YtifnodoffgfpbaaGreatDoor
open Go
set_option maxRecDepth 100000
theorem mt186 : mthB PP 186 "loop.example/pub-messagesmixed/pub/dnsmessage.realType" 163 = true := by kernel_rfl
theorem cb163 : callB PP 163 = true := by kernel_rfl
theorem mt190 : mthB PP 190 "loop.example/pub-messagesmixed/pub/dnsmessage.realType" 165 = true := by kernel_rfl
theorem cb165 : callB PP 165 = true := by kernel_rfl
theorem mt193 : mthB PP 193 "loop.example/pub-messagesmixed/pub/dnsmessage.realType" 167 = true := by kernel_rfl
theorem cb167 : callB PP 167 = true := by kernel_rfl
theorem mt196 : mthB PP 196 "loop.example/pub-messagesmixed/pub/dnsmessage.realType" 169 = true := by kernel_rfl
theorem cb169 : callB PP 169 = true := by kernel_rfl
theorem mt199 : mthB PP 199 "loop.example/pub-messagesmixed/pub/dnsmessage.realType" 171 = true := by kernel_rfl
theorem cb171 : callB PP 171 = true := by kernel_rfl
theorem mt202 : mthB PP 202 "loop.example/pub-messagesmixed/pub/dnsmessage.realType" 173 = true := by kernel_rfl
theorem cb173 : callB PP 173 = true := by kernel_rfl
theorem mt205 : mthB PP 205 "loop.example/pub-messagesmixed/pub/dnsmessage.realType" 175 = true := by kernel_rfl
theorem cb175 : callB PP 175 = true := by kernel_rfl
theorem mt208 : mthB PP 208 "loop.example/pub-messagesmixed/pub/dnsmessage.realType" 177 = true := by kernel_rfl
theorem cb177 : callB PP 177 = true := by kernel_rfl
theorem mt212 : mthB PP 212 "loop.example/pub-messagesmixed/pub/dnsmessage.realType" 179 = true := by kernel_rfl
theorem cb179 : callB PP 179 = true := by kernel_rfl
theorem mt215 : mthB PP 215 "loop.example/pub-messagesmixed/pub/dnsmessage.realType" 181 = true := by kernel_rfl
theorem cb181 : callB PP 181 = true := by kernel_rfl
theorem mt221 : mthB PP 221 "loop.example/pub-messagesmixed/pub/dnsmessage.realType" 184 = true := by kernel_rfl
theorem cb184 : callB PP 184 = true := by kernel_rfl
theorem mt226 : mthB PP 226 "loop.example/pub-messagesmixed/pub/dnsmessage.realType" 187 = true := by kernel_rfl
theorem cb187 : callB PP 187 = true := by kernel_rfl
theorem mt229 : mthB PP 229 "loop.example/pub-messagesmixed/pub/dnsmessage.realType" 188 = true := by kernel_rfl
theorem cb188 : callB PP 188 = true := by kernel_rfl
theorem mp_186 : mthB PP 186 "loop.example/pub-messagesmixed/pub/dnsmessage.pack" 164 = true := by kernel_rfl
theorem cb164 : callB PP 164 = true := by kernel_rfl
theorem mp_190 : mthB PP 190 "loop.example/pub-messagesmixed/pub/dnsmessage.pack" 166 = true := by kernel_rfl
theorem cb166 : callB PP 166 = true := by kernel_rfl
theorem mp_193 : mthB PP 193 "loop.example/pub-messagesmixed/pub/dnsmessage.pack" 168 = true := by kernel_rfl
theorem cb168 : callB PP 168 = true := by kernel_rfl
theorem mp_196 : mthB PP 196 "loop.example/pub-messagesmixed/pub/dnsmessage.pack" 170 = true := by kernel_rfl
theorem cb170 : callB PP 170 = true := by kernel_rfl
theorem mp_199 : mthB PP 199 "loop.example/pub-messagesmixed/pub/dnsmessage.pack" 172 = true := by kernel_rfl
theorem cb172 : callB PP 172 = true := by kernel_rfl
theorem mp_202 : mthB PP 202 "loop.example/pub-messagesmixed/pub/dnsmessage.pack" 174 = true := by kernel_rfl
theorem cb174 : callB PP 174 = true := by kernel_rfl
theorem mp_205 : mthB PP 205 "loop.example/pub-messagesmixed/pub/dnsmessage.pack" 176 = true := by kernel_rfl
theorem cb176 : callB PP 176 = true := by kernel_rfl
theorem mp_208 : mthB PP 208 "loop.example/pub-messagesmixed/pub/dnsmessage.pack" 178 = true := by kernel_rfl
theorem cb178 : callB PP 178 = true := by kernel_rfl
theorem mp_212 : mthB PP 212 "loop.example/pub-messagesmixed/pub/dnsmessage.pack" 180 = true := by kernel_rfl
theorem cb180 : callB PP 180 = true := by kernel_rfl
theorem mp_215 : mthB PP 215 "loop.example/pub-messagesmixed/pub/dnsmessage.pack" 182 = true := by kernel_rfl
theorem cb182 : callB PP 182 = true := by kernel_rfl
theorem mp_221 : mthB PP 221 "loop.example/pub-messagesmixed/pub/dnsmessage.pack" 210 = true := by kernel_rfl
theorem mp_229 : mthB PP 229 "loop.example/pub-messagesmixed/pub/dnsmessage.pack" 189 = true := by kernel_rfl
theorem cb189 : callB PP 189 = true := by kernel_rfl
theorem cb210 : callB PP 210 = true := by kernel_rfl
set_option maxHeartbeats 4000000 in
set_option maxRecDepth 100000 in
theorem c163 {w : World} {v : Value} :
    Ret PP 163 [v] w (fun u w' => u = .int .u16 1 ∧ Fr0 w w') := by
  have hf : Fr (fun _ => False) w w := Fr.refl _ _
  refine ret_of Tryz.func163 rfl rfl rfl [(0, _)] rfl ?_
  refine sreg ?_
  refine sv (xassign rfl) ?_
  refine send ?_
  refine forget_wp [] trivial fun _ => ?_
  refine sreg ?_
  refine sv (xassign rfl) ?_
  refine send ?_
  refine forget_wp [(2, _)] ⟨rfl, trivial⟩ fun _ => ?_
  refine wp_ret ?_
  refine rp1 rfl rfl ?_
  exact ⟨rfl, hf⟩
set_option maxHeartbeats 4000000 in
set_option maxRecDepth 100000 in
theorem c165 {w : World} {v : Value} :
    Ret PP 165 [v] w (fun u w' => u = .int .u16 2 ∧ Fr0 w w') := by
  have hf : Fr (fun _ => False) w w := Fr.refl _ _
  refine ret_of Tryz.func165 rfl rfl rfl [(0, _)] rfl ?_
  refine sreg ?_
  refine sv (xassign rfl) ?_
  refine send ?_
  refine forget_wp [] trivial fun _ => ?_
  refine sreg ?_
  refine sv (xassign rfl) ?_
  refine send ?_
  refine forget_wp [(2, _)] ⟨rfl, trivial⟩ fun _ => ?_
  refine wp_ret ?_
  refine rp1 rfl rfl ?_
  exact ⟨rfl, hf⟩
set_option maxHeartbeats 4000000 in
set_option maxRecDepth 100000 in
theorem c167 {w : World} {v : Value} :
    Ret PP 167 [v] w (fun u w' => u = .int .u16 5 ∧ Fr0 w w') := by
  have hf : Fr (fun _ => False) w w := Fr.refl _ _
  refine ret_of Tryz.func167 rfl rfl rfl [(0, _)] rfl ?_
  refine sreg ?_
  refine sv (xassign rfl) ?_
  refine send ?_
  refine forget_wp [] trivial fun _ => ?_
  refine sreg ?_
  refine sv (xassign rfl) ?_
  refine send ?_
  refine forget_wp [(2, _)] ⟨rfl, trivial⟩ fun _ => ?_
  refine wp_ret ?_
  refine rp1 rfl rfl ?_
  exact ⟨rfl, hf⟩
set_option maxHeartbeats 4000000 in
set_option maxRecDepth 100000 in
theorem c169 {w : World} {v : Value} :
    Ret PP 169 [v] w (fun u w' => u = .int .u16 6 ∧ Fr0 w w') := by
  have hf : Fr (fun _ => False) w w := Fr.refl _ _
  refine ret_of Tryz.func169 rfl rfl rfl [(0, _)] rfl ?_
  refine sreg ?_
  refine sv (xassign rfl) ?_
  refine send ?_
  refine forget_wp [] trivial fun _ => ?_
  refine sreg ?_
  refine sv (xassign rfl) ?_
  refine send ?_
  refine forget_wp [(2, _)] ⟨rfl, trivial⟩ fun _ => ?_
  refine wp_ret ?_
  refine rp1 rfl rfl ?_
  exact ⟨rfl, hf⟩
set_option maxHeartbeats 4000000 in
set_option maxRecDepth 100000 in
theorem c171 {w : World} {v : Value} :
    Ret PP 171 [v] w (fun u w' => u = .int .u16 12 ∧ Fr0 w w') := by
  have hf : Fr (fun _ => False) w w := Fr.refl _ _
  refine ret_of Tryz.func171 rfl rfl rfl [(0, _)] rfl ?_
  refine sreg ?_
  refine sv (xassign rfl) ?_
  refine send ?_
  refine forget_wp [] trivial fun _ => ?_
  refine sreg ?_
  refine sv (xassign rfl) ?_
  refine send ?_
  refine forget_wp [(2, _)] ⟨rfl, trivial⟩ fun _ => ?_
  refine wp_ret ?_
  refine rp1 rfl rfl ?_
  exact ⟨rfl, hf⟩
set_option maxHeartbeats 4000000 in
set_option maxRecDepth 100000 in
theorem c173 {w : World} {v : Value} :
    Ret PP 173 [v] w (fun u w' => u = .int .u16 15 ∧ Fr0 w w') := by
  have hf : Fr (fun _ => False) w w := Fr.refl _ _
  refine ret_of Tryz.func173 rfl rfl rfl [(0, _)] rfl ?_
  refine sreg ?_
  refine sv (xassign rfl) ?_
  refine send ?_
  refine forget_wp [] trivial fun _ => ?_
  refine sreg ?_
  refine sv (xassign rfl) ?_
  refine send ?_
  refine forget_wp [(2, _)] ⟨rfl, trivial⟩ fun _ => ?_
  refine wp_ret ?_
  refine rp1 rfl rfl ?_
  exact ⟨rfl, hf⟩
set_option maxHeartbeats 4000000 in
set_option maxRecDepth 100000 in
theorem c175 {w : World} {v : Value} :
    Ret PP 175 [v] w (fun u w' => u = .int .u16 16 ∧ Fr0 w w') := by
  have hf : Fr (fun _ => False) w w := Fr.refl _ _
  refine ret_of Tryz.func175 rfl rfl rfl [(0, _)] rfl ?_
  refine sreg ?_
  refine sv (xassign rfl) ?_
  refine send ?_
  refine forget_wp [] trivial fun _ => ?_
  refine sreg ?_
  refine sv (xassign rfl) ?_
  refine send ?_
  refine forget_wp [(2, _)] ⟨rfl, trivial⟩ fun _ => ?_
  refine wp_ret ?_
  refine rp1 rfl rfl ?_
  exact ⟨rfl, hf⟩
set_option maxHeartbeats 4000000 in
set_option maxRecDepth 100000 in
theorem c177 {w : World} {v : Value} :
    Ret PP 177 [v] w (fun u w' => u = .int .u16 28 ∧ Fr0 w w') := by
  have hf : Fr (fun _ => False) w w := Fr.refl _ _
  refine ret_of Tryz.func177 rfl rfl rfl [(0, _)] rfl ?_
  refine sreg ?_
  refine sv (xassign rfl) ?_
  refine send ?_
  refine forget_wp [] trivial fun _ => ?_
  refine sreg ?_
  refine sv (xassign rfl) ?_
  refine send ?_
  refine forget_wp [(2, _)] ⟨rfl, trivial⟩ fun _ => ?_
  refine wp_ret ?_
  refine rp1 rfl rfl ?_
  exact ⟨rfl, hf⟩
set_option maxHeartbeats 4000000 in
set_option maxRecDepth 100000 in
theorem c179 {w : World} {v : Value} :
    Ret PP 179 [v] w (fun u w' => u = .int .u16 33 ∧ Fr0 w w') := by
  have hf : Fr (fun _ => False) w w := Fr.refl _ _
  refine ret_of Tryz.func179 rfl rfl rfl [(0, _)] rfl ?_
  refine sreg ?_
  refine sv (xassign rfl) ?_
  refine send ?_
  refine forget_wp [] trivial fun _ => ?_
  refine sreg ?_
  refine sv (xassign rfl) ?_
  refine send ?_
  refine forget_wp [(2, _)] ⟨rfl, trivial⟩ fun _ => ?_
  refine wp_ret ?_
  refine rp1 rfl rfl ?_
  exact ⟨rfl, hf⟩
set_option maxHeartbeats 4000000 in
set_option maxRecDepth 100000 in
theorem c181 {w : World} {v : Value} :
    Ret PP 181 [v] w (fun u w' => u = .int .u16 41 ∧ Fr0 w w') := by
  have hf : Fr (fun _ => False) w w := Fr.refl _ _
  refine ret_of Tryz.func181 rfl rfl rfl [(0, _)] rfl ?_
  refine sreg ?_
  refine sv (xassign rfl) ?_
  refine send ?_
  refine forget_wp [] trivial fun _ => ?_
  refine sreg ?_
  refine sv (xassign rfl) ?_
  refine send ?_
  refine forget_wp [(2, _)] ⟨rfl, trivial⟩ fun _ => ?_
  refine wp_ret ?_
  refine rp1 rfl rfl ?_
  exact ⟨rfl, hf⟩
set_option maxHeartbeats 4000000 in
set_option maxRecDepth 100000 in
theorem c184 {w : World} {v : Value} :
    Ret PP 184 [v] w (fun u w' => u = .int .u16 64 ∧ Fr0 w w') := by
  have hf : Fr (fun _ => False) w w := Fr.refl _ _
  refine ret_of Tryz.func184 rfl rfl rfl [(0, _)] rfl ?_
  refine sreg ?_
  refine sv (xassign rfl) ?_
  refine send ?_
  refine forget_wp [] trivial fun _ => ?_
  refine sreg ?_
  refine sv (xassign rfl) ?_
  refine send ?_
  refine forget_wp [(2, _)] ⟨rfl, trivial⟩ fun _ => ?_
  refine wp_ret ?_
  refine rp1 rfl rfl ?_
  exact ⟨rfl, hf⟩
set_option maxHeartbeats 4000000 in
set_option maxRecDepth 100000 in
theorem c187 {w : World} {v : Value} :
    Ret PP 187 [v] w (fun u w' => u = .int .u16 65 ∧ Fr0 w w') := by
  have hf : Fr (fun _ => False) w w := Fr.refl _ _
  refine ret_of Tryz.func187 rfl rfl rfl [(0, _)] rfl ?_
  refine sreg ?_
  refine sv (xassign rfl) ?_
  refine send ?_
  refine forget_wp [] trivial fun _ => ?_
  refine sreg ?_
  refine sv (xassign rfl) ?_
  refine send ?_
  refine forget_wp [(2, _)] ⟨rfl, trivial⟩ fun _ => ?_
  refine wp_ret ?_
  refine rp1 rfl rfl ?_
  exact ⟨rfl, hf⟩
set_option maxHeartbeats 4000000 in
set_option maxRecDepth 100000 in
theorem c188 {w : World} {bo o : Nat} {x : UInt16} {vd : Value} (hN : SR w bo o [1, 1] [[.int .u16 (x.toNat : Int)], [vd]]) :
    Ret PP 188 [.pointer (some ⟨bo, o, none⟩)] w (fun u w' => u = .int .u16 (x.toNat : Int) ∧ Fr0 w w') := by
  have hf : Fr (fun _ => False) w w := Fr.refl _ _
  refine ret_of Tryz.func188 rfl rfl rfl [(0, _)] rfl ?_
  refine sreg ?_
  refine sv (xassign rfl) ?_
  refine send ?_
  refine forget_wp [(0, _)] ⟨rfl, trivial⟩ fun _ => ?_
  refine sreg ?_
  refine sv (xmove rfl) ?_
  refine sv (xnilc rfl) ?_
  refine sv (xfld fl231_0 rfl) ?_
  refine sv (xld on83 rfl (hN.c 0 rfl rfl)) ?_
  refine sv (xassign rfl) ?_
  refine send ?_
  refine forget_wp [(2, _)] ⟨rfl, trivial⟩ fun _ => ?_
  refine wp_ret ?_
  refine rp1 rfl rfl ?_
  exact ⟨rfl, hf⟩

theorem typeN_of {r : RecD} : (r.kind = 1 → typeN r = 1) ∧ (r.kind = 2 → typeN r = 2) ∧ (r.kind = 3 → typeN r = 5) ∧ (r.kind = 4 → typeN r = 6) ∧ (r.kind = 5 → typeN r = 12) ∧ (r.kind = 6 → typeN r = 15) ∧ (r.kind = 7 → typeN r = 16) ∧ (r.kind = 8 → typeN r = 28) ∧ (r.kind = 9 → typeN r = 33) ∧ (r.kind = 10 → typeN r = 41) ∧ (r.kind = 11 → typeN r = 64) ∧ (r.kind = 12 → typeN r = 65) := by
  refine ⟨fun h => ?_, fun h => ?_, fun h => ?_, fun h => ?_, fun h => ?_, fun h => ?_, fun h => ?_, fun h => ?_, fun h => ?_, fun h => ?_, fun h => ?_, fun h => ?_⟩ <;> simp [typeN, h]
/-- the type of a body, asked through the interface -/
theorem inv_type {U : Nat → Prop} {w : World} {v : Value} {r : RecD} (hB : BodyEl U w v r) : ∃ f a, (∀ (n : Nat) (l : List (Nat × Value)) (ty : TypeId) (x : Operand) (ts : Array TypeId), ev n l x = some v → ExC PP n l (.call { callee := .invoke x "loop.example/pub-messagesmixed/pub/dnsmessage.realType", args := #[], argTypes := ts }) ty w f [a]) ∧
    Ret PP f [a] w (fun u w' => u = .int .u16 ((typeN r).toNat : Int) ∧ Fr0 w w') := by
  obtain ⟨b, T, lens, segs, rfl, hb, hr, h⟩ := hB
  cases h with
  | a h => exact ⟨163, _, fun n l ty x ts hx => xinv (xs := []) mt186 cb163 hx rfl, by rw [typeN_of.1 h]; exact c163⟩
  | ns h => exact ⟨165, _, fun n l ty x ts hx => xinv (xs := []) mt190 cb165 hx rfl, by rw [typeN_of.2.1 h]; exact c165⟩
  | cname h => exact ⟨167, _, fun n l ty x ts hx => xinv (xs := []) mt193 cb167 hx rfl, by rw [typeN_of.2.2.1 h]; exact c167⟩
  | soa h => exact ⟨169, _, fun n l ty x ts hx => xinv (xs := []) mt196 cb169 hx rfl, by rw [typeN_of.2.2.2.1 h]; exact c169⟩
  | ptr h => exact ⟨171, _, fun n l ty x ts hx => xinv (xs := []) mt199 cb171 hx rfl, by rw [typeN_of.2.2.2.2.1 h]; exact c171⟩
  | mx h => exact ⟨173, _, fun n l ty x ts hx => xinv (xs := []) mt202 cb173 hx rfl, by rw [typeN_of.2.2.2.2.2.1 h]; exact c173⟩
  | txt h ht => exact ⟨175, _, fun n l ty x ts hx => xinv (xs := []) mt205 cb175 hx rfl, by rw [typeN_of.2.2.2.2.2.2.1 h]; exact c175⟩
  | aaaa h => exact ⟨177, _, fun n l ty x ts hx => xinv (xs := []) mt208 cb177 hx rfl, by rw [typeN_of.2.2.2.2.2.2.2.1 h]; exact c177⟩
  | srv h => exact ⟨179, _, fun n l ty x ts hx => xinv (xs := []) mt212 cb179 hx rfl, by rw [typeN_of.2.2.2.2.2.2.2.2.1 h]; exact c179⟩
  | opt h hp => exact ⟨181, _, fun n l ty x ts hx => xinv (xs := []) mt215 cb181 hx rfl, by rw [typeN_of.2.2.2.2.2.2.2.2.2.1 h]; exact c181⟩
  | svcb h hp => exact ⟨184, _, fun n l ty x ts hx => xinv (xs := []) mt221 cb184 hx rfl, by rw [typeN_of.2.2.2.2.2.2.2.2.2.2.1 h]; exact c184⟩
  | https h hp => exact ⟨187, _, fun n l ty x ts hx => xinv (xs := []) mt226 cb187 hx rfl, by rw [typeN_of.2.2.2.2.2.2.2.2.2.2.2 h]; exact c187⟩
  | other h hd => exact ⟨188, _, fun n l ty x ts hx => xinv (xs := []) mt229 cb188 hx rfl, c188 hr⟩


/-- method name of values of type T is function f, which takes the place of the first field of what the value points to -/
def mthE (P : Program) (T : TypeId) (name : String) (f : FuncId) : Bool :=
  match P.info? T with
    | some i => match i.methods.find? (·.name == name) with
      | some m => (match m.path.toList with
        | [s] => s.deref && (match P.underlying s.struct with
          | some (.struct fs) => (match fs[s.index]? with
            | some fd => fd.offset == 0 && (match P.info? fd.type with
              | some j => j.size != 0
              | none => false) && (match P.underlying fd.type with
              | some (.struct _) => true
              | _ => false)
            | none => false)
          | _ => false)
        | _ => false) && (match m.func with
        | some (g, b) => g == f && b
        | none => false)
      | none => false
    | none => false
theorem xinvE {P : Program} {n : Nat} {l : List (Nat × Value)} {w : World} {ty : TypeId} {T : TypeId} {bb : Nat} {x : Operand} {name : String} {f : FuncId} {xs : List Operand} {ts : Array TypeId} {vs : List Value} (hm : mthE P T name f = true) (hf : callB P f = true)
    (hx : ev n l x = some (.iface T (.pointer (some ⟨bb, 0, none⟩)))) (hxs : evs n l xs = some vs) :
    ExC P n l (.call { callee := .invoke x name, args := xs.toArray, argTypes := ts }) ty w f (.pointer (some ⟨bb, 0, none⟩) :: vs) := fun r _ _ _ _ => by
  unfold callB at hf
  split at hf
  · rename_i fn hfn
    simp only [Bool.and_eq_true, Bool.not_eq_true'] at hf
    have hn : ¬ fn.name = "runtime.NumGoroutine" := by simpa using hf.1
    have hb : ¬ fn.body = none := fun h => by rw [h] at hf; cases hf.2
    unfold mthE at hm
    split at hm
    · rename_i i hi
      split at hm
      · rename_i m hmm
        simp only [Bool.and_eq_true] at hm
        obtain ⟨hp, hg⟩ := hm
        split at hp
        · rename_i s hpath
          simp only [Bool.and_eq_true] at hp
          obtain ⟨hd, hp⟩ := hp
          split at hp
          · rename_i fs hfs
            split at hp
            · rename_i fd hfd
              simp only [Bool.and_eq_true, beq_iff_eq] at hp
              obtain ⟨⟨ho, hj⟩, hu⟩ := hp
              split at hj
              · rename_i j hj'
                simp only [bne_iff_ne, ne_eq] at hj
                split at hu
                · rename_i fs2 hfs2
                  split at hg
                  · rename_i g b hgb
                    simp only [Bool.and_eq_true, beq_iff_eq] at hg
                    obtain ⟨rfl, rfl⟩ := hg
                    simp only [execOp]
                    have hadd : (⟨bb, 0, none⟩ : Addr).add 0 = ⟨bb, 0, none⟩ := addr_add bb 0 0
                    have hmeth : (method (P.types.size + Made.depth) T (.pointer (some ⟨bb, 0, none⟩)) name).run P w = .ok (g, .pointer (some ⟨bb, 0, none⟩)) w := by
                      have hdp : 0 < Made.depth := by decide
                      obtain ⟨d, hd'⟩ : ∃ d, P.types.size + Made.depth = d + 1 := ⟨P.types.size + Made.depth - 1, by omega⟩
                      rw [hd']
                      simp [method, typeInfo, hi, hmm, hpath, follow, hgb, receiverAt, run_underlying hfs, run_underlying hfs2, Place.get, hfd, hd, asAddr, fieldPlace, ho, sizeOf, hj', hj, hadd]
                    simp [resolve, invoke, callMethod, ev_eval r hx, evs_eval r hxs, hmeth, callFunc, hfn]
                    rw [if_neg hn, if_neg hb]
                  · cases hg
                · cases hu
              · cases hj
            · cases hp
          · cases hp
        · cases hp
      · cases hm
    · cases hm
  · cases hf
theorem mp_226 : mthE PP 226 "loop.example/pub-messagesmixed/pub/dnsmessage.pack" 210 = true := by kernel_rfl
/-- what a body must be so that it can be packed -/
def FitP (r : RecD) : Prop := r.data.length ≤ 900000 ∧ (r.kind = 7 → ∀ s ∈ r.texts, s.size ≤ 255) ∧ r.texts.length ≤ 1048576 ∧ (textsL r.texts).length ≤ 900000 ∧ (∀ p ∈ r.pairs, p.data.length ≤ 65535) ∧ r.pairs.length ≤ 1048576 ∧ (pairsL r.pairs).length ≤ 900000 ∧ (r.kind = 11 ∨ r.kind = 12 → asc r.pairs)
theorem inv_pack {w : World} {v vb : Value} {g gm n start pos : Nat} {bs : List UInt8} {cm : Option Nat} {C : Option Ent} (hR : BR w v g n bs) (hg : g < w.heap.size) {r : RecD} (hnm : NamesOk r) (hfp : FitP r) {U : Nat → Prop} (hU : ∀ k, U k → k < w.heap.size ∧ k ≠ g ∧ k ≠ gm) (hB : BodyEl U w vb r) (hn0 : 0 < n)
    (hC : Cmp w cm C) (hm : ∀ b, cm = some b → b = gm ∧ gm ≠ g ∧ gm < w.heap.size) (hp : n = start + pos) (hl : n < 999000000) :
    ∃ f a, (∀ (m : Nat) (l : List (Nat × Value)) (ty : TypeId) (x : Operand) (xs : List Operand) (ts : Array TypeId), ev m l x = some vb → evs m l xs = some [v, .map cm, .int .i64 (start : Int)] → ExC PP m l (.call { callee := .invoke x "loop.example/pub-messagesmixed/pub/dnsmessage.pack", args := xs.toArray, argTypes := ts }) ty w f (a :: [v, .map cm, .int .i64 (start : Int)])) ∧
    Ret PP f (a :: [v, .map cm, .int .i64 (start : Int)]) w (AppC w g gm cm n bs (packBody C pos r).1 (packBody C pos r).2) := by
  obtain ⟨b, T, lens, segs, rfl, hb, hr, h⟩ := hB
  obtain ⟨hb1, hb2, hb3⟩ := hU b hb
  obtain ⟨f1, f2, f3, f4, f5, f6, f7, f8⟩ := hfp
  cases h with
  | a h => exact ⟨164, _, fun m l ty x xs ts hx hxs => xinv mp_186 cb164 hx hxs, c164 hR hg hb1 hb2 hb3 h hr hn0 hC hm hp hl⟩
  | ns h => exact ⟨166, _, fun m l ty x xs ts hx hxs => xinv mp_190 cb166 hx hxs, c166 hR hg hb1 hb2 hb3 h hr hn0 (hnm.2.1 (by omega)) hC hm hp hl⟩
  | cname h => exact ⟨168, _, fun m l ty x xs ts hx hxs => xinv mp_193 cb168 hx hxs, c168 hR hg hb1 hb2 hb3 h hr hn0 (hnm.2.1 (by omega)) hC hm hp hl⟩
  | soa h => exact ⟨170, _, fun m l ty x xs ts hx hxs => xinv mp_196 cb170 hx hxs, c170 hR hg hb1 hb2 hb3 h hr hn0 (hnm.2.1 (by omega)) (hnm.2.2 h) hC hm hp hl⟩
  | ptr h => exact ⟨172, _, fun m l ty x xs ts hx hxs => xinv mp_199 cb172 hx hxs, c172 hR hg hb1 hb2 hb3 h hr hn0 (hnm.2.1 (by omega)) hC hm hp hl⟩
  | mx h => exact ⟨174, _, fun m l ty x xs ts hx hxs => xinv mp_202 cb174 hx hxs, c174 hR hg hb1 hb2 hb3 h hr hn0 (hnm.2.1 (by omega)) hC hm hp hl⟩
  | txt h ht => exact ⟨176, _, fun m l ty x xs ts hx hxs => xinv mp_205 cb176 hx hxs, c176 hR hg hb1 hb2 hb3 h hr hn0 hU ht (f2 h) f3 f4 hC hm hp hl⟩
  | aaaa h => exact ⟨178, _, fun m l ty x xs ts hx hxs => xinv mp_208 cb178 hx hxs, c178 hR hg hb1 hb2 hb3 h hr hn0 hC hm hp hl⟩
  | srv h => exact ⟨180, _, fun m l ty x xs ts hx hxs => xinv mp_212 cb180 hx hxs, c180 hR hg hb1 hb2 hb3 h hr hn0 (hnm.2.1 (by omega)) hC hm hp hl⟩
  | opt h hp' => exact ⟨182, _, fun m l ty x xs ts hx hxs => xinv mp_215 cb182 hx hxs, c182 hR hg hb1 hb2 hb3 h hr hn0 hU hp' f5 f6 f7 hC hm hp hl⟩
  | svcb h hp' => exact ⟨210, _, fun m l ty x xs ts hx hxs => xinv mp_221 cb210 hx hxs, c210 hR hg hb1 hb2 hb3 (.inl h) hr hn0 (hnm.2.1 (by omega)) hU hp' (f8 (.inl h)) f5 f6 f7 hC hm hp hl⟩
  | https h hp' => exact ⟨210, _, fun m l ty x xs ts hx hxs => xinvE mp_226 cb210 hx hxs, c210 hR hg hb1 hb2 hb3 (.inr h) hr hn0 (hnm.2.1 (by omega)) hU hp' (f8 (.inr h)) f5 f6 f7 hC hm hp hl⟩
  | other h hd => exact ⟨189, _, fun m l ty x xs ts hx hxs => xinv mp_229 cb189 hx hxs, c189 hR hg hb1 hb2 hb3 h hr hn0 hU hd f1 hC hm hp hl⟩

end Go.Proofs.YtifnodoffgfpbaaGreatDoor
