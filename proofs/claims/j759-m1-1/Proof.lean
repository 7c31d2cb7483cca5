import JvmDerived
import JvmDerived.Pilot.@@N@@Statement
import JvmDerived.Pilot.@@N@@Code
set_option linter.unusedVariables false
set_option linter.unusedSimpArgs false
namespace Jvm.RoadKit
open Sem ClassFile Op Lib Jvm.Stand Jvm.Free Jvm.LawKit
section New
variable {p : Program} {l : Launch} {e : Env} {R : Room} {s : State} {m : MethodId} {args : Array Value} {below : List Frame} {meth : Method} {c : Code} {T : State} {locs : List Loc} {cells slots : Nat}
theorem retI (X : Stand p l e R s m args below meth c T locs cells slots) (hx : p.tables.exec = Jvm.exec) {pc : Nat} {Ls : Array Slot} {z : Int32} {rest : List Value} (hret : meth.sig.returnType = some .int) (hd : decode c.code pc = .ok (.ireturn, 1)) {fs : List Frame}
    (hl : ∀ (f : JFrame) (acts : List Action), f.method = m → f.locked = none → f.entered = [] → (doReturn e (T.setTop f) acts (some (.int z))).1 = T.setFrames fs) : Steps p.tables e below (T.setTop (mkF m pc Ls (.int z :: rest))) (T.setFrames fs) := by
  have hm' : T.vm.method? m = some meth := X.method'
  have hn : narrow .int (.int z) = .int z := rfl
  show Steps p.tables e below (T.setTop { method := m, pc := pc, locals := Ls, stack := _ :: rest, locked := none }) _
  jvm_step X.here [X.here.top, hx, hd, hm', hret, hn]
  first | (intro acts; rw [hl _ acts rfl rfl rfl]) | rw [hl _ _ rfl rfl rfl]
  exact Steps.refl _
end New
end Jvm.RoadKit
namespace Jvm.Pilot.@@N@@
open Jvm Jvm.ClassFile Sem Op Lib Jvm.Free Jvm.Stand Jvm.LawKit Jvm.RoadKit Bundle Jvm.Pilot.@@N@@.Jvm.D
/-! MY OWN LAYER, 1: a walk in forward style -/
/-- from the state S the run ends, and Q holds of the end -/
def Goes (tb : Tables) (e : Env) (below : List Frame) (Q : Outcome → State → Prop) (S : State) : Prop :=
  ∃ s₂ o, Steps tb e below S s₂ ∧ s₂.status = .running ∧ Ended s₂ below o ∧ Q o s₂
theorem Goes.out {tb : Tables} {e : Env} {below : List Frame} {Q : Outcome → State → Prop} {S : State} (h : Goes tb e below Q S) :
    ∃ s₂ o, Steps tb e below S s₂ ∧ s₂.status = .running ∧ Ended s₂ below o ∧ Q o s₂ := h
theorem Goes.step {tb : Tables} {e : Env} {below : List Frame} {Q : Outcome → State → Prop} {S S' : State}
    (h : ∀ t, Steps tb e below S' t → Steps tb e below S t) (k : Goes tb e below Q S') : Goes tb e below Q S := by
  obtain ⟨s₂, o, h1, h2⟩ := k
  exact ⟨s₂, o, h _ h1, h2⟩
section Ites
variable {tb : Tables} {e : Env} {below : List Frame} {T S : State} {c : Prop} [Decidable c]
theorem own_ite0 {F : JFrame} (hy : c → ∀ t, Steps tb e below (T.setTop F) t → Steps tb e below S t) (hn : ¬ c → ∀ t, Steps tb e below (T.setTop F) t → Steps tb e below S t) :
    ∀ t, Steps tb e below (T.setTop F) t → Steps tb e below S t := fun t k => by
  by_cases h : c
  · exact hy h t k
  · exact hn h t k
theorem own_ite1 {A0 : Type} {a0 b0 : A0} {F : A0 → JFrame} (hy : c → ∀ t, Steps tb e below (T.setTop (F a0)) t → Steps tb e below S t) (hn : ¬ c → ∀ t, Steps tb e below (T.setTop (F b0)) t → Steps tb e below S t) :
    ∀ t, Steps tb e below (T.setTop (F (if c then a0 else b0))) t → Steps tb e below S t := fun t k => by
  by_cases h : c
  · rw [if_pos h] at k; exact hy h t k
  · rw [if_neg h] at k; exact hn h t k
theorem own_ite2 {A0 A1 : Type} {a0 b0 : A0} {a1 b1 : A1} {F : A0 → A1 → JFrame} (hy : c → ∀ t, Steps tb e below (T.setTop (F a0 a1)) t → Steps tb e below S t) (hn : ¬ c → ∀ t, Steps tb e below (T.setTop (F b0 b1)) t → Steps tb e below S t) :
    ∀ t, Steps tb e below (T.setTop (F (if c then a0 else b0) (if c then a1 else b1))) t → Steps tb e below S t := fun t k => by
  by_cases h : c
  · rw [if_pos h, if_pos h] at k; exact hy h t k
  · rw [if_neg h, if_neg h] at k; exact hn h t k
theorem own_ite3 {A0 A1 A2 : Type} {a0 b0 : A0} {a1 b1 : A1} {a2 b2 : A2} {F : A0 → A1 → A2 → JFrame} (hy : c → ∀ t, Steps tb e below (T.setTop (F a0 a1 a2)) t → Steps tb e below S t) (hn : ¬ c → ∀ t, Steps tb e below (T.setTop (F b0 b1 b2)) t → Steps tb e below S t) :
    ∀ t, Steps tb e below (T.setTop (F (if c then a0 else b0) (if c then a1 else b1) (if c then a2 else b2))) t → Steps tb e below S t := fun t k => by
  by_cases h : c
  · rw [if_pos h, if_pos h, if_pos h] at k; exact hy h t k
  · rw [if_neg h, if_neg h, if_neg h] at k; exact hn h t k
end Ites
section Rets
variable {p : Program} {l : Launch} {e : Env} {R : Room} {s : State} {m : MethodId} {args : Array Value} {below : List Frame} {meth : Method} {c : Code} {T : State} {locs : List Loc} {cells slots : Nat}
variable {QQ : Option Value → Heap → List Loc → Prop} {C0 S0 : Nat} {pc : Nat} {Ls : Array Slot} {rest : List Value}
theorem Goes.retN (X : Stand p l e R s m args below meth c T locs cells slots) (hx : p.tables.exec = Jvm.exec) (hlk : meth.locks = false) {t : FieldType} {z : Int32} (hret : meth.sig.returnType = some t) (ht : t = .boolean ∨ t = .byte ∨ t = .char ∨ t = .short)
    (hd : decode c.code pc = .ok (.ireturn, 1)) (hC : cells ≤ C0) (hS : slots ≤ S0) (hQ : QQ (some (.int (nar t z))) T.heap locs) :
    Goes p.tables e below (fun o U' => ∃ v L, o = .returned v ∧ QQ v U'.heap L ∧ FrameEnd s o U' L C0 S0) (T.setTop (mkF m pc Ls (.int z :: rest))) := by
  obtain ⟨fs, hr, hrun, hended, hW, hsame⟩ := X.leave (v := some (.int (nar t z))) (fun h => by rw [hret] at h; cases h) hlk
  exact ⟨_, _, Jvm.RoadKit.retN X hx hret ht hd hr, hrun, hended, _, _, rfl, hQ, ⟨_, rfl⟩, hW, hsame.mono hC hS⟩
theorem Goes.retI (X : Stand p l e R s m args below meth c T locs cells slots) (hx : p.tables.exec = Jvm.exec) (hlk : meth.locks = false) {z : Int32} (hret : meth.sig.returnType = some .int)
    (hd : decode c.code pc = .ok (.ireturn, 1)) (hC : cells ≤ C0) (hS : slots ≤ S0) (hQ : QQ (some (.int z)) T.heap locs) :
    Goes p.tables e below (fun o U' => ∃ v L, o = .returned v ∧ QQ v U'.heap L ∧ FrameEnd s o U' L C0 S0) (T.setTop (mkF m pc Ls (.int z :: rest))) := by
  obtain ⟨fs, hr, hrun, hended, hW, hsame⟩ := X.leave (v := some (.int z)) (fun h => by rw [hret] at h; cases h) hlk
  exact ⟨_, _, Jvm.RoadKit.retI X hx hret hd hr, hrun, hended, _, _, rfl, hQ, ⟨_, rfl⟩, hW, hsame.mono hC hS⟩
theorem Goes.retJ (X : Stand p l e R s m args below meth c T locs cells slots) (hx : p.tables.exec = Jvm.exec) (hlk : meth.locks = false) {z : Int64} (hret : meth.sig.returnType = some .long)
    (hd : decode c.code pc = .ok (.lreturn, 1)) (hC : cells ≤ C0) (hS : slots ≤ S0) (hQ : QQ (some (.long z)) T.heap locs) :
    Goes p.tables e below (fun o U' => ∃ v L, o = .returned v ∧ QQ v U'.heap L ∧ FrameEnd s o U' L C0 S0) (T.setTop (mkF m pc Ls (.long z :: rest))) := by
  obtain ⟨fs, hr, hrun, hended, hW, hsame⟩ := X.leave (v := some (.long z)) (fun h => by rw [hret] at h; cases h) hlk
  refine ⟨_, _, ?_, hrun, hended, _, _, rfl, hQ, ⟨_, rfl⟩, hW, hsame.mono hC hS⟩
  jvm_step X.here [X.here.top, hx, hd, X.method', hret, narrow]
  first | (intro acts; rw [hr _ acts rfl rfl rfl]) | rw [hr _ _ rfl rfl rfl]
  exact Steps.refl _
theorem Goes.retA (X : Stand p l e R s m args below meth c T locs cells slots) (hx : p.tables.exec = Jvm.exec) (hlk : meth.locks = false) {a : Addr} {t : FieldType} (hret : meth.sig.returnType = some t) (ht : t.isReference = true)
    (hd : decode c.code pc = .ok (.areturn, 1)) (hC : cells ≤ C0) (hS : slots ≤ S0) (hQ : QQ (some (.ref a)) T.heap locs) :
    Goes p.tables e below (fun o U' => ∃ v L, o = .returned v ∧ QQ v U'.heap L ∧ FrameEnd s o U' L C0 S0) (T.setTop (mkF m pc Ls (.ref a :: rest))) := by
  obtain ⟨fs, hr, hrun, hended, hW, hsame⟩ := X.leave (v := some (.ref a)) (fun h => by rw [hret] at h; cases h) hlk
  refine ⟨_, _, ?_, hrun, hended, _, _, rfl, hQ, ⟨_, rfl⟩, hW, hsame.mono hC hS⟩
  jvm_step X.here [X.here.top, hx, hd, X.method', hret, Value.isRef, ht]
  first | (intro acts; rw [hr _ acts rfl rfl rfl]) | rw [hr _ _ rfl rfl rfl]
  exact Steps.refl _
theorem Goes.retV (X : Stand p l e R s m args below meth c T locs cells slots) (hx : p.tables.exec = Jvm.exec) (hlk : meth.locks = false) (hret : meth.sig.returnType = none)
    (hd : decode c.code pc = .ok (.return_, 1)) (hC : cells ≤ C0) (hS : slots ≤ S0) (hQ : QQ none T.heap locs) :
    Goes p.tables e below (fun o U' => ∃ v L, o = .returned v ∧ QQ v U'.heap L ∧ FrameEnd s o U' L C0 S0) (T.setTop (mkF m pc Ls [])) := by
  obtain ⟨fs, hr, hrun, hended, hW, hsame⟩ := X.leave (v := none) (fun _ => rfl) hlk
  exact ⟨_, _, X.returnOut hx hret hd hr, hrun, hended, _, _, rfl, hQ, ⟨_, rfl⟩, hW, hsame.mono hC hS⟩
theorem own_lrem {g : JFrame} {target : State} (X : Stand p l e R s m args below meth c T locs cells slots) (hx : p.tables.exec = Jvm.exec) (hg : g.method = m) {x y : Int64} {rest : List Value} (hd : decode c.code g.pc = .ok (.lrem, 1)) (hs : g.stack = .long y :: .long x :: rest) (hy : y ≠ 0)
    (hr : Steps p.tables e below (T.setTop { g with pc := g.pc + 1, stack := .long (x % y) :: rest }) target) : Steps p.tables e below (T.setTop g) target :=
  XS.lrem X.here hx hg hd hs hy (by rw [lrem_mod]; exact hr)
end Rets
/-! MY OWN LAYER, 2: an array of ints (bytes, chars ..) by the list of its values, whole -/
def AI (Z : State) (h : Heap) (a : Addr) (k : ClassId) (ty : FieldType) (n : Int32) (vs : List Int32) : Prop :=
  Arv Z h a k ty n (vs.map Value.int) (.int 0) ∧ vs.length = n.toNatClampNeg
section Arrays
variable {p : Program} {l : Launch} {e : Env} {R : Room} {s : State} {m : MethodId} {args : Array Value} {below : List Frame} {meth : Method} {c : Code} {T : State} {locs : List Loc} {cells slots : Nat}
variable {Z : State} {h h' : Heap} {a b : Addr} {k : ClassId} {ty : FieldType} {n : Int32} {vs : List Int32} {sl : Nat} {v : Value} {ws : List Addr}
theorem AI.lt (F : AI Z h a k ty n vs) : a < h.size := F.1.lt
theorem AI.nn (F : AI Z h a k ty n vs) : ¬ n < 0 := by obtain ⟨⟨c, -, -, -, q, -⟩, -⟩ := F; exact q
theorem AI.ext (F : AI Z h a k ty n vs) (E : Ext h h') : AI Z h' a k ty n vs := ⟨F.1.ext E, F.2⟩
theorem AI.other (F : AI Z h b k ty n vs) (W : Wr h h' a sl v) (q : b ≠ a) : AI Z h' b k ty n vs := ⟨F.1.other W q, F.2⟩
theorem AI.keep (F : AI Z h a k ty n vs) (K : Keep h h' ws) (q : a ∉ ws) : AI Z h' a k ty n vs := ⟨F.1.keep K q, F.2⟩
theorem own_getD (vs : List Int32) (i : Nat) : (vs.map Value.int).getD i (.int 0) = .int (vs.getD i 0) := by
  simp only [List.getD_eq_getElem?_getD, List.getElem?_map]
  cases vs[i]? <;> rfl
theorem own_new {q : Int32} (A : Arr Z h a (newA k ty q) ty) (hq : ¬ q < 0) (hd : defaultValue ty = .int 0) {vs : List Int32} (hv : vs = List.replicate q.toNatClampNeg 0 := by rfl) : AI Z h a k ty q vs := by
  subst hv
  have V := Arv.new A hq
  rw [hd] at V
  refine ⟨?_, by simp⟩
  have q1 := V.pad (pad_rep [] (.int 0) q.toNatClampNeg)
  rw [List.nil_append] at q1
  rw [List.map_replicate]; exact q1
theorem own_inb {cl : Cell} {j : Int32} (S : cl.slots.size = n.toNatClampNeg) (q : ¬ j < 0 ∧ j < n) : ¬ (j < 0 ∨ cl.slots.size ≤ j.toNatClampNeg) := inb_of S q
theorem own_jlt {j : Int32} (q : ¬ j < 0 ∧ j < n) : j.toNatClampNeg < n.toNatClampNeg := by
  obtain ⟨q1, q2⟩ := q
  rw [Int32.lt_iff_toInt_lt] at q1 q2
  have e0 : (0 : Int32).toInt = 0 := rfl
  simp only [Int32.toNatClampNeg] at *; omega
theorem own_iaload {pc : Nat} {Ls : Array Slot} {rest : List Value} {j : Int32} (X : Stand p l e R s m args below meth c T locs cells slots) (hx : p.tables.exec = Jvm.exec) (hZ : Z.Warmed39 s.vm) (eT : T.heap = h) (F : AI Z h a k .int n vs) (hj : ¬ j < 0 ∧ j < n)
    (hd : decode c.code pc = .ok (.iaload, 1)) (t : State) (kk : Steps p.tables e below (T.setTop (mkF m (pc + 1) Ls (.int (vs.getD j.toNatClampNeg 0) :: rest))) t) : Steps p.tables e below (T.setTop (mkF m pc Ls (.int j :: .ref a :: rest))) t := by
  obtain ⟨⟨cl, A, -, S, -, H, -⟩, hl⟩ := F
  have hin := own_inb S hj
  exact X.iaload hx (j := j) (v := .int (vs.getD j.toNatClampNeg 0)) (by rw [eT]; exact A.1) (State.isArrayOf_alike hZ.alike A.2.1) A.2.2 hin (H.at hin (own_getD _ _)) (g := mkF m pc Ls (.int j :: .ref a :: rest)) rfl rfl hd _ kk
theorem own_baload {pc : Nat} {Ls : Array Slot} {rest : List Value} {j : Int32} (X : Stand p l e R s m args below meth c T locs cells slots) (hx : p.tables.exec = Jvm.exec) (hZ : Z.Warmed39 s.vm) (eT : T.heap = h) (F : AI Z h a k .byte n vs) (hj : ¬ j < 0 ∧ j < n)
    (hd : decode c.code pc = .ok (.baload, 1)) (t : State) (kk : Steps p.tables e below (T.setTop (mkF m (pc + 1) Ls (.int (vs.getD j.toNatClampNeg 0) :: rest))) t) : Steps p.tables e below (T.setTop (mkF m pc Ls (.int j :: .ref a :: rest))) t := by
  obtain ⟨⟨cl, A, -, S, -, H, -⟩, hl⟩ := F
  have hin := own_inb S hj
  exact X.baloadBytes hx (j := j) (v := .int (vs.getD j.toNatClampNeg 0)) (by rw [eT]; exact A.1) (State.isArrayOf_alike hZ.alike A.2.1) A.2.2 hin (H.at hin (own_getD _ _)) (g := mkF m pc Ls (.int j :: .ref a :: rest)) rfl rfl hd _ kk
theorem own_len {pc : Nat} {Ls : Array Slot} {rest : List Value} (X : Stand p l e R s m args below meth c T locs cells slots) (hx : p.tables.exec = Jvm.exec) (hZ : Z.Warmed39 s.vm) (eT : T.heap = h) (F : AI Z h a k ty n vs)
    (hd : decode c.code pc = .ok (.arraylength, 1)) (t : State) (kk : Steps p.tables e below (T.setTop (mkF m (pc + 1) Ls (.int n :: rest))) t) : Steps p.tables e below (T.setTop (mkF m pc Ls (.ref a :: rest))) t := by
  obtain ⟨⟨cl, A, -, S, N, H, -⟩, hl⟩ := F
  refine X.arraylength hx (by rw [eT]; exact A.1) (State.isArrayOf_alike hZ.alike A.2.1) (g := mkF m pc Ls (.ref a :: rest)) rfl rfl hd _ ?_
  rw [len_of S N]; exact kk
theorem own_iastore {j x : Int32} (X : Stand p l e R s m args below meth c T locs cells slots) (hx : p.tables.exec = Jvm.exec) (hZ : Z.Warmed39 s.vm) (eT : T.heap = h) (F : AI Z h a k .int n vs) (hj : ¬ j < 0 ∧ j < n) {g : JFrame} (hg : g.method = m) {rest : List Value} (hs : g.stack = .int x :: .int j :: .ref a :: rest) (hd : decode c.code g.pc = .ok (.iastore, 1)) :
    ∃ T' h', Stand p l e R s m args below meth c T' (locs ++ [⟨a, j.toNatClampNeg⟩]) cells slots ∧ T'.heap = h' ∧ Wr h h' a j.toNatClampNeg (.int x) ∧ AI Z h' a k .int n (vs.set j.toNatClampNeg x) ∧ ∀ target, Steps p.tables e below (T'.setTop { g with pc := g.pc + 1, stack := rest }) target → Steps p.tables e below (T.setTop g) target := by
  obtain ⟨⟨cl, A, q1, S, N, H, G⟩, hl⟩ := F
  obtain ⟨T', h', X', e', W, st⟩ := stI X hx hZ eT A (own_inb S hj) hg hs hd
  refine ⟨T', h', X', e', W, ⟨?_, by simpa using hl⟩, st⟩
  rw [List.map_set]
  exact Arv.set A q1 S N H G rfl W _ rfl (by rw [List.length_map, hl]; exact own_jlt hj)
theorem own_bastore {j x : Int32} (X : Stand p l e R s m args below meth c T locs cells slots) (hx : p.tables.exec = Jvm.exec) (hZ : Z.Warmed39 s.vm) (eT : T.heap = h) (F : AI Z h a k .byte n vs) (hj : ¬ j < 0 ∧ j < n) {g : JFrame} (hg : g.method = m) {rest : List Value} (hs : g.stack = .int x :: .int j :: .ref a :: rest) (hd : decode c.code g.pc = .ok (.bastore, 1)) :
    ∃ T' h', Stand p l e R s m args below meth c T' (locs ++ [⟨a, j.toNatClampNeg⟩]) cells slots ∧ T'.heap = h' ∧ Wr h h' a j.toNatClampNeg (.int (nar .byte x)) ∧ AI Z h' a k .byte n (vs.set j.toNatClampNeg (nar .byte x)) ∧ ∀ target, Steps p.tables e below (T'.setTop { g with pc := g.pc + 1, stack := rest }) target → Steps p.tables e below (T.setTop g) target := by
  obtain ⟨⟨cl, A, q1, S, N, H, G⟩, hl⟩ := F
  obtain ⟨T', h', X', e', W, st⟩ := stB X hx hZ eT A (own_inb S hj) hg hs hd
  refine ⟨T', h', X', e', W, ⟨?_, by simpa using hl⟩, st⟩
  rw [List.map_set]
  exact Arv.set A q1 S N H G (fits_nar_byte _) W _ rfl (by rw [List.length_map, hl]; exact own_jlt hj)
end Arrays
/-! MY OWN LAYER, 3: numbers -/
theorem own_b255 (x : Int32) : (nar .byte (x.toInt8.toInt32)) &&& 255 = x &&& 255 := by
  have a := c_i2b x
  have b := c_i2b x.toInt8.toInt32
  have m1 : ((x.toInt8.toInt32.toInt8.toInt32) &&& 255).toInt = (x.toInt8.toInt32.toInt8.toInt32).toInt % 256 := c_mask _ 255 8 (by decide) (by decide)
  have m2 : (x &&& 255).toInt = x.toInt % 256 := c_mask _ 255 8 (by decide) (by decide)
  apply Int32.toInt_inj.mp
  show ((x.toInt8.toInt32.toInt8.toInt32) &&& 255).toInt = _
  omega
theorem own_m255 (x : Int32) : (x &&& 255).toInt = x.toInt % 256 := c_mask _ 255 8 (by decide) (by decide)
theorem own_or8 (a b : Int32) (h1 : 0 ≤ a.toInt) (h2 : a.toInt < 256) (h3 : 0 ≤ b.toInt) (h4 : b.toInt < 256) : ((a <<< ((8 : Int32) &&& 31)) ||| b).toInt = a.toInt * 256 + b.toInt := by
  have s : ((a <<< ((8 : Int32) &&& 31)).toInt - a.toInt * 256) % 4294967296 = 0 := c_ishl a 8 8 (by decide)
  have r := rng32 (a <<< ((8 : Int32) &&& 31))
  have e : (a <<< ((8 : Int32) &&& 31)).toInt = a.toInt * 256 := by omega
  have o := c_or (a <<< ((8 : Int32) &&& 31)) b 8 (by decide) 256 (by decide) (by omega) h3 h4
  have r2 := rng32 ((a <<< ((8 : Int32) &&& 31)) ||| b)
  omega
theorem own_nar0 : nar .boolean 0 = 0 := by decide
theorem own_nar1 : nar .boolean 1 = 1 := by decide
theorem d1_0 : decode prog_72_method_11_code 0 = .ok (.aload_n 0, 1) := by decide +kernel
theorem d1_1 : decode prog_72_method_11_code 1 = .ok (.arraylength, 1) := by decide +kernel
theorem d1_2 : decode prog_72_method_11_code 2 = .ok (.iconst 2, 1) := by decide +kernel
theorem d1_3 : decode prog_72_method_11_code 3 = .ok (.if_icmp .ge 13, 3) := by decide +kernel
theorem d1_16 : decode prog_72_method_11_code 16 = .ok (.aload_n 0, 1) := by decide +kernel
theorem d1_17 : decode prog_72_method_11_code 17 = .ok (.iconst 0, 1) := by decide +kernel
theorem d1_18 : decode prog_72_method_11_code 18 = .ok (.baload, 1) := by decide +kernel
theorem d1_19 : decode prog_72_method_11_code 19 = .ok (.sipush 255, 3) := by decide +kernel
theorem d1_22 : decode prog_72_method_11_code 22 = .ok (.iand, 1) := by decide +kernel
theorem d1_23 : decode prog_72_method_11_code 23 = .ok (.bipush 8, 2) := by decide +kernel
theorem d1_25 : decode prog_72_method_11_code 25 = .ok (.ishl, 1) := by decide +kernel
theorem d1_26 : decode prog_72_method_11_code 26 = .ok (.aload_n 0, 1) := by decide +kernel
theorem d1_27 : decode prog_72_method_11_code 27 = .ok (.iconst 1, 1) := by decide +kernel
theorem d1_28 : decode prog_72_method_11_code 28 = .ok (.baload, 1) := by decide +kernel
theorem d1_29 : decode prog_72_method_11_code 29 = .ok (.sipush 255, 3) := by decide +kernel
theorem d1_32 : decode prog_72_method_11_code 32 = .ok (.iand, 1) := by decide +kernel
theorem d1_33 : decode prog_72_method_11_code 33 = .ok (.ior, 1) := by decide +kernel
theorem d1_34 : decode prog_72_method_11_code 34 = .ok (.ireturn, 1) := by decide +kernel
theorem pn0 : plainName "com/example/pickrelay/pickrelay/mqtt/MqttPackets" = true := by first | (simp [plainName, overriddenIn]; done) | decide +kernel
theorem ef1 (m : MethodId) (u0 : Addr) : entryFrame m #[(.ref u0)] 1 = mkF m 0 #[.val (.ref u0)] [] := by first | (simp [entryFrame, mkF, argsToLocals, Value.category]; done) | rfl
def f1 (n_u0 : Int32) (vs_u0 : List Int32) : Int32 := ((((vs_u0.getD ((0 : Int32)).toNatClampNeg 0) &&& (255 : Int32)) <<< ((8 : Int32) &&& 31)) ||| ((vs_u0.getD ((1 : Int32)).toNatClampNeg 0) &&& (255 : Int32)))
theorem own_ix1_18 (n_u0 : Int32) (vs_u0 : List Int32) (hl_u0 : vs_u0.length = n_u0.toNatClampNeg) (hn_u0 : ¬ n_u0 < 0) (hB : ¬ n_u0 < (2 : Int32)) : ¬ (0 : Int32) < 0 ∧ (0 : Int32) < n_u0 := by
  refine ⟨by decide, ?_⟩
  simp only [Int32.lt_iff_toInt_lt, Int32.reduceToInt] at hB ⊢
  omega
theorem own_ix1_28 (n_u0 : Int32) (vs_u0 : List Int32) (hl_u0 : vs_u0.length = n_u0.toNatClampNeg) (hn_u0 : ¬ n_u0 < 0) (hB : ¬ n_u0 < (2 : Int32)) : ¬ (1 : Int32) < 0 ∧ (1 : Int32) < n_u0 := by
  refine ⟨by decide, ?_⟩
  simp only [Int32.lt_iff_toInt_lt, Int32.reduceToInt] at hB ⊢
  omega
def Q1 (Z : State) (u0 : Addr) (k_u0 : ClassId) (n_u0 : Int32) (vs_u0 : List Int32) (h0 : Heap) (n0 : Nat) (v : Option Value) (h : Heap) (L : List Loc) : Prop := v = some (.int (f1 n_u0 vs_u0)) ∧ Fr n0 L ∧ h = h0
set_option maxRecDepth 65536 in
set_option maxHeartbeats 40000000 in
theorem rm1 (l : Launch) (Z : State) (a0 : Array Value) (hw : ∀ d ∈ tables_1, d.before a0 Z = true) (ws : List Jvm.Cond) (u0 : Addr) (k_u0 : ClassId) (n_u0 : Int32) (vs_u0 : List Int32) (h0 : Heap) (n0 : Nat) (Z0 : n0 ≤ h0.size) (V_u0 : AI Z h0 u0 k_u0 .byte n_u0 vs_u0) (hB : ¬ n_u0 < (2 : Int32)) :
    MetFree l (⟨"com/example/pickrelay/pickrelay/mqtt/MqttPackets", "packetId", "([B)I"⟩ : MethodName) (head1 (Jvm.Cond.code (⟨"com/example/pickrelay/pickrelay/mqtt/MqttPackets", "packetId", "([B)I"⟩ : MethodName) prog_72_method_11_code 1 (some .int) :: ws) ({ frames := 0, cells := 0, slots := 0, locals := 0 } : Room)) (fun a U => a = #[(.ref u0)] ∧ Z.Warmed39 U.vm ∧ U.heap = h0) (fun _ _ _ _ _ => True) (fun _ U o U' => ∃ v L, o = .returned v ∧ Q1 Z u0 k_u0 n_u0 vs_u0 h0 n0 v U'.heap L ∧ FrameEnd U o U' L ({ frames := 0, cells := 0, slots := 0, locals := 0 } : Room).cells ({ frames := 0, cells := 0, slots := 0, locals := 0 } : Room).slots) := by
  refine MetFree.of_bodySF (plainFor_of_name pn0) hisR ?_
  intro p e s m args below meth c s₁ Bd hml0 hP hK
  obtain ⟨rfl, hZ, hh⟩ := hP
  have hx := Bd.exec
  have hby := Bd.bytes
  have hml : c.maxLocals = 1 := hml0
  have hown : s.vm.findClass "com/example/pickrelay/pickrelay/mqtt/MqttPackets" = some m.cls := findClass_of_methodNamed Bd.named
  have hnm := (name_of_methodNamed Bd.named Bd.method).1
  have X0 : Stand p l e ({ frames := 0, cells := 0, slots := 0, locals := 0 } : Room) s m #[(.ref u0)] below meth c s₁ [] 0 0 := Stand.of_body Bd
  have e0 : s₁.heap = h0 := by rw [← hh, Bd.state]; rfl
  have N0 := Fr.nil n0
  have hl_u0 : vs_u0.length = n_u0.toNatClampNeg := V_u0.2
  have hn_u0 : ¬ n_u0 < 0 := V_u0.nn
  refine Goes.out (Q := fun o U' => ∃ v L, o = .returned v ∧ Q1 Z u0 k_u0 n_u0 vs_u0 h0 n0 v U'.heap L ∧ FrameEnd s o U' L ({ frames := 0, cells := 0, slots := 0, locals := 0 } : Room).cells ({ frames := 0, cells := 0, slots := 0, locals := 0 } : Room).slots) ?_
  refine Goes.step (S' := s₁.setTop (mkF m 0 #[.val (.ref u0)] [])) (fun _ k => castTop (ef1 m u0) k) ?_
  refine Goes.step (S' := s₁.setTop (mkF m 1 #[.val (.ref u0)] [(.ref u0)])) (fun _ k => XS.aloadN X0.here hx rfl (hb hby d1_0) rfl rfl k) ?_
  refine Goes.step (S' := s₁.setTop (mkF m 2 #[.val (.ref u0)] [(.int n_u0)])) (fun _ k => own_len X0 hx hZ e0 V_u0 (hb hby d1_1) _ k) ?_
  refine Goes.step (S' := s₁.setTop (mkF m 3 #[.val (.ref u0)] [(.int (2 : Int32)), (.int n_u0)])) (fun _ k => XS.iconst X0.here hx rfl (hb hby d1_2) k) ?_
  refine Goes.step (S' := s₁.setTop (mkF m 16 #[.val (.ref u0)] [])) (fun _ k => XS.icmpYes X0.here hx rfl (pc0 := 3) (pc' := 16) rfl (hb hby d1_3) rfl (flt hB).2.1 (by decide) (by decide) k) ?_
  refine Goes.step (S' := s₁.setTop (mkF m 17 #[.val (.ref u0)] [(.ref u0)])) (fun _ k => XS.aloadN X0.here hx rfl (hb hby d1_16) rfl rfl k) ?_
  refine Goes.step (S' := s₁.setTop (mkF m 18 #[.val (.ref u0)] [(.int (0 : Int32)), (.ref u0)])) (fun _ k => XS.iconst X0.here hx rfl (hb hby d1_17) k) ?_
  refine Goes.step (S' := s₁.setTop (mkF m 19 #[.val (.ref u0)] [(.int (vs_u0.getD ((0 : Int32)).toNatClampNeg 0))])) (fun _ k => own_baload X0 hx hZ e0 V_u0 (own_ix1_18 n_u0 vs_u0 hl_u0 hn_u0 hB) (hb hby d1_18) _ k) ?_
  refine Goes.step (S' := s₁.setTop (mkF m 22 #[.val (.ref u0)] [(.int (255 : Int32)), (.int (vs_u0.getD ((0 : Int32)).toNatClampNeg 0))])) (fun _ k => XS.sipush X0.here hx rfl (hb hby d1_19) k) ?_
  refine Goes.step (S' := s₁.setTop (mkF m 23 #[.val (.ref u0)] [(.int ((vs_u0.getD ((0 : Int32)).toNatClampNeg 0) &&& (255 : Int32)))])) (fun _ k => XS.iand X0.here hx rfl (hb hby d1_22) rfl k) ?_
  refine Goes.step (S' := s₁.setTop (mkF m 25 #[.val (.ref u0)] [(.int (8 : Int32)), (.int ((vs_u0.getD ((0 : Int32)).toNatClampNeg 0) &&& (255 : Int32)))])) (fun _ k => XS.bipush X0.here hx rfl (hb hby d1_23) k) ?_
  refine Goes.step (S' := s₁.setTop (mkF m 26 #[.val (.ref u0)] [(.int (((vs_u0.getD ((0 : Int32)).toNatClampNeg 0) &&& (255 : Int32)) <<< ((8 : Int32) &&& 31)))])) (fun _ k => XS.ishl X0.here hx rfl (hb hby d1_25) rfl k) ?_
  refine Goes.step (S' := s₁.setTop (mkF m 27 #[.val (.ref u0)] [(.ref u0), (.int (((vs_u0.getD ((0 : Int32)).toNatClampNeg 0) &&& (255 : Int32)) <<< ((8 : Int32) &&& 31)))])) (fun _ k => XS.aloadN X0.here hx rfl (hb hby d1_26) rfl rfl k) ?_
  refine Goes.step (S' := s₁.setTop (mkF m 28 #[.val (.ref u0)] [(.int (1 : Int32)), (.ref u0), (.int (((vs_u0.getD ((0 : Int32)).toNatClampNeg 0) &&& (255 : Int32)) <<< ((8 : Int32) &&& 31)))])) (fun _ k => XS.iconst X0.here hx rfl (hb hby d1_27) k) ?_
  refine Goes.step (S' := s₁.setTop (mkF m 29 #[.val (.ref u0)] [(.int (vs_u0.getD ((1 : Int32)).toNatClampNeg 0)), (.int (((vs_u0.getD ((0 : Int32)).toNatClampNeg 0) &&& (255 : Int32)) <<< ((8 : Int32) &&& 31)))])) (fun _ k => own_baload X0 hx hZ e0 V_u0 (own_ix1_28 n_u0 vs_u0 hl_u0 hn_u0 hB) (hb hby d1_28) _ k) ?_
  refine Goes.step (S' := s₁.setTop (mkF m 32 #[.val (.ref u0)] [(.int (255 : Int32)), (.int (vs_u0.getD ((1 : Int32)).toNatClampNeg 0)), (.int (((vs_u0.getD ((0 : Int32)).toNatClampNeg 0) &&& (255 : Int32)) <<< ((8 : Int32) &&& 31)))])) (fun _ k => XS.sipush X0.here hx rfl (hb hby d1_29) k) ?_
  refine Goes.step (S' := s₁.setTop (mkF m 33 #[.val (.ref u0)] [(.int ((vs_u0.getD ((1 : Int32)).toNatClampNeg 0) &&& (255 : Int32))), (.int (((vs_u0.getD ((0 : Int32)).toNatClampNeg 0) &&& (255 : Int32)) <<< ((8 : Int32) &&& 31)))])) (fun _ k => XS.iand X0.here hx rfl (hb hby d1_32) rfl k) ?_
  refine Goes.step (S' := s₁.setTop (mkF m 34 #[.val (.ref u0)] [(.int ((((vs_u0.getD ((0 : Int32)).toNatClampNeg 0) &&& (255 : Int32)) <<< ((8 : Int32) &&& 31)) ||| ((vs_u0.getD ((1 : Int32)).toNatClampNeg 0) &&& (255 : Int32))))])) (fun _ k => XS.ior X0.here hx rfl (hb hby d1_33) rfl k) ?_
  refine Goes.retI X0 hx Bd.notSynchronized Bd.returns (hb hby d1_34) (by decide) (by decide) ?_
  exact ⟨rfl, N0, e0⟩
theorem pd0 : parseMethodDescriptor "([B)I" = some ⟨[(.array .byte)], some .int⟩ := by decide +kernel
theorem pn1 : plainName "com/example/pickrelay/pickrelay/mqtt/MqttPacketsPacketIdPinLaw" = true := by first | (simp [plainName, overriddenIn]; done) | decide +kernel
theorem ef0 (m : MethodId) (p0 : Int32) (p1 : Int32) (p2 : Int32) (p3 : Int32) : entryFrame m #[(.int p0), (.int p1), (.int p2), (.int p3)] maxLocals = mkF m 0 #[.val (.int p0), .val (.int p1), .val (.int p2), .val (.int p3), .unset, .unset, .unset, .unset, .unset] [] := by first | (simp [entryFrame, mkF, argsToLocals, Value.category, maxLocals]; done) | rfl
theorem own_case0_5 (p0 : Int32) (p1 : Int32) (p2 : Int32) (p3 : Int32) (vs_5 : Int32) (evs_5 : vs_5 = ((2 : Int32) + (p3 &&& (3 : Int32)))) : vs_5 = (2 : Int32) ∨ vs_5 = (3 : Int32) ∨ vs_5 = (4 : Int32) ∨ vs_5 = (5 : Int32) := by
  have a : (p3 &&& 3).toInt = p3.toInt % 4 := c_mask p3 3 2 (by decide) (by decide)
  have b := c_iadd 2 (p3 &&& 3)
  have r := rng32 (2 + (p3 &&& 3))
  rw [← evs_5] at b r
  simp only [← Int32.toInt_inj, Int32.reduceToInt] at b ⊢
  omega
theorem own_pr0_93_hB (p0 : Int32) (p1 : Int32) (p2 : Int32) (p3 : Int32) (evs_5 : (2 : Int32) = ((2 : Int32) + (p3 &&& (3 : Int32)))) (v5_71 : Int32) (ev5_71 : v5_71 = (p0 &&& (255 : Int32))) (v6_78 : Int32) (ev6_78 : v6_78 = (p1 &&& (255 : Int32))) (v7_89 : Int32) (ev7_89 : v7_89 = ((v5_71 * (256 : Int32)) + v6_78)) : ¬ (2 : Int32) < (2 : Int32) := by
  first | decide | exact ⟨by decide, by decide⟩
theorem own_hc0_102 (p0 : Int32) (p1 : Int32) (p2 : Int32) (p3 : Int32) (evs_5 : (2 : Int32) = ((2 : Int32) + (p3 &&& (3 : Int32)))) (v5_71 : Int32) (ev5_71 : v5_71 = (p0 &&& (255 : Int32))) (v6_78 : Int32) (ev6_78 : v6_78 = (p1 &&& (255 : Int32))) (v7_89 : Int32) (ev7_89 : v7_89 = ((v5_71 * (256 : Int32)) + v6_78)) (v8_96 : Int32) (ev8_96 : v8_96 = (f1 (2 : Int32) [(nar .byte (p0.toInt8.toInt32)), (nar .byte (p1.toInt8.toInt32))])) : v8_96 = v7_89 := by
  rw [ev8_96, ev7_89]
  show (((nar .byte (p0.toInt8.toInt32)) &&& 255) <<< ((8 : Int32) &&& 31)) ||| ((nar .byte (p1.toInt8.toInt32)) &&& 255) = _
  rw [own_b255, own_b255, ← ev5_71, ← ev6_78]
  have a0 := own_m255 p0
  have a1 := own_m255 p1
  rw [← ev5_71] at a0
  rw [← ev6_78] at a1
  have o := own_or8 v5_71 v6_78 (by omega) (by omega) (by omega) (by omega)
  have m := c_imul v5_71 256
  have d := c_iadd (v5_71 * 256) v6_78
  have r := rng32 (v5_71 * 256 + v6_78)
  have r1 := rng32 (v5_71 * 256)
  simp only [Int32.reduceToInt] at m
  apply Int32.toInt_inj.mp
  omega
theorem own_pr0_93_hB_2 (p0 : Int32) (p1 : Int32) (p2 : Int32) (p3 : Int32) (evs_5 : (3 : Int32) = ((2 : Int32) + (p3 &&& (3 : Int32)))) (v5_71 : Int32) (ev5_71 : v5_71 = (p0 &&& (255 : Int32))) (v6_78 : Int32) (ev6_78 : v6_78 = (p1 &&& (255 : Int32))) (v7_89 : Int32) (ev7_89 : v7_89 = ((v5_71 * (256 : Int32)) + v6_78)) : ¬ (3 : Int32) < (2 : Int32) := by
  first | decide | exact ⟨by decide, by decide⟩
theorem own_hc0_102_2 (p0 : Int32) (p1 : Int32) (p2 : Int32) (p3 : Int32) (evs_5 : (3 : Int32) = ((2 : Int32) + (p3 &&& (3 : Int32)))) (v5_71 : Int32) (ev5_71 : v5_71 = (p0 &&& (255 : Int32))) (v6_78 : Int32) (ev6_78 : v6_78 = (p1 &&& (255 : Int32))) (v7_89 : Int32) (ev7_89 : v7_89 = ((v5_71 * (256 : Int32)) + v6_78)) (v8_96 : Int32) (ev8_96 : v8_96 = (f1 (3 : Int32) [(nar .byte (p0.toInt8.toInt32)), (nar .byte (p1.toInt8.toInt32)), (nar .byte (p2.toInt8.toInt32))])) : v8_96 = v7_89 := by
  rw [ev8_96, ev7_89]
  show (((nar .byte (p0.toInt8.toInt32)) &&& 255) <<< ((8 : Int32) &&& 31)) ||| ((nar .byte (p1.toInt8.toInt32)) &&& 255) = _
  rw [own_b255, own_b255, ← ev5_71, ← ev6_78]
  have a0 := own_m255 p0
  have a1 := own_m255 p1
  rw [← ev5_71] at a0
  rw [← ev6_78] at a1
  have o := own_or8 v5_71 v6_78 (by omega) (by omega) (by omega) (by omega)
  have m := c_imul v5_71 256
  have d := c_iadd (v5_71 * 256) v6_78
  have r := rng32 (v5_71 * 256 + v6_78)
  have r1 := rng32 (v5_71 * 256)
  simp only [Int32.reduceToInt] at m
  apply Int32.toInt_inj.mp
  omega
theorem own_pr0_93_hB_3 (p0 : Int32) (p1 : Int32) (p2 : Int32) (p3 : Int32) (evs_5 : (4 : Int32) = ((2 : Int32) + (p3 &&& (3 : Int32)))) (v5_71 : Int32) (ev5_71 : v5_71 = (p0 &&& (255 : Int32))) (v6_78 : Int32) (ev6_78 : v6_78 = (p1 &&& (255 : Int32))) (v7_89 : Int32) (ev7_89 : v7_89 = ((v5_71 * (256 : Int32)) + v6_78)) : ¬ (4 : Int32) < (2 : Int32) := by
  first | decide | exact ⟨by decide, by decide⟩
theorem own_hc0_102_3 (p0 : Int32) (p1 : Int32) (p2 : Int32) (p3 : Int32) (evs_5 : (4 : Int32) = ((2 : Int32) + (p3 &&& (3 : Int32)))) (v5_71 : Int32) (ev5_71 : v5_71 = (p0 &&& (255 : Int32))) (v6_78 : Int32) (ev6_78 : v6_78 = (p1 &&& (255 : Int32))) (v7_89 : Int32) (ev7_89 : v7_89 = ((v5_71 * (256 : Int32)) + v6_78)) (v8_96 : Int32) (ev8_96 : v8_96 = (f1 (4 : Int32) [(nar .byte (p0.toInt8.toInt32)), (nar .byte (p1.toInt8.toInt32)), (nar .byte (p2.toInt8.toInt32)), (nar .byte (((p2.toUInt32 >>> ((8 : Int32) &&& 31).toUInt32).toInt32).toInt8.toInt32))])) : v8_96 = v7_89 := by
  rw [ev8_96, ev7_89]
  show (((nar .byte (p0.toInt8.toInt32)) &&& 255) <<< ((8 : Int32) &&& 31)) ||| ((nar .byte (p1.toInt8.toInt32)) &&& 255) = _
  rw [own_b255, own_b255, ← ev5_71, ← ev6_78]
  have a0 := own_m255 p0
  have a1 := own_m255 p1
  rw [← ev5_71] at a0
  rw [← ev6_78] at a1
  have o := own_or8 v5_71 v6_78 (by omega) (by omega) (by omega) (by omega)
  have m := c_imul v5_71 256
  have d := c_iadd (v5_71 * 256) v6_78
  have r := rng32 (v5_71 * 256 + v6_78)
  have r1 := rng32 (v5_71 * 256)
  simp only [Int32.reduceToInt] at m
  apply Int32.toInt_inj.mp
  omega
theorem own_pr0_93_hB_4 (p0 : Int32) (p1 : Int32) (p2 : Int32) (p3 : Int32) (evs_5 : (5 : Int32) = ((2 : Int32) + (p3 &&& (3 : Int32)))) (v5_71 : Int32) (ev5_71 : v5_71 = (p0 &&& (255 : Int32))) (v6_78 : Int32) (ev6_78 : v6_78 = (p1 &&& (255 : Int32))) (v7_89 : Int32) (ev7_89 : v7_89 = ((v5_71 * (256 : Int32)) + v6_78)) : ¬ (5 : Int32) < (2 : Int32) := by
  first | decide | exact ⟨by decide, by decide⟩
theorem own_hc0_102_4 (p0 : Int32) (p1 : Int32) (p2 : Int32) (p3 : Int32) (evs_5 : (5 : Int32) = ((2 : Int32) + (p3 &&& (3 : Int32)))) (v5_71 : Int32) (ev5_71 : v5_71 = (p0 &&& (255 : Int32))) (v6_78 : Int32) (ev6_78 : v6_78 = (p1 &&& (255 : Int32))) (v7_89 : Int32) (ev7_89 : v7_89 = ((v5_71 * (256 : Int32)) + v6_78)) (v8_96 : Int32) (ev8_96 : v8_96 = (f1 (5 : Int32) [(nar .byte (p0.toInt8.toInt32)), (nar .byte (p1.toInt8.toInt32)), (nar .byte (p2.toInt8.toInt32)), (nar .byte (((p2.toUInt32 >>> ((8 : Int32) &&& 31).toUInt32).toInt32).toInt8.toInt32)), (nar .byte (((p2.toUInt32 >>> ((16 : Int32) &&& 31).toUInt32).toInt32).toInt8.toInt32))])) : v8_96 = v7_89 := by
  rw [ev8_96, ev7_89]
  show (((nar .byte (p0.toInt8.toInt32)) &&& 255) <<< ((8 : Int32) &&& 31)) ||| ((nar .byte (p1.toInt8.toInt32)) &&& 255) = _
  rw [own_b255, own_b255, ← ev5_71, ← ev6_78]
  have a0 := own_m255 p0
  have a1 := own_m255 p1
  rw [← ev5_71] at a0
  rw [← ev6_78] at a1
  have o := own_or8 v5_71 v6_78 (by omega) (by omega) (by omega) (by omega)
  have m := c_imul v5_71 256
  have d := c_iadd (v5_71 * 256) v6_78
  have r := rng32 (v5_71 * 256 + v6_78)
  have r1 := rng32 (v5_71 * 256)
  simp only [Int32.reduceToInt] at m
  apply Int32.toInt_inj.mp
  omega
def Q0 (Z : State) (p0 : Int32) (p1 : Int32) (p2 : Int32) (p3 : Int32) (h0 : Heap) (n0 : Nat) (v : Option Value) (h : Heap) (L : List Loc) : Prop := v = some (.int 1) ∧ Fr n0 L
set_option maxRecDepth 65536 in
set_option maxHeartbeats 40000000 in
theorem rm0 (l : Launch) (Z : State) (a0 : Array Value) (hw : ∀ d ∈ tables_1, d.before a0 Z = true) (ws : List Jvm.Cond) (p0 : Int32) (p1 : Int32) (p2 : Int32) (p3 : Int32) (h0 : Heap) (n0 : Nat) (Z0 : n0 ≤ h0.size) :
    MetFree l x (head1 (Jvm.Cond.code x code maxLocals ret :: ws) room_1) (fun a U => a = #[(.int p0), (.int p1), (.int p2), (.int p3)] ∧ Z.Warmed39 U.vm ∧ U.heap = h0) (fun _ _ _ _ _ => True) (fun _ U o U' => ∃ v L, o = .returned v ∧ Q0 Z p0 p1 p2 p3 h0 n0 v U'.heap L ∧ FrameEnd U o U' L room_1.cells room_1.slots) := by
  refine MetFree.of_bodySF (plainFor_of_name pn1) hisR ?_
  intro p e s m args below meth c s₁ Bd hml0 hP hK
  obtain ⟨rfl, hZ, hh⟩ := hP
  have hx := Bd.exec
  have hby := Bd.bytes
  have hml : c.maxLocals = 9 := hml0
  have hown : s.vm.findClass "com/example/pickrelay/pickrelay/mqtt/MqttPacketsPacketIdPinLaw" = some m.cls := findClass_of_methodNamed Bd.named
  have hnm := (name_of_methodNamed Bd.named Bd.method).1
  have X0 : Stand p l e room_1 s m #[(.int p0), (.int p1), (.int p2), (.int p3)] below meth c s₁ [] 0 0 := Stand.of_body Bd
  have e0 : s₁.heap = h0 := by rw [← hh, Bd.state]; rfl
  have N0 := Fr.nil n0
  refine Goes.out (Q := fun o U' => ∃ v L, o = .returned v ∧ Q0 Z p0 p1 p2 p3 h0 n0 v U'.heap L ∧ FrameEnd s o U' L room_1.cells room_1.slots) ?_
  refine Goes.step (S' := s₁.setTop (mkF m 0 #[.val (.int p0), .val (.int p1), .val (.int p2), .val (.int p3), .unset, .unset, .unset, .unset, .unset] [])) (fun _ k => castTop (ef0 m p0 p1 p2 p3) k) ?_
  refine Goes.step (S' := s₁.setTop (mkF m 1 #[.val (.int p0), .val (.int p1), .val (.int p2), .val (.int p3), .unset, .unset, .unset, .unset, .unset] [(.int (2 : Int32))])) (fun _ k => XS.iconst X0.here hx rfl (hb hby at_0) k) ?_
  refine Goes.step (S' := s₁.setTop (mkF m 2 #[.val (.int p0), .val (.int p1), .val (.int p2), .val (.int p3), .unset, .unset, .unset, .unset, .unset] [(.int p3), (.int (2 : Int32))])) (fun _ k => XS.iloadN X0.here hx rfl (hb hby at_1) rfl  k) ?_
  refine Goes.step (S' := s₁.setTop (mkF m 3 #[.val (.int p0), .val (.int p1), .val (.int p2), .val (.int p3), .unset, .unset, .unset, .unset, .unset] [(.int (3 : Int32)), (.int p3), (.int (2 : Int32))])) (fun _ k => XS.iconst X0.here hx rfl (hb hby at_2) k) ?_
  refine Goes.step (S' := s₁.setTop (mkF m 4 #[.val (.int p0), .val (.int p1), .val (.int p2), .val (.int p3), .unset, .unset, .unset, .unset, .unset] [(.int (p3 &&& (3 : Int32))), (.int (2 : Int32))])) (fun _ k => XS.iand X0.here hx rfl (hb hby at_3) rfl k) ?_
  refine Goes.step (S' := s₁.setTop (mkF m 5 #[.val (.int p0), .val (.int p1), .val (.int p2), .val (.int p3), .unset, .unset, .unset, .unset, .unset] [(.int ((2 : Int32) + (p3 &&& (3 : Int32))))])) (fun _ k => XS.iadd X0.here hx rfl (hb hby at_4) rfl k) ?_
  obtain ⟨vs_5, evs_5⟩ : ∃ z : Int32, z = ((2 : Int32) + (p3 &&& (3 : Int32))) := ⟨_, rfl⟩
  rw [← evs_5]
  have hcase := (own_case0_5 p0 p1 p2 p3 vs_5 evs_5)
  rcases hcase with rfl | rfl | rfl | rfl
  · obtain ⟨T1, h1, k1, X1, e1, E1, A1, st1⟩ := newP X0 hx hZ (hw _ (List.mem_of_getElem? (i := 0) rfl)) e0 (g := (mkF m 5 #[.val (.int p0), .val (.int p1), .val (.int p2), .val (.int p3), .unset, .unset, .unset, .unset, .unset] [(.int (2 : Int32))])) rfl (hb hby at_5) rfl (by decide) (cap := 2) (by decide) (by decide) (by decide) (by decide)
    obtain ⟨b1, g1⟩ : ∃ z, z = h0.size := ⟨_, rfl⟩
    rw [← g1] at A1 st1
    have g2 : n0 ≤ b1 := Nat.le_trans Z0 (Nat.le_of_eq g1.symm)
    have Z3 : n0 ≤ h1.size := Nat.le_trans Z0 E1.1
    have V4 : AI Z h1 b1 k1 .byte (2 : Int32) [(0 : Int32), (0 : Int32)] := own_new A1 (by decide) rfl
    refine Goes.step (S' := T1.setTop (mkF m 7 #[.val (.int p0), .val (.int p1), .val (.int p2), .val (.int p3), .unset, .unset, .unset, .unset, .unset] [(.ref b1)])) st1 ?_
    refine Goes.step (S' := T1.setTop (mkF m 9 #[.val (.int p0), .val (.int p1), .val (.int p2), .val (.int p3), .val (.ref b1), .unset, .unset, .unset, .unset] [])) (fun _ k => XS.astore X1.here hx rfl (hb hby at_7) rfl rfl (l' := #[.val (.int p0), .val (.int p1), .val (.int p2), .val (.int p3), .val (.ref b1), .unset, .unset, .unset, .unset]) rfl k) ?_
    refine Goes.step (S' := T1.setTop (mkF m 11 #[.val (.int p0), .val (.int p1), .val (.int p2), .val (.int p3), .val (.ref b1), .unset, .unset, .unset, .unset] [(.ref b1)])) (fun _ k => XS.aload X1.here hx rfl (hb hby at_9) rfl rfl k) ?_
    refine Goes.step (S' := T1.setTop (mkF m 12 #[.val (.int p0), .val (.int p1), .val (.int p2), .val (.int p3), .val (.ref b1), .unset, .unset, .unset, .unset] [(.int (0 : Int32)), (.ref b1)])) (fun _ k => XS.iconst X1.here hx rfl (hb hby at_11) k) ?_
    refine Goes.step (S' := T1.setTop (mkF m 13 #[.val (.int p0), .val (.int p1), .val (.int p2), .val (.int p3), .val (.ref b1), .unset, .unset, .unset, .unset] [(.int p0), (.int (0 : Int32)), (.ref b1)])) (fun _ k => XS.iloadN X1.here hx rfl (hb hby at_12) rfl  k) ?_
    refine Goes.step (S' := T1.setTop (mkF m 14 #[.val (.int p0), .val (.int p1), .val (.int p2), .val (.int p3), .val (.ref b1), .unset, .unset, .unset, .unset] [(.int (p0.toInt8.toInt32)), (.int (0 : Int32)), (.ref b1)])) (fun _ k => XS.i2b X1.here hx rfl (hb hby at_13) rfl k) ?_
    obtain ⟨T5, h5, X5, e5, W5, V_5, st5⟩ := own_bastore X1 hx hZ e1 V4 ⟨by decide, by decide⟩ (g := (mkF m 14 #[.val (.int p0), .val (.int p1), .val (.int p2), .val (.int p3), .val (.ref b1), .unset, .unset, .unset, .unset] [(.int (p0.toInt8.toInt32)), (.int (0 : Int32)), (.ref b1)])) rfl rfl (hb hby at_14)
    replace V_5 : AI Z h5 b1 k1 .byte (2 : Int32) [(nar .byte (p0.toInt8.toInt32)), (0 : Int32)] := V_5
    have N6 := Fr.snoc X5 N0 g2
    have Z7 : n0 ≤ h5.size := Nat.le_trans Z3 (Nat.le_of_eq W5.size.symm)
    refine Goes.step (S' := T5.setTop (mkF m 15 #[.val (.int p0), .val (.int p1), .val (.int p2), .val (.int p3), .val (.ref b1), .unset, .unset, .unset, .unset] [])) st5 ?_
    refine Goes.step (S' := T5.setTop (mkF m 17 #[.val (.int p0), .val (.int p1), .val (.int p2), .val (.int p3), .val (.ref b1), .unset, .unset, .unset, .unset] [(.ref b1)])) (fun _ k => XS.aload X5.here hx rfl (hb hby at_15) rfl rfl k) ?_
    refine Goes.step (S' := T5.setTop (mkF m 18 #[.val (.int p0), .val (.int p1), .val (.int p2), .val (.int p3), .val (.ref b1), .unset, .unset, .unset, .unset] [(.int (1 : Int32)), (.ref b1)])) (fun _ k => XS.iconst X5.here hx rfl (hb hby at_17) k) ?_
    refine Goes.step (S' := T5.setTop (mkF m 19 #[.val (.int p0), .val (.int p1), .val (.int p2), .val (.int p3), .val (.ref b1), .unset, .unset, .unset, .unset] [(.int p1), (.int (1 : Int32)), (.ref b1)])) (fun _ k => XS.iloadN X5.here hx rfl (hb hby at_18) rfl  k) ?_
    refine Goes.step (S' := T5.setTop (mkF m 20 #[.val (.int p0), .val (.int p1), .val (.int p2), .val (.int p3), .val (.ref b1), .unset, .unset, .unset, .unset] [(.int (p1.toInt8.toInt32)), (.int (1 : Int32)), (.ref b1)])) (fun _ k => XS.i2b X5.here hx rfl (hb hby at_19) rfl k) ?_
    obtain ⟨T8, h8, X8, e8, W8, V_8, st8⟩ := own_bastore X5 hx hZ e5 V_5 ⟨by decide, by decide⟩ (g := (mkF m 20 #[.val (.int p0), .val (.int p1), .val (.int p2), .val (.int p3), .val (.ref b1), .unset, .unset, .unset, .unset] [(.int (p1.toInt8.toInt32)), (.int (1 : Int32)), (.ref b1)])) rfl rfl (hb hby at_20)
    replace V_8 : AI Z h8 b1 k1 .byte (2 : Int32) [(nar .byte (p0.toInt8.toInt32)), (nar .byte (p1.toInt8.toInt32))] := V_8
    have N9 := Fr.snoc X8 N6 g2
    have Z10 : n0 ≤ h8.size := Nat.le_trans Z7 (Nat.le_of_eq W8.size.symm)
    refine Goes.step (S' := T8.setTop (mkF m 21 #[.val (.int p0), .val (.int p1), .val (.int p2), .val (.int p3), .val (.ref b1), .unset, .unset, .unset, .unset] [])) st8 ?_
    refine Goes.step (S' := T8.setTop (mkF m 23 #[.val (.int p0), .val (.int p1), .val (.int p2), .val (.int p3), .val (.ref b1), .unset, .unset, .unset, .unset] [(.ref b1)])) (fun _ k => XS.aload X8.here hx rfl (hb hby at_21) rfl rfl k) ?_
    refine Goes.step (S' := T8.setTop (mkF m 24 #[.val (.int p0), .val (.int p1), .val (.int p2), .val (.int p3), .val (.ref b1), .unset, .unset, .unset, .unset] [(.int (2 : Int32))])) (fun _ k => own_len X8 hx hZ e8 V_8 (hb hby at_23) _ k) ?_
    refine Goes.step (S' := T8.setTop (mkF m 25 #[.val (.int p0), .val (.int p1), .val (.int p2), .val (.int p3), .val (.ref b1), .unset, .unset, .unset, .unset] [(.int (2 : Int32)), (.int (2 : Int32))])) (fun _ k => XS.iconst X8.here hx rfl (hb hby at_24) k) ?_
    refine Goes.step (S' := T8.setTop (mkF m 34 #[.val (.int p0), .val (.int p1), .val (.int p2), .val (.int p3), .val (.ref b1), .unset, .unset, .unset, .unset] [])) (fun _ k => XS.icmpYes X8.here hx rfl (pc0 := 25) (pc' := 34) rfl (hb hby at_25) rfl (flt (by decide)).2.2.2 (by decide) (by decide) k) ?_
    refine Goes.step (S' := T8.setTop (mkF m 36 #[.val (.int p0), .val (.int p1), .val (.int p2), .val (.int p3), .val (.ref b1), .unset, .unset, .unset, .unset] [(.ref b1)])) (fun _ k => XS.aload X8.here hx rfl (hb hby at_34) rfl rfl k) ?_
    refine Goes.step (S' := T8.setTop (mkF m 37 #[.val (.int p0), .val (.int p1), .val (.int p2), .val (.int p3), .val (.ref b1), .unset, .unset, .unset, .unset] [(.int (2 : Int32))])) (fun _ k => own_len X8 hx hZ e8 V_8 (hb hby at_36) _ k) ?_
    refine Goes.step (S' := T8.setTop (mkF m 38 #[.val (.int p0), .val (.int p1), .val (.int p2), .val (.int p3), .val (.ref b1), .unset, .unset, .unset, .unset] [(.int (3 : Int32)), (.int (2 : Int32))])) (fun _ k => XS.iconst X8.here hx rfl (hb hby at_37) k) ?_
    refine Goes.step (S' := T8.setTop (mkF m 50 #[.val (.int p0), .val (.int p1), .val (.int p2), .val (.int p3), .val (.ref b1), .unset, .unset, .unset, .unset] [])) (fun _ k => XS.icmpYes X8.here hx rfl (pc0 := 38) (pc' := 50) rfl (hb hby at_38) rfl (flt (by decide)).2.2.2 (by decide) (by decide) k) ?_
    refine Goes.step (S' := T8.setTop (mkF m 52 #[.val (.int p0), .val (.int p1), .val (.int p2), .val (.int p3), .val (.ref b1), .unset, .unset, .unset, .unset] [(.ref b1)])) (fun _ k => XS.aload X8.here hx rfl (hb hby at_50) rfl rfl k) ?_
    refine Goes.step (S' := T8.setTop (mkF m 53 #[.val (.int p0), .val (.int p1), .val (.int p2), .val (.int p3), .val (.ref b1), .unset, .unset, .unset, .unset] [(.int (2 : Int32))])) (fun _ k => own_len X8 hx hZ e8 V_8 (hb hby at_52) _ k) ?_
    refine Goes.step (S' := T8.setTop (mkF m 54 #[.val (.int p0), .val (.int p1), .val (.int p2), .val (.int p3), .val (.ref b1), .unset, .unset, .unset, .unset] [(.int (4 : Int32)), (.int (2 : Int32))])) (fun _ k => XS.iconst X8.here hx rfl (hb hby at_53) k) ?_
    refine Goes.step (S' := T8.setTop (mkF m 66 #[.val (.int p0), .val (.int p1), .val (.int p2), .val (.int p3), .val (.ref b1), .unset, .unset, .unset, .unset] [])) (fun _ k => XS.icmpYes X8.here hx rfl (pc0 := 54) (pc' := 66) rfl (hb hby at_54) rfl (flt (by decide)).2.2.2 (by decide) (by decide) k) ?_
    refine Goes.step (S' := T8.setTop (mkF m 67 #[.val (.int p0), .val (.int p1), .val (.int p2), .val (.int p3), .val (.ref b1), .unset, .unset, .unset, .unset] [(.int p0)])) (fun _ k => XS.iloadN X8.here hx rfl (hb hby at_66) rfl  k) ?_
    refine Goes.step (S' := T8.setTop (mkF m 70 #[.val (.int p0), .val (.int p1), .val (.int p2), .val (.int p3), .val (.ref b1), .unset, .unset, .unset, .unset] [(.int (255 : Int32)), (.int p0)])) (fun _ k => XS.sipush X8.here hx rfl (hb hby at_67) k) ?_
    refine Goes.step (S' := T8.setTop (mkF m 71 #[.val (.int p0), .val (.int p1), .val (.int p2), .val (.int p3), .val (.ref b1), .unset, .unset, .unset, .unset] [(.int (p0 &&& (255 : Int32)))])) (fun _ k => XS.iand X8.here hx rfl (hb hby at_70) rfl k) ?_
    refine Goes.step (S' := T8.setTop (mkF m 73 #[.val (.int p0), .val (.int p1), .val (.int p2), .val (.int p3), .val (.ref b1), .val (.int (p0 &&& (255 : Int32))), .unset, .unset, .unset] [])) (fun _ k => XS.istore X8.here hx rfl (hb hby at_71) rfl (l' := #[.val (.int p0), .val (.int p1), .val (.int p2), .val (.int p3), .val (.ref b1), .val (.int (p0 &&& (255 : Int32))), .unset, .unset, .unset]) rfl k) ?_
    obtain ⟨v5_71, ev5_71⟩ : ∃ z : Int32, z = (p0 &&& (255 : Int32)) := ⟨_, rfl⟩
    rw [← ev5_71]
    refine Goes.step (S' := T8.setTop (mkF m 74 #[.val (.int p0), .val (.int p1), .val (.int p2), .val (.int p3), .val (.ref b1), .val (.int v5_71), .unset, .unset, .unset] [(.int p1)])) (fun _ k => XS.iloadN X8.here hx rfl (hb hby at_73) rfl  k) ?_
    refine Goes.step (S' := T8.setTop (mkF m 77 #[.val (.int p0), .val (.int p1), .val (.int p2), .val (.int p3), .val (.ref b1), .val (.int v5_71), .unset, .unset, .unset] [(.int (255 : Int32)), (.int p1)])) (fun _ k => XS.sipush X8.here hx rfl (hb hby at_74) k) ?_
    refine Goes.step (S' := T8.setTop (mkF m 78 #[.val (.int p0), .val (.int p1), .val (.int p2), .val (.int p3), .val (.ref b1), .val (.int v5_71), .unset, .unset, .unset] [(.int (p1 &&& (255 : Int32)))])) (fun _ k => XS.iand X8.here hx rfl (hb hby at_77) rfl k) ?_
    refine Goes.step (S' := T8.setTop (mkF m 80 #[.val (.int p0), .val (.int p1), .val (.int p2), .val (.int p3), .val (.ref b1), .val (.int v5_71), .val (.int (p1 &&& (255 : Int32))), .unset, .unset] [])) (fun _ k => XS.istore X8.here hx rfl (hb hby at_78) rfl (l' := #[.val (.int p0), .val (.int p1), .val (.int p2), .val (.int p3), .val (.ref b1), .val (.int v5_71), .val (.int (p1 &&& (255 : Int32))), .unset, .unset]) rfl k) ?_
    obtain ⟨v6_78, ev6_78⟩ : ∃ z : Int32, z = (p1 &&& (255 : Int32)) := ⟨_, rfl⟩
    rw [← ev6_78]
    refine Goes.step (S' := T8.setTop (mkF m 82 #[.val (.int p0), .val (.int p1), .val (.int p2), .val (.int p3), .val (.ref b1), .val (.int v5_71), .val (.int v6_78), .unset, .unset] [(.int v5_71)])) (fun _ k => XS.iload X8.here hx rfl (hb hby at_80) rfl  k) ?_
    refine Goes.step (S' := T8.setTop (mkF m 85 #[.val (.int p0), .val (.int p1), .val (.int p2), .val (.int p3), .val (.ref b1), .val (.int v5_71), .val (.int v6_78), .unset, .unset] [(.int (256 : Int32)), (.int v5_71)])) (fun _ k => XS.sipush X8.here hx rfl (hb hby at_82) k) ?_
    refine Goes.step (S' := T8.setTop (mkF m 86 #[.val (.int p0), .val (.int p1), .val (.int p2), .val (.int p3), .val (.ref b1), .val (.int v5_71), .val (.int v6_78), .unset, .unset] [(.int (v5_71 * (256 : Int32)))])) (fun _ k => XS.imul X8.here hx rfl (hb hby at_85) rfl k) ?_
    refine Goes.step (S' := T8.setTop (mkF m 88 #[.val (.int p0), .val (.int p1), .val (.int p2), .val (.int p3), .val (.ref b1), .val (.int v5_71), .val (.int v6_78), .unset, .unset] [(.int v6_78), (.int (v5_71 * (256 : Int32)))])) (fun _ k => XS.iload X8.here hx rfl (hb hby at_86) rfl  k) ?_
    refine Goes.step (S' := T8.setTop (mkF m 89 #[.val (.int p0), .val (.int p1), .val (.int p2), .val (.int p3), .val (.ref b1), .val (.int v5_71), .val (.int v6_78), .unset, .unset] [(.int ((v5_71 * (256 : Int32)) + v6_78))])) (fun _ k => XS.iadd X8.here hx rfl (hb hby at_88) rfl k) ?_
    refine Goes.step (S' := T8.setTop (mkF m 91 #[.val (.int p0), .val (.int p1), .val (.int p2), .val (.int p3), .val (.ref b1), .val (.int v5_71), .val (.int v6_78), .val (.int ((v5_71 * (256 : Int32)) + v6_78)), .unset] [])) (fun _ k => XS.istore X8.here hx rfl (hb hby at_89) rfl (l' := #[.val (.int p0), .val (.int p1), .val (.int p2), .val (.int p3), .val (.ref b1), .val (.int v5_71), .val (.int v6_78), .val (.int ((v5_71 * (256 : Int32)) + v6_78)), .unset]) rfl k) ?_
    obtain ⟨v7_89, ev7_89⟩ : ∃ z : Int32, z = ((v5_71 * (256 : Int32)) + v6_78) := ⟨_, rfl⟩
    rw [← ev7_89]
    refine Goes.step (S' := T8.setTop (mkF m 93 #[.val (.int p0), .val (.int p1), .val (.int p2), .val (.int p3), .val (.ref b1), .val (.int v5_71), .val (.int v6_78), .val (.int v7_89), .unset] [(.ref b1)])) (fun _ k => XS.aload X8.here hx rfl (hb hby at_91) rfl rfl k) ?_
    obtain ⟨_, _, ⟨T11, L11, k11, n11⟩, -, X11, ⟨Lc11, hQ11, l11, y11, z11⟩, st11⟩ := Jvm.LawKit.callS X8 hx (y := (⟨"com/example/pickrelay/pickrelay/mqtt/MqttPackets", "packetId", "([B)I"⟩ : MethodName)) hown (mvT hZ (hw _ (List.mem_of_getElem? (i := 1) rfl))) (mvT hZ (hw _ (List.mem_of_getElem? (i := 2) rfl))) (mvT hZ (hw _ (List.mem_of_getElem? (i := 3) rfl))) (mvT hZ (hw _ (List.mem_of_getElem? (i := 4) rfl))) (by decide) (backOf (W := 0) (rm1 l Z a0 hw [] b1 k1 ((2 : Int32)) ([(nar .byte (p0.toInt8.toInt32)), (nar .byte (p1.toInt8.toInt32))]) h8 n0 Z10 V_8 (own_pr0_93_hB p0 p1 p2 p3 evs_5 v5_71 ev5_71 v6_78 ev6_78 v7_89 ev7_89)) hZ (hw _ (List.mem_of_getElem? (i := 4) rfl)) (hw _ (List.mem_of_getElem? (i := 3) rfl)) (by decide) (by decide)) (g := (mkF m 93 #[.val (.int p0), .val (.int p1), .val (.int p2), .val (.int p3), .val (.ref b1), .val (.int v5_71), .val (.int v6_78), .val (.int v7_89), .unset] [(.ref b1)])) rfl (by rw [hml]; rfl) (argsL := [(.ref b1)]) (rest := []) (lenOf pd0 rfl) rfl (by show 2 * 0 + _ ≤ _; exact Nat.le_of_eq rfl) (hb hby at_93) (fun _ _ => ⟨rfl, e8, (by decide : 1 + 0 ≤ _), (by decide : 2 + 0 ≤ _)⟩)
    dsimp only [Pt.U, Pt.locs, Pt.cells, Pt.slots] at X11 l11 y11 z11 st11 hQ11
    subst l11 y11 z11
    obtain ⟨rfl, N11q, e11⟩ := hQ11
    have N12 := Fr.app N9 N11q
    refine Goes.step (S' := T11.setTop (mkF m 96 #[.val (.int p0), .val (.int p1), .val (.int p2), .val (.int p3), .val (.ref b1), .val (.int v5_71), .val (.int v6_78), .val (.int v7_89), .unset] [(.int (f1 (2 : Int32) [(nar .byte (p0.toInt8.toInt32)), (nar .byte (p1.toInt8.toInt32))]))])) st11 ?_
    refine Goes.step (S' := T11.setTop (mkF m 98 #[.val (.int p0), .val (.int p1), .val (.int p2), .val (.int p3), .val (.ref b1), .val (.int v5_71), .val (.int v6_78), .val (.int v7_89), .val (.int (f1 (2 : Int32) [(nar .byte (p0.toInt8.toInt32)), (nar .byte (p1.toInt8.toInt32))]))] [])) (fun _ k => XS.istore X11.here hx rfl (hb hby at_96) rfl (l' := #[.val (.int p0), .val (.int p1), .val (.int p2), .val (.int p3), .val (.ref b1), .val (.int v5_71), .val (.int v6_78), .val (.int v7_89), .val (.int (f1 (2 : Int32) [(nar .byte (p0.toInt8.toInt32)), (nar .byte (p1.toInt8.toInt32))]))]) rfl k) ?_
    obtain ⟨v8_96, ev8_96⟩ : ∃ z : Int32, z = (f1 (2 : Int32) [(nar .byte (p0.toInt8.toInt32)), (nar .byte (p1.toInt8.toInt32))]) := ⟨_, rfl⟩
    rw [← ev8_96]
    refine Goes.step (S' := T11.setTop (mkF m 100 #[.val (.int p0), .val (.int p1), .val (.int p2), .val (.int p3), .val (.ref b1), .val (.int v5_71), .val (.int v6_78), .val (.int v7_89), .val (.int v8_96)] [(.int v8_96)])) (fun _ k => XS.iload X11.here hx rfl (hb hby at_98) rfl  k) ?_
    refine Goes.step (S' := T11.setTop (mkF m 102 #[.val (.int p0), .val (.int p1), .val (.int p2), .val (.int p3), .val (.ref b1), .val (.int v5_71), .val (.int v6_78), .val (.int v7_89), .val (.int v8_96)] [(.int v7_89), (.int v8_96)])) (fun _ k => XS.iload X11.here hx rfl (hb hby at_100) rfl  k) ?_
    refine Goes.step (S' := T11.setTop (mkF m 105 #[.val (.int p0), .val (.int p1), .val (.int p2), .val (.int p3), .val (.ref b1), .val (.int v5_71), .val (.int v6_78), .val (.int v7_89), .val (.int v8_96)] [])) (fun _ k => XS.icmpNo X11.here hx rfl (hb hby at_102) rfl (teq (own_hc0_102 p0 p1 p2 p3 evs_5 v5_71 ev5_71 v6_78 ev6_78 v7_89 ev7_89 v8_96 ev8_96)).2 k) ?_
    refine Goes.step (S' := T11.setTop (mkF m 106 #[.val (.int p0), .val (.int p1), .val (.int p2), .val (.int p3), .val (.ref b1), .val (.int v5_71), .val (.int v6_78), .val (.int v7_89), .val (.int v8_96)] [(.int (1 : Int32))])) (fun _ k => XS.iconst X11.here hx rfl (hb hby at_105) k) ?_
    refine Goes.step (S' := T11.setTop (mkF m 110 #[.val (.int p0), .val (.int p1), .val (.int p2), .val (.int p3), .val (.ref b1), .val (.int v5_71), .val (.int v6_78), .val (.int v7_89), .val (.int v8_96)] [(.int (1 : Int32))])) (fun _ k => XS.goto X11.here hx rfl (pc0 := 106) (pc' := 110) rfl (hb hby at_106) (by decide) (by decide) k) ?_
    refine Goes.retN X11 hx Bd.notSynchronized (t := .boolean) Bd.returns (by simp) (hb hby at_110) (by decide) (by decide) ?_
    exact ⟨rfl, N12⟩
  · obtain ⟨T13, h13, k13, X13, e13, E13, A13, st13⟩ := newP X0 hx hZ (hw _ (List.mem_of_getElem? (i := 0) rfl)) e0 (g := (mkF m 5 #[.val (.int p0), .val (.int p1), .val (.int p2), .val (.int p3), .unset, .unset, .unset, .unset, .unset] [(.int (3 : Int32))])) rfl (hb hby at_5) rfl (by decide) (cap := 3) (by decide) (by decide) (by decide) (by decide)
    obtain ⟨b13, g13⟩ : ∃ z, z = h0.size := ⟨_, rfl⟩
    rw [← g13] at A13 st13
    have g14 : n0 ≤ b13 := Nat.le_trans Z0 (Nat.le_of_eq g13.symm)
    have Z15 : n0 ≤ h13.size := Nat.le_trans Z0 E13.1
    have V16 : AI Z h13 b13 k13 .byte (3 : Int32) [(0 : Int32), (0 : Int32), (0 : Int32)] := own_new A13 (by decide) rfl
    refine Goes.step (S' := T13.setTop (mkF m 7 #[.val (.int p0), .val (.int p1), .val (.int p2), .val (.int p3), .unset, .unset, .unset, .unset, .unset] [(.ref b13)])) st13 ?_
    refine Goes.step (S' := T13.setTop (mkF m 9 #[.val (.int p0), .val (.int p1), .val (.int p2), .val (.int p3), .val (.ref b13), .unset, .unset, .unset, .unset] [])) (fun _ k => XS.astore X13.here hx rfl (hb hby at_7) rfl rfl (l' := #[.val (.int p0), .val (.int p1), .val (.int p2), .val (.int p3), .val (.ref b13), .unset, .unset, .unset, .unset]) rfl k) ?_
    refine Goes.step (S' := T13.setTop (mkF m 11 #[.val (.int p0), .val (.int p1), .val (.int p2), .val (.int p3), .val (.ref b13), .unset, .unset, .unset, .unset] [(.ref b13)])) (fun _ k => XS.aload X13.here hx rfl (hb hby at_9) rfl rfl k) ?_
    refine Goes.step (S' := T13.setTop (mkF m 12 #[.val (.int p0), .val (.int p1), .val (.int p2), .val (.int p3), .val (.ref b13), .unset, .unset, .unset, .unset] [(.int (0 : Int32)), (.ref b13)])) (fun _ k => XS.iconst X13.here hx rfl (hb hby at_11) k) ?_
    refine Goes.step (S' := T13.setTop (mkF m 13 #[.val (.int p0), .val (.int p1), .val (.int p2), .val (.int p3), .val (.ref b13), .unset, .unset, .unset, .unset] [(.int p0), (.int (0 : Int32)), (.ref b13)])) (fun _ k => XS.iloadN X13.here hx rfl (hb hby at_12) rfl  k) ?_
    refine Goes.step (S' := T13.setTop (mkF m 14 #[.val (.int p0), .val (.int p1), .val (.int p2), .val (.int p3), .val (.ref b13), .unset, .unset, .unset, .unset] [(.int (p0.toInt8.toInt32)), (.int (0 : Int32)), (.ref b13)])) (fun _ k => XS.i2b X13.here hx rfl (hb hby at_13) rfl k) ?_
    obtain ⟨T17, h17, X17, e17, W17, V_17, st17⟩ := own_bastore X13 hx hZ e13 V16 ⟨by decide, by decide⟩ (g := (mkF m 14 #[.val (.int p0), .val (.int p1), .val (.int p2), .val (.int p3), .val (.ref b13), .unset, .unset, .unset, .unset] [(.int (p0.toInt8.toInt32)), (.int (0 : Int32)), (.ref b13)])) rfl rfl (hb hby at_14)
    replace V_17 : AI Z h17 b13 k13 .byte (3 : Int32) [(nar .byte (p0.toInt8.toInt32)), (0 : Int32), (0 : Int32)] := V_17
    have N18 := Fr.snoc X17 N0 g14
    have Z19 : n0 ≤ h17.size := Nat.le_trans Z15 (Nat.le_of_eq W17.size.symm)
    refine Goes.step (S' := T17.setTop (mkF m 15 #[.val (.int p0), .val (.int p1), .val (.int p2), .val (.int p3), .val (.ref b13), .unset, .unset, .unset, .unset] [])) st17 ?_
    refine Goes.step (S' := T17.setTop (mkF m 17 #[.val (.int p0), .val (.int p1), .val (.int p2), .val (.int p3), .val (.ref b13), .unset, .unset, .unset, .unset] [(.ref b13)])) (fun _ k => XS.aload X17.here hx rfl (hb hby at_15) rfl rfl k) ?_
    refine Goes.step (S' := T17.setTop (mkF m 18 #[.val (.int p0), .val (.int p1), .val (.int p2), .val (.int p3), .val (.ref b13), .unset, .unset, .unset, .unset] [(.int (1 : Int32)), (.ref b13)])) (fun _ k => XS.iconst X17.here hx rfl (hb hby at_17) k) ?_
    refine Goes.step (S' := T17.setTop (mkF m 19 #[.val (.int p0), .val (.int p1), .val (.int p2), .val (.int p3), .val (.ref b13), .unset, .unset, .unset, .unset] [(.int p1), (.int (1 : Int32)), (.ref b13)])) (fun _ k => XS.iloadN X17.here hx rfl (hb hby at_18) rfl  k) ?_
    refine Goes.step (S' := T17.setTop (mkF m 20 #[.val (.int p0), .val (.int p1), .val (.int p2), .val (.int p3), .val (.ref b13), .unset, .unset, .unset, .unset] [(.int (p1.toInt8.toInt32)), (.int (1 : Int32)), (.ref b13)])) (fun _ k => XS.i2b X17.here hx rfl (hb hby at_19) rfl k) ?_
    obtain ⟨T20, h20, X20, e20, W20, V_20, st20⟩ := own_bastore X17 hx hZ e17 V_17 ⟨by decide, by decide⟩ (g := (mkF m 20 #[.val (.int p0), .val (.int p1), .val (.int p2), .val (.int p3), .val (.ref b13), .unset, .unset, .unset, .unset] [(.int (p1.toInt8.toInt32)), (.int (1 : Int32)), (.ref b13)])) rfl rfl (hb hby at_20)
    replace V_20 : AI Z h20 b13 k13 .byte (3 : Int32) [(nar .byte (p0.toInt8.toInt32)), (nar .byte (p1.toInt8.toInt32)), (0 : Int32)] := V_20
    have N21 := Fr.snoc X20 N18 g14
    have Z22 : n0 ≤ h20.size := Nat.le_trans Z19 (Nat.le_of_eq W20.size.symm)
    refine Goes.step (S' := T20.setTop (mkF m 21 #[.val (.int p0), .val (.int p1), .val (.int p2), .val (.int p3), .val (.ref b13), .unset, .unset, .unset, .unset] [])) st20 ?_
    refine Goes.step (S' := T20.setTop (mkF m 23 #[.val (.int p0), .val (.int p1), .val (.int p2), .val (.int p3), .val (.ref b13), .unset, .unset, .unset, .unset] [(.ref b13)])) (fun _ k => XS.aload X20.here hx rfl (hb hby at_21) rfl rfl k) ?_
    refine Goes.step (S' := T20.setTop (mkF m 24 #[.val (.int p0), .val (.int p1), .val (.int p2), .val (.int p3), .val (.ref b13), .unset, .unset, .unset, .unset] [(.int (3 : Int32))])) (fun _ k => own_len X20 hx hZ e20 V_20 (hb hby at_23) _ k) ?_
    refine Goes.step (S' := T20.setTop (mkF m 25 #[.val (.int p0), .val (.int p1), .val (.int p2), .val (.int p3), .val (.ref b13), .unset, .unset, .unset, .unset] [(.int (2 : Int32)), (.int (3 : Int32))])) (fun _ k => XS.iconst X20.here hx rfl (hb hby at_24) k) ?_
    refine Goes.step (S' := T20.setTop (mkF m 28 #[.val (.int p0), .val (.int p1), .val (.int p2), .val (.int p3), .val (.ref b13), .unset, .unset, .unset, .unset] [])) (fun _ k => XS.icmpNo X20.here hx rfl (hb hby at_25) rfl (tlt (by decide)).2.2.2 k) ?_
    refine Goes.step (S' := T20.setTop (mkF m 30 #[.val (.int p0), .val (.int p1), .val (.int p2), .val (.int p3), .val (.ref b13), .unset, .unset, .unset, .unset] [(.ref b13)])) (fun _ k => XS.aload X20.here hx rfl (hb hby at_28) rfl rfl k) ?_
    refine Goes.step (S' := T20.setTop (mkF m 31 #[.val (.int p0), .val (.int p1), .val (.int p2), .val (.int p3), .val (.ref b13), .unset, .unset, .unset, .unset] [(.int (2 : Int32)), (.ref b13)])) (fun _ k => XS.iconst X20.here hx rfl (hb hby at_30) k) ?_
    refine Goes.step (S' := T20.setTop (mkF m 32 #[.val (.int p0), .val (.int p1), .val (.int p2), .val (.int p3), .val (.ref b13), .unset, .unset, .unset, .unset] [(.int p2), (.int (2 : Int32)), (.ref b13)])) (fun _ k => XS.iloadN X20.here hx rfl (hb hby at_31) rfl  k) ?_
    refine Goes.step (S' := T20.setTop (mkF m 33 #[.val (.int p0), .val (.int p1), .val (.int p2), .val (.int p3), .val (.ref b13), .unset, .unset, .unset, .unset] [(.int (p2.toInt8.toInt32)), (.int (2 : Int32)), (.ref b13)])) (fun _ k => XS.i2b X20.here hx rfl (hb hby at_32) rfl k) ?_
    obtain ⟨T23, h23, X23, e23, W23, V_23, st23⟩ := own_bastore X20 hx hZ e20 V_20 ⟨by decide, by decide⟩ (g := (mkF m 33 #[.val (.int p0), .val (.int p1), .val (.int p2), .val (.int p3), .val (.ref b13), .unset, .unset, .unset, .unset] [(.int (p2.toInt8.toInt32)), (.int (2 : Int32)), (.ref b13)])) rfl rfl (hb hby at_33)
    replace V_23 : AI Z h23 b13 k13 .byte (3 : Int32) [(nar .byte (p0.toInt8.toInt32)), (nar .byte (p1.toInt8.toInt32)), (nar .byte (p2.toInt8.toInt32))] := V_23
    have N24 := Fr.snoc X23 N21 g14
    have Z25 : n0 ≤ h23.size := Nat.le_trans Z22 (Nat.le_of_eq W23.size.symm)
    refine Goes.step (S' := T23.setTop (mkF m 34 #[.val (.int p0), .val (.int p1), .val (.int p2), .val (.int p3), .val (.ref b13), .unset, .unset, .unset, .unset] [])) st23 ?_
    refine Goes.step (S' := T23.setTop (mkF m 36 #[.val (.int p0), .val (.int p1), .val (.int p2), .val (.int p3), .val (.ref b13), .unset, .unset, .unset, .unset] [(.ref b13)])) (fun _ k => XS.aload X23.here hx rfl (hb hby at_34) rfl rfl k) ?_
    refine Goes.step (S' := T23.setTop (mkF m 37 #[.val (.int p0), .val (.int p1), .val (.int p2), .val (.int p3), .val (.ref b13), .unset, .unset, .unset, .unset] [(.int (3 : Int32))])) (fun _ k => own_len X23 hx hZ e23 V_23 (hb hby at_36) _ k) ?_
    refine Goes.step (S' := T23.setTop (mkF m 38 #[.val (.int p0), .val (.int p1), .val (.int p2), .val (.int p3), .val (.ref b13), .unset, .unset, .unset, .unset] [(.int (3 : Int32)), (.int (3 : Int32))])) (fun _ k => XS.iconst X23.here hx rfl (hb hby at_37) k) ?_
    refine Goes.step (S' := T23.setTop (mkF m 50 #[.val (.int p0), .val (.int p1), .val (.int p2), .val (.int p3), .val (.ref b13), .unset, .unset, .unset, .unset] [])) (fun _ k => XS.icmpYes X23.here hx rfl (pc0 := 38) (pc' := 50) rfl (hb hby at_38) rfl (flt (by decide)).2.2.2 (by decide) (by decide) k) ?_
    refine Goes.step (S' := T23.setTop (mkF m 52 #[.val (.int p0), .val (.int p1), .val (.int p2), .val (.int p3), .val (.ref b13), .unset, .unset, .unset, .unset] [(.ref b13)])) (fun _ k => XS.aload X23.here hx rfl (hb hby at_50) rfl rfl k) ?_
    refine Goes.step (S' := T23.setTop (mkF m 53 #[.val (.int p0), .val (.int p1), .val (.int p2), .val (.int p3), .val (.ref b13), .unset, .unset, .unset, .unset] [(.int (3 : Int32))])) (fun _ k => own_len X23 hx hZ e23 V_23 (hb hby at_52) _ k) ?_
    refine Goes.step (S' := T23.setTop (mkF m 54 #[.val (.int p0), .val (.int p1), .val (.int p2), .val (.int p3), .val (.ref b13), .unset, .unset, .unset, .unset] [(.int (4 : Int32)), (.int (3 : Int32))])) (fun _ k => XS.iconst X23.here hx rfl (hb hby at_53) k) ?_
    refine Goes.step (S' := T23.setTop (mkF m 66 #[.val (.int p0), .val (.int p1), .val (.int p2), .val (.int p3), .val (.ref b13), .unset, .unset, .unset, .unset] [])) (fun _ k => XS.icmpYes X23.here hx rfl (pc0 := 54) (pc' := 66) rfl (hb hby at_54) rfl (flt (by decide)).2.2.2 (by decide) (by decide) k) ?_
    refine Goes.step (S' := T23.setTop (mkF m 67 #[.val (.int p0), .val (.int p1), .val (.int p2), .val (.int p3), .val (.ref b13), .unset, .unset, .unset, .unset] [(.int p0)])) (fun _ k => XS.iloadN X23.here hx rfl (hb hby at_66) rfl  k) ?_
    refine Goes.step (S' := T23.setTop (mkF m 70 #[.val (.int p0), .val (.int p1), .val (.int p2), .val (.int p3), .val (.ref b13), .unset, .unset, .unset, .unset] [(.int (255 : Int32)), (.int p0)])) (fun _ k => XS.sipush X23.here hx rfl (hb hby at_67) k) ?_
    refine Goes.step (S' := T23.setTop (mkF m 71 #[.val (.int p0), .val (.int p1), .val (.int p2), .val (.int p3), .val (.ref b13), .unset, .unset, .unset, .unset] [(.int (p0 &&& (255 : Int32)))])) (fun _ k => XS.iand X23.here hx rfl (hb hby at_70) rfl k) ?_
    refine Goes.step (S' := T23.setTop (mkF m 73 #[.val (.int p0), .val (.int p1), .val (.int p2), .val (.int p3), .val (.ref b13), .val (.int (p0 &&& (255 : Int32))), .unset, .unset, .unset] [])) (fun _ k => XS.istore X23.here hx rfl (hb hby at_71) rfl (l' := #[.val (.int p0), .val (.int p1), .val (.int p2), .val (.int p3), .val (.ref b13), .val (.int (p0 &&& (255 : Int32))), .unset, .unset, .unset]) rfl k) ?_
    obtain ⟨v5_71, ev5_71⟩ : ∃ z : Int32, z = (p0 &&& (255 : Int32)) := ⟨_, rfl⟩
    rw [← ev5_71]
    refine Goes.step (S' := T23.setTop (mkF m 74 #[.val (.int p0), .val (.int p1), .val (.int p2), .val (.int p3), .val (.ref b13), .val (.int v5_71), .unset, .unset, .unset] [(.int p1)])) (fun _ k => XS.iloadN X23.here hx rfl (hb hby at_73) rfl  k) ?_
    refine Goes.step (S' := T23.setTop (mkF m 77 #[.val (.int p0), .val (.int p1), .val (.int p2), .val (.int p3), .val (.ref b13), .val (.int v5_71), .unset, .unset, .unset] [(.int (255 : Int32)), (.int p1)])) (fun _ k => XS.sipush X23.here hx rfl (hb hby at_74) k) ?_
    refine Goes.step (S' := T23.setTop (mkF m 78 #[.val (.int p0), .val (.int p1), .val (.int p2), .val (.int p3), .val (.ref b13), .val (.int v5_71), .unset, .unset, .unset] [(.int (p1 &&& (255 : Int32)))])) (fun _ k => XS.iand X23.here hx rfl (hb hby at_77) rfl k) ?_
    refine Goes.step (S' := T23.setTop (mkF m 80 #[.val (.int p0), .val (.int p1), .val (.int p2), .val (.int p3), .val (.ref b13), .val (.int v5_71), .val (.int (p1 &&& (255 : Int32))), .unset, .unset] [])) (fun _ k => XS.istore X23.here hx rfl (hb hby at_78) rfl (l' := #[.val (.int p0), .val (.int p1), .val (.int p2), .val (.int p3), .val (.ref b13), .val (.int v5_71), .val (.int (p1 &&& (255 : Int32))), .unset, .unset]) rfl k) ?_
    obtain ⟨v6_78, ev6_78⟩ : ∃ z : Int32, z = (p1 &&& (255 : Int32)) := ⟨_, rfl⟩
    rw [← ev6_78]
    refine Goes.step (S' := T23.setTop (mkF m 82 #[.val (.int p0), .val (.int p1), .val (.int p2), .val (.int p3), .val (.ref b13), .val (.int v5_71), .val (.int v6_78), .unset, .unset] [(.int v5_71)])) (fun _ k => XS.iload X23.here hx rfl (hb hby at_80) rfl  k) ?_
    refine Goes.step (S' := T23.setTop (mkF m 85 #[.val (.int p0), .val (.int p1), .val (.int p2), .val (.int p3), .val (.ref b13), .val (.int v5_71), .val (.int v6_78), .unset, .unset] [(.int (256 : Int32)), (.int v5_71)])) (fun _ k => XS.sipush X23.here hx rfl (hb hby at_82) k) ?_
    refine Goes.step (S' := T23.setTop (mkF m 86 #[.val (.int p0), .val (.int p1), .val (.int p2), .val (.int p3), .val (.ref b13), .val (.int v5_71), .val (.int v6_78), .unset, .unset] [(.int (v5_71 * (256 : Int32)))])) (fun _ k => XS.imul X23.here hx rfl (hb hby at_85) rfl k) ?_
    refine Goes.step (S' := T23.setTop (mkF m 88 #[.val (.int p0), .val (.int p1), .val (.int p2), .val (.int p3), .val (.ref b13), .val (.int v5_71), .val (.int v6_78), .unset, .unset] [(.int v6_78), (.int (v5_71 * (256 : Int32)))])) (fun _ k => XS.iload X23.here hx rfl (hb hby at_86) rfl  k) ?_
    refine Goes.step (S' := T23.setTop (mkF m 89 #[.val (.int p0), .val (.int p1), .val (.int p2), .val (.int p3), .val (.ref b13), .val (.int v5_71), .val (.int v6_78), .unset, .unset] [(.int ((v5_71 * (256 : Int32)) + v6_78))])) (fun _ k => XS.iadd X23.here hx rfl (hb hby at_88) rfl k) ?_
    refine Goes.step (S' := T23.setTop (mkF m 91 #[.val (.int p0), .val (.int p1), .val (.int p2), .val (.int p3), .val (.ref b13), .val (.int v5_71), .val (.int v6_78), .val (.int ((v5_71 * (256 : Int32)) + v6_78)), .unset] [])) (fun _ k => XS.istore X23.here hx rfl (hb hby at_89) rfl (l' := #[.val (.int p0), .val (.int p1), .val (.int p2), .val (.int p3), .val (.ref b13), .val (.int v5_71), .val (.int v6_78), .val (.int ((v5_71 * (256 : Int32)) + v6_78)), .unset]) rfl k) ?_
    obtain ⟨v7_89, ev7_89⟩ : ∃ z : Int32, z = ((v5_71 * (256 : Int32)) + v6_78) := ⟨_, rfl⟩
    rw [← ev7_89]
    refine Goes.step (S' := T23.setTop (mkF m 93 #[.val (.int p0), .val (.int p1), .val (.int p2), .val (.int p3), .val (.ref b13), .val (.int v5_71), .val (.int v6_78), .val (.int v7_89), .unset] [(.ref b13)])) (fun _ k => XS.aload X23.here hx rfl (hb hby at_91) rfl rfl k) ?_
    obtain ⟨_, _, ⟨T26, L26, k26, n26⟩, -, X26, ⟨Lc26, hQ26, l26, y26, z26⟩, st26⟩ := Jvm.LawKit.callS X23 hx (y := (⟨"com/example/pickrelay/pickrelay/mqtt/MqttPackets", "packetId", "([B)I"⟩ : MethodName)) hown (mvT hZ (hw _ (List.mem_of_getElem? (i := 1) rfl))) (mvT hZ (hw _ (List.mem_of_getElem? (i := 2) rfl))) (mvT hZ (hw _ (List.mem_of_getElem? (i := 3) rfl))) (mvT hZ (hw _ (List.mem_of_getElem? (i := 4) rfl))) (by decide) (backOf (W := 0) (rm1 l Z a0 hw [] b13 k13 ((3 : Int32)) ([(nar .byte (p0.toInt8.toInt32)), (nar .byte (p1.toInt8.toInt32)), (nar .byte (p2.toInt8.toInt32))]) h23 n0 Z25 V_23 (own_pr0_93_hB_2 p0 p1 p2 p3 evs_5 v5_71 ev5_71 v6_78 ev6_78 v7_89 ev7_89)) hZ (hw _ (List.mem_of_getElem? (i := 4) rfl)) (hw _ (List.mem_of_getElem? (i := 3) rfl)) (by decide) (by decide)) (g := (mkF m 93 #[.val (.int p0), .val (.int p1), .val (.int p2), .val (.int p3), .val (.ref b13), .val (.int v5_71), .val (.int v6_78), .val (.int v7_89), .unset] [(.ref b13)])) rfl (by rw [hml]; rfl) (argsL := [(.ref b13)]) (rest := []) (lenOf pd0 rfl) rfl (by show 2 * 0 + _ ≤ _; exact Nat.le_of_eq rfl) (hb hby at_93) (fun _ _ => ⟨rfl, e23, (by decide : 1 + 0 ≤ _), (by decide : 3 + 0 ≤ _)⟩)
    dsimp only [Pt.U, Pt.locs, Pt.cells, Pt.slots] at X26 l26 y26 z26 st26 hQ26
    subst l26 y26 z26
    obtain ⟨rfl, N26q, e26⟩ := hQ26
    have N27 := Fr.app N24 N26q
    refine Goes.step (S' := T26.setTop (mkF m 96 #[.val (.int p0), .val (.int p1), .val (.int p2), .val (.int p3), .val (.ref b13), .val (.int v5_71), .val (.int v6_78), .val (.int v7_89), .unset] [(.int (f1 (3 : Int32) [(nar .byte (p0.toInt8.toInt32)), (nar .byte (p1.toInt8.toInt32)), (nar .byte (p2.toInt8.toInt32))]))])) st26 ?_
    refine Goes.step (S' := T26.setTop (mkF m 98 #[.val (.int p0), .val (.int p1), .val (.int p2), .val (.int p3), .val (.ref b13), .val (.int v5_71), .val (.int v6_78), .val (.int v7_89), .val (.int (f1 (3 : Int32) [(nar .byte (p0.toInt8.toInt32)), (nar .byte (p1.toInt8.toInt32)), (nar .byte (p2.toInt8.toInt32))]))] [])) (fun _ k => XS.istore X26.here hx rfl (hb hby at_96) rfl (l' := #[.val (.int p0), .val (.int p1), .val (.int p2), .val (.int p3), .val (.ref b13), .val (.int v5_71), .val (.int v6_78), .val (.int v7_89), .val (.int (f1 (3 : Int32) [(nar .byte (p0.toInt8.toInt32)), (nar .byte (p1.toInt8.toInt32)), (nar .byte (p2.toInt8.toInt32))]))]) rfl k) ?_
    obtain ⟨v8_96, ev8_96⟩ : ∃ z : Int32, z = (f1 (3 : Int32) [(nar .byte (p0.toInt8.toInt32)), (nar .byte (p1.toInt8.toInt32)), (nar .byte (p2.toInt8.toInt32))]) := ⟨_, rfl⟩
    rw [← ev8_96]
    refine Goes.step (S' := T26.setTop (mkF m 100 #[.val (.int p0), .val (.int p1), .val (.int p2), .val (.int p3), .val (.ref b13), .val (.int v5_71), .val (.int v6_78), .val (.int v7_89), .val (.int v8_96)] [(.int v8_96)])) (fun _ k => XS.iload X26.here hx rfl (hb hby at_98) rfl  k) ?_
    refine Goes.step (S' := T26.setTop (mkF m 102 #[.val (.int p0), .val (.int p1), .val (.int p2), .val (.int p3), .val (.ref b13), .val (.int v5_71), .val (.int v6_78), .val (.int v7_89), .val (.int v8_96)] [(.int v7_89), (.int v8_96)])) (fun _ k => XS.iload X26.here hx rfl (hb hby at_100) rfl  k) ?_
    refine Goes.step (S' := T26.setTop (mkF m 105 #[.val (.int p0), .val (.int p1), .val (.int p2), .val (.int p3), .val (.ref b13), .val (.int v5_71), .val (.int v6_78), .val (.int v7_89), .val (.int v8_96)] [])) (fun _ k => XS.icmpNo X26.here hx rfl (hb hby at_102) rfl (teq (own_hc0_102_2 p0 p1 p2 p3 evs_5 v5_71 ev5_71 v6_78 ev6_78 v7_89 ev7_89 v8_96 ev8_96)).2 k) ?_
    refine Goes.step (S' := T26.setTop (mkF m 106 #[.val (.int p0), .val (.int p1), .val (.int p2), .val (.int p3), .val (.ref b13), .val (.int v5_71), .val (.int v6_78), .val (.int v7_89), .val (.int v8_96)] [(.int (1 : Int32))])) (fun _ k => XS.iconst X26.here hx rfl (hb hby at_105) k) ?_
    refine Goes.step (S' := T26.setTop (mkF m 110 #[.val (.int p0), .val (.int p1), .val (.int p2), .val (.int p3), .val (.ref b13), .val (.int v5_71), .val (.int v6_78), .val (.int v7_89), .val (.int v8_96)] [(.int (1 : Int32))])) (fun _ k => XS.goto X26.here hx rfl (pc0 := 106) (pc' := 110) rfl (hb hby at_106) (by decide) (by decide) k) ?_
    refine Goes.retN X26 hx Bd.notSynchronized (t := .boolean) Bd.returns (by simp) (hb hby at_110) (by decide) (by decide) ?_
    exact ⟨rfl, N27⟩
  · obtain ⟨T28, h28, k28, X28, e28, E28, A28, st28⟩ := newP X0 hx hZ (hw _ (List.mem_of_getElem? (i := 0) rfl)) e0 (g := (mkF m 5 #[.val (.int p0), .val (.int p1), .val (.int p2), .val (.int p3), .unset, .unset, .unset, .unset, .unset] [(.int (4 : Int32))])) rfl (hb hby at_5) rfl (by decide) (cap := 4) (by decide) (by decide) (by decide) (by decide)
    obtain ⟨b28, g28⟩ : ∃ z, z = h0.size := ⟨_, rfl⟩
    rw [← g28] at A28 st28
    have g29 : n0 ≤ b28 := Nat.le_trans Z0 (Nat.le_of_eq g28.symm)
    have Z30 : n0 ≤ h28.size := Nat.le_trans Z0 E28.1
    have V31 : AI Z h28 b28 k28 .byte (4 : Int32) [(0 : Int32), (0 : Int32), (0 : Int32), (0 : Int32)] := own_new A28 (by decide) rfl
    refine Goes.step (S' := T28.setTop (mkF m 7 #[.val (.int p0), .val (.int p1), .val (.int p2), .val (.int p3), .unset, .unset, .unset, .unset, .unset] [(.ref b28)])) st28 ?_
    refine Goes.step (S' := T28.setTop (mkF m 9 #[.val (.int p0), .val (.int p1), .val (.int p2), .val (.int p3), .val (.ref b28), .unset, .unset, .unset, .unset] [])) (fun _ k => XS.astore X28.here hx rfl (hb hby at_7) rfl rfl (l' := #[.val (.int p0), .val (.int p1), .val (.int p2), .val (.int p3), .val (.ref b28), .unset, .unset, .unset, .unset]) rfl k) ?_
    refine Goes.step (S' := T28.setTop (mkF m 11 #[.val (.int p0), .val (.int p1), .val (.int p2), .val (.int p3), .val (.ref b28), .unset, .unset, .unset, .unset] [(.ref b28)])) (fun _ k => XS.aload X28.here hx rfl (hb hby at_9) rfl rfl k) ?_
    refine Goes.step (S' := T28.setTop (mkF m 12 #[.val (.int p0), .val (.int p1), .val (.int p2), .val (.int p3), .val (.ref b28), .unset, .unset, .unset, .unset] [(.int (0 : Int32)), (.ref b28)])) (fun _ k => XS.iconst X28.here hx rfl (hb hby at_11) k) ?_
    refine Goes.step (S' := T28.setTop (mkF m 13 #[.val (.int p0), .val (.int p1), .val (.int p2), .val (.int p3), .val (.ref b28), .unset, .unset, .unset, .unset] [(.int p0), (.int (0 : Int32)), (.ref b28)])) (fun _ k => XS.iloadN X28.here hx rfl (hb hby at_12) rfl  k) ?_
    refine Goes.step (S' := T28.setTop (mkF m 14 #[.val (.int p0), .val (.int p1), .val (.int p2), .val (.int p3), .val (.ref b28), .unset, .unset, .unset, .unset] [(.int (p0.toInt8.toInt32)), (.int (0 : Int32)), (.ref b28)])) (fun _ k => XS.i2b X28.here hx rfl (hb hby at_13) rfl k) ?_
    obtain ⟨T32, h32, X32, e32, W32, V_32, st32⟩ := own_bastore X28 hx hZ e28 V31 ⟨by decide, by decide⟩ (g := (mkF m 14 #[.val (.int p0), .val (.int p1), .val (.int p2), .val (.int p3), .val (.ref b28), .unset, .unset, .unset, .unset] [(.int (p0.toInt8.toInt32)), (.int (0 : Int32)), (.ref b28)])) rfl rfl (hb hby at_14)
    replace V_32 : AI Z h32 b28 k28 .byte (4 : Int32) [(nar .byte (p0.toInt8.toInt32)), (0 : Int32), (0 : Int32), (0 : Int32)] := V_32
    have N33 := Fr.snoc X32 N0 g29
    have Z34 : n0 ≤ h32.size := Nat.le_trans Z30 (Nat.le_of_eq W32.size.symm)
    refine Goes.step (S' := T32.setTop (mkF m 15 #[.val (.int p0), .val (.int p1), .val (.int p2), .val (.int p3), .val (.ref b28), .unset, .unset, .unset, .unset] [])) st32 ?_
    refine Goes.step (S' := T32.setTop (mkF m 17 #[.val (.int p0), .val (.int p1), .val (.int p2), .val (.int p3), .val (.ref b28), .unset, .unset, .unset, .unset] [(.ref b28)])) (fun _ k => XS.aload X32.here hx rfl (hb hby at_15) rfl rfl k) ?_
    refine Goes.step (S' := T32.setTop (mkF m 18 #[.val (.int p0), .val (.int p1), .val (.int p2), .val (.int p3), .val (.ref b28), .unset, .unset, .unset, .unset] [(.int (1 : Int32)), (.ref b28)])) (fun _ k => XS.iconst X32.here hx rfl (hb hby at_17) k) ?_
    refine Goes.step (S' := T32.setTop (mkF m 19 #[.val (.int p0), .val (.int p1), .val (.int p2), .val (.int p3), .val (.ref b28), .unset, .unset, .unset, .unset] [(.int p1), (.int (1 : Int32)), (.ref b28)])) (fun _ k => XS.iloadN X32.here hx rfl (hb hby at_18) rfl  k) ?_
    refine Goes.step (S' := T32.setTop (mkF m 20 #[.val (.int p0), .val (.int p1), .val (.int p2), .val (.int p3), .val (.ref b28), .unset, .unset, .unset, .unset] [(.int (p1.toInt8.toInt32)), (.int (1 : Int32)), (.ref b28)])) (fun _ k => XS.i2b X32.here hx rfl (hb hby at_19) rfl k) ?_
    obtain ⟨T35, h35, X35, e35, W35, V_35, st35⟩ := own_bastore X32 hx hZ e32 V_32 ⟨by decide, by decide⟩ (g := (mkF m 20 #[.val (.int p0), .val (.int p1), .val (.int p2), .val (.int p3), .val (.ref b28), .unset, .unset, .unset, .unset] [(.int (p1.toInt8.toInt32)), (.int (1 : Int32)), (.ref b28)])) rfl rfl (hb hby at_20)
    replace V_35 : AI Z h35 b28 k28 .byte (4 : Int32) [(nar .byte (p0.toInt8.toInt32)), (nar .byte (p1.toInt8.toInt32)), (0 : Int32), (0 : Int32)] := V_35
    have N36 := Fr.snoc X35 N33 g29
    have Z37 : n0 ≤ h35.size := Nat.le_trans Z34 (Nat.le_of_eq W35.size.symm)
    refine Goes.step (S' := T35.setTop (mkF m 21 #[.val (.int p0), .val (.int p1), .val (.int p2), .val (.int p3), .val (.ref b28), .unset, .unset, .unset, .unset] [])) st35 ?_
    refine Goes.step (S' := T35.setTop (mkF m 23 #[.val (.int p0), .val (.int p1), .val (.int p2), .val (.int p3), .val (.ref b28), .unset, .unset, .unset, .unset] [(.ref b28)])) (fun _ k => XS.aload X35.here hx rfl (hb hby at_21) rfl rfl k) ?_
    refine Goes.step (S' := T35.setTop (mkF m 24 #[.val (.int p0), .val (.int p1), .val (.int p2), .val (.int p3), .val (.ref b28), .unset, .unset, .unset, .unset] [(.int (4 : Int32))])) (fun _ k => own_len X35 hx hZ e35 V_35 (hb hby at_23) _ k) ?_
    refine Goes.step (S' := T35.setTop (mkF m 25 #[.val (.int p0), .val (.int p1), .val (.int p2), .val (.int p3), .val (.ref b28), .unset, .unset, .unset, .unset] [(.int (2 : Int32)), (.int (4 : Int32))])) (fun _ k => XS.iconst X35.here hx rfl (hb hby at_24) k) ?_
    refine Goes.step (S' := T35.setTop (mkF m 28 #[.val (.int p0), .val (.int p1), .val (.int p2), .val (.int p3), .val (.ref b28), .unset, .unset, .unset, .unset] [])) (fun _ k => XS.icmpNo X35.here hx rfl (hb hby at_25) rfl (tlt (by decide)).2.2.2 k) ?_
    refine Goes.step (S' := T35.setTop (mkF m 30 #[.val (.int p0), .val (.int p1), .val (.int p2), .val (.int p3), .val (.ref b28), .unset, .unset, .unset, .unset] [(.ref b28)])) (fun _ k => XS.aload X35.here hx rfl (hb hby at_28) rfl rfl k) ?_
    refine Goes.step (S' := T35.setTop (mkF m 31 #[.val (.int p0), .val (.int p1), .val (.int p2), .val (.int p3), .val (.ref b28), .unset, .unset, .unset, .unset] [(.int (2 : Int32)), (.ref b28)])) (fun _ k => XS.iconst X35.here hx rfl (hb hby at_30) k) ?_
    refine Goes.step (S' := T35.setTop (mkF m 32 #[.val (.int p0), .val (.int p1), .val (.int p2), .val (.int p3), .val (.ref b28), .unset, .unset, .unset, .unset] [(.int p2), (.int (2 : Int32)), (.ref b28)])) (fun _ k => XS.iloadN X35.here hx rfl (hb hby at_31) rfl  k) ?_
    refine Goes.step (S' := T35.setTop (mkF m 33 #[.val (.int p0), .val (.int p1), .val (.int p2), .val (.int p3), .val (.ref b28), .unset, .unset, .unset, .unset] [(.int (p2.toInt8.toInt32)), (.int (2 : Int32)), (.ref b28)])) (fun _ k => XS.i2b X35.here hx rfl (hb hby at_32) rfl k) ?_
    obtain ⟨T38, h38, X38, e38, W38, V_38, st38⟩ := own_bastore X35 hx hZ e35 V_35 ⟨by decide, by decide⟩ (g := (mkF m 33 #[.val (.int p0), .val (.int p1), .val (.int p2), .val (.int p3), .val (.ref b28), .unset, .unset, .unset, .unset] [(.int (p2.toInt8.toInt32)), (.int (2 : Int32)), (.ref b28)])) rfl rfl (hb hby at_33)
    replace V_38 : AI Z h38 b28 k28 .byte (4 : Int32) [(nar .byte (p0.toInt8.toInt32)), (nar .byte (p1.toInt8.toInt32)), (nar .byte (p2.toInt8.toInt32)), (0 : Int32)] := V_38
    have N39 := Fr.snoc X38 N36 g29
    have Z40 : n0 ≤ h38.size := Nat.le_trans Z37 (Nat.le_of_eq W38.size.symm)
    refine Goes.step (S' := T38.setTop (mkF m 34 #[.val (.int p0), .val (.int p1), .val (.int p2), .val (.int p3), .val (.ref b28), .unset, .unset, .unset, .unset] [])) st38 ?_
    refine Goes.step (S' := T38.setTop (mkF m 36 #[.val (.int p0), .val (.int p1), .val (.int p2), .val (.int p3), .val (.ref b28), .unset, .unset, .unset, .unset] [(.ref b28)])) (fun _ k => XS.aload X38.here hx rfl (hb hby at_34) rfl rfl k) ?_
    refine Goes.step (S' := T38.setTop (mkF m 37 #[.val (.int p0), .val (.int p1), .val (.int p2), .val (.int p3), .val (.ref b28), .unset, .unset, .unset, .unset] [(.int (4 : Int32))])) (fun _ k => own_len X38 hx hZ e38 V_38 (hb hby at_36) _ k) ?_
    refine Goes.step (S' := T38.setTop (mkF m 38 #[.val (.int p0), .val (.int p1), .val (.int p2), .val (.int p3), .val (.ref b28), .unset, .unset, .unset, .unset] [(.int (3 : Int32)), (.int (4 : Int32))])) (fun _ k => XS.iconst X38.here hx rfl (hb hby at_37) k) ?_
    refine Goes.step (S' := T38.setTop (mkF m 41 #[.val (.int p0), .val (.int p1), .val (.int p2), .val (.int p3), .val (.ref b28), .unset, .unset, .unset, .unset] [])) (fun _ k => XS.icmpNo X38.here hx rfl (hb hby at_38) rfl (tlt (by decide)).2.2.2 k) ?_
    refine Goes.step (S' := T38.setTop (mkF m 43 #[.val (.int p0), .val (.int p1), .val (.int p2), .val (.int p3), .val (.ref b28), .unset, .unset, .unset, .unset] [(.ref b28)])) (fun _ k => XS.aload X38.here hx rfl (hb hby at_41) rfl rfl k) ?_
    refine Goes.step (S' := T38.setTop (mkF m 44 #[.val (.int p0), .val (.int p1), .val (.int p2), .val (.int p3), .val (.ref b28), .unset, .unset, .unset, .unset] [(.int (3 : Int32)), (.ref b28)])) (fun _ k => XS.iconst X38.here hx rfl (hb hby at_43) k) ?_
    refine Goes.step (S' := T38.setTop (mkF m 45 #[.val (.int p0), .val (.int p1), .val (.int p2), .val (.int p3), .val (.ref b28), .unset, .unset, .unset, .unset] [(.int p2), (.int (3 : Int32)), (.ref b28)])) (fun _ k => XS.iloadN X38.here hx rfl (hb hby at_44) rfl  k) ?_
    refine Goes.step (S' := T38.setTop (mkF m 47 #[.val (.int p0), .val (.int p1), .val (.int p2), .val (.int p3), .val (.ref b28), .unset, .unset, .unset, .unset] [(.int (8 : Int32)), (.int p2), (.int (3 : Int32)), (.ref b28)])) (fun _ k => XS.bipush X38.here hx rfl (hb hby at_45) k) ?_
    refine Goes.step (S' := T38.setTop (mkF m 48 #[.val (.int p0), .val (.int p1), .val (.int p2), .val (.int p3), .val (.ref b28), .unset, .unset, .unset, .unset] [(.int ((p2.toUInt32 >>> ((8 : Int32) &&& 31).toUInt32).toInt32)), (.int (3 : Int32)), (.ref b28)])) (fun _ k => XS.iushr X38.here hx rfl (hb hby at_47) rfl k) ?_
    refine Goes.step (S' := T38.setTop (mkF m 49 #[.val (.int p0), .val (.int p1), .val (.int p2), .val (.int p3), .val (.ref b28), .unset, .unset, .unset, .unset] [(.int (((p2.toUInt32 >>> ((8 : Int32) &&& 31).toUInt32).toInt32).toInt8.toInt32)), (.int (3 : Int32)), (.ref b28)])) (fun _ k => XS.i2b X38.here hx rfl (hb hby at_48) rfl k) ?_
    obtain ⟨T41, h41, X41, e41, W41, V_41, st41⟩ := own_bastore X38 hx hZ e38 V_38 ⟨by decide, by decide⟩ (g := (mkF m 49 #[.val (.int p0), .val (.int p1), .val (.int p2), .val (.int p3), .val (.ref b28), .unset, .unset, .unset, .unset] [(.int (((p2.toUInt32 >>> ((8 : Int32) &&& 31).toUInt32).toInt32).toInt8.toInt32)), (.int (3 : Int32)), (.ref b28)])) rfl rfl (hb hby at_49)
    replace V_41 : AI Z h41 b28 k28 .byte (4 : Int32) [(nar .byte (p0.toInt8.toInt32)), (nar .byte (p1.toInt8.toInt32)), (nar .byte (p2.toInt8.toInt32)), (nar .byte (((p2.toUInt32 >>> ((8 : Int32) &&& 31).toUInt32).toInt32).toInt8.toInt32))] := V_41
    have N42 := Fr.snoc X41 N39 g29
    have Z43 : n0 ≤ h41.size := Nat.le_trans Z40 (Nat.le_of_eq W41.size.symm)
    refine Goes.step (S' := T41.setTop (mkF m 50 #[.val (.int p0), .val (.int p1), .val (.int p2), .val (.int p3), .val (.ref b28), .unset, .unset, .unset, .unset] [])) st41 ?_
    refine Goes.step (S' := T41.setTop (mkF m 52 #[.val (.int p0), .val (.int p1), .val (.int p2), .val (.int p3), .val (.ref b28), .unset, .unset, .unset, .unset] [(.ref b28)])) (fun _ k => XS.aload X41.here hx rfl (hb hby at_50) rfl rfl k) ?_
    refine Goes.step (S' := T41.setTop (mkF m 53 #[.val (.int p0), .val (.int p1), .val (.int p2), .val (.int p3), .val (.ref b28), .unset, .unset, .unset, .unset] [(.int (4 : Int32))])) (fun _ k => own_len X41 hx hZ e41 V_41 (hb hby at_52) _ k) ?_
    refine Goes.step (S' := T41.setTop (mkF m 54 #[.val (.int p0), .val (.int p1), .val (.int p2), .val (.int p3), .val (.ref b28), .unset, .unset, .unset, .unset] [(.int (4 : Int32)), (.int (4 : Int32))])) (fun _ k => XS.iconst X41.here hx rfl (hb hby at_53) k) ?_
    refine Goes.step (S' := T41.setTop (mkF m 66 #[.val (.int p0), .val (.int p1), .val (.int p2), .val (.int p3), .val (.ref b28), .unset, .unset, .unset, .unset] [])) (fun _ k => XS.icmpYes X41.here hx rfl (pc0 := 54) (pc' := 66) rfl (hb hby at_54) rfl (flt (by decide)).2.2.2 (by decide) (by decide) k) ?_
    refine Goes.step (S' := T41.setTop (mkF m 67 #[.val (.int p0), .val (.int p1), .val (.int p2), .val (.int p3), .val (.ref b28), .unset, .unset, .unset, .unset] [(.int p0)])) (fun _ k => XS.iloadN X41.here hx rfl (hb hby at_66) rfl  k) ?_
    refine Goes.step (S' := T41.setTop (mkF m 70 #[.val (.int p0), .val (.int p1), .val (.int p2), .val (.int p3), .val (.ref b28), .unset, .unset, .unset, .unset] [(.int (255 : Int32)), (.int p0)])) (fun _ k => XS.sipush X41.here hx rfl (hb hby at_67) k) ?_
    refine Goes.step (S' := T41.setTop (mkF m 71 #[.val (.int p0), .val (.int p1), .val (.int p2), .val (.int p3), .val (.ref b28), .unset, .unset, .unset, .unset] [(.int (p0 &&& (255 : Int32)))])) (fun _ k => XS.iand X41.here hx rfl (hb hby at_70) rfl k) ?_
    refine Goes.step (S' := T41.setTop (mkF m 73 #[.val (.int p0), .val (.int p1), .val (.int p2), .val (.int p3), .val (.ref b28), .val (.int (p0 &&& (255 : Int32))), .unset, .unset, .unset] [])) (fun _ k => XS.istore X41.here hx rfl (hb hby at_71) rfl (l' := #[.val (.int p0), .val (.int p1), .val (.int p2), .val (.int p3), .val (.ref b28), .val (.int (p0 &&& (255 : Int32))), .unset, .unset, .unset]) rfl k) ?_
    obtain ⟨v5_71, ev5_71⟩ : ∃ z : Int32, z = (p0 &&& (255 : Int32)) := ⟨_, rfl⟩
    rw [← ev5_71]
    refine Goes.step (S' := T41.setTop (mkF m 74 #[.val (.int p0), .val (.int p1), .val (.int p2), .val (.int p3), .val (.ref b28), .val (.int v5_71), .unset, .unset, .unset] [(.int p1)])) (fun _ k => XS.iloadN X41.here hx rfl (hb hby at_73) rfl  k) ?_
    refine Goes.step (S' := T41.setTop (mkF m 77 #[.val (.int p0), .val (.int p1), .val (.int p2), .val (.int p3), .val (.ref b28), .val (.int v5_71), .unset, .unset, .unset] [(.int (255 : Int32)), (.int p1)])) (fun _ k => XS.sipush X41.here hx rfl (hb hby at_74) k) ?_
    refine Goes.step (S' := T41.setTop (mkF m 78 #[.val (.int p0), .val (.int p1), .val (.int p2), .val (.int p3), .val (.ref b28), .val (.int v5_71), .unset, .unset, .unset] [(.int (p1 &&& (255 : Int32)))])) (fun _ k => XS.iand X41.here hx rfl (hb hby at_77) rfl k) ?_
    refine Goes.step (S' := T41.setTop (mkF m 80 #[.val (.int p0), .val (.int p1), .val (.int p2), .val (.int p3), .val (.ref b28), .val (.int v5_71), .val (.int (p1 &&& (255 : Int32))), .unset, .unset] [])) (fun _ k => XS.istore X41.here hx rfl (hb hby at_78) rfl (l' := #[.val (.int p0), .val (.int p1), .val (.int p2), .val (.int p3), .val (.ref b28), .val (.int v5_71), .val (.int (p1 &&& (255 : Int32))), .unset, .unset]) rfl k) ?_
    obtain ⟨v6_78, ev6_78⟩ : ∃ z : Int32, z = (p1 &&& (255 : Int32)) := ⟨_, rfl⟩
    rw [← ev6_78]
    refine Goes.step (S' := T41.setTop (mkF m 82 #[.val (.int p0), .val (.int p1), .val (.int p2), .val (.int p3), .val (.ref b28), .val (.int v5_71), .val (.int v6_78), .unset, .unset] [(.int v5_71)])) (fun _ k => XS.iload X41.here hx rfl (hb hby at_80) rfl  k) ?_
    refine Goes.step (S' := T41.setTop (mkF m 85 #[.val (.int p0), .val (.int p1), .val (.int p2), .val (.int p3), .val (.ref b28), .val (.int v5_71), .val (.int v6_78), .unset, .unset] [(.int (256 : Int32)), (.int v5_71)])) (fun _ k => XS.sipush X41.here hx rfl (hb hby at_82) k) ?_
    refine Goes.step (S' := T41.setTop (mkF m 86 #[.val (.int p0), .val (.int p1), .val (.int p2), .val (.int p3), .val (.ref b28), .val (.int v5_71), .val (.int v6_78), .unset, .unset] [(.int (v5_71 * (256 : Int32)))])) (fun _ k => XS.imul X41.here hx rfl (hb hby at_85) rfl k) ?_
    refine Goes.step (S' := T41.setTop (mkF m 88 #[.val (.int p0), .val (.int p1), .val (.int p2), .val (.int p3), .val (.ref b28), .val (.int v5_71), .val (.int v6_78), .unset, .unset] [(.int v6_78), (.int (v5_71 * (256 : Int32)))])) (fun _ k => XS.iload X41.here hx rfl (hb hby at_86) rfl  k) ?_
    refine Goes.step (S' := T41.setTop (mkF m 89 #[.val (.int p0), .val (.int p1), .val (.int p2), .val (.int p3), .val (.ref b28), .val (.int v5_71), .val (.int v6_78), .unset, .unset] [(.int ((v5_71 * (256 : Int32)) + v6_78))])) (fun _ k => XS.iadd X41.here hx rfl (hb hby at_88) rfl k) ?_
    refine Goes.step (S' := T41.setTop (mkF m 91 #[.val (.int p0), .val (.int p1), .val (.int p2), .val (.int p3), .val (.ref b28), .val (.int v5_71), .val (.int v6_78), .val (.int ((v5_71 * (256 : Int32)) + v6_78)), .unset] [])) (fun _ k => XS.istore X41.here hx rfl (hb hby at_89) rfl (l' := #[.val (.int p0), .val (.int p1), .val (.int p2), .val (.int p3), .val (.ref b28), .val (.int v5_71), .val (.int v6_78), .val (.int ((v5_71 * (256 : Int32)) + v6_78)), .unset]) rfl k) ?_
    obtain ⟨v7_89, ev7_89⟩ : ∃ z : Int32, z = ((v5_71 * (256 : Int32)) + v6_78) := ⟨_, rfl⟩
    rw [← ev7_89]
    refine Goes.step (S' := T41.setTop (mkF m 93 #[.val (.int p0), .val (.int p1), .val (.int p2), .val (.int p3), .val (.ref b28), .val (.int v5_71), .val (.int v6_78), .val (.int v7_89), .unset] [(.ref b28)])) (fun _ k => XS.aload X41.here hx rfl (hb hby at_91) rfl rfl k) ?_
    obtain ⟨_, _, ⟨T44, L44, k44, n44⟩, -, X44, ⟨Lc44, hQ44, l44, y44, z44⟩, st44⟩ := Jvm.LawKit.callS X41 hx (y := (⟨"com/example/pickrelay/pickrelay/mqtt/MqttPackets", "packetId", "([B)I"⟩ : MethodName)) hown (mvT hZ (hw _ (List.mem_of_getElem? (i := 1) rfl))) (mvT hZ (hw _ (List.mem_of_getElem? (i := 2) rfl))) (mvT hZ (hw _ (List.mem_of_getElem? (i := 3) rfl))) (mvT hZ (hw _ (List.mem_of_getElem? (i := 4) rfl))) (by decide) (backOf (W := 0) (rm1 l Z a0 hw [] b28 k28 ((4 : Int32)) ([(nar .byte (p0.toInt8.toInt32)), (nar .byte (p1.toInt8.toInt32)), (nar .byte (p2.toInt8.toInt32)), (nar .byte (((p2.toUInt32 >>> ((8 : Int32) &&& 31).toUInt32).toInt32).toInt8.toInt32))]) h41 n0 Z43 V_41 (own_pr0_93_hB_3 p0 p1 p2 p3 evs_5 v5_71 ev5_71 v6_78 ev6_78 v7_89 ev7_89)) hZ (hw _ (List.mem_of_getElem? (i := 4) rfl)) (hw _ (List.mem_of_getElem? (i := 3) rfl)) (by decide) (by decide)) (g := (mkF m 93 #[.val (.int p0), .val (.int p1), .val (.int p2), .val (.int p3), .val (.ref b28), .val (.int v5_71), .val (.int v6_78), .val (.int v7_89), .unset] [(.ref b28)])) rfl (by rw [hml]; rfl) (argsL := [(.ref b28)]) (rest := []) (lenOf pd0 rfl) rfl (by show 2 * 0 + _ ≤ _; exact Nat.le_of_eq rfl) (hb hby at_93) (fun _ _ => ⟨rfl, e41, (by decide : 1 + 0 ≤ _), (by decide : 4 + 0 ≤ _)⟩)
    dsimp only [Pt.U, Pt.locs, Pt.cells, Pt.slots] at X44 l44 y44 z44 st44 hQ44
    subst l44 y44 z44
    obtain ⟨rfl, N44q, e44⟩ := hQ44
    have N45 := Fr.app N42 N44q
    refine Goes.step (S' := T44.setTop (mkF m 96 #[.val (.int p0), .val (.int p1), .val (.int p2), .val (.int p3), .val (.ref b28), .val (.int v5_71), .val (.int v6_78), .val (.int v7_89), .unset] [(.int (f1 (4 : Int32) [(nar .byte (p0.toInt8.toInt32)), (nar .byte (p1.toInt8.toInt32)), (nar .byte (p2.toInt8.toInt32)), (nar .byte (((p2.toUInt32 >>> ((8 : Int32) &&& 31).toUInt32).toInt32).toInt8.toInt32))]))])) st44 ?_
    refine Goes.step (S' := T44.setTop (mkF m 98 #[.val (.int p0), .val (.int p1), .val (.int p2), .val (.int p3), .val (.ref b28), .val (.int v5_71), .val (.int v6_78), .val (.int v7_89), .val (.int (f1 (4 : Int32) [(nar .byte (p0.toInt8.toInt32)), (nar .byte (p1.toInt8.toInt32)), (nar .byte (p2.toInt8.toInt32)), (nar .byte (((p2.toUInt32 >>> ((8 : Int32) &&& 31).toUInt32).toInt32).toInt8.toInt32))]))] [])) (fun _ k => XS.istore X44.here hx rfl (hb hby at_96) rfl (l' := #[.val (.int p0), .val (.int p1), .val (.int p2), .val (.int p3), .val (.ref b28), .val (.int v5_71), .val (.int v6_78), .val (.int v7_89), .val (.int (f1 (4 : Int32) [(nar .byte (p0.toInt8.toInt32)), (nar .byte (p1.toInt8.toInt32)), (nar .byte (p2.toInt8.toInt32)), (nar .byte (((p2.toUInt32 >>> ((8 : Int32) &&& 31).toUInt32).toInt32).toInt8.toInt32))]))]) rfl k) ?_
    obtain ⟨v8_96, ev8_96⟩ : ∃ z : Int32, z = (f1 (4 : Int32) [(nar .byte (p0.toInt8.toInt32)), (nar .byte (p1.toInt8.toInt32)), (nar .byte (p2.toInt8.toInt32)), (nar .byte (((p2.toUInt32 >>> ((8 : Int32) &&& 31).toUInt32).toInt32).toInt8.toInt32))]) := ⟨_, rfl⟩
    rw [← ev8_96]
    refine Goes.step (S' := T44.setTop (mkF m 100 #[.val (.int p0), .val (.int p1), .val (.int p2), .val (.int p3), .val (.ref b28), .val (.int v5_71), .val (.int v6_78), .val (.int v7_89), .val (.int v8_96)] [(.int v8_96)])) (fun _ k => XS.iload X44.here hx rfl (hb hby at_98) rfl  k) ?_
    refine Goes.step (S' := T44.setTop (mkF m 102 #[.val (.int p0), .val (.int p1), .val (.int p2), .val (.int p3), .val (.ref b28), .val (.int v5_71), .val (.int v6_78), .val (.int v7_89), .val (.int v8_96)] [(.int v7_89), (.int v8_96)])) (fun _ k => XS.iload X44.here hx rfl (hb hby at_100) rfl  k) ?_
    refine Goes.step (S' := T44.setTop (mkF m 105 #[.val (.int p0), .val (.int p1), .val (.int p2), .val (.int p3), .val (.ref b28), .val (.int v5_71), .val (.int v6_78), .val (.int v7_89), .val (.int v8_96)] [])) (fun _ k => XS.icmpNo X44.here hx rfl (hb hby at_102) rfl (teq (own_hc0_102_3 p0 p1 p2 p3 evs_5 v5_71 ev5_71 v6_78 ev6_78 v7_89 ev7_89 v8_96 ev8_96)).2 k) ?_
    refine Goes.step (S' := T44.setTop (mkF m 106 #[.val (.int p0), .val (.int p1), .val (.int p2), .val (.int p3), .val (.ref b28), .val (.int v5_71), .val (.int v6_78), .val (.int v7_89), .val (.int v8_96)] [(.int (1 : Int32))])) (fun _ k => XS.iconst X44.here hx rfl (hb hby at_105) k) ?_
    refine Goes.step (S' := T44.setTop (mkF m 110 #[.val (.int p0), .val (.int p1), .val (.int p2), .val (.int p3), .val (.ref b28), .val (.int v5_71), .val (.int v6_78), .val (.int v7_89), .val (.int v8_96)] [(.int (1 : Int32))])) (fun _ k => XS.goto X44.here hx rfl (pc0 := 106) (pc' := 110) rfl (hb hby at_106) (by decide) (by decide) k) ?_
    refine Goes.retN X44 hx Bd.notSynchronized (t := .boolean) Bd.returns (by simp) (hb hby at_110) (by decide) (by decide) ?_
    exact ⟨rfl, N45⟩
  · obtain ⟨T46, h46, k46, X46, e46, E46, A46, st46⟩ := newP X0 hx hZ (hw _ (List.mem_of_getElem? (i := 0) rfl)) e0 (g := (mkF m 5 #[.val (.int p0), .val (.int p1), .val (.int p2), .val (.int p3), .unset, .unset, .unset, .unset, .unset] [(.int (5 : Int32))])) rfl (hb hby at_5) rfl (by decide) (cap := 5) (by decide) (by decide) (by decide) (by decide)
    obtain ⟨b46, g46⟩ : ∃ z, z = h0.size := ⟨_, rfl⟩
    rw [← g46] at A46 st46
    have g47 : n0 ≤ b46 := Nat.le_trans Z0 (Nat.le_of_eq g46.symm)
    have Z48 : n0 ≤ h46.size := Nat.le_trans Z0 E46.1
    have V49 : AI Z h46 b46 k46 .byte (5 : Int32) [(0 : Int32), (0 : Int32), (0 : Int32), (0 : Int32), (0 : Int32)] := own_new A46 (by decide) rfl
    refine Goes.step (S' := T46.setTop (mkF m 7 #[.val (.int p0), .val (.int p1), .val (.int p2), .val (.int p3), .unset, .unset, .unset, .unset, .unset] [(.ref b46)])) st46 ?_
    refine Goes.step (S' := T46.setTop (mkF m 9 #[.val (.int p0), .val (.int p1), .val (.int p2), .val (.int p3), .val (.ref b46), .unset, .unset, .unset, .unset] [])) (fun _ k => XS.astore X46.here hx rfl (hb hby at_7) rfl rfl (l' := #[.val (.int p0), .val (.int p1), .val (.int p2), .val (.int p3), .val (.ref b46), .unset, .unset, .unset, .unset]) rfl k) ?_
    refine Goes.step (S' := T46.setTop (mkF m 11 #[.val (.int p0), .val (.int p1), .val (.int p2), .val (.int p3), .val (.ref b46), .unset, .unset, .unset, .unset] [(.ref b46)])) (fun _ k => XS.aload X46.here hx rfl (hb hby at_9) rfl rfl k) ?_
    refine Goes.step (S' := T46.setTop (mkF m 12 #[.val (.int p0), .val (.int p1), .val (.int p2), .val (.int p3), .val (.ref b46), .unset, .unset, .unset, .unset] [(.int (0 : Int32)), (.ref b46)])) (fun _ k => XS.iconst X46.here hx rfl (hb hby at_11) k) ?_
    refine Goes.step (S' := T46.setTop (mkF m 13 #[.val (.int p0), .val (.int p1), .val (.int p2), .val (.int p3), .val (.ref b46), .unset, .unset, .unset, .unset] [(.int p0), (.int (0 : Int32)), (.ref b46)])) (fun _ k => XS.iloadN X46.here hx rfl (hb hby at_12) rfl  k) ?_
    refine Goes.step (S' := T46.setTop (mkF m 14 #[.val (.int p0), .val (.int p1), .val (.int p2), .val (.int p3), .val (.ref b46), .unset, .unset, .unset, .unset] [(.int (p0.toInt8.toInt32)), (.int (0 : Int32)), (.ref b46)])) (fun _ k => XS.i2b X46.here hx rfl (hb hby at_13) rfl k) ?_
    obtain ⟨T50, h50, X50, e50, W50, V_50, st50⟩ := own_bastore X46 hx hZ e46 V49 ⟨by decide, by decide⟩ (g := (mkF m 14 #[.val (.int p0), .val (.int p1), .val (.int p2), .val (.int p3), .val (.ref b46), .unset, .unset, .unset, .unset] [(.int (p0.toInt8.toInt32)), (.int (0 : Int32)), (.ref b46)])) rfl rfl (hb hby at_14)
    replace V_50 : AI Z h50 b46 k46 .byte (5 : Int32) [(nar .byte (p0.toInt8.toInt32)), (0 : Int32), (0 : Int32), (0 : Int32), (0 : Int32)] := V_50
    have N51 := Fr.snoc X50 N0 g47
    have Z52 : n0 ≤ h50.size := Nat.le_trans Z48 (Nat.le_of_eq W50.size.symm)
    refine Goes.step (S' := T50.setTop (mkF m 15 #[.val (.int p0), .val (.int p1), .val (.int p2), .val (.int p3), .val (.ref b46), .unset, .unset, .unset, .unset] [])) st50 ?_
    refine Goes.step (S' := T50.setTop (mkF m 17 #[.val (.int p0), .val (.int p1), .val (.int p2), .val (.int p3), .val (.ref b46), .unset, .unset, .unset, .unset] [(.ref b46)])) (fun _ k => XS.aload X50.here hx rfl (hb hby at_15) rfl rfl k) ?_
    refine Goes.step (S' := T50.setTop (mkF m 18 #[.val (.int p0), .val (.int p1), .val (.int p2), .val (.int p3), .val (.ref b46), .unset, .unset, .unset, .unset] [(.int (1 : Int32)), (.ref b46)])) (fun _ k => XS.iconst X50.here hx rfl (hb hby at_17) k) ?_
    refine Goes.step (S' := T50.setTop (mkF m 19 #[.val (.int p0), .val (.int p1), .val (.int p2), .val (.int p3), .val (.ref b46), .unset, .unset, .unset, .unset] [(.int p1), (.int (1 : Int32)), (.ref b46)])) (fun _ k => XS.iloadN X50.here hx rfl (hb hby at_18) rfl  k) ?_
    refine Goes.step (S' := T50.setTop (mkF m 20 #[.val (.int p0), .val (.int p1), .val (.int p2), .val (.int p3), .val (.ref b46), .unset, .unset, .unset, .unset] [(.int (p1.toInt8.toInt32)), (.int (1 : Int32)), (.ref b46)])) (fun _ k => XS.i2b X50.here hx rfl (hb hby at_19) rfl k) ?_
    obtain ⟨T53, h53, X53, e53, W53, V_53, st53⟩ := own_bastore X50 hx hZ e50 V_50 ⟨by decide, by decide⟩ (g := (mkF m 20 #[.val (.int p0), .val (.int p1), .val (.int p2), .val (.int p3), .val (.ref b46), .unset, .unset, .unset, .unset] [(.int (p1.toInt8.toInt32)), (.int (1 : Int32)), (.ref b46)])) rfl rfl (hb hby at_20)
    replace V_53 : AI Z h53 b46 k46 .byte (5 : Int32) [(nar .byte (p0.toInt8.toInt32)), (nar .byte (p1.toInt8.toInt32)), (0 : Int32), (0 : Int32), (0 : Int32)] := V_53
    have N54 := Fr.snoc X53 N51 g47
    have Z55 : n0 ≤ h53.size := Nat.le_trans Z52 (Nat.le_of_eq W53.size.symm)
    refine Goes.step (S' := T53.setTop (mkF m 21 #[.val (.int p0), .val (.int p1), .val (.int p2), .val (.int p3), .val (.ref b46), .unset, .unset, .unset, .unset] [])) st53 ?_
    refine Goes.step (S' := T53.setTop (mkF m 23 #[.val (.int p0), .val (.int p1), .val (.int p2), .val (.int p3), .val (.ref b46), .unset, .unset, .unset, .unset] [(.ref b46)])) (fun _ k => XS.aload X53.here hx rfl (hb hby at_21) rfl rfl k) ?_
    refine Goes.step (S' := T53.setTop (mkF m 24 #[.val (.int p0), .val (.int p1), .val (.int p2), .val (.int p3), .val (.ref b46), .unset, .unset, .unset, .unset] [(.int (5 : Int32))])) (fun _ k => own_len X53 hx hZ e53 V_53 (hb hby at_23) _ k) ?_
    refine Goes.step (S' := T53.setTop (mkF m 25 #[.val (.int p0), .val (.int p1), .val (.int p2), .val (.int p3), .val (.ref b46), .unset, .unset, .unset, .unset] [(.int (2 : Int32)), (.int (5 : Int32))])) (fun _ k => XS.iconst X53.here hx rfl (hb hby at_24) k) ?_
    refine Goes.step (S' := T53.setTop (mkF m 28 #[.val (.int p0), .val (.int p1), .val (.int p2), .val (.int p3), .val (.ref b46), .unset, .unset, .unset, .unset] [])) (fun _ k => XS.icmpNo X53.here hx rfl (hb hby at_25) rfl (tlt (by decide)).2.2.2 k) ?_
    refine Goes.step (S' := T53.setTop (mkF m 30 #[.val (.int p0), .val (.int p1), .val (.int p2), .val (.int p3), .val (.ref b46), .unset, .unset, .unset, .unset] [(.ref b46)])) (fun _ k => XS.aload X53.here hx rfl (hb hby at_28) rfl rfl k) ?_
    refine Goes.step (S' := T53.setTop (mkF m 31 #[.val (.int p0), .val (.int p1), .val (.int p2), .val (.int p3), .val (.ref b46), .unset, .unset, .unset, .unset] [(.int (2 : Int32)), (.ref b46)])) (fun _ k => XS.iconst X53.here hx rfl (hb hby at_30) k) ?_
    refine Goes.step (S' := T53.setTop (mkF m 32 #[.val (.int p0), .val (.int p1), .val (.int p2), .val (.int p3), .val (.ref b46), .unset, .unset, .unset, .unset] [(.int p2), (.int (2 : Int32)), (.ref b46)])) (fun _ k => XS.iloadN X53.here hx rfl (hb hby at_31) rfl  k) ?_
    refine Goes.step (S' := T53.setTop (mkF m 33 #[.val (.int p0), .val (.int p1), .val (.int p2), .val (.int p3), .val (.ref b46), .unset, .unset, .unset, .unset] [(.int (p2.toInt8.toInt32)), (.int (2 : Int32)), (.ref b46)])) (fun _ k => XS.i2b X53.here hx rfl (hb hby at_32) rfl k) ?_
    obtain ⟨T56, h56, X56, e56, W56, V_56, st56⟩ := own_bastore X53 hx hZ e53 V_53 ⟨by decide, by decide⟩ (g := (mkF m 33 #[.val (.int p0), .val (.int p1), .val (.int p2), .val (.int p3), .val (.ref b46), .unset, .unset, .unset, .unset] [(.int (p2.toInt8.toInt32)), (.int (2 : Int32)), (.ref b46)])) rfl rfl (hb hby at_33)
    replace V_56 : AI Z h56 b46 k46 .byte (5 : Int32) [(nar .byte (p0.toInt8.toInt32)), (nar .byte (p1.toInt8.toInt32)), (nar .byte (p2.toInt8.toInt32)), (0 : Int32), (0 : Int32)] := V_56
    have N57 := Fr.snoc X56 N54 g47
    have Z58 : n0 ≤ h56.size := Nat.le_trans Z55 (Nat.le_of_eq W56.size.symm)
    refine Goes.step (S' := T56.setTop (mkF m 34 #[.val (.int p0), .val (.int p1), .val (.int p2), .val (.int p3), .val (.ref b46), .unset, .unset, .unset, .unset] [])) st56 ?_
    refine Goes.step (S' := T56.setTop (mkF m 36 #[.val (.int p0), .val (.int p1), .val (.int p2), .val (.int p3), .val (.ref b46), .unset, .unset, .unset, .unset] [(.ref b46)])) (fun _ k => XS.aload X56.here hx rfl (hb hby at_34) rfl rfl k) ?_
    refine Goes.step (S' := T56.setTop (mkF m 37 #[.val (.int p0), .val (.int p1), .val (.int p2), .val (.int p3), .val (.ref b46), .unset, .unset, .unset, .unset] [(.int (5 : Int32))])) (fun _ k => own_len X56 hx hZ e56 V_56 (hb hby at_36) _ k) ?_
    refine Goes.step (S' := T56.setTop (mkF m 38 #[.val (.int p0), .val (.int p1), .val (.int p2), .val (.int p3), .val (.ref b46), .unset, .unset, .unset, .unset] [(.int (3 : Int32)), (.int (5 : Int32))])) (fun _ k => XS.iconst X56.here hx rfl (hb hby at_37) k) ?_
    refine Goes.step (S' := T56.setTop (mkF m 41 #[.val (.int p0), .val (.int p1), .val (.int p2), .val (.int p3), .val (.ref b46), .unset, .unset, .unset, .unset] [])) (fun _ k => XS.icmpNo X56.here hx rfl (hb hby at_38) rfl (tlt (by decide)).2.2.2 k) ?_
    refine Goes.step (S' := T56.setTop (mkF m 43 #[.val (.int p0), .val (.int p1), .val (.int p2), .val (.int p3), .val (.ref b46), .unset, .unset, .unset, .unset] [(.ref b46)])) (fun _ k => XS.aload X56.here hx rfl (hb hby at_41) rfl rfl k) ?_
    refine Goes.step (S' := T56.setTop (mkF m 44 #[.val (.int p0), .val (.int p1), .val (.int p2), .val (.int p3), .val (.ref b46), .unset, .unset, .unset, .unset] [(.int (3 : Int32)), (.ref b46)])) (fun _ k => XS.iconst X56.here hx rfl (hb hby at_43) k) ?_
    refine Goes.step (S' := T56.setTop (mkF m 45 #[.val (.int p0), .val (.int p1), .val (.int p2), .val (.int p3), .val (.ref b46), .unset, .unset, .unset, .unset] [(.int p2), (.int (3 : Int32)), (.ref b46)])) (fun _ k => XS.iloadN X56.here hx rfl (hb hby at_44) rfl  k) ?_
    refine Goes.step (S' := T56.setTop (mkF m 47 #[.val (.int p0), .val (.int p1), .val (.int p2), .val (.int p3), .val (.ref b46), .unset, .unset, .unset, .unset] [(.int (8 : Int32)), (.int p2), (.int (3 : Int32)), (.ref b46)])) (fun _ k => XS.bipush X56.here hx rfl (hb hby at_45) k) ?_
    refine Goes.step (S' := T56.setTop (mkF m 48 #[.val (.int p0), .val (.int p1), .val (.int p2), .val (.int p3), .val (.ref b46), .unset, .unset, .unset, .unset] [(.int ((p2.toUInt32 >>> ((8 : Int32) &&& 31).toUInt32).toInt32)), (.int (3 : Int32)), (.ref b46)])) (fun _ k => XS.iushr X56.here hx rfl (hb hby at_47) rfl k) ?_
    refine Goes.step (S' := T56.setTop (mkF m 49 #[.val (.int p0), .val (.int p1), .val (.int p2), .val (.int p3), .val (.ref b46), .unset, .unset, .unset, .unset] [(.int (((p2.toUInt32 >>> ((8 : Int32) &&& 31).toUInt32).toInt32).toInt8.toInt32)), (.int (3 : Int32)), (.ref b46)])) (fun _ k => XS.i2b X56.here hx rfl (hb hby at_48) rfl k) ?_
    obtain ⟨T59, h59, X59, e59, W59, V_59, st59⟩ := own_bastore X56 hx hZ e56 V_56 ⟨by decide, by decide⟩ (g := (mkF m 49 #[.val (.int p0), .val (.int p1), .val (.int p2), .val (.int p3), .val (.ref b46), .unset, .unset, .unset, .unset] [(.int (((p2.toUInt32 >>> ((8 : Int32) &&& 31).toUInt32).toInt32).toInt8.toInt32)), (.int (3 : Int32)), (.ref b46)])) rfl rfl (hb hby at_49)
    replace V_59 : AI Z h59 b46 k46 .byte (5 : Int32) [(nar .byte (p0.toInt8.toInt32)), (nar .byte (p1.toInt8.toInt32)), (nar .byte (p2.toInt8.toInt32)), (nar .byte (((p2.toUInt32 >>> ((8 : Int32) &&& 31).toUInt32).toInt32).toInt8.toInt32)), (0 : Int32)] := V_59
    have N60 := Fr.snoc X59 N57 g47
    have Z61 : n0 ≤ h59.size := Nat.le_trans Z58 (Nat.le_of_eq W59.size.symm)
    refine Goes.step (S' := T59.setTop (mkF m 50 #[.val (.int p0), .val (.int p1), .val (.int p2), .val (.int p3), .val (.ref b46), .unset, .unset, .unset, .unset] [])) st59 ?_
    refine Goes.step (S' := T59.setTop (mkF m 52 #[.val (.int p0), .val (.int p1), .val (.int p2), .val (.int p3), .val (.ref b46), .unset, .unset, .unset, .unset] [(.ref b46)])) (fun _ k => XS.aload X59.here hx rfl (hb hby at_50) rfl rfl k) ?_
    refine Goes.step (S' := T59.setTop (mkF m 53 #[.val (.int p0), .val (.int p1), .val (.int p2), .val (.int p3), .val (.ref b46), .unset, .unset, .unset, .unset] [(.int (5 : Int32))])) (fun _ k => own_len X59 hx hZ e59 V_59 (hb hby at_52) _ k) ?_
    refine Goes.step (S' := T59.setTop (mkF m 54 #[.val (.int p0), .val (.int p1), .val (.int p2), .val (.int p3), .val (.ref b46), .unset, .unset, .unset, .unset] [(.int (4 : Int32)), (.int (5 : Int32))])) (fun _ k => XS.iconst X59.here hx rfl (hb hby at_53) k) ?_
    refine Goes.step (S' := T59.setTop (mkF m 57 #[.val (.int p0), .val (.int p1), .val (.int p2), .val (.int p3), .val (.ref b46), .unset, .unset, .unset, .unset] [])) (fun _ k => XS.icmpNo X59.here hx rfl (hb hby at_54) rfl (tlt (by decide)).2.2.2 k) ?_
    refine Goes.step (S' := T59.setTop (mkF m 59 #[.val (.int p0), .val (.int p1), .val (.int p2), .val (.int p3), .val (.ref b46), .unset, .unset, .unset, .unset] [(.ref b46)])) (fun _ k => XS.aload X59.here hx rfl (hb hby at_57) rfl rfl k) ?_
    refine Goes.step (S' := T59.setTop (mkF m 60 #[.val (.int p0), .val (.int p1), .val (.int p2), .val (.int p3), .val (.ref b46), .unset, .unset, .unset, .unset] [(.int (4 : Int32)), (.ref b46)])) (fun _ k => XS.iconst X59.here hx rfl (hb hby at_59) k) ?_
    refine Goes.step (S' := T59.setTop (mkF m 61 #[.val (.int p0), .val (.int p1), .val (.int p2), .val (.int p3), .val (.ref b46), .unset, .unset, .unset, .unset] [(.int p2), (.int (4 : Int32)), (.ref b46)])) (fun _ k => XS.iloadN X59.here hx rfl (hb hby at_60) rfl  k) ?_
    refine Goes.step (S' := T59.setTop (mkF m 63 #[.val (.int p0), .val (.int p1), .val (.int p2), .val (.int p3), .val (.ref b46), .unset, .unset, .unset, .unset] [(.int (16 : Int32)), (.int p2), (.int (4 : Int32)), (.ref b46)])) (fun _ k => XS.bipush X59.here hx rfl (hb hby at_61) k) ?_
    refine Goes.step (S' := T59.setTop (mkF m 64 #[.val (.int p0), .val (.int p1), .val (.int p2), .val (.int p3), .val (.ref b46), .unset, .unset, .unset, .unset] [(.int ((p2.toUInt32 >>> ((16 : Int32) &&& 31).toUInt32).toInt32)), (.int (4 : Int32)), (.ref b46)])) (fun _ k => XS.iushr X59.here hx rfl (hb hby at_63) rfl k) ?_
    refine Goes.step (S' := T59.setTop (mkF m 65 #[.val (.int p0), .val (.int p1), .val (.int p2), .val (.int p3), .val (.ref b46), .unset, .unset, .unset, .unset] [(.int (((p2.toUInt32 >>> ((16 : Int32) &&& 31).toUInt32).toInt32).toInt8.toInt32)), (.int (4 : Int32)), (.ref b46)])) (fun _ k => XS.i2b X59.here hx rfl (hb hby at_64) rfl k) ?_
    obtain ⟨T62, h62, X62, e62, W62, V_62, st62⟩ := own_bastore X59 hx hZ e59 V_59 ⟨by decide, by decide⟩ (g := (mkF m 65 #[.val (.int p0), .val (.int p1), .val (.int p2), .val (.int p3), .val (.ref b46), .unset, .unset, .unset, .unset] [(.int (((p2.toUInt32 >>> ((16 : Int32) &&& 31).toUInt32).toInt32).toInt8.toInt32)), (.int (4 : Int32)), (.ref b46)])) rfl rfl (hb hby at_65)
    replace V_62 : AI Z h62 b46 k46 .byte (5 : Int32) [(nar .byte (p0.toInt8.toInt32)), (nar .byte (p1.toInt8.toInt32)), (nar .byte (p2.toInt8.toInt32)), (nar .byte (((p2.toUInt32 >>> ((8 : Int32) &&& 31).toUInt32).toInt32).toInt8.toInt32)), (nar .byte (((p2.toUInt32 >>> ((16 : Int32) &&& 31).toUInt32).toInt32).toInt8.toInt32))] := V_62
    have N63 := Fr.snoc X62 N60 g47
    have Z64 : n0 ≤ h62.size := Nat.le_trans Z61 (Nat.le_of_eq W62.size.symm)
    refine Goes.step (S' := T62.setTop (mkF m 66 #[.val (.int p0), .val (.int p1), .val (.int p2), .val (.int p3), .val (.ref b46), .unset, .unset, .unset, .unset] [])) st62 ?_
    refine Goes.step (S' := T62.setTop (mkF m 67 #[.val (.int p0), .val (.int p1), .val (.int p2), .val (.int p3), .val (.ref b46), .unset, .unset, .unset, .unset] [(.int p0)])) (fun _ k => XS.iloadN X62.here hx rfl (hb hby at_66) rfl  k) ?_
    refine Goes.step (S' := T62.setTop (mkF m 70 #[.val (.int p0), .val (.int p1), .val (.int p2), .val (.int p3), .val (.ref b46), .unset, .unset, .unset, .unset] [(.int (255 : Int32)), (.int p0)])) (fun _ k => XS.sipush X62.here hx rfl (hb hby at_67) k) ?_
    refine Goes.step (S' := T62.setTop (mkF m 71 #[.val (.int p0), .val (.int p1), .val (.int p2), .val (.int p3), .val (.ref b46), .unset, .unset, .unset, .unset] [(.int (p0 &&& (255 : Int32)))])) (fun _ k => XS.iand X62.here hx rfl (hb hby at_70) rfl k) ?_
    refine Goes.step (S' := T62.setTop (mkF m 73 #[.val (.int p0), .val (.int p1), .val (.int p2), .val (.int p3), .val (.ref b46), .val (.int (p0 &&& (255 : Int32))), .unset, .unset, .unset] [])) (fun _ k => XS.istore X62.here hx rfl (hb hby at_71) rfl (l' := #[.val (.int p0), .val (.int p1), .val (.int p2), .val (.int p3), .val (.ref b46), .val (.int (p0 &&& (255 : Int32))), .unset, .unset, .unset]) rfl k) ?_
    obtain ⟨v5_71, ev5_71⟩ : ∃ z : Int32, z = (p0 &&& (255 : Int32)) := ⟨_, rfl⟩
    rw [← ev5_71]
    refine Goes.step (S' := T62.setTop (mkF m 74 #[.val (.int p0), .val (.int p1), .val (.int p2), .val (.int p3), .val (.ref b46), .val (.int v5_71), .unset, .unset, .unset] [(.int p1)])) (fun _ k => XS.iloadN X62.here hx rfl (hb hby at_73) rfl  k) ?_
    refine Goes.step (S' := T62.setTop (mkF m 77 #[.val (.int p0), .val (.int p1), .val (.int p2), .val (.int p3), .val (.ref b46), .val (.int v5_71), .unset, .unset, .unset] [(.int (255 : Int32)), (.int p1)])) (fun _ k => XS.sipush X62.here hx rfl (hb hby at_74) k) ?_
    refine Goes.step (S' := T62.setTop (mkF m 78 #[.val (.int p0), .val (.int p1), .val (.int p2), .val (.int p3), .val (.ref b46), .val (.int v5_71), .unset, .unset, .unset] [(.int (p1 &&& (255 : Int32)))])) (fun _ k => XS.iand X62.here hx rfl (hb hby at_77) rfl k) ?_
    refine Goes.step (S' := T62.setTop (mkF m 80 #[.val (.int p0), .val (.int p1), .val (.int p2), .val (.int p3), .val (.ref b46), .val (.int v5_71), .val (.int (p1 &&& (255 : Int32))), .unset, .unset] [])) (fun _ k => XS.istore X62.here hx rfl (hb hby at_78) rfl (l' := #[.val (.int p0), .val (.int p1), .val (.int p2), .val (.int p3), .val (.ref b46), .val (.int v5_71), .val (.int (p1 &&& (255 : Int32))), .unset, .unset]) rfl k) ?_
    obtain ⟨v6_78, ev6_78⟩ : ∃ z : Int32, z = (p1 &&& (255 : Int32)) := ⟨_, rfl⟩
    rw [← ev6_78]
    refine Goes.step (S' := T62.setTop (mkF m 82 #[.val (.int p0), .val (.int p1), .val (.int p2), .val (.int p3), .val (.ref b46), .val (.int v5_71), .val (.int v6_78), .unset, .unset] [(.int v5_71)])) (fun _ k => XS.iload X62.here hx rfl (hb hby at_80) rfl  k) ?_
    refine Goes.step (S' := T62.setTop (mkF m 85 #[.val (.int p0), .val (.int p1), .val (.int p2), .val (.int p3), .val (.ref b46), .val (.int v5_71), .val (.int v6_78), .unset, .unset] [(.int (256 : Int32)), (.int v5_71)])) (fun _ k => XS.sipush X62.here hx rfl (hb hby at_82) k) ?_
    refine Goes.step (S' := T62.setTop (mkF m 86 #[.val (.int p0), .val (.int p1), .val (.int p2), .val (.int p3), .val (.ref b46), .val (.int v5_71), .val (.int v6_78), .unset, .unset] [(.int (v5_71 * (256 : Int32)))])) (fun _ k => XS.imul X62.here hx rfl (hb hby at_85) rfl k) ?_
    refine Goes.step (S' := T62.setTop (mkF m 88 #[.val (.int p0), .val (.int p1), .val (.int p2), .val (.int p3), .val (.ref b46), .val (.int v5_71), .val (.int v6_78), .unset, .unset] [(.int v6_78), (.int (v5_71 * (256 : Int32)))])) (fun _ k => XS.iload X62.here hx rfl (hb hby at_86) rfl  k) ?_
    refine Goes.step (S' := T62.setTop (mkF m 89 #[.val (.int p0), .val (.int p1), .val (.int p2), .val (.int p3), .val (.ref b46), .val (.int v5_71), .val (.int v6_78), .unset, .unset] [(.int ((v5_71 * (256 : Int32)) + v6_78))])) (fun _ k => XS.iadd X62.here hx rfl (hb hby at_88) rfl k) ?_
    refine Goes.step (S' := T62.setTop (mkF m 91 #[.val (.int p0), .val (.int p1), .val (.int p2), .val (.int p3), .val (.ref b46), .val (.int v5_71), .val (.int v6_78), .val (.int ((v5_71 * (256 : Int32)) + v6_78)), .unset] [])) (fun _ k => XS.istore X62.here hx rfl (hb hby at_89) rfl (l' := #[.val (.int p0), .val (.int p1), .val (.int p2), .val (.int p3), .val (.ref b46), .val (.int v5_71), .val (.int v6_78), .val (.int ((v5_71 * (256 : Int32)) + v6_78)), .unset]) rfl k) ?_
    obtain ⟨v7_89, ev7_89⟩ : ∃ z : Int32, z = ((v5_71 * (256 : Int32)) + v6_78) := ⟨_, rfl⟩
    rw [← ev7_89]
    refine Goes.step (S' := T62.setTop (mkF m 93 #[.val (.int p0), .val (.int p1), .val (.int p2), .val (.int p3), .val (.ref b46), .val (.int v5_71), .val (.int v6_78), .val (.int v7_89), .unset] [(.ref b46)])) (fun _ k => XS.aload X62.here hx rfl (hb hby at_91) rfl rfl k) ?_
    obtain ⟨_, _, ⟨T65, L65, k65, n65⟩, -, X65, ⟨Lc65, hQ65, l65, y65, z65⟩, st65⟩ := Jvm.LawKit.callS X62 hx (y := (⟨"com/example/pickrelay/pickrelay/mqtt/MqttPackets", "packetId", "([B)I"⟩ : MethodName)) hown (mvT hZ (hw _ (List.mem_of_getElem? (i := 1) rfl))) (mvT hZ (hw _ (List.mem_of_getElem? (i := 2) rfl))) (mvT hZ (hw _ (List.mem_of_getElem? (i := 3) rfl))) (mvT hZ (hw _ (List.mem_of_getElem? (i := 4) rfl))) (by decide) (backOf (W := 0) (rm1 l Z a0 hw [] b46 k46 ((5 : Int32)) ([(nar .byte (p0.toInt8.toInt32)), (nar .byte (p1.toInt8.toInt32)), (nar .byte (p2.toInt8.toInt32)), (nar .byte (((p2.toUInt32 >>> ((8 : Int32) &&& 31).toUInt32).toInt32).toInt8.toInt32)), (nar .byte (((p2.toUInt32 >>> ((16 : Int32) &&& 31).toUInt32).toInt32).toInt8.toInt32))]) h62 n0 Z64 V_62 (own_pr0_93_hB_4 p0 p1 p2 p3 evs_5 v5_71 ev5_71 v6_78 ev6_78 v7_89 ev7_89)) hZ (hw _ (List.mem_of_getElem? (i := 4) rfl)) (hw _ (List.mem_of_getElem? (i := 3) rfl)) (by decide) (by decide)) (g := (mkF m 93 #[.val (.int p0), .val (.int p1), .val (.int p2), .val (.int p3), .val (.ref b46), .val (.int v5_71), .val (.int v6_78), .val (.int v7_89), .unset] [(.ref b46)])) rfl (by rw [hml]; rfl) (argsL := [(.ref b46)]) (rest := []) (lenOf pd0 rfl) rfl (by show 2 * 0 + _ ≤ _; exact Nat.le_of_eq rfl) (hb hby at_93) (fun _ _ => ⟨rfl, e62, (by decide : 1 + 0 ≤ _), (by decide : 5 + 0 ≤ _)⟩)
    dsimp only [Pt.U, Pt.locs, Pt.cells, Pt.slots] at X65 l65 y65 z65 st65 hQ65
    subst l65 y65 z65
    obtain ⟨rfl, N65q, e65⟩ := hQ65
    have N66 := Fr.app N63 N65q
    refine Goes.step (S' := T65.setTop (mkF m 96 #[.val (.int p0), .val (.int p1), .val (.int p2), .val (.int p3), .val (.ref b46), .val (.int v5_71), .val (.int v6_78), .val (.int v7_89), .unset] [(.int (f1 (5 : Int32) [(nar .byte (p0.toInt8.toInt32)), (nar .byte (p1.toInt8.toInt32)), (nar .byte (p2.toInt8.toInt32)), (nar .byte (((p2.toUInt32 >>> ((8 : Int32) &&& 31).toUInt32).toInt32).toInt8.toInt32)), (nar .byte (((p2.toUInt32 >>> ((16 : Int32) &&& 31).toUInt32).toInt32).toInt8.toInt32))]))])) st65 ?_
    refine Goes.step (S' := T65.setTop (mkF m 98 #[.val (.int p0), .val (.int p1), .val (.int p2), .val (.int p3), .val (.ref b46), .val (.int v5_71), .val (.int v6_78), .val (.int v7_89), .val (.int (f1 (5 : Int32) [(nar .byte (p0.toInt8.toInt32)), (nar .byte (p1.toInt8.toInt32)), (nar .byte (p2.toInt8.toInt32)), (nar .byte (((p2.toUInt32 >>> ((8 : Int32) &&& 31).toUInt32).toInt32).toInt8.toInt32)), (nar .byte (((p2.toUInt32 >>> ((16 : Int32) &&& 31).toUInt32).toInt32).toInt8.toInt32))]))] [])) (fun _ k => XS.istore X65.here hx rfl (hb hby at_96) rfl (l' := #[.val (.int p0), .val (.int p1), .val (.int p2), .val (.int p3), .val (.ref b46), .val (.int v5_71), .val (.int v6_78), .val (.int v7_89), .val (.int (f1 (5 : Int32) [(nar .byte (p0.toInt8.toInt32)), (nar .byte (p1.toInt8.toInt32)), (nar .byte (p2.toInt8.toInt32)), (nar .byte (((p2.toUInt32 >>> ((8 : Int32) &&& 31).toUInt32).toInt32).toInt8.toInt32)), (nar .byte (((p2.toUInt32 >>> ((16 : Int32) &&& 31).toUInt32).toInt32).toInt8.toInt32))]))]) rfl k) ?_
    obtain ⟨v8_96, ev8_96⟩ : ∃ z : Int32, z = (f1 (5 : Int32) [(nar .byte (p0.toInt8.toInt32)), (nar .byte (p1.toInt8.toInt32)), (nar .byte (p2.toInt8.toInt32)), (nar .byte (((p2.toUInt32 >>> ((8 : Int32) &&& 31).toUInt32).toInt32).toInt8.toInt32)), (nar .byte (((p2.toUInt32 >>> ((16 : Int32) &&& 31).toUInt32).toInt32).toInt8.toInt32))]) := ⟨_, rfl⟩
    rw [← ev8_96]
    refine Goes.step (S' := T65.setTop (mkF m 100 #[.val (.int p0), .val (.int p1), .val (.int p2), .val (.int p3), .val (.ref b46), .val (.int v5_71), .val (.int v6_78), .val (.int v7_89), .val (.int v8_96)] [(.int v8_96)])) (fun _ k => XS.iload X65.here hx rfl (hb hby at_98) rfl  k) ?_
    refine Goes.step (S' := T65.setTop (mkF m 102 #[.val (.int p0), .val (.int p1), .val (.int p2), .val (.int p3), .val (.ref b46), .val (.int v5_71), .val (.int v6_78), .val (.int v7_89), .val (.int v8_96)] [(.int v7_89), (.int v8_96)])) (fun _ k => XS.iload X65.here hx rfl (hb hby at_100) rfl  k) ?_
    refine Goes.step (S' := T65.setTop (mkF m 105 #[.val (.int p0), .val (.int p1), .val (.int p2), .val (.int p3), .val (.ref b46), .val (.int v5_71), .val (.int v6_78), .val (.int v7_89), .val (.int v8_96)] [])) (fun _ k => XS.icmpNo X65.here hx rfl (hb hby at_102) rfl (teq (own_hc0_102_4 p0 p1 p2 p3 evs_5 v5_71 ev5_71 v6_78 ev6_78 v7_89 ev7_89 v8_96 ev8_96)).2 k) ?_
    refine Goes.step (S' := T65.setTop (mkF m 106 #[.val (.int p0), .val (.int p1), .val (.int p2), .val (.int p3), .val (.ref b46), .val (.int v5_71), .val (.int v6_78), .val (.int v7_89), .val (.int v8_96)] [(.int (1 : Int32))])) (fun _ k => XS.iconst X65.here hx rfl (hb hby at_105) k) ?_
    refine Goes.step (S' := T65.setTop (mkF m 110 #[.val (.int p0), .val (.int p1), .val (.int p2), .val (.int p3), .val (.ref b46), .val (.int v5_71), .val (.int v6_78), .val (.int v7_89), .val (.int v8_96)] [(.int (1 : Int32))])) (fun _ k => XS.goto X65.here hx rfl (pc0 := 106) (pc' := 110) rfl (hb hby at_106) (by decide) (by decide) k) ?_
    refine Goes.retN X65 hx Bd.notSynchronized (t := .boolean) Bd.returns (by simp) (hb hby at_110) (by decide) (by decide) ?_
    exact ⟨rfl, N66⟩
set_option maxRecDepth 65536 in
set_option maxHeartbeats 40000000 in
theorem comes_1 {Post : Tables → Env → Array Value → State → Outcome → State → Prop} (hpost : ∀ tb e args s v u, (limb_1_1.after args s (.returned v) u = true ∧ limb_1_2.after args s (.returned v) u = true ∧ True) → FrameEnd s (.returned v) u (Jvm.fieldLocs frame_1_writes args s ++ Jvm.arrayLocs frame_1_arrays args s ++ Jvm.staticLocs frame_1_statics s) 16 128 → Post tb e args s (.returned v) u) :
    ArmFor flags0 classFile x code maxLocals ret World_1 tables_1 room_1 Calls_1 rest_1 Pre_1 Post := by
  intro l hfl _ _ p e ha hc hk s m args below hf hA hF happ hP
  obtain ⟨hcalls, hrest, hpre⟩ := hP
  obtain ⟨-, -, -, hnamed, -, -, -, hat⟩ := (Spec.applies_iff hf).mp happ
  obtain ⟨hg, hn⟩ := and_e (Cond.before_iff.mp (show (Jvm.Cond.and given_1 narrow_1).before args s = true from hpre))
  obtain ⟨gg1, gg2⟩ := and_e hg
  obtain ⟨gg3, gg4⟩ := and_e gg2
  obtain ⟨gg5, gg6⟩ := and_e gg4
  obtain ⟨gg7, gg8⟩ := and_e gg6
  obtain ⟨w0, w1, w2, w3, rfl⟩ : ∃ w0 w1 w2 w3 : Value, args = #[w0, w1, w2, w3] := by
    have hs : args.size = 4 := by simpa [Cond.value, given_1] using gg1
    obtain ⟨L⟩ := args
    match L, hs with
    | [w0, w1, w2, w3], _ => exact ⟨w0, w1, w2, w3, rfl⟩
  have hw := fun d (hd : d ∈ tables_1) => atoms_spec (ws := Jvm.Cond.code x code maxLocals ret :: tables_1) hat d (List.mem_cons_of_mem _ hd)
  obtain ⟨i0, ei0⟩ := is_v gg3
  obtain rfl : w0 = (.int i0) := Option.some.inj ei0
  obtain ⟨i1, ei1⟩ := is_v gg5
  obtain rfl : w1 = (.int i1) := Option.some.inj ei1
  obtain ⟨i2, ei2⟩ := is_v gg7
  obtain rfl : w2 = (.int i2) := Option.some.inj ei2
  obtain ⟨i3, ei3⟩ := is_v gg8
  obtain rfl : w3 = (.int i3) := Option.some.inj ei3
  obtain ⟨n, o, h1, h2, h3, _, L, rfl, ⟨rfl, N⟩, hq⟩ := rm0 l s _ hw tables_1 i0 i1 i2 i3 s.heap s.heap.size (Nat.le_refl _) p e ha hc hk s m _ below hf ((Spec.applies_iff_loose hf).mp happ).1 ⟨rfl, State.Warmed39.refl s, rfl⟩ trivial
  refine ⟨n, _, h1, h2, h3, hpost _ _ _ _ _ _ ⟨Cond.after_iff.mpr rfl, Cond.after_iff.mpr (eq_i res_at (Term.int_eval (1)) rfl), trivial⟩ ⟨hq.1, hq.2.1, (hq.2.2.sift fun y hy => Or.inr (N y hy)).mono (by decide) (by decide)⟩⟩
theorem main_1_1 : Claimed_1_1 := comes_1 fun _ _ _ _ _ _ h hF => ⟨h.1, hF⟩
theorem main_1_2 : Claimed_1_2 := comes_1 fun _ _ _ _ _ _ h hF => ⟨h.2.1, hF⟩
end Jvm.Pilot.@@N@@
namespace Jvm.Pilot.@@N@@
open Jvm Jvm.ClassFile Sem Op Lib Jvm.Free Jvm.Stand Jvm.Pilot.@@N@@.Jvm.D
/-! MADE BY PROGRAM (witnessworld.py) out of the Statement's table words and the real class files: 9 classes; the members and pool entries that the words name. The judged class is class 1, her method 1. -/
namespace start1
open Jvm.ClassFile
def u (s : String) : CpInfo := .utf8 (stringToUtf16 s)
/-- a pool by its gaps: so many unusable entries, then the entry; so many at the end -/
def gap : Nat → List CpInfo → List CpInfo
  | 0, r => r
  | n + 1, r => .unusable :: gap n r
def poolList (es : List (Nat × CpInfo)) (last : Nat) : List CpInfo := es.foldr (fun e r => gap e.1 (e.2 :: r)) (gap last [])
def pool (es : List (Nat × CpInfo)) (last : Nat) : Array CpInfo := ⟨poolList es last⟩
def fileOf (pool : Array CpInfo) (this : Nat) (attrs : Array Attribute := #[]) (ms : Array MethodInfo := #[]) (fl : Nat := 33) (sup : Nat := 0) (ifs : Array Nat := #[]) (fds : Array FieldInfo := #[]) : ClassFile where
  minorVersion := 0
  majorVersion := 65
  constantPool := pool
  accessFlags := fl
  thisClass := this
  superClass := sup
  interfaces := ifs
  fields := fds
  methods := ms
  attributes := attrs
def plain (name : String) (sup : Option ClassId) : Class where
  name := name
  kind := .ordinary
  loader := none
  accessFlags := 33
  super := sup
  interfaces := #[]
  cf := none
  fields := #[]
  methods := #[]
  instanceTypes := #[]
  staticTypes := #[]
  resolved := #[]
  callSites := []
  init := .initialized
  statics := none
  mirror := none

def pool0 : Array CpInfo := pool [(5, u "<init>"), (0, u "()V"), (1, .class_ 10), (1, u "java/lang/Object")] 113

def k0m0 : Method := { name := "<init>", desc := "()V", sig := { parameters := [], returnType := none }, accessFlags := 1, code := none }
/-- java/lang/Object -/
def k0 : Class := { plain "java/lang/Object" none with
  accessFlags := 33
  interfaces := #[]
  cf := some (fileOf pool0 8 #[] #[{ accessFlags := 1, nameIndex := 5, descriptorIndex := 6, attributes := #[] }] 33 0 #[] #[])
  fields := #[]
  methods := #[k0m0]
  instanceTypes := #[]
  staticTypes := #[]
  resolved := Array.replicate 124 none
  statics := none }

def pool1 : Array CpInfo := pool [(2, .class_ 4), (1, u "java/lang/Object"), (0, u "<init>"), (0, u "()V"), (0, .methodref 8 9), (0, .class_ 10), (0, .nameAndType 11 12), (0, u "com/example/pickrelay/pickrelay/mqtt/MqttPackets"), (0, u "packetId"), (0, u "([B)I"), (0, .class_ 14), (0, u "com/example/pickrelay/pickrelay/mqtt/MqttPacketsPacketIdPinLaw"), (2, u "law"), (0, u "(IIII)Z")] 8

def k1m0 : Method := { name := "<init>", desc := "()V", sig := { parameters := [], returnType := none }, accessFlags := 2, code := none }
def k1c1 : Code := { maxStack := 4, maxLocals := 9, code := code, exceptionTable := #[], attributes := #[] }
def k1m1 : Method := { name := "law", desc := "(IIII)Z", sig := { parameters := [.int, .int, .int, .int], returnType := some .boolean }, accessFlags := 9, code := some k1c1 }
/-- com/example/pickrelay/pickrelay/mqtt/MqttPacketsPacketIdPinLaw -/
def k1 : Class := { plain "com/example/pickrelay/pickrelay/mqtt/MqttPacketsPacketIdPinLaw" (some 0) with
  accessFlags := 49
  interfaces := #[]
  cf := some (fileOf pool1 13 #[] #[{ accessFlags := 2, nameIndex := 5, descriptorIndex := 6, attributes := #[] }, { accessFlags := 9, nameIndex := 17, descriptorIndex := 18, attributes := #[] }] 49 2 #[] #[])
  fields := #[]
  methods := #[k1m0, k1m1]
  instanceTypes := #[]
  staticTypes := #[]
  resolved := Array.replicate 27 none
  statics := none }

def pool2 : Array CpInfo := pool [(2, .class_ 4), (1, u "java/lang/Object"), (0, u "<init>"), (0, u "()V"), (10, .class_ 19), (1, u "com/example/pickrelay/pickrelay/mqtt/MqttPackets"), (79, .class_ 100), (0, u "com/example/pickrelay/pickrelay/mqtt/MqttPackets$Header"), (41, .class_ 143), (0, u "com/example/pickrelay/pickrelay/mqtt/MqttPackets$Publish"), (68, u "CONNECT"), (0, u "I"), (2, u "CONNACK"), (1, u "PUBLISH"), (1, u "PUBACK"), (1, u "SUBSCRIBE"), (1, u "SUBACK"), (1, u "PINGREQ"), (1, u "PINGRESP"), (1, u "DISCONNECT"), (1, u "MAX_STRING"), (0, u "MAX_REMAINING"), (0, u "SUBSCRIPTION_REFUSED"), (1, u "LEVEL_3_1_1"), (0, u "RETAIN_FLAG"), (0, u "USER_NAME_FLAG"), (0, u "PASSWORD_FLAG"), (25, u "packetId"), (0, u "([B)I")] 41

def k2m0 : Method := { name := "<init>", desc := "()V", sig := { parameters := [], returnType := none }, accessFlags := 2, code := none }
def k2c1 : Code := { maxStack := 3, maxLocals := 1, code := prog_72_method_11_code, exceptionTable := #[], attributes := #[] }
def k2m1 : Method := { name := "packetId", desc := "([B)I", sig := { parameters := [(.array .byte)], returnType := some .int }, accessFlags := 8, code := some k2c1 }
/-- com/example/pickrelay/pickrelay/mqtt/MqttPackets -/
def k2 : Class := { plain "com/example/pickrelay/pickrelay/mqtt/MqttPackets" (some 0) with
  accessFlags := 49
  interfaces := #[]
  cf := some (fileOf pool2 17 #[.nestMembers #[142, 99]] #[{ accessFlags := 2, nameIndex := 5, descriptorIndex := 6, attributes := #[] }, { accessFlags := 8, nameIndex := 265, descriptorIndex := 266, attributes := #[] }] 49 2 #[] #[{ accessFlags := 24, nameIndex := 212, descriptorIndex := 213, attributes := #[] }, { accessFlags := 24, nameIndex := 216, descriptorIndex := 213, attributes := #[] }, { accessFlags := 24, nameIndex := 218, descriptorIndex := 213, attributes := #[] }, { accessFlags := 24, nameIndex := 220, descriptorIndex := 213, attributes := #[] }, { accessFlags := 24, nameIndex := 222, descriptorIndex := 213, attributes := #[] }, { accessFlags := 24, nameIndex := 224, descriptorIndex := 213, attributes := #[] }, { accessFlags := 24, nameIndex := 226, descriptorIndex := 213, attributes := #[] }, { accessFlags := 24, nameIndex := 228, descriptorIndex := 213, attributes := #[] }, { accessFlags := 24, nameIndex := 230, descriptorIndex := 213, attributes := #[] }, { accessFlags := 25, nameIndex := 232, descriptorIndex := 213, attributes := #[] }, { accessFlags := 26, nameIndex := 233, descriptorIndex := 213, attributes := #[] }, { accessFlags := 24, nameIndex := 234, descriptorIndex := 213, attributes := #[] }, { accessFlags := 26, nameIndex := 236, descriptorIndex := 213, attributes := #[] }, { accessFlags := 26, nameIndex := 237, descriptorIndex := 213, attributes := #[] }, { accessFlags := 26, nameIndex := 238, descriptorIndex := 213, attributes := #[] }, { accessFlags := 26, nameIndex := 239, descriptorIndex := 213, attributes := #[] }])
  fields := #[{ name := "CONNECT", type := .int, accessFlags := 24, slot := 0, constantValue := 0 }, { name := "CONNACK", type := .int, accessFlags := 24, slot := 1, constantValue := 0 }, { name := "PUBLISH", type := .int, accessFlags := 24, slot := 2, constantValue := 0 }, { name := "PUBACK", type := .int, accessFlags := 24, slot := 3, constantValue := 0 }, { name := "SUBSCRIBE", type := .int, accessFlags := 24, slot := 4, constantValue := 0 }, { name := "SUBACK", type := .int, accessFlags := 24, slot := 5, constantValue := 0 }, { name := "PINGREQ", type := .int, accessFlags := 24, slot := 6, constantValue := 0 }, { name := "PINGRESP", type := .int, accessFlags := 24, slot := 7, constantValue := 0 }, { name := "DISCONNECT", type := .int, accessFlags := 24, slot := 8, constantValue := 0 }, { name := "MAX_STRING", type := .int, accessFlags := 25, slot := 9, constantValue := 0 }, { name := "MAX_REMAINING", type := .int, accessFlags := 26, slot := 10, constantValue := 0 }, { name := "SUBSCRIPTION_REFUSED", type := .int, accessFlags := 24, slot := 11, constantValue := 0 }, { name := "LEVEL_3_1_1", type := .int, accessFlags := 26, slot := 12, constantValue := 0 }, { name := "RETAIN_FLAG", type := .int, accessFlags := 26, slot := 13, constantValue := 0 }, { name := "USER_NAME_FLAG", type := .int, accessFlags := 26, slot := 14, constantValue := 0 }, { name := "PASSWORD_FLAG", type := .int, accessFlags := 26, slot := 15, constantValue := 0 }]
  methods := #[k2m0, k2m1]
  instanceTypes := #[]
  staticTypes := #[.int, .int, .int, .int, .int, .int, .int, .int, .int, .int, .int, .int, .int, .int, .int, .int]
  resolved := Array.replicate 308 none
  statics := none }

def pool3 : Array CpInfo := pool [(1, u "java/lang/Cloneable"), (0, .class_ 1), (0, u "java/lang/Object"), (0, .class_ 3)] 3

/-- java/lang/Cloneable -/
def k3 : Class := { plain "java/lang/Cloneable" (some 0) with
  accessFlags := 1537
  interfaces := #[]
  cf := some (fileOf pool3 2 #[] #[] 1537 4 #[] #[])
  fields := #[]
  methods := #[]
  instanceTypes := #[]
  staticTypes := #[]
  resolved := Array.replicate 8 none
  statics := none }

def pool4 : Array CpInfo := pool [(1, u "java/io/Serializable"), (0, .class_ 1), (0, u "java/lang/Object"), (0, .class_ 3)] 3

/-- java/io/Serializable -/
def k4 : Class := { plain "java/io/Serializable" (some 0) with
  accessFlags := 1537
  interfaces := #[]
  cf := some (fileOf pool4 2 #[] #[] 1537 4 #[] #[])
  fields := #[]
  methods := #[]
  instanceTypes := #[]
  staticTypes := #[]
  resolved := Array.replicate 8 none
  statics := none }

/-- the primitive byte -/
def k5 : Class := { plain "byte" none with kind := .primitive 'B', accessFlags := 0x411 }
/-- [B -/
def k6 : Class := { plain "[B" (some 0) with kind := .array 5 .byte, interfaces := #[3, 4], accessFlags := 1041 }

/-- the primitive int -/
def k7 : Class := { plain "int" none with kind := .primitive 'I', accessFlags := 0x411 }
/-- [I -/
def k8 : Class := { plain "[I" (some 0) with kind := .array 7 .int, interfaces := #[3, 4], accessFlags := 1041 }

def heap : Heap := #[]
def classes : Array Class := #[k0, k1, k2, k3, k4, k5, k6, k7, k8]
def interned : List (Array UInt16 × Addr) := []
def slotsUsed : Nat := 0
def theMethod : MethodId := ⟨1, 1⟩
def args0 : Array Value := #[.int 5, .int 5, .int 5, .int 5]
def aboutOver (below : List Frame) : State where
  vm := { classes := classes, interned := interned.toArray }
  heap := heap
  slotsUsed := slotsUsed
  threads := #[{ frames := .invoking theMethod args0 :: below }]
def below0 : List Frame := [.native { method := ⟨0, 0⟩, args := #[] }]
def about1 : State := aboutOver below0
def p0 : Program := .bare "" "" ""
def e0 : Env := launch0.env 0 0 0
theorem w_frames : about1.frames = Frame.invoking theMethod args0 :: below0 := rfl
set_option maxRecDepth 65536 in
theorem w_args : argsFit about1.vm theMethod args0 = true := by decide +kernel
set_option maxRecDepth 65536 in
theorem w_heap : heapFits about1 = true := by decide +kernel
set_option maxRecDepth 65536 in
theorem w_runnable : about1.curStatus? = some .runnable := by decide +kernel
set_option maxRecDepth 65536 in
theorem w_alone : about1.alone = true := by decide +kernel
set_option maxRecDepth 65536 in
theorem w_named : about1.methodNamed? x = some theMethod := by decide +kernel
set_option maxRecDepth 65536 in
theorem w_hears : about1.hears theMethod below0 = true := by decide +kernel
set_option maxRecDepth 65536 in
theorem w_ripe : about1.ripe theMethod args0 below0 = true := by decide +kernel
theorem w_running : about1.status = .running := rfl
set_option maxRecDepth 65536 in
theorem w_room : about1.hasRoom e0.platform room_1 = true :=
  launch0.hasRoom_least _ room_1 (by decide +kernel) (by decide +kernel) (by decide +kernel) (by decide +kernel) (by decide +kernel) (by decide +kernel)
theorem allAtoms_all (ts : List Jvm.Cond) (a : Array Jvm.Value) (st : Jvm.State) : (allAtoms ts).before a st = ts.all (fun c => c.before a st) := by
  induction ts with
  | nil => rfl
  | cons c t ih =>
    show (Jvm.Cond.and c (allAtoms t)).before a st = _
    rw [Jvm.Cond.before_and, ih, List.all_cons]
def words1 : List Jvm.Cond := Jvm.Cond.code x code maxLocals ret :: tables_1
/-- a 'code' word, met by the world's own term for the bytes: nothing is compared byte by byte -/
theorem code_word {y : MethodName} {bytes : ByteArray} {mx : Nat} {rt : Option FieldType} {a : Array Value} {s : State} {m : MethodId} {meth : Method} {c : Code} (h1 : s.methodNamed? y = some m) (h2 : s.vm.method? m = some meth) (h3 : meth.code = some c) (h4 : c.code = bytes)
    (h5 : (c.maxLocals == mx && c.exceptionTable.isEmpty && decide (c.maxStack ≤ mostOperands) && decide (meth.sig.returnType = rt) && !meth.locks && decide (parseMethodDescriptor y.desc = some meth.sig)) = true) : (Jvm.Cond.code y bytes mx rt).before a s = true := by
  simp only [Bool.and_eq_true, beq_iff_eq, Bool.not_eq_true', decide_eq_true_eq] at h5
  obtain ⟨⟨⟨⟨⟨g1, g2⟩, g3⟩, g4⟩, g5⟩, g6⟩ := h5
  simp [Cond.before, Cond.holds, Cond.value, h1, h2, h3, h4, g1, g2, g3, g4, g5, g6]
def isCode : Jvm.Cond → Bool
  | .code _ _ _ _ => true
  | _ => false
theorem all_split {L : List Jvm.Cond} {P : Jvm.Cond → Bool} (h1 : L.all (fun c => isCode c || P c) = true) (h2 : ∀ c ∈ L.filter isCode, P c = true) : L.all P = true := by
  refine List.all_eq_true.mpr fun c hc => ?_
  have h := List.all_eq_true.mp h1 c hc
  rcases Bool.eq_false_or_eq_true (isCode c) with hi | hi
  · exact h2 c (List.mem_filter.mpr ⟨hc, hi⟩)
  · simpa [hi] using h
set_option maxRecDepth 65536 in
theorem w_c0 : (Jvm.Cond.code x code maxLocals ret).before args0 about1 = true := code_word (m := ⟨1, 1⟩) (meth := k1m1) (c := k1c1) (by decide +kernel) rfl rfl rfl (by decide +kernel)
set_option maxRecDepth 65536 in
theorem w_c1 : (Jvm.Cond.code ({ cls := "com/example/pickrelay/pickrelay/mqtt/MqttPackets", name := "packetId", desc := "([B)I" } : Jvm.MethodName) prog_72_method_11_code (1 : Nat) (Option.some Jvm.ClassFile.FieldType.int)).before args0 about1 = true := code_word (m := ⟨2, 1⟩) (meth := k2m1) (c := k2c1) (by decide +kernel) rfl rfl rfl (by decide +kernel)
def codes1 : List Jvm.Cond := [Jvm.Cond.code x code maxLocals ret, Jvm.Cond.code ({ cls := "com/example/pickrelay/pickrelay/mqtt/MqttPackets", name := "packetId", desc := "([B)I" } : Jvm.MethodName) prog_72_method_11_code (1 : Nat) (Option.some Jvm.ClassFile.FieldType.int)]
set_option maxRecDepth 65536 in
theorem codes_eq : words1.filter isCode = codes1 := rfl
theorem w_codes : ∀ c ∈ words1.filter isCode, c.before args0 about1 = true := by
  rw [codes_eq]
  intro c hc
  simp only [codes1, List.mem_cons, List.not_mem_nil, or_false] at hc
  rcases hc with rfl | rfl
  · exact w_c0
  · exact w_c1
set_option maxRecDepth 65536 in
theorem w_t1 : words1.all (fun c => isCode c || c.before args0 about1) = true := by decide +kernel
theorem w_tables : (allAtoms (Jvm.Cond.code x code maxLocals ret :: tables_1)).before args0 about1 = true := by
  rw [allAtoms_all]
  show words1.all (fun c => c.before args0 about1) = true
  refine all_split ?_ w_codes
  rw [w_t1]
set_option maxRecDepth 65536 in
theorem w_case : (Jvm.Cond.and given_1 narrow_1).before args0 about1 = true := by decide +kernel
theorem w_applies : (headSpec (Jvm.Cond.code x code maxLocals ret :: tables_1) room_1).applies x e0.platform about1 = true :=
  (Spec.applies_iff w_frames).mpr ⟨w_running, w_runnable, w_alone, w_named, w_hears, w_ripe, w_room, w_tables⟩
theorem atStart : AtStart classFile x code maxLocals ret World_1 tables_1 room_1 Calls_1 rest_1 Pre_1 launch0 p0 e0 about1 theMethod args0 below0 :=
  ⟨lists_1, trivial, launch0.admits_env _ _ _, launch0.least_env, fairChoices_fair.cas, fairChoices_fair.clock, w_frames, w_args, w_heap, w_applies, trivial, trivial, w_case⟩
end start1
theorem witness_1 : WitnessClaimed_1 := ⟨start1.p0, start1.e0, start1.about1, start1.theMethod, start1.args0, start1.below0, start1.atStart⟩
end Jvm.Pilot.@@N@@
