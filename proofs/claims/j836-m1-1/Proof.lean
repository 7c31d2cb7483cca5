import JvmDerived
import JvmDerived.Pilot.@@N@@Statement
import JvmDerived.Pilot.@@N@@Code
set_option linter.unusedVariables false
set_option linter.unusedSimpArgs false
namespace Jvm.RoadKit
open Sem ClassFile Op Lib Jvm.Stand Jvm.Free Jvm.LawKit
section New
variable {p : Program} {l : Launch} {e : Env} {R : Room} {s : State} {m : MethodId} {args : Array Value} {below : List Frame} {meth : Method} {c : Code} {T : State} {locs : List Loc} {cells slots : Nat}
theorem retI (X : Stand p l e R s m args below meth c T locs cells slots) (hx : p.tables.exec = Jvm.exec) {pc : Nat} {Ls : Array Slot} {z : Int32} {rest : List Value} (hret : meth.sig.returnType = some .int) (hd : decode c.code pc = .ok (.ireturn, 1)) {fs : List Frame}
    (hl : ∀ (f : JFrame) (acts : List Action), f.method = m → f.locked = none → f.entered = [] → (doReturn e (T.setTop f) acts (some (.int z))).1 = T.setFrames fs) : Steps p.tables e below (T.setTop (mkF m pc Ls (.int z :: rest))) (T.setFrames fs) := by
  have hm' : T.vm.method? m = some meth := X.method'
  have hn : narrow .int (.int z) = .int z := rfl
  show Steps p.tables e below (T.setTop { method := m, pc := pc, locals := Ls, stack := _ :: rest, locked := none }) _
  jvm_step X.here [X.here.top, hx, hd, hm', hret, hn]
  first | (intro acts; rw [hl _ acts rfl rfl rfl]) | rw [hl _ _ rfl rfl rfl]
  exact Steps.refl _
end New
end Jvm.RoadKit
namespace Jvm.Pilot.@@N@@
open Jvm Jvm.ClassFile Sem Op Lib Jvm.Free Jvm.Stand Jvm.LawKit Jvm.RoadKit Bundle Jvm.Pilot.@@N@@.Jvm.D
/-! MY OWN LAYER, 1: a walk in forward style -/
/-- from the state S the run ends, and Q holds of the end -/
def Goes (tb : Tables) (e : Env) (below : List Frame) (Q : Outcome → State → Prop) (S : State) : Prop :=
  ∃ s₂ o, Steps tb e below S s₂ ∧ s₂.status = .running ∧ Ended s₂ below o ∧ Q o s₂
theorem Goes.out {tb : Tables} {e : Env} {below : List Frame} {Q : Outcome → State → Prop} {S : State} (h : Goes tb e below Q S) :
    ∃ s₂ o, Steps tb e below S s₂ ∧ s₂.status = .running ∧ Ended s₂ below o ∧ Q o s₂ := h
theorem Goes.step {tb : Tables} {e : Env} {below : List Frame} {Q : Outcome → State → Prop} {S S' : State}
    (h : ∀ t, Steps tb e below S' t → Steps tb e below S t) (k : Goes tb e below Q S') : Goes tb e below Q S := by
  obtain ⟨s₂, o, h1, h2⟩ := k
  exact ⟨s₂, o, h _ h1, h2⟩
section Ites
variable {tb : Tables} {e : Env} {below : List Frame} {T S : State} {c : Prop} [Decidable c]
theorem own_ite0 {F : JFrame} (hy : c → ∀ t, Steps tb e below (T.setTop F) t → Steps tb e below S t) (hn : ¬ c → ∀ t, Steps tb e below (T.setTop F) t → Steps tb e below S t) :
    ∀ t, Steps tb e below (T.setTop F) t → Steps tb e below S t := fun t k => by
  by_cases h : c
  · exact hy h t k
  · exact hn h t k
theorem own_ite1 {A0 : Type} {a0 b0 : A0} {F : A0 → JFrame} (hy : c → ∀ t, Steps tb e below (T.setTop (F a0)) t → Steps tb e below S t) (hn : ¬ c → ∀ t, Steps tb e below (T.setTop (F b0)) t → Steps tb e below S t) :
    ∀ t, Steps tb e below (T.setTop (F (if c then a0 else b0))) t → Steps tb e below S t := fun t k => by
  by_cases h : c
  · rw [if_pos h] at k; exact hy h t k
  · rw [if_neg h] at k; exact hn h t k
theorem own_ite2 {A0 A1 : Type} {a0 b0 : A0} {a1 b1 : A1} {F : A0 → A1 → JFrame} (hy : c → ∀ t, Steps tb e below (T.setTop (F a0 a1)) t → Steps tb e below S t) (hn : ¬ c → ∀ t, Steps tb e below (T.setTop (F b0 b1)) t → Steps tb e below S t) :
    ∀ t, Steps tb e below (T.setTop (F (if c then a0 else b0) (if c then a1 else b1))) t → Steps tb e below S t := fun t k => by
  by_cases h : c
  · rw [if_pos h, if_pos h] at k; exact hy h t k
  · rw [if_neg h, if_neg h] at k; exact hn h t k
theorem own_ite3 {A0 A1 A2 : Type} {a0 b0 : A0} {a1 b1 : A1} {a2 b2 : A2} {F : A0 → A1 → A2 → JFrame} (hy : c → ∀ t, Steps tb e below (T.setTop (F a0 a1 a2)) t → Steps tb e below S t) (hn : ¬ c → ∀ t, Steps tb e below (T.setTop (F b0 b1 b2)) t → Steps tb e below S t) :
    ∀ t, Steps tb e below (T.setTop (F (if c then a0 else b0) (if c then a1 else b1) (if c then a2 else b2))) t → Steps tb e below S t := fun t k => by
  by_cases h : c
  · rw [if_pos h, if_pos h, if_pos h] at k; exact hy h t k
  · rw [if_neg h, if_neg h, if_neg h] at k; exact hn h t k
end Ites
section Rets
variable {p : Program} {l : Launch} {e : Env} {R : Room} {s : State} {m : MethodId} {args : Array Value} {below : List Frame} {meth : Method} {c : Code} {T : State} {locs : List Loc} {cells slots : Nat}
variable {QQ : Option Value → Heap → List Loc → Prop} {C0 S0 : Nat} {pc : Nat} {Ls : Array Slot} {rest : List Value}
theorem Goes.retN (X : Stand p l e R s m args below meth c T locs cells slots) (hx : p.tables.exec = Jvm.exec) (hlk : meth.locks = false) {t : FieldType} {z : Int32} (hret : meth.sig.returnType = some t) (ht : t = .boolean ∨ t = .byte ∨ t = .char ∨ t = .short)
    (hd : decode c.code pc = .ok (.ireturn, 1)) (hC : cells ≤ C0) (hS : slots ≤ S0) (hQ : QQ (some (.int (nar t z))) T.heap locs) :
    Goes p.tables e below (fun o U' => ∃ v L, o = .returned v ∧ QQ v U'.heap L ∧ FrameEnd s o U' L C0 S0) (T.setTop (mkF m pc Ls (.int z :: rest))) := by
  obtain ⟨fs, hr, hrun, hended, hW, hsame⟩ := X.leave (v := some (.int (nar t z))) (fun h => by rw [hret] at h; cases h) hlk
  exact ⟨_, _, Jvm.RoadKit.retN X hx hret ht hd hr, hrun, hended, _, _, rfl, hQ, ⟨_, rfl⟩, hW, hsame.mono hC hS⟩
theorem Goes.retI (X : Stand p l e R s m args below meth c T locs cells slots) (hx : p.tables.exec = Jvm.exec) (hlk : meth.locks = false) {z : Int32} (hret : meth.sig.returnType = some .int)
    (hd : decode c.code pc = .ok (.ireturn, 1)) (hC : cells ≤ C0) (hS : slots ≤ S0) (hQ : QQ (some (.int z)) T.heap locs) :
    Goes p.tables e below (fun o U' => ∃ v L, o = .returned v ∧ QQ v U'.heap L ∧ FrameEnd s o U' L C0 S0) (T.setTop (mkF m pc Ls (.int z :: rest))) := by
  obtain ⟨fs, hr, hrun, hended, hW, hsame⟩ := X.leave (v := some (.int z)) (fun h => by rw [hret] at h; cases h) hlk
  exact ⟨_, _, Jvm.RoadKit.retI X hx hret hd hr, hrun, hended, _, _, rfl, hQ, ⟨_, rfl⟩, hW, hsame.mono hC hS⟩
theorem Goes.retJ (X : Stand p l e R s m args below meth c T locs cells slots) (hx : p.tables.exec = Jvm.exec) (hlk : meth.locks = false) {z : Int64} (hret : meth.sig.returnType = some .long)
    (hd : decode c.code pc = .ok (.lreturn, 1)) (hC : cells ≤ C0) (hS : slots ≤ S0) (hQ : QQ (some (.long z)) T.heap locs) :
    Goes p.tables e below (fun o U' => ∃ v L, o = .returned v ∧ QQ v U'.heap L ∧ FrameEnd s o U' L C0 S0) (T.setTop (mkF m pc Ls (.long z :: rest))) := by
  obtain ⟨fs, hr, hrun, hended, hW, hsame⟩ := X.leave (v := some (.long z)) (fun h => by rw [hret] at h; cases h) hlk
  refine ⟨_, _, ?_, hrun, hended, _, _, rfl, hQ, ⟨_, rfl⟩, hW, hsame.mono hC hS⟩
  jvm_step X.here [X.here.top, hx, hd, X.method', hret, narrow]
  first | (intro acts; rw [hr _ acts rfl rfl rfl]) | rw [hr _ _ rfl rfl rfl]
  exact Steps.refl _
theorem Goes.retA (X : Stand p l e R s m args below meth c T locs cells slots) (hx : p.tables.exec = Jvm.exec) (hlk : meth.locks = false) {a : Addr} {t : FieldType} (hret : meth.sig.returnType = some t) (ht : t.isReference = true)
    (hd : decode c.code pc = .ok (.areturn, 1)) (hC : cells ≤ C0) (hS : slots ≤ S0) (hQ : QQ (some (.ref a)) T.heap locs) :
    Goes p.tables e below (fun o U' => ∃ v L, o = .returned v ∧ QQ v U'.heap L ∧ FrameEnd s o U' L C0 S0) (T.setTop (mkF m pc Ls (.ref a :: rest))) := by
  obtain ⟨fs, hr, hrun, hended, hW, hsame⟩ := X.leave (v := some (.ref a)) (fun h => by rw [hret] at h; cases h) hlk
  refine ⟨_, _, ?_, hrun, hended, _, _, rfl, hQ, ⟨_, rfl⟩, hW, hsame.mono hC hS⟩
  jvm_step X.here [X.here.top, hx, hd, X.method', hret, Value.isRef, ht]
  first | (intro acts; rw [hr _ acts rfl rfl rfl]) | rw [hr _ _ rfl rfl rfl]
  exact Steps.refl _
theorem Goes.retV (X : Stand p l e R s m args below meth c T locs cells slots) (hx : p.tables.exec = Jvm.exec) (hlk : meth.locks = false) (hret : meth.sig.returnType = none)
    (hd : decode c.code pc = .ok (.return_, 1)) (hC : cells ≤ C0) (hS : slots ≤ S0) (hQ : QQ none T.heap locs) :
    Goes p.tables e below (fun o U' => ∃ v L, o = .returned v ∧ QQ v U'.heap L ∧ FrameEnd s o U' L C0 S0) (T.setTop (mkF m pc Ls [])) := by
  obtain ⟨fs, hr, hrun, hended, hW, hsame⟩ := X.leave (v := none) (fun _ => rfl) hlk
  exact ⟨_, _, X.returnOut hx hret hd hr, hrun, hended, _, _, rfl, hQ, ⟨_, rfl⟩, hW, hsame.mono hC hS⟩
theorem own_lrem {g : JFrame} {target : State} (X : Stand p l e R s m args below meth c T locs cells slots) (hx : p.tables.exec = Jvm.exec) (hg : g.method = m) {x y : Int64} {rest : List Value} (hd : decode c.code g.pc = .ok (.lrem, 1)) (hs : g.stack = .long y :: .long x :: rest) (hy : y ≠ 0)
    (hr : Steps p.tables e below (T.setTop { g with pc := g.pc + 1, stack := .long (x % y) :: rest }) target) : Steps p.tables e below (T.setTop g) target :=
  XS.lrem X.here hx hg hd hs hy (by rw [lrem_mod]; exact hr)
end Rets
/-! MY OWN LAYER, 2: an array of ints (bytes, chars ..) by the list of its values, whole -/
def AI (Z : State) (h : Heap) (a : Addr) (k : ClassId) (ty : FieldType) (n : Int32) (vs : List Int32) : Prop :=
  Arv Z h a k ty n (vs.map Value.int) (.int 0) ∧ vs.length = n.toNatClampNeg
section Arrays
variable {p : Program} {l : Launch} {e : Env} {R : Room} {s : State} {m : MethodId} {args : Array Value} {below : List Frame} {meth : Method} {c : Code} {T : State} {locs : List Loc} {cells slots : Nat}
variable {Z : State} {h h' : Heap} {a b : Addr} {k : ClassId} {ty : FieldType} {n : Int32} {vs : List Int32} {sl : Nat} {v : Value} {ws : List Addr}
theorem AI.lt (F : AI Z h a k ty n vs) : a < h.size := F.1.lt
theorem AI.nn (F : AI Z h a k ty n vs) : ¬ n < 0 := by obtain ⟨⟨c, -, -, -, q, -⟩, -⟩ := F; exact q
theorem AI.ext (F : AI Z h a k ty n vs) (E : Ext h h') : AI Z h' a k ty n vs := ⟨F.1.ext E, F.2⟩
theorem AI.other (F : AI Z h b k ty n vs) (W : Wr h h' a sl v) (q : b ≠ a) : AI Z h' b k ty n vs := ⟨F.1.other W q, F.2⟩
theorem AI.keep (F : AI Z h a k ty n vs) (K : Keep h h' ws) (q : a ∉ ws) : AI Z h' a k ty n vs := ⟨F.1.keep K q, F.2⟩
theorem own_getD (vs : List Int32) (i : Nat) : (vs.map Value.int).getD i (.int 0) = .int (vs.getD i 0) := by
  simp only [List.getD_eq_getElem?_getD, List.getElem?_map]
  cases vs[i]? <;> rfl
theorem own_new {q : Int32} (A : Arr Z h a (newA k ty q) ty) (hq : ¬ q < 0) (hd : defaultValue ty = .int 0) {vs : List Int32} (hv : vs = List.replicate q.toNatClampNeg 0 := by rfl) : AI Z h a k ty q vs := by
  subst hv
  have V := Arv.new A hq
  rw [hd] at V
  refine ⟨?_, by simp⟩
  have q1 := V.pad (pad_rep [] (.int 0) q.toNatClampNeg)
  rw [List.nil_append] at q1
  rw [List.map_replicate]; exact q1
theorem own_inb {cl : Cell} {j : Int32} (S : cl.slots.size = n.toNatClampNeg) (q : ¬ j < 0 ∧ j < n) : ¬ (j < 0 ∨ cl.slots.size ≤ j.toNatClampNeg) := inb_of S q
theorem own_jlt {j : Int32} (q : ¬ j < 0 ∧ j < n) : j.toNatClampNeg < n.toNatClampNeg := by
  obtain ⟨q1, q2⟩ := q
  rw [Int32.lt_iff_toInt_lt] at q1 q2
  have e0 : (0 : Int32).toInt = 0 := rfl
  simp only [Int32.toNatClampNeg] at *; omega
theorem own_iaload {pc : Nat} {Ls : Array Slot} {rest : List Value} {j : Int32} (X : Stand p l e R s m args below meth c T locs cells slots) (hx : p.tables.exec = Jvm.exec) (hZ : Z.Warmed39 s.vm) (eT : T.heap = h) (F : AI Z h a k .int n vs) (hj : ¬ j < 0 ∧ j < n)
    (hd : decode c.code pc = .ok (.iaload, 1)) (t : State) (kk : Steps p.tables e below (T.setTop (mkF m (pc + 1) Ls (.int (vs.getD j.toNatClampNeg 0) :: rest))) t) : Steps p.tables e below (T.setTop (mkF m pc Ls (.int j :: .ref a :: rest))) t := by
  obtain ⟨⟨cl, A, -, S, -, H, -⟩, hl⟩ := F
  have hin := own_inb S hj
  exact X.iaload hx (j := j) (v := .int (vs.getD j.toNatClampNeg 0)) (by rw [eT]; exact A.1) (State.isArrayOf_alike hZ.alike A.2.1) A.2.2 hin (H.at hin (own_getD _ _)) (g := mkF m pc Ls (.int j :: .ref a :: rest)) rfl rfl hd _ kk
theorem own_baload {pc : Nat} {Ls : Array Slot} {rest : List Value} {j : Int32} (X : Stand p l e R s m args below meth c T locs cells slots) (hx : p.tables.exec = Jvm.exec) (hZ : Z.Warmed39 s.vm) (eT : T.heap = h) (F : AI Z h a k .byte n vs) (hj : ¬ j < 0 ∧ j < n)
    (hd : decode c.code pc = .ok (.baload, 1)) (t : State) (kk : Steps p.tables e below (T.setTop (mkF m (pc + 1) Ls (.int (vs.getD j.toNatClampNeg 0) :: rest))) t) : Steps p.tables e below (T.setTop (mkF m pc Ls (.int j :: .ref a :: rest))) t := by
  obtain ⟨⟨cl, A, -, S, -, H, -⟩, hl⟩ := F
  have hin := own_inb S hj
  exact X.baloadBytes hx (j := j) (v := .int (vs.getD j.toNatClampNeg 0)) (by rw [eT]; exact A.1) (State.isArrayOf_alike hZ.alike A.2.1) A.2.2 hin (H.at hin (own_getD _ _)) (g := mkF m pc Ls (.int j :: .ref a :: rest)) rfl rfl hd _ kk
theorem own_len {pc : Nat} {Ls : Array Slot} {rest : List Value} (X : Stand p l e R s m args below meth c T locs cells slots) (hx : p.tables.exec = Jvm.exec) (hZ : Z.Warmed39 s.vm) (eT : T.heap = h) (F : AI Z h a k ty n vs)
    (hd : decode c.code pc = .ok (.arraylength, 1)) (t : State) (kk : Steps p.tables e below (T.setTop (mkF m (pc + 1) Ls (.int n :: rest))) t) : Steps p.tables e below (T.setTop (mkF m pc Ls (.ref a :: rest))) t := by
  obtain ⟨⟨cl, A, -, S, N, H, -⟩, hl⟩ := F
  refine X.arraylength hx (by rw [eT]; exact A.1) (State.isArrayOf_alike hZ.alike A.2.1) (g := mkF m pc Ls (.ref a :: rest)) rfl rfl hd _ ?_
  rw [len_of S N]; exact kk
theorem own_iastore {j x : Int32} (X : Stand p l e R s m args below meth c T locs cells slots) (hx : p.tables.exec = Jvm.exec) (hZ : Z.Warmed39 s.vm) (eT : T.heap = h) (F : AI Z h a k .int n vs) (hj : ¬ j < 0 ∧ j < n) {g : JFrame} (hg : g.method = m) {rest : List Value} (hs : g.stack = .int x :: .int j :: .ref a :: rest) (hd : decode c.code g.pc = .ok (.iastore, 1)) :
    ∃ T' h', Stand p l e R s m args below meth c T' (locs ++ [⟨a, j.toNatClampNeg⟩]) cells slots ∧ T'.heap = h' ∧ Wr h h' a j.toNatClampNeg (.int x) ∧ AI Z h' a k .int n (vs.set j.toNatClampNeg x) ∧ ∀ target, Steps p.tables e below (T'.setTop { g with pc := g.pc + 1, stack := rest }) target → Steps p.tables e below (T.setTop g) target := by
  obtain ⟨⟨cl, A, q1, S, N, H, G⟩, hl⟩ := F
  obtain ⟨T', h', X', e', W, st⟩ := stI X hx hZ eT A (own_inb S hj) hg hs hd
  refine ⟨T', h', X', e', W, ⟨?_, by simpa using hl⟩, st⟩
  rw [List.map_set]
  exact Arv.set A q1 S N H G rfl W _ rfl (by rw [List.length_map, hl]; exact own_jlt hj)
theorem own_bastore {j x : Int32} (X : Stand p l e R s m args below meth c T locs cells slots) (hx : p.tables.exec = Jvm.exec) (hZ : Z.Warmed39 s.vm) (eT : T.heap = h) (F : AI Z h a k .byte n vs) (hj : ¬ j < 0 ∧ j < n) {g : JFrame} (hg : g.method = m) {rest : List Value} (hs : g.stack = .int x :: .int j :: .ref a :: rest) (hd : decode c.code g.pc = .ok (.bastore, 1)) :
    ∃ T' h', Stand p l e R s m args below meth c T' (locs ++ [⟨a, j.toNatClampNeg⟩]) cells slots ∧ T'.heap = h' ∧ Wr h h' a j.toNatClampNeg (.int (nar .byte x)) ∧ AI Z h' a k .byte n (vs.set j.toNatClampNeg (nar .byte x)) ∧ ∀ target, Steps p.tables e below (T'.setTop { g with pc := g.pc + 1, stack := rest }) target → Steps p.tables e below (T.setTop g) target := by
  obtain ⟨⟨cl, A, q1, S, N, H, G⟩, hl⟩ := F
  obtain ⟨T', h', X', e', W, st⟩ := stB X hx hZ eT A (own_inb S hj) hg hs hd
  refine ⟨T', h', X', e', W, ⟨?_, by simpa using hl⟩, st⟩
  rw [List.map_set]
  exact Arv.set A q1 S N H G (fits_nar_byte _) W _ rfl (by rw [List.length_map, hl]; exact own_jlt hj)
end Arrays
/-! MY OWN LAYER, 3: numbers -/
theorem own_b255 (x : Int32) : (nar .byte (x.toInt8.toInt32)) &&& 255 = x &&& 255 := by
  have a := c_i2b x
  have b := c_i2b x.toInt8.toInt32
  have m1 : ((x.toInt8.toInt32.toInt8.toInt32) &&& 255).toInt = (x.toInt8.toInt32.toInt8.toInt32).toInt % 256 := c_mask _ 255 8 (by decide) (by decide)
  have m2 : (x &&& 255).toInt = x.toInt % 256 := c_mask _ 255 8 (by decide) (by decide)
  apply Int32.toInt_inj.mp
  show ((x.toInt8.toInt32.toInt8.toInt32) &&& 255).toInt = _
  omega
theorem own_m255 (x : Int32) : (x &&& 255).toInt = x.toInt % 256 := c_mask _ 255 8 (by decide) (by decide)
theorem own_or8 (a b : Int32) (h1 : 0 ≤ a.toInt) (h2 : a.toInt < 256) (h3 : 0 ≤ b.toInt) (h4 : b.toInt < 256) : ((a <<< ((8 : Int32) &&& 31)) ||| b).toInt = a.toInt * 256 + b.toInt := by
  have s : ((a <<< ((8 : Int32) &&& 31)).toInt - a.toInt * 256) % 4294967296 = 0 := c_ishl a 8 8 (by decide)
  have r := rng32 (a <<< ((8 : Int32) &&& 31))
  have e : (a <<< ((8 : Int32) &&& 31)).toInt = a.toInt * 256 := by omega
  have o := c_or (a <<< ((8 : Int32) &&& 31)) b 8 (by decide) 256 (by decide) (by omega) h3 h4
  have r2 := rng32 ((a <<< ((8 : Int32) &&& 31)) ||| b)
  omega
theorem own_nar0 : nar .boolean 0 = 0 := by decide
theorem own_nar1 : nar .boolean 1 = 1 := by decide
theorem d1_0 : decode prog_3_method_2_code 0 = .ok (.aload_n 0, 1) := by decide +kernel
theorem d1_1 : decode prog_3_method_2_code 1 = .ok (.iconst 0, 1) := by decide +kernel
theorem d1_2 : decode prog_3_method_2_code 2 = .ok (.ldc 7, 2) := by decide +kernel
theorem d1_4 : decode prog_3_method_2_code 4 = .ok (.iastore, 1) := by decide +kernel
theorem d1_5 : decode prog_3_method_2_code 5 = .ok (.aload_n 0, 1) := by decide +kernel
theorem d1_6 : decode prog_3_method_2_code 6 = .ok (.iconst 1, 1) := by decide +kernel
theorem d1_7 : decode prog_3_method_2_code 7 = .ok (.ldc 8, 2) := by decide +kernel
theorem d1_9 : decode prog_3_method_2_code 9 = .ok (.iastore, 1) := by decide +kernel
theorem d1_10 : decode prog_3_method_2_code 10 = .ok (.aload_n 0, 1) := by decide +kernel
theorem d1_11 : decode prog_3_method_2_code 11 = .ok (.iconst 2, 1) := by decide +kernel
theorem d1_12 : decode prog_3_method_2_code 12 = .ok (.ldc 9, 2) := by decide +kernel
theorem d1_14 : decode prog_3_method_2_code 14 = .ok (.iastore, 1) := by decide +kernel
theorem d1_15 : decode prog_3_method_2_code 15 = .ok (.aload_n 0, 1) := by decide +kernel
theorem d1_16 : decode prog_3_method_2_code 16 = .ok (.iconst 3, 1) := by decide +kernel
theorem d1_17 : decode prog_3_method_2_code 17 = .ok (.ldc 10, 2) := by decide +kernel
theorem d1_19 : decode prog_3_method_2_code 19 = .ok (.iastore, 1) := by decide +kernel
theorem d1_20 : decode prog_3_method_2_code 20 = .ok (.aload_n 0, 1) := by decide +kernel
theorem d1_21 : decode prog_3_method_2_code 21 = .ok (.iconst 4, 1) := by decide +kernel
theorem d1_22 : decode prog_3_method_2_code 22 = .ok (.ldc 11, 2) := by decide +kernel
theorem d1_24 : decode prog_3_method_2_code 24 = .ok (.iastore, 1) := by decide +kernel
theorem d1_25 : decode prog_3_method_2_code 25 = .ok (.return_, 1) := by decide +kernel
theorem pn0 : plainName "fivewords/Sha1Block" = true := by first | (simp [plainName, overriddenIn]; done) | decide +kernel
theorem ef1 (m : MethodId) (u0 : Addr) : entryFrame m #[(.ref u0)] 1 = mkF m 0 #[.val (.ref u0)] [] := by first | (simp [entryFrame, mkF, argsToLocals, Value.category]; done) | rfl
def g1_u0 (n_u0 : Int32) (vs_u0 : List Int32) : List Int32 := (((((vs_u0.set ((0 : Int32)).toNatClampNeg (1732584193 : Int32)).set ((1 : Int32)).toNatClampNeg (-271733879 : Int32)).set ((2 : Int32)).toNatClampNeg (-1732584194 : Int32)).set ((3 : Int32)).toNatClampNeg (271733878 : Int32)).set ((4 : Int32)).toNatClampNeg (-1009589776 : Int32))
theorem own_ix1_4 (n_u0 : Int32) (vs_u0 : List Int32) (hl_u0 : vs_u0.length = n_u0.toNatClampNeg) (hn_u0 : ¬ n_u0 < 0) (hB : (4 : Int32) < n_u0) : ¬ (0 : Int32) < 0 ∧ (0 : Int32) < n_u0 := by
  refine ⟨by decide, ?_⟩
  simp only [Int32.lt_iff_toInt_lt, Int32.reduceToInt] at hB ⊢
  omega
theorem own_ix1_9 (n_u0 : Int32) (vs_u0 : List Int32) (hl_u0 : vs_u0.length = n_u0.toNatClampNeg) (hn_u0 : ¬ n_u0 < 0) (hB : (4 : Int32) < n_u0) : ¬ (1 : Int32) < 0 ∧ (1 : Int32) < n_u0 := by
  refine ⟨by decide, ?_⟩
  simp only [Int32.lt_iff_toInt_lt, Int32.reduceToInt] at hB ⊢
  omega
theorem own_ix1_14 (n_u0 : Int32) (vs_u0 : List Int32) (hl_u0 : vs_u0.length = n_u0.toNatClampNeg) (hn_u0 : ¬ n_u0 < 0) (hB : (4 : Int32) < n_u0) : ¬ (2 : Int32) < 0 ∧ (2 : Int32) < n_u0 := by
  refine ⟨by decide, ?_⟩
  simp only [Int32.lt_iff_toInt_lt, Int32.reduceToInt] at hB ⊢
  omega
theorem own_ix1_19 (n_u0 : Int32) (vs_u0 : List Int32) (hl_u0 : vs_u0.length = n_u0.toNatClampNeg) (hn_u0 : ¬ n_u0 < 0) (hB : (4 : Int32) < n_u0) : ¬ (3 : Int32) < 0 ∧ (3 : Int32) < n_u0 := by
  refine ⟨by decide, ?_⟩
  simp only [Int32.lt_iff_toInt_lt, Int32.reduceToInt] at hB ⊢
  omega
theorem own_ix1_24 (n_u0 : Int32) (vs_u0 : List Int32) (hl_u0 : vs_u0.length = n_u0.toNatClampNeg) (hn_u0 : ¬ n_u0 < 0) (hB : (4 : Int32) < n_u0) : ¬ (4 : Int32) < 0 ∧ (4 : Int32) < n_u0 := by
  refine ⟨by decide, ?_⟩
  simp only [Int32.lt_iff_toInt_lt, Int32.reduceToInt] at hB ⊢
  omega
def Q1 (Z : State) (u0 : Addr) (k_u0 : ClassId) (n_u0 : Int32) (vs_u0 : List Int32) (h0 : Heap) (n0 : Nat) (v : Option Value) (h : Heap) (L : List Loc) : Prop := v = none ∧ Fr n0 L ∧ Keep h0 h [u0] ∧ AI Z h u0 k_u0 .int n_u0 (g1_u0 n_u0 vs_u0)
set_option maxRecDepth 65536 in
set_option maxHeartbeats 40000000 in
theorem rm1 (l : Launch) (Z : State) (a0 : Array Value) (hw : ∀ d ∈ tables_1, d.before a0 Z = true) (ws : List Jvm.Cond) (u0 : Addr) (k_u0 : ClassId) (n_u0 : Int32) (vs_u0 : List Int32) (h0 : Heap) (n0 : Nat) (Z0 : n0 ≤ h0.size) (V_u0 : AI Z h0 u0 k_u0 .int n_u0 vs_u0) (g_u0 : n0 ≤ u0) (hB : (4 : Int32) < n_u0) :
    MetFree l (⟨"fivewords/Sha1Block", "reset", "([I)V"⟩ : MethodName) (head1 (Jvm.Cond.code (⟨"fivewords/Sha1Block", "reset", "([I)V"⟩ : MethodName) prog_3_method_2_code 1 none :: ws) ({ frames := 0, cells := 0, slots := 0, locals := 0 } : Room)) (fun a U => a = #[(.ref u0)] ∧ Z.Warmed39 U.vm ∧ U.heap = h0) (fun _ _ _ _ _ => True) (fun _ U o U' => ∃ v L, o = .returned v ∧ Q1 Z u0 k_u0 n_u0 vs_u0 h0 n0 v U'.heap L ∧ FrameEnd U o U' L ({ frames := 0, cells := 0, slots := 0, locals := 0 } : Room).cells ({ frames := 0, cells := 0, slots := 0, locals := 0 } : Room).slots) := by
  refine MetFree.of_bodySF (plainFor_of_name pn0) hisR ?_
  intro p e s m args below meth c s₁ Bd hml0 hP hK
  obtain ⟨rfl, hZ, hh⟩ := hP
  have hx := Bd.exec
  have hby := Bd.bytes
  have hml : c.maxLocals = 1 := hml0
  have hown : s.vm.findClass "fivewords/Sha1Block" = some m.cls := findClass_of_methodNamed Bd.named
  have hnm := (name_of_methodNamed Bd.named Bd.method).1
  have X0 : Stand p l e ({ frames := 0, cells := 0, slots := 0, locals := 0 } : Room) s m #[(.ref u0)] below meth c s₁ [] 0 0 := Stand.of_body Bd
  have e0 : s₁.heap = h0 := by rw [← hh, Bd.state]; rfl
  have N0 := Fr.nil n0
  have K0 : Keep h0 h0 [u0] := Keep.refl _ _
  have hl_u0 : vs_u0.length = n_u0.toNatClampNeg := V_u0.2
  have hn_u0 : ¬ n_u0 < 0 := V_u0.nn
  refine Goes.out (Q := fun o U' => ∃ v L, o = .returned v ∧ Q1 Z u0 k_u0 n_u0 vs_u0 h0 n0 v U'.heap L ∧ FrameEnd s o U' L ({ frames := 0, cells := 0, slots := 0, locals := 0 } : Room).cells ({ frames := 0, cells := 0, slots := 0, locals := 0 } : Room).slots) ?_
  refine Goes.step (S' := s₁.setTop (mkF m 0 #[.val (.ref u0)] [])) (fun _ k => castTop (ef1 m u0) k) ?_
  refine Goes.step (S' := s₁.setTop (mkF m 1 #[.val (.ref u0)] [(.ref u0)])) (fun _ k => XS.aloadN X0.here hx rfl (hb hby d1_0) rfl rfl k) ?_
  refine Goes.step (S' := s₁.setTop (mkF m 2 #[.val (.ref u0)] [(.int (0 : Int32)), (.ref u0)])) (fun _ k => XS.iconst X0.here hx rfl (hb hby d1_1) k) ?_
  refine Goes.step (S' := s₁.setTop (mkF m 4 #[.val (.ref u0)] [(.int (1732584193 : Int32)), (.int (0 : Int32)), (.ref u0)])) (fun _ k => X0.ldcInt hx hown (mvT hZ (hw _ (List.mem_of_getElem? (i := 5) rfl))) (g := (mkF m 2 #[.val (.ref u0)] [(.int (0 : Int32)), (.ref u0)])) rfl (hb hby d1_2) _ k) ?_
  obtain ⟨T1, h1, X1, e1, W1, V_1, st1⟩ := own_iastore X0 hx hZ e0 V_u0 (own_ix1_4 n_u0 vs_u0 hl_u0 hn_u0 hB) (g := (mkF m 4 #[.val (.ref u0)] [(.int (1732584193 : Int32)), (.int (0 : Int32)), (.ref u0)])) rfl rfl (hb hby d1_4)
  replace V_1 : AI Z h1 u0 k_u0 .int n_u0 (vs_u0.set ((0 : Int32)).toNatClampNeg (1732584193 : Int32)) := V_1
  have N2 := Fr.snoc X1 N0 g_u0
  have Z3 : n0 ≤ h1.size := Nat.le_trans Z0 (Nat.le_of_eq W1.size.symm)
  have K4 : Keep h0 h1 [u0] := K0.wr W1 (Or.inl (List.mem_of_getElem? (i := 0) rfl))
  refine Goes.step (S' := T1.setTop (mkF m 5 #[.val (.ref u0)] [])) st1 ?_
  refine Goes.step (S' := T1.setTop (mkF m 6 #[.val (.ref u0)] [(.ref u0)])) (fun _ k => XS.aloadN X1.here hx rfl (hb hby d1_5) rfl rfl k) ?_
  refine Goes.step (S' := T1.setTop (mkF m 7 #[.val (.ref u0)] [(.int (1 : Int32)), (.ref u0)])) (fun _ k => XS.iconst X1.here hx rfl (hb hby d1_6) k) ?_
  refine Goes.step (S' := T1.setTop (mkF m 9 #[.val (.ref u0)] [(.int (-271733879 : Int32)), (.int (1 : Int32)), (.ref u0)])) (fun _ k => X1.ldcInt hx hown (mvT hZ (hw _ (List.mem_of_getElem? (i := 6) rfl))) (g := (mkF m 7 #[.val (.ref u0)] [(.int (1 : Int32)), (.ref u0)])) rfl (hb hby d1_7) _ k) ?_
  obtain ⟨T5, h5, X5, e5, W5, V_5, st5⟩ := own_iastore X1 hx hZ e1 V_1 (own_ix1_9 n_u0 vs_u0 hl_u0 hn_u0 hB) (g := (mkF m 9 #[.val (.ref u0)] [(.int (-271733879 : Int32)), (.int (1 : Int32)), (.ref u0)])) rfl rfl (hb hby d1_9)
  replace V_5 : AI Z h5 u0 k_u0 .int n_u0 ((vs_u0.set ((0 : Int32)).toNatClampNeg (1732584193 : Int32)).set ((1 : Int32)).toNatClampNeg (-271733879 : Int32)) := V_5
  have N6 := Fr.snoc X5 N2 g_u0
  have Z7 : n0 ≤ h5.size := Nat.le_trans Z3 (Nat.le_of_eq W5.size.symm)
  have K8 : Keep h0 h5 [u0] := K4.wr W5 (Or.inl (List.mem_of_getElem? (i := 0) rfl))
  refine Goes.step (S' := T5.setTop (mkF m 10 #[.val (.ref u0)] [])) st5 ?_
  refine Goes.step (S' := T5.setTop (mkF m 11 #[.val (.ref u0)] [(.ref u0)])) (fun _ k => XS.aloadN X5.here hx rfl (hb hby d1_10) rfl rfl k) ?_
  refine Goes.step (S' := T5.setTop (mkF m 12 #[.val (.ref u0)] [(.int (2 : Int32)), (.ref u0)])) (fun _ k => XS.iconst X5.here hx rfl (hb hby d1_11) k) ?_
  refine Goes.step (S' := T5.setTop (mkF m 14 #[.val (.ref u0)] [(.int (-1732584194 : Int32)), (.int (2 : Int32)), (.ref u0)])) (fun _ k => X5.ldcInt hx hown (mvT hZ (hw _ (List.mem_of_getElem? (i := 7) rfl))) (g := (mkF m 12 #[.val (.ref u0)] [(.int (2 : Int32)), (.ref u0)])) rfl (hb hby d1_12) _ k) ?_
  obtain ⟨T9, h9, X9, e9, W9, V_9, st9⟩ := own_iastore X5 hx hZ e5 V_5 (own_ix1_14 n_u0 vs_u0 hl_u0 hn_u0 hB) (g := (mkF m 14 #[.val (.ref u0)] [(.int (-1732584194 : Int32)), (.int (2 : Int32)), (.ref u0)])) rfl rfl (hb hby d1_14)
  replace V_9 : AI Z h9 u0 k_u0 .int n_u0 (((vs_u0.set ((0 : Int32)).toNatClampNeg (1732584193 : Int32)).set ((1 : Int32)).toNatClampNeg (-271733879 : Int32)).set ((2 : Int32)).toNatClampNeg (-1732584194 : Int32)) := V_9
  have N10 := Fr.snoc X9 N6 g_u0
  have Z11 : n0 ≤ h9.size := Nat.le_trans Z7 (Nat.le_of_eq W9.size.symm)
  have K12 : Keep h0 h9 [u0] := K8.wr W9 (Or.inl (List.mem_of_getElem? (i := 0) rfl))
  refine Goes.step (S' := T9.setTop (mkF m 15 #[.val (.ref u0)] [])) st9 ?_
  refine Goes.step (S' := T9.setTop (mkF m 16 #[.val (.ref u0)] [(.ref u0)])) (fun _ k => XS.aloadN X9.here hx rfl (hb hby d1_15) rfl rfl k) ?_
  refine Goes.step (S' := T9.setTop (mkF m 17 #[.val (.ref u0)] [(.int (3 : Int32)), (.ref u0)])) (fun _ k => XS.iconst X9.here hx rfl (hb hby d1_16) k) ?_
  refine Goes.step (S' := T9.setTop (mkF m 19 #[.val (.ref u0)] [(.int (271733878 : Int32)), (.int (3 : Int32)), (.ref u0)])) (fun _ k => X9.ldcInt hx hown (mvT hZ (hw _ (List.mem_of_getElem? (i := 8) rfl))) (g := (mkF m 17 #[.val (.ref u0)] [(.int (3 : Int32)), (.ref u0)])) rfl (hb hby d1_17) _ k) ?_
  obtain ⟨T13, h13, X13, e13, W13, V_13, st13⟩ := own_iastore X9 hx hZ e9 V_9 (own_ix1_19 n_u0 vs_u0 hl_u0 hn_u0 hB) (g := (mkF m 19 #[.val (.ref u0)] [(.int (271733878 : Int32)), (.int (3 : Int32)), (.ref u0)])) rfl rfl (hb hby d1_19)
  replace V_13 : AI Z h13 u0 k_u0 .int n_u0 ((((vs_u0.set ((0 : Int32)).toNatClampNeg (1732584193 : Int32)).set ((1 : Int32)).toNatClampNeg (-271733879 : Int32)).set ((2 : Int32)).toNatClampNeg (-1732584194 : Int32)).set ((3 : Int32)).toNatClampNeg (271733878 : Int32)) := V_13
  have N14 := Fr.snoc X13 N10 g_u0
  have Z15 : n0 ≤ h13.size := Nat.le_trans Z11 (Nat.le_of_eq W13.size.symm)
  have K16 : Keep h0 h13 [u0] := K12.wr W13 (Or.inl (List.mem_of_getElem? (i := 0) rfl))
  refine Goes.step (S' := T13.setTop (mkF m 20 #[.val (.ref u0)] [])) st13 ?_
  refine Goes.step (S' := T13.setTop (mkF m 21 #[.val (.ref u0)] [(.ref u0)])) (fun _ k => XS.aloadN X13.here hx rfl (hb hby d1_20) rfl rfl k) ?_
  refine Goes.step (S' := T13.setTop (mkF m 22 #[.val (.ref u0)] [(.int (4 : Int32)), (.ref u0)])) (fun _ k => XS.iconst X13.here hx rfl (hb hby d1_21) k) ?_
  refine Goes.step (S' := T13.setTop (mkF m 24 #[.val (.ref u0)] [(.int (-1009589776 : Int32)), (.int (4 : Int32)), (.ref u0)])) (fun _ k => X13.ldcInt hx hown (mvT hZ (hw _ (List.mem_of_getElem? (i := 9) rfl))) (g := (mkF m 22 #[.val (.ref u0)] [(.int (4 : Int32)), (.ref u0)])) rfl (hb hby d1_22) _ k) ?_
  obtain ⟨T17, h17, X17, e17, W17, V_17, st17⟩ := own_iastore X13 hx hZ e13 V_13 (own_ix1_24 n_u0 vs_u0 hl_u0 hn_u0 hB) (g := (mkF m 24 #[.val (.ref u0)] [(.int (-1009589776 : Int32)), (.int (4 : Int32)), (.ref u0)])) rfl rfl (hb hby d1_24)
  replace V_17 : AI Z h17 u0 k_u0 .int n_u0 (((((vs_u0.set ((0 : Int32)).toNatClampNeg (1732584193 : Int32)).set ((1 : Int32)).toNatClampNeg (-271733879 : Int32)).set ((2 : Int32)).toNatClampNeg (-1732584194 : Int32)).set ((3 : Int32)).toNatClampNeg (271733878 : Int32)).set ((4 : Int32)).toNatClampNeg (-1009589776 : Int32)) := V_17
  have N18 := Fr.snoc X17 N14 g_u0
  have Z19 : n0 ≤ h17.size := Nat.le_trans Z15 (Nat.le_of_eq W17.size.symm)
  have K20 : Keep h0 h17 [u0] := K16.wr W17 (Or.inl (List.mem_of_getElem? (i := 0) rfl))
  refine Goes.step (S' := T17.setTop (mkF m 25 #[.val (.ref u0)] [])) st17 ?_
  refine Goes.retV X17 hx Bd.notSynchronized Bd.returns (hb hby d1_25) (by decide) (by decide) ?_
  refine ⟨rfl, N18, ?_, ?_⟩
  · rw [e17]; exact K20
  · rw [e17]; exact V_17
theorem pd0 : parseMethodDescriptor "([I)V" = some ⟨[(.array .int)], none⟩ := by decide +kernel
theorem pn1 : plainName "fivewords/Sha1BlockResetPinLaw" = true := by first | (simp [plainName, overriddenIn]; done) | decide +kernel
theorem ef0 (m : MethodId) (p0 : Int32) (p1 : Int32) (p2 : Int32) (p3 : Int32) (p4 : Int32) (p5 : Int32) : entryFrame m #[(.int p0), (.int p1), (.int p2), (.int p3), (.int p4), (.int p5)] maxLocals = mkF m 0 #[.val (.int p0), .val (.int p1), .val (.int p2), .val (.int p3), .val (.int p4), .val (.int p5), .unset, .unset, .unset] [] := by first | (simp [entryFrame, mkF, argsToLocals, Value.category, maxLocals]; done) | rfl
theorem own_case0_8 (p0 : Int32) (p1 : Int32) (p2 : Int32) (p3 : Int32) (p4 : Int32) (p5 : Int32) (v6_6 : Int32) (ev6_6 : v6_6 = ((5 : Int32) + (p5 &&& (3 : Int32)))) : v6_6 = (5 : Int32) ∨ v6_6 = (6 : Int32) ∨ v6_6 = (7 : Int32) ∨ v6_6 = (8 : Int32) := by
  have a : (p5 &&& 3).toInt = p5.toInt % 4 := c_mask p5 3 2 (by decide) (by decide)
  have b := c_iadd 5 (p5 &&& 3)
  have r := rng32 (5 + (p5 &&& 3))
  rw [← ev6_6] at b r
  simp only [← Int32.toInt_inj, Int32.reduceToInt] at b ⊢
  omega
theorem own_pr0_86_hB (p0 : Int32) (p1 : Int32) (p2 : Int32) (p3 : Int32) (p4 : Int32) (p5 : Int32) (ev6_6 : (5 : Int32) = ((5 : Int32) + (p5 &&& (3 : Int32)))) : (4 : Int32) < (5 : Int32) := by
  first | decide | exact ⟨by decide, by decide⟩
theorem own_pr0_86_hB_2 (p0 : Int32) (p1 : Int32) (p2 : Int32) (p3 : Int32) (p4 : Int32) (p5 : Int32) (ev6_6 : (6 : Int32) = ((5 : Int32) + (p5 &&& (3 : Int32)))) : (4 : Int32) < (6 : Int32) := by
  first | decide | exact ⟨by decide, by decide⟩
theorem own_pr0_86_hB_3 (p0 : Int32) (p1 : Int32) (p2 : Int32) (p3 : Int32) (p4 : Int32) (p5 : Int32) (ev6_6 : (7 : Int32) = ((5 : Int32) + (p5 &&& (3 : Int32)))) : (4 : Int32) < (7 : Int32) := by
  first | decide | exact ⟨by decide, by decide⟩
theorem own_pr0_86_hB_4 (p0 : Int32) (p1 : Int32) (p2 : Int32) (p3 : Int32) (p4 : Int32) (p5 : Int32) (ev6_6 : (8 : Int32) = ((5 : Int32) + (p5 &&& (3 : Int32)))) : (4 : Int32) < (8 : Int32) := by
  first | decide | exact ⟨by decide, by decide⟩
def Q0 (Z : State) (p0 : Int32) (p1 : Int32) (p2 : Int32) (p3 : Int32) (p4 : Int32) (p5 : Int32) (h0 : Heap) (n0 : Nat) (v : Option Value) (h : Heap) (L : List Loc) : Prop := v = some (.int 1) ∧ Fr n0 L
set_option maxRecDepth 65536 in
set_option maxHeartbeats 40000000 in
theorem rm0 (l : Launch) (Z : State) (a0 : Array Value) (hw : ∀ d ∈ tables_1, d.before a0 Z = true) (ws : List Jvm.Cond) (p0 : Int32) (p1 : Int32) (p2 : Int32) (p3 : Int32) (p4 : Int32) (p5 : Int32) (h0 : Heap) (n0 : Nat) (Z0 : n0 ≤ h0.size) :
    MetFree l x (head1 (Jvm.Cond.code x code maxLocals ret :: ws) room_1) (fun a U => a = #[(.int p0), (.int p1), (.int p2), (.int p3), (.int p4), (.int p5)] ∧ Z.Warmed39 U.vm ∧ U.heap = h0) (fun _ _ _ _ _ => True) (fun _ U o U' => ∃ v L, o = .returned v ∧ Q0 Z p0 p1 p2 p3 p4 p5 h0 n0 v U'.heap L ∧ FrameEnd U o U' L room_1.cells room_1.slots) := by
  refine MetFree.of_bodySF (plainFor_of_name pn1) hisR ?_
  intro p e s m args below meth c s₁ Bd hml0 hP hK
  obtain ⟨rfl, hZ, hh⟩ := hP
  have hx := Bd.exec
  have hby := Bd.bytes
  have hml : c.maxLocals = 9 := hml0
  have hown : s.vm.findClass "fivewords/Sha1BlockResetPinLaw" = some m.cls := findClass_of_methodNamed Bd.named
  have hnm := (name_of_methodNamed Bd.named Bd.method).1
  have X0 : Stand p l e room_1 s m #[(.int p0), (.int p1), (.int p2), (.int p3), (.int p4), (.int p5)] below meth c s₁ [] 0 0 := Stand.of_body Bd
  have e0 : s₁.heap = h0 := by rw [← hh, Bd.state]; rfl
  have N0 := Fr.nil n0
  refine Goes.out (Q := fun o U' => ∃ v L, o = .returned v ∧ Q0 Z p0 p1 p2 p3 p4 p5 h0 n0 v U'.heap L ∧ FrameEnd s o U' L room_1.cells room_1.slots) ?_
  refine Goes.step (S' := s₁.setTop (mkF m 0 #[.val (.int p0), .val (.int p1), .val (.int p2), .val (.int p3), .val (.int p4), .val (.int p5), .unset, .unset, .unset] [])) (fun _ k => castTop (ef0 m p0 p1 p2 p3 p4 p5) k) ?_
  refine Goes.step (S' := s₁.setTop (mkF m 1 #[.val (.int p0), .val (.int p1), .val (.int p2), .val (.int p3), .val (.int p4), .val (.int p5), .unset, .unset, .unset] [(.int (5 : Int32))])) (fun _ k => XS.iconst X0.here hx rfl (hb hby at_0) k) ?_
  refine Goes.step (S' := s₁.setTop (mkF m 3 #[.val (.int p0), .val (.int p1), .val (.int p2), .val (.int p3), .val (.int p4), .val (.int p5), .unset, .unset, .unset] [(.int p5), (.int (5 : Int32))])) (fun _ k => XS.iload X0.here hx rfl (hb hby at_1) rfl  k) ?_
  refine Goes.step (S' := s₁.setTop (mkF m 4 #[.val (.int p0), .val (.int p1), .val (.int p2), .val (.int p3), .val (.int p4), .val (.int p5), .unset, .unset, .unset] [(.int (3 : Int32)), (.int p5), (.int (5 : Int32))])) (fun _ k => XS.iconst X0.here hx rfl (hb hby at_3) k) ?_
  refine Goes.step (S' := s₁.setTop (mkF m 5 #[.val (.int p0), .val (.int p1), .val (.int p2), .val (.int p3), .val (.int p4), .val (.int p5), .unset, .unset, .unset] [(.int (p5 &&& (3 : Int32))), (.int (5 : Int32))])) (fun _ k => XS.iand X0.here hx rfl (hb hby at_4) rfl k) ?_
  refine Goes.step (S' := s₁.setTop (mkF m 6 #[.val (.int p0), .val (.int p1), .val (.int p2), .val (.int p3), .val (.int p4), .val (.int p5), .unset, .unset, .unset] [(.int ((5 : Int32) + (p5 &&& (3 : Int32))))])) (fun _ k => XS.iadd X0.here hx rfl (hb hby at_5) rfl k) ?_
  refine Goes.step (S' := s₁.setTop (mkF m 8 #[.val (.int p0), .val (.int p1), .val (.int p2), .val (.int p3), .val (.int p4), .val (.int p5), .val (.int ((5 : Int32) + (p5 &&& (3 : Int32)))), .unset, .unset] [])) (fun _ k => XS.istore X0.here hx rfl (hb hby at_6) rfl (l' := #[.val (.int p0), .val (.int p1), .val (.int p2), .val (.int p3), .val (.int p4), .val (.int p5), .val (.int ((5 : Int32) + (p5 &&& (3 : Int32)))), .unset, .unset]) rfl k) ?_
  obtain ⟨v6_6, ev6_6⟩ : ∃ z : Int32, z = ((5 : Int32) + (p5 &&& (3 : Int32))) := ⟨_, rfl⟩
  rw [← ev6_6]
  have hcase := (own_case0_8 p0 p1 p2 p3 p4 p5 v6_6 ev6_6)
  rcases hcase with rfl | rfl | rfl | rfl
  · refine Goes.step (S' := s₁.setTop (mkF m 10 #[.val (.int p0), .val (.int p1), .val (.int p2), .val (.int p3), .val (.int p4), .val (.int p5), .val (.int (5 : Int32)), .unset, .unset] [(.int (5 : Int32))])) (fun _ k => XS.iload X0.here hx rfl (hb hby at_8) rfl  k) ?_
    obtain ⟨T1, h1, k1, X1, e1, E1, A1, st1⟩ := newP X0 hx hZ (hw _ (List.mem_of_getElem? (i := 0) rfl)) e0 (g := (mkF m 10 #[.val (.int p0), .val (.int p1), .val (.int p2), .val (.int p3), .val (.int p4), .val (.int p5), .val (.int (5 : Int32)), .unset, .unset] [(.int (5 : Int32))])) rfl (hb hby at_10) rfl (by decide) (cap := 5) (by decide) (by decide) (by decide) (by decide)
    obtain ⟨b1, g1⟩ : ∃ z, z = h0.size := ⟨_, rfl⟩
    rw [← g1] at A1 st1
    have g2 : n0 ≤ b1 := Nat.le_trans Z0 (Nat.le_of_eq g1.symm)
    have Z3 : n0 ≤ h1.size := Nat.le_trans Z0 E1.1
    have V4 : AI Z h1 b1 k1 .int (5 : Int32) [(0 : Int32), (0 : Int32), (0 : Int32), (0 : Int32), (0 : Int32)] := own_new A1 (by decide) rfl
    refine Goes.step (S' := T1.setTop (mkF m 12 #[.val (.int p0), .val (.int p1), .val (.int p2), .val (.int p3), .val (.int p4), .val (.int p5), .val (.int (5 : Int32)), .unset, .unset] [(.ref b1)])) st1 ?_
    refine Goes.step (S' := T1.setTop (mkF m 14 #[.val (.int p0), .val (.int p1), .val (.int p2), .val (.int p3), .val (.int p4), .val (.int p5), .val (.int (5 : Int32)), .val (.ref b1), .unset] [])) (fun _ k => XS.astore X1.here hx rfl (hb hby at_12) rfl rfl (l' := #[.val (.int p0), .val (.int p1), .val (.int p2), .val (.int p3), .val (.int p4), .val (.int p5), .val (.int (5 : Int32)), .val (.ref b1), .unset]) rfl k) ?_
    refine Goes.step (S' := T1.setTop (mkF m 16 #[.val (.int p0), .val (.int p1), .val (.int p2), .val (.int p3), .val (.int p4), .val (.int p5), .val (.int (5 : Int32)), .val (.ref b1), .unset] [(.ref b1)])) (fun _ k => XS.aload X1.here hx rfl (hb hby at_14) rfl rfl k) ?_
    refine Goes.step (S' := T1.setTop (mkF m 17 #[.val (.int p0), .val (.int p1), .val (.int p2), .val (.int p3), .val (.int p4), .val (.int p5), .val (.int (5 : Int32)), .val (.ref b1), .unset] [(.int (0 : Int32)), (.ref b1)])) (fun _ k => XS.iconst X1.here hx rfl (hb hby at_16) k) ?_
    refine Goes.step (S' := T1.setTop (mkF m 18 #[.val (.int p0), .val (.int p1), .val (.int p2), .val (.int p3), .val (.int p4), .val (.int p5), .val (.int (5 : Int32)), .val (.ref b1), .unset] [(.int p0), (.int (0 : Int32)), (.ref b1)])) (fun _ k => XS.iloadN X1.here hx rfl (hb hby at_17) rfl  k) ?_
    obtain ⟨T5, h5, X5, e5, W5, V_5, st5⟩ := own_iastore X1 hx hZ e1 V4 ⟨by decide, by decide⟩ (g := (mkF m 18 #[.val (.int p0), .val (.int p1), .val (.int p2), .val (.int p3), .val (.int p4), .val (.int p5), .val (.int (5 : Int32)), .val (.ref b1), .unset] [(.int p0), (.int (0 : Int32)), (.ref b1)])) rfl rfl (hb hby at_18)
    replace V_5 : AI Z h5 b1 k1 .int (5 : Int32) [p0, (0 : Int32), (0 : Int32), (0 : Int32), (0 : Int32)] := V_5
    have N6 := Fr.snoc X5 N0 g2
    have Z7 : n0 ≤ h5.size := Nat.le_trans Z3 (Nat.le_of_eq W5.size.symm)
    refine Goes.step (S' := T5.setTop (mkF m 19 #[.val (.int p0), .val (.int p1), .val (.int p2), .val (.int p3), .val (.int p4), .val (.int p5), .val (.int (5 : Int32)), .val (.ref b1), .unset] [])) st5 ?_
    refine Goes.step (S' := T5.setTop (mkF m 21 #[.val (.int p0), .val (.int p1), .val (.int p2), .val (.int p3), .val (.int p4), .val (.int p5), .val (.int (5 : Int32)), .val (.ref b1), .unset] [(.ref b1)])) (fun _ k => XS.aload X5.here hx rfl (hb hby at_19) rfl rfl k) ?_
    refine Goes.step (S' := T5.setTop (mkF m 22 #[.val (.int p0), .val (.int p1), .val (.int p2), .val (.int p3), .val (.int p4), .val (.int p5), .val (.int (5 : Int32)), .val (.ref b1), .unset] [(.int (1 : Int32)), (.ref b1)])) (fun _ k => XS.iconst X5.here hx rfl (hb hby at_21) k) ?_
    refine Goes.step (S' := T5.setTop (mkF m 23 #[.val (.int p0), .val (.int p1), .val (.int p2), .val (.int p3), .val (.int p4), .val (.int p5), .val (.int (5 : Int32)), .val (.ref b1), .unset] [(.int p1), (.int (1 : Int32)), (.ref b1)])) (fun _ k => XS.iloadN X5.here hx rfl (hb hby at_22) rfl  k) ?_
    obtain ⟨T8, h8, X8, e8, W8, V_8, st8⟩ := own_iastore X5 hx hZ e5 V_5 ⟨by decide, by decide⟩ (g := (mkF m 23 #[.val (.int p0), .val (.int p1), .val (.int p2), .val (.int p3), .val (.int p4), .val (.int p5), .val (.int (5 : Int32)), .val (.ref b1), .unset] [(.int p1), (.int (1 : Int32)), (.ref b1)])) rfl rfl (hb hby at_23)
    replace V_8 : AI Z h8 b1 k1 .int (5 : Int32) [p0, p1, (0 : Int32), (0 : Int32), (0 : Int32)] := V_8
    have N9 := Fr.snoc X8 N6 g2
    have Z10 : n0 ≤ h8.size := Nat.le_trans Z7 (Nat.le_of_eq W8.size.symm)
    refine Goes.step (S' := T8.setTop (mkF m 24 #[.val (.int p0), .val (.int p1), .val (.int p2), .val (.int p3), .val (.int p4), .val (.int p5), .val (.int (5 : Int32)), .val (.ref b1), .unset] [])) st8 ?_
    refine Goes.step (S' := T8.setTop (mkF m 26 #[.val (.int p0), .val (.int p1), .val (.int p2), .val (.int p3), .val (.int p4), .val (.int p5), .val (.int (5 : Int32)), .val (.ref b1), .unset] [(.ref b1)])) (fun _ k => XS.aload X8.here hx rfl (hb hby at_24) rfl rfl k) ?_
    refine Goes.step (S' := T8.setTop (mkF m 27 #[.val (.int p0), .val (.int p1), .val (.int p2), .val (.int p3), .val (.int p4), .val (.int p5), .val (.int (5 : Int32)), .val (.ref b1), .unset] [(.int (2 : Int32)), (.ref b1)])) (fun _ k => XS.iconst X8.here hx rfl (hb hby at_26) k) ?_
    refine Goes.step (S' := T8.setTop (mkF m 28 #[.val (.int p0), .val (.int p1), .val (.int p2), .val (.int p3), .val (.int p4), .val (.int p5), .val (.int (5 : Int32)), .val (.ref b1), .unset] [(.int p2), (.int (2 : Int32)), (.ref b1)])) (fun _ k => XS.iloadN X8.here hx rfl (hb hby at_27) rfl  k) ?_
    obtain ⟨T11, h11, X11, e11, W11, V_11, st11⟩ := own_iastore X8 hx hZ e8 V_8 ⟨by decide, by decide⟩ (g := (mkF m 28 #[.val (.int p0), .val (.int p1), .val (.int p2), .val (.int p3), .val (.int p4), .val (.int p5), .val (.int (5 : Int32)), .val (.ref b1), .unset] [(.int p2), (.int (2 : Int32)), (.ref b1)])) rfl rfl (hb hby at_28)
    replace V_11 : AI Z h11 b1 k1 .int (5 : Int32) [p0, p1, p2, (0 : Int32), (0 : Int32)] := V_11
    have N12 := Fr.snoc X11 N9 g2
    have Z13 : n0 ≤ h11.size := Nat.le_trans Z10 (Nat.le_of_eq W11.size.symm)
    refine Goes.step (S' := T11.setTop (mkF m 29 #[.val (.int p0), .val (.int p1), .val (.int p2), .val (.int p3), .val (.int p4), .val (.int p5), .val (.int (5 : Int32)), .val (.ref b1), .unset] [])) st11 ?_
    refine Goes.step (S' := T11.setTop (mkF m 31 #[.val (.int p0), .val (.int p1), .val (.int p2), .val (.int p3), .val (.int p4), .val (.int p5), .val (.int (5 : Int32)), .val (.ref b1), .unset] [(.ref b1)])) (fun _ k => XS.aload X11.here hx rfl (hb hby at_29) rfl rfl k) ?_
    refine Goes.step (S' := T11.setTop (mkF m 32 #[.val (.int p0), .val (.int p1), .val (.int p2), .val (.int p3), .val (.int p4), .val (.int p5), .val (.int (5 : Int32)), .val (.ref b1), .unset] [(.int (3 : Int32)), (.ref b1)])) (fun _ k => XS.iconst X11.here hx rfl (hb hby at_31) k) ?_
    refine Goes.step (S' := T11.setTop (mkF m 33 #[.val (.int p0), .val (.int p1), .val (.int p2), .val (.int p3), .val (.int p4), .val (.int p5), .val (.int (5 : Int32)), .val (.ref b1), .unset] [(.int p3), (.int (3 : Int32)), (.ref b1)])) (fun _ k => XS.iloadN X11.here hx rfl (hb hby at_32) rfl  k) ?_
    obtain ⟨T14, h14, X14, e14, W14, V_14, st14⟩ := own_iastore X11 hx hZ e11 V_11 ⟨by decide, by decide⟩ (g := (mkF m 33 #[.val (.int p0), .val (.int p1), .val (.int p2), .val (.int p3), .val (.int p4), .val (.int p5), .val (.int (5 : Int32)), .val (.ref b1), .unset] [(.int p3), (.int (3 : Int32)), (.ref b1)])) rfl rfl (hb hby at_33)
    replace V_14 : AI Z h14 b1 k1 .int (5 : Int32) [p0, p1, p2, p3, (0 : Int32)] := V_14
    have N15 := Fr.snoc X14 N12 g2
    have Z16 : n0 ≤ h14.size := Nat.le_trans Z13 (Nat.le_of_eq W14.size.symm)
    refine Goes.step (S' := T14.setTop (mkF m 34 #[.val (.int p0), .val (.int p1), .val (.int p2), .val (.int p3), .val (.int p4), .val (.int p5), .val (.int (5 : Int32)), .val (.ref b1), .unset] [])) st14 ?_
    refine Goes.step (S' := T14.setTop (mkF m 36 #[.val (.int p0), .val (.int p1), .val (.int p2), .val (.int p3), .val (.int p4), .val (.int p5), .val (.int (5 : Int32)), .val (.ref b1), .unset] [(.ref b1)])) (fun _ k => XS.aload X14.here hx rfl (hb hby at_34) rfl rfl k) ?_
    refine Goes.step (S' := T14.setTop (mkF m 37 #[.val (.int p0), .val (.int p1), .val (.int p2), .val (.int p3), .val (.int p4), .val (.int p5), .val (.int (5 : Int32)), .val (.ref b1), .unset] [(.int (4 : Int32)), (.ref b1)])) (fun _ k => XS.iconst X14.here hx rfl (hb hby at_36) k) ?_
    refine Goes.step (S' := T14.setTop (mkF m 39 #[.val (.int p0), .val (.int p1), .val (.int p2), .val (.int p3), .val (.int p4), .val (.int p5), .val (.int (5 : Int32)), .val (.ref b1), .unset] [(.int p4), (.int (4 : Int32)), (.ref b1)])) (fun _ k => XS.iload X14.here hx rfl (hb hby at_37) rfl  k) ?_
    obtain ⟨T17, h17, X17, e17, W17, V_17, st17⟩ := own_iastore X14 hx hZ e14 V_14 ⟨by decide, by decide⟩ (g := (mkF m 39 #[.val (.int p0), .val (.int p1), .val (.int p2), .val (.int p3), .val (.int p4), .val (.int p5), .val (.int (5 : Int32)), .val (.ref b1), .unset] [(.int p4), (.int (4 : Int32)), (.ref b1)])) rfl rfl (hb hby at_39)
    replace V_17 : AI Z h17 b1 k1 .int (5 : Int32) [p0, p1, p2, p3, p4] := V_17
    have N18 := Fr.snoc X17 N15 g2
    have Z19 : n0 ≤ h17.size := Nat.le_trans Z16 (Nat.le_of_eq W17.size.symm)
    refine Goes.step (S' := T17.setTop (mkF m 40 #[.val (.int p0), .val (.int p1), .val (.int p2), .val (.int p3), .val (.int p4), .val (.int p5), .val (.int (5 : Int32)), .val (.ref b1), .unset] [])) st17 ?_
    refine Goes.step (S' := T17.setTop (mkF m 42 #[.val (.int p0), .val (.int p1), .val (.int p2), .val (.int p3), .val (.int p4), .val (.int p5), .val (.int (5 : Int32)), .val (.ref b1), .unset] [(.int (5 : Int32))])) (fun _ k => XS.iload X17.here hx rfl (hb hby at_40) rfl  k) ?_
    refine Goes.step (S' := T17.setTop (mkF m 43 #[.val (.int p0), .val (.int p1), .val (.int p2), .val (.int p3), .val (.int p4), .val (.int p5), .val (.int (5 : Int32)), .val (.ref b1), .unset] [(.int (5 : Int32)), (.int (5 : Int32))])) (fun _ k => XS.iconst X17.here hx rfl (hb hby at_42) k) ?_
    refine Goes.step (S' := T17.setTop (mkF m 52 #[.val (.int p0), .val (.int p1), .val (.int p2), .val (.int p3), .val (.int p4), .val (.int p5), .val (.int (5 : Int32)), .val (.ref b1), .unset] [])) (fun _ k => XS.icmpYes X17.here hx rfl (pc0 := 43) (pc' := 52) rfl (hb hby at_43) rfl (flt (by decide)).2.2.2 (by decide) (by decide) k) ?_
    refine Goes.step (S' := T17.setTop (mkF m 54 #[.val (.int p0), .val (.int p1), .val (.int p2), .val (.int p3), .val (.int p4), .val (.int p5), .val (.int (5 : Int32)), .val (.ref b1), .unset] [(.int (5 : Int32))])) (fun _ k => XS.iload X17.here hx rfl (hb hby at_52) rfl  k) ?_
    refine Goes.step (S' := T17.setTop (mkF m 56 #[.val (.int p0), .val (.int p1), .val (.int p2), .val (.int p3), .val (.int p4), .val (.int p5), .val (.int (5 : Int32)), .val (.ref b1), .unset] [(.int (6 : Int32)), (.int (5 : Int32))])) (fun _ k => XS.bipush X17.here hx rfl (hb hby at_54) k) ?_
    refine Goes.step (S' := T17.setTop (mkF m 68 #[.val (.int p0), .val (.int p1), .val (.int p2), .val (.int p3), .val (.int p4), .val (.int p5), .val (.int (5 : Int32)), .val (.ref b1), .unset] [])) (fun _ k => XS.icmpYes X17.here hx rfl (pc0 := 56) (pc' := 68) rfl (hb hby at_56) rfl (flt (by decide)).2.2.2 (by decide) (by decide) k) ?_
    refine Goes.step (S' := T17.setTop (mkF m 70 #[.val (.int p0), .val (.int p1), .val (.int p2), .val (.int p3), .val (.int p4), .val (.int p5), .val (.int (5 : Int32)), .val (.ref b1), .unset] [(.int (5 : Int32))])) (fun _ k => XS.iload X17.here hx rfl (hb hby at_68) rfl  k) ?_
    refine Goes.step (S' := T17.setTop (mkF m 72 #[.val (.int p0), .val (.int p1), .val (.int p2), .val (.int p3), .val (.int p4), .val (.int p5), .val (.int (5 : Int32)), .val (.ref b1), .unset] [(.int (7 : Int32)), (.int (5 : Int32))])) (fun _ k => XS.bipush X17.here hx rfl (hb hby at_70) k) ?_
    refine Goes.step (S' := T17.setTop (mkF m 84 #[.val (.int p0), .val (.int p1), .val (.int p2), .val (.int p3), .val (.int p4), .val (.int p5), .val (.int (5 : Int32)), .val (.ref b1), .unset] [])) (fun _ k => XS.icmpYes X17.here hx rfl (pc0 := 72) (pc' := 84) rfl (hb hby at_72) rfl (flt (by decide)).2.2.2 (by decide) (by decide) k) ?_
    refine Goes.step (S' := T17.setTop (mkF m 86 #[.val (.int p0), .val (.int p1), .val (.int p2), .val (.int p3), .val (.int p4), .val (.int p5), .val (.int (5 : Int32)), .val (.ref b1), .unset] [(.ref b1)])) (fun _ k => XS.aload X17.here hx rfl (hb hby at_84) rfl rfl k) ?_
    obtain ⟨_, _, ⟨T20, L20, k20, n20⟩, -, X20, ⟨Lc20, hQ20, l20, y20, z20⟩, st20⟩ := Jvm.LawKit.callS X17 hx (y := (⟨"fivewords/Sha1Block", "reset", "([I)V"⟩ : MethodName)) hown (mvT hZ (hw _ (List.mem_of_getElem? (i := 1) rfl))) (mvT hZ (hw _ (List.mem_of_getElem? (i := 2) rfl))) (mvT hZ (hw _ (List.mem_of_getElem? (i := 3) rfl))) (mvT hZ (hw _ (List.mem_of_getElem? (i := 4) rfl))) (by decide) (backOf (W := 0) (rm1 l Z a0 hw [] b1 k1 ((5 : Int32)) ([p0, p1, p2, p3, p4]) h17 n0 Z19 V_17 g2 (own_pr0_86_hB p0 p1 p2 p3 p4 p5 ev6_6)) hZ (hw _ (List.mem_of_getElem? (i := 4) rfl)) (hw _ (List.mem_of_getElem? (i := 3) rfl)) (by decide) (by decide)) (g := (mkF m 86 #[.val (.int p0), .val (.int p1), .val (.int p2), .val (.int p3), .val (.int p4), .val (.int p5), .val (.int (5 : Int32)), .val (.ref b1), .unset] [(.ref b1)])) rfl (by rw [hml]; rfl) (argsL := [(.ref b1)]) (rest := []) (lenOf pd0 rfl) rfl (by show 2 * 0 + _ ≤ _; exact Nat.le_of_eq rfl) (hb hby at_86) (fun _ _ => ⟨rfl, e17, (by decide : 1 + 0 ≤ _), (by decide : 5 + 0 ≤ _)⟩)
    dsimp only [Pt.U, Pt.locs, Pt.cells, Pt.slots] at X20 l20 y20 z20 st20 hQ20
    subst l20 y20 z20
    obtain ⟨rfl, N20q, K20q, V21⟩ := hQ20
    have N22 := Fr.app N18 N20q
    have Z23 : n0 ≤ T20.heap.size := Nat.le_trans Z19 K20q.1
    replace V21 : AI Z T20.heap b1 k1 .int (5 : Int32) [(1732584193 : Int32), (-271733879 : Int32), (-1732584194 : Int32), (271733878 : Int32), (-1009589776 : Int32)] := V21
    refine Goes.step (S' := T20.setTop (mkF m 89 #[.val (.int p0), .val (.int p1), .val (.int p2), .val (.int p3), .val (.int p4), .val (.int p5), .val (.int (5 : Int32)), .val (.ref b1), .unset] [])) st20 ?_
    refine Goes.step (S' := T20.setTop (mkF m 91 #[.val (.int p0), .val (.int p1), .val (.int p2), .val (.int p3), .val (.int p4), .val (.int p5), .val (.int (5 : Int32)), .val (.ref b1), .unset] [(.ref b1)])) (fun _ k => XS.aload X20.here hx rfl (hb hby at_89) rfl rfl k) ?_
    refine Goes.step (S' := T20.setTop (mkF m 92 #[.val (.int p0), .val (.int p1), .val (.int p2), .val (.int p3), .val (.int p4), .val (.int p5), .val (.int (5 : Int32)), .val (.ref b1), .unset] [(.int (5 : Int32))])) (fun _ k => own_len X20 hx hZ rfl V21 (hb hby at_91) _ k) ?_
    refine Goes.step (S' := T20.setTop (mkF m 94 #[.val (.int p0), .val (.int p1), .val (.int p2), .val (.int p3), .val (.int p4), .val (.int p5), .val (.int (5 : Int32)), .val (.ref b1), .unset] [(.int (5 : Int32)), (.int (5 : Int32))])) (fun _ k => XS.iload X20.here hx rfl (hb hby at_92) rfl  k) ?_
    refine Goes.step (S' := T20.setTop (mkF m 97 #[.val (.int p0), .val (.int p1), .val (.int p2), .val (.int p3), .val (.int p4), .val (.int p5), .val (.int (5 : Int32)), .val (.ref b1), .unset] [])) (fun _ k => XS.icmpNo X20.here hx rfl (hb hby at_94) rfl (teq (rfl : (5 : Int32) = (5 : Int32))).2 k) ?_
    refine Goes.step (S' := T20.setTop (mkF m 99 #[.val (.int p0), .val (.int p1), .val (.int p2), .val (.int p3), .val (.int p4), .val (.int p5), .val (.int (5 : Int32)), .val (.ref b1), .unset] [(.ref b1)])) (fun _ k => XS.aload X20.here hx rfl (hb hby at_97) rfl rfl k) ?_
    refine Goes.step (S' := T20.setTop (mkF m 100 #[.val (.int p0), .val (.int p1), .val (.int p2), .val (.int p3), .val (.int p4), .val (.int p5), .val (.int (5 : Int32)), .val (.ref b1), .unset] [(.int (0 : Int32)), (.ref b1)])) (fun _ k => XS.iconst X20.here hx rfl (hb hby at_99) k) ?_
    refine Goes.step (S' := T20.setTop (mkF m 101 #[.val (.int p0), .val (.int p1), .val (.int p2), .val (.int p3), .val (.int p4), .val (.int p5), .val (.int (5 : Int32)), .val (.ref b1), .unset] [(.int (1732584193 : Int32))])) (fun _ k => own_iaload X20 hx hZ rfl V21 ⟨by decide, by decide⟩ (hb hby at_100) _ k) ?_
    refine Goes.step (S' := T20.setTop (mkF m 103 #[.val (.int p0), .val (.int p1), .val (.int p2), .val (.int p3), .val (.int p4), .val (.int p5), .val (.int (5 : Int32)), .val (.ref b1), .unset] [(.int (1732584193 : Int32)), (.int (1732584193 : Int32))])) (fun _ k => X20.ldcInt hx hown (mvT hZ (hw _ (List.mem_of_getElem? (i := 10) rfl))) (g := (mkF m 101 #[.val (.int p0), .val (.int p1), .val (.int p2), .val (.int p3), .val (.int p4), .val (.int p5), .val (.int (5 : Int32)), .val (.ref b1), .unset] [(.int (1732584193 : Int32))])) rfl (hb hby at_101) _ k) ?_
    refine Goes.step (S' := T20.setTop (mkF m 106 #[.val (.int p0), .val (.int p1), .val (.int p2), .val (.int p3), .val (.int p4), .val (.int p5), .val (.int (5 : Int32)), .val (.ref b1), .unset] [])) (fun _ k => XS.icmpNo X20.here hx rfl (hb hby at_103) rfl (teq (rfl : (1732584193 : Int32) = (1732584193 : Int32))).2 k) ?_
    refine Goes.step (S' := T20.setTop (mkF m 108 #[.val (.int p0), .val (.int p1), .val (.int p2), .val (.int p3), .val (.int p4), .val (.int p5), .val (.int (5 : Int32)), .val (.ref b1), .unset] [(.ref b1)])) (fun _ k => XS.aload X20.here hx rfl (hb hby at_106) rfl rfl k) ?_
    refine Goes.step (S' := T20.setTop (mkF m 109 #[.val (.int p0), .val (.int p1), .val (.int p2), .val (.int p3), .val (.int p4), .val (.int p5), .val (.int (5 : Int32)), .val (.ref b1), .unset] [(.int (1 : Int32)), (.ref b1)])) (fun _ k => XS.iconst X20.here hx rfl (hb hby at_108) k) ?_
    refine Goes.step (S' := T20.setTop (mkF m 110 #[.val (.int p0), .val (.int p1), .val (.int p2), .val (.int p3), .val (.int p4), .val (.int p5), .val (.int (5 : Int32)), .val (.ref b1), .unset] [(.int (-271733879 : Int32))])) (fun _ k => own_iaload X20 hx hZ rfl V21 ⟨by decide, by decide⟩ (hb hby at_109) _ k) ?_
    refine Goes.step (S' := T20.setTop (mkF m 112 #[.val (.int p0), .val (.int p1), .val (.int p2), .val (.int p3), .val (.int p4), .val (.int p5), .val (.int (5 : Int32)), .val (.ref b1), .unset] [(.int (-271733879 : Int32)), (.int (-271733879 : Int32))])) (fun _ k => X20.ldcInt hx hown (mvT hZ (hw _ (List.mem_of_getElem? (i := 11) rfl))) (g := (mkF m 110 #[.val (.int p0), .val (.int p1), .val (.int p2), .val (.int p3), .val (.int p4), .val (.int p5), .val (.int (5 : Int32)), .val (.ref b1), .unset] [(.int (-271733879 : Int32))])) rfl (hb hby at_110) _ k) ?_
    refine Goes.step (S' := T20.setTop (mkF m 115 #[.val (.int p0), .val (.int p1), .val (.int p2), .val (.int p3), .val (.int p4), .val (.int p5), .val (.int (5 : Int32)), .val (.ref b1), .unset] [])) (fun _ k => XS.icmpNo X20.here hx rfl (hb hby at_112) rfl (teq (rfl : (-271733879 : Int32) = (-271733879 : Int32))).2 k) ?_
    refine Goes.step (S' := T20.setTop (mkF m 117 #[.val (.int p0), .val (.int p1), .val (.int p2), .val (.int p3), .val (.int p4), .val (.int p5), .val (.int (5 : Int32)), .val (.ref b1), .unset] [(.ref b1)])) (fun _ k => XS.aload X20.here hx rfl (hb hby at_115) rfl rfl k) ?_
    refine Goes.step (S' := T20.setTop (mkF m 118 #[.val (.int p0), .val (.int p1), .val (.int p2), .val (.int p3), .val (.int p4), .val (.int p5), .val (.int (5 : Int32)), .val (.ref b1), .unset] [(.int (2 : Int32)), (.ref b1)])) (fun _ k => XS.iconst X20.here hx rfl (hb hby at_117) k) ?_
    refine Goes.step (S' := T20.setTop (mkF m 119 #[.val (.int p0), .val (.int p1), .val (.int p2), .val (.int p3), .val (.int p4), .val (.int p5), .val (.int (5 : Int32)), .val (.ref b1), .unset] [(.int (-1732584194 : Int32))])) (fun _ k => own_iaload X20 hx hZ rfl V21 ⟨by decide, by decide⟩ (hb hby at_118) _ k) ?_
    refine Goes.step (S' := T20.setTop (mkF m 121 #[.val (.int p0), .val (.int p1), .val (.int p2), .val (.int p3), .val (.int p4), .val (.int p5), .val (.int (5 : Int32)), .val (.ref b1), .unset] [(.int (-1732584194 : Int32)), (.int (-1732584194 : Int32))])) (fun _ k => X20.ldcInt hx hown (mvT hZ (hw _ (List.mem_of_getElem? (i := 12) rfl))) (g := (mkF m 119 #[.val (.int p0), .val (.int p1), .val (.int p2), .val (.int p3), .val (.int p4), .val (.int p5), .val (.int (5 : Int32)), .val (.ref b1), .unset] [(.int (-1732584194 : Int32))])) rfl (hb hby at_119) _ k) ?_
    refine Goes.step (S' := T20.setTop (mkF m 124 #[.val (.int p0), .val (.int p1), .val (.int p2), .val (.int p3), .val (.int p4), .val (.int p5), .val (.int (5 : Int32)), .val (.ref b1), .unset] [])) (fun _ k => XS.icmpNo X20.here hx rfl (hb hby at_121) rfl (teq (rfl : (-1732584194 : Int32) = (-1732584194 : Int32))).2 k) ?_
    refine Goes.step (S' := T20.setTop (mkF m 126 #[.val (.int p0), .val (.int p1), .val (.int p2), .val (.int p3), .val (.int p4), .val (.int p5), .val (.int (5 : Int32)), .val (.ref b1), .unset] [(.ref b1)])) (fun _ k => XS.aload X20.here hx rfl (hb hby at_124) rfl rfl k) ?_
    refine Goes.step (S' := T20.setTop (mkF m 127 #[.val (.int p0), .val (.int p1), .val (.int p2), .val (.int p3), .val (.int p4), .val (.int p5), .val (.int (5 : Int32)), .val (.ref b1), .unset] [(.int (3 : Int32)), (.ref b1)])) (fun _ k => XS.iconst X20.here hx rfl (hb hby at_126) k) ?_
    refine Goes.step (S' := T20.setTop (mkF m 128 #[.val (.int p0), .val (.int p1), .val (.int p2), .val (.int p3), .val (.int p4), .val (.int p5), .val (.int (5 : Int32)), .val (.ref b1), .unset] [(.int (271733878 : Int32))])) (fun _ k => own_iaload X20 hx hZ rfl V21 ⟨by decide, by decide⟩ (hb hby at_127) _ k) ?_
    refine Goes.step (S' := T20.setTop (mkF m 130 #[.val (.int p0), .val (.int p1), .val (.int p2), .val (.int p3), .val (.int p4), .val (.int p5), .val (.int (5 : Int32)), .val (.ref b1), .unset] [(.int (271733878 : Int32)), (.int (271733878 : Int32))])) (fun _ k => X20.ldcInt hx hown (mvT hZ (hw _ (List.mem_of_getElem? (i := 13) rfl))) (g := (mkF m 128 #[.val (.int p0), .val (.int p1), .val (.int p2), .val (.int p3), .val (.int p4), .val (.int p5), .val (.int (5 : Int32)), .val (.ref b1), .unset] [(.int (271733878 : Int32))])) rfl (hb hby at_128) _ k) ?_
    refine Goes.step (S' := T20.setTop (mkF m 133 #[.val (.int p0), .val (.int p1), .val (.int p2), .val (.int p3), .val (.int p4), .val (.int p5), .val (.int (5 : Int32)), .val (.ref b1), .unset] [])) (fun _ k => XS.icmpNo X20.here hx rfl (hb hby at_130) rfl (teq (rfl : (271733878 : Int32) = (271733878 : Int32))).2 k) ?_
    refine Goes.step (S' := T20.setTop (mkF m 135 #[.val (.int p0), .val (.int p1), .val (.int p2), .val (.int p3), .val (.int p4), .val (.int p5), .val (.int (5 : Int32)), .val (.ref b1), .unset] [(.ref b1)])) (fun _ k => XS.aload X20.here hx rfl (hb hby at_133) rfl rfl k) ?_
    refine Goes.step (S' := T20.setTop (mkF m 136 #[.val (.int p0), .val (.int p1), .val (.int p2), .val (.int p3), .val (.int p4), .val (.int p5), .val (.int (5 : Int32)), .val (.ref b1), .unset] [(.int (4 : Int32)), (.ref b1)])) (fun _ k => XS.iconst X20.here hx rfl (hb hby at_135) k) ?_
    refine Goes.step (S' := T20.setTop (mkF m 137 #[.val (.int p0), .val (.int p1), .val (.int p2), .val (.int p3), .val (.int p4), .val (.int p5), .val (.int (5 : Int32)), .val (.ref b1), .unset] [(.int (-1009589776 : Int32))])) (fun _ k => own_iaload X20 hx hZ rfl V21 ⟨by decide, by decide⟩ (hb hby at_136) _ k) ?_
    refine Goes.step (S' := T20.setTop (mkF m 139 #[.val (.int p0), .val (.int p1), .val (.int p2), .val (.int p3), .val (.int p4), .val (.int p5), .val (.int (5 : Int32)), .val (.ref b1), .unset] [(.int (-1009589776 : Int32)), (.int (-1009589776 : Int32))])) (fun _ k => X20.ldcInt hx hown (mvT hZ (hw _ (List.mem_of_getElem? (i := 14) rfl))) (g := (mkF m 137 #[.val (.int p0), .val (.int p1), .val (.int p2), .val (.int p3), .val (.int p4), .val (.int p5), .val (.int (5 : Int32)), .val (.ref b1), .unset] [(.int (-1009589776 : Int32))])) rfl (hb hby at_137) _ k) ?_
    refine Goes.step (S' := T20.setTop (mkF m 142 #[.val (.int p0), .val (.int p1), .val (.int p2), .val (.int p3), .val (.int p4), .val (.int p5), .val (.int (5 : Int32)), .val (.ref b1), .unset] [])) (fun _ k => XS.icmpNo X20.here hx rfl (hb hby at_139) rfl (teq (rfl : (-1009589776 : Int32) = (-1009589776 : Int32))).2 k) ?_
    refine Goes.step (S' := T20.setTop (mkF m 143 #[.val (.int p0), .val (.int p1), .val (.int p2), .val (.int p3), .val (.int p4), .val (.int p5), .val (.int (5 : Int32)), .val (.ref b1), .unset] [(.int (1 : Int32))])) (fun _ k => XS.iconst X20.here hx rfl (hb hby at_142) k) ?_
    refine Goes.step (S' := T20.setTop (mkF m 147 #[.val (.int p0), .val (.int p1), .val (.int p2), .val (.int p3), .val (.int p4), .val (.int p5), .val (.int (5 : Int32)), .val (.ref b1), .unset] [(.int (1 : Int32))])) (fun _ k => XS.goto X20.here hx rfl (pc0 := 143) (pc' := 147) rfl (hb hby at_143) (by decide) (by decide) k) ?_
    refine Goes.step (S' := T20.setTop (mkF m 149 #[.val (.int p0), .val (.int p1), .val (.int p2), .val (.int p3), .val (.int p4), .val (.int p5), .val (.int (5 : Int32)), .val (.ref b1), .val (.int (1 : Int32))] [])) (fun _ k => XS.istore X20.here hx rfl (hb hby at_147) rfl (l' := #[.val (.int p0), .val (.int p1), .val (.int p2), .val (.int p3), .val (.int p4), .val (.int p5), .val (.int (5 : Int32)), .val (.ref b1), .val (.int (1 : Int32))]) rfl k) ?_
    refine Goes.step (S' := T20.setTop (mkF m 151 #[.val (.int p0), .val (.int p1), .val (.int p2), .val (.int p3), .val (.int p4), .val (.int p5), .val (.int (5 : Int32)), .val (.ref b1), .val (.int (1 : Int32))] [(.int (5 : Int32))])) (fun _ k => XS.iload X20.here hx rfl (hb hby at_149) rfl  k) ?_
    refine Goes.step (S' := T20.setTop (mkF m 152 #[.val (.int p0), .val (.int p1), .val (.int p2), .val (.int p3), .val (.int p4), .val (.int p5), .val (.int (5 : Int32)), .val (.ref b1), .val (.int (1 : Int32))] [(.int (5 : Int32)), (.int (5 : Int32))])) (fun _ k => XS.iconst X20.here hx rfl (hb hby at_151) k) ?_
    refine Goes.step (S' := T20.setTop (mkF m 167 #[.val (.int p0), .val (.int p1), .val (.int p2), .val (.int p3), .val (.int p4), .val (.int p5), .val (.int (5 : Int32)), .val (.ref b1), .val (.int (1 : Int32))] [])) (fun _ k => XS.icmpYes X20.here hx rfl (pc0 := 152) (pc' := 167) rfl (hb hby at_152) rfl (flt (by decide)).2.2.2 (by decide) (by decide) k) ?_
    refine Goes.step (S' := T20.setTop (mkF m 169 #[.val (.int p0), .val (.int p1), .val (.int p2), .val (.int p3), .val (.int p4), .val (.int p5), .val (.int (5 : Int32)), .val (.ref b1), .val (.int (1 : Int32))] [(.int (5 : Int32))])) (fun _ k => XS.iload X20.here hx rfl (hb hby at_167) rfl  k) ?_
    refine Goes.step (S' := T20.setTop (mkF m 171 #[.val (.int p0), .val (.int p1), .val (.int p2), .val (.int p3), .val (.int p4), .val (.int p5), .val (.int (5 : Int32)), .val (.ref b1), .val (.int (1 : Int32))] [(.int (6 : Int32)), (.int (5 : Int32))])) (fun _ k => XS.bipush X20.here hx rfl (hb hby at_169) k) ?_
    refine Goes.step (S' := T20.setTop (mkF m 189 #[.val (.int p0), .val (.int p1), .val (.int p2), .val (.int p3), .val (.int p4), .val (.int p5), .val (.int (5 : Int32)), .val (.ref b1), .val (.int (1 : Int32))] [])) (fun _ k => XS.icmpYes X20.here hx rfl (pc0 := 171) (pc' := 189) rfl (hb hby at_171) rfl (flt (by decide)).2.2.2 (by decide) (by decide) k) ?_
    refine Goes.step (S' := T20.setTop (mkF m 191 #[.val (.int p0), .val (.int p1), .val (.int p2), .val (.int p3), .val (.int p4), .val (.int p5), .val (.int (5 : Int32)), .val (.ref b1), .val (.int (1 : Int32))] [(.int (5 : Int32))])) (fun _ k => XS.iload X20.here hx rfl (hb hby at_189) rfl  k) ?_
    refine Goes.step (S' := T20.setTop (mkF m 193 #[.val (.int p0), .val (.int p1), .val (.int p2), .val (.int p3), .val (.int p4), .val (.int p5), .val (.int (5 : Int32)), .val (.ref b1), .val (.int (1 : Int32))] [(.int (7 : Int32)), (.int (5 : Int32))])) (fun _ k => XS.bipush X20.here hx rfl (hb hby at_191) k) ?_
    refine Goes.step (S' := T20.setTop (mkF m 211 #[.val (.int p0), .val (.int p1), .val (.int p2), .val (.int p3), .val (.int p4), .val (.int p5), .val (.int (5 : Int32)), .val (.ref b1), .val (.int (1 : Int32))] [])) (fun _ k => XS.icmpYes X20.here hx rfl (pc0 := 193) (pc' := 211) rfl (hb hby at_193) rfl (flt (by decide)).2.2.2 (by decide) (by decide) k) ?_
    refine Goes.step (S' := T20.setTop (mkF m 213 #[.val (.int p0), .val (.int p1), .val (.int p2), .val (.int p3), .val (.int p4), .val (.int p5), .val (.int (5 : Int32)), .val (.ref b1), .val (.int (1 : Int32))] [(.int (1 : Int32))])) (fun _ k => XS.iload X20.here hx rfl (hb hby at_211) rfl  k) ?_
    refine Goes.retN X20 hx Bd.notSynchronized (t := .boolean) Bd.returns (by simp) (hb hby at_213) (by decide) (by decide) ?_
    exact ⟨rfl, N22⟩
  · refine Goes.step (S' := s₁.setTop (mkF m 10 #[.val (.int p0), .val (.int p1), .val (.int p2), .val (.int p3), .val (.int p4), .val (.int p5), .val (.int (6 : Int32)), .unset, .unset] [(.int (6 : Int32))])) (fun _ k => XS.iload X0.here hx rfl (hb hby at_8) rfl  k) ?_
    obtain ⟨T24, h24, k24, X24, e24, E24, A24, st24⟩ := newP X0 hx hZ (hw _ (List.mem_of_getElem? (i := 0) rfl)) e0 (g := (mkF m 10 #[.val (.int p0), .val (.int p1), .val (.int p2), .val (.int p3), .val (.int p4), .val (.int p5), .val (.int (6 : Int32)), .unset, .unset] [(.int (6 : Int32))])) rfl (hb hby at_10) rfl (by decide) (cap := 6) (by decide) (by decide) (by decide) (by decide)
    obtain ⟨b24, g24⟩ : ∃ z, z = h0.size := ⟨_, rfl⟩
    rw [← g24] at A24 st24
    have g25 : n0 ≤ b24 := Nat.le_trans Z0 (Nat.le_of_eq g24.symm)
    have Z26 : n0 ≤ h24.size := Nat.le_trans Z0 E24.1
    have V27 : AI Z h24 b24 k24 .int (6 : Int32) [(0 : Int32), (0 : Int32), (0 : Int32), (0 : Int32), (0 : Int32), (0 : Int32)] := own_new A24 (by decide) rfl
    refine Goes.step (S' := T24.setTop (mkF m 12 #[.val (.int p0), .val (.int p1), .val (.int p2), .val (.int p3), .val (.int p4), .val (.int p5), .val (.int (6 : Int32)), .unset, .unset] [(.ref b24)])) st24 ?_
    refine Goes.step (S' := T24.setTop (mkF m 14 #[.val (.int p0), .val (.int p1), .val (.int p2), .val (.int p3), .val (.int p4), .val (.int p5), .val (.int (6 : Int32)), .val (.ref b24), .unset] [])) (fun _ k => XS.astore X24.here hx rfl (hb hby at_12) rfl rfl (l' := #[.val (.int p0), .val (.int p1), .val (.int p2), .val (.int p3), .val (.int p4), .val (.int p5), .val (.int (6 : Int32)), .val (.ref b24), .unset]) rfl k) ?_
    refine Goes.step (S' := T24.setTop (mkF m 16 #[.val (.int p0), .val (.int p1), .val (.int p2), .val (.int p3), .val (.int p4), .val (.int p5), .val (.int (6 : Int32)), .val (.ref b24), .unset] [(.ref b24)])) (fun _ k => XS.aload X24.here hx rfl (hb hby at_14) rfl rfl k) ?_
    refine Goes.step (S' := T24.setTop (mkF m 17 #[.val (.int p0), .val (.int p1), .val (.int p2), .val (.int p3), .val (.int p4), .val (.int p5), .val (.int (6 : Int32)), .val (.ref b24), .unset] [(.int (0 : Int32)), (.ref b24)])) (fun _ k => XS.iconst X24.here hx rfl (hb hby at_16) k) ?_
    refine Goes.step (S' := T24.setTop (mkF m 18 #[.val (.int p0), .val (.int p1), .val (.int p2), .val (.int p3), .val (.int p4), .val (.int p5), .val (.int (6 : Int32)), .val (.ref b24), .unset] [(.int p0), (.int (0 : Int32)), (.ref b24)])) (fun _ k => XS.iloadN X24.here hx rfl (hb hby at_17) rfl  k) ?_
    obtain ⟨T28, h28, X28, e28, W28, V_28, st28⟩ := own_iastore X24 hx hZ e24 V27 ⟨by decide, by decide⟩ (g := (mkF m 18 #[.val (.int p0), .val (.int p1), .val (.int p2), .val (.int p3), .val (.int p4), .val (.int p5), .val (.int (6 : Int32)), .val (.ref b24), .unset] [(.int p0), (.int (0 : Int32)), (.ref b24)])) rfl rfl (hb hby at_18)
    replace V_28 : AI Z h28 b24 k24 .int (6 : Int32) [p0, (0 : Int32), (0 : Int32), (0 : Int32), (0 : Int32), (0 : Int32)] := V_28
    have N29 := Fr.snoc X28 N0 g25
    have Z30 : n0 ≤ h28.size := Nat.le_trans Z26 (Nat.le_of_eq W28.size.symm)
    refine Goes.step (S' := T28.setTop (mkF m 19 #[.val (.int p0), .val (.int p1), .val (.int p2), .val (.int p3), .val (.int p4), .val (.int p5), .val (.int (6 : Int32)), .val (.ref b24), .unset] [])) st28 ?_
    refine Goes.step (S' := T28.setTop (mkF m 21 #[.val (.int p0), .val (.int p1), .val (.int p2), .val (.int p3), .val (.int p4), .val (.int p5), .val (.int (6 : Int32)), .val (.ref b24), .unset] [(.ref b24)])) (fun _ k => XS.aload X28.here hx rfl (hb hby at_19) rfl rfl k) ?_
    refine Goes.step (S' := T28.setTop (mkF m 22 #[.val (.int p0), .val (.int p1), .val (.int p2), .val (.int p3), .val (.int p4), .val (.int p5), .val (.int (6 : Int32)), .val (.ref b24), .unset] [(.int (1 : Int32)), (.ref b24)])) (fun _ k => XS.iconst X28.here hx rfl (hb hby at_21) k) ?_
    refine Goes.step (S' := T28.setTop (mkF m 23 #[.val (.int p0), .val (.int p1), .val (.int p2), .val (.int p3), .val (.int p4), .val (.int p5), .val (.int (6 : Int32)), .val (.ref b24), .unset] [(.int p1), (.int (1 : Int32)), (.ref b24)])) (fun _ k => XS.iloadN X28.here hx rfl (hb hby at_22) rfl  k) ?_
    obtain ⟨T31, h31, X31, e31, W31, V_31, st31⟩ := own_iastore X28 hx hZ e28 V_28 ⟨by decide, by decide⟩ (g := (mkF m 23 #[.val (.int p0), .val (.int p1), .val (.int p2), .val (.int p3), .val (.int p4), .val (.int p5), .val (.int (6 : Int32)), .val (.ref b24), .unset] [(.int p1), (.int (1 : Int32)), (.ref b24)])) rfl rfl (hb hby at_23)
    replace V_31 : AI Z h31 b24 k24 .int (6 : Int32) [p0, p1, (0 : Int32), (0 : Int32), (0 : Int32), (0 : Int32)] := V_31
    have N32 := Fr.snoc X31 N29 g25
    have Z33 : n0 ≤ h31.size := Nat.le_trans Z30 (Nat.le_of_eq W31.size.symm)
    refine Goes.step (S' := T31.setTop (mkF m 24 #[.val (.int p0), .val (.int p1), .val (.int p2), .val (.int p3), .val (.int p4), .val (.int p5), .val (.int (6 : Int32)), .val (.ref b24), .unset] [])) st31 ?_
    refine Goes.step (S' := T31.setTop (mkF m 26 #[.val (.int p0), .val (.int p1), .val (.int p2), .val (.int p3), .val (.int p4), .val (.int p5), .val (.int (6 : Int32)), .val (.ref b24), .unset] [(.ref b24)])) (fun _ k => XS.aload X31.here hx rfl (hb hby at_24) rfl rfl k) ?_
    refine Goes.step (S' := T31.setTop (mkF m 27 #[.val (.int p0), .val (.int p1), .val (.int p2), .val (.int p3), .val (.int p4), .val (.int p5), .val (.int (6 : Int32)), .val (.ref b24), .unset] [(.int (2 : Int32)), (.ref b24)])) (fun _ k => XS.iconst X31.here hx rfl (hb hby at_26) k) ?_
    refine Goes.step (S' := T31.setTop (mkF m 28 #[.val (.int p0), .val (.int p1), .val (.int p2), .val (.int p3), .val (.int p4), .val (.int p5), .val (.int (6 : Int32)), .val (.ref b24), .unset] [(.int p2), (.int (2 : Int32)), (.ref b24)])) (fun _ k => XS.iloadN X31.here hx rfl (hb hby at_27) rfl  k) ?_
    obtain ⟨T34, h34, X34, e34, W34, V_34, st34⟩ := own_iastore X31 hx hZ e31 V_31 ⟨by decide, by decide⟩ (g := (mkF m 28 #[.val (.int p0), .val (.int p1), .val (.int p2), .val (.int p3), .val (.int p4), .val (.int p5), .val (.int (6 : Int32)), .val (.ref b24), .unset] [(.int p2), (.int (2 : Int32)), (.ref b24)])) rfl rfl (hb hby at_28)
    replace V_34 : AI Z h34 b24 k24 .int (6 : Int32) [p0, p1, p2, (0 : Int32), (0 : Int32), (0 : Int32)] := V_34
    have N35 := Fr.snoc X34 N32 g25
    have Z36 : n0 ≤ h34.size := Nat.le_trans Z33 (Nat.le_of_eq W34.size.symm)
    refine Goes.step (S' := T34.setTop (mkF m 29 #[.val (.int p0), .val (.int p1), .val (.int p2), .val (.int p3), .val (.int p4), .val (.int p5), .val (.int (6 : Int32)), .val (.ref b24), .unset] [])) st34 ?_
    refine Goes.step (S' := T34.setTop (mkF m 31 #[.val (.int p0), .val (.int p1), .val (.int p2), .val (.int p3), .val (.int p4), .val (.int p5), .val (.int (6 : Int32)), .val (.ref b24), .unset] [(.ref b24)])) (fun _ k => XS.aload X34.here hx rfl (hb hby at_29) rfl rfl k) ?_
    refine Goes.step (S' := T34.setTop (mkF m 32 #[.val (.int p0), .val (.int p1), .val (.int p2), .val (.int p3), .val (.int p4), .val (.int p5), .val (.int (6 : Int32)), .val (.ref b24), .unset] [(.int (3 : Int32)), (.ref b24)])) (fun _ k => XS.iconst X34.here hx rfl (hb hby at_31) k) ?_
    refine Goes.step (S' := T34.setTop (mkF m 33 #[.val (.int p0), .val (.int p1), .val (.int p2), .val (.int p3), .val (.int p4), .val (.int p5), .val (.int (6 : Int32)), .val (.ref b24), .unset] [(.int p3), (.int (3 : Int32)), (.ref b24)])) (fun _ k => XS.iloadN X34.here hx rfl (hb hby at_32) rfl  k) ?_
    obtain ⟨T37, h37, X37, e37, W37, V_37, st37⟩ := own_iastore X34 hx hZ e34 V_34 ⟨by decide, by decide⟩ (g := (mkF m 33 #[.val (.int p0), .val (.int p1), .val (.int p2), .val (.int p3), .val (.int p4), .val (.int p5), .val (.int (6 : Int32)), .val (.ref b24), .unset] [(.int p3), (.int (3 : Int32)), (.ref b24)])) rfl rfl (hb hby at_33)
    replace V_37 : AI Z h37 b24 k24 .int (6 : Int32) [p0, p1, p2, p3, (0 : Int32), (0 : Int32)] := V_37
    have N38 := Fr.snoc X37 N35 g25
    have Z39 : n0 ≤ h37.size := Nat.le_trans Z36 (Nat.le_of_eq W37.size.symm)
    refine Goes.step (S' := T37.setTop (mkF m 34 #[.val (.int p0), .val (.int p1), .val (.int p2), .val (.int p3), .val (.int p4), .val (.int p5), .val (.int (6 : Int32)), .val (.ref b24), .unset] [])) st37 ?_
    refine Goes.step (S' := T37.setTop (mkF m 36 #[.val (.int p0), .val (.int p1), .val (.int p2), .val (.int p3), .val (.int p4), .val (.int p5), .val (.int (6 : Int32)), .val (.ref b24), .unset] [(.ref b24)])) (fun _ k => XS.aload X37.here hx rfl (hb hby at_34) rfl rfl k) ?_
    refine Goes.step (S' := T37.setTop (mkF m 37 #[.val (.int p0), .val (.int p1), .val (.int p2), .val (.int p3), .val (.int p4), .val (.int p5), .val (.int (6 : Int32)), .val (.ref b24), .unset] [(.int (4 : Int32)), (.ref b24)])) (fun _ k => XS.iconst X37.here hx rfl (hb hby at_36) k) ?_
    refine Goes.step (S' := T37.setTop (mkF m 39 #[.val (.int p0), .val (.int p1), .val (.int p2), .val (.int p3), .val (.int p4), .val (.int p5), .val (.int (6 : Int32)), .val (.ref b24), .unset] [(.int p4), (.int (4 : Int32)), (.ref b24)])) (fun _ k => XS.iload X37.here hx rfl (hb hby at_37) rfl  k) ?_
    obtain ⟨T40, h40, X40, e40, W40, V_40, st40⟩ := own_iastore X37 hx hZ e37 V_37 ⟨by decide, by decide⟩ (g := (mkF m 39 #[.val (.int p0), .val (.int p1), .val (.int p2), .val (.int p3), .val (.int p4), .val (.int p5), .val (.int (6 : Int32)), .val (.ref b24), .unset] [(.int p4), (.int (4 : Int32)), (.ref b24)])) rfl rfl (hb hby at_39)
    replace V_40 : AI Z h40 b24 k24 .int (6 : Int32) [p0, p1, p2, p3, p4, (0 : Int32)] := V_40
    have N41 := Fr.snoc X40 N38 g25
    have Z42 : n0 ≤ h40.size := Nat.le_trans Z39 (Nat.le_of_eq W40.size.symm)
    refine Goes.step (S' := T40.setTop (mkF m 40 #[.val (.int p0), .val (.int p1), .val (.int p2), .val (.int p3), .val (.int p4), .val (.int p5), .val (.int (6 : Int32)), .val (.ref b24), .unset] [])) st40 ?_
    refine Goes.step (S' := T40.setTop (mkF m 42 #[.val (.int p0), .val (.int p1), .val (.int p2), .val (.int p3), .val (.int p4), .val (.int p5), .val (.int (6 : Int32)), .val (.ref b24), .unset] [(.int (6 : Int32))])) (fun _ k => XS.iload X40.here hx rfl (hb hby at_40) rfl  k) ?_
    refine Goes.step (S' := T40.setTop (mkF m 43 #[.val (.int p0), .val (.int p1), .val (.int p2), .val (.int p3), .val (.int p4), .val (.int p5), .val (.int (6 : Int32)), .val (.ref b24), .unset] [(.int (5 : Int32)), (.int (6 : Int32))])) (fun _ k => XS.iconst X40.here hx rfl (hb hby at_42) k) ?_
    refine Goes.step (S' := T40.setTop (mkF m 46 #[.val (.int p0), .val (.int p1), .val (.int p2), .val (.int p3), .val (.int p4), .val (.int p5), .val (.int (6 : Int32)), .val (.ref b24), .unset] [])) (fun _ k => XS.icmpNo X40.here hx rfl (hb hby at_43) rfl (tlt (by decide)).2.2.2 k) ?_
    refine Goes.step (S' := T40.setTop (mkF m 48 #[.val (.int p0), .val (.int p1), .val (.int p2), .val (.int p3), .val (.int p4), .val (.int p5), .val (.int (6 : Int32)), .val (.ref b24), .unset] [(.ref b24)])) (fun _ k => XS.aload X40.here hx rfl (hb hby at_46) rfl rfl k) ?_
    refine Goes.step (S' := T40.setTop (mkF m 49 #[.val (.int p0), .val (.int p1), .val (.int p2), .val (.int p3), .val (.int p4), .val (.int p5), .val (.int (6 : Int32)), .val (.ref b24), .unset] [(.int (5 : Int32)), (.ref b24)])) (fun _ k => XS.iconst X40.here hx rfl (hb hby at_48) k) ?_
    refine Goes.step (S' := T40.setTop (mkF m 51 #[.val (.int p0), .val (.int p1), .val (.int p2), .val (.int p3), .val (.int p4), .val (.int p5), .val (.int (6 : Int32)), .val (.ref b24), .unset] [(.int p5), (.int (5 : Int32)), (.ref b24)])) (fun _ k => XS.iload X40.here hx rfl (hb hby at_49) rfl  k) ?_
    obtain ⟨T43, h43, X43, e43, W43, V_43, st43⟩ := own_iastore X40 hx hZ e40 V_40 ⟨by decide, by decide⟩ (g := (mkF m 51 #[.val (.int p0), .val (.int p1), .val (.int p2), .val (.int p3), .val (.int p4), .val (.int p5), .val (.int (6 : Int32)), .val (.ref b24), .unset] [(.int p5), (.int (5 : Int32)), (.ref b24)])) rfl rfl (hb hby at_51)
    replace V_43 : AI Z h43 b24 k24 .int (6 : Int32) [p0, p1, p2, p3, p4, p5] := V_43
    have N44 := Fr.snoc X43 N41 g25
    have Z45 : n0 ≤ h43.size := Nat.le_trans Z42 (Nat.le_of_eq W43.size.symm)
    refine Goes.step (S' := T43.setTop (mkF m 52 #[.val (.int p0), .val (.int p1), .val (.int p2), .val (.int p3), .val (.int p4), .val (.int p5), .val (.int (6 : Int32)), .val (.ref b24), .unset] [])) st43 ?_
    refine Goes.step (S' := T43.setTop (mkF m 54 #[.val (.int p0), .val (.int p1), .val (.int p2), .val (.int p3), .val (.int p4), .val (.int p5), .val (.int (6 : Int32)), .val (.ref b24), .unset] [(.int (6 : Int32))])) (fun _ k => XS.iload X43.here hx rfl (hb hby at_52) rfl  k) ?_
    refine Goes.step (S' := T43.setTop (mkF m 56 #[.val (.int p0), .val (.int p1), .val (.int p2), .val (.int p3), .val (.int p4), .val (.int p5), .val (.int (6 : Int32)), .val (.ref b24), .unset] [(.int (6 : Int32)), (.int (6 : Int32))])) (fun _ k => XS.bipush X43.here hx rfl (hb hby at_54) k) ?_
    refine Goes.step (S' := T43.setTop (mkF m 68 #[.val (.int p0), .val (.int p1), .val (.int p2), .val (.int p3), .val (.int p4), .val (.int p5), .val (.int (6 : Int32)), .val (.ref b24), .unset] [])) (fun _ k => XS.icmpYes X43.here hx rfl (pc0 := 56) (pc' := 68) rfl (hb hby at_56) rfl (flt (by decide)).2.2.2 (by decide) (by decide) k) ?_
    refine Goes.step (S' := T43.setTop (mkF m 70 #[.val (.int p0), .val (.int p1), .val (.int p2), .val (.int p3), .val (.int p4), .val (.int p5), .val (.int (6 : Int32)), .val (.ref b24), .unset] [(.int (6 : Int32))])) (fun _ k => XS.iload X43.here hx rfl (hb hby at_68) rfl  k) ?_
    refine Goes.step (S' := T43.setTop (mkF m 72 #[.val (.int p0), .val (.int p1), .val (.int p2), .val (.int p3), .val (.int p4), .val (.int p5), .val (.int (6 : Int32)), .val (.ref b24), .unset] [(.int (7 : Int32)), (.int (6 : Int32))])) (fun _ k => XS.bipush X43.here hx rfl (hb hby at_70) k) ?_
    refine Goes.step (S' := T43.setTop (mkF m 84 #[.val (.int p0), .val (.int p1), .val (.int p2), .val (.int p3), .val (.int p4), .val (.int p5), .val (.int (6 : Int32)), .val (.ref b24), .unset] [])) (fun _ k => XS.icmpYes X43.here hx rfl (pc0 := 72) (pc' := 84) rfl (hb hby at_72) rfl (flt (by decide)).2.2.2 (by decide) (by decide) k) ?_
    refine Goes.step (S' := T43.setTop (mkF m 86 #[.val (.int p0), .val (.int p1), .val (.int p2), .val (.int p3), .val (.int p4), .val (.int p5), .val (.int (6 : Int32)), .val (.ref b24), .unset] [(.ref b24)])) (fun _ k => XS.aload X43.here hx rfl (hb hby at_84) rfl rfl k) ?_
    obtain ⟨_, _, ⟨T46, L46, k46, n46⟩, -, X46, ⟨Lc46, hQ46, l46, y46, z46⟩, st46⟩ := Jvm.LawKit.callS X43 hx (y := (⟨"fivewords/Sha1Block", "reset", "([I)V"⟩ : MethodName)) hown (mvT hZ (hw _ (List.mem_of_getElem? (i := 1) rfl))) (mvT hZ (hw _ (List.mem_of_getElem? (i := 2) rfl))) (mvT hZ (hw _ (List.mem_of_getElem? (i := 3) rfl))) (mvT hZ (hw _ (List.mem_of_getElem? (i := 4) rfl))) (by decide) (backOf (W := 0) (rm1 l Z a0 hw [] b24 k24 ((6 : Int32)) ([p0, p1, p2, p3, p4, p5]) h43 n0 Z45 V_43 g25 (own_pr0_86_hB_2 p0 p1 p2 p3 p4 p5 ev6_6)) hZ (hw _ (List.mem_of_getElem? (i := 4) rfl)) (hw _ (List.mem_of_getElem? (i := 3) rfl)) (by decide) (by decide)) (g := (mkF m 86 #[.val (.int p0), .val (.int p1), .val (.int p2), .val (.int p3), .val (.int p4), .val (.int p5), .val (.int (6 : Int32)), .val (.ref b24), .unset] [(.ref b24)])) rfl (by rw [hml]; rfl) (argsL := [(.ref b24)]) (rest := []) (lenOf pd0 rfl) rfl (by show 2 * 0 + _ ≤ _; exact Nat.le_of_eq rfl) (hb hby at_86) (fun _ _ => ⟨rfl, e43, (by decide : 1 + 0 ≤ _), (by decide : 6 + 0 ≤ _)⟩)
    dsimp only [Pt.U, Pt.locs, Pt.cells, Pt.slots] at X46 l46 y46 z46 st46 hQ46
    subst l46 y46 z46
    obtain ⟨rfl, N46q, K46q, V47⟩ := hQ46
    have N48 := Fr.app N44 N46q
    have Z49 : n0 ≤ T46.heap.size := Nat.le_trans Z45 K46q.1
    replace V47 : AI Z T46.heap b24 k24 .int (6 : Int32) [(1732584193 : Int32), (-271733879 : Int32), (-1732584194 : Int32), (271733878 : Int32), (-1009589776 : Int32), p5] := V47
    refine Goes.step (S' := T46.setTop (mkF m 89 #[.val (.int p0), .val (.int p1), .val (.int p2), .val (.int p3), .val (.int p4), .val (.int p5), .val (.int (6 : Int32)), .val (.ref b24), .unset] [])) st46 ?_
    refine Goes.step (S' := T46.setTop (mkF m 91 #[.val (.int p0), .val (.int p1), .val (.int p2), .val (.int p3), .val (.int p4), .val (.int p5), .val (.int (6 : Int32)), .val (.ref b24), .unset] [(.ref b24)])) (fun _ k => XS.aload X46.here hx rfl (hb hby at_89) rfl rfl k) ?_
    refine Goes.step (S' := T46.setTop (mkF m 92 #[.val (.int p0), .val (.int p1), .val (.int p2), .val (.int p3), .val (.int p4), .val (.int p5), .val (.int (6 : Int32)), .val (.ref b24), .unset] [(.int (6 : Int32))])) (fun _ k => own_len X46 hx hZ rfl V47 (hb hby at_91) _ k) ?_
    refine Goes.step (S' := T46.setTop (mkF m 94 #[.val (.int p0), .val (.int p1), .val (.int p2), .val (.int p3), .val (.int p4), .val (.int p5), .val (.int (6 : Int32)), .val (.ref b24), .unset] [(.int (6 : Int32)), (.int (6 : Int32))])) (fun _ k => XS.iload X46.here hx rfl (hb hby at_92) rfl  k) ?_
    refine Goes.step (S' := T46.setTop (mkF m 97 #[.val (.int p0), .val (.int p1), .val (.int p2), .val (.int p3), .val (.int p4), .val (.int p5), .val (.int (6 : Int32)), .val (.ref b24), .unset] [])) (fun _ k => XS.icmpNo X46.here hx rfl (hb hby at_94) rfl (teq (rfl : (6 : Int32) = (6 : Int32))).2 k) ?_
    refine Goes.step (S' := T46.setTop (mkF m 99 #[.val (.int p0), .val (.int p1), .val (.int p2), .val (.int p3), .val (.int p4), .val (.int p5), .val (.int (6 : Int32)), .val (.ref b24), .unset] [(.ref b24)])) (fun _ k => XS.aload X46.here hx rfl (hb hby at_97) rfl rfl k) ?_
    refine Goes.step (S' := T46.setTop (mkF m 100 #[.val (.int p0), .val (.int p1), .val (.int p2), .val (.int p3), .val (.int p4), .val (.int p5), .val (.int (6 : Int32)), .val (.ref b24), .unset] [(.int (0 : Int32)), (.ref b24)])) (fun _ k => XS.iconst X46.here hx rfl (hb hby at_99) k) ?_
    refine Goes.step (S' := T46.setTop (mkF m 101 #[.val (.int p0), .val (.int p1), .val (.int p2), .val (.int p3), .val (.int p4), .val (.int p5), .val (.int (6 : Int32)), .val (.ref b24), .unset] [(.int (1732584193 : Int32))])) (fun _ k => own_iaload X46 hx hZ rfl V47 ⟨by decide, by decide⟩ (hb hby at_100) _ k) ?_
    refine Goes.step (S' := T46.setTop (mkF m 103 #[.val (.int p0), .val (.int p1), .val (.int p2), .val (.int p3), .val (.int p4), .val (.int p5), .val (.int (6 : Int32)), .val (.ref b24), .unset] [(.int (1732584193 : Int32)), (.int (1732584193 : Int32))])) (fun _ k => X46.ldcInt hx hown (mvT hZ (hw _ (List.mem_of_getElem? (i := 10) rfl))) (g := (mkF m 101 #[.val (.int p0), .val (.int p1), .val (.int p2), .val (.int p3), .val (.int p4), .val (.int p5), .val (.int (6 : Int32)), .val (.ref b24), .unset] [(.int (1732584193 : Int32))])) rfl (hb hby at_101) _ k) ?_
    refine Goes.step (S' := T46.setTop (mkF m 106 #[.val (.int p0), .val (.int p1), .val (.int p2), .val (.int p3), .val (.int p4), .val (.int p5), .val (.int (6 : Int32)), .val (.ref b24), .unset] [])) (fun _ k => XS.icmpNo X46.here hx rfl (hb hby at_103) rfl (teq (rfl : (1732584193 : Int32) = (1732584193 : Int32))).2 k) ?_
    refine Goes.step (S' := T46.setTop (mkF m 108 #[.val (.int p0), .val (.int p1), .val (.int p2), .val (.int p3), .val (.int p4), .val (.int p5), .val (.int (6 : Int32)), .val (.ref b24), .unset] [(.ref b24)])) (fun _ k => XS.aload X46.here hx rfl (hb hby at_106) rfl rfl k) ?_
    refine Goes.step (S' := T46.setTop (mkF m 109 #[.val (.int p0), .val (.int p1), .val (.int p2), .val (.int p3), .val (.int p4), .val (.int p5), .val (.int (6 : Int32)), .val (.ref b24), .unset] [(.int (1 : Int32)), (.ref b24)])) (fun _ k => XS.iconst X46.here hx rfl (hb hby at_108) k) ?_
    refine Goes.step (S' := T46.setTop (mkF m 110 #[.val (.int p0), .val (.int p1), .val (.int p2), .val (.int p3), .val (.int p4), .val (.int p5), .val (.int (6 : Int32)), .val (.ref b24), .unset] [(.int (-271733879 : Int32))])) (fun _ k => own_iaload X46 hx hZ rfl V47 ⟨by decide, by decide⟩ (hb hby at_109) _ k) ?_
    refine Goes.step (S' := T46.setTop (mkF m 112 #[.val (.int p0), .val (.int p1), .val (.int p2), .val (.int p3), .val (.int p4), .val (.int p5), .val (.int (6 : Int32)), .val (.ref b24), .unset] [(.int (-271733879 : Int32)), (.int (-271733879 : Int32))])) (fun _ k => X46.ldcInt hx hown (mvT hZ (hw _ (List.mem_of_getElem? (i := 11) rfl))) (g := (mkF m 110 #[.val (.int p0), .val (.int p1), .val (.int p2), .val (.int p3), .val (.int p4), .val (.int p5), .val (.int (6 : Int32)), .val (.ref b24), .unset] [(.int (-271733879 : Int32))])) rfl (hb hby at_110) _ k) ?_
    refine Goes.step (S' := T46.setTop (mkF m 115 #[.val (.int p0), .val (.int p1), .val (.int p2), .val (.int p3), .val (.int p4), .val (.int p5), .val (.int (6 : Int32)), .val (.ref b24), .unset] [])) (fun _ k => XS.icmpNo X46.here hx rfl (hb hby at_112) rfl (teq (rfl : (-271733879 : Int32) = (-271733879 : Int32))).2 k) ?_
    refine Goes.step (S' := T46.setTop (mkF m 117 #[.val (.int p0), .val (.int p1), .val (.int p2), .val (.int p3), .val (.int p4), .val (.int p5), .val (.int (6 : Int32)), .val (.ref b24), .unset] [(.ref b24)])) (fun _ k => XS.aload X46.here hx rfl (hb hby at_115) rfl rfl k) ?_
    refine Goes.step (S' := T46.setTop (mkF m 118 #[.val (.int p0), .val (.int p1), .val (.int p2), .val (.int p3), .val (.int p4), .val (.int p5), .val (.int (6 : Int32)), .val (.ref b24), .unset] [(.int (2 : Int32)), (.ref b24)])) (fun _ k => XS.iconst X46.here hx rfl (hb hby at_117) k) ?_
    refine Goes.step (S' := T46.setTop (mkF m 119 #[.val (.int p0), .val (.int p1), .val (.int p2), .val (.int p3), .val (.int p4), .val (.int p5), .val (.int (6 : Int32)), .val (.ref b24), .unset] [(.int (-1732584194 : Int32))])) (fun _ k => own_iaload X46 hx hZ rfl V47 ⟨by decide, by decide⟩ (hb hby at_118) _ k) ?_
    refine Goes.step (S' := T46.setTop (mkF m 121 #[.val (.int p0), .val (.int p1), .val (.int p2), .val (.int p3), .val (.int p4), .val (.int p5), .val (.int (6 : Int32)), .val (.ref b24), .unset] [(.int (-1732584194 : Int32)), (.int (-1732584194 : Int32))])) (fun _ k => X46.ldcInt hx hown (mvT hZ (hw _ (List.mem_of_getElem? (i := 12) rfl))) (g := (mkF m 119 #[.val (.int p0), .val (.int p1), .val (.int p2), .val (.int p3), .val (.int p4), .val (.int p5), .val (.int (6 : Int32)), .val (.ref b24), .unset] [(.int (-1732584194 : Int32))])) rfl (hb hby at_119) _ k) ?_
    refine Goes.step (S' := T46.setTop (mkF m 124 #[.val (.int p0), .val (.int p1), .val (.int p2), .val (.int p3), .val (.int p4), .val (.int p5), .val (.int (6 : Int32)), .val (.ref b24), .unset] [])) (fun _ k => XS.icmpNo X46.here hx rfl (hb hby at_121) rfl (teq (rfl : (-1732584194 : Int32) = (-1732584194 : Int32))).2 k) ?_
    refine Goes.step (S' := T46.setTop (mkF m 126 #[.val (.int p0), .val (.int p1), .val (.int p2), .val (.int p3), .val (.int p4), .val (.int p5), .val (.int (6 : Int32)), .val (.ref b24), .unset] [(.ref b24)])) (fun _ k => XS.aload X46.here hx rfl (hb hby at_124) rfl rfl k) ?_
    refine Goes.step (S' := T46.setTop (mkF m 127 #[.val (.int p0), .val (.int p1), .val (.int p2), .val (.int p3), .val (.int p4), .val (.int p5), .val (.int (6 : Int32)), .val (.ref b24), .unset] [(.int (3 : Int32)), (.ref b24)])) (fun _ k => XS.iconst X46.here hx rfl (hb hby at_126) k) ?_
    refine Goes.step (S' := T46.setTop (mkF m 128 #[.val (.int p0), .val (.int p1), .val (.int p2), .val (.int p3), .val (.int p4), .val (.int p5), .val (.int (6 : Int32)), .val (.ref b24), .unset] [(.int (271733878 : Int32))])) (fun _ k => own_iaload X46 hx hZ rfl V47 ⟨by decide, by decide⟩ (hb hby at_127) _ k) ?_
    refine Goes.step (S' := T46.setTop (mkF m 130 #[.val (.int p0), .val (.int p1), .val (.int p2), .val (.int p3), .val (.int p4), .val (.int p5), .val (.int (6 : Int32)), .val (.ref b24), .unset] [(.int (271733878 : Int32)), (.int (271733878 : Int32))])) (fun _ k => X46.ldcInt hx hown (mvT hZ (hw _ (List.mem_of_getElem? (i := 13) rfl))) (g := (mkF m 128 #[.val (.int p0), .val (.int p1), .val (.int p2), .val (.int p3), .val (.int p4), .val (.int p5), .val (.int (6 : Int32)), .val (.ref b24), .unset] [(.int (271733878 : Int32))])) rfl (hb hby at_128) _ k) ?_
    refine Goes.step (S' := T46.setTop (mkF m 133 #[.val (.int p0), .val (.int p1), .val (.int p2), .val (.int p3), .val (.int p4), .val (.int p5), .val (.int (6 : Int32)), .val (.ref b24), .unset] [])) (fun _ k => XS.icmpNo X46.here hx rfl (hb hby at_130) rfl (teq (rfl : (271733878 : Int32) = (271733878 : Int32))).2 k) ?_
    refine Goes.step (S' := T46.setTop (mkF m 135 #[.val (.int p0), .val (.int p1), .val (.int p2), .val (.int p3), .val (.int p4), .val (.int p5), .val (.int (6 : Int32)), .val (.ref b24), .unset] [(.ref b24)])) (fun _ k => XS.aload X46.here hx rfl (hb hby at_133) rfl rfl k) ?_
    refine Goes.step (S' := T46.setTop (mkF m 136 #[.val (.int p0), .val (.int p1), .val (.int p2), .val (.int p3), .val (.int p4), .val (.int p5), .val (.int (6 : Int32)), .val (.ref b24), .unset] [(.int (4 : Int32)), (.ref b24)])) (fun _ k => XS.iconst X46.here hx rfl (hb hby at_135) k) ?_
    refine Goes.step (S' := T46.setTop (mkF m 137 #[.val (.int p0), .val (.int p1), .val (.int p2), .val (.int p3), .val (.int p4), .val (.int p5), .val (.int (6 : Int32)), .val (.ref b24), .unset] [(.int (-1009589776 : Int32))])) (fun _ k => own_iaload X46 hx hZ rfl V47 ⟨by decide, by decide⟩ (hb hby at_136) _ k) ?_
    refine Goes.step (S' := T46.setTop (mkF m 139 #[.val (.int p0), .val (.int p1), .val (.int p2), .val (.int p3), .val (.int p4), .val (.int p5), .val (.int (6 : Int32)), .val (.ref b24), .unset] [(.int (-1009589776 : Int32)), (.int (-1009589776 : Int32))])) (fun _ k => X46.ldcInt hx hown (mvT hZ (hw _ (List.mem_of_getElem? (i := 14) rfl))) (g := (mkF m 137 #[.val (.int p0), .val (.int p1), .val (.int p2), .val (.int p3), .val (.int p4), .val (.int p5), .val (.int (6 : Int32)), .val (.ref b24), .unset] [(.int (-1009589776 : Int32))])) rfl (hb hby at_137) _ k) ?_
    refine Goes.step (S' := T46.setTop (mkF m 142 #[.val (.int p0), .val (.int p1), .val (.int p2), .val (.int p3), .val (.int p4), .val (.int p5), .val (.int (6 : Int32)), .val (.ref b24), .unset] [])) (fun _ k => XS.icmpNo X46.here hx rfl (hb hby at_139) rfl (teq (rfl : (-1009589776 : Int32) = (-1009589776 : Int32))).2 k) ?_
    refine Goes.step (S' := T46.setTop (mkF m 143 #[.val (.int p0), .val (.int p1), .val (.int p2), .val (.int p3), .val (.int p4), .val (.int p5), .val (.int (6 : Int32)), .val (.ref b24), .unset] [(.int (1 : Int32))])) (fun _ k => XS.iconst X46.here hx rfl (hb hby at_142) k) ?_
    refine Goes.step (S' := T46.setTop (mkF m 147 #[.val (.int p0), .val (.int p1), .val (.int p2), .val (.int p3), .val (.int p4), .val (.int p5), .val (.int (6 : Int32)), .val (.ref b24), .unset] [(.int (1 : Int32))])) (fun _ k => XS.goto X46.here hx rfl (pc0 := 143) (pc' := 147) rfl (hb hby at_143) (by decide) (by decide) k) ?_
    refine Goes.step (S' := T46.setTop (mkF m 149 #[.val (.int p0), .val (.int p1), .val (.int p2), .val (.int p3), .val (.int p4), .val (.int p5), .val (.int (6 : Int32)), .val (.ref b24), .val (.int (1 : Int32))] [])) (fun _ k => XS.istore X46.here hx rfl (hb hby at_147) rfl (l' := #[.val (.int p0), .val (.int p1), .val (.int p2), .val (.int p3), .val (.int p4), .val (.int p5), .val (.int (6 : Int32)), .val (.ref b24), .val (.int (1 : Int32))]) rfl k) ?_
    refine Goes.step (S' := T46.setTop (mkF m 151 #[.val (.int p0), .val (.int p1), .val (.int p2), .val (.int p3), .val (.int p4), .val (.int p5), .val (.int (6 : Int32)), .val (.ref b24), .val (.int (1 : Int32))] [(.int (6 : Int32))])) (fun _ k => XS.iload X46.here hx rfl (hb hby at_149) rfl  k) ?_
    refine Goes.step (S' := T46.setTop (mkF m 152 #[.val (.int p0), .val (.int p1), .val (.int p2), .val (.int p3), .val (.int p4), .val (.int p5), .val (.int (6 : Int32)), .val (.ref b24), .val (.int (1 : Int32))] [(.int (5 : Int32)), (.int (6 : Int32))])) (fun _ k => XS.iconst X46.here hx rfl (hb hby at_151) k) ?_
    refine Goes.step (S' := T46.setTop (mkF m 155 #[.val (.int p0), .val (.int p1), .val (.int p2), .val (.int p3), .val (.int p4), .val (.int p5), .val (.int (6 : Int32)), .val (.ref b24), .val (.int (1 : Int32))] [])) (fun _ k => XS.icmpNo X46.here hx rfl (hb hby at_152) rfl (tlt (by decide)).2.2.2 k) ?_
    refine Goes.step (S' := T46.setTop (mkF m 157 #[.val (.int p0), .val (.int p1), .val (.int p2), .val (.int p3), .val (.int p4), .val (.int p5), .val (.int (6 : Int32)), .val (.ref b24), .val (.int (1 : Int32))] [(.ref b24)])) (fun _ k => XS.aload X46.here hx rfl (hb hby at_155) rfl rfl k) ?_
    refine Goes.step (S' := T46.setTop (mkF m 158 #[.val (.int p0), .val (.int p1), .val (.int p2), .val (.int p3), .val (.int p4), .val (.int p5), .val (.int (6 : Int32)), .val (.ref b24), .val (.int (1 : Int32))] [(.int (5 : Int32)), (.ref b24)])) (fun _ k => XS.iconst X46.here hx rfl (hb hby at_157) k) ?_
    refine Goes.step (S' := T46.setTop (mkF m 159 #[.val (.int p0), .val (.int p1), .val (.int p2), .val (.int p3), .val (.int p4), .val (.int p5), .val (.int (6 : Int32)), .val (.ref b24), .val (.int (1 : Int32))] [(.int p5)])) (fun _ k => own_iaload X46 hx hZ rfl V47 ⟨by decide, by decide⟩ (hb hby at_158) _ k) ?_
    refine Goes.step (S' := T46.setTop (mkF m 161 #[.val (.int p0), .val (.int p1), .val (.int p2), .val (.int p3), .val (.int p4), .val (.int p5), .val (.int (6 : Int32)), .val (.ref b24), .val (.int (1 : Int32))] [(.int p5), (.int p5)])) (fun _ k => XS.iload X46.here hx rfl (hb hby at_159) rfl  k) ?_
    refine Goes.step (S' := T46.setTop (mkF m 167 #[.val (.int p0), .val (.int p1), .val (.int p2), .val (.int p3), .val (.int p4), .val (.int p5), .val (.int (6 : Int32)), .val (.ref b24), .val (.int (1 : Int32))] [])) (fun _ k => XS.icmpYes X46.here hx rfl (pc0 := 161) (pc' := 167) rfl (hb hby at_161) rfl (teq (rfl : p5 = p5)).1 (by decide) (by decide) k) ?_
    refine Goes.step (S' := T46.setTop (mkF m 169 #[.val (.int p0), .val (.int p1), .val (.int p2), .val (.int p3), .val (.int p4), .val (.int p5), .val (.int (6 : Int32)), .val (.ref b24), .val (.int (1 : Int32))] [(.int (6 : Int32))])) (fun _ k => XS.iload X46.here hx rfl (hb hby at_167) rfl  k) ?_
    refine Goes.step (S' := T46.setTop (mkF m 171 #[.val (.int p0), .val (.int p1), .val (.int p2), .val (.int p3), .val (.int p4), .val (.int p5), .val (.int (6 : Int32)), .val (.ref b24), .val (.int (1 : Int32))] [(.int (6 : Int32)), (.int (6 : Int32))])) (fun _ k => XS.bipush X46.here hx rfl (hb hby at_169) k) ?_
    refine Goes.step (S' := T46.setTop (mkF m 189 #[.val (.int p0), .val (.int p1), .val (.int p2), .val (.int p3), .val (.int p4), .val (.int p5), .val (.int (6 : Int32)), .val (.ref b24), .val (.int (1 : Int32))] [])) (fun _ k => XS.icmpYes X46.here hx rfl (pc0 := 171) (pc' := 189) rfl (hb hby at_171) rfl (flt (by decide)).2.2.2 (by decide) (by decide) k) ?_
    refine Goes.step (S' := T46.setTop (mkF m 191 #[.val (.int p0), .val (.int p1), .val (.int p2), .val (.int p3), .val (.int p4), .val (.int p5), .val (.int (6 : Int32)), .val (.ref b24), .val (.int (1 : Int32))] [(.int (6 : Int32))])) (fun _ k => XS.iload X46.here hx rfl (hb hby at_189) rfl  k) ?_
    refine Goes.step (S' := T46.setTop (mkF m 193 #[.val (.int p0), .val (.int p1), .val (.int p2), .val (.int p3), .val (.int p4), .val (.int p5), .val (.int (6 : Int32)), .val (.ref b24), .val (.int (1 : Int32))] [(.int (7 : Int32)), (.int (6 : Int32))])) (fun _ k => XS.bipush X46.here hx rfl (hb hby at_191) k) ?_
    refine Goes.step (S' := T46.setTop (mkF m 211 #[.val (.int p0), .val (.int p1), .val (.int p2), .val (.int p3), .val (.int p4), .val (.int p5), .val (.int (6 : Int32)), .val (.ref b24), .val (.int (1 : Int32))] [])) (fun _ k => XS.icmpYes X46.here hx rfl (pc0 := 193) (pc' := 211) rfl (hb hby at_193) rfl (flt (by decide)).2.2.2 (by decide) (by decide) k) ?_
    refine Goes.step (S' := T46.setTop (mkF m 213 #[.val (.int p0), .val (.int p1), .val (.int p2), .val (.int p3), .val (.int p4), .val (.int p5), .val (.int (6 : Int32)), .val (.ref b24), .val (.int (1 : Int32))] [(.int (1 : Int32))])) (fun _ k => XS.iload X46.here hx rfl (hb hby at_211) rfl  k) ?_
    refine Goes.retN X46 hx Bd.notSynchronized (t := .boolean) Bd.returns (by simp) (hb hby at_213) (by decide) (by decide) ?_
    exact ⟨rfl, N48⟩
  · refine Goes.step (S' := s₁.setTop (mkF m 10 #[.val (.int p0), .val (.int p1), .val (.int p2), .val (.int p3), .val (.int p4), .val (.int p5), .val (.int (7 : Int32)), .unset, .unset] [(.int (7 : Int32))])) (fun _ k => XS.iload X0.here hx rfl (hb hby at_8) rfl  k) ?_
    obtain ⟨T50, h50, k50, X50, e50, E50, A50, st50⟩ := newP X0 hx hZ (hw _ (List.mem_of_getElem? (i := 0) rfl)) e0 (g := (mkF m 10 #[.val (.int p0), .val (.int p1), .val (.int p2), .val (.int p3), .val (.int p4), .val (.int p5), .val (.int (7 : Int32)), .unset, .unset] [(.int (7 : Int32))])) rfl (hb hby at_10) rfl (by decide) (cap := 7) (by decide) (by decide) (by decide) (by decide)
    obtain ⟨b50, g50⟩ : ∃ z, z = h0.size := ⟨_, rfl⟩
    rw [← g50] at A50 st50
    have g51 : n0 ≤ b50 := Nat.le_trans Z0 (Nat.le_of_eq g50.symm)
    have Z52 : n0 ≤ h50.size := Nat.le_trans Z0 E50.1
    have V53 : AI Z h50 b50 k50 .int (7 : Int32) [(0 : Int32), (0 : Int32), (0 : Int32), (0 : Int32), (0 : Int32), (0 : Int32), (0 : Int32)] := own_new A50 (by decide) rfl
    refine Goes.step (S' := T50.setTop (mkF m 12 #[.val (.int p0), .val (.int p1), .val (.int p2), .val (.int p3), .val (.int p4), .val (.int p5), .val (.int (7 : Int32)), .unset, .unset] [(.ref b50)])) st50 ?_
    refine Goes.step (S' := T50.setTop (mkF m 14 #[.val (.int p0), .val (.int p1), .val (.int p2), .val (.int p3), .val (.int p4), .val (.int p5), .val (.int (7 : Int32)), .val (.ref b50), .unset] [])) (fun _ k => XS.astore X50.here hx rfl (hb hby at_12) rfl rfl (l' := #[.val (.int p0), .val (.int p1), .val (.int p2), .val (.int p3), .val (.int p4), .val (.int p5), .val (.int (7 : Int32)), .val (.ref b50), .unset]) rfl k) ?_
    refine Goes.step (S' := T50.setTop (mkF m 16 #[.val (.int p0), .val (.int p1), .val (.int p2), .val (.int p3), .val (.int p4), .val (.int p5), .val (.int (7 : Int32)), .val (.ref b50), .unset] [(.ref b50)])) (fun _ k => XS.aload X50.here hx rfl (hb hby at_14) rfl rfl k) ?_
    refine Goes.step (S' := T50.setTop (mkF m 17 #[.val (.int p0), .val (.int p1), .val (.int p2), .val (.int p3), .val (.int p4), .val (.int p5), .val (.int (7 : Int32)), .val (.ref b50), .unset] [(.int (0 : Int32)), (.ref b50)])) (fun _ k => XS.iconst X50.here hx rfl (hb hby at_16) k) ?_
    refine Goes.step (S' := T50.setTop (mkF m 18 #[.val (.int p0), .val (.int p1), .val (.int p2), .val (.int p3), .val (.int p4), .val (.int p5), .val (.int (7 : Int32)), .val (.ref b50), .unset] [(.int p0), (.int (0 : Int32)), (.ref b50)])) (fun _ k => XS.iloadN X50.here hx rfl (hb hby at_17) rfl  k) ?_
    obtain ⟨T54, h54, X54, e54, W54, V_54, st54⟩ := own_iastore X50 hx hZ e50 V53 ⟨by decide, by decide⟩ (g := (mkF m 18 #[.val (.int p0), .val (.int p1), .val (.int p2), .val (.int p3), .val (.int p4), .val (.int p5), .val (.int (7 : Int32)), .val (.ref b50), .unset] [(.int p0), (.int (0 : Int32)), (.ref b50)])) rfl rfl (hb hby at_18)
    replace V_54 : AI Z h54 b50 k50 .int (7 : Int32) [p0, (0 : Int32), (0 : Int32), (0 : Int32), (0 : Int32), (0 : Int32), (0 : Int32)] := V_54
    have N55 := Fr.snoc X54 N0 g51
    have Z56 : n0 ≤ h54.size := Nat.le_trans Z52 (Nat.le_of_eq W54.size.symm)
    refine Goes.step (S' := T54.setTop (mkF m 19 #[.val (.int p0), .val (.int p1), .val (.int p2), .val (.int p3), .val (.int p4), .val (.int p5), .val (.int (7 : Int32)), .val (.ref b50), .unset] [])) st54 ?_
    refine Goes.step (S' := T54.setTop (mkF m 21 #[.val (.int p0), .val (.int p1), .val (.int p2), .val (.int p3), .val (.int p4), .val (.int p5), .val (.int (7 : Int32)), .val (.ref b50), .unset] [(.ref b50)])) (fun _ k => XS.aload X54.here hx rfl (hb hby at_19) rfl rfl k) ?_
    refine Goes.step (S' := T54.setTop (mkF m 22 #[.val (.int p0), .val (.int p1), .val (.int p2), .val (.int p3), .val (.int p4), .val (.int p5), .val (.int (7 : Int32)), .val (.ref b50), .unset] [(.int (1 : Int32)), (.ref b50)])) (fun _ k => XS.iconst X54.here hx rfl (hb hby at_21) k) ?_
    refine Goes.step (S' := T54.setTop (mkF m 23 #[.val (.int p0), .val (.int p1), .val (.int p2), .val (.int p3), .val (.int p4), .val (.int p5), .val (.int (7 : Int32)), .val (.ref b50), .unset] [(.int p1), (.int (1 : Int32)), (.ref b50)])) (fun _ k => XS.iloadN X54.here hx rfl (hb hby at_22) rfl  k) ?_
    obtain ⟨T57, h57, X57, e57, W57, V_57, st57⟩ := own_iastore X54 hx hZ e54 V_54 ⟨by decide, by decide⟩ (g := (mkF m 23 #[.val (.int p0), .val (.int p1), .val (.int p2), .val (.int p3), .val (.int p4), .val (.int p5), .val (.int (7 : Int32)), .val (.ref b50), .unset] [(.int p1), (.int (1 : Int32)), (.ref b50)])) rfl rfl (hb hby at_23)
    replace V_57 : AI Z h57 b50 k50 .int (7 : Int32) [p0, p1, (0 : Int32), (0 : Int32), (0 : Int32), (0 : Int32), (0 : Int32)] := V_57
    have N58 := Fr.snoc X57 N55 g51
    have Z59 : n0 ≤ h57.size := Nat.le_trans Z56 (Nat.le_of_eq W57.size.symm)
    refine Goes.step (S' := T57.setTop (mkF m 24 #[.val (.int p0), .val (.int p1), .val (.int p2), .val (.int p3), .val (.int p4), .val (.int p5), .val (.int (7 : Int32)), .val (.ref b50), .unset] [])) st57 ?_
    refine Goes.step (S' := T57.setTop (mkF m 26 #[.val (.int p0), .val (.int p1), .val (.int p2), .val (.int p3), .val (.int p4), .val (.int p5), .val (.int (7 : Int32)), .val (.ref b50), .unset] [(.ref b50)])) (fun _ k => XS.aload X57.here hx rfl (hb hby at_24) rfl rfl k) ?_
    refine Goes.step (S' := T57.setTop (mkF m 27 #[.val (.int p0), .val (.int p1), .val (.int p2), .val (.int p3), .val (.int p4), .val (.int p5), .val (.int (7 : Int32)), .val (.ref b50), .unset] [(.int (2 : Int32)), (.ref b50)])) (fun _ k => XS.iconst X57.here hx rfl (hb hby at_26) k) ?_
    refine Goes.step (S' := T57.setTop (mkF m 28 #[.val (.int p0), .val (.int p1), .val (.int p2), .val (.int p3), .val (.int p4), .val (.int p5), .val (.int (7 : Int32)), .val (.ref b50), .unset] [(.int p2), (.int (2 : Int32)), (.ref b50)])) (fun _ k => XS.iloadN X57.here hx rfl (hb hby at_27) rfl  k) ?_
    obtain ⟨T60, h60, X60, e60, W60, V_60, st60⟩ := own_iastore X57 hx hZ e57 V_57 ⟨by decide, by decide⟩ (g := (mkF m 28 #[.val (.int p0), .val (.int p1), .val (.int p2), .val (.int p3), .val (.int p4), .val (.int p5), .val (.int (7 : Int32)), .val (.ref b50), .unset] [(.int p2), (.int (2 : Int32)), (.ref b50)])) rfl rfl (hb hby at_28)
    replace V_60 : AI Z h60 b50 k50 .int (7 : Int32) [p0, p1, p2, (0 : Int32), (0 : Int32), (0 : Int32), (0 : Int32)] := V_60
    have N61 := Fr.snoc X60 N58 g51
    have Z62 : n0 ≤ h60.size := Nat.le_trans Z59 (Nat.le_of_eq W60.size.symm)
    refine Goes.step (S' := T60.setTop (mkF m 29 #[.val (.int p0), .val (.int p1), .val (.int p2), .val (.int p3), .val (.int p4), .val (.int p5), .val (.int (7 : Int32)), .val (.ref b50), .unset] [])) st60 ?_
    refine Goes.step (S' := T60.setTop (mkF m 31 #[.val (.int p0), .val (.int p1), .val (.int p2), .val (.int p3), .val (.int p4), .val (.int p5), .val (.int (7 : Int32)), .val (.ref b50), .unset] [(.ref b50)])) (fun _ k => XS.aload X60.here hx rfl (hb hby at_29) rfl rfl k) ?_
    refine Goes.step (S' := T60.setTop (mkF m 32 #[.val (.int p0), .val (.int p1), .val (.int p2), .val (.int p3), .val (.int p4), .val (.int p5), .val (.int (7 : Int32)), .val (.ref b50), .unset] [(.int (3 : Int32)), (.ref b50)])) (fun _ k => XS.iconst X60.here hx rfl (hb hby at_31) k) ?_
    refine Goes.step (S' := T60.setTop (mkF m 33 #[.val (.int p0), .val (.int p1), .val (.int p2), .val (.int p3), .val (.int p4), .val (.int p5), .val (.int (7 : Int32)), .val (.ref b50), .unset] [(.int p3), (.int (3 : Int32)), (.ref b50)])) (fun _ k => XS.iloadN X60.here hx rfl (hb hby at_32) rfl  k) ?_
    obtain ⟨T63, h63, X63, e63, W63, V_63, st63⟩ := own_iastore X60 hx hZ e60 V_60 ⟨by decide, by decide⟩ (g := (mkF m 33 #[.val (.int p0), .val (.int p1), .val (.int p2), .val (.int p3), .val (.int p4), .val (.int p5), .val (.int (7 : Int32)), .val (.ref b50), .unset] [(.int p3), (.int (3 : Int32)), (.ref b50)])) rfl rfl (hb hby at_33)
    replace V_63 : AI Z h63 b50 k50 .int (7 : Int32) [p0, p1, p2, p3, (0 : Int32), (0 : Int32), (0 : Int32)] := V_63
    have N64 := Fr.snoc X63 N61 g51
    have Z65 : n0 ≤ h63.size := Nat.le_trans Z62 (Nat.le_of_eq W63.size.symm)
    refine Goes.step (S' := T63.setTop (mkF m 34 #[.val (.int p0), .val (.int p1), .val (.int p2), .val (.int p3), .val (.int p4), .val (.int p5), .val (.int (7 : Int32)), .val (.ref b50), .unset] [])) st63 ?_
    refine Goes.step (S' := T63.setTop (mkF m 36 #[.val (.int p0), .val (.int p1), .val (.int p2), .val (.int p3), .val (.int p4), .val (.int p5), .val (.int (7 : Int32)), .val (.ref b50), .unset] [(.ref b50)])) (fun _ k => XS.aload X63.here hx rfl (hb hby at_34) rfl rfl k) ?_
    refine Goes.step (S' := T63.setTop (mkF m 37 #[.val (.int p0), .val (.int p1), .val (.int p2), .val (.int p3), .val (.int p4), .val (.int p5), .val (.int (7 : Int32)), .val (.ref b50), .unset] [(.int (4 : Int32)), (.ref b50)])) (fun _ k => XS.iconst X63.here hx rfl (hb hby at_36) k) ?_
    refine Goes.step (S' := T63.setTop (mkF m 39 #[.val (.int p0), .val (.int p1), .val (.int p2), .val (.int p3), .val (.int p4), .val (.int p5), .val (.int (7 : Int32)), .val (.ref b50), .unset] [(.int p4), (.int (4 : Int32)), (.ref b50)])) (fun _ k => XS.iload X63.here hx rfl (hb hby at_37) rfl  k) ?_
    obtain ⟨T66, h66, X66, e66, W66, V_66, st66⟩ := own_iastore X63 hx hZ e63 V_63 ⟨by decide, by decide⟩ (g := (mkF m 39 #[.val (.int p0), .val (.int p1), .val (.int p2), .val (.int p3), .val (.int p4), .val (.int p5), .val (.int (7 : Int32)), .val (.ref b50), .unset] [(.int p4), (.int (4 : Int32)), (.ref b50)])) rfl rfl (hb hby at_39)
    replace V_66 : AI Z h66 b50 k50 .int (7 : Int32) [p0, p1, p2, p3, p4, (0 : Int32), (0 : Int32)] := V_66
    have N67 := Fr.snoc X66 N64 g51
    have Z68 : n0 ≤ h66.size := Nat.le_trans Z65 (Nat.le_of_eq W66.size.symm)
    refine Goes.step (S' := T66.setTop (mkF m 40 #[.val (.int p0), .val (.int p1), .val (.int p2), .val (.int p3), .val (.int p4), .val (.int p5), .val (.int (7 : Int32)), .val (.ref b50), .unset] [])) st66 ?_
    refine Goes.step (S' := T66.setTop (mkF m 42 #[.val (.int p0), .val (.int p1), .val (.int p2), .val (.int p3), .val (.int p4), .val (.int p5), .val (.int (7 : Int32)), .val (.ref b50), .unset] [(.int (7 : Int32))])) (fun _ k => XS.iload X66.here hx rfl (hb hby at_40) rfl  k) ?_
    refine Goes.step (S' := T66.setTop (mkF m 43 #[.val (.int p0), .val (.int p1), .val (.int p2), .val (.int p3), .val (.int p4), .val (.int p5), .val (.int (7 : Int32)), .val (.ref b50), .unset] [(.int (5 : Int32)), (.int (7 : Int32))])) (fun _ k => XS.iconst X66.here hx rfl (hb hby at_42) k) ?_
    refine Goes.step (S' := T66.setTop (mkF m 46 #[.val (.int p0), .val (.int p1), .val (.int p2), .val (.int p3), .val (.int p4), .val (.int p5), .val (.int (7 : Int32)), .val (.ref b50), .unset] [])) (fun _ k => XS.icmpNo X66.here hx rfl (hb hby at_43) rfl (tlt (by decide)).2.2.2 k) ?_
    refine Goes.step (S' := T66.setTop (mkF m 48 #[.val (.int p0), .val (.int p1), .val (.int p2), .val (.int p3), .val (.int p4), .val (.int p5), .val (.int (7 : Int32)), .val (.ref b50), .unset] [(.ref b50)])) (fun _ k => XS.aload X66.here hx rfl (hb hby at_46) rfl rfl k) ?_
    refine Goes.step (S' := T66.setTop (mkF m 49 #[.val (.int p0), .val (.int p1), .val (.int p2), .val (.int p3), .val (.int p4), .val (.int p5), .val (.int (7 : Int32)), .val (.ref b50), .unset] [(.int (5 : Int32)), (.ref b50)])) (fun _ k => XS.iconst X66.here hx rfl (hb hby at_48) k) ?_
    refine Goes.step (S' := T66.setTop (mkF m 51 #[.val (.int p0), .val (.int p1), .val (.int p2), .val (.int p3), .val (.int p4), .val (.int p5), .val (.int (7 : Int32)), .val (.ref b50), .unset] [(.int p5), (.int (5 : Int32)), (.ref b50)])) (fun _ k => XS.iload X66.here hx rfl (hb hby at_49) rfl  k) ?_
    obtain ⟨T69, h69, X69, e69, W69, V_69, st69⟩ := own_iastore X66 hx hZ e66 V_66 ⟨by decide, by decide⟩ (g := (mkF m 51 #[.val (.int p0), .val (.int p1), .val (.int p2), .val (.int p3), .val (.int p4), .val (.int p5), .val (.int (7 : Int32)), .val (.ref b50), .unset] [(.int p5), (.int (5 : Int32)), (.ref b50)])) rfl rfl (hb hby at_51)
    replace V_69 : AI Z h69 b50 k50 .int (7 : Int32) [p0, p1, p2, p3, p4, p5, (0 : Int32)] := V_69
    have N70 := Fr.snoc X69 N67 g51
    have Z71 : n0 ≤ h69.size := Nat.le_trans Z68 (Nat.le_of_eq W69.size.symm)
    refine Goes.step (S' := T69.setTop (mkF m 52 #[.val (.int p0), .val (.int p1), .val (.int p2), .val (.int p3), .val (.int p4), .val (.int p5), .val (.int (7 : Int32)), .val (.ref b50), .unset] [])) st69 ?_
    refine Goes.step (S' := T69.setTop (mkF m 54 #[.val (.int p0), .val (.int p1), .val (.int p2), .val (.int p3), .val (.int p4), .val (.int p5), .val (.int (7 : Int32)), .val (.ref b50), .unset] [(.int (7 : Int32))])) (fun _ k => XS.iload X69.here hx rfl (hb hby at_52) rfl  k) ?_
    refine Goes.step (S' := T69.setTop (mkF m 56 #[.val (.int p0), .val (.int p1), .val (.int p2), .val (.int p3), .val (.int p4), .val (.int p5), .val (.int (7 : Int32)), .val (.ref b50), .unset] [(.int (6 : Int32)), (.int (7 : Int32))])) (fun _ k => XS.bipush X69.here hx rfl (hb hby at_54) k) ?_
    refine Goes.step (S' := T69.setTop (mkF m 59 #[.val (.int p0), .val (.int p1), .val (.int p2), .val (.int p3), .val (.int p4), .val (.int p5), .val (.int (7 : Int32)), .val (.ref b50), .unset] [])) (fun _ k => XS.icmpNo X69.here hx rfl (hb hby at_56) rfl (tlt (by decide)).2.2.2 k) ?_
    refine Goes.step (S' := T69.setTop (mkF m 61 #[.val (.int p0), .val (.int p1), .val (.int p2), .val (.int p3), .val (.int p4), .val (.int p5), .val (.int (7 : Int32)), .val (.ref b50), .unset] [(.ref b50)])) (fun _ k => XS.aload X69.here hx rfl (hb hby at_59) rfl rfl k) ?_
    refine Goes.step (S' := T69.setTop (mkF m 63 #[.val (.int p0), .val (.int p1), .val (.int p2), .val (.int p3), .val (.int p4), .val (.int p5), .val (.int (7 : Int32)), .val (.ref b50), .unset] [(.int (6 : Int32)), (.ref b50)])) (fun _ k => XS.bipush X69.here hx rfl (hb hby at_61) k) ?_
    refine Goes.step (S' := T69.setTop (mkF m 65 #[.val (.int p0), .val (.int p1), .val (.int p2), .val (.int p3), .val (.int p4), .val (.int p5), .val (.int (7 : Int32)), .val (.ref b50), .unset] [(.int p5), (.int (6 : Int32)), (.ref b50)])) (fun _ k => XS.iload X69.here hx rfl (hb hby at_63) rfl  k) ?_
    refine Goes.step (S' := T69.setTop (mkF m 66 #[.val (.int p0), .val (.int p1), .val (.int p2), .val (.int p3), .val (.int p4), .val (.int p5), .val (.int (7 : Int32)), .val (.ref b50), .unset] [(.int (-1 : Int32)), (.int p5), (.int (6 : Int32)), (.ref b50)])) (fun _ k => XS.iconst X69.here hx rfl (hb hby at_65) k) ?_
    refine Goes.step (S' := T69.setTop (mkF m 67 #[.val (.int p0), .val (.int p1), .val (.int p2), .val (.int p3), .val (.int p4), .val (.int p5), .val (.int (7 : Int32)), .val (.ref b50), .unset] [(.int (p5 ^^^ (-1 : Int32))), (.int (6 : Int32)), (.ref b50)])) (fun _ k => XS.ixor X69.here hx rfl (hb hby at_66) rfl k) ?_
    obtain ⟨T72, h72, X72, e72, W72, V_72, st72⟩ := own_iastore X69 hx hZ e69 V_69 ⟨by decide, by decide⟩ (g := (mkF m 67 #[.val (.int p0), .val (.int p1), .val (.int p2), .val (.int p3), .val (.int p4), .val (.int p5), .val (.int (7 : Int32)), .val (.ref b50), .unset] [(.int (p5 ^^^ (-1 : Int32))), (.int (6 : Int32)), (.ref b50)])) rfl rfl (hb hby at_67)
    replace V_72 : AI Z h72 b50 k50 .int (7 : Int32) [p0, p1, p2, p3, p4, p5, (p5 ^^^ (-1 : Int32))] := V_72
    have N73 := Fr.snoc X72 N70 g51
    have Z74 : n0 ≤ h72.size := Nat.le_trans Z71 (Nat.le_of_eq W72.size.symm)
    refine Goes.step (S' := T72.setTop (mkF m 68 #[.val (.int p0), .val (.int p1), .val (.int p2), .val (.int p3), .val (.int p4), .val (.int p5), .val (.int (7 : Int32)), .val (.ref b50), .unset] [])) st72 ?_
    refine Goes.step (S' := T72.setTop (mkF m 70 #[.val (.int p0), .val (.int p1), .val (.int p2), .val (.int p3), .val (.int p4), .val (.int p5), .val (.int (7 : Int32)), .val (.ref b50), .unset] [(.int (7 : Int32))])) (fun _ k => XS.iload X72.here hx rfl (hb hby at_68) rfl  k) ?_
    refine Goes.step (S' := T72.setTop (mkF m 72 #[.val (.int p0), .val (.int p1), .val (.int p2), .val (.int p3), .val (.int p4), .val (.int p5), .val (.int (7 : Int32)), .val (.ref b50), .unset] [(.int (7 : Int32)), (.int (7 : Int32))])) (fun _ k => XS.bipush X72.here hx rfl (hb hby at_70) k) ?_
    refine Goes.step (S' := T72.setTop (mkF m 84 #[.val (.int p0), .val (.int p1), .val (.int p2), .val (.int p3), .val (.int p4), .val (.int p5), .val (.int (7 : Int32)), .val (.ref b50), .unset] [])) (fun _ k => XS.icmpYes X72.here hx rfl (pc0 := 72) (pc' := 84) rfl (hb hby at_72) rfl (flt (by decide)).2.2.2 (by decide) (by decide) k) ?_
    refine Goes.step (S' := T72.setTop (mkF m 86 #[.val (.int p0), .val (.int p1), .val (.int p2), .val (.int p3), .val (.int p4), .val (.int p5), .val (.int (7 : Int32)), .val (.ref b50), .unset] [(.ref b50)])) (fun _ k => XS.aload X72.here hx rfl (hb hby at_84) rfl rfl k) ?_
    obtain ⟨_, _, ⟨T75, L75, k75, n75⟩, -, X75, ⟨Lc75, hQ75, l75, y75, z75⟩, st75⟩ := Jvm.LawKit.callS X72 hx (y := (⟨"fivewords/Sha1Block", "reset", "([I)V"⟩ : MethodName)) hown (mvT hZ (hw _ (List.mem_of_getElem? (i := 1) rfl))) (mvT hZ (hw _ (List.mem_of_getElem? (i := 2) rfl))) (mvT hZ (hw _ (List.mem_of_getElem? (i := 3) rfl))) (mvT hZ (hw _ (List.mem_of_getElem? (i := 4) rfl))) (by decide) (backOf (W := 0) (rm1 l Z a0 hw [] b50 k50 ((7 : Int32)) ([p0, p1, p2, p3, p4, p5, (p5 ^^^ (-1 : Int32))]) h72 n0 Z74 V_72 g51 (own_pr0_86_hB_3 p0 p1 p2 p3 p4 p5 ev6_6)) hZ (hw _ (List.mem_of_getElem? (i := 4) rfl)) (hw _ (List.mem_of_getElem? (i := 3) rfl)) (by decide) (by decide)) (g := (mkF m 86 #[.val (.int p0), .val (.int p1), .val (.int p2), .val (.int p3), .val (.int p4), .val (.int p5), .val (.int (7 : Int32)), .val (.ref b50), .unset] [(.ref b50)])) rfl (by rw [hml]; rfl) (argsL := [(.ref b50)]) (rest := []) (lenOf pd0 rfl) rfl (by show 2 * 0 + _ ≤ _; exact Nat.le_of_eq rfl) (hb hby at_86) (fun _ _ => ⟨rfl, e72, (by decide : 1 + 0 ≤ _), (by decide : 7 + 0 ≤ _)⟩)
    dsimp only [Pt.U, Pt.locs, Pt.cells, Pt.slots] at X75 l75 y75 z75 st75 hQ75
    subst l75 y75 z75
    obtain ⟨rfl, N75q, K75q, V76⟩ := hQ75
    have N77 := Fr.app N73 N75q
    have Z78 : n0 ≤ T75.heap.size := Nat.le_trans Z74 K75q.1
    replace V76 : AI Z T75.heap b50 k50 .int (7 : Int32) [(1732584193 : Int32), (-271733879 : Int32), (-1732584194 : Int32), (271733878 : Int32), (-1009589776 : Int32), p5, (p5 ^^^ (-1 : Int32))] := V76
    refine Goes.step (S' := T75.setTop (mkF m 89 #[.val (.int p0), .val (.int p1), .val (.int p2), .val (.int p3), .val (.int p4), .val (.int p5), .val (.int (7 : Int32)), .val (.ref b50), .unset] [])) st75 ?_
    refine Goes.step (S' := T75.setTop (mkF m 91 #[.val (.int p0), .val (.int p1), .val (.int p2), .val (.int p3), .val (.int p4), .val (.int p5), .val (.int (7 : Int32)), .val (.ref b50), .unset] [(.ref b50)])) (fun _ k => XS.aload X75.here hx rfl (hb hby at_89) rfl rfl k) ?_
    refine Goes.step (S' := T75.setTop (mkF m 92 #[.val (.int p0), .val (.int p1), .val (.int p2), .val (.int p3), .val (.int p4), .val (.int p5), .val (.int (7 : Int32)), .val (.ref b50), .unset] [(.int (7 : Int32))])) (fun _ k => own_len X75 hx hZ rfl V76 (hb hby at_91) _ k) ?_
    refine Goes.step (S' := T75.setTop (mkF m 94 #[.val (.int p0), .val (.int p1), .val (.int p2), .val (.int p3), .val (.int p4), .val (.int p5), .val (.int (7 : Int32)), .val (.ref b50), .unset] [(.int (7 : Int32)), (.int (7 : Int32))])) (fun _ k => XS.iload X75.here hx rfl (hb hby at_92) rfl  k) ?_
    refine Goes.step (S' := T75.setTop (mkF m 97 #[.val (.int p0), .val (.int p1), .val (.int p2), .val (.int p3), .val (.int p4), .val (.int p5), .val (.int (7 : Int32)), .val (.ref b50), .unset] [])) (fun _ k => XS.icmpNo X75.here hx rfl (hb hby at_94) rfl (teq (rfl : (7 : Int32) = (7 : Int32))).2 k) ?_
    refine Goes.step (S' := T75.setTop (mkF m 99 #[.val (.int p0), .val (.int p1), .val (.int p2), .val (.int p3), .val (.int p4), .val (.int p5), .val (.int (7 : Int32)), .val (.ref b50), .unset] [(.ref b50)])) (fun _ k => XS.aload X75.here hx rfl (hb hby at_97) rfl rfl k) ?_
    refine Goes.step (S' := T75.setTop (mkF m 100 #[.val (.int p0), .val (.int p1), .val (.int p2), .val (.int p3), .val (.int p4), .val (.int p5), .val (.int (7 : Int32)), .val (.ref b50), .unset] [(.int (0 : Int32)), (.ref b50)])) (fun _ k => XS.iconst X75.here hx rfl (hb hby at_99) k) ?_
    refine Goes.step (S' := T75.setTop (mkF m 101 #[.val (.int p0), .val (.int p1), .val (.int p2), .val (.int p3), .val (.int p4), .val (.int p5), .val (.int (7 : Int32)), .val (.ref b50), .unset] [(.int (1732584193 : Int32))])) (fun _ k => own_iaload X75 hx hZ rfl V76 ⟨by decide, by decide⟩ (hb hby at_100) _ k) ?_
    refine Goes.step (S' := T75.setTop (mkF m 103 #[.val (.int p0), .val (.int p1), .val (.int p2), .val (.int p3), .val (.int p4), .val (.int p5), .val (.int (7 : Int32)), .val (.ref b50), .unset] [(.int (1732584193 : Int32)), (.int (1732584193 : Int32))])) (fun _ k => X75.ldcInt hx hown (mvT hZ (hw _ (List.mem_of_getElem? (i := 10) rfl))) (g := (mkF m 101 #[.val (.int p0), .val (.int p1), .val (.int p2), .val (.int p3), .val (.int p4), .val (.int p5), .val (.int (7 : Int32)), .val (.ref b50), .unset] [(.int (1732584193 : Int32))])) rfl (hb hby at_101) _ k) ?_
    refine Goes.step (S' := T75.setTop (mkF m 106 #[.val (.int p0), .val (.int p1), .val (.int p2), .val (.int p3), .val (.int p4), .val (.int p5), .val (.int (7 : Int32)), .val (.ref b50), .unset] [])) (fun _ k => XS.icmpNo X75.here hx rfl (hb hby at_103) rfl (teq (rfl : (1732584193 : Int32) = (1732584193 : Int32))).2 k) ?_
    refine Goes.step (S' := T75.setTop (mkF m 108 #[.val (.int p0), .val (.int p1), .val (.int p2), .val (.int p3), .val (.int p4), .val (.int p5), .val (.int (7 : Int32)), .val (.ref b50), .unset] [(.ref b50)])) (fun _ k => XS.aload X75.here hx rfl (hb hby at_106) rfl rfl k) ?_
    refine Goes.step (S' := T75.setTop (mkF m 109 #[.val (.int p0), .val (.int p1), .val (.int p2), .val (.int p3), .val (.int p4), .val (.int p5), .val (.int (7 : Int32)), .val (.ref b50), .unset] [(.int (1 : Int32)), (.ref b50)])) (fun _ k => XS.iconst X75.here hx rfl (hb hby at_108) k) ?_
    refine Goes.step (S' := T75.setTop (mkF m 110 #[.val (.int p0), .val (.int p1), .val (.int p2), .val (.int p3), .val (.int p4), .val (.int p5), .val (.int (7 : Int32)), .val (.ref b50), .unset] [(.int (-271733879 : Int32))])) (fun _ k => own_iaload X75 hx hZ rfl V76 ⟨by decide, by decide⟩ (hb hby at_109) _ k) ?_
    refine Goes.step (S' := T75.setTop (mkF m 112 #[.val (.int p0), .val (.int p1), .val (.int p2), .val (.int p3), .val (.int p4), .val (.int p5), .val (.int (7 : Int32)), .val (.ref b50), .unset] [(.int (-271733879 : Int32)), (.int (-271733879 : Int32))])) (fun _ k => X75.ldcInt hx hown (mvT hZ (hw _ (List.mem_of_getElem? (i := 11) rfl))) (g := (mkF m 110 #[.val (.int p0), .val (.int p1), .val (.int p2), .val (.int p3), .val (.int p4), .val (.int p5), .val (.int (7 : Int32)), .val (.ref b50), .unset] [(.int (-271733879 : Int32))])) rfl (hb hby at_110) _ k) ?_
    refine Goes.step (S' := T75.setTop (mkF m 115 #[.val (.int p0), .val (.int p1), .val (.int p2), .val (.int p3), .val (.int p4), .val (.int p5), .val (.int (7 : Int32)), .val (.ref b50), .unset] [])) (fun _ k => XS.icmpNo X75.here hx rfl (hb hby at_112) rfl (teq (rfl : (-271733879 : Int32) = (-271733879 : Int32))).2 k) ?_
    refine Goes.step (S' := T75.setTop (mkF m 117 #[.val (.int p0), .val (.int p1), .val (.int p2), .val (.int p3), .val (.int p4), .val (.int p5), .val (.int (7 : Int32)), .val (.ref b50), .unset] [(.ref b50)])) (fun _ k => XS.aload X75.here hx rfl (hb hby at_115) rfl rfl k) ?_
    refine Goes.step (S' := T75.setTop (mkF m 118 #[.val (.int p0), .val (.int p1), .val (.int p2), .val (.int p3), .val (.int p4), .val (.int p5), .val (.int (7 : Int32)), .val (.ref b50), .unset] [(.int (2 : Int32)), (.ref b50)])) (fun _ k => XS.iconst X75.here hx rfl (hb hby at_117) k) ?_
    refine Goes.step (S' := T75.setTop (mkF m 119 #[.val (.int p0), .val (.int p1), .val (.int p2), .val (.int p3), .val (.int p4), .val (.int p5), .val (.int (7 : Int32)), .val (.ref b50), .unset] [(.int (-1732584194 : Int32))])) (fun _ k => own_iaload X75 hx hZ rfl V76 ⟨by decide, by decide⟩ (hb hby at_118) _ k) ?_
    refine Goes.step (S' := T75.setTop (mkF m 121 #[.val (.int p0), .val (.int p1), .val (.int p2), .val (.int p3), .val (.int p4), .val (.int p5), .val (.int (7 : Int32)), .val (.ref b50), .unset] [(.int (-1732584194 : Int32)), (.int (-1732584194 : Int32))])) (fun _ k => X75.ldcInt hx hown (mvT hZ (hw _ (List.mem_of_getElem? (i := 12) rfl))) (g := (mkF m 119 #[.val (.int p0), .val (.int p1), .val (.int p2), .val (.int p3), .val (.int p4), .val (.int p5), .val (.int (7 : Int32)), .val (.ref b50), .unset] [(.int (-1732584194 : Int32))])) rfl (hb hby at_119) _ k) ?_
    refine Goes.step (S' := T75.setTop (mkF m 124 #[.val (.int p0), .val (.int p1), .val (.int p2), .val (.int p3), .val (.int p4), .val (.int p5), .val (.int (7 : Int32)), .val (.ref b50), .unset] [])) (fun _ k => XS.icmpNo X75.here hx rfl (hb hby at_121) rfl (teq (rfl : (-1732584194 : Int32) = (-1732584194 : Int32))).2 k) ?_
    refine Goes.step (S' := T75.setTop (mkF m 126 #[.val (.int p0), .val (.int p1), .val (.int p2), .val (.int p3), .val (.int p4), .val (.int p5), .val (.int (7 : Int32)), .val (.ref b50), .unset] [(.ref b50)])) (fun _ k => XS.aload X75.here hx rfl (hb hby at_124) rfl rfl k) ?_
    refine Goes.step (S' := T75.setTop (mkF m 127 #[.val (.int p0), .val (.int p1), .val (.int p2), .val (.int p3), .val (.int p4), .val (.int p5), .val (.int (7 : Int32)), .val (.ref b50), .unset] [(.int (3 : Int32)), (.ref b50)])) (fun _ k => XS.iconst X75.here hx rfl (hb hby at_126) k) ?_
    refine Goes.step (S' := T75.setTop (mkF m 128 #[.val (.int p0), .val (.int p1), .val (.int p2), .val (.int p3), .val (.int p4), .val (.int p5), .val (.int (7 : Int32)), .val (.ref b50), .unset] [(.int (271733878 : Int32))])) (fun _ k => own_iaload X75 hx hZ rfl V76 ⟨by decide, by decide⟩ (hb hby at_127) _ k) ?_
    refine Goes.step (S' := T75.setTop (mkF m 130 #[.val (.int p0), .val (.int p1), .val (.int p2), .val (.int p3), .val (.int p4), .val (.int p5), .val (.int (7 : Int32)), .val (.ref b50), .unset] [(.int (271733878 : Int32)), (.int (271733878 : Int32))])) (fun _ k => X75.ldcInt hx hown (mvT hZ (hw _ (List.mem_of_getElem? (i := 13) rfl))) (g := (mkF m 128 #[.val (.int p0), .val (.int p1), .val (.int p2), .val (.int p3), .val (.int p4), .val (.int p5), .val (.int (7 : Int32)), .val (.ref b50), .unset] [(.int (271733878 : Int32))])) rfl (hb hby at_128) _ k) ?_
    refine Goes.step (S' := T75.setTop (mkF m 133 #[.val (.int p0), .val (.int p1), .val (.int p2), .val (.int p3), .val (.int p4), .val (.int p5), .val (.int (7 : Int32)), .val (.ref b50), .unset] [])) (fun _ k => XS.icmpNo X75.here hx rfl (hb hby at_130) rfl (teq (rfl : (271733878 : Int32) = (271733878 : Int32))).2 k) ?_
    refine Goes.step (S' := T75.setTop (mkF m 135 #[.val (.int p0), .val (.int p1), .val (.int p2), .val (.int p3), .val (.int p4), .val (.int p5), .val (.int (7 : Int32)), .val (.ref b50), .unset] [(.ref b50)])) (fun _ k => XS.aload X75.here hx rfl (hb hby at_133) rfl rfl k) ?_
    refine Goes.step (S' := T75.setTop (mkF m 136 #[.val (.int p0), .val (.int p1), .val (.int p2), .val (.int p3), .val (.int p4), .val (.int p5), .val (.int (7 : Int32)), .val (.ref b50), .unset] [(.int (4 : Int32)), (.ref b50)])) (fun _ k => XS.iconst X75.here hx rfl (hb hby at_135) k) ?_
    refine Goes.step (S' := T75.setTop (mkF m 137 #[.val (.int p0), .val (.int p1), .val (.int p2), .val (.int p3), .val (.int p4), .val (.int p5), .val (.int (7 : Int32)), .val (.ref b50), .unset] [(.int (-1009589776 : Int32))])) (fun _ k => own_iaload X75 hx hZ rfl V76 ⟨by decide, by decide⟩ (hb hby at_136) _ k) ?_
    refine Goes.step (S' := T75.setTop (mkF m 139 #[.val (.int p0), .val (.int p1), .val (.int p2), .val (.int p3), .val (.int p4), .val (.int p5), .val (.int (7 : Int32)), .val (.ref b50), .unset] [(.int (-1009589776 : Int32)), (.int (-1009589776 : Int32))])) (fun _ k => X75.ldcInt hx hown (mvT hZ (hw _ (List.mem_of_getElem? (i := 14) rfl))) (g := (mkF m 137 #[.val (.int p0), .val (.int p1), .val (.int p2), .val (.int p3), .val (.int p4), .val (.int p5), .val (.int (7 : Int32)), .val (.ref b50), .unset] [(.int (-1009589776 : Int32))])) rfl (hb hby at_137) _ k) ?_
    refine Goes.step (S' := T75.setTop (mkF m 142 #[.val (.int p0), .val (.int p1), .val (.int p2), .val (.int p3), .val (.int p4), .val (.int p5), .val (.int (7 : Int32)), .val (.ref b50), .unset] [])) (fun _ k => XS.icmpNo X75.here hx rfl (hb hby at_139) rfl (teq (rfl : (-1009589776 : Int32) = (-1009589776 : Int32))).2 k) ?_
    refine Goes.step (S' := T75.setTop (mkF m 143 #[.val (.int p0), .val (.int p1), .val (.int p2), .val (.int p3), .val (.int p4), .val (.int p5), .val (.int (7 : Int32)), .val (.ref b50), .unset] [(.int (1 : Int32))])) (fun _ k => XS.iconst X75.here hx rfl (hb hby at_142) k) ?_
    refine Goes.step (S' := T75.setTop (mkF m 147 #[.val (.int p0), .val (.int p1), .val (.int p2), .val (.int p3), .val (.int p4), .val (.int p5), .val (.int (7 : Int32)), .val (.ref b50), .unset] [(.int (1 : Int32))])) (fun _ k => XS.goto X75.here hx rfl (pc0 := 143) (pc' := 147) rfl (hb hby at_143) (by decide) (by decide) k) ?_
    refine Goes.step (S' := T75.setTop (mkF m 149 #[.val (.int p0), .val (.int p1), .val (.int p2), .val (.int p3), .val (.int p4), .val (.int p5), .val (.int (7 : Int32)), .val (.ref b50), .val (.int (1 : Int32))] [])) (fun _ k => XS.istore X75.here hx rfl (hb hby at_147) rfl (l' := #[.val (.int p0), .val (.int p1), .val (.int p2), .val (.int p3), .val (.int p4), .val (.int p5), .val (.int (7 : Int32)), .val (.ref b50), .val (.int (1 : Int32))]) rfl k) ?_
    refine Goes.step (S' := T75.setTop (mkF m 151 #[.val (.int p0), .val (.int p1), .val (.int p2), .val (.int p3), .val (.int p4), .val (.int p5), .val (.int (7 : Int32)), .val (.ref b50), .val (.int (1 : Int32))] [(.int (7 : Int32))])) (fun _ k => XS.iload X75.here hx rfl (hb hby at_149) rfl  k) ?_
    refine Goes.step (S' := T75.setTop (mkF m 152 #[.val (.int p0), .val (.int p1), .val (.int p2), .val (.int p3), .val (.int p4), .val (.int p5), .val (.int (7 : Int32)), .val (.ref b50), .val (.int (1 : Int32))] [(.int (5 : Int32)), (.int (7 : Int32))])) (fun _ k => XS.iconst X75.here hx rfl (hb hby at_151) k) ?_
    refine Goes.step (S' := T75.setTop (mkF m 155 #[.val (.int p0), .val (.int p1), .val (.int p2), .val (.int p3), .val (.int p4), .val (.int p5), .val (.int (7 : Int32)), .val (.ref b50), .val (.int (1 : Int32))] [])) (fun _ k => XS.icmpNo X75.here hx rfl (hb hby at_152) rfl (tlt (by decide)).2.2.2 k) ?_
    refine Goes.step (S' := T75.setTop (mkF m 157 #[.val (.int p0), .val (.int p1), .val (.int p2), .val (.int p3), .val (.int p4), .val (.int p5), .val (.int (7 : Int32)), .val (.ref b50), .val (.int (1 : Int32))] [(.ref b50)])) (fun _ k => XS.aload X75.here hx rfl (hb hby at_155) rfl rfl k) ?_
    refine Goes.step (S' := T75.setTop (mkF m 158 #[.val (.int p0), .val (.int p1), .val (.int p2), .val (.int p3), .val (.int p4), .val (.int p5), .val (.int (7 : Int32)), .val (.ref b50), .val (.int (1 : Int32))] [(.int (5 : Int32)), (.ref b50)])) (fun _ k => XS.iconst X75.here hx rfl (hb hby at_157) k) ?_
    refine Goes.step (S' := T75.setTop (mkF m 159 #[.val (.int p0), .val (.int p1), .val (.int p2), .val (.int p3), .val (.int p4), .val (.int p5), .val (.int (7 : Int32)), .val (.ref b50), .val (.int (1 : Int32))] [(.int p5)])) (fun _ k => own_iaload X75 hx hZ rfl V76 ⟨by decide, by decide⟩ (hb hby at_158) _ k) ?_
    refine Goes.step (S' := T75.setTop (mkF m 161 #[.val (.int p0), .val (.int p1), .val (.int p2), .val (.int p3), .val (.int p4), .val (.int p5), .val (.int (7 : Int32)), .val (.ref b50), .val (.int (1 : Int32))] [(.int p5), (.int p5)])) (fun _ k => XS.iload X75.here hx rfl (hb hby at_159) rfl  k) ?_
    refine Goes.step (S' := T75.setTop (mkF m 167 #[.val (.int p0), .val (.int p1), .val (.int p2), .val (.int p3), .val (.int p4), .val (.int p5), .val (.int (7 : Int32)), .val (.ref b50), .val (.int (1 : Int32))] [])) (fun _ k => XS.icmpYes X75.here hx rfl (pc0 := 161) (pc' := 167) rfl (hb hby at_161) rfl (teq (rfl : p5 = p5)).1 (by decide) (by decide) k) ?_
    refine Goes.step (S' := T75.setTop (mkF m 169 #[.val (.int p0), .val (.int p1), .val (.int p2), .val (.int p3), .val (.int p4), .val (.int p5), .val (.int (7 : Int32)), .val (.ref b50), .val (.int (1 : Int32))] [(.int (7 : Int32))])) (fun _ k => XS.iload X75.here hx rfl (hb hby at_167) rfl  k) ?_
    refine Goes.step (S' := T75.setTop (mkF m 171 #[.val (.int p0), .val (.int p1), .val (.int p2), .val (.int p3), .val (.int p4), .val (.int p5), .val (.int (7 : Int32)), .val (.ref b50), .val (.int (1 : Int32))] [(.int (6 : Int32)), (.int (7 : Int32))])) (fun _ k => XS.bipush X75.here hx rfl (hb hby at_169) k) ?_
    refine Goes.step (S' := T75.setTop (mkF m 174 #[.val (.int p0), .val (.int p1), .val (.int p2), .val (.int p3), .val (.int p4), .val (.int p5), .val (.int (7 : Int32)), .val (.ref b50), .val (.int (1 : Int32))] [])) (fun _ k => XS.icmpNo X75.here hx rfl (hb hby at_171) rfl (tlt (by decide)).2.2.2 k) ?_
    refine Goes.step (S' := T75.setTop (mkF m 176 #[.val (.int p0), .val (.int p1), .val (.int p2), .val (.int p3), .val (.int p4), .val (.int p5), .val (.int (7 : Int32)), .val (.ref b50), .val (.int (1 : Int32))] [(.ref b50)])) (fun _ k => XS.aload X75.here hx rfl (hb hby at_174) rfl rfl k) ?_
    refine Goes.step (S' := T75.setTop (mkF m 178 #[.val (.int p0), .val (.int p1), .val (.int p2), .val (.int p3), .val (.int p4), .val (.int p5), .val (.int (7 : Int32)), .val (.ref b50), .val (.int (1 : Int32))] [(.int (6 : Int32)), (.ref b50)])) (fun _ k => XS.bipush X75.here hx rfl (hb hby at_176) k) ?_
    refine Goes.step (S' := T75.setTop (mkF m 179 #[.val (.int p0), .val (.int p1), .val (.int p2), .val (.int p3), .val (.int p4), .val (.int p5), .val (.int (7 : Int32)), .val (.ref b50), .val (.int (1 : Int32))] [(.int (p5 ^^^ (-1 : Int32)))])) (fun _ k => own_iaload X75 hx hZ rfl V76 ⟨by decide, by decide⟩ (hb hby at_178) _ k) ?_
    refine Goes.step (S' := T75.setTop (mkF m 181 #[.val (.int p0), .val (.int p1), .val (.int p2), .val (.int p3), .val (.int p4), .val (.int p5), .val (.int (7 : Int32)), .val (.ref b50), .val (.int (1 : Int32))] [(.int p5), (.int (p5 ^^^ (-1 : Int32)))])) (fun _ k => XS.iload X75.here hx rfl (hb hby at_179) rfl  k) ?_
    refine Goes.step (S' := T75.setTop (mkF m 182 #[.val (.int p0), .val (.int p1), .val (.int p2), .val (.int p3), .val (.int p4), .val (.int p5), .val (.int (7 : Int32)), .val (.ref b50), .val (.int (1 : Int32))] [(.int (-1 : Int32)), (.int p5), (.int (p5 ^^^ (-1 : Int32)))])) (fun _ k => XS.iconst X75.here hx rfl (hb hby at_181) k) ?_
    refine Goes.step (S' := T75.setTop (mkF m 183 #[.val (.int p0), .val (.int p1), .val (.int p2), .val (.int p3), .val (.int p4), .val (.int p5), .val (.int (7 : Int32)), .val (.ref b50), .val (.int (1 : Int32))] [(.int (p5 ^^^ (-1 : Int32))), (.int (p5 ^^^ (-1 : Int32)))])) (fun _ k => XS.ixor X75.here hx rfl (hb hby at_182) rfl k) ?_
    refine Goes.step (S' := T75.setTop (mkF m 189 #[.val (.int p0), .val (.int p1), .val (.int p2), .val (.int p3), .val (.int p4), .val (.int p5), .val (.int (7 : Int32)), .val (.ref b50), .val (.int (1 : Int32))] [])) (fun _ k => XS.icmpYes X75.here hx rfl (pc0 := 183) (pc' := 189) rfl (hb hby at_183) rfl (teq (rfl : (p5 ^^^ (-1 : Int32)) = (p5 ^^^ (-1 : Int32)))).1 (by decide) (by decide) k) ?_
    refine Goes.step (S' := T75.setTop (mkF m 191 #[.val (.int p0), .val (.int p1), .val (.int p2), .val (.int p3), .val (.int p4), .val (.int p5), .val (.int (7 : Int32)), .val (.ref b50), .val (.int (1 : Int32))] [(.int (7 : Int32))])) (fun _ k => XS.iload X75.here hx rfl (hb hby at_189) rfl  k) ?_
    refine Goes.step (S' := T75.setTop (mkF m 193 #[.val (.int p0), .val (.int p1), .val (.int p2), .val (.int p3), .val (.int p4), .val (.int p5), .val (.int (7 : Int32)), .val (.ref b50), .val (.int (1 : Int32))] [(.int (7 : Int32)), (.int (7 : Int32))])) (fun _ k => XS.bipush X75.here hx rfl (hb hby at_191) k) ?_
    refine Goes.step (S' := T75.setTop (mkF m 211 #[.val (.int p0), .val (.int p1), .val (.int p2), .val (.int p3), .val (.int p4), .val (.int p5), .val (.int (7 : Int32)), .val (.ref b50), .val (.int (1 : Int32))] [])) (fun _ k => XS.icmpYes X75.here hx rfl (pc0 := 193) (pc' := 211) rfl (hb hby at_193) rfl (flt (by decide)).2.2.2 (by decide) (by decide) k) ?_
    refine Goes.step (S' := T75.setTop (mkF m 213 #[.val (.int p0), .val (.int p1), .val (.int p2), .val (.int p3), .val (.int p4), .val (.int p5), .val (.int (7 : Int32)), .val (.ref b50), .val (.int (1 : Int32))] [(.int (1 : Int32))])) (fun _ k => XS.iload X75.here hx rfl (hb hby at_211) rfl  k) ?_
    refine Goes.retN X75 hx Bd.notSynchronized (t := .boolean) Bd.returns (by simp) (hb hby at_213) (by decide) (by decide) ?_
    exact ⟨rfl, N77⟩
  · refine Goes.step (S' := s₁.setTop (mkF m 10 #[.val (.int p0), .val (.int p1), .val (.int p2), .val (.int p3), .val (.int p4), .val (.int p5), .val (.int (8 : Int32)), .unset, .unset] [(.int (8 : Int32))])) (fun _ k => XS.iload X0.here hx rfl (hb hby at_8) rfl  k) ?_
    obtain ⟨T79, h79, k79, X79, e79, E79, A79, st79⟩ := newP X0 hx hZ (hw _ (List.mem_of_getElem? (i := 0) rfl)) e0 (g := (mkF m 10 #[.val (.int p0), .val (.int p1), .val (.int p2), .val (.int p3), .val (.int p4), .val (.int p5), .val (.int (8 : Int32)), .unset, .unset] [(.int (8 : Int32))])) rfl (hb hby at_10) rfl (by decide) (cap := 8) (by decide) (by decide) (by decide) (by decide)
    obtain ⟨b79, g79⟩ : ∃ z, z = h0.size := ⟨_, rfl⟩
    rw [← g79] at A79 st79
    have g80 : n0 ≤ b79 := Nat.le_trans Z0 (Nat.le_of_eq g79.symm)
    have Z81 : n0 ≤ h79.size := Nat.le_trans Z0 E79.1
    have V82 : AI Z h79 b79 k79 .int (8 : Int32) [(0 : Int32), (0 : Int32), (0 : Int32), (0 : Int32), (0 : Int32), (0 : Int32), (0 : Int32), (0 : Int32)] := own_new A79 (by decide) rfl
    refine Goes.step (S' := T79.setTop (mkF m 12 #[.val (.int p0), .val (.int p1), .val (.int p2), .val (.int p3), .val (.int p4), .val (.int p5), .val (.int (8 : Int32)), .unset, .unset] [(.ref b79)])) st79 ?_
    refine Goes.step (S' := T79.setTop (mkF m 14 #[.val (.int p0), .val (.int p1), .val (.int p2), .val (.int p3), .val (.int p4), .val (.int p5), .val (.int (8 : Int32)), .val (.ref b79), .unset] [])) (fun _ k => XS.astore X79.here hx rfl (hb hby at_12) rfl rfl (l' := #[.val (.int p0), .val (.int p1), .val (.int p2), .val (.int p3), .val (.int p4), .val (.int p5), .val (.int (8 : Int32)), .val (.ref b79), .unset]) rfl k) ?_
    refine Goes.step (S' := T79.setTop (mkF m 16 #[.val (.int p0), .val (.int p1), .val (.int p2), .val (.int p3), .val (.int p4), .val (.int p5), .val (.int (8 : Int32)), .val (.ref b79), .unset] [(.ref b79)])) (fun _ k => XS.aload X79.here hx rfl (hb hby at_14) rfl rfl k) ?_
    refine Goes.step (S' := T79.setTop (mkF m 17 #[.val (.int p0), .val (.int p1), .val (.int p2), .val (.int p3), .val (.int p4), .val (.int p5), .val (.int (8 : Int32)), .val (.ref b79), .unset] [(.int (0 : Int32)), (.ref b79)])) (fun _ k => XS.iconst X79.here hx rfl (hb hby at_16) k) ?_
    refine Goes.step (S' := T79.setTop (mkF m 18 #[.val (.int p0), .val (.int p1), .val (.int p2), .val (.int p3), .val (.int p4), .val (.int p5), .val (.int (8 : Int32)), .val (.ref b79), .unset] [(.int p0), (.int (0 : Int32)), (.ref b79)])) (fun _ k => XS.iloadN X79.here hx rfl (hb hby at_17) rfl  k) ?_
    obtain ⟨T83, h83, X83, e83, W83, V_83, st83⟩ := own_iastore X79 hx hZ e79 V82 ⟨by decide, by decide⟩ (g := (mkF m 18 #[.val (.int p0), .val (.int p1), .val (.int p2), .val (.int p3), .val (.int p4), .val (.int p5), .val (.int (8 : Int32)), .val (.ref b79), .unset] [(.int p0), (.int (0 : Int32)), (.ref b79)])) rfl rfl (hb hby at_18)
    replace V_83 : AI Z h83 b79 k79 .int (8 : Int32) [p0, (0 : Int32), (0 : Int32), (0 : Int32), (0 : Int32), (0 : Int32), (0 : Int32), (0 : Int32)] := V_83
    have N84 := Fr.snoc X83 N0 g80
    have Z85 : n0 ≤ h83.size := Nat.le_trans Z81 (Nat.le_of_eq W83.size.symm)
    refine Goes.step (S' := T83.setTop (mkF m 19 #[.val (.int p0), .val (.int p1), .val (.int p2), .val (.int p3), .val (.int p4), .val (.int p5), .val (.int (8 : Int32)), .val (.ref b79), .unset] [])) st83 ?_
    refine Goes.step (S' := T83.setTop (mkF m 21 #[.val (.int p0), .val (.int p1), .val (.int p2), .val (.int p3), .val (.int p4), .val (.int p5), .val (.int (8 : Int32)), .val (.ref b79), .unset] [(.ref b79)])) (fun _ k => XS.aload X83.here hx rfl (hb hby at_19) rfl rfl k) ?_
    refine Goes.step (S' := T83.setTop (mkF m 22 #[.val (.int p0), .val (.int p1), .val (.int p2), .val (.int p3), .val (.int p4), .val (.int p5), .val (.int (8 : Int32)), .val (.ref b79), .unset] [(.int (1 : Int32)), (.ref b79)])) (fun _ k => XS.iconst X83.here hx rfl (hb hby at_21) k) ?_
    refine Goes.step (S' := T83.setTop (mkF m 23 #[.val (.int p0), .val (.int p1), .val (.int p2), .val (.int p3), .val (.int p4), .val (.int p5), .val (.int (8 : Int32)), .val (.ref b79), .unset] [(.int p1), (.int (1 : Int32)), (.ref b79)])) (fun _ k => XS.iloadN X83.here hx rfl (hb hby at_22) rfl  k) ?_
    obtain ⟨T86, h86, X86, e86, W86, V_86, st86⟩ := own_iastore X83 hx hZ e83 V_83 ⟨by decide, by decide⟩ (g := (mkF m 23 #[.val (.int p0), .val (.int p1), .val (.int p2), .val (.int p3), .val (.int p4), .val (.int p5), .val (.int (8 : Int32)), .val (.ref b79), .unset] [(.int p1), (.int (1 : Int32)), (.ref b79)])) rfl rfl (hb hby at_23)
    replace V_86 : AI Z h86 b79 k79 .int (8 : Int32) [p0, p1, (0 : Int32), (0 : Int32), (0 : Int32), (0 : Int32), (0 : Int32), (0 : Int32)] := V_86
    have N87 := Fr.snoc X86 N84 g80
    have Z88 : n0 ≤ h86.size := Nat.le_trans Z85 (Nat.le_of_eq W86.size.symm)
    refine Goes.step (S' := T86.setTop (mkF m 24 #[.val (.int p0), .val (.int p1), .val (.int p2), .val (.int p3), .val (.int p4), .val (.int p5), .val (.int (8 : Int32)), .val (.ref b79), .unset] [])) st86 ?_
    refine Goes.step (S' := T86.setTop (mkF m 26 #[.val (.int p0), .val (.int p1), .val (.int p2), .val (.int p3), .val (.int p4), .val (.int p5), .val (.int (8 : Int32)), .val (.ref b79), .unset] [(.ref b79)])) (fun _ k => XS.aload X86.here hx rfl (hb hby at_24) rfl rfl k) ?_
    refine Goes.step (S' := T86.setTop (mkF m 27 #[.val (.int p0), .val (.int p1), .val (.int p2), .val (.int p3), .val (.int p4), .val (.int p5), .val (.int (8 : Int32)), .val (.ref b79), .unset] [(.int (2 : Int32)), (.ref b79)])) (fun _ k => XS.iconst X86.here hx rfl (hb hby at_26) k) ?_
    refine Goes.step (S' := T86.setTop (mkF m 28 #[.val (.int p0), .val (.int p1), .val (.int p2), .val (.int p3), .val (.int p4), .val (.int p5), .val (.int (8 : Int32)), .val (.ref b79), .unset] [(.int p2), (.int (2 : Int32)), (.ref b79)])) (fun _ k => XS.iloadN X86.here hx rfl (hb hby at_27) rfl  k) ?_
    obtain ⟨T89, h89, X89, e89, W89, V_89, st89⟩ := own_iastore X86 hx hZ e86 V_86 ⟨by decide, by decide⟩ (g := (mkF m 28 #[.val (.int p0), .val (.int p1), .val (.int p2), .val (.int p3), .val (.int p4), .val (.int p5), .val (.int (8 : Int32)), .val (.ref b79), .unset] [(.int p2), (.int (2 : Int32)), (.ref b79)])) rfl rfl (hb hby at_28)
    replace V_89 : AI Z h89 b79 k79 .int (8 : Int32) [p0, p1, p2, (0 : Int32), (0 : Int32), (0 : Int32), (0 : Int32), (0 : Int32)] := V_89
    have N90 := Fr.snoc X89 N87 g80
    have Z91 : n0 ≤ h89.size := Nat.le_trans Z88 (Nat.le_of_eq W89.size.symm)
    refine Goes.step (S' := T89.setTop (mkF m 29 #[.val (.int p0), .val (.int p1), .val (.int p2), .val (.int p3), .val (.int p4), .val (.int p5), .val (.int (8 : Int32)), .val (.ref b79), .unset] [])) st89 ?_
    refine Goes.step (S' := T89.setTop (mkF m 31 #[.val (.int p0), .val (.int p1), .val (.int p2), .val (.int p3), .val (.int p4), .val (.int p5), .val (.int (8 : Int32)), .val (.ref b79), .unset] [(.ref b79)])) (fun _ k => XS.aload X89.here hx rfl (hb hby at_29) rfl rfl k) ?_
    refine Goes.step (S' := T89.setTop (mkF m 32 #[.val (.int p0), .val (.int p1), .val (.int p2), .val (.int p3), .val (.int p4), .val (.int p5), .val (.int (8 : Int32)), .val (.ref b79), .unset] [(.int (3 : Int32)), (.ref b79)])) (fun _ k => XS.iconst X89.here hx rfl (hb hby at_31) k) ?_
    refine Goes.step (S' := T89.setTop (mkF m 33 #[.val (.int p0), .val (.int p1), .val (.int p2), .val (.int p3), .val (.int p4), .val (.int p5), .val (.int (8 : Int32)), .val (.ref b79), .unset] [(.int p3), (.int (3 : Int32)), (.ref b79)])) (fun _ k => XS.iloadN X89.here hx rfl (hb hby at_32) rfl  k) ?_
    obtain ⟨T92, h92, X92, e92, W92, V_92, st92⟩ := own_iastore X89 hx hZ e89 V_89 ⟨by decide, by decide⟩ (g := (mkF m 33 #[.val (.int p0), .val (.int p1), .val (.int p2), .val (.int p3), .val (.int p4), .val (.int p5), .val (.int (8 : Int32)), .val (.ref b79), .unset] [(.int p3), (.int (3 : Int32)), (.ref b79)])) rfl rfl (hb hby at_33)
    replace V_92 : AI Z h92 b79 k79 .int (8 : Int32) [p0, p1, p2, p3, (0 : Int32), (0 : Int32), (0 : Int32), (0 : Int32)] := V_92
    have N93 := Fr.snoc X92 N90 g80
    have Z94 : n0 ≤ h92.size := Nat.le_trans Z91 (Nat.le_of_eq W92.size.symm)
    refine Goes.step (S' := T92.setTop (mkF m 34 #[.val (.int p0), .val (.int p1), .val (.int p2), .val (.int p3), .val (.int p4), .val (.int p5), .val (.int (8 : Int32)), .val (.ref b79), .unset] [])) st92 ?_
    refine Goes.step (S' := T92.setTop (mkF m 36 #[.val (.int p0), .val (.int p1), .val (.int p2), .val (.int p3), .val (.int p4), .val (.int p5), .val (.int (8 : Int32)), .val (.ref b79), .unset] [(.ref b79)])) (fun _ k => XS.aload X92.here hx rfl (hb hby at_34) rfl rfl k) ?_
    refine Goes.step (S' := T92.setTop (mkF m 37 #[.val (.int p0), .val (.int p1), .val (.int p2), .val (.int p3), .val (.int p4), .val (.int p5), .val (.int (8 : Int32)), .val (.ref b79), .unset] [(.int (4 : Int32)), (.ref b79)])) (fun _ k => XS.iconst X92.here hx rfl (hb hby at_36) k) ?_
    refine Goes.step (S' := T92.setTop (mkF m 39 #[.val (.int p0), .val (.int p1), .val (.int p2), .val (.int p3), .val (.int p4), .val (.int p5), .val (.int (8 : Int32)), .val (.ref b79), .unset] [(.int p4), (.int (4 : Int32)), (.ref b79)])) (fun _ k => XS.iload X92.here hx rfl (hb hby at_37) rfl  k) ?_
    obtain ⟨T95, h95, X95, e95, W95, V_95, st95⟩ := own_iastore X92 hx hZ e92 V_92 ⟨by decide, by decide⟩ (g := (mkF m 39 #[.val (.int p0), .val (.int p1), .val (.int p2), .val (.int p3), .val (.int p4), .val (.int p5), .val (.int (8 : Int32)), .val (.ref b79), .unset] [(.int p4), (.int (4 : Int32)), (.ref b79)])) rfl rfl (hb hby at_39)
    replace V_95 : AI Z h95 b79 k79 .int (8 : Int32) [p0, p1, p2, p3, p4, (0 : Int32), (0 : Int32), (0 : Int32)] := V_95
    have N96 := Fr.snoc X95 N93 g80
    have Z97 : n0 ≤ h95.size := Nat.le_trans Z94 (Nat.le_of_eq W95.size.symm)
    refine Goes.step (S' := T95.setTop (mkF m 40 #[.val (.int p0), .val (.int p1), .val (.int p2), .val (.int p3), .val (.int p4), .val (.int p5), .val (.int (8 : Int32)), .val (.ref b79), .unset] [])) st95 ?_
    refine Goes.step (S' := T95.setTop (mkF m 42 #[.val (.int p0), .val (.int p1), .val (.int p2), .val (.int p3), .val (.int p4), .val (.int p5), .val (.int (8 : Int32)), .val (.ref b79), .unset] [(.int (8 : Int32))])) (fun _ k => XS.iload X95.here hx rfl (hb hby at_40) rfl  k) ?_
    refine Goes.step (S' := T95.setTop (mkF m 43 #[.val (.int p0), .val (.int p1), .val (.int p2), .val (.int p3), .val (.int p4), .val (.int p5), .val (.int (8 : Int32)), .val (.ref b79), .unset] [(.int (5 : Int32)), (.int (8 : Int32))])) (fun _ k => XS.iconst X95.here hx rfl (hb hby at_42) k) ?_
    refine Goes.step (S' := T95.setTop (mkF m 46 #[.val (.int p0), .val (.int p1), .val (.int p2), .val (.int p3), .val (.int p4), .val (.int p5), .val (.int (8 : Int32)), .val (.ref b79), .unset] [])) (fun _ k => XS.icmpNo X95.here hx rfl (hb hby at_43) rfl (tlt (by decide)).2.2.2 k) ?_
    refine Goes.step (S' := T95.setTop (mkF m 48 #[.val (.int p0), .val (.int p1), .val (.int p2), .val (.int p3), .val (.int p4), .val (.int p5), .val (.int (8 : Int32)), .val (.ref b79), .unset] [(.ref b79)])) (fun _ k => XS.aload X95.here hx rfl (hb hby at_46) rfl rfl k) ?_
    refine Goes.step (S' := T95.setTop (mkF m 49 #[.val (.int p0), .val (.int p1), .val (.int p2), .val (.int p3), .val (.int p4), .val (.int p5), .val (.int (8 : Int32)), .val (.ref b79), .unset] [(.int (5 : Int32)), (.ref b79)])) (fun _ k => XS.iconst X95.here hx rfl (hb hby at_48) k) ?_
    refine Goes.step (S' := T95.setTop (mkF m 51 #[.val (.int p0), .val (.int p1), .val (.int p2), .val (.int p3), .val (.int p4), .val (.int p5), .val (.int (8 : Int32)), .val (.ref b79), .unset] [(.int p5), (.int (5 : Int32)), (.ref b79)])) (fun _ k => XS.iload X95.here hx rfl (hb hby at_49) rfl  k) ?_
    obtain ⟨T98, h98, X98, e98, W98, V_98, st98⟩ := own_iastore X95 hx hZ e95 V_95 ⟨by decide, by decide⟩ (g := (mkF m 51 #[.val (.int p0), .val (.int p1), .val (.int p2), .val (.int p3), .val (.int p4), .val (.int p5), .val (.int (8 : Int32)), .val (.ref b79), .unset] [(.int p5), (.int (5 : Int32)), (.ref b79)])) rfl rfl (hb hby at_51)
    replace V_98 : AI Z h98 b79 k79 .int (8 : Int32) [p0, p1, p2, p3, p4, p5, (0 : Int32), (0 : Int32)] := V_98
    have N99 := Fr.snoc X98 N96 g80
    have Z100 : n0 ≤ h98.size := Nat.le_trans Z97 (Nat.le_of_eq W98.size.symm)
    refine Goes.step (S' := T98.setTop (mkF m 52 #[.val (.int p0), .val (.int p1), .val (.int p2), .val (.int p3), .val (.int p4), .val (.int p5), .val (.int (8 : Int32)), .val (.ref b79), .unset] [])) st98 ?_
    refine Goes.step (S' := T98.setTop (mkF m 54 #[.val (.int p0), .val (.int p1), .val (.int p2), .val (.int p3), .val (.int p4), .val (.int p5), .val (.int (8 : Int32)), .val (.ref b79), .unset] [(.int (8 : Int32))])) (fun _ k => XS.iload X98.here hx rfl (hb hby at_52) rfl  k) ?_
    refine Goes.step (S' := T98.setTop (mkF m 56 #[.val (.int p0), .val (.int p1), .val (.int p2), .val (.int p3), .val (.int p4), .val (.int p5), .val (.int (8 : Int32)), .val (.ref b79), .unset] [(.int (6 : Int32)), (.int (8 : Int32))])) (fun _ k => XS.bipush X98.here hx rfl (hb hby at_54) k) ?_
    refine Goes.step (S' := T98.setTop (mkF m 59 #[.val (.int p0), .val (.int p1), .val (.int p2), .val (.int p3), .val (.int p4), .val (.int p5), .val (.int (8 : Int32)), .val (.ref b79), .unset] [])) (fun _ k => XS.icmpNo X98.here hx rfl (hb hby at_56) rfl (tlt (by decide)).2.2.2 k) ?_
    refine Goes.step (S' := T98.setTop (mkF m 61 #[.val (.int p0), .val (.int p1), .val (.int p2), .val (.int p3), .val (.int p4), .val (.int p5), .val (.int (8 : Int32)), .val (.ref b79), .unset] [(.ref b79)])) (fun _ k => XS.aload X98.here hx rfl (hb hby at_59) rfl rfl k) ?_
    refine Goes.step (S' := T98.setTop (mkF m 63 #[.val (.int p0), .val (.int p1), .val (.int p2), .val (.int p3), .val (.int p4), .val (.int p5), .val (.int (8 : Int32)), .val (.ref b79), .unset] [(.int (6 : Int32)), (.ref b79)])) (fun _ k => XS.bipush X98.here hx rfl (hb hby at_61) k) ?_
    refine Goes.step (S' := T98.setTop (mkF m 65 #[.val (.int p0), .val (.int p1), .val (.int p2), .val (.int p3), .val (.int p4), .val (.int p5), .val (.int (8 : Int32)), .val (.ref b79), .unset] [(.int p5), (.int (6 : Int32)), (.ref b79)])) (fun _ k => XS.iload X98.here hx rfl (hb hby at_63) rfl  k) ?_
    refine Goes.step (S' := T98.setTop (mkF m 66 #[.val (.int p0), .val (.int p1), .val (.int p2), .val (.int p3), .val (.int p4), .val (.int p5), .val (.int (8 : Int32)), .val (.ref b79), .unset] [(.int (-1 : Int32)), (.int p5), (.int (6 : Int32)), (.ref b79)])) (fun _ k => XS.iconst X98.here hx rfl (hb hby at_65) k) ?_
    refine Goes.step (S' := T98.setTop (mkF m 67 #[.val (.int p0), .val (.int p1), .val (.int p2), .val (.int p3), .val (.int p4), .val (.int p5), .val (.int (8 : Int32)), .val (.ref b79), .unset] [(.int (p5 ^^^ (-1 : Int32))), (.int (6 : Int32)), (.ref b79)])) (fun _ k => XS.ixor X98.here hx rfl (hb hby at_66) rfl k) ?_
    obtain ⟨T101, h101, X101, e101, W101, V_101, st101⟩ := own_iastore X98 hx hZ e98 V_98 ⟨by decide, by decide⟩ (g := (mkF m 67 #[.val (.int p0), .val (.int p1), .val (.int p2), .val (.int p3), .val (.int p4), .val (.int p5), .val (.int (8 : Int32)), .val (.ref b79), .unset] [(.int (p5 ^^^ (-1 : Int32))), (.int (6 : Int32)), (.ref b79)])) rfl rfl (hb hby at_67)
    replace V_101 : AI Z h101 b79 k79 .int (8 : Int32) [p0, p1, p2, p3, p4, p5, (p5 ^^^ (-1 : Int32)), (0 : Int32)] := V_101
    have N102 := Fr.snoc X101 N99 g80
    have Z103 : n0 ≤ h101.size := Nat.le_trans Z100 (Nat.le_of_eq W101.size.symm)
    refine Goes.step (S' := T101.setTop (mkF m 68 #[.val (.int p0), .val (.int p1), .val (.int p2), .val (.int p3), .val (.int p4), .val (.int p5), .val (.int (8 : Int32)), .val (.ref b79), .unset] [])) st101 ?_
    refine Goes.step (S' := T101.setTop (mkF m 70 #[.val (.int p0), .val (.int p1), .val (.int p2), .val (.int p3), .val (.int p4), .val (.int p5), .val (.int (8 : Int32)), .val (.ref b79), .unset] [(.int (8 : Int32))])) (fun _ k => XS.iload X101.here hx rfl (hb hby at_68) rfl  k) ?_
    refine Goes.step (S' := T101.setTop (mkF m 72 #[.val (.int p0), .val (.int p1), .val (.int p2), .val (.int p3), .val (.int p4), .val (.int p5), .val (.int (8 : Int32)), .val (.ref b79), .unset] [(.int (7 : Int32)), (.int (8 : Int32))])) (fun _ k => XS.bipush X101.here hx rfl (hb hby at_70) k) ?_
    refine Goes.step (S' := T101.setTop (mkF m 75 #[.val (.int p0), .val (.int p1), .val (.int p2), .val (.int p3), .val (.int p4), .val (.int p5), .val (.int (8 : Int32)), .val (.ref b79), .unset] [])) (fun _ k => XS.icmpNo X101.here hx rfl (hb hby at_72) rfl (tlt (by decide)).2.2.2 k) ?_
    refine Goes.step (S' := T101.setTop (mkF m 77 #[.val (.int p0), .val (.int p1), .val (.int p2), .val (.int p3), .val (.int p4), .val (.int p5), .val (.int (8 : Int32)), .val (.ref b79), .unset] [(.ref b79)])) (fun _ k => XS.aload X101.here hx rfl (hb hby at_75) rfl rfl k) ?_
    refine Goes.step (S' := T101.setTop (mkF m 79 #[.val (.int p0), .val (.int p1), .val (.int p2), .val (.int p3), .val (.int p4), .val (.int p5), .val (.int (8 : Int32)), .val (.ref b79), .unset] [(.int (7 : Int32)), (.ref b79)])) (fun _ k => XS.bipush X101.here hx rfl (hb hby at_77) k) ?_
    refine Goes.step (S' := T101.setTop (mkF m 81 #[.val (.int p0), .val (.int p1), .val (.int p2), .val (.int p3), .val (.int p4), .val (.int p5), .val (.int (8 : Int32)), .val (.ref b79), .unset] [(.int p5), (.int (7 : Int32)), (.ref b79)])) (fun _ k => XS.iload X101.here hx rfl (hb hby at_79) rfl  k) ?_
    refine Goes.step (S' := T101.setTop (mkF m 82 #[.val (.int p0), .val (.int p1), .val (.int p2), .val (.int p3), .val (.int p4), .val (.int p5), .val (.int (8 : Int32)), .val (.ref b79), .unset] [(.int p0), (.int p5), (.int (7 : Int32)), (.ref b79)])) (fun _ k => XS.iloadN X101.here hx rfl (hb hby at_81) rfl  k) ?_
    refine Goes.step (S' := T101.setTop (mkF m 83 #[.val (.int p0), .val (.int p1), .val (.int p2), .val (.int p3), .val (.int p4), .val (.int p5), .val (.int (8 : Int32)), .val (.ref b79), .unset] [(.int (p5 + p0)), (.int (7 : Int32)), (.ref b79)])) (fun _ k => XS.iadd X101.here hx rfl (hb hby at_82) rfl k) ?_
    obtain ⟨T104, h104, X104, e104, W104, V_104, st104⟩ := own_iastore X101 hx hZ e101 V_101 ⟨by decide, by decide⟩ (g := (mkF m 83 #[.val (.int p0), .val (.int p1), .val (.int p2), .val (.int p3), .val (.int p4), .val (.int p5), .val (.int (8 : Int32)), .val (.ref b79), .unset] [(.int (p5 + p0)), (.int (7 : Int32)), (.ref b79)])) rfl rfl (hb hby at_83)
    replace V_104 : AI Z h104 b79 k79 .int (8 : Int32) [p0, p1, p2, p3, p4, p5, (p5 ^^^ (-1 : Int32)), (p5 + p0)] := V_104
    have N105 := Fr.snoc X104 N102 g80
    have Z106 : n0 ≤ h104.size := Nat.le_trans Z103 (Nat.le_of_eq W104.size.symm)
    refine Goes.step (S' := T104.setTop (mkF m 84 #[.val (.int p0), .val (.int p1), .val (.int p2), .val (.int p3), .val (.int p4), .val (.int p5), .val (.int (8 : Int32)), .val (.ref b79), .unset] [])) st104 ?_
    refine Goes.step (S' := T104.setTop (mkF m 86 #[.val (.int p0), .val (.int p1), .val (.int p2), .val (.int p3), .val (.int p4), .val (.int p5), .val (.int (8 : Int32)), .val (.ref b79), .unset] [(.ref b79)])) (fun _ k => XS.aload X104.here hx rfl (hb hby at_84) rfl rfl k) ?_
    obtain ⟨_, _, ⟨T107, L107, k107, n107⟩, -, X107, ⟨Lc107, hQ107, l107, y107, z107⟩, st107⟩ := Jvm.LawKit.callS X104 hx (y := (⟨"fivewords/Sha1Block", "reset", "([I)V"⟩ : MethodName)) hown (mvT hZ (hw _ (List.mem_of_getElem? (i := 1) rfl))) (mvT hZ (hw _ (List.mem_of_getElem? (i := 2) rfl))) (mvT hZ (hw _ (List.mem_of_getElem? (i := 3) rfl))) (mvT hZ (hw _ (List.mem_of_getElem? (i := 4) rfl))) (by decide) (backOf (W := 0) (rm1 l Z a0 hw [] b79 k79 ((8 : Int32)) ([p0, p1, p2, p3, p4, p5, (p5 ^^^ (-1 : Int32)), (p5 + p0)]) h104 n0 Z106 V_104 g80 (own_pr0_86_hB_4 p0 p1 p2 p3 p4 p5 ev6_6)) hZ (hw _ (List.mem_of_getElem? (i := 4) rfl)) (hw _ (List.mem_of_getElem? (i := 3) rfl)) (by decide) (by decide)) (g := (mkF m 86 #[.val (.int p0), .val (.int p1), .val (.int p2), .val (.int p3), .val (.int p4), .val (.int p5), .val (.int (8 : Int32)), .val (.ref b79), .unset] [(.ref b79)])) rfl (by rw [hml]; rfl) (argsL := [(.ref b79)]) (rest := []) (lenOf pd0 rfl) rfl (by show 2 * 0 + _ ≤ _; exact Nat.le_of_eq rfl) (hb hby at_86) (fun _ _ => ⟨rfl, e104, (by decide : 1 + 0 ≤ _), (by decide : 8 + 0 ≤ _)⟩)
    dsimp only [Pt.U, Pt.locs, Pt.cells, Pt.slots] at X107 l107 y107 z107 st107 hQ107
    subst l107 y107 z107
    obtain ⟨rfl, N107q, K107q, V108⟩ := hQ107
    have N109 := Fr.app N105 N107q
    have Z110 : n0 ≤ T107.heap.size := Nat.le_trans Z106 K107q.1
    replace V108 : AI Z T107.heap b79 k79 .int (8 : Int32) [(1732584193 : Int32), (-271733879 : Int32), (-1732584194 : Int32), (271733878 : Int32), (-1009589776 : Int32), p5, (p5 ^^^ (-1 : Int32)), (p5 + p0)] := V108
    refine Goes.step (S' := T107.setTop (mkF m 89 #[.val (.int p0), .val (.int p1), .val (.int p2), .val (.int p3), .val (.int p4), .val (.int p5), .val (.int (8 : Int32)), .val (.ref b79), .unset] [])) st107 ?_
    refine Goes.step (S' := T107.setTop (mkF m 91 #[.val (.int p0), .val (.int p1), .val (.int p2), .val (.int p3), .val (.int p4), .val (.int p5), .val (.int (8 : Int32)), .val (.ref b79), .unset] [(.ref b79)])) (fun _ k => XS.aload X107.here hx rfl (hb hby at_89) rfl rfl k) ?_
    refine Goes.step (S' := T107.setTop (mkF m 92 #[.val (.int p0), .val (.int p1), .val (.int p2), .val (.int p3), .val (.int p4), .val (.int p5), .val (.int (8 : Int32)), .val (.ref b79), .unset] [(.int (8 : Int32))])) (fun _ k => own_len X107 hx hZ rfl V108 (hb hby at_91) _ k) ?_
    refine Goes.step (S' := T107.setTop (mkF m 94 #[.val (.int p0), .val (.int p1), .val (.int p2), .val (.int p3), .val (.int p4), .val (.int p5), .val (.int (8 : Int32)), .val (.ref b79), .unset] [(.int (8 : Int32)), (.int (8 : Int32))])) (fun _ k => XS.iload X107.here hx rfl (hb hby at_92) rfl  k) ?_
    refine Goes.step (S' := T107.setTop (mkF m 97 #[.val (.int p0), .val (.int p1), .val (.int p2), .val (.int p3), .val (.int p4), .val (.int p5), .val (.int (8 : Int32)), .val (.ref b79), .unset] [])) (fun _ k => XS.icmpNo X107.here hx rfl (hb hby at_94) rfl (teq (rfl : (8 : Int32) = (8 : Int32))).2 k) ?_
    refine Goes.step (S' := T107.setTop (mkF m 99 #[.val (.int p0), .val (.int p1), .val (.int p2), .val (.int p3), .val (.int p4), .val (.int p5), .val (.int (8 : Int32)), .val (.ref b79), .unset] [(.ref b79)])) (fun _ k => XS.aload X107.here hx rfl (hb hby at_97) rfl rfl k) ?_
    refine Goes.step (S' := T107.setTop (mkF m 100 #[.val (.int p0), .val (.int p1), .val (.int p2), .val (.int p3), .val (.int p4), .val (.int p5), .val (.int (8 : Int32)), .val (.ref b79), .unset] [(.int (0 : Int32)), (.ref b79)])) (fun _ k => XS.iconst X107.here hx rfl (hb hby at_99) k) ?_
    refine Goes.step (S' := T107.setTop (mkF m 101 #[.val (.int p0), .val (.int p1), .val (.int p2), .val (.int p3), .val (.int p4), .val (.int p5), .val (.int (8 : Int32)), .val (.ref b79), .unset] [(.int (1732584193 : Int32))])) (fun _ k => own_iaload X107 hx hZ rfl V108 ⟨by decide, by decide⟩ (hb hby at_100) _ k) ?_
    refine Goes.step (S' := T107.setTop (mkF m 103 #[.val (.int p0), .val (.int p1), .val (.int p2), .val (.int p3), .val (.int p4), .val (.int p5), .val (.int (8 : Int32)), .val (.ref b79), .unset] [(.int (1732584193 : Int32)), (.int (1732584193 : Int32))])) (fun _ k => X107.ldcInt hx hown (mvT hZ (hw _ (List.mem_of_getElem? (i := 10) rfl))) (g := (mkF m 101 #[.val (.int p0), .val (.int p1), .val (.int p2), .val (.int p3), .val (.int p4), .val (.int p5), .val (.int (8 : Int32)), .val (.ref b79), .unset] [(.int (1732584193 : Int32))])) rfl (hb hby at_101) _ k) ?_
    refine Goes.step (S' := T107.setTop (mkF m 106 #[.val (.int p0), .val (.int p1), .val (.int p2), .val (.int p3), .val (.int p4), .val (.int p5), .val (.int (8 : Int32)), .val (.ref b79), .unset] [])) (fun _ k => XS.icmpNo X107.here hx rfl (hb hby at_103) rfl (teq (rfl : (1732584193 : Int32) = (1732584193 : Int32))).2 k) ?_
    refine Goes.step (S' := T107.setTop (mkF m 108 #[.val (.int p0), .val (.int p1), .val (.int p2), .val (.int p3), .val (.int p4), .val (.int p5), .val (.int (8 : Int32)), .val (.ref b79), .unset] [(.ref b79)])) (fun _ k => XS.aload X107.here hx rfl (hb hby at_106) rfl rfl k) ?_
    refine Goes.step (S' := T107.setTop (mkF m 109 #[.val (.int p0), .val (.int p1), .val (.int p2), .val (.int p3), .val (.int p4), .val (.int p5), .val (.int (8 : Int32)), .val (.ref b79), .unset] [(.int (1 : Int32)), (.ref b79)])) (fun _ k => XS.iconst X107.here hx rfl (hb hby at_108) k) ?_
    refine Goes.step (S' := T107.setTop (mkF m 110 #[.val (.int p0), .val (.int p1), .val (.int p2), .val (.int p3), .val (.int p4), .val (.int p5), .val (.int (8 : Int32)), .val (.ref b79), .unset] [(.int (-271733879 : Int32))])) (fun _ k => own_iaload X107 hx hZ rfl V108 ⟨by decide, by decide⟩ (hb hby at_109) _ k) ?_
    refine Goes.step (S' := T107.setTop (mkF m 112 #[.val (.int p0), .val (.int p1), .val (.int p2), .val (.int p3), .val (.int p4), .val (.int p5), .val (.int (8 : Int32)), .val (.ref b79), .unset] [(.int (-271733879 : Int32)), (.int (-271733879 : Int32))])) (fun _ k => X107.ldcInt hx hown (mvT hZ (hw _ (List.mem_of_getElem? (i := 11) rfl))) (g := (mkF m 110 #[.val (.int p0), .val (.int p1), .val (.int p2), .val (.int p3), .val (.int p4), .val (.int p5), .val (.int (8 : Int32)), .val (.ref b79), .unset] [(.int (-271733879 : Int32))])) rfl (hb hby at_110) _ k) ?_
    refine Goes.step (S' := T107.setTop (mkF m 115 #[.val (.int p0), .val (.int p1), .val (.int p2), .val (.int p3), .val (.int p4), .val (.int p5), .val (.int (8 : Int32)), .val (.ref b79), .unset] [])) (fun _ k => XS.icmpNo X107.here hx rfl (hb hby at_112) rfl (teq (rfl : (-271733879 : Int32) = (-271733879 : Int32))).2 k) ?_
    refine Goes.step (S' := T107.setTop (mkF m 117 #[.val (.int p0), .val (.int p1), .val (.int p2), .val (.int p3), .val (.int p4), .val (.int p5), .val (.int (8 : Int32)), .val (.ref b79), .unset] [(.ref b79)])) (fun _ k => XS.aload X107.here hx rfl (hb hby at_115) rfl rfl k) ?_
    refine Goes.step (S' := T107.setTop (mkF m 118 #[.val (.int p0), .val (.int p1), .val (.int p2), .val (.int p3), .val (.int p4), .val (.int p5), .val (.int (8 : Int32)), .val (.ref b79), .unset] [(.int (2 : Int32)), (.ref b79)])) (fun _ k => XS.iconst X107.here hx rfl (hb hby at_117) k) ?_
    refine Goes.step (S' := T107.setTop (mkF m 119 #[.val (.int p0), .val (.int p1), .val (.int p2), .val (.int p3), .val (.int p4), .val (.int p5), .val (.int (8 : Int32)), .val (.ref b79), .unset] [(.int (-1732584194 : Int32))])) (fun _ k => own_iaload X107 hx hZ rfl V108 ⟨by decide, by decide⟩ (hb hby at_118) _ k) ?_
    refine Goes.step (S' := T107.setTop (mkF m 121 #[.val (.int p0), .val (.int p1), .val (.int p2), .val (.int p3), .val (.int p4), .val (.int p5), .val (.int (8 : Int32)), .val (.ref b79), .unset] [(.int (-1732584194 : Int32)), (.int (-1732584194 : Int32))])) (fun _ k => X107.ldcInt hx hown (mvT hZ (hw _ (List.mem_of_getElem? (i := 12) rfl))) (g := (mkF m 119 #[.val (.int p0), .val (.int p1), .val (.int p2), .val (.int p3), .val (.int p4), .val (.int p5), .val (.int (8 : Int32)), .val (.ref b79), .unset] [(.int (-1732584194 : Int32))])) rfl (hb hby at_119) _ k) ?_
    refine Goes.step (S' := T107.setTop (mkF m 124 #[.val (.int p0), .val (.int p1), .val (.int p2), .val (.int p3), .val (.int p4), .val (.int p5), .val (.int (8 : Int32)), .val (.ref b79), .unset] [])) (fun _ k => XS.icmpNo X107.here hx rfl (hb hby at_121) rfl (teq (rfl : (-1732584194 : Int32) = (-1732584194 : Int32))).2 k) ?_
    refine Goes.step (S' := T107.setTop (mkF m 126 #[.val (.int p0), .val (.int p1), .val (.int p2), .val (.int p3), .val (.int p4), .val (.int p5), .val (.int (8 : Int32)), .val (.ref b79), .unset] [(.ref b79)])) (fun _ k => XS.aload X107.here hx rfl (hb hby at_124) rfl rfl k) ?_
    refine Goes.step (S' := T107.setTop (mkF m 127 #[.val (.int p0), .val (.int p1), .val (.int p2), .val (.int p3), .val (.int p4), .val (.int p5), .val (.int (8 : Int32)), .val (.ref b79), .unset] [(.int (3 : Int32)), (.ref b79)])) (fun _ k => XS.iconst X107.here hx rfl (hb hby at_126) k) ?_
    refine Goes.step (S' := T107.setTop (mkF m 128 #[.val (.int p0), .val (.int p1), .val (.int p2), .val (.int p3), .val (.int p4), .val (.int p5), .val (.int (8 : Int32)), .val (.ref b79), .unset] [(.int (271733878 : Int32))])) (fun _ k => own_iaload X107 hx hZ rfl V108 ⟨by decide, by decide⟩ (hb hby at_127) _ k) ?_
    refine Goes.step (S' := T107.setTop (mkF m 130 #[.val (.int p0), .val (.int p1), .val (.int p2), .val (.int p3), .val (.int p4), .val (.int p5), .val (.int (8 : Int32)), .val (.ref b79), .unset] [(.int (271733878 : Int32)), (.int (271733878 : Int32))])) (fun _ k => X107.ldcInt hx hown (mvT hZ (hw _ (List.mem_of_getElem? (i := 13) rfl))) (g := (mkF m 128 #[.val (.int p0), .val (.int p1), .val (.int p2), .val (.int p3), .val (.int p4), .val (.int p5), .val (.int (8 : Int32)), .val (.ref b79), .unset] [(.int (271733878 : Int32))])) rfl (hb hby at_128) _ k) ?_
    refine Goes.step (S' := T107.setTop (mkF m 133 #[.val (.int p0), .val (.int p1), .val (.int p2), .val (.int p3), .val (.int p4), .val (.int p5), .val (.int (8 : Int32)), .val (.ref b79), .unset] [])) (fun _ k => XS.icmpNo X107.here hx rfl (hb hby at_130) rfl (teq (rfl : (271733878 : Int32) = (271733878 : Int32))).2 k) ?_
    refine Goes.step (S' := T107.setTop (mkF m 135 #[.val (.int p0), .val (.int p1), .val (.int p2), .val (.int p3), .val (.int p4), .val (.int p5), .val (.int (8 : Int32)), .val (.ref b79), .unset] [(.ref b79)])) (fun _ k => XS.aload X107.here hx rfl (hb hby at_133) rfl rfl k) ?_
    refine Goes.step (S' := T107.setTop (mkF m 136 #[.val (.int p0), .val (.int p1), .val (.int p2), .val (.int p3), .val (.int p4), .val (.int p5), .val (.int (8 : Int32)), .val (.ref b79), .unset] [(.int (4 : Int32)), (.ref b79)])) (fun _ k => XS.iconst X107.here hx rfl (hb hby at_135) k) ?_
    refine Goes.step (S' := T107.setTop (mkF m 137 #[.val (.int p0), .val (.int p1), .val (.int p2), .val (.int p3), .val (.int p4), .val (.int p5), .val (.int (8 : Int32)), .val (.ref b79), .unset] [(.int (-1009589776 : Int32))])) (fun _ k => own_iaload X107 hx hZ rfl V108 ⟨by decide, by decide⟩ (hb hby at_136) _ k) ?_
    refine Goes.step (S' := T107.setTop (mkF m 139 #[.val (.int p0), .val (.int p1), .val (.int p2), .val (.int p3), .val (.int p4), .val (.int p5), .val (.int (8 : Int32)), .val (.ref b79), .unset] [(.int (-1009589776 : Int32)), (.int (-1009589776 : Int32))])) (fun _ k => X107.ldcInt hx hown (mvT hZ (hw _ (List.mem_of_getElem? (i := 14) rfl))) (g := (mkF m 137 #[.val (.int p0), .val (.int p1), .val (.int p2), .val (.int p3), .val (.int p4), .val (.int p5), .val (.int (8 : Int32)), .val (.ref b79), .unset] [(.int (-1009589776 : Int32))])) rfl (hb hby at_137) _ k) ?_
    refine Goes.step (S' := T107.setTop (mkF m 142 #[.val (.int p0), .val (.int p1), .val (.int p2), .val (.int p3), .val (.int p4), .val (.int p5), .val (.int (8 : Int32)), .val (.ref b79), .unset] [])) (fun _ k => XS.icmpNo X107.here hx rfl (hb hby at_139) rfl (teq (rfl : (-1009589776 : Int32) = (-1009589776 : Int32))).2 k) ?_
    refine Goes.step (S' := T107.setTop (mkF m 143 #[.val (.int p0), .val (.int p1), .val (.int p2), .val (.int p3), .val (.int p4), .val (.int p5), .val (.int (8 : Int32)), .val (.ref b79), .unset] [(.int (1 : Int32))])) (fun _ k => XS.iconst X107.here hx rfl (hb hby at_142) k) ?_
    refine Goes.step (S' := T107.setTop (mkF m 147 #[.val (.int p0), .val (.int p1), .val (.int p2), .val (.int p3), .val (.int p4), .val (.int p5), .val (.int (8 : Int32)), .val (.ref b79), .unset] [(.int (1 : Int32))])) (fun _ k => XS.goto X107.here hx rfl (pc0 := 143) (pc' := 147) rfl (hb hby at_143) (by decide) (by decide) k) ?_
    refine Goes.step (S' := T107.setTop (mkF m 149 #[.val (.int p0), .val (.int p1), .val (.int p2), .val (.int p3), .val (.int p4), .val (.int p5), .val (.int (8 : Int32)), .val (.ref b79), .val (.int (1 : Int32))] [])) (fun _ k => XS.istore X107.here hx rfl (hb hby at_147) rfl (l' := #[.val (.int p0), .val (.int p1), .val (.int p2), .val (.int p3), .val (.int p4), .val (.int p5), .val (.int (8 : Int32)), .val (.ref b79), .val (.int (1 : Int32))]) rfl k) ?_
    refine Goes.step (S' := T107.setTop (mkF m 151 #[.val (.int p0), .val (.int p1), .val (.int p2), .val (.int p3), .val (.int p4), .val (.int p5), .val (.int (8 : Int32)), .val (.ref b79), .val (.int (1 : Int32))] [(.int (8 : Int32))])) (fun _ k => XS.iload X107.here hx rfl (hb hby at_149) rfl  k) ?_
    refine Goes.step (S' := T107.setTop (mkF m 152 #[.val (.int p0), .val (.int p1), .val (.int p2), .val (.int p3), .val (.int p4), .val (.int p5), .val (.int (8 : Int32)), .val (.ref b79), .val (.int (1 : Int32))] [(.int (5 : Int32)), (.int (8 : Int32))])) (fun _ k => XS.iconst X107.here hx rfl (hb hby at_151) k) ?_
    refine Goes.step (S' := T107.setTop (mkF m 155 #[.val (.int p0), .val (.int p1), .val (.int p2), .val (.int p3), .val (.int p4), .val (.int p5), .val (.int (8 : Int32)), .val (.ref b79), .val (.int (1 : Int32))] [])) (fun _ k => XS.icmpNo X107.here hx rfl (hb hby at_152) rfl (tlt (by decide)).2.2.2 k) ?_
    refine Goes.step (S' := T107.setTop (mkF m 157 #[.val (.int p0), .val (.int p1), .val (.int p2), .val (.int p3), .val (.int p4), .val (.int p5), .val (.int (8 : Int32)), .val (.ref b79), .val (.int (1 : Int32))] [(.ref b79)])) (fun _ k => XS.aload X107.here hx rfl (hb hby at_155) rfl rfl k) ?_
    refine Goes.step (S' := T107.setTop (mkF m 158 #[.val (.int p0), .val (.int p1), .val (.int p2), .val (.int p3), .val (.int p4), .val (.int p5), .val (.int (8 : Int32)), .val (.ref b79), .val (.int (1 : Int32))] [(.int (5 : Int32)), (.ref b79)])) (fun _ k => XS.iconst X107.here hx rfl (hb hby at_157) k) ?_
    refine Goes.step (S' := T107.setTop (mkF m 159 #[.val (.int p0), .val (.int p1), .val (.int p2), .val (.int p3), .val (.int p4), .val (.int p5), .val (.int (8 : Int32)), .val (.ref b79), .val (.int (1 : Int32))] [(.int p5)])) (fun _ k => own_iaload X107 hx hZ rfl V108 ⟨by decide, by decide⟩ (hb hby at_158) _ k) ?_
    refine Goes.step (S' := T107.setTop (mkF m 161 #[.val (.int p0), .val (.int p1), .val (.int p2), .val (.int p3), .val (.int p4), .val (.int p5), .val (.int (8 : Int32)), .val (.ref b79), .val (.int (1 : Int32))] [(.int p5), (.int p5)])) (fun _ k => XS.iload X107.here hx rfl (hb hby at_159) rfl  k) ?_
    refine Goes.step (S' := T107.setTop (mkF m 167 #[.val (.int p0), .val (.int p1), .val (.int p2), .val (.int p3), .val (.int p4), .val (.int p5), .val (.int (8 : Int32)), .val (.ref b79), .val (.int (1 : Int32))] [])) (fun _ k => XS.icmpYes X107.here hx rfl (pc0 := 161) (pc' := 167) rfl (hb hby at_161) rfl (teq (rfl : p5 = p5)).1 (by decide) (by decide) k) ?_
    refine Goes.step (S' := T107.setTop (mkF m 169 #[.val (.int p0), .val (.int p1), .val (.int p2), .val (.int p3), .val (.int p4), .val (.int p5), .val (.int (8 : Int32)), .val (.ref b79), .val (.int (1 : Int32))] [(.int (8 : Int32))])) (fun _ k => XS.iload X107.here hx rfl (hb hby at_167) rfl  k) ?_
    refine Goes.step (S' := T107.setTop (mkF m 171 #[.val (.int p0), .val (.int p1), .val (.int p2), .val (.int p3), .val (.int p4), .val (.int p5), .val (.int (8 : Int32)), .val (.ref b79), .val (.int (1 : Int32))] [(.int (6 : Int32)), (.int (8 : Int32))])) (fun _ k => XS.bipush X107.here hx rfl (hb hby at_169) k) ?_
    refine Goes.step (S' := T107.setTop (mkF m 174 #[.val (.int p0), .val (.int p1), .val (.int p2), .val (.int p3), .val (.int p4), .val (.int p5), .val (.int (8 : Int32)), .val (.ref b79), .val (.int (1 : Int32))] [])) (fun _ k => XS.icmpNo X107.here hx rfl (hb hby at_171) rfl (tlt (by decide)).2.2.2 k) ?_
    refine Goes.step (S' := T107.setTop (mkF m 176 #[.val (.int p0), .val (.int p1), .val (.int p2), .val (.int p3), .val (.int p4), .val (.int p5), .val (.int (8 : Int32)), .val (.ref b79), .val (.int (1 : Int32))] [(.ref b79)])) (fun _ k => XS.aload X107.here hx rfl (hb hby at_174) rfl rfl k) ?_
    refine Goes.step (S' := T107.setTop (mkF m 178 #[.val (.int p0), .val (.int p1), .val (.int p2), .val (.int p3), .val (.int p4), .val (.int p5), .val (.int (8 : Int32)), .val (.ref b79), .val (.int (1 : Int32))] [(.int (6 : Int32)), (.ref b79)])) (fun _ k => XS.bipush X107.here hx rfl (hb hby at_176) k) ?_
    refine Goes.step (S' := T107.setTop (mkF m 179 #[.val (.int p0), .val (.int p1), .val (.int p2), .val (.int p3), .val (.int p4), .val (.int p5), .val (.int (8 : Int32)), .val (.ref b79), .val (.int (1 : Int32))] [(.int (p5 ^^^ (-1 : Int32)))])) (fun _ k => own_iaload X107 hx hZ rfl V108 ⟨by decide, by decide⟩ (hb hby at_178) _ k) ?_
    refine Goes.step (S' := T107.setTop (mkF m 181 #[.val (.int p0), .val (.int p1), .val (.int p2), .val (.int p3), .val (.int p4), .val (.int p5), .val (.int (8 : Int32)), .val (.ref b79), .val (.int (1 : Int32))] [(.int p5), (.int (p5 ^^^ (-1 : Int32)))])) (fun _ k => XS.iload X107.here hx rfl (hb hby at_179) rfl  k) ?_
    refine Goes.step (S' := T107.setTop (mkF m 182 #[.val (.int p0), .val (.int p1), .val (.int p2), .val (.int p3), .val (.int p4), .val (.int p5), .val (.int (8 : Int32)), .val (.ref b79), .val (.int (1 : Int32))] [(.int (-1 : Int32)), (.int p5), (.int (p5 ^^^ (-1 : Int32)))])) (fun _ k => XS.iconst X107.here hx rfl (hb hby at_181) k) ?_
    refine Goes.step (S' := T107.setTop (mkF m 183 #[.val (.int p0), .val (.int p1), .val (.int p2), .val (.int p3), .val (.int p4), .val (.int p5), .val (.int (8 : Int32)), .val (.ref b79), .val (.int (1 : Int32))] [(.int (p5 ^^^ (-1 : Int32))), (.int (p5 ^^^ (-1 : Int32)))])) (fun _ k => XS.ixor X107.here hx rfl (hb hby at_182) rfl k) ?_
    refine Goes.step (S' := T107.setTop (mkF m 189 #[.val (.int p0), .val (.int p1), .val (.int p2), .val (.int p3), .val (.int p4), .val (.int p5), .val (.int (8 : Int32)), .val (.ref b79), .val (.int (1 : Int32))] [])) (fun _ k => XS.icmpYes X107.here hx rfl (pc0 := 183) (pc' := 189) rfl (hb hby at_183) rfl (teq (rfl : (p5 ^^^ (-1 : Int32)) = (p5 ^^^ (-1 : Int32)))).1 (by decide) (by decide) k) ?_
    refine Goes.step (S' := T107.setTop (mkF m 191 #[.val (.int p0), .val (.int p1), .val (.int p2), .val (.int p3), .val (.int p4), .val (.int p5), .val (.int (8 : Int32)), .val (.ref b79), .val (.int (1 : Int32))] [(.int (8 : Int32))])) (fun _ k => XS.iload X107.here hx rfl (hb hby at_189) rfl  k) ?_
    refine Goes.step (S' := T107.setTop (mkF m 193 #[.val (.int p0), .val (.int p1), .val (.int p2), .val (.int p3), .val (.int p4), .val (.int p5), .val (.int (8 : Int32)), .val (.ref b79), .val (.int (1 : Int32))] [(.int (7 : Int32)), (.int (8 : Int32))])) (fun _ k => XS.bipush X107.here hx rfl (hb hby at_191) k) ?_
    refine Goes.step (S' := T107.setTop (mkF m 196 #[.val (.int p0), .val (.int p1), .val (.int p2), .val (.int p3), .val (.int p4), .val (.int p5), .val (.int (8 : Int32)), .val (.ref b79), .val (.int (1 : Int32))] [])) (fun _ k => XS.icmpNo X107.here hx rfl (hb hby at_193) rfl (tlt (by decide)).2.2.2 k) ?_
    refine Goes.step (S' := T107.setTop (mkF m 198 #[.val (.int p0), .val (.int p1), .val (.int p2), .val (.int p3), .val (.int p4), .val (.int p5), .val (.int (8 : Int32)), .val (.ref b79), .val (.int (1 : Int32))] [(.ref b79)])) (fun _ k => XS.aload X107.here hx rfl (hb hby at_196) rfl rfl k) ?_
    refine Goes.step (S' := T107.setTop (mkF m 200 #[.val (.int p0), .val (.int p1), .val (.int p2), .val (.int p3), .val (.int p4), .val (.int p5), .val (.int (8 : Int32)), .val (.ref b79), .val (.int (1 : Int32))] [(.int (7 : Int32)), (.ref b79)])) (fun _ k => XS.bipush X107.here hx rfl (hb hby at_198) k) ?_
    refine Goes.step (S' := T107.setTop (mkF m 201 #[.val (.int p0), .val (.int p1), .val (.int p2), .val (.int p3), .val (.int p4), .val (.int p5), .val (.int (8 : Int32)), .val (.ref b79), .val (.int (1 : Int32))] [(.int (p5 + p0))])) (fun _ k => own_iaload X107 hx hZ rfl V108 ⟨by decide, by decide⟩ (hb hby at_200) _ k) ?_
    refine Goes.step (S' := T107.setTop (mkF m 203 #[.val (.int p0), .val (.int p1), .val (.int p2), .val (.int p3), .val (.int p4), .val (.int p5), .val (.int (8 : Int32)), .val (.ref b79), .val (.int (1 : Int32))] [(.int p5), (.int (p5 + p0))])) (fun _ k => XS.iload X107.here hx rfl (hb hby at_201) rfl  k) ?_
    refine Goes.step (S' := T107.setTop (mkF m 204 #[.val (.int p0), .val (.int p1), .val (.int p2), .val (.int p3), .val (.int p4), .val (.int p5), .val (.int (8 : Int32)), .val (.ref b79), .val (.int (1 : Int32))] [(.int p0), (.int p5), (.int (p5 + p0))])) (fun _ k => XS.iloadN X107.here hx rfl (hb hby at_203) rfl  k) ?_
    refine Goes.step (S' := T107.setTop (mkF m 205 #[.val (.int p0), .val (.int p1), .val (.int p2), .val (.int p3), .val (.int p4), .val (.int p5), .val (.int (8 : Int32)), .val (.ref b79), .val (.int (1 : Int32))] [(.int (p5 + p0)), (.int (p5 + p0))])) (fun _ k => XS.iadd X107.here hx rfl (hb hby at_204) rfl k) ?_
    refine Goes.step (S' := T107.setTop (mkF m 211 #[.val (.int p0), .val (.int p1), .val (.int p2), .val (.int p3), .val (.int p4), .val (.int p5), .val (.int (8 : Int32)), .val (.ref b79), .val (.int (1 : Int32))] [])) (fun _ k => XS.icmpYes X107.here hx rfl (pc0 := 205) (pc' := 211) rfl (hb hby at_205) rfl (teq (rfl : (p5 + p0) = (p5 + p0))).1 (by decide) (by decide) k) ?_
    refine Goes.step (S' := T107.setTop (mkF m 213 #[.val (.int p0), .val (.int p1), .val (.int p2), .val (.int p3), .val (.int p4), .val (.int p5), .val (.int (8 : Int32)), .val (.ref b79), .val (.int (1 : Int32))] [(.int (1 : Int32))])) (fun _ k => XS.iload X107.here hx rfl (hb hby at_211) rfl  k) ?_
    refine Goes.retN X107 hx Bd.notSynchronized (t := .boolean) Bd.returns (by simp) (hb hby at_213) (by decide) (by decide) ?_
    exact ⟨rfl, N109⟩
set_option maxRecDepth 65536 in
set_option maxHeartbeats 40000000 in
theorem comes_1 {Post : Tables → Env → Array Value → State → Outcome → State → Prop} (hpost : ∀ tb e args s v u, (limb_1_1.after args s (.returned v) u = true ∧ limb_1_2.after args s (.returned v) u = true ∧ True) → FrameEnd s (.returned v) u (Jvm.fieldLocs frame_1_writes args s ++ Jvm.arrayLocs frame_1_arrays args s ++ Jvm.staticLocs frame_1_statics s) 16 128 → Post tb e args s (.returned v) u) :
    ArmFor flags0 classFile x code maxLocals ret World_1 tables_1 room_1 Calls_1 rest_1 Pre_1 Post := by
  intro l hfl _ _ p e ha hc hk s m args below hf hA hF happ hP
  obtain ⟨hcalls, hrest, hpre⟩ := hP
  obtain ⟨-, -, -, hnamed, -, -, -, hat⟩ := (Spec.applies_iff hf).mp happ
  obtain ⟨hg, hn⟩ := and_e (Cond.before_iff.mp (show (Jvm.Cond.and given_1 narrow_1).before args s = true from hpre))
  obtain ⟨gg1, gg2⟩ := and_e hg
  obtain ⟨gg3, gg4⟩ := and_e gg2
  obtain ⟨gg5, gg6⟩ := and_e gg4
  obtain ⟨gg7, gg8⟩ := and_e gg6
  obtain ⟨gg9, gg10⟩ := and_e gg8
  obtain ⟨gg11, gg12⟩ := and_e gg10
  obtain ⟨w0, w1, w2, w3, w4, w5, rfl⟩ : ∃ w0 w1 w2 w3 w4 w5 : Value, args = #[w0, w1, w2, w3, w4, w5] := by
    have hs : args.size = 6 := by simpa [Cond.value, given_1] using gg1
    obtain ⟨L⟩ := args
    match L, hs with
    | [w0, w1, w2, w3, w4, w5], _ => exact ⟨w0, w1, w2, w3, w4, w5, rfl⟩
  have hw := fun d (hd : d ∈ tables_1) => atoms_spec (ws := Jvm.Cond.code x code maxLocals ret :: tables_1) hat d (List.mem_cons_of_mem _ hd)
  obtain ⟨i0, ei0⟩ := is_v gg3
  obtain rfl : w0 = (.int i0) := Option.some.inj ei0
  obtain ⟨i1, ei1⟩ := is_v gg5
  obtain rfl : w1 = (.int i1) := Option.some.inj ei1
  obtain ⟨i2, ei2⟩ := is_v gg7
  obtain rfl : w2 = (.int i2) := Option.some.inj ei2
  obtain ⟨i3, ei3⟩ := is_v gg9
  obtain rfl : w3 = (.int i3) := Option.some.inj ei3
  obtain ⟨i4, ei4⟩ := is_v gg11
  obtain rfl : w4 = (.int i4) := Option.some.inj ei4
  obtain ⟨i5, ei5⟩ := is_v gg12
  obtain rfl : w5 = (.int i5) := Option.some.inj ei5
  obtain ⟨n, o, h1, h2, h3, _, L, rfl, ⟨rfl, N⟩, hq⟩ := rm0 l s _ hw tables_1 i0 i1 i2 i3 i4 i5 s.heap s.heap.size (Nat.le_refl _) p e ha hc hk s m _ below hf ((Spec.applies_iff_loose hf).mp happ).1 ⟨rfl, State.Warmed39.refl s, rfl⟩ trivial
  refine ⟨n, _, h1, h2, h3, hpost _ _ _ _ _ _ ⟨Cond.after_iff.mpr rfl, Cond.after_iff.mpr (eq_i res_at (Term.int_eval (1)) rfl), trivial⟩ ⟨hq.1, hq.2.1, (hq.2.2.sift fun y hy => Or.inr (N y hy)).mono (by decide) (by decide)⟩⟩
theorem main_1_1 : Claimed_1_1 := comes_1 fun _ _ _ _ _ _ h hF => ⟨h.1, hF⟩
theorem main_1_2 : Claimed_1_2 := comes_1 fun _ _ _ _ _ _ h hF => ⟨h.2.1, hF⟩
end Jvm.Pilot.@@N@@
namespace Jvm.Pilot.@@N@@
open Jvm Jvm.ClassFile Sem Op Lib Jvm.Free Jvm.Stand Jvm.Pilot.@@N@@.Jvm.D
/-! MADE BY PROGRAM (witnessworld.py) out of the Statement's table words and the real class files: 9 classes; the members and pool entries that the words name. The judged class is class 1, her method 1. -/
namespace start1
open Jvm.ClassFile
def u (s : String) : CpInfo := .utf8 (stringToUtf16 s)
/-- a pool by its gaps: so many unusable entries, then the entry; so many at the end -/
def gap : Nat → List CpInfo → List CpInfo
  | 0, r => r
  | n + 1, r => .unusable :: gap n r
def poolList (es : List (Nat × CpInfo)) (last : Nat) : List CpInfo := es.foldr (fun e r => gap e.1 (e.2 :: r)) (gap last [])
def pool (es : List (Nat × CpInfo)) (last : Nat) : Array CpInfo := ⟨poolList es last⟩
def fileOf (pool : Array CpInfo) (this : Nat) (attrs : Array Attribute := #[]) (ms : Array MethodInfo := #[]) (fl : Nat := 33) (sup : Nat := 0) (ifs : Array Nat := #[]) (fds : Array FieldInfo := #[]) : ClassFile where
  minorVersion := 0
  majorVersion := 65
  constantPool := pool
  accessFlags := fl
  thisClass := this
  superClass := sup
  interfaces := ifs
  fields := fds
  methods := ms
  attributes := attrs
def plain (name : String) (sup : Option ClassId) : Class where
  name := name
  kind := .ordinary
  loader := none
  accessFlags := 33
  super := sup
  interfaces := #[]
  cf := none
  fields := #[]
  methods := #[]
  instanceTypes := #[]
  staticTypes := #[]
  resolved := #[]
  callSites := []
  init := .initialized
  statics := none
  mirror := none

def pool0 : Array CpInfo := pool [(5, u "<init>"), (0, u "()V"), (1, .class_ 10), (1, u "java/lang/Object")] 113

def k0m0 : Method := { name := "<init>", desc := "()V", sig := { parameters := [], returnType := none }, accessFlags := 1, code := none }
/-- java/lang/Object -/
def k0 : Class := { plain "java/lang/Object" none with
  accessFlags := 33
  interfaces := #[]
  cf := some (fileOf pool0 8 #[] #[{ accessFlags := 1, nameIndex := 5, descriptorIndex := 6, attributes := #[] }] 33 0 #[] #[])
  fields := #[]
  methods := #[k0m0]
  instanceTypes := #[]
  staticTypes := #[]
  resolved := Array.replicate 124 none
  statics := none }

def pool1 : Array CpInfo := pool [(2, .class_ 4), (1, u "java/lang/Object"), (0, u "<init>"), (0, u "()V"), (0, .methodref 8 9), (0, .class_ 10), (0, .nameAndType 11 12), (0, u "fivewords/Sha1Block"), (0, u "reset"), (0, u "([I)V"), (0, .integer 1732584193), (0, .integer 4023233417), (0, .integer 2562383102), (0, .integer 271733878), (0, .integer 3285377520), (0, .class_ 19), (0, u "fivewords/Sha1BlockResetPinLaw"), (2, u "law"), (0, u "(IIIIII)Z")] 5

def k1m0 : Method := { name := "<init>", desc := "()V", sig := { parameters := [], returnType := none }, accessFlags := 2, code := none }
def k1c1 : Code := { maxStack := 4, maxLocals := 9, code := code, exceptionTable := #[], attributes := #[] }
def k1m1 : Method := { name := "law", desc := "(IIIIII)Z", sig := { parameters := [.int, .int, .int, .int, .int, .int], returnType := some .boolean }, accessFlags := 9, code := some k1c1 }
/-- fivewords/Sha1BlockResetPinLaw -/
def k1 : Class := { plain "fivewords/Sha1BlockResetPinLaw" (some 0) with
  accessFlags := 49
  interfaces := #[]
  cf := some (fileOf pool1 18 #[] #[{ accessFlags := 2, nameIndex := 5, descriptorIndex := 6, attributes := #[] }, { accessFlags := 9, nameIndex := 22, descriptorIndex := 23, attributes := #[] }] 49 2 #[] #[])
  fields := #[]
  methods := #[k1m0, k1m1]
  instanceTypes := #[]
  staticTypes := #[]
  resolved := Array.replicate 29 none
  statics := none }

def pool2 : Array CpInfo := pool [(2, .class_ 4), (1, u "java/lang/Object"), (0, u "<init>"), (0, u "()V"), (0, .integer 1732584193), (0, .integer 4023233417), (0, .integer 2562383102), (0, .integer 271733878), (0, .integer 3285377520), (1, .class_ 15), (1, u "fivewords/Sha1Block"), (0, u "WORD"), (0, u "Ljava/lang/invoke/VarHandle;"), (8, u "K"), (0, u "[I"), (23, u "BYTES"), (0, u "I"), (2, u "STATE_WORDS"), (3, u "reset"), (0, u "([I)V")] 5

def k2m0 : Method := { name := "<init>", desc := "()V", sig := { parameters := [], returnType := none }, accessFlags := 2, code := none }
def k2c1 : Code := { maxStack := 3, maxLocals := 1, code := prog_3_method_2_code, exceptionTable := #[], attributes := #[] }
def k2m1 : Method := { name := "reset", desc := "([I)V", sig := { parameters := [(.array .int)], returnType := none }, accessFlags := 8, code := some k2c1 }
/-- fivewords/Sha1Block -/
def k2 : Class := { plain "fivewords/Sha1Block" (some 0) with
  accessFlags := 48
  interfaces := #[]
  cf := some (fileOf pool2 13 #[] #[{ accessFlags := 2, nameIndex := 5, descriptorIndex := 6, attributes := #[] }, { accessFlags := 8, nameIndex := 59, descriptorIndex := 60, attributes := #[] }] 48 2 #[] #[{ accessFlags := 24, nameIndex := 51, descriptorIndex := 52, attributes := #[] }, { accessFlags := 24, nameIndex := 55, descriptorIndex := 52, attributes := #[] }, { accessFlags := 26, nameIndex := 16, descriptorIndex := 17, attributes := #[] }, { accessFlags := 26, nameIndex := 26, descriptorIndex := 27, attributes := #[] }])
  fields := #[{ name := "BYTES", type := .int, accessFlags := 24, slot := 0, constantValue := 0 }, { name := "STATE_WORDS", type := .int, accessFlags := 24, slot := 1, constantValue := 0 }, { name := "WORD", type := (.object "java/lang/invoke/VarHandle"), accessFlags := 26, slot := 2, constantValue := 0 }, { name := "K", type := (.array .int), accessFlags := 26, slot := 3, constantValue := 0 }]
  methods := #[k2m0, k2m1]
  instanceTypes := #[]
  staticTypes := #[.int, .int, (.object "java/lang/invoke/VarHandle"), (.array .int)]
  resolved := Array.replicate 66 none
  statics := none }

def pool3 : Array CpInfo := pool [(1, u "java/lang/Cloneable"), (0, .class_ 1), (0, u "java/lang/Object"), (0, .class_ 3)] 3

/-- java/lang/Cloneable -/
def k3 : Class := { plain "java/lang/Cloneable" (some 0) with
  accessFlags := 1537
  interfaces := #[]
  cf := some (fileOf pool3 2 #[] #[] 1537 4 #[] #[])
  fields := #[]
  methods := #[]
  instanceTypes := #[]
  staticTypes := #[]
  resolved := Array.replicate 8 none
  statics := none }

def pool4 : Array CpInfo := pool [(1, u "java/io/Serializable"), (0, .class_ 1), (0, u "java/lang/Object"), (0, .class_ 3)] 3

/-- java/io/Serializable -/
def k4 : Class := { plain "java/io/Serializable" (some 0) with
  accessFlags := 1537
  interfaces := #[]
  cf := some (fileOf pool4 2 #[] #[] 1537 4 #[] #[])
  fields := #[]
  methods := #[]
  instanceTypes := #[]
  staticTypes := #[]
  resolved := Array.replicate 8 none
  statics := none }

/-- the primitive byte -/
def k5 : Class := { plain "byte" none with kind := .primitive 'B', accessFlags := 0x411 }
/-- [B -/
def k6 : Class := { plain "[B" (some 0) with kind := .array 5 .byte, interfaces := #[3, 4], accessFlags := 1041 }

/-- the primitive int -/
def k7 : Class := { plain "int" none with kind := .primitive 'I', accessFlags := 0x411 }
/-- [I -/
def k8 : Class := { plain "[I" (some 0) with kind := .array 7 .int, interfaces := #[3, 4], accessFlags := 1041 }

def heap : Heap := #[]
def classes : Array Class := #[k0, k1, k2, k3, k4, k5, k6, k7, k8]
def interned : List (Array UInt16 × Addr) := []
def slotsUsed : Nat := 0
def theMethod : MethodId := ⟨1, 1⟩
def args0 : Array Value := #[.int 5, .int 5, .int 5, .int 5, .int 5, .int 5]
def aboutOver (below : List Frame) : State where
  vm := { classes := classes, interned := interned.toArray }
  heap := heap
  slotsUsed := slotsUsed
  threads := #[{ frames := .invoking theMethod args0 :: below }]
def below0 : List Frame := [.native { method := ⟨0, 0⟩, args := #[] }]
def about1 : State := aboutOver below0
def p0 : Program := .bare "" "" ""
def e0 : Env := launch0.env 0 0 0
theorem w_frames : about1.frames = Frame.invoking theMethod args0 :: below0 := rfl
set_option maxRecDepth 65536 in
theorem w_args : argsFit about1.vm theMethod args0 = true := by decide +kernel
set_option maxRecDepth 65536 in
theorem w_heap : heapFits about1 = true := by decide +kernel
set_option maxRecDepth 65536 in
theorem w_runnable : about1.curStatus? = some .runnable := by decide +kernel
set_option maxRecDepth 65536 in
theorem w_alone : about1.alone = true := by decide +kernel
set_option maxRecDepth 65536 in
theorem w_named : about1.methodNamed? x = some theMethod := by decide +kernel
set_option maxRecDepth 65536 in
theorem w_hears : about1.hears theMethod below0 = true := by decide +kernel
set_option maxRecDepth 65536 in
theorem w_ripe : about1.ripe theMethod args0 below0 = true := by decide +kernel
theorem w_running : about1.status = .running := rfl
set_option maxRecDepth 65536 in
theorem w_room : about1.hasRoom e0.platform room_1 = true :=
  launch0.hasRoom_least _ room_1 (by decide +kernel) (by decide +kernel) (by decide +kernel) (by decide +kernel) (by decide +kernel) (by decide +kernel)
theorem allAtoms_all (ts : List Jvm.Cond) (a : Array Jvm.Value) (st : Jvm.State) : (allAtoms ts).before a st = ts.all (fun c => c.before a st) := by
  induction ts with
  | nil => rfl
  | cons c t ih =>
    show (Jvm.Cond.and c (allAtoms t)).before a st = _
    rw [Jvm.Cond.before_and, ih, List.all_cons]
def words1 : List Jvm.Cond := Jvm.Cond.code x code maxLocals ret :: tables_1
/-- a 'code' word, met by the world's own term for the bytes: nothing is compared byte by byte -/
theorem code_word {y : MethodName} {bytes : ByteArray} {mx : Nat} {rt : Option FieldType} {a : Array Value} {s : State} {m : MethodId} {meth : Method} {c : Code} (h1 : s.methodNamed? y = some m) (h2 : s.vm.method? m = some meth) (h3 : meth.code = some c) (h4 : c.code = bytes)
    (h5 : (c.maxLocals == mx && c.exceptionTable.isEmpty && decide (c.maxStack ≤ mostOperands) && decide (meth.sig.returnType = rt) && !meth.locks && decide (parseMethodDescriptor y.desc = some meth.sig)) = true) : (Jvm.Cond.code y bytes mx rt).before a s = true := by
  simp only [Bool.and_eq_true, beq_iff_eq, Bool.not_eq_true', decide_eq_true_eq] at h5
  obtain ⟨⟨⟨⟨⟨g1, g2⟩, g3⟩, g4⟩, g5⟩, g6⟩ := h5
  simp [Cond.before, Cond.holds, Cond.value, h1, h2, h3, h4, g1, g2, g3, g4, g5, g6]
def isCode : Jvm.Cond → Bool
  | .code _ _ _ _ => true
  | _ => false
theorem all_split {L : List Jvm.Cond} {P : Jvm.Cond → Bool} (h1 : L.all (fun c => isCode c || P c) = true) (h2 : ∀ c ∈ L.filter isCode, P c = true) : L.all P = true := by
  refine List.all_eq_true.mpr fun c hc => ?_
  have h := List.all_eq_true.mp h1 c hc
  rcases Bool.eq_false_or_eq_true (isCode c) with hi | hi
  · exact h2 c (List.mem_filter.mpr ⟨hc, hi⟩)
  · simpa [hi] using h
set_option maxRecDepth 65536 in
theorem w_c0 : (Jvm.Cond.code x code maxLocals ret).before args0 about1 = true := code_word (m := ⟨1, 1⟩) (meth := k1m1) (c := k1c1) (by decide +kernel) rfl rfl rfl (by decide +kernel)
set_option maxRecDepth 65536 in
theorem w_c1 : (Jvm.Cond.code ({ cls := "fivewords/Sha1Block", name := "reset", desc := "([I)V" } : Jvm.MethodName) prog_3_method_2_code (1 : Nat) (Option.none : Option Jvm.ClassFile.FieldType)).before args0 about1 = true := code_word (m := ⟨2, 1⟩) (meth := k2m1) (c := k2c1) (by decide +kernel) rfl rfl rfl (by decide +kernel)
def codes1 : List Jvm.Cond := [Jvm.Cond.code x code maxLocals ret, Jvm.Cond.code ({ cls := "fivewords/Sha1Block", name := "reset", desc := "([I)V" } : Jvm.MethodName) prog_3_method_2_code (1 : Nat) (Option.none : Option Jvm.ClassFile.FieldType)]
set_option maxRecDepth 65536 in
theorem codes_eq : words1.filter isCode = codes1 := rfl
theorem w_codes : ∀ c ∈ words1.filter isCode, c.before args0 about1 = true := by
  rw [codes_eq]
  intro c hc
  simp only [codes1, List.mem_cons, List.not_mem_nil, or_false] at hc
  rcases hc with rfl | rfl
  · exact w_c0
  · exact w_c1
set_option maxRecDepth 65536 in
theorem w_t1 : words1.all (fun c => isCode c || c.before args0 about1) = true := by decide +kernel
theorem w_tables : (allAtoms (Jvm.Cond.code x code maxLocals ret :: tables_1)).before args0 about1 = true := by
  rw [allAtoms_all]
  show words1.all (fun c => c.before args0 about1) = true
  refine all_split ?_ w_codes
  rw [w_t1]
set_option maxRecDepth 65536 in
theorem w_case : (Jvm.Cond.and given_1 narrow_1).before args0 about1 = true := by decide +kernel
theorem w_applies : (headSpec (Jvm.Cond.code x code maxLocals ret :: tables_1) room_1).applies x e0.platform about1 = true :=
  (Spec.applies_iff w_frames).mpr ⟨w_running, w_runnable, w_alone, w_named, w_hears, w_ripe, w_room, w_tables⟩
theorem atStart : AtStart classFile x code maxLocals ret World_1 tables_1 room_1 Calls_1 rest_1 Pre_1 launch0 p0 e0 about1 theMethod args0 below0 :=
  ⟨lists_1, trivial, launch0.admits_env _ _ _, launch0.least_env, fairChoices_fair.cas, fairChoices_fair.clock, w_frames, w_args, w_heap, w_applies, trivial, trivial, w_case⟩
end start1
theorem witness_1 : WitnessClaimed_1 := ⟨start1.p0, start1.e0, start1.about1, start1.theMethod, start1.args0, start1.below0, start1.atStart⟩
end Jvm.Pilot.@@N@@
