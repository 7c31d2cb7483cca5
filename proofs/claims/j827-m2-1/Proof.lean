import JvmDerived
import JvmDerived.Pilot.@@N@@Statement
import JvmDerived.Pilot.@@N@@Code
set_option linter.unusedVariables false
set_option linter.unusedSimpArgs false
namespace Jvm.RoadKit
open Sem ClassFile Op Lib Jvm.Stand Jvm.Free Jvm.LawKit
section New
variable {p : Program} {l : Launch} {e : Env} {R : Room} {s : State} {m : MethodId} {args : Array Value} {below : List Frame} {meth : Method} {c : Code} {T : State} {locs : List Loc} {cells slots : Nat}
theorem retI (X : Stand p l e R s m args below meth c T locs cells slots) (hx : p.tables.exec = Jvm.exec) {pc : Nat} {Ls : Array Slot} {z : Int32} {rest : List Value} (hret : meth.sig.returnType = some .int) (hd : decode c.code pc = .ok (.ireturn, 1)) {fs : List Frame}
    (hl : ∀ (f : JFrame) (acts : List Action), f.method = m → f.locked = none → f.entered = [] → (doReturn e (T.setTop f) acts (some (.int z))).1 = T.setFrames fs) : Steps p.tables e below (T.setTop (mkF m pc Ls (.int z :: rest))) (T.setFrames fs) := by
  have hm' : T.vm.method? m = some meth := X.method'
  have hn : narrow .int (.int z) = .int z := rfl
  show Steps p.tables e below (T.setTop { method := m, pc := pc, locals := Ls, stack := _ :: rest, locked := none }) _
  jvm_step X.here [X.here.top, hx, hd, hm', hret, hn]
  first | (intro acts; rw [hl _ acts rfl rfl rfl]) | rw [hl _ _ rfl rfl rfl]
  exact Steps.refl _
end New
end Jvm.RoadKit
namespace Jvm.Pilot.@@N@@
open Jvm Jvm.ClassFile Sem Op Lib Jvm.Free Jvm.Stand Jvm.LawKit Jvm.RoadKit Bundle Jvm.Pilot.@@N@@.Jvm.D
/-! MY OWN LAYER, 1: a walk in forward style -/
/-- from the state S the run ends, and Q holds of the end -/
def Goes (tb : Tables) (e : Env) (below : List Frame) (Q : Outcome → State → Prop) (S : State) : Prop :=
  ∃ s₂ o, Steps tb e below S s₂ ∧ s₂.status = .running ∧ Ended s₂ below o ∧ Q o s₂
theorem Goes.out {tb : Tables} {e : Env} {below : List Frame} {Q : Outcome → State → Prop} {S : State} (h : Goes tb e below Q S) :
    ∃ s₂ o, Steps tb e below S s₂ ∧ s₂.status = .running ∧ Ended s₂ below o ∧ Q o s₂ := h
theorem Goes.step {tb : Tables} {e : Env} {below : List Frame} {Q : Outcome → State → Prop} {S S' : State}
    (h : ∀ t, Steps tb e below S' t → Steps tb e below S t) (k : Goes tb e below Q S') : Goes tb e below Q S := by
  obtain ⟨s₂, o, h1, h2⟩ := k
  exact ⟨s₂, o, h _ h1, h2⟩
section Ites
variable {tb : Tables} {e : Env} {below : List Frame} {T S : State} {c : Prop} [Decidable c]
theorem own_ite0 {F : JFrame} (hy : c → ∀ t, Steps tb e below (T.setTop F) t → Steps tb e below S t) (hn : ¬ c → ∀ t, Steps tb e below (T.setTop F) t → Steps tb e below S t) :
    ∀ t, Steps tb e below (T.setTop F) t → Steps tb e below S t := fun t k => by
  by_cases h : c
  · exact hy h t k
  · exact hn h t k
theorem own_ite1 {A0 : Type} {a0 b0 : A0} {F : A0 → JFrame} (hy : c → ∀ t, Steps tb e below (T.setTop (F a0)) t → Steps tb e below S t) (hn : ¬ c → ∀ t, Steps tb e below (T.setTop (F b0)) t → Steps tb e below S t) :
    ∀ t, Steps tb e below (T.setTop (F (if c then a0 else b0))) t → Steps tb e below S t := fun t k => by
  by_cases h : c
  · rw [if_pos h] at k; exact hy h t k
  · rw [if_neg h] at k; exact hn h t k
theorem own_ite2 {A0 A1 : Type} {a0 b0 : A0} {a1 b1 : A1} {F : A0 → A1 → JFrame} (hy : c → ∀ t, Steps tb e below (T.setTop (F a0 a1)) t → Steps tb e below S t) (hn : ¬ c → ∀ t, Steps tb e below (T.setTop (F b0 b1)) t → Steps tb e below S t) :
    ∀ t, Steps tb e below (T.setTop (F (if c then a0 else b0) (if c then a1 else b1))) t → Steps tb e below S t := fun t k => by
  by_cases h : c
  · rw [if_pos h, if_pos h] at k; exact hy h t k
  · rw [if_neg h, if_neg h] at k; exact hn h t k
theorem own_ite3 {A0 A1 A2 : Type} {a0 b0 : A0} {a1 b1 : A1} {a2 b2 : A2} {F : A0 → A1 → A2 → JFrame} (hy : c → ∀ t, Steps tb e below (T.setTop (F a0 a1 a2)) t → Steps tb e below S t) (hn : ¬ c → ∀ t, Steps tb e below (T.setTop (F b0 b1 b2)) t → Steps tb e below S t) :
    ∀ t, Steps tb e below (T.setTop (F (if c then a0 else b0) (if c then a1 else b1) (if c then a2 else b2))) t → Steps tb e below S t := fun t k => by
  by_cases h : c
  · rw [if_pos h, if_pos h, if_pos h] at k; exact hy h t k
  · rw [if_neg h, if_neg h, if_neg h] at k; exact hn h t k
end Ites
section Rets
variable {p : Program} {l : Launch} {e : Env} {R : Room} {s : State} {m : MethodId} {args : Array Value} {below : List Frame} {meth : Method} {c : Code} {T : State} {locs : List Loc} {cells slots : Nat}
variable {QQ : Option Value → Heap → List Loc → Prop} {C0 S0 : Nat} {pc : Nat} {Ls : Array Slot} {rest : List Value}
theorem Goes.retN (X : Stand p l e R s m args below meth c T locs cells slots) (hx : p.tables.exec = Jvm.exec) (hlk : meth.locks = false) {t : FieldType} {z : Int32} (hret : meth.sig.returnType = some t) (ht : t = .boolean ∨ t = .byte ∨ t = .char ∨ t = .short)
    (hd : decode c.code pc = .ok (.ireturn, 1)) (hC : cells ≤ C0) (hS : slots ≤ S0) (hQ : QQ (some (.int (nar t z))) T.heap locs) :
    Goes p.tables e below (fun o U' => ∃ v L, o = .returned v ∧ QQ v U'.heap L ∧ FrameEnd s o U' L C0 S0) (T.setTop (mkF m pc Ls (.int z :: rest))) := by
  obtain ⟨fs, hr, hrun, hended, hW, hsame⟩ := X.leave (v := some (.int (nar t z))) (fun h => by rw [hret] at h; cases h) hlk
  exact ⟨_, _, Jvm.RoadKit.retN X hx hret ht hd hr, hrun, hended, _, _, rfl, hQ, ⟨_, rfl⟩, hW, hsame.mono hC hS⟩
theorem Goes.retI (X : Stand p l e R s m args below meth c T locs cells slots) (hx : p.tables.exec = Jvm.exec) (hlk : meth.locks = false) {z : Int32} (hret : meth.sig.returnType = some .int)
    (hd : decode c.code pc = .ok (.ireturn, 1)) (hC : cells ≤ C0) (hS : slots ≤ S0) (hQ : QQ (some (.int z)) T.heap locs) :
    Goes p.tables e below (fun o U' => ∃ v L, o = .returned v ∧ QQ v U'.heap L ∧ FrameEnd s o U' L C0 S0) (T.setTop (mkF m pc Ls (.int z :: rest))) := by
  obtain ⟨fs, hr, hrun, hended, hW, hsame⟩ := X.leave (v := some (.int z)) (fun h => by rw [hret] at h; cases h) hlk
  exact ⟨_, _, Jvm.RoadKit.retI X hx hret hd hr, hrun, hended, _, _, rfl, hQ, ⟨_, rfl⟩, hW, hsame.mono hC hS⟩
theorem Goes.retJ (X : Stand p l e R s m args below meth c T locs cells slots) (hx : p.tables.exec = Jvm.exec) (hlk : meth.locks = false) {z : Int64} (hret : meth.sig.returnType = some .long)
    (hd : decode c.code pc = .ok (.lreturn, 1)) (hC : cells ≤ C0) (hS : slots ≤ S0) (hQ : QQ (some (.long z)) T.heap locs) :
    Goes p.tables e below (fun o U' => ∃ v L, o = .returned v ∧ QQ v U'.heap L ∧ FrameEnd s o U' L C0 S0) (T.setTop (mkF m pc Ls (.long z :: rest))) := by
  obtain ⟨fs, hr, hrun, hended, hW, hsame⟩ := X.leave (v := some (.long z)) (fun h => by rw [hret] at h; cases h) hlk
  refine ⟨_, _, ?_, hrun, hended, _, _, rfl, hQ, ⟨_, rfl⟩, hW, hsame.mono hC hS⟩
  jvm_step X.here [X.here.top, hx, hd, X.method', hret, narrow]
  first | (intro acts; rw [hr _ acts rfl rfl rfl]) | rw [hr _ _ rfl rfl rfl]
  exact Steps.refl _
theorem Goes.retA (X : Stand p l e R s m args below meth c T locs cells slots) (hx : p.tables.exec = Jvm.exec) (hlk : meth.locks = false) {a : Addr} {t : FieldType} (hret : meth.sig.returnType = some t) (ht : t.isReference = true)
    (hd : decode c.code pc = .ok (.areturn, 1)) (hC : cells ≤ C0) (hS : slots ≤ S0) (hQ : QQ (some (.ref a)) T.heap locs) :
    Goes p.tables e below (fun o U' => ∃ v L, o = .returned v ∧ QQ v U'.heap L ∧ FrameEnd s o U' L C0 S0) (T.setTop (mkF m pc Ls (.ref a :: rest))) := by
  obtain ⟨fs, hr, hrun, hended, hW, hsame⟩ := X.leave (v := some (.ref a)) (fun h => by rw [hret] at h; cases h) hlk
  refine ⟨_, _, ?_, hrun, hended, _, _, rfl, hQ, ⟨_, rfl⟩, hW, hsame.mono hC hS⟩
  jvm_step X.here [X.here.top, hx, hd, X.method', hret, Value.isRef, ht]
  first | (intro acts; rw [hr _ acts rfl rfl rfl]) | rw [hr _ _ rfl rfl rfl]
  exact Steps.refl _
theorem Goes.retV (X : Stand p l e R s m args below meth c T locs cells slots) (hx : p.tables.exec = Jvm.exec) (hlk : meth.locks = false) (hret : meth.sig.returnType = none)
    (hd : decode c.code pc = .ok (.return_, 1)) (hC : cells ≤ C0) (hS : slots ≤ S0) (hQ : QQ none T.heap locs) :
    Goes p.tables e below (fun o U' => ∃ v L, o = .returned v ∧ QQ v U'.heap L ∧ FrameEnd s o U' L C0 S0) (T.setTop (mkF m pc Ls [])) := by
  obtain ⟨fs, hr, hrun, hended, hW, hsame⟩ := X.leave (v := none) (fun _ => rfl) hlk
  exact ⟨_, _, X.returnOut hx hret hd hr, hrun, hended, _, _, rfl, hQ, ⟨_, rfl⟩, hW, hsame.mono hC hS⟩
theorem own_lrem {g : JFrame} {target : State} (X : Stand p l e R s m args below meth c T locs cells slots) (hx : p.tables.exec = Jvm.exec) (hg : g.method = m) {x y : Int64} {rest : List Value} (hd : decode c.code g.pc = .ok (.lrem, 1)) (hs : g.stack = .long y :: .long x :: rest) (hy : y ≠ 0)
    (hr : Steps p.tables e below (T.setTop { g with pc := g.pc + 1, stack := .long (x % y) :: rest }) target) : Steps p.tables e below (T.setTop g) target :=
  XS.lrem X.here hx hg hd hs hy (by rw [lrem_mod]; exact hr)
end Rets
/-! MY OWN LAYER, 2: an array of ints (bytes, chars ..) by the list of its values, whole -/
def AI (Z : State) (h : Heap) (a : Addr) (k : ClassId) (ty : FieldType) (n : Int32) (vs : List Int32) : Prop :=
  Arv Z h a k ty n (vs.map Value.int) (.int 0) ∧ vs.length = n.toNatClampNeg
section Arrays
variable {p : Program} {l : Launch} {e : Env} {R : Room} {s : State} {m : MethodId} {args : Array Value} {below : List Frame} {meth : Method} {c : Code} {T : State} {locs : List Loc} {cells slots : Nat}
variable {Z : State} {h h' : Heap} {a b : Addr} {k : ClassId} {ty : FieldType} {n : Int32} {vs : List Int32} {sl : Nat} {v : Value} {ws : List Addr}
theorem AI.lt (F : AI Z h a k ty n vs) : a < h.size := F.1.lt
theorem AI.nn (F : AI Z h a k ty n vs) : ¬ n < 0 := by obtain ⟨⟨c, -, -, -, q, -⟩, -⟩ := F; exact q
theorem AI.ext (F : AI Z h a k ty n vs) (E : Ext h h') : AI Z h' a k ty n vs := ⟨F.1.ext E, F.2⟩
theorem AI.other (F : AI Z h b k ty n vs) (W : Wr h h' a sl v) (q : b ≠ a) : AI Z h' b k ty n vs := ⟨F.1.other W q, F.2⟩
theorem AI.keep (F : AI Z h a k ty n vs) (K : Keep h h' ws) (q : a ∉ ws) : AI Z h' a k ty n vs := ⟨F.1.keep K q, F.2⟩
theorem own_getD (vs : List Int32) (i : Nat) : (vs.map Value.int).getD i (.int 0) = .int (vs.getD i 0) := by
  simp only [List.getD_eq_getElem?_getD, List.getElem?_map]
  cases vs[i]? <;> rfl
theorem own_new {q : Int32} (A : Arr Z h a (newA k ty q) ty) (hq : ¬ q < 0) (hd : defaultValue ty = .int 0) {vs : List Int32} (hv : vs = List.replicate q.toNatClampNeg 0 := by rfl) : AI Z h a k ty q vs := by
  subst hv
  have V := Arv.new A hq
  rw [hd] at V
  refine ⟨?_, by simp⟩
  have q1 := V.pad (pad_rep [] (.int 0) q.toNatClampNeg)
  rw [List.nil_append] at q1
  rw [List.map_replicate]; exact q1
theorem own_inb {cl : Cell} {j : Int32} (S : cl.slots.size = n.toNatClampNeg) (q : ¬ j < 0 ∧ j < n) : ¬ (j < 0 ∨ cl.slots.size ≤ j.toNatClampNeg) := inb_of S q
theorem own_jlt {j : Int32} (q : ¬ j < 0 ∧ j < n) : j.toNatClampNeg < n.toNatClampNeg := by
  obtain ⟨q1, q2⟩ := q
  rw [Int32.lt_iff_toInt_lt] at q1 q2
  have e0 : (0 : Int32).toInt = 0 := rfl
  simp only [Int32.toNatClampNeg] at *; omega
theorem own_iaload {pc : Nat} {Ls : Array Slot} {rest : List Value} {j : Int32} (X : Stand p l e R s m args below meth c T locs cells slots) (hx : p.tables.exec = Jvm.exec) (hZ : Z.Warmed39 s.vm) (eT : T.heap = h) (F : AI Z h a k .int n vs) (hj : ¬ j < 0 ∧ j < n)
    (hd : decode c.code pc = .ok (.iaload, 1)) (t : State) (kk : Steps p.tables e below (T.setTop (mkF m (pc + 1) Ls (.int (vs.getD j.toNatClampNeg 0) :: rest))) t) : Steps p.tables e below (T.setTop (mkF m pc Ls (.int j :: .ref a :: rest))) t := by
  obtain ⟨⟨cl, A, -, S, -, H, -⟩, hl⟩ := F
  have hin := own_inb S hj
  exact X.iaload hx (j := j) (v := .int (vs.getD j.toNatClampNeg 0)) (by rw [eT]; exact A.1) (State.isArrayOf_alike hZ.alike A.2.1) A.2.2 hin (H.at hin (own_getD _ _)) (g := mkF m pc Ls (.int j :: .ref a :: rest)) rfl rfl hd _ kk
theorem own_baload {pc : Nat} {Ls : Array Slot} {rest : List Value} {j : Int32} (X : Stand p l e R s m args below meth c T locs cells slots) (hx : p.tables.exec = Jvm.exec) (hZ : Z.Warmed39 s.vm) (eT : T.heap = h) (F : AI Z h a k .byte n vs) (hj : ¬ j < 0 ∧ j < n)
    (hd : decode c.code pc = .ok (.baload, 1)) (t : State) (kk : Steps p.tables e below (T.setTop (mkF m (pc + 1) Ls (.int (vs.getD j.toNatClampNeg 0) :: rest))) t) : Steps p.tables e below (T.setTop (mkF m pc Ls (.int j :: .ref a :: rest))) t := by
  obtain ⟨⟨cl, A, -, S, -, H, -⟩, hl⟩ := F
  have hin := own_inb S hj
  exact X.baloadBytes hx (j := j) (v := .int (vs.getD j.toNatClampNeg 0)) (by rw [eT]; exact A.1) (State.isArrayOf_alike hZ.alike A.2.1) A.2.2 hin (H.at hin (own_getD _ _)) (g := mkF m pc Ls (.int j :: .ref a :: rest)) rfl rfl hd _ kk
theorem own_len {pc : Nat} {Ls : Array Slot} {rest : List Value} (X : Stand p l e R s m args below meth c T locs cells slots) (hx : p.tables.exec = Jvm.exec) (hZ : Z.Warmed39 s.vm) (eT : T.heap = h) (F : AI Z h a k ty n vs)
    (hd : decode c.code pc = .ok (.arraylength, 1)) (t : State) (kk : Steps p.tables e below (T.setTop (mkF m (pc + 1) Ls (.int n :: rest))) t) : Steps p.tables e below (T.setTop (mkF m pc Ls (.ref a :: rest))) t := by
  obtain ⟨⟨cl, A, -, S, N, H, -⟩, hl⟩ := F
  refine X.arraylength hx (by rw [eT]; exact A.1) (State.isArrayOf_alike hZ.alike A.2.1) (g := mkF m pc Ls (.ref a :: rest)) rfl rfl hd _ ?_
  rw [len_of S N]; exact kk
theorem own_iastore {j x : Int32} (X : Stand p l e R s m args below meth c T locs cells slots) (hx : p.tables.exec = Jvm.exec) (hZ : Z.Warmed39 s.vm) (eT : T.heap = h) (F : AI Z h a k .int n vs) (hj : ¬ j < 0 ∧ j < n) {g : JFrame} (hg : g.method = m) {rest : List Value} (hs : g.stack = .int x :: .int j :: .ref a :: rest) (hd : decode c.code g.pc = .ok (.iastore, 1)) :
    ∃ T' h', Stand p l e R s m args below meth c T' (locs ++ [⟨a, j.toNatClampNeg⟩]) cells slots ∧ T'.heap = h' ∧ Wr h h' a j.toNatClampNeg (.int x) ∧ AI Z h' a k .int n (vs.set j.toNatClampNeg x) ∧ ∀ target, Steps p.tables e below (T'.setTop { g with pc := g.pc + 1, stack := rest }) target → Steps p.tables e below (T.setTop g) target := by
  obtain ⟨⟨cl, A, q1, S, N, H, G⟩, hl⟩ := F
  obtain ⟨T', h', X', e', W, st⟩ := stI X hx hZ eT A (own_inb S hj) hg hs hd
  refine ⟨T', h', X', e', W, ⟨?_, by simpa using hl⟩, st⟩
  rw [List.map_set]
  exact Arv.set A q1 S N H G rfl W _ rfl (by rw [List.length_map, hl]; exact own_jlt hj)
theorem own_bastore {j x : Int32} (X : Stand p l e R s m args below meth c T locs cells slots) (hx : p.tables.exec = Jvm.exec) (hZ : Z.Warmed39 s.vm) (eT : T.heap = h) (F : AI Z h a k .byte n vs) (hj : ¬ j < 0 ∧ j < n) {g : JFrame} (hg : g.method = m) {rest : List Value} (hs : g.stack = .int x :: .int j :: .ref a :: rest) (hd : decode c.code g.pc = .ok (.bastore, 1)) :
    ∃ T' h', Stand p l e R s m args below meth c T' (locs ++ [⟨a, j.toNatClampNeg⟩]) cells slots ∧ T'.heap = h' ∧ Wr h h' a j.toNatClampNeg (.int (nar .byte x)) ∧ AI Z h' a k .byte n (vs.set j.toNatClampNeg (nar .byte x)) ∧ ∀ target, Steps p.tables e below (T'.setTop { g with pc := g.pc + 1, stack := rest }) target → Steps p.tables e below (T.setTop g) target := by
  obtain ⟨⟨cl, A, q1, S, N, H, G⟩, hl⟩ := F
  obtain ⟨T', h', X', e', W, st⟩ := stB X hx hZ eT A (own_inb S hj) hg hs hd
  refine ⟨T', h', X', e', W, ⟨?_, by simpa using hl⟩, st⟩
  rw [List.map_set]
  exact Arv.set A q1 S N H G (fits_nar_byte _) W _ rfl (by rw [List.length_map, hl]; exact own_jlt hj)
end Arrays
/-! MY OWN LAYER, 3: numbers -/
theorem own_b255 (x : Int32) : (nar .byte (x.toInt8.toInt32)) &&& 255 = x &&& 255 := by
  have a := c_i2b x
  have b := c_i2b x.toInt8.toInt32
  have m1 : ((x.toInt8.toInt32.toInt8.toInt32) &&& 255).toInt = (x.toInt8.toInt32.toInt8.toInt32).toInt % 256 := c_mask _ 255 8 (by decide) (by decide)
  have m2 : (x &&& 255).toInt = x.toInt % 256 := c_mask _ 255 8 (by decide) (by decide)
  apply Int32.toInt_inj.mp
  show ((x.toInt8.toInt32.toInt8.toInt32) &&& 255).toInt = _
  omega
theorem own_m255 (x : Int32) : (x &&& 255).toInt = x.toInt % 256 := c_mask _ 255 8 (by decide) (by decide)
theorem own_or8 (a b : Int32) (h1 : 0 ≤ a.toInt) (h2 : a.toInt < 256) (h3 : 0 ≤ b.toInt) (h4 : b.toInt < 256) : ((a <<< ((8 : Int32) &&& 31)) ||| b).toInt = a.toInt * 256 + b.toInt := by
  have s : ((a <<< ((8 : Int32) &&& 31)).toInt - a.toInt * 256) % 4294967296 = 0 := c_ishl a 8 8 (by decide)
  have r := rng32 (a <<< ((8 : Int32) &&& 31))
  have e : (a <<< ((8 : Int32) &&& 31)).toInt = a.toInt * 256 := by omega
  have o := c_or (a <<< ((8 : Int32) &&& 31)) b 8 (by decide) 256 (by decide) (by omega) h3 h4
  have r2 := rng32 ((a <<< ((8 : Int32) &&& 31)) ||| b)
  omega
theorem own_nar0 : nar .boolean 0 = 0 := by decide
theorem own_nar1 : nar .boolean 1 = 1 := by decide
theorem d1_0 : decode prog_31_method_2_code 0 = .ok (.iload_n 0, 1) := by decide +kernel
theorem d1_1 : decode prog_31_method_2_code 1 = .ok (.sipush 128, 3) := by decide +kernel
theorem d1_4 : decode prog_31_method_2_code 4 = .ok (.if_icmp .ge 14, 3) := by decide +kernel
theorem d1_7 : decode prog_31_method_2_code 7 = .ok (.aload_n 1, 1) := by decide +kernel
theorem d1_8 : decode prog_31_method_2_code 8 = .ok (.iload_n 2, 1) := by decide +kernel
theorem d1_9 : decode prog_31_method_2_code 9 = .ok (.iinc 2 1, 3) := by decide +kernel
theorem d1_12 : decode prog_31_method_2_code 12 = .ok (.iload_n 0, 1) := by decide +kernel
theorem d1_13 : decode prog_31_method_2_code 13 = .ok (.i2b, 1) := by decide +kernel
theorem d1_14 : decode prog_31_method_2_code 14 = .ok (.bastore, 1) := by decide +kernel
theorem d1_15 : decode prog_31_method_2_code 15 = .ok (.goto 166, 3) := by decide +kernel
theorem d1_18 : decode prog_31_method_2_code 18 = .ok (.iload_n 0, 1) := by decide +kernel
theorem d1_19 : decode prog_31_method_2_code 19 = .ok (.sipush 2048, 3) := by decide +kernel
theorem d1_22 : decode prog_31_method_2_code 22 = .ok (.if_icmp .ge 36, 3) := by decide +kernel
theorem d1_25 : decode prog_31_method_2_code 25 = .ok (.aload_n 1, 1) := by decide +kernel
theorem d1_26 : decode prog_31_method_2_code 26 = .ok (.iload_n 2, 1) := by decide +kernel
theorem d1_27 : decode prog_31_method_2_code 27 = .ok (.iinc 2 1, 3) := by decide +kernel
theorem d1_30 : decode prog_31_method_2_code 30 = .ok (.sipush 192, 3) := by decide +kernel
theorem d1_33 : decode prog_31_method_2_code 33 = .ok (.iload_n 0, 1) := by decide +kernel
theorem d1_34 : decode prog_31_method_2_code 34 = .ok (.bipush 6, 2) := by decide +kernel
theorem d1_36 : decode prog_31_method_2_code 36 = .ok (.ishr, 1) := by decide +kernel
theorem d1_37 : decode prog_31_method_2_code 37 = .ok (.ior, 1) := by decide +kernel
theorem d1_38 : decode prog_31_method_2_code 38 = .ok (.i2b, 1) := by decide +kernel
theorem d1_39 : decode prog_31_method_2_code 39 = .ok (.bastore, 1) := by decide +kernel
theorem d1_40 : decode prog_31_method_2_code 40 = .ok (.aload_n 1, 1) := by decide +kernel
theorem d1_41 : decode prog_31_method_2_code 41 = .ok (.iload_n 2, 1) := by decide +kernel
theorem d1_42 : decode prog_31_method_2_code 42 = .ok (.iinc 2 1, 3) := by decide +kernel
theorem d1_45 : decode prog_31_method_2_code 45 = .ok (.sipush 128, 3) := by decide +kernel
theorem d1_48 : decode prog_31_method_2_code 48 = .ok (.iload_n 0, 1) := by decide +kernel
theorem d1_49 : decode prog_31_method_2_code 49 = .ok (.bipush 63, 2) := by decide +kernel
theorem d1_51 : decode prog_31_method_2_code 51 = .ok (.iand, 1) := by decide +kernel
theorem d1_52 : decode prog_31_method_2_code 52 = .ok (.ior, 1) := by decide +kernel
theorem d1_53 : decode prog_31_method_2_code 53 = .ok (.i2b, 1) := by decide +kernel
theorem d1_54 : decode prog_31_method_2_code 54 = .ok (.bastore, 1) := by decide +kernel
theorem d1_55 : decode prog_31_method_2_code 55 = .ok (.goto 126, 3) := by decide +kernel
theorem d1_58 : decode prog_31_method_2_code 58 = .ok (.iload_n 0, 1) := by decide +kernel
theorem d1_59 : decode prog_31_method_2_code 59 = .ok (.ldc 7, 2) := by decide +kernel
theorem d1_61 : decode prog_31_method_2_code 61 = .ok (.if_icmp .ge 54, 3) := by decide +kernel
theorem d1_64 : decode prog_31_method_2_code 64 = .ok (.aload_n 1, 1) := by decide +kernel
theorem d1_65 : decode prog_31_method_2_code 65 = .ok (.iload_n 2, 1) := by decide +kernel
theorem d1_66 : decode prog_31_method_2_code 66 = .ok (.iinc 2 1, 3) := by decide +kernel
theorem d1_69 : decode prog_31_method_2_code 69 = .ok (.sipush 224, 3) := by decide +kernel
theorem d1_72 : decode prog_31_method_2_code 72 = .ok (.iload_n 0, 1) := by decide +kernel
theorem d1_73 : decode prog_31_method_2_code 73 = .ok (.bipush 12, 2) := by decide +kernel
theorem d1_75 : decode prog_31_method_2_code 75 = .ok (.ishr, 1) := by decide +kernel
theorem d1_76 : decode prog_31_method_2_code 76 = .ok (.ior, 1) := by decide +kernel
theorem d1_77 : decode prog_31_method_2_code 77 = .ok (.i2b, 1) := by decide +kernel
theorem d1_78 : decode prog_31_method_2_code 78 = .ok (.bastore, 1) := by decide +kernel
theorem d1_79 : decode prog_31_method_2_code 79 = .ok (.aload_n 1, 1) := by decide +kernel
theorem d1_80 : decode prog_31_method_2_code 80 = .ok (.iload_n 2, 1) := by decide +kernel
theorem d1_81 : decode prog_31_method_2_code 81 = .ok (.iinc 2 1, 3) := by decide +kernel
theorem d1_84 : decode prog_31_method_2_code 84 = .ok (.sipush 128, 3) := by decide +kernel
theorem d1_87 : decode prog_31_method_2_code 87 = .ok (.iload_n 0, 1) := by decide +kernel
theorem d1_88 : decode prog_31_method_2_code 88 = .ok (.bipush 6, 2) := by decide +kernel
theorem d1_90 : decode prog_31_method_2_code 90 = .ok (.ishr, 1) := by decide +kernel
theorem d1_91 : decode prog_31_method_2_code 91 = .ok (.bipush 63, 2) := by decide +kernel
theorem d1_93 : decode prog_31_method_2_code 93 = .ok (.iand, 1) := by decide +kernel
theorem d1_94 : decode prog_31_method_2_code 94 = .ok (.ior, 1) := by decide +kernel
theorem d1_95 : decode prog_31_method_2_code 95 = .ok (.i2b, 1) := by decide +kernel
theorem d1_96 : decode prog_31_method_2_code 96 = .ok (.bastore, 1) := by decide +kernel
theorem d1_97 : decode prog_31_method_2_code 97 = .ok (.aload_n 1, 1) := by decide +kernel
theorem d1_98 : decode prog_31_method_2_code 98 = .ok (.iload_n 2, 1) := by decide +kernel
theorem d1_99 : decode prog_31_method_2_code 99 = .ok (.iinc 2 1, 3) := by decide +kernel
theorem d1_102 : decode prog_31_method_2_code 102 = .ok (.sipush 128, 3) := by decide +kernel
theorem d1_105 : decode prog_31_method_2_code 105 = .ok (.iload_n 0, 1) := by decide +kernel
theorem d1_106 : decode prog_31_method_2_code 106 = .ok (.bipush 63, 2) := by decide +kernel
theorem d1_108 : decode prog_31_method_2_code 108 = .ok (.iand, 1) := by decide +kernel
theorem d1_109 : decode prog_31_method_2_code 109 = .ok (.ior, 1) := by decide +kernel
theorem d1_110 : decode prog_31_method_2_code 110 = .ok (.i2b, 1) := by decide +kernel
theorem d1_111 : decode prog_31_method_2_code 111 = .ok (.bastore, 1) := by decide +kernel
theorem d1_112 : decode prog_31_method_2_code 112 = .ok (.goto 69, 3) := by decide +kernel
theorem d1_115 : decode prog_31_method_2_code 115 = .ok (.aload_n 1, 1) := by decide +kernel
theorem d1_116 : decode prog_31_method_2_code 116 = .ok (.iload_n 2, 1) := by decide +kernel
theorem d1_117 : decode prog_31_method_2_code 117 = .ok (.iinc 2 1, 3) := by decide +kernel
theorem d1_120 : decode prog_31_method_2_code 120 = .ok (.sipush 240, 3) := by decide +kernel
theorem d1_123 : decode prog_31_method_2_code 123 = .ok (.iload_n 0, 1) := by decide +kernel
theorem d1_124 : decode prog_31_method_2_code 124 = .ok (.bipush 18, 2) := by decide +kernel
theorem d1_126 : decode prog_31_method_2_code 126 = .ok (.ishr, 1) := by decide +kernel
theorem d1_127 : decode prog_31_method_2_code 127 = .ok (.ior, 1) := by decide +kernel
theorem d1_128 : decode prog_31_method_2_code 128 = .ok (.i2b, 1) := by decide +kernel
theorem d1_129 : decode prog_31_method_2_code 129 = .ok (.bastore, 1) := by decide +kernel
theorem d1_130 : decode prog_31_method_2_code 130 = .ok (.aload_n 1, 1) := by decide +kernel
theorem d1_131 : decode prog_31_method_2_code 131 = .ok (.iload_n 2, 1) := by decide +kernel
theorem d1_132 : decode prog_31_method_2_code 132 = .ok (.iinc 2 1, 3) := by decide +kernel
theorem d1_135 : decode prog_31_method_2_code 135 = .ok (.sipush 128, 3) := by decide +kernel
theorem d1_138 : decode prog_31_method_2_code 138 = .ok (.iload_n 0, 1) := by decide +kernel
theorem d1_139 : decode prog_31_method_2_code 139 = .ok (.bipush 12, 2) := by decide +kernel
theorem d1_141 : decode prog_31_method_2_code 141 = .ok (.ishr, 1) := by decide +kernel
theorem d1_142 : decode prog_31_method_2_code 142 = .ok (.bipush 63, 2) := by decide +kernel
theorem d1_144 : decode prog_31_method_2_code 144 = .ok (.iand, 1) := by decide +kernel
theorem d1_145 : decode prog_31_method_2_code 145 = .ok (.ior, 1) := by decide +kernel
theorem d1_146 : decode prog_31_method_2_code 146 = .ok (.i2b, 1) := by decide +kernel
theorem d1_147 : decode prog_31_method_2_code 147 = .ok (.bastore, 1) := by decide +kernel
theorem d1_148 : decode prog_31_method_2_code 148 = .ok (.aload_n 1, 1) := by decide +kernel
theorem d1_149 : decode prog_31_method_2_code 149 = .ok (.iload_n 2, 1) := by decide +kernel
theorem d1_150 : decode prog_31_method_2_code 150 = .ok (.iinc 2 1, 3) := by decide +kernel
theorem d1_153 : decode prog_31_method_2_code 153 = .ok (.sipush 128, 3) := by decide +kernel
theorem d1_156 : decode prog_31_method_2_code 156 = .ok (.iload_n 0, 1) := by decide +kernel
theorem d1_157 : decode prog_31_method_2_code 157 = .ok (.bipush 6, 2) := by decide +kernel
theorem d1_159 : decode prog_31_method_2_code 159 = .ok (.ishr, 1) := by decide +kernel
theorem d1_160 : decode prog_31_method_2_code 160 = .ok (.bipush 63, 2) := by decide +kernel
theorem d1_162 : decode prog_31_method_2_code 162 = .ok (.iand, 1) := by decide +kernel
theorem d1_163 : decode prog_31_method_2_code 163 = .ok (.ior, 1) := by decide +kernel
theorem d1_164 : decode prog_31_method_2_code 164 = .ok (.i2b, 1) := by decide +kernel
theorem d1_165 : decode prog_31_method_2_code 165 = .ok (.bastore, 1) := by decide +kernel
theorem d1_166 : decode prog_31_method_2_code 166 = .ok (.aload_n 1, 1) := by decide +kernel
theorem d1_167 : decode prog_31_method_2_code 167 = .ok (.iload_n 2, 1) := by decide +kernel
theorem d1_168 : decode prog_31_method_2_code 168 = .ok (.iinc 2 1, 3) := by decide +kernel
theorem d1_171 : decode prog_31_method_2_code 171 = .ok (.sipush 128, 3) := by decide +kernel
theorem d1_174 : decode prog_31_method_2_code 174 = .ok (.iload_n 0, 1) := by decide +kernel
theorem d1_175 : decode prog_31_method_2_code 175 = .ok (.bipush 63, 2) := by decide +kernel
theorem d1_177 : decode prog_31_method_2_code 177 = .ok (.iand, 1) := by decide +kernel
theorem d1_178 : decode prog_31_method_2_code 178 = .ok (.ior, 1) := by decide +kernel
theorem d1_179 : decode prog_31_method_2_code 179 = .ok (.i2b, 1) := by decide +kernel
theorem d1_180 : decode prog_31_method_2_code 180 = .ok (.bastore, 1) := by decide +kernel
theorem d1_181 : decode prog_31_method_2_code 181 = .ok (.iload_n 2, 1) := by decide +kernel
theorem d1_182 : decode prog_31_method_2_code 182 = .ok (.ireturn, 1) := by decide +kernel
theorem pn0 : plainName "com/example/leaderline/leaderline/Utf8" = true := by first | (simp [plainName, overriddenIn]; done) | decide +kernel
theorem ef1 (m : MethodId) (p0 : Int32) (u1 : Addr) (p2 : Int32) : entryFrame m #[(.int p0), (.ref u1), (.int p2)] 3 = mkF m 0 #[.val (.int p0), .val (.ref u1), .val (.int p2)] [] := by first | (simp [entryFrame, mkF, argsToLocals, Value.category]; done) | rfl
def f1 (p0 : Int32) (n_u1 : Int32) (vs_u1 : List Int32) (p2 : Int32) : Int32 := (if p0 < (128 : Int32) then (p2 + (1 : Int32)) else (if p0 < (2048 : Int32) then ((p2 + (1 : Int32)) + (1 : Int32)) else (if p0 < (65536 : Int32) then (((p2 + (1 : Int32)) + (1 : Int32)) + (1 : Int32)) else ((((p2 + (1 : Int32)) + (1 : Int32)) + (1 : Int32)) + (1 : Int32)))))
def g1_u1 (p0 : Int32) (n_u1 : Int32) (vs_u1 : List Int32) (p2 : Int32) : List Int32 := (if p0 < (128 : Int32) then (vs_u1.set (p2).toNatClampNeg (nar .byte (p0.toInt8.toInt32))) else (if p0 < (2048 : Int32) then ((vs_u1.set (p2).toNatClampNeg (nar .byte (((192 : Int32) ||| (p0 >>> ((6 : Int32) &&& 31))).toInt8.toInt32))).set ((p2 + (1 : Int32))).toNatClampNeg (nar .byte (((128 : Int32) ||| (p0 &&& (63 : Int32))).toInt8.toInt32))) else (if p0 < (65536 : Int32) then (((vs_u1.set (p2).toNatClampNeg (nar .byte (((224 : Int32) ||| (p0 >>> ((12 : Int32) &&& 31))).toInt8.toInt32))).set ((p2 + (1 : Int32))).toNatClampNeg (nar .byte (((128 : Int32) ||| ((p0 >>> ((6 : Int32) &&& 31)) &&& (63 : Int32))).toInt8.toInt32))).set (((p2 + (1 : Int32)) + (1 : Int32))).toNatClampNeg (nar .byte (((128 : Int32) ||| (p0 &&& (63 : Int32))).toInt8.toInt32))) else ((((vs_u1.set (p2).toNatClampNeg (nar .byte (((240 : Int32) ||| (p0 >>> ((18 : Int32) &&& 31))).toInt8.toInt32))).set ((p2 + (1 : Int32))).toNatClampNeg (nar .byte (((128 : Int32) ||| ((p0 >>> ((12 : Int32) &&& 31)) &&& (63 : Int32))).toInt8.toInt32))).set (((p2 + (1 : Int32)) + (1 : Int32))).toNatClampNeg (nar .byte (((128 : Int32) ||| ((p0 >>> ((6 : Int32) &&& 31)) &&& (63 : Int32))).toInt8.toInt32))).set ((((p2 + (1 : Int32)) + (1 : Int32)) + (1 : Int32))).toNatClampNeg (nar .byte (((128 : Int32) ||| (p0 &&& (63 : Int32))).toInt8.toInt32))))))
theorem own_ix1_14 (p0 : Int32) (n_u1 : Int32) (vs_u1 : List Int32) (hl_u1 : vs_u1.length = n_u1.toNatClampNeg) (hn_u1 : ¬ n_u1 < 0) (p2 : Int32) (hB : ¬ p2 < 0 ∧ (p2 + (3 : Int32)) < n_u1) (hb4 : n_u1 < (100 : Int32)) (hB5 : p2 < (100 : Int32)) (hc4_1 : p0 < (128 : Int32)) : ¬ p2 < 0 ∧ p2 < n_u1 := by
  simp only [Int32.lt_iff_toInt_lt, Int32.reduceToInt] at *
  have rp := rng32 p2
  have a4 := c_iadd p2 3
  have r4 := rng32 (p2 + 3)
  simp only [Int32.reduceToInt] at a4
  have e4 : (p2 + 3).toInt = p2.toInt + 3 := by omega
  clear a4 r4
  have a1 := c_iadd p2 1
  have r1 := rng32 (p2 + 1)
  simp only [Int32.reduceToInt] at a1
  have e1 : (p2 + 1).toInt = p2.toInt + 1 := by omega
  clear a1 r1
  have a2 := c_iadd (p2 + 1) 1
  have r2 := rng32 (p2 + 1 + 1)
  simp only [Int32.reduceToInt] at a2
  have e2 : (p2 + 1 + 1).toInt = p2.toInt + 2 := by omega
  clear a2 r2
  have a3 := c_iadd (p2 + 1 + 1) 1
  have r3 := rng32 (p2 + 1 + 1 + 1)
  simp only [Int32.reduceToInt] at a3
  have e3 : (p2 + 1 + 1 + 1).toInt = p2.toInt + 3 := by omega
  clear a3 r3
  omega
theorem own_ix1_39 (p0 : Int32) (n_u1 : Int32) (vs_u1 : List Int32) (hl_u1 : vs_u1.length = n_u1.toNatClampNeg) (hn_u1 : ¬ n_u1 < 0) (p2 : Int32) (hB : ¬ p2 < 0 ∧ (p2 + (3 : Int32)) < n_u1) (hb4 : n_u1 < (100 : Int32)) (hB5 : p2 < (100 : Int32)) (hc4_1 : ¬ (p0 < (128 : Int32))) (hc22_2 : p0 < (2048 : Int32)) : ¬ p2 < 0 ∧ p2 < n_u1 := by
  simp only [Int32.lt_iff_toInt_lt, Int32.reduceToInt] at *
  have rp := rng32 p2
  have a4 := c_iadd p2 3
  have r4 := rng32 (p2 + 3)
  simp only [Int32.reduceToInt] at a4
  have e4 : (p2 + 3).toInt = p2.toInt + 3 := by omega
  clear a4 r4
  have a1 := c_iadd p2 1
  have r1 := rng32 (p2 + 1)
  simp only [Int32.reduceToInt] at a1
  have e1 : (p2 + 1).toInt = p2.toInt + 1 := by omega
  clear a1 r1
  have a2 := c_iadd (p2 + 1) 1
  have r2 := rng32 (p2 + 1 + 1)
  simp only [Int32.reduceToInt] at a2
  have e2 : (p2 + 1 + 1).toInt = p2.toInt + 2 := by omega
  clear a2 r2
  have a3 := c_iadd (p2 + 1 + 1) 1
  have r3 := rng32 (p2 + 1 + 1 + 1)
  simp only [Int32.reduceToInt] at a3
  have e3 : (p2 + 1 + 1 + 1).toInt = p2.toInt + 3 := by omega
  clear a3 r3
  omega
theorem own_ix1_54 (p0 : Int32) (n_u1 : Int32) (vs_u1 : List Int32) (hl_u1 : vs_u1.length = n_u1.toNatClampNeg) (hn_u1 : ¬ n_u1 < 0) (p2 : Int32) (hB : ¬ p2 < 0 ∧ (p2 + (3 : Int32)) < n_u1) (hb4 : n_u1 < (100 : Int32)) (hB5 : p2 < (100 : Int32)) (hc4_1 : ¬ (p0 < (128 : Int32))) (hc22_2 : p0 < (2048 : Int32)) : ¬ (p2 + (1 : Int32)) < 0 ∧ (p2 + (1 : Int32)) < n_u1 := by
  simp only [Int32.lt_iff_toInt_lt, Int32.reduceToInt] at *
  have rp := rng32 p2
  have a4 := c_iadd p2 3
  have r4 := rng32 (p2 + 3)
  simp only [Int32.reduceToInt] at a4
  have e4 : (p2 + 3).toInt = p2.toInt + 3 := by omega
  clear a4 r4
  have a1 := c_iadd p2 1
  have r1 := rng32 (p2 + 1)
  simp only [Int32.reduceToInt] at a1
  have e1 : (p2 + 1).toInt = p2.toInt + 1 := by omega
  clear a1 r1
  have a2 := c_iadd (p2 + 1) 1
  have r2 := rng32 (p2 + 1 + 1)
  simp only [Int32.reduceToInt] at a2
  have e2 : (p2 + 1 + 1).toInt = p2.toInt + 2 := by omega
  clear a2 r2
  have a3 := c_iadd (p2 + 1 + 1) 1
  have r3 := rng32 (p2 + 1 + 1 + 1)
  simp only [Int32.reduceToInt] at a3
  have e3 : (p2 + 1 + 1 + 1).toInt = p2.toInt + 3 := by omega
  clear a3 r3
  omega
theorem own_ix1_78 (p0 : Int32) (n_u1 : Int32) (vs_u1 : List Int32) (hl_u1 : vs_u1.length = n_u1.toNatClampNeg) (hn_u1 : ¬ n_u1 < 0) (p2 : Int32) (hB : ¬ p2 < 0 ∧ (p2 + (3 : Int32)) < n_u1) (hb4 : n_u1 < (100 : Int32)) (hB5 : p2 < (100 : Int32)) (hc4_1 : ¬ (p0 < (128 : Int32))) (hc22_2 : ¬ (p0 < (2048 : Int32))) (hc61_3 : p0 < (65536 : Int32)) : ¬ p2 < 0 ∧ p2 < n_u1 := by
  simp only [Int32.lt_iff_toInt_lt, Int32.reduceToInt] at *
  have rp := rng32 p2
  have a4 := c_iadd p2 3
  have r4 := rng32 (p2 + 3)
  simp only [Int32.reduceToInt] at a4
  have e4 : (p2 + 3).toInt = p2.toInt + 3 := by omega
  clear a4 r4
  have a1 := c_iadd p2 1
  have r1 := rng32 (p2 + 1)
  simp only [Int32.reduceToInt] at a1
  have e1 : (p2 + 1).toInt = p2.toInt + 1 := by omega
  clear a1 r1
  have a2 := c_iadd (p2 + 1) 1
  have r2 := rng32 (p2 + 1 + 1)
  simp only [Int32.reduceToInt] at a2
  have e2 : (p2 + 1 + 1).toInt = p2.toInt + 2 := by omega
  clear a2 r2
  have a3 := c_iadd (p2 + 1 + 1) 1
  have r3 := rng32 (p2 + 1 + 1 + 1)
  simp only [Int32.reduceToInt] at a3
  have e3 : (p2 + 1 + 1 + 1).toInt = p2.toInt + 3 := by omega
  clear a3 r3
  omega
theorem own_ix1_96 (p0 : Int32) (n_u1 : Int32) (vs_u1 : List Int32) (hl_u1 : vs_u1.length = n_u1.toNatClampNeg) (hn_u1 : ¬ n_u1 < 0) (p2 : Int32) (hB : ¬ p2 < 0 ∧ (p2 + (3 : Int32)) < n_u1) (hb4 : n_u1 < (100 : Int32)) (hB5 : p2 < (100 : Int32)) (hc4_1 : ¬ (p0 < (128 : Int32))) (hc22_2 : ¬ (p0 < (2048 : Int32))) (hc61_3 : p0 < (65536 : Int32)) : ¬ (p2 + (1 : Int32)) < 0 ∧ (p2 + (1 : Int32)) < n_u1 := by
  simp only [Int32.lt_iff_toInt_lt, Int32.reduceToInt] at *
  have rp := rng32 p2
  have a4 := c_iadd p2 3
  have r4 := rng32 (p2 + 3)
  simp only [Int32.reduceToInt] at a4
  have e4 : (p2 + 3).toInt = p2.toInt + 3 := by omega
  clear a4 r4
  have a1 := c_iadd p2 1
  have r1 := rng32 (p2 + 1)
  simp only [Int32.reduceToInt] at a1
  have e1 : (p2 + 1).toInt = p2.toInt + 1 := by omega
  clear a1 r1
  have a2 := c_iadd (p2 + 1) 1
  have r2 := rng32 (p2 + 1 + 1)
  simp only [Int32.reduceToInt] at a2
  have e2 : (p2 + 1 + 1).toInt = p2.toInt + 2 := by omega
  clear a2 r2
  have a3 := c_iadd (p2 + 1 + 1) 1
  have r3 := rng32 (p2 + 1 + 1 + 1)
  simp only [Int32.reduceToInt] at a3
  have e3 : (p2 + 1 + 1 + 1).toInt = p2.toInt + 3 := by omega
  clear a3 r3
  omega
theorem own_ix1_111 (p0 : Int32) (n_u1 : Int32) (vs_u1 : List Int32) (hl_u1 : vs_u1.length = n_u1.toNatClampNeg) (hn_u1 : ¬ n_u1 < 0) (p2 : Int32) (hB : ¬ p2 < 0 ∧ (p2 + (3 : Int32)) < n_u1) (hb4 : n_u1 < (100 : Int32)) (hB5 : p2 < (100 : Int32)) (hc4_1 : ¬ (p0 < (128 : Int32))) (hc22_2 : ¬ (p0 < (2048 : Int32))) (hc61_3 : p0 < (65536 : Int32)) : ¬ ((p2 + (1 : Int32)) + (1 : Int32)) < 0 ∧ ((p2 + (1 : Int32)) + (1 : Int32)) < n_u1 := by
  simp only [Int32.lt_iff_toInt_lt, Int32.reduceToInt] at *
  have rp := rng32 p2
  have a4 := c_iadd p2 3
  have r4 := rng32 (p2 + 3)
  simp only [Int32.reduceToInt] at a4
  have e4 : (p2 + 3).toInt = p2.toInt + 3 := by omega
  clear a4 r4
  have a1 := c_iadd p2 1
  have r1 := rng32 (p2 + 1)
  simp only [Int32.reduceToInt] at a1
  have e1 : (p2 + 1).toInt = p2.toInt + 1 := by omega
  clear a1 r1
  have a2 := c_iadd (p2 + 1) 1
  have r2 := rng32 (p2 + 1 + 1)
  simp only [Int32.reduceToInt] at a2
  have e2 : (p2 + 1 + 1).toInt = p2.toInt + 2 := by omega
  clear a2 r2
  have a3 := c_iadd (p2 + 1 + 1) 1
  have r3 := rng32 (p2 + 1 + 1 + 1)
  simp only [Int32.reduceToInt] at a3
  have e3 : (p2 + 1 + 1 + 1).toInt = p2.toInt + 3 := by omega
  clear a3 r3
  omega
theorem own_ix1_129 (p0 : Int32) (n_u1 : Int32) (vs_u1 : List Int32) (hl_u1 : vs_u1.length = n_u1.toNatClampNeg) (hn_u1 : ¬ n_u1 < 0) (p2 : Int32) (hB : ¬ p2 < 0 ∧ (p2 + (3 : Int32)) < n_u1) (hb4 : n_u1 < (100 : Int32)) (hB5 : p2 < (100 : Int32)) (hc4_1 : ¬ (p0 < (128 : Int32))) (hc22_2 : ¬ (p0 < (2048 : Int32))) (hc61_3 : ¬ (p0 < (65536 : Int32))) : ¬ p2 < 0 ∧ p2 < n_u1 := by
  simp only [Int32.lt_iff_toInt_lt, Int32.reduceToInt] at *
  have rp := rng32 p2
  have a4 := c_iadd p2 3
  have r4 := rng32 (p2 + 3)
  simp only [Int32.reduceToInt] at a4
  have e4 : (p2 + 3).toInt = p2.toInt + 3 := by omega
  clear a4 r4
  have a1 := c_iadd p2 1
  have r1 := rng32 (p2 + 1)
  simp only [Int32.reduceToInt] at a1
  have e1 : (p2 + 1).toInt = p2.toInt + 1 := by omega
  clear a1 r1
  have a2 := c_iadd (p2 + 1) 1
  have r2 := rng32 (p2 + 1 + 1)
  simp only [Int32.reduceToInt] at a2
  have e2 : (p2 + 1 + 1).toInt = p2.toInt + 2 := by omega
  clear a2 r2
  have a3 := c_iadd (p2 + 1 + 1) 1
  have r3 := rng32 (p2 + 1 + 1 + 1)
  simp only [Int32.reduceToInt] at a3
  have e3 : (p2 + 1 + 1 + 1).toInt = p2.toInt + 3 := by omega
  clear a3 r3
  omega
theorem own_ix1_147 (p0 : Int32) (n_u1 : Int32) (vs_u1 : List Int32) (hl_u1 : vs_u1.length = n_u1.toNatClampNeg) (hn_u1 : ¬ n_u1 < 0) (p2 : Int32) (hB : ¬ p2 < 0 ∧ (p2 + (3 : Int32)) < n_u1) (hb4 : n_u1 < (100 : Int32)) (hB5 : p2 < (100 : Int32)) (hc4_1 : ¬ (p0 < (128 : Int32))) (hc22_2 : ¬ (p0 < (2048 : Int32))) (hc61_3 : ¬ (p0 < (65536 : Int32))) : ¬ (p2 + (1 : Int32)) < 0 ∧ (p2 + (1 : Int32)) < n_u1 := by
  simp only [Int32.lt_iff_toInt_lt, Int32.reduceToInt] at *
  have rp := rng32 p2
  have a4 := c_iadd p2 3
  have r4 := rng32 (p2 + 3)
  simp only [Int32.reduceToInt] at a4
  have e4 : (p2 + 3).toInt = p2.toInt + 3 := by omega
  clear a4 r4
  have a1 := c_iadd p2 1
  have r1 := rng32 (p2 + 1)
  simp only [Int32.reduceToInt] at a1
  have e1 : (p2 + 1).toInt = p2.toInt + 1 := by omega
  clear a1 r1
  have a2 := c_iadd (p2 + 1) 1
  have r2 := rng32 (p2 + 1 + 1)
  simp only [Int32.reduceToInt] at a2
  have e2 : (p2 + 1 + 1).toInt = p2.toInt + 2 := by omega
  clear a2 r2
  have a3 := c_iadd (p2 + 1 + 1) 1
  have r3 := rng32 (p2 + 1 + 1 + 1)
  simp only [Int32.reduceToInt] at a3
  have e3 : (p2 + 1 + 1 + 1).toInt = p2.toInt + 3 := by omega
  clear a3 r3
  omega
theorem own_ix1_165 (p0 : Int32) (n_u1 : Int32) (vs_u1 : List Int32) (hl_u1 : vs_u1.length = n_u1.toNatClampNeg) (hn_u1 : ¬ n_u1 < 0) (p2 : Int32) (hB : ¬ p2 < 0 ∧ (p2 + (3 : Int32)) < n_u1) (hb4 : n_u1 < (100 : Int32)) (hB5 : p2 < (100 : Int32)) (hc4_1 : ¬ (p0 < (128 : Int32))) (hc22_2 : ¬ (p0 < (2048 : Int32))) (hc61_3 : ¬ (p0 < (65536 : Int32))) : ¬ ((p2 + (1 : Int32)) + (1 : Int32)) < 0 ∧ ((p2 + (1 : Int32)) + (1 : Int32)) < n_u1 := by
  simp only [Int32.lt_iff_toInt_lt, Int32.reduceToInt] at *
  have rp := rng32 p2
  have a4 := c_iadd p2 3
  have r4 := rng32 (p2 + 3)
  simp only [Int32.reduceToInt] at a4
  have e4 : (p2 + 3).toInt = p2.toInt + 3 := by omega
  clear a4 r4
  have a1 := c_iadd p2 1
  have r1 := rng32 (p2 + 1)
  simp only [Int32.reduceToInt] at a1
  have e1 : (p2 + 1).toInt = p2.toInt + 1 := by omega
  clear a1 r1
  have a2 := c_iadd (p2 + 1) 1
  have r2 := rng32 (p2 + 1 + 1)
  simp only [Int32.reduceToInt] at a2
  have e2 : (p2 + 1 + 1).toInt = p2.toInt + 2 := by omega
  clear a2 r2
  have a3 := c_iadd (p2 + 1 + 1) 1
  have r3 := rng32 (p2 + 1 + 1 + 1)
  simp only [Int32.reduceToInt] at a3
  have e3 : (p2 + 1 + 1 + 1).toInt = p2.toInt + 3 := by omega
  clear a3 r3
  omega
theorem own_ix1_180 (p0 : Int32) (n_u1 : Int32) (vs_u1 : List Int32) (hl_u1 : vs_u1.length = n_u1.toNatClampNeg) (hn_u1 : ¬ n_u1 < 0) (p2 : Int32) (hB : ¬ p2 < 0 ∧ (p2 + (3 : Int32)) < n_u1) (hb4 : n_u1 < (100 : Int32)) (hB5 : p2 < (100 : Int32)) (hc4_1 : ¬ (p0 < (128 : Int32))) (hc22_2 : ¬ (p0 < (2048 : Int32))) (hc61_3 : ¬ (p0 < (65536 : Int32))) : ¬ (((p2 + (1 : Int32)) + (1 : Int32)) + (1 : Int32)) < 0 ∧ (((p2 + (1 : Int32)) + (1 : Int32)) + (1 : Int32)) < n_u1 := by
  simp only [Int32.lt_iff_toInt_lt, Int32.reduceToInt] at *
  have rp := rng32 p2
  have a4 := c_iadd p2 3
  have r4 := rng32 (p2 + 3)
  simp only [Int32.reduceToInt] at a4
  have e4 : (p2 + 3).toInt = p2.toInt + 3 := by omega
  clear a4 r4
  have a1 := c_iadd p2 1
  have r1 := rng32 (p2 + 1)
  simp only [Int32.reduceToInt] at a1
  have e1 : (p2 + 1).toInt = p2.toInt + 1 := by omega
  clear a1 r1
  have a2 := c_iadd (p2 + 1) 1
  have r2 := rng32 (p2 + 1 + 1)
  simp only [Int32.reduceToInt] at a2
  have e2 : (p2 + 1 + 1).toInt = p2.toInt + 2 := by omega
  clear a2 r2
  have a3 := c_iadd (p2 + 1 + 1) 1
  have r3 := rng32 (p2 + 1 + 1 + 1)
  simp only [Int32.reduceToInt] at a3
  have e3 : (p2 + 1 + 1 + 1).toInt = p2.toInt + 3 := by omega
  clear a3 r3
  omega
def Q1 (Z : State) (p0 : Int32) (u1 : Addr) (p2 : Int32) (k_u1 : ClassId) (n_u1 : Int32) (vs_u1 : List Int32) (h0 : Heap) (n0 : Nat) (v : Option Value) (h : Heap) (L : List Loc) : Prop := v = some (.int (f1 p0 n_u1 vs_u1 p2)) ∧ Fr n0 L ∧ Keep h0 h [u1] ∧ AI Z h u1 k_u1 .byte n_u1 (g1_u1 p0 n_u1 vs_u1 p2)
set_option maxRecDepth 65536 in
set_option maxHeartbeats 40000000 in
theorem rm1 (l : Launch) (Z : State) (a0 : Array Value) (hw : ∀ d ∈ tables_1, d.before a0 Z = true) (ws : List Jvm.Cond) (p0 : Int32) (u1 : Addr) (p2 : Int32) (k_u1 : ClassId) (n_u1 : Int32) (vs_u1 : List Int32) (h0 : Heap) (n0 : Nat) (Z0 : n0 ≤ h0.size) (V_u1 : AI Z h0 u1 k_u1 .byte n_u1 vs_u1) (g_u1 : n0 ≤ u1) (hB : ¬ p2 < 0 ∧ (p2 + (3 : Int32)) < n_u1) (hb4 : n_u1 < (100 : Int32)) (hB5 : p2 < (100 : Int32)) :
    MetFree l (⟨"com/example/leaderline/leaderline/Utf8", "encode", "(I[BI)I"⟩ : MethodName) (head1 (Jvm.Cond.code (⟨"com/example/leaderline/leaderline/Utf8", "encode", "(I[BI)I"⟩ : MethodName) prog_31_method_2_code 3 (some .int) :: ws) ({ frames := 0, cells := 0, slots := 0, locals := 0 } : Room)) (fun a U => a = #[(.int p0), (.ref u1), (.int p2)] ∧ Z.Warmed39 U.vm ∧ U.heap = h0) (fun _ _ _ _ _ => True) (fun _ U o U' => ∃ v L, o = .returned v ∧ Q1 Z p0 u1 p2 k_u1 n_u1 vs_u1 h0 n0 v U'.heap L ∧ FrameEnd U o U' L ({ frames := 0, cells := 0, slots := 0, locals := 0 } : Room).cells ({ frames := 0, cells := 0, slots := 0, locals := 0 } : Room).slots) := by
  refine MetFree.of_bodySF (plainFor_of_name pn0) hisR ?_
  intro p e s m args below meth c s₁ Bd hml0 hP hK
  obtain ⟨rfl, hZ, hh⟩ := hP
  have hx := Bd.exec
  have hby := Bd.bytes
  have hml : c.maxLocals = 3 := hml0
  have hown : s.vm.findClass "com/example/leaderline/leaderline/Utf8" = some m.cls := findClass_of_methodNamed Bd.named
  have hnm := (name_of_methodNamed Bd.named Bd.method).1
  have X0 : Stand p l e ({ frames := 0, cells := 0, slots := 0, locals := 0 } : Room) s m #[(.int p0), (.ref u1), (.int p2)] below meth c s₁ [] 0 0 := Stand.of_body Bd
  have e0 : s₁.heap = h0 := by rw [← hh, Bd.state]; rfl
  have N0 := Fr.nil n0
  have K0 : Keep h0 h0 [u1] := Keep.refl _ _
  have hl_u1 : vs_u1.length = n_u1.toNatClampNeg := V_u1.2
  have hn_u1 : ¬ n_u1 < 0 := V_u1.nn
  refine Goes.out (Q := fun o U' => ∃ v L, o = .returned v ∧ Q1 Z p0 u1 p2 k_u1 n_u1 vs_u1 h0 n0 v U'.heap L ∧ FrameEnd s o U' L ({ frames := 0, cells := 0, slots := 0, locals := 0 } : Room).cells ({ frames := 0, cells := 0, slots := 0, locals := 0 } : Room).slots) ?_
  refine Goes.step (S' := s₁.setTop (mkF m 0 #[.val (.int p0), .val (.ref u1), .val (.int p2)] [])) (fun _ k => castTop (ef1 m p0 u1 p2) k) ?_
  refine Goes.step (S' := s₁.setTop (mkF m 1 #[.val (.int p0), .val (.ref u1), .val (.int p2)] [(.int p0)])) (fun _ k => XS.iloadN X0.here hx rfl (hb hby d1_0) rfl  k) ?_
  refine Goes.step (S' := s₁.setTop (mkF m 4 #[.val (.int p0), .val (.ref u1), .val (.int p2)] [(.int (128 : Int32)), (.int p0)])) (fun _ k => XS.sipush X0.here hx rfl (hb hby d1_1) k) ?_
  by_cases hc4_1 : p0 < (128 : Int32)
  · refine Goes.step (S' := s₁.setTop (mkF m 7 #[.val (.int p0), .val (.ref u1), .val (.int p2)] [])) (fun _ k => XS.icmpNo X0.here hx rfl (hb hby d1_4) rfl (tlt hc4_1).2.1 k) ?_
    refine Goes.step (S' := s₁.setTop (mkF m 8 #[.val (.int p0), .val (.ref u1), .val (.int p2)] [(.ref u1)])) (fun _ k => XS.aloadN X0.here hx rfl (hb hby d1_7) rfl rfl k) ?_
    refine Goes.step (S' := s₁.setTop (mkF m 9 #[.val (.int p0), .val (.ref u1), .val (.int p2)] [(.int p2), (.ref u1)])) (fun _ k => XS.iloadN X0.here hx rfl (hb hby d1_8) rfl  k) ?_
    refine Goes.step (S' := s₁.setTop (mkF m 12 #[.val (.int p0), .val (.ref u1), .val (.int (p2 + (1 : Int32)))] [(.int p2), (.ref u1)])) (fun _ k => XS.iinc X0.here hx rfl (hb hby d1_9) rfl (l' := #[.val (.int p0), .val (.ref u1), .val (.int (p2 + (1 : Int32)))]) rfl k) ?_
    refine Goes.step (S' := s₁.setTop (mkF m 13 #[.val (.int p0), .val (.ref u1), .val (.int (p2 + (1 : Int32)))] [(.int p0), (.int p2), (.ref u1)])) (fun _ k => XS.iloadN X0.here hx rfl (hb hby d1_12) rfl  k) ?_
    refine Goes.step (S' := s₁.setTop (mkF m 14 #[.val (.int p0), .val (.ref u1), .val (.int (p2 + (1 : Int32)))] [(.int (p0.toInt8.toInt32)), (.int p2), (.ref u1)])) (fun _ k => XS.i2b X0.here hx rfl (hb hby d1_13) rfl k) ?_
    obtain ⟨T1, h1, X1, e1, W1, V_1, st1⟩ := own_bastore X0 hx hZ e0 V_u1 (own_ix1_14 p0 n_u1 vs_u1 hl_u1 hn_u1 p2 hB hb4 hB5 hc4_1) (g := (mkF m 14 #[.val (.int p0), .val (.ref u1), .val (.int (p2 + (1 : Int32)))] [(.int (p0.toInt8.toInt32)), (.int p2), (.ref u1)])) rfl rfl (hb hby d1_14)
    replace V_1 : AI Z h1 u1 k_u1 .byte n_u1 (vs_u1.set (p2).toNatClampNeg (nar .byte (p0.toInt8.toInt32))) := V_1
    have N2 := Fr.snoc X1 N0 g_u1
    have Z3 : n0 ≤ h1.size := Nat.le_trans Z0 (Nat.le_of_eq W1.size.symm)
    have K4 : Keep h0 h1 [u1] := K0.wr W1 (Or.inl (List.mem_of_getElem? (i := 0) rfl))
    refine Goes.step (S' := T1.setTop (mkF m 15 #[.val (.int p0), .val (.ref u1), .val (.int (p2 + (1 : Int32)))] [])) st1 ?_
    refine Goes.step (S' := T1.setTop (mkF m 181 #[.val (.int p0), .val (.ref u1), .val (.int (p2 + (1 : Int32)))] [])) (fun _ k => XS.goto X1.here hx rfl (pc0 := 15) (pc' := 181) rfl (hb hby d1_15) (by decide) (by decide) k) ?_
    refine Goes.step (S' := T1.setTop (mkF m 182 #[.val (.int p0), .val (.ref u1), .val (.int (p2 + (1 : Int32)))] [(.int (p2 + (1 : Int32)))])) (fun _ k => XS.iloadN X1.here hx rfl (hb hby d1_181) rfl  k) ?_
    refine Goes.retI X1 hx Bd.notSynchronized Bd.returns (hb hby d1_182) (by decide) (by decide) ?_
    refine ⟨congrArg (fun z => some (Value.int z)) ?_, N2, ?_, ?_⟩
    · rw [f1, if_pos hc4_1]; try rfl
    · rw [e1]; exact K4
    · rw [e1]; rw [g1_u1, if_pos hc4_1]; exact V_1
  · refine Goes.step (S' := s₁.setTop (mkF m 18 #[.val (.int p0), .val (.ref u1), .val (.int p2)] [])) (fun _ k => XS.icmpYes X0.here hx rfl (pc0 := 4) (pc' := 18) rfl (hb hby d1_4) rfl (flt hc4_1).2.1 (by decide) (by decide) k) ?_
    refine Goes.step (S' := s₁.setTop (mkF m 19 #[.val (.int p0), .val (.ref u1), .val (.int p2)] [(.int p0)])) (fun _ k => XS.iloadN X0.here hx rfl (hb hby d1_18) rfl  k) ?_
    refine Goes.step (S' := s₁.setTop (mkF m 22 #[.val (.int p0), .val (.ref u1), .val (.int p2)] [(.int (2048 : Int32)), (.int p0)])) (fun _ k => XS.sipush X0.here hx rfl (hb hby d1_19) k) ?_
    by_cases hc22_2 : p0 < (2048 : Int32)
    · refine Goes.step (S' := s₁.setTop (mkF m 25 #[.val (.int p0), .val (.ref u1), .val (.int p2)] [])) (fun _ k => XS.icmpNo X0.here hx rfl (hb hby d1_22) rfl (tlt hc22_2).2.1 k) ?_
      refine Goes.step (S' := s₁.setTop (mkF m 26 #[.val (.int p0), .val (.ref u1), .val (.int p2)] [(.ref u1)])) (fun _ k => XS.aloadN X0.here hx rfl (hb hby d1_25) rfl rfl k) ?_
      refine Goes.step (S' := s₁.setTop (mkF m 27 #[.val (.int p0), .val (.ref u1), .val (.int p2)] [(.int p2), (.ref u1)])) (fun _ k => XS.iloadN X0.here hx rfl (hb hby d1_26) rfl  k) ?_
      refine Goes.step (S' := s₁.setTop (mkF m 30 #[.val (.int p0), .val (.ref u1), .val (.int (p2 + (1 : Int32)))] [(.int p2), (.ref u1)])) (fun _ k => XS.iinc X0.here hx rfl (hb hby d1_27) rfl (l' := #[.val (.int p0), .val (.ref u1), .val (.int (p2 + (1 : Int32)))]) rfl k) ?_
      refine Goes.step (S' := s₁.setTop (mkF m 33 #[.val (.int p0), .val (.ref u1), .val (.int (p2 + (1 : Int32)))] [(.int (192 : Int32)), (.int p2), (.ref u1)])) (fun _ k => XS.sipush X0.here hx rfl (hb hby d1_30) k) ?_
      refine Goes.step (S' := s₁.setTop (mkF m 34 #[.val (.int p0), .val (.ref u1), .val (.int (p2 + (1 : Int32)))] [(.int p0), (.int (192 : Int32)), (.int p2), (.ref u1)])) (fun _ k => XS.iloadN X0.here hx rfl (hb hby d1_33) rfl  k) ?_
      refine Goes.step (S' := s₁.setTop (mkF m 36 #[.val (.int p0), .val (.ref u1), .val (.int (p2 + (1 : Int32)))] [(.int (6 : Int32)), (.int p0), (.int (192 : Int32)), (.int p2), (.ref u1)])) (fun _ k => XS.bipush X0.here hx rfl (hb hby d1_34) k) ?_
      refine Goes.step (S' := s₁.setTop (mkF m 37 #[.val (.int p0), .val (.ref u1), .val (.int (p2 + (1 : Int32)))] [(.int (p0 >>> ((6 : Int32) &&& 31))), (.int (192 : Int32)), (.int p2), (.ref u1)])) (fun _ k => XS.ishr X0.here hx rfl (hb hby d1_36) rfl k) ?_
      refine Goes.step (S' := s₁.setTop (mkF m 38 #[.val (.int p0), .val (.ref u1), .val (.int (p2 + (1 : Int32)))] [(.int ((192 : Int32) ||| (p0 >>> ((6 : Int32) &&& 31)))), (.int p2), (.ref u1)])) (fun _ k => XS.ior X0.here hx rfl (hb hby d1_37) rfl k) ?_
      refine Goes.step (S' := s₁.setTop (mkF m 39 #[.val (.int p0), .val (.ref u1), .val (.int (p2 + (1 : Int32)))] [(.int (((192 : Int32) ||| (p0 >>> ((6 : Int32) &&& 31))).toInt8.toInt32)), (.int p2), (.ref u1)])) (fun _ k => XS.i2b X0.here hx rfl (hb hby d1_38) rfl k) ?_
      obtain ⟨T5, h5, X5, e5, W5, V_5, st5⟩ := own_bastore X0 hx hZ e0 V_u1 (own_ix1_39 p0 n_u1 vs_u1 hl_u1 hn_u1 p2 hB hb4 hB5 hc4_1 hc22_2) (g := (mkF m 39 #[.val (.int p0), .val (.ref u1), .val (.int (p2 + (1 : Int32)))] [(.int (((192 : Int32) ||| (p0 >>> ((6 : Int32) &&& 31))).toInt8.toInt32)), (.int p2), (.ref u1)])) rfl rfl (hb hby d1_39)
      replace V_5 : AI Z h5 u1 k_u1 .byte n_u1 (vs_u1.set (p2).toNatClampNeg (nar .byte (((192 : Int32) ||| (p0 >>> ((6 : Int32) &&& 31))).toInt8.toInt32))) := V_5
      have N6 := Fr.snoc X5 N0 g_u1
      have Z7 : n0 ≤ h5.size := Nat.le_trans Z0 (Nat.le_of_eq W5.size.symm)
      have K8 : Keep h0 h5 [u1] := K0.wr W5 (Or.inl (List.mem_of_getElem? (i := 0) rfl))
      refine Goes.step (S' := T5.setTop (mkF m 40 #[.val (.int p0), .val (.ref u1), .val (.int (p2 + (1 : Int32)))] [])) st5 ?_
      refine Goes.step (S' := T5.setTop (mkF m 41 #[.val (.int p0), .val (.ref u1), .val (.int (p2 + (1 : Int32)))] [(.ref u1)])) (fun _ k => XS.aloadN X5.here hx rfl (hb hby d1_40) rfl rfl k) ?_
      refine Goes.step (S' := T5.setTop (mkF m 42 #[.val (.int p0), .val (.ref u1), .val (.int (p2 + (1 : Int32)))] [(.int (p2 + (1 : Int32))), (.ref u1)])) (fun _ k => XS.iloadN X5.here hx rfl (hb hby d1_41) rfl  k) ?_
      refine Goes.step (S' := T5.setTop (mkF m 45 #[.val (.int p0), .val (.ref u1), .val (.int ((p2 + (1 : Int32)) + (1 : Int32)))] [(.int (p2 + (1 : Int32))), (.ref u1)])) (fun _ k => XS.iinc X5.here hx rfl (hb hby d1_42) rfl (l' := #[.val (.int p0), .val (.ref u1), .val (.int ((p2 + (1 : Int32)) + (1 : Int32)))]) rfl k) ?_
      refine Goes.step (S' := T5.setTop (mkF m 48 #[.val (.int p0), .val (.ref u1), .val (.int ((p2 + (1 : Int32)) + (1 : Int32)))] [(.int (128 : Int32)), (.int (p2 + (1 : Int32))), (.ref u1)])) (fun _ k => XS.sipush X5.here hx rfl (hb hby d1_45) k) ?_
      refine Goes.step (S' := T5.setTop (mkF m 49 #[.val (.int p0), .val (.ref u1), .val (.int ((p2 + (1 : Int32)) + (1 : Int32)))] [(.int p0), (.int (128 : Int32)), (.int (p2 + (1 : Int32))), (.ref u1)])) (fun _ k => XS.iloadN X5.here hx rfl (hb hby d1_48) rfl  k) ?_
      refine Goes.step (S' := T5.setTop (mkF m 51 #[.val (.int p0), .val (.ref u1), .val (.int ((p2 + (1 : Int32)) + (1 : Int32)))] [(.int (63 : Int32)), (.int p0), (.int (128 : Int32)), (.int (p2 + (1 : Int32))), (.ref u1)])) (fun _ k => XS.bipush X5.here hx rfl (hb hby d1_49) k) ?_
      refine Goes.step (S' := T5.setTop (mkF m 52 #[.val (.int p0), .val (.ref u1), .val (.int ((p2 + (1 : Int32)) + (1 : Int32)))] [(.int (p0 &&& (63 : Int32))), (.int (128 : Int32)), (.int (p2 + (1 : Int32))), (.ref u1)])) (fun _ k => XS.iand X5.here hx rfl (hb hby d1_51) rfl k) ?_
      refine Goes.step (S' := T5.setTop (mkF m 53 #[.val (.int p0), .val (.ref u1), .val (.int ((p2 + (1 : Int32)) + (1 : Int32)))] [(.int ((128 : Int32) ||| (p0 &&& (63 : Int32)))), (.int (p2 + (1 : Int32))), (.ref u1)])) (fun _ k => XS.ior X5.here hx rfl (hb hby d1_52) rfl k) ?_
      refine Goes.step (S' := T5.setTop (mkF m 54 #[.val (.int p0), .val (.ref u1), .val (.int ((p2 + (1 : Int32)) + (1 : Int32)))] [(.int (((128 : Int32) ||| (p0 &&& (63 : Int32))).toInt8.toInt32)), (.int (p2 + (1 : Int32))), (.ref u1)])) (fun _ k => XS.i2b X5.here hx rfl (hb hby d1_53) rfl k) ?_
      obtain ⟨T9, h9, X9, e9, W9, V_9, st9⟩ := own_bastore X5 hx hZ e5 V_5 (own_ix1_54 p0 n_u1 vs_u1 hl_u1 hn_u1 p2 hB hb4 hB5 hc4_1 hc22_2) (g := (mkF m 54 #[.val (.int p0), .val (.ref u1), .val (.int ((p2 + (1 : Int32)) + (1 : Int32)))] [(.int (((128 : Int32) ||| (p0 &&& (63 : Int32))).toInt8.toInt32)), (.int (p2 + (1 : Int32))), (.ref u1)])) rfl rfl (hb hby d1_54)
      replace V_9 : AI Z h9 u1 k_u1 .byte n_u1 ((vs_u1.set (p2).toNatClampNeg (nar .byte (((192 : Int32) ||| (p0 >>> ((6 : Int32) &&& 31))).toInt8.toInt32))).set ((p2 + (1 : Int32))).toNatClampNeg (nar .byte (((128 : Int32) ||| (p0 &&& (63 : Int32))).toInt8.toInt32))) := V_9
      have N10 := Fr.snoc X9 N6 g_u1
      have Z11 : n0 ≤ h9.size := Nat.le_trans Z7 (Nat.le_of_eq W9.size.symm)
      have K12 : Keep h0 h9 [u1] := K8.wr W9 (Or.inl (List.mem_of_getElem? (i := 0) rfl))
      refine Goes.step (S' := T9.setTop (mkF m 55 #[.val (.int p0), .val (.ref u1), .val (.int ((p2 + (1 : Int32)) + (1 : Int32)))] [])) st9 ?_
      refine Goes.step (S' := T9.setTop (mkF m 181 #[.val (.int p0), .val (.ref u1), .val (.int ((p2 + (1 : Int32)) + (1 : Int32)))] [])) (fun _ k => XS.goto X9.here hx rfl (pc0 := 55) (pc' := 181) rfl (hb hby d1_55) (by decide) (by decide) k) ?_
      refine Goes.step (S' := T9.setTop (mkF m 182 #[.val (.int p0), .val (.ref u1), .val (.int ((p2 + (1 : Int32)) + (1 : Int32)))] [(.int ((p2 + (1 : Int32)) + (1 : Int32)))])) (fun _ k => XS.iloadN X9.here hx rfl (hb hby d1_181) rfl  k) ?_
      refine Goes.retI X9 hx Bd.notSynchronized Bd.returns (hb hby d1_182) (by decide) (by decide) ?_
      refine ⟨congrArg (fun z => some (Value.int z)) ?_, N10, ?_, ?_⟩
      · rw [f1, if_neg hc4_1, if_pos hc22_2]; try rfl
      · rw [e9]; exact K12
      · rw [e9]; rw [g1_u1, if_neg hc4_1, if_pos hc22_2]; exact V_9
    · refine Goes.step (S' := s₁.setTop (mkF m 58 #[.val (.int p0), .val (.ref u1), .val (.int p2)] [])) (fun _ k => XS.icmpYes X0.here hx rfl (pc0 := 22) (pc' := 58) rfl (hb hby d1_22) rfl (flt hc22_2).2.1 (by decide) (by decide) k) ?_
      refine Goes.step (S' := s₁.setTop (mkF m 59 #[.val (.int p0), .val (.ref u1), .val (.int p2)] [(.int p0)])) (fun _ k => XS.iloadN X0.here hx rfl (hb hby d1_58) rfl  k) ?_
      refine Goes.step (S' := s₁.setTop (mkF m 61 #[.val (.int p0), .val (.ref u1), .val (.int p2)] [(.int (65536 : Int32)), (.int p0)])) (fun _ k => X0.ldcInt hx hown (mvT hZ (hw _ (List.mem_of_getElem? (i := 15) rfl))) (g := (mkF m 59 #[.val (.int p0), .val (.ref u1), .val (.int p2)] [(.int p0)])) rfl (hb hby d1_59) _ k) ?_
      by_cases hc61_3 : p0 < (65536 : Int32)
      · refine Goes.step (S' := s₁.setTop (mkF m 64 #[.val (.int p0), .val (.ref u1), .val (.int p2)] [])) (fun _ k => XS.icmpNo X0.here hx rfl (hb hby d1_61) rfl (tlt hc61_3).2.1 k) ?_
        refine Goes.step (S' := s₁.setTop (mkF m 65 #[.val (.int p0), .val (.ref u1), .val (.int p2)] [(.ref u1)])) (fun _ k => XS.aloadN X0.here hx rfl (hb hby d1_64) rfl rfl k) ?_
        refine Goes.step (S' := s₁.setTop (mkF m 66 #[.val (.int p0), .val (.ref u1), .val (.int p2)] [(.int p2), (.ref u1)])) (fun _ k => XS.iloadN X0.here hx rfl (hb hby d1_65) rfl  k) ?_
        refine Goes.step (S' := s₁.setTop (mkF m 69 #[.val (.int p0), .val (.ref u1), .val (.int (p2 + (1 : Int32)))] [(.int p2), (.ref u1)])) (fun _ k => XS.iinc X0.here hx rfl (hb hby d1_66) rfl (l' := #[.val (.int p0), .val (.ref u1), .val (.int (p2 + (1 : Int32)))]) rfl k) ?_
        refine Goes.step (S' := s₁.setTop (mkF m 72 #[.val (.int p0), .val (.ref u1), .val (.int (p2 + (1 : Int32)))] [(.int (224 : Int32)), (.int p2), (.ref u1)])) (fun _ k => XS.sipush X0.here hx rfl (hb hby d1_69) k) ?_
        refine Goes.step (S' := s₁.setTop (mkF m 73 #[.val (.int p0), .val (.ref u1), .val (.int (p2 + (1 : Int32)))] [(.int p0), (.int (224 : Int32)), (.int p2), (.ref u1)])) (fun _ k => XS.iloadN X0.here hx rfl (hb hby d1_72) rfl  k) ?_
        refine Goes.step (S' := s₁.setTop (mkF m 75 #[.val (.int p0), .val (.ref u1), .val (.int (p2 + (1 : Int32)))] [(.int (12 : Int32)), (.int p0), (.int (224 : Int32)), (.int p2), (.ref u1)])) (fun _ k => XS.bipush X0.here hx rfl (hb hby d1_73) k) ?_
        refine Goes.step (S' := s₁.setTop (mkF m 76 #[.val (.int p0), .val (.ref u1), .val (.int (p2 + (1 : Int32)))] [(.int (p0 >>> ((12 : Int32) &&& 31))), (.int (224 : Int32)), (.int p2), (.ref u1)])) (fun _ k => XS.ishr X0.here hx rfl (hb hby d1_75) rfl k) ?_
        refine Goes.step (S' := s₁.setTop (mkF m 77 #[.val (.int p0), .val (.ref u1), .val (.int (p2 + (1 : Int32)))] [(.int ((224 : Int32) ||| (p0 >>> ((12 : Int32) &&& 31)))), (.int p2), (.ref u1)])) (fun _ k => XS.ior X0.here hx rfl (hb hby d1_76) rfl k) ?_
        refine Goes.step (S' := s₁.setTop (mkF m 78 #[.val (.int p0), .val (.ref u1), .val (.int (p2 + (1 : Int32)))] [(.int (((224 : Int32) ||| (p0 >>> ((12 : Int32) &&& 31))).toInt8.toInt32)), (.int p2), (.ref u1)])) (fun _ k => XS.i2b X0.here hx rfl (hb hby d1_77) rfl k) ?_
        obtain ⟨T13, h13, X13, e13, W13, V_13, st13⟩ := own_bastore X0 hx hZ e0 V_u1 (own_ix1_78 p0 n_u1 vs_u1 hl_u1 hn_u1 p2 hB hb4 hB5 hc4_1 hc22_2 hc61_3) (g := (mkF m 78 #[.val (.int p0), .val (.ref u1), .val (.int (p2 + (1 : Int32)))] [(.int (((224 : Int32) ||| (p0 >>> ((12 : Int32) &&& 31))).toInt8.toInt32)), (.int p2), (.ref u1)])) rfl rfl (hb hby d1_78)
        replace V_13 : AI Z h13 u1 k_u1 .byte n_u1 (vs_u1.set (p2).toNatClampNeg (nar .byte (((224 : Int32) ||| (p0 >>> ((12 : Int32) &&& 31))).toInt8.toInt32))) := V_13
        have N14 := Fr.snoc X13 N0 g_u1
        have Z15 : n0 ≤ h13.size := Nat.le_trans Z0 (Nat.le_of_eq W13.size.symm)
        have K16 : Keep h0 h13 [u1] := K0.wr W13 (Or.inl (List.mem_of_getElem? (i := 0) rfl))
        refine Goes.step (S' := T13.setTop (mkF m 79 #[.val (.int p0), .val (.ref u1), .val (.int (p2 + (1 : Int32)))] [])) st13 ?_
        refine Goes.step (S' := T13.setTop (mkF m 80 #[.val (.int p0), .val (.ref u1), .val (.int (p2 + (1 : Int32)))] [(.ref u1)])) (fun _ k => XS.aloadN X13.here hx rfl (hb hby d1_79) rfl rfl k) ?_
        refine Goes.step (S' := T13.setTop (mkF m 81 #[.val (.int p0), .val (.ref u1), .val (.int (p2 + (1 : Int32)))] [(.int (p2 + (1 : Int32))), (.ref u1)])) (fun _ k => XS.iloadN X13.here hx rfl (hb hby d1_80) rfl  k) ?_
        refine Goes.step (S' := T13.setTop (mkF m 84 #[.val (.int p0), .val (.ref u1), .val (.int ((p2 + (1 : Int32)) + (1 : Int32)))] [(.int (p2 + (1 : Int32))), (.ref u1)])) (fun _ k => XS.iinc X13.here hx rfl (hb hby d1_81) rfl (l' := #[.val (.int p0), .val (.ref u1), .val (.int ((p2 + (1 : Int32)) + (1 : Int32)))]) rfl k) ?_
        refine Goes.step (S' := T13.setTop (mkF m 87 #[.val (.int p0), .val (.ref u1), .val (.int ((p2 + (1 : Int32)) + (1 : Int32)))] [(.int (128 : Int32)), (.int (p2 + (1 : Int32))), (.ref u1)])) (fun _ k => XS.sipush X13.here hx rfl (hb hby d1_84) k) ?_
        refine Goes.step (S' := T13.setTop (mkF m 88 #[.val (.int p0), .val (.ref u1), .val (.int ((p2 + (1 : Int32)) + (1 : Int32)))] [(.int p0), (.int (128 : Int32)), (.int (p2 + (1 : Int32))), (.ref u1)])) (fun _ k => XS.iloadN X13.here hx rfl (hb hby d1_87) rfl  k) ?_
        refine Goes.step (S' := T13.setTop (mkF m 90 #[.val (.int p0), .val (.ref u1), .val (.int ((p2 + (1 : Int32)) + (1 : Int32)))] [(.int (6 : Int32)), (.int p0), (.int (128 : Int32)), (.int (p2 + (1 : Int32))), (.ref u1)])) (fun _ k => XS.bipush X13.here hx rfl (hb hby d1_88) k) ?_
        refine Goes.step (S' := T13.setTop (mkF m 91 #[.val (.int p0), .val (.ref u1), .val (.int ((p2 + (1 : Int32)) + (1 : Int32)))] [(.int (p0 >>> ((6 : Int32) &&& 31))), (.int (128 : Int32)), (.int (p2 + (1 : Int32))), (.ref u1)])) (fun _ k => XS.ishr X13.here hx rfl (hb hby d1_90) rfl k) ?_
        refine Goes.step (S' := T13.setTop (mkF m 93 #[.val (.int p0), .val (.ref u1), .val (.int ((p2 + (1 : Int32)) + (1 : Int32)))] [(.int (63 : Int32)), (.int (p0 >>> ((6 : Int32) &&& 31))), (.int (128 : Int32)), (.int (p2 + (1 : Int32))), (.ref u1)])) (fun _ k => XS.bipush X13.here hx rfl (hb hby d1_91) k) ?_
        refine Goes.step (S' := T13.setTop (mkF m 94 #[.val (.int p0), .val (.ref u1), .val (.int ((p2 + (1 : Int32)) + (1 : Int32)))] [(.int ((p0 >>> ((6 : Int32) &&& 31)) &&& (63 : Int32))), (.int (128 : Int32)), (.int (p2 + (1 : Int32))), (.ref u1)])) (fun _ k => XS.iand X13.here hx rfl (hb hby d1_93) rfl k) ?_
        refine Goes.step (S' := T13.setTop (mkF m 95 #[.val (.int p0), .val (.ref u1), .val (.int ((p2 + (1 : Int32)) + (1 : Int32)))] [(.int ((128 : Int32) ||| ((p0 >>> ((6 : Int32) &&& 31)) &&& (63 : Int32)))), (.int (p2 + (1 : Int32))), (.ref u1)])) (fun _ k => XS.ior X13.here hx rfl (hb hby d1_94) rfl k) ?_
        refine Goes.step (S' := T13.setTop (mkF m 96 #[.val (.int p0), .val (.ref u1), .val (.int ((p2 + (1 : Int32)) + (1 : Int32)))] [(.int (((128 : Int32) ||| ((p0 >>> ((6 : Int32) &&& 31)) &&& (63 : Int32))).toInt8.toInt32)), (.int (p2 + (1 : Int32))), (.ref u1)])) (fun _ k => XS.i2b X13.here hx rfl (hb hby d1_95) rfl k) ?_
        obtain ⟨T17, h17, X17, e17, W17, V_17, st17⟩ := own_bastore X13 hx hZ e13 V_13 (own_ix1_96 p0 n_u1 vs_u1 hl_u1 hn_u1 p2 hB hb4 hB5 hc4_1 hc22_2 hc61_3) (g := (mkF m 96 #[.val (.int p0), .val (.ref u1), .val (.int ((p2 + (1 : Int32)) + (1 : Int32)))] [(.int (((128 : Int32) ||| ((p0 >>> ((6 : Int32) &&& 31)) &&& (63 : Int32))).toInt8.toInt32)), (.int (p2 + (1 : Int32))), (.ref u1)])) rfl rfl (hb hby d1_96)
        replace V_17 : AI Z h17 u1 k_u1 .byte n_u1 ((vs_u1.set (p2).toNatClampNeg (nar .byte (((224 : Int32) ||| (p0 >>> ((12 : Int32) &&& 31))).toInt8.toInt32))).set ((p2 + (1 : Int32))).toNatClampNeg (nar .byte (((128 : Int32) ||| ((p0 >>> ((6 : Int32) &&& 31)) &&& (63 : Int32))).toInt8.toInt32))) := V_17
        have N18 := Fr.snoc X17 N14 g_u1
        have Z19 : n0 ≤ h17.size := Nat.le_trans Z15 (Nat.le_of_eq W17.size.symm)
        have K20 : Keep h0 h17 [u1] := K16.wr W17 (Or.inl (List.mem_of_getElem? (i := 0) rfl))
        refine Goes.step (S' := T17.setTop (mkF m 97 #[.val (.int p0), .val (.ref u1), .val (.int ((p2 + (1 : Int32)) + (1 : Int32)))] [])) st17 ?_
        refine Goes.step (S' := T17.setTop (mkF m 98 #[.val (.int p0), .val (.ref u1), .val (.int ((p2 + (1 : Int32)) + (1 : Int32)))] [(.ref u1)])) (fun _ k => XS.aloadN X17.here hx rfl (hb hby d1_97) rfl rfl k) ?_
        refine Goes.step (S' := T17.setTop (mkF m 99 #[.val (.int p0), .val (.ref u1), .val (.int ((p2 + (1 : Int32)) + (1 : Int32)))] [(.int ((p2 + (1 : Int32)) + (1 : Int32))), (.ref u1)])) (fun _ k => XS.iloadN X17.here hx rfl (hb hby d1_98) rfl  k) ?_
        refine Goes.step (S' := T17.setTop (mkF m 102 #[.val (.int p0), .val (.ref u1), .val (.int (((p2 + (1 : Int32)) + (1 : Int32)) + (1 : Int32)))] [(.int ((p2 + (1 : Int32)) + (1 : Int32))), (.ref u1)])) (fun _ k => XS.iinc X17.here hx rfl (hb hby d1_99) rfl (l' := #[.val (.int p0), .val (.ref u1), .val (.int (((p2 + (1 : Int32)) + (1 : Int32)) + (1 : Int32)))]) rfl k) ?_
        refine Goes.step (S' := T17.setTop (mkF m 105 #[.val (.int p0), .val (.ref u1), .val (.int (((p2 + (1 : Int32)) + (1 : Int32)) + (1 : Int32)))] [(.int (128 : Int32)), (.int ((p2 + (1 : Int32)) + (1 : Int32))), (.ref u1)])) (fun _ k => XS.sipush X17.here hx rfl (hb hby d1_102) k) ?_
        refine Goes.step (S' := T17.setTop (mkF m 106 #[.val (.int p0), .val (.ref u1), .val (.int (((p2 + (1 : Int32)) + (1 : Int32)) + (1 : Int32)))] [(.int p0), (.int (128 : Int32)), (.int ((p2 + (1 : Int32)) + (1 : Int32))), (.ref u1)])) (fun _ k => XS.iloadN X17.here hx rfl (hb hby d1_105) rfl  k) ?_
        refine Goes.step (S' := T17.setTop (mkF m 108 #[.val (.int p0), .val (.ref u1), .val (.int (((p2 + (1 : Int32)) + (1 : Int32)) + (1 : Int32)))] [(.int (63 : Int32)), (.int p0), (.int (128 : Int32)), (.int ((p2 + (1 : Int32)) + (1 : Int32))), (.ref u1)])) (fun _ k => XS.bipush X17.here hx rfl (hb hby d1_106) k) ?_
        refine Goes.step (S' := T17.setTop (mkF m 109 #[.val (.int p0), .val (.ref u1), .val (.int (((p2 + (1 : Int32)) + (1 : Int32)) + (1 : Int32)))] [(.int (p0 &&& (63 : Int32))), (.int (128 : Int32)), (.int ((p2 + (1 : Int32)) + (1 : Int32))), (.ref u1)])) (fun _ k => XS.iand X17.here hx rfl (hb hby d1_108) rfl k) ?_
        refine Goes.step (S' := T17.setTop (mkF m 110 #[.val (.int p0), .val (.ref u1), .val (.int (((p2 + (1 : Int32)) + (1 : Int32)) + (1 : Int32)))] [(.int ((128 : Int32) ||| (p0 &&& (63 : Int32)))), (.int ((p2 + (1 : Int32)) + (1 : Int32))), (.ref u1)])) (fun _ k => XS.ior X17.here hx rfl (hb hby d1_109) rfl k) ?_
        refine Goes.step (S' := T17.setTop (mkF m 111 #[.val (.int p0), .val (.ref u1), .val (.int (((p2 + (1 : Int32)) + (1 : Int32)) + (1 : Int32)))] [(.int (((128 : Int32) ||| (p0 &&& (63 : Int32))).toInt8.toInt32)), (.int ((p2 + (1 : Int32)) + (1 : Int32))), (.ref u1)])) (fun _ k => XS.i2b X17.here hx rfl (hb hby d1_110) rfl k) ?_
        obtain ⟨T21, h21, X21, e21, W21, V_21, st21⟩ := own_bastore X17 hx hZ e17 V_17 (own_ix1_111 p0 n_u1 vs_u1 hl_u1 hn_u1 p2 hB hb4 hB5 hc4_1 hc22_2 hc61_3) (g := (mkF m 111 #[.val (.int p0), .val (.ref u1), .val (.int (((p2 + (1 : Int32)) + (1 : Int32)) + (1 : Int32)))] [(.int (((128 : Int32) ||| (p0 &&& (63 : Int32))).toInt8.toInt32)), (.int ((p2 + (1 : Int32)) + (1 : Int32))), (.ref u1)])) rfl rfl (hb hby d1_111)
        replace V_21 : AI Z h21 u1 k_u1 .byte n_u1 (((vs_u1.set (p2).toNatClampNeg (nar .byte (((224 : Int32) ||| (p0 >>> ((12 : Int32) &&& 31))).toInt8.toInt32))).set ((p2 + (1 : Int32))).toNatClampNeg (nar .byte (((128 : Int32) ||| ((p0 >>> ((6 : Int32) &&& 31)) &&& (63 : Int32))).toInt8.toInt32))).set (((p2 + (1 : Int32)) + (1 : Int32))).toNatClampNeg (nar .byte (((128 : Int32) ||| (p0 &&& (63 : Int32))).toInt8.toInt32))) := V_21
        have N22 := Fr.snoc X21 N18 g_u1
        have Z23 : n0 ≤ h21.size := Nat.le_trans Z19 (Nat.le_of_eq W21.size.symm)
        have K24 : Keep h0 h21 [u1] := K20.wr W21 (Or.inl (List.mem_of_getElem? (i := 0) rfl))
        refine Goes.step (S' := T21.setTop (mkF m 112 #[.val (.int p0), .val (.ref u1), .val (.int (((p2 + (1 : Int32)) + (1 : Int32)) + (1 : Int32)))] [])) st21 ?_
        refine Goes.step (S' := T21.setTop (mkF m 181 #[.val (.int p0), .val (.ref u1), .val (.int (((p2 + (1 : Int32)) + (1 : Int32)) + (1 : Int32)))] [])) (fun _ k => XS.goto X21.here hx rfl (pc0 := 112) (pc' := 181) rfl (hb hby d1_112) (by decide) (by decide) k) ?_
        refine Goes.step (S' := T21.setTop (mkF m 182 #[.val (.int p0), .val (.ref u1), .val (.int (((p2 + (1 : Int32)) + (1 : Int32)) + (1 : Int32)))] [(.int (((p2 + (1 : Int32)) + (1 : Int32)) + (1 : Int32)))])) (fun _ k => XS.iloadN X21.here hx rfl (hb hby d1_181) rfl  k) ?_
        refine Goes.retI X21 hx Bd.notSynchronized Bd.returns (hb hby d1_182) (by decide) (by decide) ?_
        refine ⟨congrArg (fun z => some (Value.int z)) ?_, N22, ?_, ?_⟩
        · rw [f1, if_neg hc4_1, if_neg hc22_2, if_pos hc61_3]; try rfl
        · rw [e21]; exact K24
        · rw [e21]; rw [g1_u1, if_neg hc4_1, if_neg hc22_2, if_pos hc61_3]; exact V_21
      · refine Goes.step (S' := s₁.setTop (mkF m 115 #[.val (.int p0), .val (.ref u1), .val (.int p2)] [])) (fun _ k => XS.icmpYes X0.here hx rfl (pc0 := 61) (pc' := 115) rfl (hb hby d1_61) rfl (flt hc61_3).2.1 (by decide) (by decide) k) ?_
        refine Goes.step (S' := s₁.setTop (mkF m 116 #[.val (.int p0), .val (.ref u1), .val (.int p2)] [(.ref u1)])) (fun _ k => XS.aloadN X0.here hx rfl (hb hby d1_115) rfl rfl k) ?_
        refine Goes.step (S' := s₁.setTop (mkF m 117 #[.val (.int p0), .val (.ref u1), .val (.int p2)] [(.int p2), (.ref u1)])) (fun _ k => XS.iloadN X0.here hx rfl (hb hby d1_116) rfl  k) ?_
        refine Goes.step (S' := s₁.setTop (mkF m 120 #[.val (.int p0), .val (.ref u1), .val (.int (p2 + (1 : Int32)))] [(.int p2), (.ref u1)])) (fun _ k => XS.iinc X0.here hx rfl (hb hby d1_117) rfl (l' := #[.val (.int p0), .val (.ref u1), .val (.int (p2 + (1 : Int32)))]) rfl k) ?_
        refine Goes.step (S' := s₁.setTop (mkF m 123 #[.val (.int p0), .val (.ref u1), .val (.int (p2 + (1 : Int32)))] [(.int (240 : Int32)), (.int p2), (.ref u1)])) (fun _ k => XS.sipush X0.here hx rfl (hb hby d1_120) k) ?_
        refine Goes.step (S' := s₁.setTop (mkF m 124 #[.val (.int p0), .val (.ref u1), .val (.int (p2 + (1 : Int32)))] [(.int p0), (.int (240 : Int32)), (.int p2), (.ref u1)])) (fun _ k => XS.iloadN X0.here hx rfl (hb hby d1_123) rfl  k) ?_
        refine Goes.step (S' := s₁.setTop (mkF m 126 #[.val (.int p0), .val (.ref u1), .val (.int (p2 + (1 : Int32)))] [(.int (18 : Int32)), (.int p0), (.int (240 : Int32)), (.int p2), (.ref u1)])) (fun _ k => XS.bipush X0.here hx rfl (hb hby d1_124) k) ?_
        refine Goes.step (S' := s₁.setTop (mkF m 127 #[.val (.int p0), .val (.ref u1), .val (.int (p2 + (1 : Int32)))] [(.int (p0 >>> ((18 : Int32) &&& 31))), (.int (240 : Int32)), (.int p2), (.ref u1)])) (fun _ k => XS.ishr X0.here hx rfl (hb hby d1_126) rfl k) ?_
        refine Goes.step (S' := s₁.setTop (mkF m 128 #[.val (.int p0), .val (.ref u1), .val (.int (p2 + (1 : Int32)))] [(.int ((240 : Int32) ||| (p0 >>> ((18 : Int32) &&& 31)))), (.int p2), (.ref u1)])) (fun _ k => XS.ior X0.here hx rfl (hb hby d1_127) rfl k) ?_
        refine Goes.step (S' := s₁.setTop (mkF m 129 #[.val (.int p0), .val (.ref u1), .val (.int (p2 + (1 : Int32)))] [(.int (((240 : Int32) ||| (p0 >>> ((18 : Int32) &&& 31))).toInt8.toInt32)), (.int p2), (.ref u1)])) (fun _ k => XS.i2b X0.here hx rfl (hb hby d1_128) rfl k) ?_
        obtain ⟨T25, h25, X25, e25, W25, V_25, st25⟩ := own_bastore X0 hx hZ e0 V_u1 (own_ix1_129 p0 n_u1 vs_u1 hl_u1 hn_u1 p2 hB hb4 hB5 hc4_1 hc22_2 hc61_3) (g := (mkF m 129 #[.val (.int p0), .val (.ref u1), .val (.int (p2 + (1 : Int32)))] [(.int (((240 : Int32) ||| (p0 >>> ((18 : Int32) &&& 31))).toInt8.toInt32)), (.int p2), (.ref u1)])) rfl rfl (hb hby d1_129)
        replace V_25 : AI Z h25 u1 k_u1 .byte n_u1 (vs_u1.set (p2).toNatClampNeg (nar .byte (((240 : Int32) ||| (p0 >>> ((18 : Int32) &&& 31))).toInt8.toInt32))) := V_25
        have N26 := Fr.snoc X25 N0 g_u1
        have Z27 : n0 ≤ h25.size := Nat.le_trans Z0 (Nat.le_of_eq W25.size.symm)
        have K28 : Keep h0 h25 [u1] := K0.wr W25 (Or.inl (List.mem_of_getElem? (i := 0) rfl))
        refine Goes.step (S' := T25.setTop (mkF m 130 #[.val (.int p0), .val (.ref u1), .val (.int (p2 + (1 : Int32)))] [])) st25 ?_
        refine Goes.step (S' := T25.setTop (mkF m 131 #[.val (.int p0), .val (.ref u1), .val (.int (p2 + (1 : Int32)))] [(.ref u1)])) (fun _ k => XS.aloadN X25.here hx rfl (hb hby d1_130) rfl rfl k) ?_
        refine Goes.step (S' := T25.setTop (mkF m 132 #[.val (.int p0), .val (.ref u1), .val (.int (p2 + (1 : Int32)))] [(.int (p2 + (1 : Int32))), (.ref u1)])) (fun _ k => XS.iloadN X25.here hx rfl (hb hby d1_131) rfl  k) ?_
        refine Goes.step (S' := T25.setTop (mkF m 135 #[.val (.int p0), .val (.ref u1), .val (.int ((p2 + (1 : Int32)) + (1 : Int32)))] [(.int (p2 + (1 : Int32))), (.ref u1)])) (fun _ k => XS.iinc X25.here hx rfl (hb hby d1_132) rfl (l' := #[.val (.int p0), .val (.ref u1), .val (.int ((p2 + (1 : Int32)) + (1 : Int32)))]) rfl k) ?_
        refine Goes.step (S' := T25.setTop (mkF m 138 #[.val (.int p0), .val (.ref u1), .val (.int ((p2 + (1 : Int32)) + (1 : Int32)))] [(.int (128 : Int32)), (.int (p2 + (1 : Int32))), (.ref u1)])) (fun _ k => XS.sipush X25.here hx rfl (hb hby d1_135) k) ?_
        refine Goes.step (S' := T25.setTop (mkF m 139 #[.val (.int p0), .val (.ref u1), .val (.int ((p2 + (1 : Int32)) + (1 : Int32)))] [(.int p0), (.int (128 : Int32)), (.int (p2 + (1 : Int32))), (.ref u1)])) (fun _ k => XS.iloadN X25.here hx rfl (hb hby d1_138) rfl  k) ?_
        refine Goes.step (S' := T25.setTop (mkF m 141 #[.val (.int p0), .val (.ref u1), .val (.int ((p2 + (1 : Int32)) + (1 : Int32)))] [(.int (12 : Int32)), (.int p0), (.int (128 : Int32)), (.int (p2 + (1 : Int32))), (.ref u1)])) (fun _ k => XS.bipush X25.here hx rfl (hb hby d1_139) k) ?_
        refine Goes.step (S' := T25.setTop (mkF m 142 #[.val (.int p0), .val (.ref u1), .val (.int ((p2 + (1 : Int32)) + (1 : Int32)))] [(.int (p0 >>> ((12 : Int32) &&& 31))), (.int (128 : Int32)), (.int (p2 + (1 : Int32))), (.ref u1)])) (fun _ k => XS.ishr X25.here hx rfl (hb hby d1_141) rfl k) ?_
        refine Goes.step (S' := T25.setTop (mkF m 144 #[.val (.int p0), .val (.ref u1), .val (.int ((p2 + (1 : Int32)) + (1 : Int32)))] [(.int (63 : Int32)), (.int (p0 >>> ((12 : Int32) &&& 31))), (.int (128 : Int32)), (.int (p2 + (1 : Int32))), (.ref u1)])) (fun _ k => XS.bipush X25.here hx rfl (hb hby d1_142) k) ?_
        refine Goes.step (S' := T25.setTop (mkF m 145 #[.val (.int p0), .val (.ref u1), .val (.int ((p2 + (1 : Int32)) + (1 : Int32)))] [(.int ((p0 >>> ((12 : Int32) &&& 31)) &&& (63 : Int32))), (.int (128 : Int32)), (.int (p2 + (1 : Int32))), (.ref u1)])) (fun _ k => XS.iand X25.here hx rfl (hb hby d1_144) rfl k) ?_
        refine Goes.step (S' := T25.setTop (mkF m 146 #[.val (.int p0), .val (.ref u1), .val (.int ((p2 + (1 : Int32)) + (1 : Int32)))] [(.int ((128 : Int32) ||| ((p0 >>> ((12 : Int32) &&& 31)) &&& (63 : Int32)))), (.int (p2 + (1 : Int32))), (.ref u1)])) (fun _ k => XS.ior X25.here hx rfl (hb hby d1_145) rfl k) ?_
        refine Goes.step (S' := T25.setTop (mkF m 147 #[.val (.int p0), .val (.ref u1), .val (.int ((p2 + (1 : Int32)) + (1 : Int32)))] [(.int (((128 : Int32) ||| ((p0 >>> ((12 : Int32) &&& 31)) &&& (63 : Int32))).toInt8.toInt32)), (.int (p2 + (1 : Int32))), (.ref u1)])) (fun _ k => XS.i2b X25.here hx rfl (hb hby d1_146) rfl k) ?_
        obtain ⟨T29, h29, X29, e29, W29, V_29, st29⟩ := own_bastore X25 hx hZ e25 V_25 (own_ix1_147 p0 n_u1 vs_u1 hl_u1 hn_u1 p2 hB hb4 hB5 hc4_1 hc22_2 hc61_3) (g := (mkF m 147 #[.val (.int p0), .val (.ref u1), .val (.int ((p2 + (1 : Int32)) + (1 : Int32)))] [(.int (((128 : Int32) ||| ((p0 >>> ((12 : Int32) &&& 31)) &&& (63 : Int32))).toInt8.toInt32)), (.int (p2 + (1 : Int32))), (.ref u1)])) rfl rfl (hb hby d1_147)
        replace V_29 : AI Z h29 u1 k_u1 .byte n_u1 ((vs_u1.set (p2).toNatClampNeg (nar .byte (((240 : Int32) ||| (p0 >>> ((18 : Int32) &&& 31))).toInt8.toInt32))).set ((p2 + (1 : Int32))).toNatClampNeg (nar .byte (((128 : Int32) ||| ((p0 >>> ((12 : Int32) &&& 31)) &&& (63 : Int32))).toInt8.toInt32))) := V_29
        have N30 := Fr.snoc X29 N26 g_u1
        have Z31 : n0 ≤ h29.size := Nat.le_trans Z27 (Nat.le_of_eq W29.size.symm)
        have K32 : Keep h0 h29 [u1] := K28.wr W29 (Or.inl (List.mem_of_getElem? (i := 0) rfl))
        refine Goes.step (S' := T29.setTop (mkF m 148 #[.val (.int p0), .val (.ref u1), .val (.int ((p2 + (1 : Int32)) + (1 : Int32)))] [])) st29 ?_
        refine Goes.step (S' := T29.setTop (mkF m 149 #[.val (.int p0), .val (.ref u1), .val (.int ((p2 + (1 : Int32)) + (1 : Int32)))] [(.ref u1)])) (fun _ k => XS.aloadN X29.here hx rfl (hb hby d1_148) rfl rfl k) ?_
        refine Goes.step (S' := T29.setTop (mkF m 150 #[.val (.int p0), .val (.ref u1), .val (.int ((p2 + (1 : Int32)) + (1 : Int32)))] [(.int ((p2 + (1 : Int32)) + (1 : Int32))), (.ref u1)])) (fun _ k => XS.iloadN X29.here hx rfl (hb hby d1_149) rfl  k) ?_
        refine Goes.step (S' := T29.setTop (mkF m 153 #[.val (.int p0), .val (.ref u1), .val (.int (((p2 + (1 : Int32)) + (1 : Int32)) + (1 : Int32)))] [(.int ((p2 + (1 : Int32)) + (1 : Int32))), (.ref u1)])) (fun _ k => XS.iinc X29.here hx rfl (hb hby d1_150) rfl (l' := #[.val (.int p0), .val (.ref u1), .val (.int (((p2 + (1 : Int32)) + (1 : Int32)) + (1 : Int32)))]) rfl k) ?_
        refine Goes.step (S' := T29.setTop (mkF m 156 #[.val (.int p0), .val (.ref u1), .val (.int (((p2 + (1 : Int32)) + (1 : Int32)) + (1 : Int32)))] [(.int (128 : Int32)), (.int ((p2 + (1 : Int32)) + (1 : Int32))), (.ref u1)])) (fun _ k => XS.sipush X29.here hx rfl (hb hby d1_153) k) ?_
        refine Goes.step (S' := T29.setTop (mkF m 157 #[.val (.int p0), .val (.ref u1), .val (.int (((p2 + (1 : Int32)) + (1 : Int32)) + (1 : Int32)))] [(.int p0), (.int (128 : Int32)), (.int ((p2 + (1 : Int32)) + (1 : Int32))), (.ref u1)])) (fun _ k => XS.iloadN X29.here hx rfl (hb hby d1_156) rfl  k) ?_
        refine Goes.step (S' := T29.setTop (mkF m 159 #[.val (.int p0), .val (.ref u1), .val (.int (((p2 + (1 : Int32)) + (1 : Int32)) + (1 : Int32)))] [(.int (6 : Int32)), (.int p0), (.int (128 : Int32)), (.int ((p2 + (1 : Int32)) + (1 : Int32))), (.ref u1)])) (fun _ k => XS.bipush X29.here hx rfl (hb hby d1_157) k) ?_
        refine Goes.step (S' := T29.setTop (mkF m 160 #[.val (.int p0), .val (.ref u1), .val (.int (((p2 + (1 : Int32)) + (1 : Int32)) + (1 : Int32)))] [(.int (p0 >>> ((6 : Int32) &&& 31))), (.int (128 : Int32)), (.int ((p2 + (1 : Int32)) + (1 : Int32))), (.ref u1)])) (fun _ k => XS.ishr X29.here hx rfl (hb hby d1_159) rfl k) ?_
        refine Goes.step (S' := T29.setTop (mkF m 162 #[.val (.int p0), .val (.ref u1), .val (.int (((p2 + (1 : Int32)) + (1 : Int32)) + (1 : Int32)))] [(.int (63 : Int32)), (.int (p0 >>> ((6 : Int32) &&& 31))), (.int (128 : Int32)), (.int ((p2 + (1 : Int32)) + (1 : Int32))), (.ref u1)])) (fun _ k => XS.bipush X29.here hx rfl (hb hby d1_160) k) ?_
        refine Goes.step (S' := T29.setTop (mkF m 163 #[.val (.int p0), .val (.ref u1), .val (.int (((p2 + (1 : Int32)) + (1 : Int32)) + (1 : Int32)))] [(.int ((p0 >>> ((6 : Int32) &&& 31)) &&& (63 : Int32))), (.int (128 : Int32)), (.int ((p2 + (1 : Int32)) + (1 : Int32))), (.ref u1)])) (fun _ k => XS.iand X29.here hx rfl (hb hby d1_162) rfl k) ?_
        refine Goes.step (S' := T29.setTop (mkF m 164 #[.val (.int p0), .val (.ref u1), .val (.int (((p2 + (1 : Int32)) + (1 : Int32)) + (1 : Int32)))] [(.int ((128 : Int32) ||| ((p0 >>> ((6 : Int32) &&& 31)) &&& (63 : Int32)))), (.int ((p2 + (1 : Int32)) + (1 : Int32))), (.ref u1)])) (fun _ k => XS.ior X29.here hx rfl (hb hby d1_163) rfl k) ?_
        refine Goes.step (S' := T29.setTop (mkF m 165 #[.val (.int p0), .val (.ref u1), .val (.int (((p2 + (1 : Int32)) + (1 : Int32)) + (1 : Int32)))] [(.int (((128 : Int32) ||| ((p0 >>> ((6 : Int32) &&& 31)) &&& (63 : Int32))).toInt8.toInt32)), (.int ((p2 + (1 : Int32)) + (1 : Int32))), (.ref u1)])) (fun _ k => XS.i2b X29.here hx rfl (hb hby d1_164) rfl k) ?_
        obtain ⟨T33, h33, X33, e33, W33, V_33, st33⟩ := own_bastore X29 hx hZ e29 V_29 (own_ix1_165 p0 n_u1 vs_u1 hl_u1 hn_u1 p2 hB hb4 hB5 hc4_1 hc22_2 hc61_3) (g := (mkF m 165 #[.val (.int p0), .val (.ref u1), .val (.int (((p2 + (1 : Int32)) + (1 : Int32)) + (1 : Int32)))] [(.int (((128 : Int32) ||| ((p0 >>> ((6 : Int32) &&& 31)) &&& (63 : Int32))).toInt8.toInt32)), (.int ((p2 + (1 : Int32)) + (1 : Int32))), (.ref u1)])) rfl rfl (hb hby d1_165)
        replace V_33 : AI Z h33 u1 k_u1 .byte n_u1 (((vs_u1.set (p2).toNatClampNeg (nar .byte (((240 : Int32) ||| (p0 >>> ((18 : Int32) &&& 31))).toInt8.toInt32))).set ((p2 + (1 : Int32))).toNatClampNeg (nar .byte (((128 : Int32) ||| ((p0 >>> ((12 : Int32) &&& 31)) &&& (63 : Int32))).toInt8.toInt32))).set (((p2 + (1 : Int32)) + (1 : Int32))).toNatClampNeg (nar .byte (((128 : Int32) ||| ((p0 >>> ((6 : Int32) &&& 31)) &&& (63 : Int32))).toInt8.toInt32))) := V_33
        have N34 := Fr.snoc X33 N30 g_u1
        have Z35 : n0 ≤ h33.size := Nat.le_trans Z31 (Nat.le_of_eq W33.size.symm)
        have K36 : Keep h0 h33 [u1] := K32.wr W33 (Or.inl (List.mem_of_getElem? (i := 0) rfl))
        refine Goes.step (S' := T33.setTop (mkF m 166 #[.val (.int p0), .val (.ref u1), .val (.int (((p2 + (1 : Int32)) + (1 : Int32)) + (1 : Int32)))] [])) st33 ?_
        refine Goes.step (S' := T33.setTop (mkF m 167 #[.val (.int p0), .val (.ref u1), .val (.int (((p2 + (1 : Int32)) + (1 : Int32)) + (1 : Int32)))] [(.ref u1)])) (fun _ k => XS.aloadN X33.here hx rfl (hb hby d1_166) rfl rfl k) ?_
        refine Goes.step (S' := T33.setTop (mkF m 168 #[.val (.int p0), .val (.ref u1), .val (.int (((p2 + (1 : Int32)) + (1 : Int32)) + (1 : Int32)))] [(.int (((p2 + (1 : Int32)) + (1 : Int32)) + (1 : Int32))), (.ref u1)])) (fun _ k => XS.iloadN X33.here hx rfl (hb hby d1_167) rfl  k) ?_
        refine Goes.step (S' := T33.setTop (mkF m 171 #[.val (.int p0), .val (.ref u1), .val (.int ((((p2 + (1 : Int32)) + (1 : Int32)) + (1 : Int32)) + (1 : Int32)))] [(.int (((p2 + (1 : Int32)) + (1 : Int32)) + (1 : Int32))), (.ref u1)])) (fun _ k => XS.iinc X33.here hx rfl (hb hby d1_168) rfl (l' := #[.val (.int p0), .val (.ref u1), .val (.int ((((p2 + (1 : Int32)) + (1 : Int32)) + (1 : Int32)) + (1 : Int32)))]) rfl k) ?_
        refine Goes.step (S' := T33.setTop (mkF m 174 #[.val (.int p0), .val (.ref u1), .val (.int ((((p2 + (1 : Int32)) + (1 : Int32)) + (1 : Int32)) + (1 : Int32)))] [(.int (128 : Int32)), (.int (((p2 + (1 : Int32)) + (1 : Int32)) + (1 : Int32))), (.ref u1)])) (fun _ k => XS.sipush X33.here hx rfl (hb hby d1_171) k) ?_
        refine Goes.step (S' := T33.setTop (mkF m 175 #[.val (.int p0), .val (.ref u1), .val (.int ((((p2 + (1 : Int32)) + (1 : Int32)) + (1 : Int32)) + (1 : Int32)))] [(.int p0), (.int (128 : Int32)), (.int (((p2 + (1 : Int32)) + (1 : Int32)) + (1 : Int32))), (.ref u1)])) (fun _ k => XS.iloadN X33.here hx rfl (hb hby d1_174) rfl  k) ?_
        refine Goes.step (S' := T33.setTop (mkF m 177 #[.val (.int p0), .val (.ref u1), .val (.int ((((p2 + (1 : Int32)) + (1 : Int32)) + (1 : Int32)) + (1 : Int32)))] [(.int (63 : Int32)), (.int p0), (.int (128 : Int32)), (.int (((p2 + (1 : Int32)) + (1 : Int32)) + (1 : Int32))), (.ref u1)])) (fun _ k => XS.bipush X33.here hx rfl (hb hby d1_175) k) ?_
        refine Goes.step (S' := T33.setTop (mkF m 178 #[.val (.int p0), .val (.ref u1), .val (.int ((((p2 + (1 : Int32)) + (1 : Int32)) + (1 : Int32)) + (1 : Int32)))] [(.int (p0 &&& (63 : Int32))), (.int (128 : Int32)), (.int (((p2 + (1 : Int32)) + (1 : Int32)) + (1 : Int32))), (.ref u1)])) (fun _ k => XS.iand X33.here hx rfl (hb hby d1_177) rfl k) ?_
        refine Goes.step (S' := T33.setTop (mkF m 179 #[.val (.int p0), .val (.ref u1), .val (.int ((((p2 + (1 : Int32)) + (1 : Int32)) + (1 : Int32)) + (1 : Int32)))] [(.int ((128 : Int32) ||| (p0 &&& (63 : Int32)))), (.int (((p2 + (1 : Int32)) + (1 : Int32)) + (1 : Int32))), (.ref u1)])) (fun _ k => XS.ior X33.here hx rfl (hb hby d1_178) rfl k) ?_
        refine Goes.step (S' := T33.setTop (mkF m 180 #[.val (.int p0), .val (.ref u1), .val (.int ((((p2 + (1 : Int32)) + (1 : Int32)) + (1 : Int32)) + (1 : Int32)))] [(.int (((128 : Int32) ||| (p0 &&& (63 : Int32))).toInt8.toInt32)), (.int (((p2 + (1 : Int32)) + (1 : Int32)) + (1 : Int32))), (.ref u1)])) (fun _ k => XS.i2b X33.here hx rfl (hb hby d1_179) rfl k) ?_
        obtain ⟨T37, h37, X37, e37, W37, V_37, st37⟩ := own_bastore X33 hx hZ e33 V_33 (own_ix1_180 p0 n_u1 vs_u1 hl_u1 hn_u1 p2 hB hb4 hB5 hc4_1 hc22_2 hc61_3) (g := (mkF m 180 #[.val (.int p0), .val (.ref u1), .val (.int ((((p2 + (1 : Int32)) + (1 : Int32)) + (1 : Int32)) + (1 : Int32)))] [(.int (((128 : Int32) ||| (p0 &&& (63 : Int32))).toInt8.toInt32)), (.int (((p2 + (1 : Int32)) + (1 : Int32)) + (1 : Int32))), (.ref u1)])) rfl rfl (hb hby d1_180)
        replace V_37 : AI Z h37 u1 k_u1 .byte n_u1 ((((vs_u1.set (p2).toNatClampNeg (nar .byte (((240 : Int32) ||| (p0 >>> ((18 : Int32) &&& 31))).toInt8.toInt32))).set ((p2 + (1 : Int32))).toNatClampNeg (nar .byte (((128 : Int32) ||| ((p0 >>> ((12 : Int32) &&& 31)) &&& (63 : Int32))).toInt8.toInt32))).set (((p2 + (1 : Int32)) + (1 : Int32))).toNatClampNeg (nar .byte (((128 : Int32) ||| ((p0 >>> ((6 : Int32) &&& 31)) &&& (63 : Int32))).toInt8.toInt32))).set ((((p2 + (1 : Int32)) + (1 : Int32)) + (1 : Int32))).toNatClampNeg (nar .byte (((128 : Int32) ||| (p0 &&& (63 : Int32))).toInt8.toInt32))) := V_37
        have N38 := Fr.snoc X37 N34 g_u1
        have Z39 : n0 ≤ h37.size := Nat.le_trans Z35 (Nat.le_of_eq W37.size.symm)
        have K40 : Keep h0 h37 [u1] := K36.wr W37 (Or.inl (List.mem_of_getElem? (i := 0) rfl))
        refine Goes.step (S' := T37.setTop (mkF m 181 #[.val (.int p0), .val (.ref u1), .val (.int ((((p2 + (1 : Int32)) + (1 : Int32)) + (1 : Int32)) + (1 : Int32)))] [])) st37 ?_
        refine Goes.step (S' := T37.setTop (mkF m 182 #[.val (.int p0), .val (.ref u1), .val (.int ((((p2 + (1 : Int32)) + (1 : Int32)) + (1 : Int32)) + (1 : Int32)))] [(.int ((((p2 + (1 : Int32)) + (1 : Int32)) + (1 : Int32)) + (1 : Int32)))])) (fun _ k => XS.iloadN X37.here hx rfl (hb hby d1_181) rfl  k) ?_
        refine Goes.retI X37 hx Bd.notSynchronized Bd.returns (hb hby d1_182) (by decide) (by decide) ?_
        refine ⟨congrArg (fun z => some (Value.int z)) ?_, N38, ?_, ?_⟩
        · rw [f1, if_neg hc4_1, if_neg hc22_2, if_neg hc61_3]; try rfl
        · rw [e37]; exact K40
        · rw [e37]; rw [g1_u1, if_neg hc4_1, if_neg hc22_2, if_neg hc61_3]; exact V_37
theorem d2_0 : decode prog_31_method_3_code 0 = .ok (.aload_n 0, 1) := by decide +kernel
theorem d2_1 : decode prog_31_method_3_code 1 = .ok (.iload_n 1, 1) := by decide +kernel
theorem d2_2 : decode prog_31_method_3_code 2 = .ok (.baload, 1) := by decide +kernel
theorem d2_3 : decode prog_31_method_3_code 3 = .ok (.sipush 255, 3) := by decide +kernel
theorem d2_6 : decode prog_31_method_3_code 6 = .ok (.iand, 1) := by decide +kernel
theorem d2_7 : decode prog_31_method_3_code 7 = .ok (.istore_n 3, 1) := by decide +kernel
theorem d2_8 : decode prog_31_method_3_code 8 = .ok (.iload_n 3, 1) := by decide +kernel
theorem d2_9 : decode prog_31_method_3_code 9 = .ok (.sipush 128, 3) := by decide +kernel
theorem d2_12 : decode prog_31_method_3_code 12 = .ok (.if_icmp .ge 5, 3) := by decide +kernel
theorem d2_15 : decode prog_31_method_3_code 15 = .ok (.iload_n 3, 1) := by decide +kernel
theorem d2_16 : decode prog_31_method_3_code 16 = .ok (.ireturn, 1) := by decide +kernel
theorem d2_17 : decode prog_31_method_3_code 17 = .ok (.sipush 128, 3) := by decide +kernel
theorem d2_20 : decode prog_31_method_3_code 20 = .ok (.istore 5, 2) := by decide +kernel
theorem d2_22 : decode prog_31_method_3_code 22 = .ok (.sipush 191, 3) := by decide +kernel
theorem d2_25 : decode prog_31_method_3_code 25 = .ok (.istore 6, 2) := by decide +kernel
theorem d2_27 : decode prog_31_method_3_code 27 = .ok (.iload_n 3, 1) := by decide +kernel
theorem d2_28 : decode prog_31_method_3_code 28 = .ok (.sipush 194, 3) := by decide +kernel
theorem d2_31 : decode prog_31_method_3_code 31 = .ok (.if_icmp .ge 5, 3) := by decide +kernel
theorem d2_34 : decode prog_31_method_3_code 34 = .ok (.iconst (-1), 1) := by decide +kernel
theorem d2_35 : decode prog_31_method_3_code 35 = .ok (.ireturn, 1) := by decide +kernel
theorem d2_36 : decode prog_31_method_3_code 36 = .ok (.iload_n 3, 1) := by decide +kernel
theorem d2_37 : decode prog_31_method_3_code 37 = .ok (.sipush 224, 3) := by decide +kernel
theorem d2_40 : decode prog_31_method_3_code 40 = .ok (.if_icmp .ge 9, 3) := by decide +kernel
theorem d2_43 : decode prog_31_method_3_code 43 = .ok (.iconst 1, 1) := by decide +kernel
theorem d2_44 : decode prog_31_method_3_code 44 = .ok (.istore 4, 2) := by decide +kernel
theorem d2_46 : decode prog_31_method_3_code 46 = .ok (.goto 99, 3) := by decide +kernel
theorem d2_49 : decode prog_31_method_3_code 49 = .ok (.iload_n 3, 1) := by decide +kernel
theorem d2_50 : decode prog_31_method_3_code 50 = .ok (.sipush 240, 3) := by decide +kernel
theorem d2_53 : decode prog_31_method_3_code 53 = .ok (.if_icmp .ge 43, 3) := by decide +kernel
theorem d2_56 : decode prog_31_method_3_code 56 = .ok (.iconst 2, 1) := by decide +kernel
theorem d2_57 : decode prog_31_method_3_code 57 = .ok (.istore 4, 2) := by decide +kernel
theorem d2_59 : decode prog_31_method_3_code 59 = .ok (.iload_n 3, 1) := by decide +kernel
theorem d2_60 : decode prog_31_method_3_code 60 = .ok (.sipush 224, 3) := by decide +kernel
theorem d2_63 : decode prog_31_method_3_code 63 = .ok (.if_icmp .ne 9, 3) := by decide +kernel
theorem d2_66 : decode prog_31_method_3_code 66 = .ok (.sipush 160, 3) := by decide +kernel
theorem d2_69 : decode prog_31_method_3_code 69 = .ok (.goto 5, 3) := by decide +kernel
theorem d2_72 : decode prog_31_method_3_code 72 = .ok (.iload 5, 2) := by decide +kernel
theorem d2_74 : decode prog_31_method_3_code 74 = .ok (.istore 5, 2) := by decide +kernel
theorem d2_76 : decode prog_31_method_3_code 76 = .ok (.iload_n 3, 1) := by decide +kernel
theorem d2_77 : decode prog_31_method_3_code 77 = .ok (.sipush 237, 3) := by decide +kernel
theorem d2_80 : decode prog_31_method_3_code 80 = .ok (.if_icmp .ne 9, 3) := by decide +kernel
theorem d2_83 : decode prog_31_method_3_code 83 = .ok (.sipush 159, 3) := by decide +kernel
theorem d2_86 : decode prog_31_method_3_code 86 = .ok (.goto 5, 3) := by decide +kernel
theorem d2_89 : decode prog_31_method_3_code 89 = .ok (.iload 6, 2) := by decide +kernel
theorem d2_91 : decode prog_31_method_3_code 91 = .ok (.istore 6, 2) := by decide +kernel
theorem d2_93 : decode prog_31_method_3_code 93 = .ok (.goto 52, 3) := by decide +kernel
theorem d2_96 : decode prog_31_method_3_code 96 = .ok (.iload_n 3, 1) := by decide +kernel
theorem d2_97 : decode prog_31_method_3_code 97 = .ok (.sipush 245, 3) := by decide +kernel
theorem d2_100 : decode prog_31_method_3_code 100 = .ok (.if_icmp .ge 43, 3) := by decide +kernel
theorem d2_103 : decode prog_31_method_3_code 103 = .ok (.iconst 3, 1) := by decide +kernel
theorem d2_104 : decode prog_31_method_3_code 104 = .ok (.istore 4, 2) := by decide +kernel
theorem d2_106 : decode prog_31_method_3_code 106 = .ok (.iload_n 3, 1) := by decide +kernel
theorem d2_107 : decode prog_31_method_3_code 107 = .ok (.sipush 240, 3) := by decide +kernel
theorem d2_110 : decode prog_31_method_3_code 110 = .ok (.if_icmp .ne 9, 3) := by decide +kernel
theorem d2_113 : decode prog_31_method_3_code 113 = .ok (.sipush 144, 3) := by decide +kernel
theorem d2_116 : decode prog_31_method_3_code 116 = .ok (.goto 5, 3) := by decide +kernel
theorem d2_119 : decode prog_31_method_3_code 119 = .ok (.iload 5, 2) := by decide +kernel
theorem d2_121 : decode prog_31_method_3_code 121 = .ok (.istore 5, 2) := by decide +kernel
theorem d2_123 : decode prog_31_method_3_code 123 = .ok (.iload_n 3, 1) := by decide +kernel
theorem d2_124 : decode prog_31_method_3_code 124 = .ok (.sipush 244, 3) := by decide +kernel
theorem d2_127 : decode prog_31_method_3_code 127 = .ok (.if_icmp .ne 9, 3) := by decide +kernel
theorem d2_130 : decode prog_31_method_3_code 130 = .ok (.sipush 143, 3) := by decide +kernel
theorem d2_133 : decode prog_31_method_3_code 133 = .ok (.goto 5, 3) := by decide +kernel
theorem d2_136 : decode prog_31_method_3_code 136 = .ok (.iload 6, 2) := by decide +kernel
theorem d2_138 : decode prog_31_method_3_code 138 = .ok (.istore 6, 2) := by decide +kernel
theorem d2_140 : decode prog_31_method_3_code 140 = .ok (.goto 5, 3) := by decide +kernel
theorem d2_143 : decode prog_31_method_3_code 143 = .ok (.iconst (-1), 1) := by decide +kernel
theorem d2_144 : decode prog_31_method_3_code 144 = .ok (.ireturn, 1) := by decide +kernel
theorem d2_145 : decode prog_31_method_3_code 145 = .ok (.iload_n 2, 1) := by decide +kernel
theorem d2_146 : decode prog_31_method_3_code 146 = .ok (.iload_n 1, 1) := by decide +kernel
theorem d2_147 : decode prog_31_method_3_code 147 = .ok (.isub, 1) := by decide +kernel
theorem d2_148 : decode prog_31_method_3_code 148 = .ok (.iload 4, 2) := by decide +kernel
theorem d2_150 : decode prog_31_method_3_code 150 = .ok (.if_icmp .gt 5, 3) := by decide +kernel
theorem d2_153 : decode prog_31_method_3_code 153 = .ok (.iconst (-1), 1) := by decide +kernel
theorem d2_154 : decode prog_31_method_3_code 154 = .ok (.ireturn, 1) := by decide +kernel
theorem d2_155 : decode prog_31_method_3_code 155 = .ok (.aload_n 0, 1) := by decide +kernel
theorem d2_156 : decode prog_31_method_3_code 156 = .ok (.iload_n 1, 1) := by decide +kernel
theorem d2_157 : decode prog_31_method_3_code 157 = .ok (.iconst 1, 1) := by decide +kernel
theorem d2_158 : decode prog_31_method_3_code 158 = .ok (.iadd, 1) := by decide +kernel
theorem d2_159 : decode prog_31_method_3_code 159 = .ok (.baload, 1) := by decide +kernel
theorem d2_160 : decode prog_31_method_3_code 160 = .ok (.sipush 255, 3) := by decide +kernel
theorem d2_163 : decode prog_31_method_3_code 163 = .ok (.iand, 1) := by decide +kernel
theorem d2_164 : decode prog_31_method_3_code 164 = .ok (.istore 7, 2) := by decide +kernel
theorem d2_166 : decode prog_31_method_3_code 166 = .ok (.iload 7, 2) := by decide +kernel
theorem d2_168 : decode prog_31_method_3_code 168 = .ok (.iload 5, 2) := by decide +kernel
theorem d2_170 : decode prog_31_method_3_code 170 = .ok (.if_icmp .lt 10, 3) := by decide +kernel
theorem d2_173 : decode prog_31_method_3_code 173 = .ok (.iload 7, 2) := by decide +kernel
theorem d2_175 : decode prog_31_method_3_code 175 = .ok (.iload 6, 2) := by decide +kernel
theorem d2_177 : decode prog_31_method_3_code 177 = .ok (.if_icmp .le 5, 3) := by decide +kernel
theorem d2_180 : decode prog_31_method_3_code 180 = .ok (.iconst (-1), 1) := by decide +kernel
theorem d2_181 : decode prog_31_method_3_code 181 = .ok (.ireturn, 1) := by decide +kernel
theorem d2_182 : decode prog_31_method_3_code 182 = .ok (.iload_n 3, 1) := by decide +kernel
theorem d2_183 : decode prog_31_method_3_code 183 = .ok (.bipush 63, 2) := by decide +kernel
theorem d2_185 : decode prog_31_method_3_code 185 = .ok (.iload 4, 2) := by decide +kernel
theorem d2_187 : decode prog_31_method_3_code 187 = .ok (.ishr, 1) := by decide +kernel
theorem d2_188 : decode prog_31_method_3_code 188 = .ok (.iand, 1) := by decide +kernel
theorem d2_189 : decode prog_31_method_3_code 189 = .ok (.bipush 6, 2) := by decide +kernel
theorem d2_191 : decode prog_31_method_3_code 191 = .ok (.ishl, 1) := by decide +kernel
theorem d2_192 : decode prog_31_method_3_code 192 = .ok (.iload 7, 2) := by decide +kernel
theorem d2_194 : decode prog_31_method_3_code 194 = .ok (.bipush 63, 2) := by decide +kernel
theorem d2_196 : decode prog_31_method_3_code 196 = .ok (.iand, 1) := by decide +kernel
theorem d2_197 : decode prog_31_method_3_code 197 = .ok (.ior, 1) := by decide +kernel
theorem d2_198 : decode prog_31_method_3_code 198 = .ok (.istore 8, 2) := by decide +kernel
theorem d2_200 : decode prog_31_method_3_code 200 = .ok (.iload_n 1, 1) := by decide +kernel
theorem d2_201 : decode prog_31_method_3_code 201 = .ok (.iconst 2, 1) := by decide +kernel
theorem d2_202 : decode prog_31_method_3_code 202 = .ok (.iadd, 1) := by decide +kernel
theorem d2_203 : decode prog_31_method_3_code 203 = .ok (.istore 9, 2) := by decide +kernel
theorem d2_205 : decode prog_31_method_3_code 205 = .ok (.iload 9, 2) := by decide +kernel
theorem d2_207 : decode prog_31_method_3_code 207 = .ok (.iload_n 1, 1) := by decide +kernel
theorem d2_208 : decode prog_31_method_3_code 208 = .ok (.iload 4, 2) := by decide +kernel
theorem d2_210 : decode prog_31_method_3_code 210 = .ok (.iadd, 1) := by decide +kernel
theorem d2_211 : decode prog_31_method_3_code 211 = .ok (.if_icmp .gt 50, 3) := by decide +kernel
theorem d2_214 : decode prog_31_method_3_code 214 = .ok (.aload_n 0, 1) := by decide +kernel
theorem d2_215 : decode prog_31_method_3_code 215 = .ok (.iload 9, 2) := by decide +kernel
theorem d2_217 : decode prog_31_method_3_code 217 = .ok (.baload, 1) := by decide +kernel
theorem d2_218 : decode prog_31_method_3_code 218 = .ok (.sipush 255, 3) := by decide +kernel
theorem d2_221 : decode prog_31_method_3_code 221 = .ok (.iand, 1) := by decide +kernel
theorem d2_222 : decode prog_31_method_3_code 222 = .ok (.istore 10, 2) := by decide +kernel
theorem d2_224 : decode prog_31_method_3_code 224 = .ok (.iload 10, 2) := by decide +kernel
theorem d2_226 : decode prog_31_method_3_code 226 = .ok (.sipush 128, 3) := by decide +kernel
theorem d2_229 : decode prog_31_method_3_code 229 = .ok (.if_icmp .lt 11, 3) := by decide +kernel
theorem d2_232 : decode prog_31_method_3_code 232 = .ok (.iload 10, 2) := by decide +kernel
theorem d2_234 : decode prog_31_method_3_code 234 = .ok (.sipush 191, 3) := by decide +kernel
theorem d2_237 : decode prog_31_method_3_code 237 = .ok (.if_icmp .le 5, 3) := by decide +kernel
theorem d2_240 : decode prog_31_method_3_code 240 = .ok (.iconst (-1), 1) := by decide +kernel
theorem d2_241 : decode prog_31_method_3_code 241 = .ok (.ireturn, 1) := by decide +kernel
theorem d2_242 : decode prog_31_method_3_code 242 = .ok (.iload 8, 2) := by decide +kernel
theorem d2_244 : decode prog_31_method_3_code 244 = .ok (.bipush 6, 2) := by decide +kernel
theorem d2_246 : decode prog_31_method_3_code 246 = .ok (.ishl, 1) := by decide +kernel
theorem d2_247 : decode prog_31_method_3_code 247 = .ok (.iload 10, 2) := by decide +kernel
theorem d2_249 : decode prog_31_method_3_code 249 = .ok (.bipush 63, 2) := by decide +kernel
theorem d2_251 : decode prog_31_method_3_code 251 = .ok (.iand, 1) := by decide +kernel
theorem d2_252 : decode prog_31_method_3_code 252 = .ok (.ior, 1) := by decide +kernel
theorem d2_253 : decode prog_31_method_3_code 253 = .ok (.istore 8, 2) := by decide +kernel
theorem d2_255 : decode prog_31_method_3_code 255 = .ok (.iinc 9 1, 3) := by decide +kernel
theorem d2_258 : decode prog_31_method_3_code 258 = .ok (.goto (-53), 3) := by decide +kernel
theorem d2_261 : decode prog_31_method_3_code 261 = .ok (.iload 8, 2) := by decide +kernel
theorem d2_263 : decode prog_31_method_3_code 263 = .ok (.ireturn, 1) := by decide +kernel
theorem ef2 (m : MethodId) (u0 : Addr) (p1 : Int32) (p2 : Int32) : entryFrame m #[(.ref u0), (.int p1), (.int p2)] 11 = mkF m 0 #[.val (.ref u0), .val (.int p1), .val (.int p2), .unset, .unset, .unset, .unset, .unset, .unset, .unset, .unset] [] := by first | (simp [entryFrame, mkF, argsToLocals, Value.category]; done) | rfl
def f2 (n_u0 : Int32) (vs_u0 : List Int32) (p1 : Int32) (p2 : Int32) : Int32 := (if ((vs_u0.getD (p1).toNatClampNeg 0) &&& (255 : Int32)) < (128 : Int32) then ((vs_u0.getD (p1).toNatClampNeg 0) &&& (255 : Int32)) else (if ((vs_u0.getD (p1).toNatClampNeg 0) &&& (255 : Int32)) < (194 : Int32) then (-1 : Int32) else (if ((vs_u0.getD (p1).toNatClampNeg 0) &&& (255 : Int32)) < (224 : Int32) then (if (1 : Int32) < (p2 - p1) then (if ((vs_u0.getD ((p1 + (1 : Int32))).toNatClampNeg 0) &&& (255 : Int32)) < (128 : Int32) then (-1 : Int32) else (if (191 : Int32) < ((vs_u0.getD ((p1 + (1 : Int32))).toNatClampNeg 0) &&& (255 : Int32)) then (-1 : Int32) else (((((vs_u0.getD (p1).toNatClampNeg 0) &&& (255 : Int32)) &&& ((63 : Int32) >>> ((1 : Int32) &&& 31))) <<< ((6 : Int32) &&& 31)) ||| (((vs_u0.getD ((p1 + (1 : Int32))).toNatClampNeg 0) &&& (255 : Int32)) &&& (63 : Int32))))) else (-1 : Int32)) else (if ((vs_u0.getD (p1).toNatClampNeg 0) &&& (255 : Int32)) < (240 : Int32) then (if (2 : Int32) < (p2 - p1) then (if ((vs_u0.getD ((p1 + (1 : Int32))).toNatClampNeg 0) &&& (255 : Int32)) < (if ((vs_u0.getD (p1).toNatClampNeg 0) &&& (255 : Int32)) = (224 : Int32) then (160 : Int32) else (128 : Int32)) then (-1 : Int32) else (if (if ((vs_u0.getD (p1).toNatClampNeg 0) &&& (255 : Int32)) = (237 : Int32) then (159 : Int32) else (191 : Int32)) < ((vs_u0.getD ((p1 + (1 : Int32))).toNatClampNeg 0) &&& (255 : Int32)) then (-1 : Int32) else (if ((vs_u0.getD ((p1 + (2 : Int32))).toNatClampNeg 0) &&& (255 : Int32)) < (128 : Int32) then (-1 : Int32) else (if (191 : Int32) < ((vs_u0.getD ((p1 + (2 : Int32))).toNatClampNeg 0) &&& (255 : Int32)) then (-1 : Int32) else (((((((vs_u0.getD (p1).toNatClampNeg 0) &&& (255 : Int32)) &&& ((63 : Int32) >>> ((2 : Int32) &&& 31))) <<< ((6 : Int32) &&& 31)) ||| (((vs_u0.getD ((p1 + (1 : Int32))).toNatClampNeg 0) &&& (255 : Int32)) &&& (63 : Int32))) <<< ((6 : Int32) &&& 31)) ||| (((vs_u0.getD ((p1 + (2 : Int32))).toNatClampNeg 0) &&& (255 : Int32)) &&& (63 : Int32))))))) else (-1 : Int32)) else (if ((vs_u0.getD (p1).toNatClampNeg 0) &&& (255 : Int32)) < (245 : Int32) then (if (3 : Int32) < (p2 - p1) then (if ((vs_u0.getD ((p1 + (1 : Int32))).toNatClampNeg 0) &&& (255 : Int32)) < (if ((vs_u0.getD (p1).toNatClampNeg 0) &&& (255 : Int32)) = (240 : Int32) then (144 : Int32) else (128 : Int32)) then (-1 : Int32) else (if (if ((vs_u0.getD (p1).toNatClampNeg 0) &&& (255 : Int32)) = (244 : Int32) then (143 : Int32) else (191 : Int32)) < ((vs_u0.getD ((p1 + (1 : Int32))).toNatClampNeg 0) &&& (255 : Int32)) then (-1 : Int32) else (if ((vs_u0.getD ((p1 + (2 : Int32))).toNatClampNeg 0) &&& (255 : Int32)) < (128 : Int32) then (-1 : Int32) else (if (191 : Int32) < ((vs_u0.getD ((p1 + (2 : Int32))).toNatClampNeg 0) &&& (255 : Int32)) then (-1 : Int32) else (if ((vs_u0.getD (((p1 + (2 : Int32)) + (1 : Int32))).toNatClampNeg 0) &&& (255 : Int32)) < (128 : Int32) then (-1 : Int32) else (if (191 : Int32) < ((vs_u0.getD (((p1 + (2 : Int32)) + (1 : Int32))).toNatClampNeg 0) &&& (255 : Int32)) then (-1 : Int32) else (((((((((vs_u0.getD (p1).toNatClampNeg 0) &&& (255 : Int32)) &&& ((63 : Int32) >>> ((3 : Int32) &&& 31))) <<< ((6 : Int32) &&& 31)) ||| (((vs_u0.getD ((p1 + (1 : Int32))).toNatClampNeg 0) &&& (255 : Int32)) &&& (63 : Int32))) <<< ((6 : Int32) &&& 31)) ||| (((vs_u0.getD ((p1 + (2 : Int32))).toNatClampNeg 0) &&& (255 : Int32)) &&& (63 : Int32))) <<< ((6 : Int32) &&& 31)) ||| (((vs_u0.getD (((p1 + (2 : Int32)) + (1 : Int32))).toNatClampNeg 0) &&& (255 : Int32)) &&& (63 : Int32))))))))) else (-1 : Int32)) else (-1 : Int32))))))
theorem own_ix2_2 (n_u0 : Int32) (vs_u0 : List Int32) (hl_u0 : vs_u0.length = n_u0.toNatClampNeg) (hn_u0 : ¬ n_u0 < 0) (p1 : Int32) (p2 : Int32) (hB : ¬ p1 < 0 ∧ p1 < n_u0) (hb2 : ¬ n_u0 < p2) (hb3 : ¬ p2 < 0) (hb4 : n_u0 < (100 : Int32)) : ¬ p1 < 0 ∧ p1 < n_u0 := by
  exact hB
theorem own_ix2_159 (n_u0 : Int32) (vs_u0 : List Int32) (hl_u0 : vs_u0.length = n_u0.toNatClampNeg) (hn_u0 : ¬ n_u0 < 0) (p1 : Int32) (p2 : Int32) (hB : ¬ p1 < 0 ∧ p1 < n_u0) (hb2 : ¬ n_u0 < p2) (hb3 : ¬ p2 < 0) (hb4 : n_u0 < (100 : Int32)) (v3_7 : Int32) (ev3_7 : v3_7 = ((vs_u0.getD (p1).toNatClampNeg 0) &&& (255 : Int32))) (hc12_1 : ¬ (v3_7 < (128 : Int32))) (hc31_2 : ¬ (v3_7 < (194 : Int32))) (hc40_3 : v3_7 < (224 : Int32)) (hc150_4 : (1 : Int32) < (p2 - p1)) : ¬ (p1 + (1 : Int32)) < 0 ∧ (p1 + (1 : Int32)) < n_u0 := by
  subst_vars
  simp only [Int32.lt_iff_toInt_lt, Int32.reduceToInt] at *
  have rp := rng32 p1
  have a1 := c_iadd p1 1
  have r1 := rng32 (p1 + 1)
  simp only [Int32.reduceToInt] at a1
  have e1 : (p1 + 1).toInt = p1.toInt + 1 := by omega
  clear a1 r1
  have a2 := c_iadd p1 2
  have r2 := rng32 (p1 + 2)
  simp only [Int32.reduceToInt] at a2
  have e2 : (p1 + 2).toInt = p1.toInt + 2 := by omega
  clear a2 r2
  have a3 := c_iadd p1 3
  have r3 := rng32 (p1 + 3)
  simp only [Int32.reduceToInt] at a3
  have e3 : (p1 + 3).toInt = p1.toInt + 3 := by omega
  clear a3 r3
  have a4 := c_iadd (p1 + 2) 1
  have r4 := rng32 ((p1 + 2) + 1)
  simp only [Int32.reduceToInt] at a4
  have e4 : (p1 + 2 + 1).toInt = p1.toInt + 3 := by omega
  clear a4 r4
  have a5 := c_iadd ((p1 + 2) + 1) 1
  have r5 := rng32 ((p1 + 2) + 1 + 1)
  simp only [Int32.reduceToInt] at a5
  have e5 : (p1 + 2 + 1 + 1).toInt = p1.toInt + 4 := by omega
  clear a5 r5
  have s := c_isub p2 p1
  have r6 := rng32 (p2 - p1)
  have e6 : (p2 - p1).toInt = p2.toInt - p1.toInt := by omega
  clear s r6
  omega
theorem own_hc2_211 (n_u0 : Int32) (vs_u0 : List Int32) (hl_u0 : vs_u0.length = n_u0.toNatClampNeg) (hn_u0 : ¬ n_u0 < 0) (p1 : Int32) (p2 : Int32) (hB : ¬ p1 < 0 ∧ p1 < n_u0) (hb2 : ¬ n_u0 < p2) (hb3 : ¬ p2 < 0) (hb4 : n_u0 < (100 : Int32)) (v3_7 : Int32) (ev3_7 : v3_7 = ((vs_u0.getD (p1).toNatClampNeg 0) &&& (255 : Int32))) (hc12_1 : ¬ (v3_7 < (128 : Int32))) (hc31_2 : ¬ (v3_7 < (194 : Int32))) (hc40_3 : v3_7 < (224 : Int32)) (hc150_4 : (1 : Int32) < (p2 - p1)) (v7_164 : Int32) (ev7_164 : v7_164 = ((vs_u0.getD ((p1 + (1 : Int32))).toNatClampNeg 0) &&& (255 : Int32))) (hc170_5 : ¬ (v7_164 < (128 : Int32))) (hc177_6 : ¬ ((191 : Int32) < v7_164)) (v8_198 : Int32) (ev8_198 : v8_198 = (((v3_7 &&& ((63 : Int32) >>> ((1 : Int32) &&& 31))) <<< ((6 : Int32) &&& 31)) ||| (v7_164 &&& (63 : Int32)))) (v9_203 : Int32) (ev9_203 : v9_203 = (p1 + (2 : Int32))) : (p1 + (1 : Int32)) < v9_203 := by
  subst_vars
  simp only [Int32.lt_iff_toInt_lt, Int32.reduceToInt] at *
  have rp := rng32 p1
  have a1 := c_iadd p1 1
  have r1 := rng32 (p1 + 1)
  simp only [Int32.reduceToInt] at a1
  have e1 : (p1 + 1).toInt = p1.toInt + 1 := by omega
  clear a1 r1
  have a2 := c_iadd p1 2
  have r2 := rng32 (p1 + 2)
  simp only [Int32.reduceToInt] at a2
  have e2 : (p1 + 2).toInt = p1.toInt + 2 := by omega
  clear a2 r2
  have a3 := c_iadd p1 3
  have r3 := rng32 (p1 + 3)
  simp only [Int32.reduceToInt] at a3
  have e3 : (p1 + 3).toInt = p1.toInt + 3 := by omega
  clear a3 r3
  have a4 := c_iadd (p1 + 2) 1
  have r4 := rng32 ((p1 + 2) + 1)
  simp only [Int32.reduceToInt] at a4
  have e4 : (p1 + 2 + 1).toInt = p1.toInt + 3 := by omega
  clear a4 r4
  have a5 := c_iadd ((p1 + 2) + 1) 1
  have r5 := rng32 ((p1 + 2) + 1 + 1)
  simp only [Int32.reduceToInt] at a5
  have e5 : (p1 + 2 + 1 + 1).toInt = p1.toInt + 4 := by omega
  clear a5 r5
  have s := c_isub p2 p1
  have r6 := rng32 (p2 - p1)
  have e6 : (p2 - p1).toInt = p2.toInt - p1.toInt := by omega
  clear s r6
  omega
theorem own_ix2_159_2 (n_u0 : Int32) (vs_u0 : List Int32) (hl_u0 : vs_u0.length = n_u0.toNatClampNeg) (hn_u0 : ¬ n_u0 < 0) (p1 : Int32) (p2 : Int32) (hB : ¬ p1 < 0 ∧ p1 < n_u0) (hb2 : ¬ n_u0 < p2) (hb3 : ¬ p2 < 0) (hb4 : n_u0 < (100 : Int32)) (v3_7 : Int32) (ev3_7 : v3_7 = ((vs_u0.getD (p1).toNatClampNeg 0) &&& (255 : Int32))) (hc12_1 : ¬ (v3_7 < (128 : Int32))) (hc31_2 : ¬ (v3_7 < (194 : Int32))) (hc40_3 : ¬ (v3_7 < (224 : Int32))) (hc53_7 : v3_7 < (240 : Int32)) (v5_74 : Int32) (ev5_74 : v5_74 = (if v3_7 = (224 : Int32) then (160 : Int32) else (128 : Int32))) (v6_91 : Int32) (ev6_91 : v6_91 = (if v3_7 = (237 : Int32) then (159 : Int32) else (191 : Int32))) (hc150_10 : (2 : Int32) < (p2 - p1)) : ¬ (p1 + (1 : Int32)) < 0 ∧ (p1 + (1 : Int32)) < n_u0 := by
  subst_vars
  simp only [Int32.lt_iff_toInt_lt, Int32.reduceToInt] at *
  have rp := rng32 p1
  have a1 := c_iadd p1 1
  have r1 := rng32 (p1 + 1)
  simp only [Int32.reduceToInt] at a1
  have e1 : (p1 + 1).toInt = p1.toInt + 1 := by omega
  clear a1 r1
  have a2 := c_iadd p1 2
  have r2 := rng32 (p1 + 2)
  simp only [Int32.reduceToInt] at a2
  have e2 : (p1 + 2).toInt = p1.toInt + 2 := by omega
  clear a2 r2
  have a3 := c_iadd p1 3
  have r3 := rng32 (p1 + 3)
  simp only [Int32.reduceToInt] at a3
  have e3 : (p1 + 3).toInt = p1.toInt + 3 := by omega
  clear a3 r3
  have a4 := c_iadd (p1 + 2) 1
  have r4 := rng32 ((p1 + 2) + 1)
  simp only [Int32.reduceToInt] at a4
  have e4 : (p1 + 2 + 1).toInt = p1.toInt + 3 := by omega
  clear a4 r4
  have a5 := c_iadd ((p1 + 2) + 1) 1
  have r5 := rng32 ((p1 + 2) + 1 + 1)
  simp only [Int32.reduceToInt] at a5
  have e5 : (p1 + 2 + 1 + 1).toInt = p1.toInt + 4 := by omega
  clear a5 r5
  have s := c_isub p2 p1
  have r6 := rng32 (p2 - p1)
  have e6 : (p2 - p1).toInt = p2.toInt - p1.toInt := by omega
  clear s r6
  omega
theorem own_hc2_211_2 (n_u0 : Int32) (vs_u0 : List Int32) (hl_u0 : vs_u0.length = n_u0.toNatClampNeg) (hn_u0 : ¬ n_u0 < 0) (p1 : Int32) (p2 : Int32) (hB : ¬ p1 < 0 ∧ p1 < n_u0) (hb2 : ¬ n_u0 < p2) (hb3 : ¬ p2 < 0) (hb4 : n_u0 < (100 : Int32)) (v3_7 : Int32) (ev3_7 : v3_7 = ((vs_u0.getD (p1).toNatClampNeg 0) &&& (255 : Int32))) (hc12_1 : ¬ (v3_7 < (128 : Int32))) (hc31_2 : ¬ (v3_7 < (194 : Int32))) (hc40_3 : ¬ (v3_7 < (224 : Int32))) (hc53_7 : v3_7 < (240 : Int32)) (v5_74 : Int32) (ev5_74 : v5_74 = (if v3_7 = (224 : Int32) then (160 : Int32) else (128 : Int32))) (v6_91 : Int32) (ev6_91 : v6_91 = (if v3_7 = (237 : Int32) then (159 : Int32) else (191 : Int32))) (hc150_10 : (2 : Int32) < (p2 - p1)) (v7_164 : Int32) (ev7_164 : v7_164 = ((vs_u0.getD ((p1 + (1 : Int32))).toNatClampNeg 0) &&& (255 : Int32))) (hc170_11 : ¬ (v7_164 < v5_74)) (hc177_12 : ¬ (v6_91 < v7_164)) (v8_198 : Int32) (ev8_198 : v8_198 = (((v3_7 &&& ((63 : Int32) >>> ((2 : Int32) &&& 31))) <<< ((6 : Int32) &&& 31)) ||| (v7_164 &&& (63 : Int32)))) (v9_203 : Int32) (ev9_203 : v9_203 = (p1 + (2 : Int32))) : ¬ ((p1 + (2 : Int32)) < v9_203) := by
  subst_vars
  simp only [Int32.lt_iff_toInt_lt, Int32.reduceToInt] at *
  have rp := rng32 p1
  have a1 := c_iadd p1 1
  have r1 := rng32 (p1 + 1)
  simp only [Int32.reduceToInt] at a1
  have e1 : (p1 + 1).toInt = p1.toInt + 1 := by omega
  clear a1 r1
  have a2 := c_iadd p1 2
  have r2 := rng32 (p1 + 2)
  simp only [Int32.reduceToInt] at a2
  have e2 : (p1 + 2).toInt = p1.toInt + 2 := by omega
  clear a2 r2
  have a3 := c_iadd p1 3
  have r3 := rng32 (p1 + 3)
  simp only [Int32.reduceToInt] at a3
  have e3 : (p1 + 3).toInt = p1.toInt + 3 := by omega
  clear a3 r3
  have a4 := c_iadd (p1 + 2) 1
  have r4 := rng32 ((p1 + 2) + 1)
  simp only [Int32.reduceToInt] at a4
  have e4 : (p1 + 2 + 1).toInt = p1.toInt + 3 := by omega
  clear a4 r4
  have a5 := c_iadd ((p1 + 2) + 1) 1
  have r5 := rng32 ((p1 + 2) + 1 + 1)
  simp only [Int32.reduceToInt] at a5
  have e5 : (p1 + 2 + 1 + 1).toInt = p1.toInt + 4 := by omega
  clear a5 r5
  have s := c_isub p2 p1
  have r6 := rng32 (p2 - p1)
  have e6 : (p2 - p1).toInt = p2.toInt - p1.toInt := by omega
  clear s r6
  omega
theorem own_ix2_217 (n_u0 : Int32) (vs_u0 : List Int32) (hl_u0 : vs_u0.length = n_u0.toNatClampNeg) (hn_u0 : ¬ n_u0 < 0) (p1 : Int32) (p2 : Int32) (hB : ¬ p1 < 0 ∧ p1 < n_u0) (hb2 : ¬ n_u0 < p2) (hb3 : ¬ p2 < 0) (hb4 : n_u0 < (100 : Int32)) (v3_7 : Int32) (ev3_7 : v3_7 = ((vs_u0.getD (p1).toNatClampNeg 0) &&& (255 : Int32))) (hc12_1 : ¬ (v3_7 < (128 : Int32))) (hc31_2 : ¬ (v3_7 < (194 : Int32))) (hc40_3 : ¬ (v3_7 < (224 : Int32))) (hc53_7 : v3_7 < (240 : Int32)) (v5_74 : Int32) (ev5_74 : v5_74 = (if v3_7 = (224 : Int32) then (160 : Int32) else (128 : Int32))) (v6_91 : Int32) (ev6_91 : v6_91 = (if v3_7 = (237 : Int32) then (159 : Int32) else (191 : Int32))) (hc150_10 : (2 : Int32) < (p2 - p1)) (v7_164 : Int32) (ev7_164 : v7_164 = ((vs_u0.getD ((p1 + (1 : Int32))).toNatClampNeg 0) &&& (255 : Int32))) (hc170_11 : ¬ (v7_164 < v5_74)) (hc177_12 : ¬ (v6_91 < v7_164)) (v8_198 : Int32) (ev8_198 : v8_198 = (((v3_7 &&& ((63 : Int32) >>> ((2 : Int32) &&& 31))) <<< ((6 : Int32) &&& 31)) ||| (v7_164 &&& (63 : Int32)))) (v9_203 : Int32) (ev9_203 : v9_203 = (p1 + (2 : Int32))) : ¬ v9_203 < 0 ∧ v9_203 < n_u0 := by
  subst_vars
  simp only [Int32.lt_iff_toInt_lt, Int32.reduceToInt] at *
  have rp := rng32 p1
  have a1 := c_iadd p1 1
  have r1 := rng32 (p1 + 1)
  simp only [Int32.reduceToInt] at a1
  have e1 : (p1 + 1).toInt = p1.toInt + 1 := by omega
  clear a1 r1
  have a2 := c_iadd p1 2
  have r2 := rng32 (p1 + 2)
  simp only [Int32.reduceToInt] at a2
  have e2 : (p1 + 2).toInt = p1.toInt + 2 := by omega
  clear a2 r2
  have a3 := c_iadd p1 3
  have r3 := rng32 (p1 + 3)
  simp only [Int32.reduceToInt] at a3
  have e3 : (p1 + 3).toInt = p1.toInt + 3 := by omega
  clear a3 r3
  have a4 := c_iadd (p1 + 2) 1
  have r4 := rng32 ((p1 + 2) + 1)
  simp only [Int32.reduceToInt] at a4
  have e4 : (p1 + 2 + 1).toInt = p1.toInt + 3 := by omega
  clear a4 r4
  have a5 := c_iadd ((p1 + 2) + 1) 1
  have r5 := rng32 ((p1 + 2) + 1 + 1)
  simp only [Int32.reduceToInt] at a5
  have e5 : (p1 + 2 + 1 + 1).toInt = p1.toInt + 4 := by omega
  clear a5 r5
  have s := c_isub p2 p1
  have r6 := rng32 (p2 - p1)
  have e6 : (p2 - p1).toInt = p2.toInt - p1.toInt := by omega
  clear s r6
  omega
theorem own_hc2_211_3 (n_u0 : Int32) (vs_u0 : List Int32) (hl_u0 : vs_u0.length = n_u0.toNatClampNeg) (hn_u0 : ¬ n_u0 < 0) (p1 : Int32) (p2 : Int32) (hB : ¬ p1 < 0 ∧ p1 < n_u0) (hb2 : ¬ n_u0 < p2) (hb3 : ¬ p2 < 0) (hb4 : n_u0 < (100 : Int32)) (v3_7 : Int32) (ev3_7 : v3_7 = ((vs_u0.getD (p1).toNatClampNeg 0) &&& (255 : Int32))) (hc12_1 : ¬ (v3_7 < (128 : Int32))) (hc31_2 : ¬ (v3_7 < (194 : Int32))) (hc40_3 : ¬ (v3_7 < (224 : Int32))) (hc53_7 : v3_7 < (240 : Int32)) (v5_74 : Int32) (ev5_74 : v5_74 = (if v3_7 = (224 : Int32) then (160 : Int32) else (128 : Int32))) (v6_91 : Int32) (ev6_91 : v6_91 = (if v3_7 = (237 : Int32) then (159 : Int32) else (191 : Int32))) (hc150_10 : (2 : Int32) < (p2 - p1)) (v7_164 : Int32) (ev7_164 : v7_164 = ((vs_u0.getD ((p1 + (1 : Int32))).toNatClampNeg 0) &&& (255 : Int32))) (hc170_11 : ¬ (v7_164 < v5_74)) (hc177_12 : ¬ (v6_91 < v7_164)) (v8_198 : Int32) (ev8_198 : v8_198 = (((v3_7 &&& ((63 : Int32) >>> ((2 : Int32) &&& 31))) <<< ((6 : Int32) &&& 31)) ||| (v7_164 &&& (63 : Int32)))) (v9_203 : Int32) (ev9_203 : v9_203 = (p1 + (2 : Int32))) (v10_222 : Int32) (ev10_222 : v10_222 = ((vs_u0.getD (v9_203).toNatClampNeg 0) &&& (255 : Int32))) (hc229_13 : ¬ (v10_222 < (128 : Int32))) (hc237_14 : ¬ ((191 : Int32) < v10_222)) (v8_253 : Int32) (ev8_253 : v8_253 = ((v8_198 <<< ((6 : Int32) &&& 31)) ||| (v10_222 &&& (63 : Int32)))) : (p1 + (2 : Int32)) < (v9_203 + (1 : Int32)) := by
  subst_vars
  simp only [Int32.lt_iff_toInt_lt, Int32.reduceToInt] at *
  have rp := rng32 p1
  have a1 := c_iadd p1 1
  have r1 := rng32 (p1 + 1)
  simp only [Int32.reduceToInt] at a1
  have e1 : (p1 + 1).toInt = p1.toInt + 1 := by omega
  clear a1 r1
  have a2 := c_iadd p1 2
  have r2 := rng32 (p1 + 2)
  simp only [Int32.reduceToInt] at a2
  have e2 : (p1 + 2).toInt = p1.toInt + 2 := by omega
  clear a2 r2
  have a3 := c_iadd p1 3
  have r3 := rng32 (p1 + 3)
  simp only [Int32.reduceToInt] at a3
  have e3 : (p1 + 3).toInt = p1.toInt + 3 := by omega
  clear a3 r3
  have a4 := c_iadd (p1 + 2) 1
  have r4 := rng32 ((p1 + 2) + 1)
  simp only [Int32.reduceToInt] at a4
  have e4 : (p1 + 2 + 1).toInt = p1.toInt + 3 := by omega
  clear a4 r4
  have a5 := c_iadd ((p1 + 2) + 1) 1
  have r5 := rng32 ((p1 + 2) + 1 + 1)
  simp only [Int32.reduceToInt] at a5
  have e5 : (p1 + 2 + 1 + 1).toInt = p1.toInt + 4 := by omega
  clear a5 r5
  have s := c_isub p2 p1
  have r6 := rng32 (p2 - p1)
  have e6 : (p2 - p1).toInt = p2.toInt - p1.toInt := by omega
  clear s r6
  omega
theorem own_ix2_159_3 (n_u0 : Int32) (vs_u0 : List Int32) (hl_u0 : vs_u0.length = n_u0.toNatClampNeg) (hn_u0 : ¬ n_u0 < 0) (p1 : Int32) (p2 : Int32) (hB : ¬ p1 < 0 ∧ p1 < n_u0) (hb2 : ¬ n_u0 < p2) (hb3 : ¬ p2 < 0) (hb4 : n_u0 < (100 : Int32)) (v3_7 : Int32) (ev3_7 : v3_7 = ((vs_u0.getD (p1).toNatClampNeg 0) &&& (255 : Int32))) (hc12_1 : ¬ (v3_7 < (128 : Int32))) (hc31_2 : ¬ (v3_7 < (194 : Int32))) (hc40_3 : ¬ (v3_7 < (224 : Int32))) (hc53_7 : ¬ (v3_7 < (240 : Int32))) (hc100_15 : v3_7 < (245 : Int32)) (v5_121 : Int32) (ev5_121 : v5_121 = (if v3_7 = (240 : Int32) then (144 : Int32) else (128 : Int32))) (v6_138 : Int32) (ev6_138 : v6_138 = (if v3_7 = (244 : Int32) then (143 : Int32) else (191 : Int32))) (hc150_18 : (3 : Int32) < (p2 - p1)) : ¬ (p1 + (1 : Int32)) < 0 ∧ (p1 + (1 : Int32)) < n_u0 := by
  subst_vars
  simp only [Int32.lt_iff_toInt_lt, Int32.reduceToInt] at *
  have rp := rng32 p1
  have a1 := c_iadd p1 1
  have r1 := rng32 (p1 + 1)
  simp only [Int32.reduceToInt] at a1
  have e1 : (p1 + 1).toInt = p1.toInt + 1 := by omega
  clear a1 r1
  have a2 := c_iadd p1 2
  have r2 := rng32 (p1 + 2)
  simp only [Int32.reduceToInt] at a2
  have e2 : (p1 + 2).toInt = p1.toInt + 2 := by omega
  clear a2 r2
  have a3 := c_iadd p1 3
  have r3 := rng32 (p1 + 3)
  simp only [Int32.reduceToInt] at a3
  have e3 : (p1 + 3).toInt = p1.toInt + 3 := by omega
  clear a3 r3
  have a4 := c_iadd (p1 + 2) 1
  have r4 := rng32 ((p1 + 2) + 1)
  simp only [Int32.reduceToInt] at a4
  have e4 : (p1 + 2 + 1).toInt = p1.toInt + 3 := by omega
  clear a4 r4
  have a5 := c_iadd ((p1 + 2) + 1) 1
  have r5 := rng32 ((p1 + 2) + 1 + 1)
  simp only [Int32.reduceToInt] at a5
  have e5 : (p1 + 2 + 1 + 1).toInt = p1.toInt + 4 := by omega
  clear a5 r5
  have s := c_isub p2 p1
  have r6 := rng32 (p2 - p1)
  have e6 : (p2 - p1).toInt = p2.toInt - p1.toInt := by omega
  clear s r6
  omega
theorem own_hc2_211_4 (n_u0 : Int32) (vs_u0 : List Int32) (hl_u0 : vs_u0.length = n_u0.toNatClampNeg) (hn_u0 : ¬ n_u0 < 0) (p1 : Int32) (p2 : Int32) (hB : ¬ p1 < 0 ∧ p1 < n_u0) (hb2 : ¬ n_u0 < p2) (hb3 : ¬ p2 < 0) (hb4 : n_u0 < (100 : Int32)) (v3_7 : Int32) (ev3_7 : v3_7 = ((vs_u0.getD (p1).toNatClampNeg 0) &&& (255 : Int32))) (hc12_1 : ¬ (v3_7 < (128 : Int32))) (hc31_2 : ¬ (v3_7 < (194 : Int32))) (hc40_3 : ¬ (v3_7 < (224 : Int32))) (hc53_7 : ¬ (v3_7 < (240 : Int32))) (hc100_15 : v3_7 < (245 : Int32)) (v5_121 : Int32) (ev5_121 : v5_121 = (if v3_7 = (240 : Int32) then (144 : Int32) else (128 : Int32))) (v6_138 : Int32) (ev6_138 : v6_138 = (if v3_7 = (244 : Int32) then (143 : Int32) else (191 : Int32))) (hc150_18 : (3 : Int32) < (p2 - p1)) (v7_164 : Int32) (ev7_164 : v7_164 = ((vs_u0.getD ((p1 + (1 : Int32))).toNatClampNeg 0) &&& (255 : Int32))) (hc170_19 : ¬ (v7_164 < v5_121)) (hc177_20 : ¬ (v6_138 < v7_164)) (v8_198 : Int32) (ev8_198 : v8_198 = (((v3_7 &&& ((63 : Int32) >>> ((3 : Int32) &&& 31))) <<< ((6 : Int32) &&& 31)) ||| (v7_164 &&& (63 : Int32)))) (v9_203 : Int32) (ev9_203 : v9_203 = (p1 + (2 : Int32))) : ¬ ((p1 + (3 : Int32)) < v9_203) := by
  subst_vars
  simp only [Int32.lt_iff_toInt_lt, Int32.reduceToInt] at *
  have rp := rng32 p1
  have a1 := c_iadd p1 1
  have r1 := rng32 (p1 + 1)
  simp only [Int32.reduceToInt] at a1
  have e1 : (p1 + 1).toInt = p1.toInt + 1 := by omega
  clear a1 r1
  have a2 := c_iadd p1 2
  have r2 := rng32 (p1 + 2)
  simp only [Int32.reduceToInt] at a2
  have e2 : (p1 + 2).toInt = p1.toInt + 2 := by omega
  clear a2 r2
  have a3 := c_iadd p1 3
  have r3 := rng32 (p1 + 3)
  simp only [Int32.reduceToInt] at a3
  have e3 : (p1 + 3).toInt = p1.toInt + 3 := by omega
  clear a3 r3
  have a4 := c_iadd (p1 + 2) 1
  have r4 := rng32 ((p1 + 2) + 1)
  simp only [Int32.reduceToInt] at a4
  have e4 : (p1 + 2 + 1).toInt = p1.toInt + 3 := by omega
  clear a4 r4
  have a5 := c_iadd ((p1 + 2) + 1) 1
  have r5 := rng32 ((p1 + 2) + 1 + 1)
  simp only [Int32.reduceToInt] at a5
  have e5 : (p1 + 2 + 1 + 1).toInt = p1.toInt + 4 := by omega
  clear a5 r5
  have s := c_isub p2 p1
  have r6 := rng32 (p2 - p1)
  have e6 : (p2 - p1).toInt = p2.toInt - p1.toInt := by omega
  clear s r6
  omega
theorem own_ix2_217_2 (n_u0 : Int32) (vs_u0 : List Int32) (hl_u0 : vs_u0.length = n_u0.toNatClampNeg) (hn_u0 : ¬ n_u0 < 0) (p1 : Int32) (p2 : Int32) (hB : ¬ p1 < 0 ∧ p1 < n_u0) (hb2 : ¬ n_u0 < p2) (hb3 : ¬ p2 < 0) (hb4 : n_u0 < (100 : Int32)) (v3_7 : Int32) (ev3_7 : v3_7 = ((vs_u0.getD (p1).toNatClampNeg 0) &&& (255 : Int32))) (hc12_1 : ¬ (v3_7 < (128 : Int32))) (hc31_2 : ¬ (v3_7 < (194 : Int32))) (hc40_3 : ¬ (v3_7 < (224 : Int32))) (hc53_7 : ¬ (v3_7 < (240 : Int32))) (hc100_15 : v3_7 < (245 : Int32)) (v5_121 : Int32) (ev5_121 : v5_121 = (if v3_7 = (240 : Int32) then (144 : Int32) else (128 : Int32))) (v6_138 : Int32) (ev6_138 : v6_138 = (if v3_7 = (244 : Int32) then (143 : Int32) else (191 : Int32))) (hc150_18 : (3 : Int32) < (p2 - p1)) (v7_164 : Int32) (ev7_164 : v7_164 = ((vs_u0.getD ((p1 + (1 : Int32))).toNatClampNeg 0) &&& (255 : Int32))) (hc170_19 : ¬ (v7_164 < v5_121)) (hc177_20 : ¬ (v6_138 < v7_164)) (v8_198 : Int32) (ev8_198 : v8_198 = (((v3_7 &&& ((63 : Int32) >>> ((3 : Int32) &&& 31))) <<< ((6 : Int32) &&& 31)) ||| (v7_164 &&& (63 : Int32)))) (v9_203 : Int32) (ev9_203 : v9_203 = (p1 + (2 : Int32))) : ¬ v9_203 < 0 ∧ v9_203 < n_u0 := by
  subst_vars
  simp only [Int32.lt_iff_toInt_lt, Int32.reduceToInt] at *
  have rp := rng32 p1
  have a1 := c_iadd p1 1
  have r1 := rng32 (p1 + 1)
  simp only [Int32.reduceToInt] at a1
  have e1 : (p1 + 1).toInt = p1.toInt + 1 := by omega
  clear a1 r1
  have a2 := c_iadd p1 2
  have r2 := rng32 (p1 + 2)
  simp only [Int32.reduceToInt] at a2
  have e2 : (p1 + 2).toInt = p1.toInt + 2 := by omega
  clear a2 r2
  have a3 := c_iadd p1 3
  have r3 := rng32 (p1 + 3)
  simp only [Int32.reduceToInt] at a3
  have e3 : (p1 + 3).toInt = p1.toInt + 3 := by omega
  clear a3 r3
  have a4 := c_iadd (p1 + 2) 1
  have r4 := rng32 ((p1 + 2) + 1)
  simp only [Int32.reduceToInt] at a4
  have e4 : (p1 + 2 + 1).toInt = p1.toInt + 3 := by omega
  clear a4 r4
  have a5 := c_iadd ((p1 + 2) + 1) 1
  have r5 := rng32 ((p1 + 2) + 1 + 1)
  simp only [Int32.reduceToInt] at a5
  have e5 : (p1 + 2 + 1 + 1).toInt = p1.toInt + 4 := by omega
  clear a5 r5
  have s := c_isub p2 p1
  have r6 := rng32 (p2 - p1)
  have e6 : (p2 - p1).toInt = p2.toInt - p1.toInt := by omega
  clear s r6
  omega
theorem own_hc2_211_5 (n_u0 : Int32) (vs_u0 : List Int32) (hl_u0 : vs_u0.length = n_u0.toNatClampNeg) (hn_u0 : ¬ n_u0 < 0) (p1 : Int32) (p2 : Int32) (hB : ¬ p1 < 0 ∧ p1 < n_u0) (hb2 : ¬ n_u0 < p2) (hb3 : ¬ p2 < 0) (hb4 : n_u0 < (100 : Int32)) (v3_7 : Int32) (ev3_7 : v3_7 = ((vs_u0.getD (p1).toNatClampNeg 0) &&& (255 : Int32))) (hc12_1 : ¬ (v3_7 < (128 : Int32))) (hc31_2 : ¬ (v3_7 < (194 : Int32))) (hc40_3 : ¬ (v3_7 < (224 : Int32))) (hc53_7 : ¬ (v3_7 < (240 : Int32))) (hc100_15 : v3_7 < (245 : Int32)) (v5_121 : Int32) (ev5_121 : v5_121 = (if v3_7 = (240 : Int32) then (144 : Int32) else (128 : Int32))) (v6_138 : Int32) (ev6_138 : v6_138 = (if v3_7 = (244 : Int32) then (143 : Int32) else (191 : Int32))) (hc150_18 : (3 : Int32) < (p2 - p1)) (v7_164 : Int32) (ev7_164 : v7_164 = ((vs_u0.getD ((p1 + (1 : Int32))).toNatClampNeg 0) &&& (255 : Int32))) (hc170_19 : ¬ (v7_164 < v5_121)) (hc177_20 : ¬ (v6_138 < v7_164)) (v8_198 : Int32) (ev8_198 : v8_198 = (((v3_7 &&& ((63 : Int32) >>> ((3 : Int32) &&& 31))) <<< ((6 : Int32) &&& 31)) ||| (v7_164 &&& (63 : Int32)))) (v9_203 : Int32) (ev9_203 : v9_203 = (p1 + (2 : Int32))) (v10_222 : Int32) (ev10_222 : v10_222 = ((vs_u0.getD (v9_203).toNatClampNeg 0) &&& (255 : Int32))) (hc229_21 : ¬ (v10_222 < (128 : Int32))) (hc237_22 : ¬ ((191 : Int32) < v10_222)) (v8_253 : Int32) (ev8_253 : v8_253 = ((v8_198 <<< ((6 : Int32) &&& 31)) ||| (v10_222 &&& (63 : Int32)))) : ¬ ((p1 + (3 : Int32)) < (v9_203 + (1 : Int32))) := by
  subst_vars
  simp only [Int32.lt_iff_toInt_lt, Int32.reduceToInt] at *
  have rp := rng32 p1
  have a1 := c_iadd p1 1
  have r1 := rng32 (p1 + 1)
  simp only [Int32.reduceToInt] at a1
  have e1 : (p1 + 1).toInt = p1.toInt + 1 := by omega
  clear a1 r1
  have a2 := c_iadd p1 2
  have r2 := rng32 (p1 + 2)
  simp only [Int32.reduceToInt] at a2
  have e2 : (p1 + 2).toInt = p1.toInt + 2 := by omega
  clear a2 r2
  have a3 := c_iadd p1 3
  have r3 := rng32 (p1 + 3)
  simp only [Int32.reduceToInt] at a3
  have e3 : (p1 + 3).toInt = p1.toInt + 3 := by omega
  clear a3 r3
  have a4 := c_iadd (p1 + 2) 1
  have r4 := rng32 ((p1 + 2) + 1)
  simp only [Int32.reduceToInt] at a4
  have e4 : (p1 + 2 + 1).toInt = p1.toInt + 3 := by omega
  clear a4 r4
  have a5 := c_iadd ((p1 + 2) + 1) 1
  have r5 := rng32 ((p1 + 2) + 1 + 1)
  simp only [Int32.reduceToInt] at a5
  have e5 : (p1 + 2 + 1 + 1).toInt = p1.toInt + 4 := by omega
  clear a5 r5
  have s := c_isub p2 p1
  have r6 := rng32 (p2 - p1)
  have e6 : (p2 - p1).toInt = p2.toInt - p1.toInt := by omega
  clear s r6
  omega
theorem own_ix2_217_3 (n_u0 : Int32) (vs_u0 : List Int32) (hl_u0 : vs_u0.length = n_u0.toNatClampNeg) (hn_u0 : ¬ n_u0 < 0) (p1 : Int32) (p2 : Int32) (hB : ¬ p1 < 0 ∧ p1 < n_u0) (hb2 : ¬ n_u0 < p2) (hb3 : ¬ p2 < 0) (hb4 : n_u0 < (100 : Int32)) (v3_7 : Int32) (ev3_7 : v3_7 = ((vs_u0.getD (p1).toNatClampNeg 0) &&& (255 : Int32))) (hc12_1 : ¬ (v3_7 < (128 : Int32))) (hc31_2 : ¬ (v3_7 < (194 : Int32))) (hc40_3 : ¬ (v3_7 < (224 : Int32))) (hc53_7 : ¬ (v3_7 < (240 : Int32))) (hc100_15 : v3_7 < (245 : Int32)) (v5_121 : Int32) (ev5_121 : v5_121 = (if v3_7 = (240 : Int32) then (144 : Int32) else (128 : Int32))) (v6_138 : Int32) (ev6_138 : v6_138 = (if v3_7 = (244 : Int32) then (143 : Int32) else (191 : Int32))) (hc150_18 : (3 : Int32) < (p2 - p1)) (v7_164 : Int32) (ev7_164 : v7_164 = ((vs_u0.getD ((p1 + (1 : Int32))).toNatClampNeg 0) &&& (255 : Int32))) (hc170_19 : ¬ (v7_164 < v5_121)) (hc177_20 : ¬ (v6_138 < v7_164)) (v8_198 : Int32) (ev8_198 : v8_198 = (((v3_7 &&& ((63 : Int32) >>> ((3 : Int32) &&& 31))) <<< ((6 : Int32) &&& 31)) ||| (v7_164 &&& (63 : Int32)))) (v9_203 : Int32) (ev9_203 : v9_203 = (p1 + (2 : Int32))) (v10_222 : Int32) (ev10_222 : v10_222 = ((vs_u0.getD (v9_203).toNatClampNeg 0) &&& (255 : Int32))) (hc229_21 : ¬ (v10_222 < (128 : Int32))) (hc237_22 : ¬ ((191 : Int32) < v10_222)) (v8_253 : Int32) (ev8_253 : v8_253 = ((v8_198 <<< ((6 : Int32) &&& 31)) ||| (v10_222 &&& (63 : Int32)))) : ¬ (v9_203 + (1 : Int32)) < 0 ∧ (v9_203 + (1 : Int32)) < n_u0 := by
  subst_vars
  simp only [Int32.lt_iff_toInt_lt, Int32.reduceToInt] at *
  have rp := rng32 p1
  have a1 := c_iadd p1 1
  have r1 := rng32 (p1 + 1)
  simp only [Int32.reduceToInt] at a1
  have e1 : (p1 + 1).toInt = p1.toInt + 1 := by omega
  clear a1 r1
  have a2 := c_iadd p1 2
  have r2 := rng32 (p1 + 2)
  simp only [Int32.reduceToInt] at a2
  have e2 : (p1 + 2).toInt = p1.toInt + 2 := by omega
  clear a2 r2
  have a3 := c_iadd p1 3
  have r3 := rng32 (p1 + 3)
  simp only [Int32.reduceToInt] at a3
  have e3 : (p1 + 3).toInt = p1.toInt + 3 := by omega
  clear a3 r3
  have a4 := c_iadd (p1 + 2) 1
  have r4 := rng32 ((p1 + 2) + 1)
  simp only [Int32.reduceToInt] at a4
  have e4 : (p1 + 2 + 1).toInt = p1.toInt + 3 := by omega
  clear a4 r4
  have a5 := c_iadd ((p1 + 2) + 1) 1
  have r5 := rng32 ((p1 + 2) + 1 + 1)
  simp only [Int32.reduceToInt] at a5
  have e5 : (p1 + 2 + 1 + 1).toInt = p1.toInt + 4 := by omega
  clear a5 r5
  have s := c_isub p2 p1
  have r6 := rng32 (p2 - p1)
  have e6 : (p2 - p1).toInt = p2.toInt - p1.toInt := by omega
  clear s r6
  omega
theorem own_hc2_211_6 (n_u0 : Int32) (vs_u0 : List Int32) (hl_u0 : vs_u0.length = n_u0.toNatClampNeg) (hn_u0 : ¬ n_u0 < 0) (p1 : Int32) (p2 : Int32) (hB : ¬ p1 < 0 ∧ p1 < n_u0) (hb2 : ¬ n_u0 < p2) (hb3 : ¬ p2 < 0) (hb4 : n_u0 < (100 : Int32)) (v3_7 : Int32) (ev3_7 : v3_7 = ((vs_u0.getD (p1).toNatClampNeg 0) &&& (255 : Int32))) (hc12_1 : ¬ (v3_7 < (128 : Int32))) (hc31_2 : ¬ (v3_7 < (194 : Int32))) (hc40_3 : ¬ (v3_7 < (224 : Int32))) (hc53_7 : ¬ (v3_7 < (240 : Int32))) (hc100_15 : v3_7 < (245 : Int32)) (v5_121 : Int32) (ev5_121 : v5_121 = (if v3_7 = (240 : Int32) then (144 : Int32) else (128 : Int32))) (v6_138 : Int32) (ev6_138 : v6_138 = (if v3_7 = (244 : Int32) then (143 : Int32) else (191 : Int32))) (hc150_18 : (3 : Int32) < (p2 - p1)) (v7_164 : Int32) (ev7_164 : v7_164 = ((vs_u0.getD ((p1 + (1 : Int32))).toNatClampNeg 0) &&& (255 : Int32))) (hc170_19 : ¬ (v7_164 < v5_121)) (hc177_20 : ¬ (v6_138 < v7_164)) (v8_198 : Int32) (ev8_198 : v8_198 = (((v3_7 &&& ((63 : Int32) >>> ((3 : Int32) &&& 31))) <<< ((6 : Int32) &&& 31)) ||| (v7_164 &&& (63 : Int32)))) (v9_203 : Int32) (ev9_203 : v9_203 = (p1 + (2 : Int32))) (v10_222 : Int32) (ev10_222 : v10_222 = ((vs_u0.getD (v9_203).toNatClampNeg 0) &&& (255 : Int32))) (hc229_21 : ¬ (v10_222 < (128 : Int32))) (hc237_22 : ¬ ((191 : Int32) < v10_222)) (v8_253 : Int32) (ev8_253 : v8_253 = ((v8_198 <<< ((6 : Int32) &&& 31)) ||| (v10_222 &&& (63 : Int32)))) (v10_222_2 : Int32) (ev10_222_2 : v10_222_2 = ((vs_u0.getD ((v9_203 + (1 : Int32))).toNatClampNeg 0) &&& (255 : Int32))) (hc229_23 : ¬ (v10_222_2 < (128 : Int32))) (hc237_24 : ¬ ((191 : Int32) < v10_222_2)) (v8_253_2 : Int32) (ev8_253_2 : v8_253_2 = ((v8_253 <<< ((6 : Int32) &&& 31)) ||| (v10_222_2 &&& (63 : Int32)))) : (p1 + (3 : Int32)) < ((v9_203 + (1 : Int32)) + (1 : Int32)) := by
  subst_vars
  simp only [Int32.lt_iff_toInt_lt, Int32.reduceToInt] at *
  have rp := rng32 p1
  have a1 := c_iadd p1 1
  have r1 := rng32 (p1 + 1)
  simp only [Int32.reduceToInt] at a1
  have e1 : (p1 + 1).toInt = p1.toInt + 1 := by omega
  clear a1 r1
  have a2 := c_iadd p1 2
  have r2 := rng32 (p1 + 2)
  simp only [Int32.reduceToInt] at a2
  have e2 : (p1 + 2).toInt = p1.toInt + 2 := by omega
  clear a2 r2
  have a3 := c_iadd p1 3
  have r3 := rng32 (p1 + 3)
  simp only [Int32.reduceToInt] at a3
  have e3 : (p1 + 3).toInt = p1.toInt + 3 := by omega
  clear a3 r3
  have a4 := c_iadd (p1 + 2) 1
  have r4 := rng32 ((p1 + 2) + 1)
  simp only [Int32.reduceToInt] at a4
  have e4 : (p1 + 2 + 1).toInt = p1.toInt + 3 := by omega
  clear a4 r4
  have a5 := c_iadd ((p1 + 2) + 1) 1
  have r5 := rng32 ((p1 + 2) + 1 + 1)
  simp only [Int32.reduceToInt] at a5
  have e5 : (p1 + 2 + 1 + 1).toInt = p1.toInt + 4 := by omega
  clear a5 r5
  have s := c_isub p2 p1
  have r6 := rng32 (p2 - p1)
  have e6 : (p2 - p1).toInt = p2.toInt - p1.toInt := by omega
  clear s r6
  omega
def Q2 (Z : State) (u0 : Addr) (p1 : Int32) (p2 : Int32) (k_u0 : ClassId) (n_u0 : Int32) (vs_u0 : List Int32) (h0 : Heap) (n0 : Nat) (v : Option Value) (h : Heap) (L : List Loc) : Prop := v = some (.int (f2 n_u0 vs_u0 p1 p2)) ∧ Fr n0 L ∧ h = h0
set_option maxRecDepth 65536 in
set_option maxHeartbeats 40000000 in
theorem rm2 (l : Launch) (Z : State) (a0 : Array Value) (hw : ∀ d ∈ tables_1, d.before a0 Z = true) (ws : List Jvm.Cond) (u0 : Addr) (p1 : Int32) (p2 : Int32) (k_u0 : ClassId) (n_u0 : Int32) (vs_u0 : List Int32) (h0 : Heap) (n0 : Nat) (Z0 : n0 ≤ h0.size) (V_u0 : AI Z h0 u0 k_u0 .byte n_u0 vs_u0) (hB : ¬ p1 < 0 ∧ p1 < n_u0) (hb2 : ¬ n_u0 < p2) (hb3 : ¬ p2 < 0) (hb4 : n_u0 < (100 : Int32)) :
    MetFree l (⟨"com/example/leaderline/leaderline/Utf8", "decode", "([BII)I"⟩ : MethodName) (head1 (Jvm.Cond.code (⟨"com/example/leaderline/leaderline/Utf8", "decode", "([BII)I"⟩ : MethodName) prog_31_method_3_code 11 (some .int) :: ws) ({ frames := 0, cells := 0, slots := 0, locals := 0 } : Room)) (fun a U => a = #[(.ref u0), (.int p1), (.int p2)] ∧ Z.Warmed39 U.vm ∧ U.heap = h0) (fun _ _ _ _ _ => True) (fun _ U o U' => ∃ v L, o = .returned v ∧ Q2 Z u0 p1 p2 k_u0 n_u0 vs_u0 h0 n0 v U'.heap L ∧ FrameEnd U o U' L ({ frames := 0, cells := 0, slots := 0, locals := 0 } : Room).cells ({ frames := 0, cells := 0, slots := 0, locals := 0 } : Room).slots) := by
  refine MetFree.of_bodySF (plainFor_of_name pn0) hisR ?_
  intro p e s m args below meth c s₁ Bd hml0 hP hK
  obtain ⟨rfl, hZ, hh⟩ := hP
  have hx := Bd.exec
  have hby := Bd.bytes
  have hml : c.maxLocals = 11 := hml0
  have hown : s.vm.findClass "com/example/leaderline/leaderline/Utf8" = some m.cls := findClass_of_methodNamed Bd.named
  have hnm := (name_of_methodNamed Bd.named Bd.method).1
  have X0 : Stand p l e ({ frames := 0, cells := 0, slots := 0, locals := 0 } : Room) s m #[(.ref u0), (.int p1), (.int p2)] below meth c s₁ [] 0 0 := Stand.of_body Bd
  have e0 : s₁.heap = h0 := by rw [← hh, Bd.state]; rfl
  have N0 := Fr.nil n0
  have hl_u0 : vs_u0.length = n_u0.toNatClampNeg := V_u0.2
  have hn_u0 : ¬ n_u0 < 0 := V_u0.nn
  refine Goes.out (Q := fun o U' => ∃ v L, o = .returned v ∧ Q2 Z u0 p1 p2 k_u0 n_u0 vs_u0 h0 n0 v U'.heap L ∧ FrameEnd s o U' L ({ frames := 0, cells := 0, slots := 0, locals := 0 } : Room).cells ({ frames := 0, cells := 0, slots := 0, locals := 0 } : Room).slots) ?_
  refine Goes.step (S' := s₁.setTop (mkF m 0 #[.val (.ref u0), .val (.int p1), .val (.int p2), .unset, .unset, .unset, .unset, .unset, .unset, .unset, .unset] [])) (fun _ k => castTop (ef2 m u0 p1 p2) k) ?_
  refine Goes.step (S' := s₁.setTop (mkF m 1 #[.val (.ref u0), .val (.int p1), .val (.int p2), .unset, .unset, .unset, .unset, .unset, .unset, .unset, .unset] [(.ref u0)])) (fun _ k => XS.aloadN X0.here hx rfl (hb hby d2_0) rfl rfl k) ?_
  refine Goes.step (S' := s₁.setTop (mkF m 2 #[.val (.ref u0), .val (.int p1), .val (.int p2), .unset, .unset, .unset, .unset, .unset, .unset, .unset, .unset] [(.int p1), (.ref u0)])) (fun _ k => XS.iloadN X0.here hx rfl (hb hby d2_1) rfl  k) ?_
  refine Goes.step (S' := s₁.setTop (mkF m 3 #[.val (.ref u0), .val (.int p1), .val (.int p2), .unset, .unset, .unset, .unset, .unset, .unset, .unset, .unset] [(.int (vs_u0.getD (p1).toNatClampNeg 0))])) (fun _ k => own_baload X0 hx hZ e0 V_u0 (own_ix2_2 n_u0 vs_u0 hl_u0 hn_u0 p1 p2 hB hb2 hb3 hb4) (hb hby d2_2) _ k) ?_
  refine Goes.step (S' := s₁.setTop (mkF m 6 #[.val (.ref u0), .val (.int p1), .val (.int p2), .unset, .unset, .unset, .unset, .unset, .unset, .unset, .unset] [(.int (255 : Int32)), (.int (vs_u0.getD (p1).toNatClampNeg 0))])) (fun _ k => XS.sipush X0.here hx rfl (hb hby d2_3) k) ?_
  refine Goes.step (S' := s₁.setTop (mkF m 7 #[.val (.ref u0), .val (.int p1), .val (.int p2), .unset, .unset, .unset, .unset, .unset, .unset, .unset, .unset] [(.int ((vs_u0.getD (p1).toNatClampNeg 0) &&& (255 : Int32)))])) (fun _ k => XS.iand X0.here hx rfl (hb hby d2_6) rfl k) ?_
  refine Goes.step (S' := s₁.setTop (mkF m 8 #[.val (.ref u0), .val (.int p1), .val (.int p2), .val (.int ((vs_u0.getD (p1).toNatClampNeg 0) &&& (255 : Int32))), .unset, .unset, .unset, .unset, .unset, .unset, .unset] [])) (fun _ k => XS.istoreN X0.here hx rfl (hb hby d2_7) rfl (l' := #[.val (.ref u0), .val (.int p1), .val (.int p2), .val (.int ((vs_u0.getD (p1).toNatClampNeg 0) &&& (255 : Int32))), .unset, .unset, .unset, .unset, .unset, .unset, .unset]) rfl k) ?_
  obtain ⟨v3_7, ev3_7⟩ : ∃ z : Int32, z = ((vs_u0.getD (p1).toNatClampNeg 0) &&& (255 : Int32)) := ⟨_, rfl⟩
  rw [← ev3_7]
  refine Goes.step (S' := s₁.setTop (mkF m 9 #[.val (.ref u0), .val (.int p1), .val (.int p2), .val (.int v3_7), .unset, .unset, .unset, .unset, .unset, .unset, .unset] [(.int v3_7)])) (fun _ k => XS.iloadN X0.here hx rfl (hb hby d2_8) rfl  k) ?_
  refine Goes.step (S' := s₁.setTop (mkF m 12 #[.val (.ref u0), .val (.int p1), .val (.int p2), .val (.int v3_7), .unset, .unset, .unset, .unset, .unset, .unset, .unset] [(.int (128 : Int32)), (.int v3_7)])) (fun _ k => XS.sipush X0.here hx rfl (hb hby d2_9) k) ?_
  by_cases hc12_1 : v3_7 < (128 : Int32)
  · refine Goes.step (S' := s₁.setTop (mkF m 15 #[.val (.ref u0), .val (.int p1), .val (.int p2), .val (.int v3_7), .unset, .unset, .unset, .unset, .unset, .unset, .unset] [])) (fun _ k => XS.icmpNo X0.here hx rfl (hb hby d2_12) rfl (tlt hc12_1).2.1 k) ?_
    refine Goes.step (S' := s₁.setTop (mkF m 16 #[.val (.ref u0), .val (.int p1), .val (.int p2), .val (.int v3_7), .unset, .unset, .unset, .unset, .unset, .unset, .unset] [(.int v3_7)])) (fun _ k => XS.iloadN X0.here hx rfl (hb hby d2_15) rfl  k) ?_
    subst ev3_7
    refine Goes.retI X0 hx Bd.notSynchronized Bd.returns (hb hby d2_16) (by decide) (by decide) ?_
    refine ⟨congrArg (fun z => some (Value.int z)) ?_, N0, e0⟩
    rw [f2, if_pos hc12_1]
    try rfl
  · refine Goes.step (S' := s₁.setTop (mkF m 17 #[.val (.ref u0), .val (.int p1), .val (.int p2), .val (.int v3_7), .unset, .unset, .unset, .unset, .unset, .unset, .unset] [])) (fun _ k => XS.icmpYes X0.here hx rfl (pc0 := 12) (pc' := 17) rfl (hb hby d2_12) rfl (flt hc12_1).2.1 (by decide) (by decide) k) ?_
    refine Goes.step (S' := s₁.setTop (mkF m 20 #[.val (.ref u0), .val (.int p1), .val (.int p2), .val (.int v3_7), .unset, .unset, .unset, .unset, .unset, .unset, .unset] [(.int (128 : Int32))])) (fun _ k => XS.sipush X0.here hx rfl (hb hby d2_17) k) ?_
    refine Goes.step (S' := s₁.setTop (mkF m 22 #[.val (.ref u0), .val (.int p1), .val (.int p2), .val (.int v3_7), .unset, .val (.int (128 : Int32)), .unset, .unset, .unset, .unset, .unset] [])) (fun _ k => XS.istore X0.here hx rfl (hb hby d2_20) rfl (l' := #[.val (.ref u0), .val (.int p1), .val (.int p2), .val (.int v3_7), .unset, .val (.int (128 : Int32)), .unset, .unset, .unset, .unset, .unset]) rfl k) ?_
    refine Goes.step (S' := s₁.setTop (mkF m 25 #[.val (.ref u0), .val (.int p1), .val (.int p2), .val (.int v3_7), .unset, .val (.int (128 : Int32)), .unset, .unset, .unset, .unset, .unset] [(.int (191 : Int32))])) (fun _ k => XS.sipush X0.here hx rfl (hb hby d2_22) k) ?_
    refine Goes.step (S' := s₁.setTop (mkF m 27 #[.val (.ref u0), .val (.int p1), .val (.int p2), .val (.int v3_7), .unset, .val (.int (128 : Int32)), .val (.int (191 : Int32)), .unset, .unset, .unset, .unset] [])) (fun _ k => XS.istore X0.here hx rfl (hb hby d2_25) rfl (l' := #[.val (.ref u0), .val (.int p1), .val (.int p2), .val (.int v3_7), .unset, .val (.int (128 : Int32)), .val (.int (191 : Int32)), .unset, .unset, .unset, .unset]) rfl k) ?_
    refine Goes.step (S' := s₁.setTop (mkF m 28 #[.val (.ref u0), .val (.int p1), .val (.int p2), .val (.int v3_7), .unset, .val (.int (128 : Int32)), .val (.int (191 : Int32)), .unset, .unset, .unset, .unset] [(.int v3_7)])) (fun _ k => XS.iloadN X0.here hx rfl (hb hby d2_27) rfl  k) ?_
    refine Goes.step (S' := s₁.setTop (mkF m 31 #[.val (.ref u0), .val (.int p1), .val (.int p2), .val (.int v3_7), .unset, .val (.int (128 : Int32)), .val (.int (191 : Int32)), .unset, .unset, .unset, .unset] [(.int (194 : Int32)), (.int v3_7)])) (fun _ k => XS.sipush X0.here hx rfl (hb hby d2_28) k) ?_
    by_cases hc31_2 : v3_7 < (194 : Int32)
    · refine Goes.step (S' := s₁.setTop (mkF m 34 #[.val (.ref u0), .val (.int p1), .val (.int p2), .val (.int v3_7), .unset, .val (.int (128 : Int32)), .val (.int (191 : Int32)), .unset, .unset, .unset, .unset] [])) (fun _ k => XS.icmpNo X0.here hx rfl (hb hby d2_31) rfl (tlt hc31_2).2.1 k) ?_
      refine Goes.step (S' := s₁.setTop (mkF m 35 #[.val (.ref u0), .val (.int p1), .val (.int p2), .val (.int v3_7), .unset, .val (.int (128 : Int32)), .val (.int (191 : Int32)), .unset, .unset, .unset, .unset] [(.int (-1 : Int32))])) (fun _ k => XS.iconst X0.here hx rfl (hb hby d2_34) k) ?_
      subst ev3_7
      refine Goes.retI X0 hx Bd.notSynchronized Bd.returns (hb hby d2_35) (by decide) (by decide) ?_
      refine ⟨congrArg (fun z => some (Value.int z)) ?_, N0, e0⟩
      rw [f2, if_neg hc12_1, if_pos hc31_2]
      try rfl
    · refine Goes.step (S' := s₁.setTop (mkF m 36 #[.val (.ref u0), .val (.int p1), .val (.int p2), .val (.int v3_7), .unset, .val (.int (128 : Int32)), .val (.int (191 : Int32)), .unset, .unset, .unset, .unset] [])) (fun _ k => XS.icmpYes X0.here hx rfl (pc0 := 31) (pc' := 36) rfl (hb hby d2_31) rfl (flt hc31_2).2.1 (by decide) (by decide) k) ?_
      refine Goes.step (S' := s₁.setTop (mkF m 37 #[.val (.ref u0), .val (.int p1), .val (.int p2), .val (.int v3_7), .unset, .val (.int (128 : Int32)), .val (.int (191 : Int32)), .unset, .unset, .unset, .unset] [(.int v3_7)])) (fun _ k => XS.iloadN X0.here hx rfl (hb hby d2_36) rfl  k) ?_
      refine Goes.step (S' := s₁.setTop (mkF m 40 #[.val (.ref u0), .val (.int p1), .val (.int p2), .val (.int v3_7), .unset, .val (.int (128 : Int32)), .val (.int (191 : Int32)), .unset, .unset, .unset, .unset] [(.int (224 : Int32)), (.int v3_7)])) (fun _ k => XS.sipush X0.here hx rfl (hb hby d2_37) k) ?_
      by_cases hc40_3 : v3_7 < (224 : Int32)
      · refine Goes.step (S' := s₁.setTop (mkF m 43 #[.val (.ref u0), .val (.int p1), .val (.int p2), .val (.int v3_7), .unset, .val (.int (128 : Int32)), .val (.int (191 : Int32)), .unset, .unset, .unset, .unset] [])) (fun _ k => XS.icmpNo X0.here hx rfl (hb hby d2_40) rfl (tlt hc40_3).2.1 k) ?_
        refine Goes.step (S' := s₁.setTop (mkF m 44 #[.val (.ref u0), .val (.int p1), .val (.int p2), .val (.int v3_7), .unset, .val (.int (128 : Int32)), .val (.int (191 : Int32)), .unset, .unset, .unset, .unset] [(.int (1 : Int32))])) (fun _ k => XS.iconst X0.here hx rfl (hb hby d2_43) k) ?_
        refine Goes.step (S' := s₁.setTop (mkF m 46 #[.val (.ref u0), .val (.int p1), .val (.int p2), .val (.int v3_7), .val (.int (1 : Int32)), .val (.int (128 : Int32)), .val (.int (191 : Int32)), .unset, .unset, .unset, .unset] [])) (fun _ k => XS.istore X0.here hx rfl (hb hby d2_44) rfl (l' := #[.val (.ref u0), .val (.int p1), .val (.int p2), .val (.int v3_7), .val (.int (1 : Int32)), .val (.int (128 : Int32)), .val (.int (191 : Int32)), .unset, .unset, .unset, .unset]) rfl k) ?_
        refine Goes.step (S' := s₁.setTop (mkF m 145 #[.val (.ref u0), .val (.int p1), .val (.int p2), .val (.int v3_7), .val (.int (1 : Int32)), .val (.int (128 : Int32)), .val (.int (191 : Int32)), .unset, .unset, .unset, .unset] [])) (fun _ k => XS.goto X0.here hx rfl (pc0 := 46) (pc' := 145) rfl (hb hby d2_46) (by decide) (by decide) k) ?_
        refine Goes.step (S' := s₁.setTop (mkF m 146 #[.val (.ref u0), .val (.int p1), .val (.int p2), .val (.int v3_7), .val (.int (1 : Int32)), .val (.int (128 : Int32)), .val (.int (191 : Int32)), .unset, .unset, .unset, .unset] [(.int p2)])) (fun _ k => XS.iloadN X0.here hx rfl (hb hby d2_145) rfl  k) ?_
        refine Goes.step (S' := s₁.setTop (mkF m 147 #[.val (.ref u0), .val (.int p1), .val (.int p2), .val (.int v3_7), .val (.int (1 : Int32)), .val (.int (128 : Int32)), .val (.int (191 : Int32)), .unset, .unset, .unset, .unset] [(.int p1), (.int p2)])) (fun _ k => XS.iloadN X0.here hx rfl (hb hby d2_146) rfl  k) ?_
        refine Goes.step (S' := s₁.setTop (mkF m 148 #[.val (.ref u0), .val (.int p1), .val (.int p2), .val (.int v3_7), .val (.int (1 : Int32)), .val (.int (128 : Int32)), .val (.int (191 : Int32)), .unset, .unset, .unset, .unset] [(.int (p2 - p1))])) (fun _ k => XS.isub X0.here hx rfl (hb hby d2_147) rfl k) ?_
        refine Goes.step (S' := s₁.setTop (mkF m 150 #[.val (.ref u0), .val (.int p1), .val (.int p2), .val (.int v3_7), .val (.int (1 : Int32)), .val (.int (128 : Int32)), .val (.int (191 : Int32)), .unset, .unset, .unset, .unset] [(.int (1 : Int32)), (.int (p2 - p1))])) (fun _ k => XS.iload X0.here hx rfl (hb hby d2_148) rfl  k) ?_
        by_cases hc150_4 : (1 : Int32) < (p2 - p1)
        · refine Goes.step (S' := s₁.setTop (mkF m 155 #[.val (.ref u0), .val (.int p1), .val (.int p2), .val (.int v3_7), .val (.int (1 : Int32)), .val (.int (128 : Int32)), .val (.int (191 : Int32)), .unset, .unset, .unset, .unset] [])) (fun _ k => XS.icmpYes X0.here hx rfl (pc0 := 150) (pc' := 155) rfl (hb hby d2_150) rfl (tlt hc150_4).2.2.1 (by decide) (by decide) k) ?_
          refine Goes.step (S' := s₁.setTop (mkF m 156 #[.val (.ref u0), .val (.int p1), .val (.int p2), .val (.int v3_7), .val (.int (1 : Int32)), .val (.int (128 : Int32)), .val (.int (191 : Int32)), .unset, .unset, .unset, .unset] [(.ref u0)])) (fun _ k => XS.aloadN X0.here hx rfl (hb hby d2_155) rfl rfl k) ?_
          refine Goes.step (S' := s₁.setTop (mkF m 157 #[.val (.ref u0), .val (.int p1), .val (.int p2), .val (.int v3_7), .val (.int (1 : Int32)), .val (.int (128 : Int32)), .val (.int (191 : Int32)), .unset, .unset, .unset, .unset] [(.int p1), (.ref u0)])) (fun _ k => XS.iloadN X0.here hx rfl (hb hby d2_156) rfl  k) ?_
          refine Goes.step (S' := s₁.setTop (mkF m 158 #[.val (.ref u0), .val (.int p1), .val (.int p2), .val (.int v3_7), .val (.int (1 : Int32)), .val (.int (128 : Int32)), .val (.int (191 : Int32)), .unset, .unset, .unset, .unset] [(.int (1 : Int32)), (.int p1), (.ref u0)])) (fun _ k => XS.iconst X0.here hx rfl (hb hby d2_157) k) ?_
          refine Goes.step (S' := s₁.setTop (mkF m 159 #[.val (.ref u0), .val (.int p1), .val (.int p2), .val (.int v3_7), .val (.int (1 : Int32)), .val (.int (128 : Int32)), .val (.int (191 : Int32)), .unset, .unset, .unset, .unset] [(.int (p1 + (1 : Int32))), (.ref u0)])) (fun _ k => XS.iadd X0.here hx rfl (hb hby d2_158) rfl k) ?_
          refine Goes.step (S' := s₁.setTop (mkF m 160 #[.val (.ref u0), .val (.int p1), .val (.int p2), .val (.int v3_7), .val (.int (1 : Int32)), .val (.int (128 : Int32)), .val (.int (191 : Int32)), .unset, .unset, .unset, .unset] [(.int (vs_u0.getD ((p1 + (1 : Int32))).toNatClampNeg 0))])) (fun _ k => own_baload X0 hx hZ e0 V_u0 (own_ix2_159 n_u0 vs_u0 hl_u0 hn_u0 p1 p2 hB hb2 hb3 hb4 v3_7 ev3_7 hc12_1 hc31_2 hc40_3 hc150_4) (hb hby d2_159) _ k) ?_
          refine Goes.step (S' := s₁.setTop (mkF m 163 #[.val (.ref u0), .val (.int p1), .val (.int p2), .val (.int v3_7), .val (.int (1 : Int32)), .val (.int (128 : Int32)), .val (.int (191 : Int32)), .unset, .unset, .unset, .unset] [(.int (255 : Int32)), (.int (vs_u0.getD ((p1 + (1 : Int32))).toNatClampNeg 0))])) (fun _ k => XS.sipush X0.here hx rfl (hb hby d2_160) k) ?_
          refine Goes.step (S' := s₁.setTop (mkF m 164 #[.val (.ref u0), .val (.int p1), .val (.int p2), .val (.int v3_7), .val (.int (1 : Int32)), .val (.int (128 : Int32)), .val (.int (191 : Int32)), .unset, .unset, .unset, .unset] [(.int ((vs_u0.getD ((p1 + (1 : Int32))).toNatClampNeg 0) &&& (255 : Int32)))])) (fun _ k => XS.iand X0.here hx rfl (hb hby d2_163) rfl k) ?_
          refine Goes.step (S' := s₁.setTop (mkF m 166 #[.val (.ref u0), .val (.int p1), .val (.int p2), .val (.int v3_7), .val (.int (1 : Int32)), .val (.int (128 : Int32)), .val (.int (191 : Int32)), .val (.int ((vs_u0.getD ((p1 + (1 : Int32))).toNatClampNeg 0) &&& (255 : Int32))), .unset, .unset, .unset] [])) (fun _ k => XS.istore X0.here hx rfl (hb hby d2_164) rfl (l' := #[.val (.ref u0), .val (.int p1), .val (.int p2), .val (.int v3_7), .val (.int (1 : Int32)), .val (.int (128 : Int32)), .val (.int (191 : Int32)), .val (.int ((vs_u0.getD ((p1 + (1 : Int32))).toNatClampNeg 0) &&& (255 : Int32))), .unset, .unset, .unset]) rfl k) ?_
          obtain ⟨v7_164, ev7_164⟩ : ∃ z : Int32, z = ((vs_u0.getD ((p1 + (1 : Int32))).toNatClampNeg 0) &&& (255 : Int32)) := ⟨_, rfl⟩
          rw [← ev7_164]
          refine Goes.step (S' := s₁.setTop (mkF m 168 #[.val (.ref u0), .val (.int p1), .val (.int p2), .val (.int v3_7), .val (.int (1 : Int32)), .val (.int (128 : Int32)), .val (.int (191 : Int32)), .val (.int v7_164), .unset, .unset, .unset] [(.int v7_164)])) (fun _ k => XS.iload X0.here hx rfl (hb hby d2_166) rfl  k) ?_
          refine Goes.step (S' := s₁.setTop (mkF m 170 #[.val (.ref u0), .val (.int p1), .val (.int p2), .val (.int v3_7), .val (.int (1 : Int32)), .val (.int (128 : Int32)), .val (.int (191 : Int32)), .val (.int v7_164), .unset, .unset, .unset] [(.int (128 : Int32)), (.int v7_164)])) (fun _ k => XS.iload X0.here hx rfl (hb hby d2_168) rfl  k) ?_
          by_cases hc170_5 : v7_164 < (128 : Int32)
          · refine Goes.step (S' := s₁.setTop (mkF m 180 #[.val (.ref u0), .val (.int p1), .val (.int p2), .val (.int v3_7), .val (.int (1 : Int32)), .val (.int (128 : Int32)), .val (.int (191 : Int32)), .val (.int v7_164), .unset, .unset, .unset] [])) (fun _ k => XS.icmpYes X0.here hx rfl (pc0 := 170) (pc' := 180) rfl (hb hby d2_170) rfl (tlt hc170_5).1 (by decide) (by decide) k) ?_
            refine Goes.step (S' := s₁.setTop (mkF m 181 #[.val (.ref u0), .val (.int p1), .val (.int p2), .val (.int v3_7), .val (.int (1 : Int32)), .val (.int (128 : Int32)), .val (.int (191 : Int32)), .val (.int v7_164), .unset, .unset, .unset] [(.int (-1 : Int32))])) (fun _ k => XS.iconst X0.here hx rfl (hb hby d2_180) k) ?_
            subst ev7_164 ev3_7
            refine Goes.retI X0 hx Bd.notSynchronized Bd.returns (hb hby d2_181) (by decide) (by decide) ?_
            refine ⟨congrArg (fun z => some (Value.int z)) ?_, N0, e0⟩
            rw [f2, if_neg hc12_1, if_neg hc31_2, if_pos hc40_3, if_pos hc150_4, if_pos hc170_5]
            try rfl
          · refine Goes.step (S' := s₁.setTop (mkF m 173 #[.val (.ref u0), .val (.int p1), .val (.int p2), .val (.int v3_7), .val (.int (1 : Int32)), .val (.int (128 : Int32)), .val (.int (191 : Int32)), .val (.int v7_164), .unset, .unset, .unset] [])) (fun _ k => XS.icmpNo X0.here hx rfl (hb hby d2_170) rfl (flt hc170_5).1 k) ?_
            refine Goes.step (S' := s₁.setTop (mkF m 175 #[.val (.ref u0), .val (.int p1), .val (.int p2), .val (.int v3_7), .val (.int (1 : Int32)), .val (.int (128 : Int32)), .val (.int (191 : Int32)), .val (.int v7_164), .unset, .unset, .unset] [(.int v7_164)])) (fun _ k => XS.iload X0.here hx rfl (hb hby d2_173) rfl  k) ?_
            refine Goes.step (S' := s₁.setTop (mkF m 177 #[.val (.ref u0), .val (.int p1), .val (.int p2), .val (.int v3_7), .val (.int (1 : Int32)), .val (.int (128 : Int32)), .val (.int (191 : Int32)), .val (.int v7_164), .unset, .unset, .unset] [(.int (191 : Int32)), (.int v7_164)])) (fun _ k => XS.iload X0.here hx rfl (hb hby d2_175) rfl  k) ?_
            by_cases hc177_6 : (191 : Int32) < v7_164
            · refine Goes.step (S' := s₁.setTop (mkF m 180 #[.val (.ref u0), .val (.int p1), .val (.int p2), .val (.int v3_7), .val (.int (1 : Int32)), .val (.int (128 : Int32)), .val (.int (191 : Int32)), .val (.int v7_164), .unset, .unset, .unset] [])) (fun _ k => XS.icmpNo X0.here hx rfl (hb hby d2_177) rfl (tlt hc177_6).2.2.2 k) ?_
              refine Goes.step (S' := s₁.setTop (mkF m 181 #[.val (.ref u0), .val (.int p1), .val (.int p2), .val (.int v3_7), .val (.int (1 : Int32)), .val (.int (128 : Int32)), .val (.int (191 : Int32)), .val (.int v7_164), .unset, .unset, .unset] [(.int (-1 : Int32))])) (fun _ k => XS.iconst X0.here hx rfl (hb hby d2_180) k) ?_
              subst ev7_164 ev3_7
              refine Goes.retI X0 hx Bd.notSynchronized Bd.returns (hb hby d2_181) (by decide) (by decide) ?_
              refine ⟨congrArg (fun z => some (Value.int z)) ?_, N0, e0⟩
              rw [f2, if_neg hc12_1, if_neg hc31_2, if_pos hc40_3, if_pos hc150_4, if_neg hc170_5, if_pos hc177_6]
              try rfl
            · refine Goes.step (S' := s₁.setTop (mkF m 182 #[.val (.ref u0), .val (.int p1), .val (.int p2), .val (.int v3_7), .val (.int (1 : Int32)), .val (.int (128 : Int32)), .val (.int (191 : Int32)), .val (.int v7_164), .unset, .unset, .unset] [])) (fun _ k => XS.icmpYes X0.here hx rfl (pc0 := 177) (pc' := 182) rfl (hb hby d2_177) rfl (flt hc177_6).2.2.2 (by decide) (by decide) k) ?_
              refine Goes.step (S' := s₁.setTop (mkF m 183 #[.val (.ref u0), .val (.int p1), .val (.int p2), .val (.int v3_7), .val (.int (1 : Int32)), .val (.int (128 : Int32)), .val (.int (191 : Int32)), .val (.int v7_164), .unset, .unset, .unset] [(.int v3_7)])) (fun _ k => XS.iloadN X0.here hx rfl (hb hby d2_182) rfl  k) ?_
              refine Goes.step (S' := s₁.setTop (mkF m 185 #[.val (.ref u0), .val (.int p1), .val (.int p2), .val (.int v3_7), .val (.int (1 : Int32)), .val (.int (128 : Int32)), .val (.int (191 : Int32)), .val (.int v7_164), .unset, .unset, .unset] [(.int (63 : Int32)), (.int v3_7)])) (fun _ k => XS.bipush X0.here hx rfl (hb hby d2_183) k) ?_
              refine Goes.step (S' := s₁.setTop (mkF m 187 #[.val (.ref u0), .val (.int p1), .val (.int p2), .val (.int v3_7), .val (.int (1 : Int32)), .val (.int (128 : Int32)), .val (.int (191 : Int32)), .val (.int v7_164), .unset, .unset, .unset] [(.int (1 : Int32)), (.int (63 : Int32)), (.int v3_7)])) (fun _ k => XS.iload X0.here hx rfl (hb hby d2_185) rfl  k) ?_
              refine Goes.step (S' := s₁.setTop (mkF m 188 #[.val (.ref u0), .val (.int p1), .val (.int p2), .val (.int v3_7), .val (.int (1 : Int32)), .val (.int (128 : Int32)), .val (.int (191 : Int32)), .val (.int v7_164), .unset, .unset, .unset] [(.int ((63 : Int32) >>> ((1 : Int32) &&& 31))), (.int v3_7)])) (fun _ k => XS.ishr X0.here hx rfl (hb hby d2_187) rfl k) ?_
              refine Goes.step (S' := s₁.setTop (mkF m 189 #[.val (.ref u0), .val (.int p1), .val (.int p2), .val (.int v3_7), .val (.int (1 : Int32)), .val (.int (128 : Int32)), .val (.int (191 : Int32)), .val (.int v7_164), .unset, .unset, .unset] [(.int (v3_7 &&& ((63 : Int32) >>> ((1 : Int32) &&& 31))))])) (fun _ k => XS.iand X0.here hx rfl (hb hby d2_188) rfl k) ?_
              refine Goes.step (S' := s₁.setTop (mkF m 191 #[.val (.ref u0), .val (.int p1), .val (.int p2), .val (.int v3_7), .val (.int (1 : Int32)), .val (.int (128 : Int32)), .val (.int (191 : Int32)), .val (.int v7_164), .unset, .unset, .unset] [(.int (6 : Int32)), (.int (v3_7 &&& ((63 : Int32) >>> ((1 : Int32) &&& 31))))])) (fun _ k => XS.bipush X0.here hx rfl (hb hby d2_189) k) ?_
              refine Goes.step (S' := s₁.setTop (mkF m 192 #[.val (.ref u0), .val (.int p1), .val (.int p2), .val (.int v3_7), .val (.int (1 : Int32)), .val (.int (128 : Int32)), .val (.int (191 : Int32)), .val (.int v7_164), .unset, .unset, .unset] [(.int ((v3_7 &&& ((63 : Int32) >>> ((1 : Int32) &&& 31))) <<< ((6 : Int32) &&& 31)))])) (fun _ k => XS.ishl X0.here hx rfl (hb hby d2_191) rfl k) ?_
              refine Goes.step (S' := s₁.setTop (mkF m 194 #[.val (.ref u0), .val (.int p1), .val (.int p2), .val (.int v3_7), .val (.int (1 : Int32)), .val (.int (128 : Int32)), .val (.int (191 : Int32)), .val (.int v7_164), .unset, .unset, .unset] [(.int v7_164), (.int ((v3_7 &&& ((63 : Int32) >>> ((1 : Int32) &&& 31))) <<< ((6 : Int32) &&& 31)))])) (fun _ k => XS.iload X0.here hx rfl (hb hby d2_192) rfl  k) ?_
              refine Goes.step (S' := s₁.setTop (mkF m 196 #[.val (.ref u0), .val (.int p1), .val (.int p2), .val (.int v3_7), .val (.int (1 : Int32)), .val (.int (128 : Int32)), .val (.int (191 : Int32)), .val (.int v7_164), .unset, .unset, .unset] [(.int (63 : Int32)), (.int v7_164), (.int ((v3_7 &&& ((63 : Int32) >>> ((1 : Int32) &&& 31))) <<< ((6 : Int32) &&& 31)))])) (fun _ k => XS.bipush X0.here hx rfl (hb hby d2_194) k) ?_
              refine Goes.step (S' := s₁.setTop (mkF m 197 #[.val (.ref u0), .val (.int p1), .val (.int p2), .val (.int v3_7), .val (.int (1 : Int32)), .val (.int (128 : Int32)), .val (.int (191 : Int32)), .val (.int v7_164), .unset, .unset, .unset] [(.int (v7_164 &&& (63 : Int32))), (.int ((v3_7 &&& ((63 : Int32) >>> ((1 : Int32) &&& 31))) <<< ((6 : Int32) &&& 31)))])) (fun _ k => XS.iand X0.here hx rfl (hb hby d2_196) rfl k) ?_
              refine Goes.step (S' := s₁.setTop (mkF m 198 #[.val (.ref u0), .val (.int p1), .val (.int p2), .val (.int v3_7), .val (.int (1 : Int32)), .val (.int (128 : Int32)), .val (.int (191 : Int32)), .val (.int v7_164), .unset, .unset, .unset] [(.int (((v3_7 &&& ((63 : Int32) >>> ((1 : Int32) &&& 31))) <<< ((6 : Int32) &&& 31)) ||| (v7_164 &&& (63 : Int32))))])) (fun _ k => XS.ior X0.here hx rfl (hb hby d2_197) rfl k) ?_
              refine Goes.step (S' := s₁.setTop (mkF m 200 #[.val (.ref u0), .val (.int p1), .val (.int p2), .val (.int v3_7), .val (.int (1 : Int32)), .val (.int (128 : Int32)), .val (.int (191 : Int32)), .val (.int v7_164), .val (.int (((v3_7 &&& ((63 : Int32) >>> ((1 : Int32) &&& 31))) <<< ((6 : Int32) &&& 31)) ||| (v7_164 &&& (63 : Int32)))), .unset, .unset] [])) (fun _ k => XS.istore X0.here hx rfl (hb hby d2_198) rfl (l' := #[.val (.ref u0), .val (.int p1), .val (.int p2), .val (.int v3_7), .val (.int (1 : Int32)), .val (.int (128 : Int32)), .val (.int (191 : Int32)), .val (.int v7_164), .val (.int (((v3_7 &&& ((63 : Int32) >>> ((1 : Int32) &&& 31))) <<< ((6 : Int32) &&& 31)) ||| (v7_164 &&& (63 : Int32)))), .unset, .unset]) rfl k) ?_
              obtain ⟨v8_198, ev8_198⟩ : ∃ z : Int32, z = (((v3_7 &&& ((63 : Int32) >>> ((1 : Int32) &&& 31))) <<< ((6 : Int32) &&& 31)) ||| (v7_164 &&& (63 : Int32))) := ⟨_, rfl⟩
              rw [← ev8_198]
              refine Goes.step (S' := s₁.setTop (mkF m 201 #[.val (.ref u0), .val (.int p1), .val (.int p2), .val (.int v3_7), .val (.int (1 : Int32)), .val (.int (128 : Int32)), .val (.int (191 : Int32)), .val (.int v7_164), .val (.int v8_198), .unset, .unset] [(.int p1)])) (fun _ k => XS.iloadN X0.here hx rfl (hb hby d2_200) rfl  k) ?_
              refine Goes.step (S' := s₁.setTop (mkF m 202 #[.val (.ref u0), .val (.int p1), .val (.int p2), .val (.int v3_7), .val (.int (1 : Int32)), .val (.int (128 : Int32)), .val (.int (191 : Int32)), .val (.int v7_164), .val (.int v8_198), .unset, .unset] [(.int (2 : Int32)), (.int p1)])) (fun _ k => XS.iconst X0.here hx rfl (hb hby d2_201) k) ?_
              refine Goes.step (S' := s₁.setTop (mkF m 203 #[.val (.ref u0), .val (.int p1), .val (.int p2), .val (.int v3_7), .val (.int (1 : Int32)), .val (.int (128 : Int32)), .val (.int (191 : Int32)), .val (.int v7_164), .val (.int v8_198), .unset, .unset] [(.int (p1 + (2 : Int32)))])) (fun _ k => XS.iadd X0.here hx rfl (hb hby d2_202) rfl k) ?_
              refine Goes.step (S' := s₁.setTop (mkF m 205 #[.val (.ref u0), .val (.int p1), .val (.int p2), .val (.int v3_7), .val (.int (1 : Int32)), .val (.int (128 : Int32)), .val (.int (191 : Int32)), .val (.int v7_164), .val (.int v8_198), .val (.int (p1 + (2 : Int32))), .unset] [])) (fun _ k => XS.istore X0.here hx rfl (hb hby d2_203) rfl (l' := #[.val (.ref u0), .val (.int p1), .val (.int p2), .val (.int v3_7), .val (.int (1 : Int32)), .val (.int (128 : Int32)), .val (.int (191 : Int32)), .val (.int v7_164), .val (.int v8_198), .val (.int (p1 + (2 : Int32))), .unset]) rfl k) ?_
              obtain ⟨v9_203, ev9_203⟩ : ∃ z : Int32, z = (p1 + (2 : Int32)) := ⟨_, rfl⟩
              rw [← ev9_203]
              refine Goes.step (S' := s₁.setTop (mkF m 207 #[.val (.ref u0), .val (.int p1), .val (.int p2), .val (.int v3_7), .val (.int (1 : Int32)), .val (.int (128 : Int32)), .val (.int (191 : Int32)), .val (.int v7_164), .val (.int v8_198), .val (.int v9_203), .unset] [(.int v9_203)])) (fun _ k => XS.iload X0.here hx rfl (hb hby d2_205) rfl  k) ?_
              refine Goes.step (S' := s₁.setTop (mkF m 208 #[.val (.ref u0), .val (.int p1), .val (.int p2), .val (.int v3_7), .val (.int (1 : Int32)), .val (.int (128 : Int32)), .val (.int (191 : Int32)), .val (.int v7_164), .val (.int v8_198), .val (.int v9_203), .unset] [(.int p1), (.int v9_203)])) (fun _ k => XS.iloadN X0.here hx rfl (hb hby d2_207) rfl  k) ?_
              refine Goes.step (S' := s₁.setTop (mkF m 210 #[.val (.ref u0), .val (.int p1), .val (.int p2), .val (.int v3_7), .val (.int (1 : Int32)), .val (.int (128 : Int32)), .val (.int (191 : Int32)), .val (.int v7_164), .val (.int v8_198), .val (.int v9_203), .unset] [(.int (1 : Int32)), (.int p1), (.int v9_203)])) (fun _ k => XS.iload X0.here hx rfl (hb hby d2_208) rfl  k) ?_
              refine Goes.step (S' := s₁.setTop (mkF m 211 #[.val (.ref u0), .val (.int p1), .val (.int p2), .val (.int v3_7), .val (.int (1 : Int32)), .val (.int (128 : Int32)), .val (.int (191 : Int32)), .val (.int v7_164), .val (.int v8_198), .val (.int v9_203), .unset] [(.int (p1 + (1 : Int32))), (.int v9_203)])) (fun _ k => XS.iadd X0.here hx rfl (hb hby d2_210) rfl k) ?_
              refine Goes.step (S' := s₁.setTop (mkF m 261 #[.val (.ref u0), .val (.int p1), .val (.int p2), .val (.int v3_7), .val (.int (1 : Int32)), .val (.int (128 : Int32)), .val (.int (191 : Int32)), .val (.int v7_164), .val (.int v8_198), .val (.int v9_203), .unset] [])) (fun _ k => XS.icmpYes X0.here hx rfl (pc0 := 211) (pc' := 261) rfl (hb hby d2_211) rfl (tlt (own_hc2_211 n_u0 vs_u0 hl_u0 hn_u0 p1 p2 hB hb2 hb3 hb4 v3_7 ev3_7 hc12_1 hc31_2 hc40_3 hc150_4 v7_164 ev7_164 hc170_5 hc177_6 v8_198 ev8_198 v9_203 ev9_203)).2.2.1 (by decide) (by decide) k) ?_
              refine Goes.step (S' := s₁.setTop (mkF m 263 #[.val (.ref u0), .val (.int p1), .val (.int p2), .val (.int v3_7), .val (.int (1 : Int32)), .val (.int (128 : Int32)), .val (.int (191 : Int32)), .val (.int v7_164), .val (.int v8_198), .val (.int v9_203), .unset] [(.int v8_198)])) (fun _ k => XS.iload X0.here hx rfl (hb hby d2_261) rfl  k) ?_
              subst ev9_203 ev8_198 ev7_164 ev3_7
              refine Goes.retI X0 hx Bd.notSynchronized Bd.returns (hb hby d2_263) (by decide) (by decide) ?_
              refine ⟨congrArg (fun z => some (Value.int z)) ?_, N0, e0⟩
              rw [f2, if_neg hc12_1, if_neg hc31_2, if_pos hc40_3, if_pos hc150_4, if_neg hc170_5, if_neg hc177_6]
              try rfl
        · refine Goes.step (S' := s₁.setTop (mkF m 153 #[.val (.ref u0), .val (.int p1), .val (.int p2), .val (.int v3_7), .val (.int (1 : Int32)), .val (.int (128 : Int32)), .val (.int (191 : Int32)), .unset, .unset, .unset, .unset] [])) (fun _ k => XS.icmpNo X0.here hx rfl (hb hby d2_150) rfl (flt hc150_4).2.2.1 k) ?_
          refine Goes.step (S' := s₁.setTop (mkF m 154 #[.val (.ref u0), .val (.int p1), .val (.int p2), .val (.int v3_7), .val (.int (1 : Int32)), .val (.int (128 : Int32)), .val (.int (191 : Int32)), .unset, .unset, .unset, .unset] [(.int (-1 : Int32))])) (fun _ k => XS.iconst X0.here hx rfl (hb hby d2_153) k) ?_
          subst ev3_7
          refine Goes.retI X0 hx Bd.notSynchronized Bd.returns (hb hby d2_154) (by decide) (by decide) ?_
          refine ⟨congrArg (fun z => some (Value.int z)) ?_, N0, e0⟩
          rw [f2, if_neg hc12_1, if_neg hc31_2, if_pos hc40_3, if_neg hc150_4]
          try rfl
      · refine Goes.step (S' := s₁.setTop (mkF m 49 #[.val (.ref u0), .val (.int p1), .val (.int p2), .val (.int v3_7), .unset, .val (.int (128 : Int32)), .val (.int (191 : Int32)), .unset, .unset, .unset, .unset] [])) (fun _ k => XS.icmpYes X0.here hx rfl (pc0 := 40) (pc' := 49) rfl (hb hby d2_40) rfl (flt hc40_3).2.1 (by decide) (by decide) k) ?_
        refine Goes.step (S' := s₁.setTop (mkF m 50 #[.val (.ref u0), .val (.int p1), .val (.int p2), .val (.int v3_7), .unset, .val (.int (128 : Int32)), .val (.int (191 : Int32)), .unset, .unset, .unset, .unset] [(.int v3_7)])) (fun _ k => XS.iloadN X0.here hx rfl (hb hby d2_49) rfl  k) ?_
        refine Goes.step (S' := s₁.setTop (mkF m 53 #[.val (.ref u0), .val (.int p1), .val (.int p2), .val (.int v3_7), .unset, .val (.int (128 : Int32)), .val (.int (191 : Int32)), .unset, .unset, .unset, .unset] [(.int (240 : Int32)), (.int v3_7)])) (fun _ k => XS.sipush X0.here hx rfl (hb hby d2_50) k) ?_
        by_cases hc53_7 : v3_7 < (240 : Int32)
        · refine Goes.step (S' := s₁.setTop (mkF m 56 #[.val (.ref u0), .val (.int p1), .val (.int p2), .val (.int v3_7), .unset, .val (.int (128 : Int32)), .val (.int (191 : Int32)), .unset, .unset, .unset, .unset] [])) (fun _ k => XS.icmpNo X0.here hx rfl (hb hby d2_53) rfl (tlt hc53_7).2.1 k) ?_
          refine Goes.step (S' := s₁.setTop (mkF m 57 #[.val (.ref u0), .val (.int p1), .val (.int p2), .val (.int v3_7), .unset, .val (.int (128 : Int32)), .val (.int (191 : Int32)), .unset, .unset, .unset, .unset] [(.int (2 : Int32))])) (fun _ k => XS.iconst X0.here hx rfl (hb hby d2_56) k) ?_
          refine Goes.step (S' := s₁.setTop (mkF m 59 #[.val (.ref u0), .val (.int p1), .val (.int p2), .val (.int v3_7), .val (.int (2 : Int32)), .val (.int (128 : Int32)), .val (.int (191 : Int32)), .unset, .unset, .unset, .unset] [])) (fun _ k => XS.istore X0.here hx rfl (hb hby d2_57) rfl (l' := #[.val (.ref u0), .val (.int p1), .val (.int p2), .val (.int v3_7), .val (.int (2 : Int32)), .val (.int (128 : Int32)), .val (.int (191 : Int32)), .unset, .unset, .unset, .unset]) rfl k) ?_
          refine Goes.step (S' := s₁.setTop (mkF m 60 #[.val (.ref u0), .val (.int p1), .val (.int p2), .val (.int v3_7), .val (.int (2 : Int32)), .val (.int (128 : Int32)), .val (.int (191 : Int32)), .unset, .unset, .unset, .unset] [(.int v3_7)])) (fun _ k => XS.iloadN X0.here hx rfl (hb hby d2_59) rfl  k) ?_
          refine Goes.step (S' := s₁.setTop (mkF m 63 #[.val (.ref u0), .val (.int p1), .val (.int p2), .val (.int v3_7), .val (.int (2 : Int32)), .val (.int (128 : Int32)), .val (.int (191 : Int32)), .unset, .unset, .unset, .unset] [(.int (224 : Int32)), (.int v3_7)])) (fun _ k => XS.sipush X0.here hx rfl (hb hby d2_60) k) ?_
          refine Goes.step (own_ite1 (T := s₁) (c := v3_7 = (224 : Int32)) (a0 := (160 : Int32)) (b0 := (128 : Int32)) (F := fun z8_0 => (mkF m 74 #[.val (.ref u0), .val (.int p1), .val (.int p2), .val (.int v3_7), .val (.int (2 : Int32)), .val (.int (128 : Int32)), .val (.int (191 : Int32)), .unset, .unset, .unset, .unset] [(.int z8_0)])) ?_ ?_) ?_
          · intro hc63_8 t k
            refine XS.icmpNo X0.here hx rfl (hb hby d2_63) rfl (teq hc63_8).2 ?_
            show Steps p.tables e below (s₁.setTop (mkF m 66 #[.val (.ref u0), .val (.int p1), .val (.int p2), .val (.int v3_7), .val (.int (2 : Int32)), .val (.int (128 : Int32)), .val (.int (191 : Int32)), .unset, .unset, .unset, .unset] [])) _
            refine XS.sipush X0.here hx rfl (hb hby d2_66) ?_
            show Steps p.tables e below (s₁.setTop (mkF m 69 #[.val (.ref u0), .val (.int p1), .val (.int p2), .val (.int v3_7), .val (.int (2 : Int32)), .val (.int (128 : Int32)), .val (.int (191 : Int32)), .unset, .unset, .unset, .unset] [(.int (160 : Int32))])) _
            refine XS.goto X0.here hx rfl (pc0 := 69) (pc' := 74) rfl (hb hby d2_69) (by decide) (by decide) ?_
            show Steps p.tables e below (s₁.setTop (mkF m 74 #[.val (.ref u0), .val (.int p1), .val (.int p2), .val (.int v3_7), .val (.int (2 : Int32)), .val (.int (128 : Int32)), .val (.int (191 : Int32)), .unset, .unset, .unset, .unset] [(.int (160 : Int32))])) _
            exact k
          · intro hc63_8 t k
            refine XS.icmpYes X0.here hx rfl (pc0 := 63) (pc' := 72) rfl (hb hby d2_63) rfl (feq hc63_8).2 (by decide) (by decide) ?_
            show Steps p.tables e below (s₁.setTop (mkF m 72 #[.val (.ref u0), .val (.int p1), .val (.int p2), .val (.int v3_7), .val (.int (2 : Int32)), .val (.int (128 : Int32)), .val (.int (191 : Int32)), .unset, .unset, .unset, .unset] [])) _
            refine XS.iload X0.here hx rfl (hb hby d2_72) rfl  ?_
            show Steps p.tables e below (s₁.setTop (mkF m 74 #[.val (.ref u0), .val (.int p1), .val (.int p2), .val (.int v3_7), .val (.int (2 : Int32)), .val (.int (128 : Int32)), .val (.int (191 : Int32)), .unset, .unset, .unset, .unset] [(.int (128 : Int32))])) _
            exact k
          show Goes p.tables e below _ (s₁.setTop (mkF m 74 #[.val (.ref u0), .val (.int p1), .val (.int p2), .val (.int v3_7), .val (.int (2 : Int32)), .val (.int (128 : Int32)), .val (.int (191 : Int32)), .unset, .unset, .unset, .unset] [(.int (if v3_7 = (224 : Int32) then (160 : Int32) else (128 : Int32)))]))
          refine Goes.step (S' := s₁.setTop (mkF m 76 #[.val (.ref u0), .val (.int p1), .val (.int p2), .val (.int v3_7), .val (.int (2 : Int32)), .val (.int (if v3_7 = (224 : Int32) then (160 : Int32) else (128 : Int32))), .val (.int (191 : Int32)), .unset, .unset, .unset, .unset] [])) (fun _ k => XS.istore X0.here hx rfl (hb hby d2_74) rfl (l' := #[.val (.ref u0), .val (.int p1), .val (.int p2), .val (.int v3_7), .val (.int (2 : Int32)), .val (.int (if v3_7 = (224 : Int32) then (160 : Int32) else (128 : Int32))), .val (.int (191 : Int32)), .unset, .unset, .unset, .unset]) rfl k) ?_
          obtain ⟨v5_74, ev5_74⟩ : ∃ z : Int32, z = (if v3_7 = (224 : Int32) then (160 : Int32) else (128 : Int32)) := ⟨_, rfl⟩
          rw [← ev5_74]
          refine Goes.step (S' := s₁.setTop (mkF m 77 #[.val (.ref u0), .val (.int p1), .val (.int p2), .val (.int v3_7), .val (.int (2 : Int32)), .val (.int v5_74), .val (.int (191 : Int32)), .unset, .unset, .unset, .unset] [(.int v3_7)])) (fun _ k => XS.iloadN X0.here hx rfl (hb hby d2_76) rfl  k) ?_
          refine Goes.step (S' := s₁.setTop (mkF m 80 #[.val (.ref u0), .val (.int p1), .val (.int p2), .val (.int v3_7), .val (.int (2 : Int32)), .val (.int v5_74), .val (.int (191 : Int32)), .unset, .unset, .unset, .unset] [(.int (237 : Int32)), (.int v3_7)])) (fun _ k => XS.sipush X0.here hx rfl (hb hby d2_77) k) ?_
          refine Goes.step (own_ite1 (T := s₁) (c := v3_7 = (237 : Int32)) (a0 := (159 : Int32)) (b0 := (191 : Int32)) (F := fun z9_0 => (mkF m 91 #[.val (.ref u0), .val (.int p1), .val (.int p2), .val (.int v3_7), .val (.int (2 : Int32)), .val (.int v5_74), .val (.int (191 : Int32)), .unset, .unset, .unset, .unset] [(.int z9_0)])) ?_ ?_) ?_
          · intro hc80_9 t k
            refine XS.icmpNo X0.here hx rfl (hb hby d2_80) rfl (teq hc80_9).2 ?_
            show Steps p.tables e below (s₁.setTop (mkF m 83 #[.val (.ref u0), .val (.int p1), .val (.int p2), .val (.int v3_7), .val (.int (2 : Int32)), .val (.int v5_74), .val (.int (191 : Int32)), .unset, .unset, .unset, .unset] [])) _
            refine XS.sipush X0.here hx rfl (hb hby d2_83) ?_
            show Steps p.tables e below (s₁.setTop (mkF m 86 #[.val (.ref u0), .val (.int p1), .val (.int p2), .val (.int v3_7), .val (.int (2 : Int32)), .val (.int v5_74), .val (.int (191 : Int32)), .unset, .unset, .unset, .unset] [(.int (159 : Int32))])) _
            refine XS.goto X0.here hx rfl (pc0 := 86) (pc' := 91) rfl (hb hby d2_86) (by decide) (by decide) ?_
            show Steps p.tables e below (s₁.setTop (mkF m 91 #[.val (.ref u0), .val (.int p1), .val (.int p2), .val (.int v3_7), .val (.int (2 : Int32)), .val (.int v5_74), .val (.int (191 : Int32)), .unset, .unset, .unset, .unset] [(.int (159 : Int32))])) _
            exact k
          · intro hc80_9 t k
            refine XS.icmpYes X0.here hx rfl (pc0 := 80) (pc' := 89) rfl (hb hby d2_80) rfl (feq hc80_9).2 (by decide) (by decide) ?_
            show Steps p.tables e below (s₁.setTop (mkF m 89 #[.val (.ref u0), .val (.int p1), .val (.int p2), .val (.int v3_7), .val (.int (2 : Int32)), .val (.int v5_74), .val (.int (191 : Int32)), .unset, .unset, .unset, .unset] [])) _
            refine XS.iload X0.here hx rfl (hb hby d2_89) rfl  ?_
            show Steps p.tables e below (s₁.setTop (mkF m 91 #[.val (.ref u0), .val (.int p1), .val (.int p2), .val (.int v3_7), .val (.int (2 : Int32)), .val (.int v5_74), .val (.int (191 : Int32)), .unset, .unset, .unset, .unset] [(.int (191 : Int32))])) _
            exact k
          show Goes p.tables e below _ (s₁.setTop (mkF m 91 #[.val (.ref u0), .val (.int p1), .val (.int p2), .val (.int v3_7), .val (.int (2 : Int32)), .val (.int v5_74), .val (.int (191 : Int32)), .unset, .unset, .unset, .unset] [(.int (if v3_7 = (237 : Int32) then (159 : Int32) else (191 : Int32)))]))
          refine Goes.step (S' := s₁.setTop (mkF m 93 #[.val (.ref u0), .val (.int p1), .val (.int p2), .val (.int v3_7), .val (.int (2 : Int32)), .val (.int v5_74), .val (.int (if v3_7 = (237 : Int32) then (159 : Int32) else (191 : Int32))), .unset, .unset, .unset, .unset] [])) (fun _ k => XS.istore X0.here hx rfl (hb hby d2_91) rfl (l' := #[.val (.ref u0), .val (.int p1), .val (.int p2), .val (.int v3_7), .val (.int (2 : Int32)), .val (.int v5_74), .val (.int (if v3_7 = (237 : Int32) then (159 : Int32) else (191 : Int32))), .unset, .unset, .unset, .unset]) rfl k) ?_
          obtain ⟨v6_91, ev6_91⟩ : ∃ z : Int32, z = (if v3_7 = (237 : Int32) then (159 : Int32) else (191 : Int32)) := ⟨_, rfl⟩
          rw [← ev6_91]
          refine Goes.step (S' := s₁.setTop (mkF m 145 #[.val (.ref u0), .val (.int p1), .val (.int p2), .val (.int v3_7), .val (.int (2 : Int32)), .val (.int v5_74), .val (.int v6_91), .unset, .unset, .unset, .unset] [])) (fun _ k => XS.goto X0.here hx rfl (pc0 := 93) (pc' := 145) rfl (hb hby d2_93) (by decide) (by decide) k) ?_
          refine Goes.step (S' := s₁.setTop (mkF m 146 #[.val (.ref u0), .val (.int p1), .val (.int p2), .val (.int v3_7), .val (.int (2 : Int32)), .val (.int v5_74), .val (.int v6_91), .unset, .unset, .unset, .unset] [(.int p2)])) (fun _ k => XS.iloadN X0.here hx rfl (hb hby d2_145) rfl  k) ?_
          refine Goes.step (S' := s₁.setTop (mkF m 147 #[.val (.ref u0), .val (.int p1), .val (.int p2), .val (.int v3_7), .val (.int (2 : Int32)), .val (.int v5_74), .val (.int v6_91), .unset, .unset, .unset, .unset] [(.int p1), (.int p2)])) (fun _ k => XS.iloadN X0.here hx rfl (hb hby d2_146) rfl  k) ?_
          refine Goes.step (S' := s₁.setTop (mkF m 148 #[.val (.ref u0), .val (.int p1), .val (.int p2), .val (.int v3_7), .val (.int (2 : Int32)), .val (.int v5_74), .val (.int v6_91), .unset, .unset, .unset, .unset] [(.int (p2 - p1))])) (fun _ k => XS.isub X0.here hx rfl (hb hby d2_147) rfl k) ?_
          refine Goes.step (S' := s₁.setTop (mkF m 150 #[.val (.ref u0), .val (.int p1), .val (.int p2), .val (.int v3_7), .val (.int (2 : Int32)), .val (.int v5_74), .val (.int v6_91), .unset, .unset, .unset, .unset] [(.int (2 : Int32)), (.int (p2 - p1))])) (fun _ k => XS.iload X0.here hx rfl (hb hby d2_148) rfl  k) ?_
          by_cases hc150_10 : (2 : Int32) < (p2 - p1)
          · refine Goes.step (S' := s₁.setTop (mkF m 155 #[.val (.ref u0), .val (.int p1), .val (.int p2), .val (.int v3_7), .val (.int (2 : Int32)), .val (.int v5_74), .val (.int v6_91), .unset, .unset, .unset, .unset] [])) (fun _ k => XS.icmpYes X0.here hx rfl (pc0 := 150) (pc' := 155) rfl (hb hby d2_150) rfl (tlt hc150_10).2.2.1 (by decide) (by decide) k) ?_
            refine Goes.step (S' := s₁.setTop (mkF m 156 #[.val (.ref u0), .val (.int p1), .val (.int p2), .val (.int v3_7), .val (.int (2 : Int32)), .val (.int v5_74), .val (.int v6_91), .unset, .unset, .unset, .unset] [(.ref u0)])) (fun _ k => XS.aloadN X0.here hx rfl (hb hby d2_155) rfl rfl k) ?_
            refine Goes.step (S' := s₁.setTop (mkF m 157 #[.val (.ref u0), .val (.int p1), .val (.int p2), .val (.int v3_7), .val (.int (2 : Int32)), .val (.int v5_74), .val (.int v6_91), .unset, .unset, .unset, .unset] [(.int p1), (.ref u0)])) (fun _ k => XS.iloadN X0.here hx rfl (hb hby d2_156) rfl  k) ?_
            refine Goes.step (S' := s₁.setTop (mkF m 158 #[.val (.ref u0), .val (.int p1), .val (.int p2), .val (.int v3_7), .val (.int (2 : Int32)), .val (.int v5_74), .val (.int v6_91), .unset, .unset, .unset, .unset] [(.int (1 : Int32)), (.int p1), (.ref u0)])) (fun _ k => XS.iconst X0.here hx rfl (hb hby d2_157) k) ?_
            refine Goes.step (S' := s₁.setTop (mkF m 159 #[.val (.ref u0), .val (.int p1), .val (.int p2), .val (.int v3_7), .val (.int (2 : Int32)), .val (.int v5_74), .val (.int v6_91), .unset, .unset, .unset, .unset] [(.int (p1 + (1 : Int32))), (.ref u0)])) (fun _ k => XS.iadd X0.here hx rfl (hb hby d2_158) rfl k) ?_
            refine Goes.step (S' := s₁.setTop (mkF m 160 #[.val (.ref u0), .val (.int p1), .val (.int p2), .val (.int v3_7), .val (.int (2 : Int32)), .val (.int v5_74), .val (.int v6_91), .unset, .unset, .unset, .unset] [(.int (vs_u0.getD ((p1 + (1 : Int32))).toNatClampNeg 0))])) (fun _ k => own_baload X0 hx hZ e0 V_u0 (own_ix2_159_2 n_u0 vs_u0 hl_u0 hn_u0 p1 p2 hB hb2 hb3 hb4 v3_7 ev3_7 hc12_1 hc31_2 hc40_3 hc53_7 v5_74 ev5_74 v6_91 ev6_91 hc150_10) (hb hby d2_159) _ k) ?_
            refine Goes.step (S' := s₁.setTop (mkF m 163 #[.val (.ref u0), .val (.int p1), .val (.int p2), .val (.int v3_7), .val (.int (2 : Int32)), .val (.int v5_74), .val (.int v6_91), .unset, .unset, .unset, .unset] [(.int (255 : Int32)), (.int (vs_u0.getD ((p1 + (1 : Int32))).toNatClampNeg 0))])) (fun _ k => XS.sipush X0.here hx rfl (hb hby d2_160) k) ?_
            refine Goes.step (S' := s₁.setTop (mkF m 164 #[.val (.ref u0), .val (.int p1), .val (.int p2), .val (.int v3_7), .val (.int (2 : Int32)), .val (.int v5_74), .val (.int v6_91), .unset, .unset, .unset, .unset] [(.int ((vs_u0.getD ((p1 + (1 : Int32))).toNatClampNeg 0) &&& (255 : Int32)))])) (fun _ k => XS.iand X0.here hx rfl (hb hby d2_163) rfl k) ?_
            refine Goes.step (S' := s₁.setTop (mkF m 166 #[.val (.ref u0), .val (.int p1), .val (.int p2), .val (.int v3_7), .val (.int (2 : Int32)), .val (.int v5_74), .val (.int v6_91), .val (.int ((vs_u0.getD ((p1 + (1 : Int32))).toNatClampNeg 0) &&& (255 : Int32))), .unset, .unset, .unset] [])) (fun _ k => XS.istore X0.here hx rfl (hb hby d2_164) rfl (l' := #[.val (.ref u0), .val (.int p1), .val (.int p2), .val (.int v3_7), .val (.int (2 : Int32)), .val (.int v5_74), .val (.int v6_91), .val (.int ((vs_u0.getD ((p1 + (1 : Int32))).toNatClampNeg 0) &&& (255 : Int32))), .unset, .unset, .unset]) rfl k) ?_
            obtain ⟨v7_164, ev7_164⟩ : ∃ z : Int32, z = ((vs_u0.getD ((p1 + (1 : Int32))).toNatClampNeg 0) &&& (255 : Int32)) := ⟨_, rfl⟩
            rw [← ev7_164]
            refine Goes.step (S' := s₁.setTop (mkF m 168 #[.val (.ref u0), .val (.int p1), .val (.int p2), .val (.int v3_7), .val (.int (2 : Int32)), .val (.int v5_74), .val (.int v6_91), .val (.int v7_164), .unset, .unset, .unset] [(.int v7_164)])) (fun _ k => XS.iload X0.here hx rfl (hb hby d2_166) rfl  k) ?_
            refine Goes.step (S' := s₁.setTop (mkF m 170 #[.val (.ref u0), .val (.int p1), .val (.int p2), .val (.int v3_7), .val (.int (2 : Int32)), .val (.int v5_74), .val (.int v6_91), .val (.int v7_164), .unset, .unset, .unset] [(.int v5_74), (.int v7_164)])) (fun _ k => XS.iload X0.here hx rfl (hb hby d2_168) rfl  k) ?_
            by_cases hc170_11 : v7_164 < v5_74
            · refine Goes.step (S' := s₁.setTop (mkF m 180 #[.val (.ref u0), .val (.int p1), .val (.int p2), .val (.int v3_7), .val (.int (2 : Int32)), .val (.int v5_74), .val (.int v6_91), .val (.int v7_164), .unset, .unset, .unset] [])) (fun _ k => XS.icmpYes X0.here hx rfl (pc0 := 170) (pc' := 180) rfl (hb hby d2_170) rfl (tlt hc170_11).1 (by decide) (by decide) k) ?_
              refine Goes.step (S' := s₁.setTop (mkF m 181 #[.val (.ref u0), .val (.int p1), .val (.int p2), .val (.int v3_7), .val (.int (2 : Int32)), .val (.int v5_74), .val (.int v6_91), .val (.int v7_164), .unset, .unset, .unset] [(.int (-1 : Int32))])) (fun _ k => XS.iconst X0.here hx rfl (hb hby d2_180) k) ?_
              subst ev7_164 ev6_91 ev5_74 ev3_7
              refine Goes.retI X0 hx Bd.notSynchronized Bd.returns (hb hby d2_181) (by decide) (by decide) ?_
              refine ⟨congrArg (fun z => some (Value.int z)) ?_, N0, e0⟩
              rw [f2, if_neg hc12_1, if_neg hc31_2, if_neg hc40_3, if_pos hc53_7, if_pos hc150_10, if_pos hc170_11]
              try rfl
            · refine Goes.step (S' := s₁.setTop (mkF m 173 #[.val (.ref u0), .val (.int p1), .val (.int p2), .val (.int v3_7), .val (.int (2 : Int32)), .val (.int v5_74), .val (.int v6_91), .val (.int v7_164), .unset, .unset, .unset] [])) (fun _ k => XS.icmpNo X0.here hx rfl (hb hby d2_170) rfl (flt hc170_11).1 k) ?_
              refine Goes.step (S' := s₁.setTop (mkF m 175 #[.val (.ref u0), .val (.int p1), .val (.int p2), .val (.int v3_7), .val (.int (2 : Int32)), .val (.int v5_74), .val (.int v6_91), .val (.int v7_164), .unset, .unset, .unset] [(.int v7_164)])) (fun _ k => XS.iload X0.here hx rfl (hb hby d2_173) rfl  k) ?_
              refine Goes.step (S' := s₁.setTop (mkF m 177 #[.val (.ref u0), .val (.int p1), .val (.int p2), .val (.int v3_7), .val (.int (2 : Int32)), .val (.int v5_74), .val (.int v6_91), .val (.int v7_164), .unset, .unset, .unset] [(.int v6_91), (.int v7_164)])) (fun _ k => XS.iload X0.here hx rfl (hb hby d2_175) rfl  k) ?_
              by_cases hc177_12 : v6_91 < v7_164
              · refine Goes.step (S' := s₁.setTop (mkF m 180 #[.val (.ref u0), .val (.int p1), .val (.int p2), .val (.int v3_7), .val (.int (2 : Int32)), .val (.int v5_74), .val (.int v6_91), .val (.int v7_164), .unset, .unset, .unset] [])) (fun _ k => XS.icmpNo X0.here hx rfl (hb hby d2_177) rfl (tlt hc177_12).2.2.2 k) ?_
                refine Goes.step (S' := s₁.setTop (mkF m 181 #[.val (.ref u0), .val (.int p1), .val (.int p2), .val (.int v3_7), .val (.int (2 : Int32)), .val (.int v5_74), .val (.int v6_91), .val (.int v7_164), .unset, .unset, .unset] [(.int (-1 : Int32))])) (fun _ k => XS.iconst X0.here hx rfl (hb hby d2_180) k) ?_
                subst ev7_164 ev6_91 ev5_74 ev3_7
                refine Goes.retI X0 hx Bd.notSynchronized Bd.returns (hb hby d2_181) (by decide) (by decide) ?_
                refine ⟨congrArg (fun z => some (Value.int z)) ?_, N0, e0⟩
                rw [f2, if_neg hc12_1, if_neg hc31_2, if_neg hc40_3, if_pos hc53_7, if_pos hc150_10, if_neg hc170_11, if_pos hc177_12]
                try rfl
              · refine Goes.step (S' := s₁.setTop (mkF m 182 #[.val (.ref u0), .val (.int p1), .val (.int p2), .val (.int v3_7), .val (.int (2 : Int32)), .val (.int v5_74), .val (.int v6_91), .val (.int v7_164), .unset, .unset, .unset] [])) (fun _ k => XS.icmpYes X0.here hx rfl (pc0 := 177) (pc' := 182) rfl (hb hby d2_177) rfl (flt hc177_12).2.2.2 (by decide) (by decide) k) ?_
                refine Goes.step (S' := s₁.setTop (mkF m 183 #[.val (.ref u0), .val (.int p1), .val (.int p2), .val (.int v3_7), .val (.int (2 : Int32)), .val (.int v5_74), .val (.int v6_91), .val (.int v7_164), .unset, .unset, .unset] [(.int v3_7)])) (fun _ k => XS.iloadN X0.here hx rfl (hb hby d2_182) rfl  k) ?_
                refine Goes.step (S' := s₁.setTop (mkF m 185 #[.val (.ref u0), .val (.int p1), .val (.int p2), .val (.int v3_7), .val (.int (2 : Int32)), .val (.int v5_74), .val (.int v6_91), .val (.int v7_164), .unset, .unset, .unset] [(.int (63 : Int32)), (.int v3_7)])) (fun _ k => XS.bipush X0.here hx rfl (hb hby d2_183) k) ?_
                refine Goes.step (S' := s₁.setTop (mkF m 187 #[.val (.ref u0), .val (.int p1), .val (.int p2), .val (.int v3_7), .val (.int (2 : Int32)), .val (.int v5_74), .val (.int v6_91), .val (.int v7_164), .unset, .unset, .unset] [(.int (2 : Int32)), (.int (63 : Int32)), (.int v3_7)])) (fun _ k => XS.iload X0.here hx rfl (hb hby d2_185) rfl  k) ?_
                refine Goes.step (S' := s₁.setTop (mkF m 188 #[.val (.ref u0), .val (.int p1), .val (.int p2), .val (.int v3_7), .val (.int (2 : Int32)), .val (.int v5_74), .val (.int v6_91), .val (.int v7_164), .unset, .unset, .unset] [(.int ((63 : Int32) >>> ((2 : Int32) &&& 31))), (.int v3_7)])) (fun _ k => XS.ishr X0.here hx rfl (hb hby d2_187) rfl k) ?_
                refine Goes.step (S' := s₁.setTop (mkF m 189 #[.val (.ref u0), .val (.int p1), .val (.int p2), .val (.int v3_7), .val (.int (2 : Int32)), .val (.int v5_74), .val (.int v6_91), .val (.int v7_164), .unset, .unset, .unset] [(.int (v3_7 &&& ((63 : Int32) >>> ((2 : Int32) &&& 31))))])) (fun _ k => XS.iand X0.here hx rfl (hb hby d2_188) rfl k) ?_
                refine Goes.step (S' := s₁.setTop (mkF m 191 #[.val (.ref u0), .val (.int p1), .val (.int p2), .val (.int v3_7), .val (.int (2 : Int32)), .val (.int v5_74), .val (.int v6_91), .val (.int v7_164), .unset, .unset, .unset] [(.int (6 : Int32)), (.int (v3_7 &&& ((63 : Int32) >>> ((2 : Int32) &&& 31))))])) (fun _ k => XS.bipush X0.here hx rfl (hb hby d2_189) k) ?_
                refine Goes.step (S' := s₁.setTop (mkF m 192 #[.val (.ref u0), .val (.int p1), .val (.int p2), .val (.int v3_7), .val (.int (2 : Int32)), .val (.int v5_74), .val (.int v6_91), .val (.int v7_164), .unset, .unset, .unset] [(.int ((v3_7 &&& ((63 : Int32) >>> ((2 : Int32) &&& 31))) <<< ((6 : Int32) &&& 31)))])) (fun _ k => XS.ishl X0.here hx rfl (hb hby d2_191) rfl k) ?_
                refine Goes.step (S' := s₁.setTop (mkF m 194 #[.val (.ref u0), .val (.int p1), .val (.int p2), .val (.int v3_7), .val (.int (2 : Int32)), .val (.int v5_74), .val (.int v6_91), .val (.int v7_164), .unset, .unset, .unset] [(.int v7_164), (.int ((v3_7 &&& ((63 : Int32) >>> ((2 : Int32) &&& 31))) <<< ((6 : Int32) &&& 31)))])) (fun _ k => XS.iload X0.here hx rfl (hb hby d2_192) rfl  k) ?_
                refine Goes.step (S' := s₁.setTop (mkF m 196 #[.val (.ref u0), .val (.int p1), .val (.int p2), .val (.int v3_7), .val (.int (2 : Int32)), .val (.int v5_74), .val (.int v6_91), .val (.int v7_164), .unset, .unset, .unset] [(.int (63 : Int32)), (.int v7_164), (.int ((v3_7 &&& ((63 : Int32) >>> ((2 : Int32) &&& 31))) <<< ((6 : Int32) &&& 31)))])) (fun _ k => XS.bipush X0.here hx rfl (hb hby d2_194) k) ?_
                refine Goes.step (S' := s₁.setTop (mkF m 197 #[.val (.ref u0), .val (.int p1), .val (.int p2), .val (.int v3_7), .val (.int (2 : Int32)), .val (.int v5_74), .val (.int v6_91), .val (.int v7_164), .unset, .unset, .unset] [(.int (v7_164 &&& (63 : Int32))), (.int ((v3_7 &&& ((63 : Int32) >>> ((2 : Int32) &&& 31))) <<< ((6 : Int32) &&& 31)))])) (fun _ k => XS.iand X0.here hx rfl (hb hby d2_196) rfl k) ?_
                refine Goes.step (S' := s₁.setTop (mkF m 198 #[.val (.ref u0), .val (.int p1), .val (.int p2), .val (.int v3_7), .val (.int (2 : Int32)), .val (.int v5_74), .val (.int v6_91), .val (.int v7_164), .unset, .unset, .unset] [(.int (((v3_7 &&& ((63 : Int32) >>> ((2 : Int32) &&& 31))) <<< ((6 : Int32) &&& 31)) ||| (v7_164 &&& (63 : Int32))))])) (fun _ k => XS.ior X0.here hx rfl (hb hby d2_197) rfl k) ?_
                refine Goes.step (S' := s₁.setTop (mkF m 200 #[.val (.ref u0), .val (.int p1), .val (.int p2), .val (.int v3_7), .val (.int (2 : Int32)), .val (.int v5_74), .val (.int v6_91), .val (.int v7_164), .val (.int (((v3_7 &&& ((63 : Int32) >>> ((2 : Int32) &&& 31))) <<< ((6 : Int32) &&& 31)) ||| (v7_164 &&& (63 : Int32)))), .unset, .unset] [])) (fun _ k => XS.istore X0.here hx rfl (hb hby d2_198) rfl (l' := #[.val (.ref u0), .val (.int p1), .val (.int p2), .val (.int v3_7), .val (.int (2 : Int32)), .val (.int v5_74), .val (.int v6_91), .val (.int v7_164), .val (.int (((v3_7 &&& ((63 : Int32) >>> ((2 : Int32) &&& 31))) <<< ((6 : Int32) &&& 31)) ||| (v7_164 &&& (63 : Int32)))), .unset, .unset]) rfl k) ?_
                obtain ⟨v8_198, ev8_198⟩ : ∃ z : Int32, z = (((v3_7 &&& ((63 : Int32) >>> ((2 : Int32) &&& 31))) <<< ((6 : Int32) &&& 31)) ||| (v7_164 &&& (63 : Int32))) := ⟨_, rfl⟩
                rw [← ev8_198]
                refine Goes.step (S' := s₁.setTop (mkF m 201 #[.val (.ref u0), .val (.int p1), .val (.int p2), .val (.int v3_7), .val (.int (2 : Int32)), .val (.int v5_74), .val (.int v6_91), .val (.int v7_164), .val (.int v8_198), .unset, .unset] [(.int p1)])) (fun _ k => XS.iloadN X0.here hx rfl (hb hby d2_200) rfl  k) ?_
                refine Goes.step (S' := s₁.setTop (mkF m 202 #[.val (.ref u0), .val (.int p1), .val (.int p2), .val (.int v3_7), .val (.int (2 : Int32)), .val (.int v5_74), .val (.int v6_91), .val (.int v7_164), .val (.int v8_198), .unset, .unset] [(.int (2 : Int32)), (.int p1)])) (fun _ k => XS.iconst X0.here hx rfl (hb hby d2_201) k) ?_
                refine Goes.step (S' := s₁.setTop (mkF m 203 #[.val (.ref u0), .val (.int p1), .val (.int p2), .val (.int v3_7), .val (.int (2 : Int32)), .val (.int v5_74), .val (.int v6_91), .val (.int v7_164), .val (.int v8_198), .unset, .unset] [(.int (p1 + (2 : Int32)))])) (fun _ k => XS.iadd X0.here hx rfl (hb hby d2_202) rfl k) ?_
                refine Goes.step (S' := s₁.setTop (mkF m 205 #[.val (.ref u0), .val (.int p1), .val (.int p2), .val (.int v3_7), .val (.int (2 : Int32)), .val (.int v5_74), .val (.int v6_91), .val (.int v7_164), .val (.int v8_198), .val (.int (p1 + (2 : Int32))), .unset] [])) (fun _ k => XS.istore X0.here hx rfl (hb hby d2_203) rfl (l' := #[.val (.ref u0), .val (.int p1), .val (.int p2), .val (.int v3_7), .val (.int (2 : Int32)), .val (.int v5_74), .val (.int v6_91), .val (.int v7_164), .val (.int v8_198), .val (.int (p1 + (2 : Int32))), .unset]) rfl k) ?_
                obtain ⟨v9_203, ev9_203⟩ : ∃ z : Int32, z = (p1 + (2 : Int32)) := ⟨_, rfl⟩
                rw [← ev9_203]
                refine Goes.step (S' := s₁.setTop (mkF m 207 #[.val (.ref u0), .val (.int p1), .val (.int p2), .val (.int v3_7), .val (.int (2 : Int32)), .val (.int v5_74), .val (.int v6_91), .val (.int v7_164), .val (.int v8_198), .val (.int v9_203), .unset] [(.int v9_203)])) (fun _ k => XS.iload X0.here hx rfl (hb hby d2_205) rfl  k) ?_
                refine Goes.step (S' := s₁.setTop (mkF m 208 #[.val (.ref u0), .val (.int p1), .val (.int p2), .val (.int v3_7), .val (.int (2 : Int32)), .val (.int v5_74), .val (.int v6_91), .val (.int v7_164), .val (.int v8_198), .val (.int v9_203), .unset] [(.int p1), (.int v9_203)])) (fun _ k => XS.iloadN X0.here hx rfl (hb hby d2_207) rfl  k) ?_
                refine Goes.step (S' := s₁.setTop (mkF m 210 #[.val (.ref u0), .val (.int p1), .val (.int p2), .val (.int v3_7), .val (.int (2 : Int32)), .val (.int v5_74), .val (.int v6_91), .val (.int v7_164), .val (.int v8_198), .val (.int v9_203), .unset] [(.int (2 : Int32)), (.int p1), (.int v9_203)])) (fun _ k => XS.iload X0.here hx rfl (hb hby d2_208) rfl  k) ?_
                refine Goes.step (S' := s₁.setTop (mkF m 211 #[.val (.ref u0), .val (.int p1), .val (.int p2), .val (.int v3_7), .val (.int (2 : Int32)), .val (.int v5_74), .val (.int v6_91), .val (.int v7_164), .val (.int v8_198), .val (.int v9_203), .unset] [(.int (p1 + (2 : Int32))), (.int v9_203)])) (fun _ k => XS.iadd X0.here hx rfl (hb hby d2_210) rfl k) ?_
                refine Goes.step (S' := s₁.setTop (mkF m 214 #[.val (.ref u0), .val (.int p1), .val (.int p2), .val (.int v3_7), .val (.int (2 : Int32)), .val (.int v5_74), .val (.int v6_91), .val (.int v7_164), .val (.int v8_198), .val (.int v9_203), .unset] [])) (fun _ k => XS.icmpNo X0.here hx rfl (hb hby d2_211) rfl (flt (own_hc2_211_2 n_u0 vs_u0 hl_u0 hn_u0 p1 p2 hB hb2 hb3 hb4 v3_7 ev3_7 hc12_1 hc31_2 hc40_3 hc53_7 v5_74 ev5_74 v6_91 ev6_91 hc150_10 v7_164 ev7_164 hc170_11 hc177_12 v8_198 ev8_198 v9_203 ev9_203)).2.2.1 k) ?_
                refine Goes.step (S' := s₁.setTop (mkF m 215 #[.val (.ref u0), .val (.int p1), .val (.int p2), .val (.int v3_7), .val (.int (2 : Int32)), .val (.int v5_74), .val (.int v6_91), .val (.int v7_164), .val (.int v8_198), .val (.int v9_203), .unset] [(.ref u0)])) (fun _ k => XS.aloadN X0.here hx rfl (hb hby d2_214) rfl rfl k) ?_
                refine Goes.step (S' := s₁.setTop (mkF m 217 #[.val (.ref u0), .val (.int p1), .val (.int p2), .val (.int v3_7), .val (.int (2 : Int32)), .val (.int v5_74), .val (.int v6_91), .val (.int v7_164), .val (.int v8_198), .val (.int v9_203), .unset] [(.int v9_203), (.ref u0)])) (fun _ k => XS.iload X0.here hx rfl (hb hby d2_215) rfl  k) ?_
                refine Goes.step (S' := s₁.setTop (mkF m 218 #[.val (.ref u0), .val (.int p1), .val (.int p2), .val (.int v3_7), .val (.int (2 : Int32)), .val (.int v5_74), .val (.int v6_91), .val (.int v7_164), .val (.int v8_198), .val (.int v9_203), .unset] [(.int (vs_u0.getD (v9_203).toNatClampNeg 0))])) (fun _ k => own_baload X0 hx hZ e0 V_u0 (own_ix2_217 n_u0 vs_u0 hl_u0 hn_u0 p1 p2 hB hb2 hb3 hb4 v3_7 ev3_7 hc12_1 hc31_2 hc40_3 hc53_7 v5_74 ev5_74 v6_91 ev6_91 hc150_10 v7_164 ev7_164 hc170_11 hc177_12 v8_198 ev8_198 v9_203 ev9_203) (hb hby d2_217) _ k) ?_
                refine Goes.step (S' := s₁.setTop (mkF m 221 #[.val (.ref u0), .val (.int p1), .val (.int p2), .val (.int v3_7), .val (.int (2 : Int32)), .val (.int v5_74), .val (.int v6_91), .val (.int v7_164), .val (.int v8_198), .val (.int v9_203), .unset] [(.int (255 : Int32)), (.int (vs_u0.getD (v9_203).toNatClampNeg 0))])) (fun _ k => XS.sipush X0.here hx rfl (hb hby d2_218) k) ?_
                refine Goes.step (S' := s₁.setTop (mkF m 222 #[.val (.ref u0), .val (.int p1), .val (.int p2), .val (.int v3_7), .val (.int (2 : Int32)), .val (.int v5_74), .val (.int v6_91), .val (.int v7_164), .val (.int v8_198), .val (.int v9_203), .unset] [(.int ((vs_u0.getD (v9_203).toNatClampNeg 0) &&& (255 : Int32)))])) (fun _ k => XS.iand X0.here hx rfl (hb hby d2_221) rfl k) ?_
                refine Goes.step (S' := s₁.setTop (mkF m 224 #[.val (.ref u0), .val (.int p1), .val (.int p2), .val (.int v3_7), .val (.int (2 : Int32)), .val (.int v5_74), .val (.int v6_91), .val (.int v7_164), .val (.int v8_198), .val (.int v9_203), .val (.int ((vs_u0.getD (v9_203).toNatClampNeg 0) &&& (255 : Int32)))] [])) (fun _ k => XS.istore X0.here hx rfl (hb hby d2_222) rfl (l' := #[.val (.ref u0), .val (.int p1), .val (.int p2), .val (.int v3_7), .val (.int (2 : Int32)), .val (.int v5_74), .val (.int v6_91), .val (.int v7_164), .val (.int v8_198), .val (.int v9_203), .val (.int ((vs_u0.getD (v9_203).toNatClampNeg 0) &&& (255 : Int32)))]) rfl k) ?_
                obtain ⟨v10_222, ev10_222⟩ : ∃ z : Int32, z = ((vs_u0.getD (v9_203).toNatClampNeg 0) &&& (255 : Int32)) := ⟨_, rfl⟩
                rw [← ev10_222]
                refine Goes.step (S' := s₁.setTop (mkF m 226 #[.val (.ref u0), .val (.int p1), .val (.int p2), .val (.int v3_7), .val (.int (2 : Int32)), .val (.int v5_74), .val (.int v6_91), .val (.int v7_164), .val (.int v8_198), .val (.int v9_203), .val (.int v10_222)] [(.int v10_222)])) (fun _ k => XS.iload X0.here hx rfl (hb hby d2_224) rfl  k) ?_
                refine Goes.step (S' := s₁.setTop (mkF m 229 #[.val (.ref u0), .val (.int p1), .val (.int p2), .val (.int v3_7), .val (.int (2 : Int32)), .val (.int v5_74), .val (.int v6_91), .val (.int v7_164), .val (.int v8_198), .val (.int v9_203), .val (.int v10_222)] [(.int (128 : Int32)), (.int v10_222)])) (fun _ k => XS.sipush X0.here hx rfl (hb hby d2_226) k) ?_
                by_cases hc229_13 : v10_222 < (128 : Int32)
                · refine Goes.step (S' := s₁.setTop (mkF m 240 #[.val (.ref u0), .val (.int p1), .val (.int p2), .val (.int v3_7), .val (.int (2 : Int32)), .val (.int v5_74), .val (.int v6_91), .val (.int v7_164), .val (.int v8_198), .val (.int v9_203), .val (.int v10_222)] [])) (fun _ k => XS.icmpYes X0.here hx rfl (pc0 := 229) (pc' := 240) rfl (hb hby d2_229) rfl (tlt hc229_13).1 (by decide) (by decide) k) ?_
                  refine Goes.step (S' := s₁.setTop (mkF m 241 #[.val (.ref u0), .val (.int p1), .val (.int p2), .val (.int v3_7), .val (.int (2 : Int32)), .val (.int v5_74), .val (.int v6_91), .val (.int v7_164), .val (.int v8_198), .val (.int v9_203), .val (.int v10_222)] [(.int (-1 : Int32))])) (fun _ k => XS.iconst X0.here hx rfl (hb hby d2_240) k) ?_
                  subst ev10_222 ev9_203 ev8_198 ev7_164 ev6_91 ev5_74 ev3_7
                  refine Goes.retI X0 hx Bd.notSynchronized Bd.returns (hb hby d2_241) (by decide) (by decide) ?_
                  refine ⟨congrArg (fun z => some (Value.int z)) ?_, N0, e0⟩
                  rw [f2, if_neg hc12_1, if_neg hc31_2, if_neg hc40_3, if_pos hc53_7, if_pos hc150_10, if_neg hc170_11, if_neg hc177_12, if_pos hc229_13]
                  try rfl
                · refine Goes.step (S' := s₁.setTop (mkF m 232 #[.val (.ref u0), .val (.int p1), .val (.int p2), .val (.int v3_7), .val (.int (2 : Int32)), .val (.int v5_74), .val (.int v6_91), .val (.int v7_164), .val (.int v8_198), .val (.int v9_203), .val (.int v10_222)] [])) (fun _ k => XS.icmpNo X0.here hx rfl (hb hby d2_229) rfl (flt hc229_13).1 k) ?_
                  refine Goes.step (S' := s₁.setTop (mkF m 234 #[.val (.ref u0), .val (.int p1), .val (.int p2), .val (.int v3_7), .val (.int (2 : Int32)), .val (.int v5_74), .val (.int v6_91), .val (.int v7_164), .val (.int v8_198), .val (.int v9_203), .val (.int v10_222)] [(.int v10_222)])) (fun _ k => XS.iload X0.here hx rfl (hb hby d2_232) rfl  k) ?_
                  refine Goes.step (S' := s₁.setTop (mkF m 237 #[.val (.ref u0), .val (.int p1), .val (.int p2), .val (.int v3_7), .val (.int (2 : Int32)), .val (.int v5_74), .val (.int v6_91), .val (.int v7_164), .val (.int v8_198), .val (.int v9_203), .val (.int v10_222)] [(.int (191 : Int32)), (.int v10_222)])) (fun _ k => XS.sipush X0.here hx rfl (hb hby d2_234) k) ?_
                  by_cases hc237_14 : (191 : Int32) < v10_222
                  · refine Goes.step (S' := s₁.setTop (mkF m 240 #[.val (.ref u0), .val (.int p1), .val (.int p2), .val (.int v3_7), .val (.int (2 : Int32)), .val (.int v5_74), .val (.int v6_91), .val (.int v7_164), .val (.int v8_198), .val (.int v9_203), .val (.int v10_222)] [])) (fun _ k => XS.icmpNo X0.here hx rfl (hb hby d2_237) rfl (tlt hc237_14).2.2.2 k) ?_
                    refine Goes.step (S' := s₁.setTop (mkF m 241 #[.val (.ref u0), .val (.int p1), .val (.int p2), .val (.int v3_7), .val (.int (2 : Int32)), .val (.int v5_74), .val (.int v6_91), .val (.int v7_164), .val (.int v8_198), .val (.int v9_203), .val (.int v10_222)] [(.int (-1 : Int32))])) (fun _ k => XS.iconst X0.here hx rfl (hb hby d2_240) k) ?_
                    subst ev10_222 ev9_203 ev8_198 ev7_164 ev6_91 ev5_74 ev3_7
                    refine Goes.retI X0 hx Bd.notSynchronized Bd.returns (hb hby d2_241) (by decide) (by decide) ?_
                    refine ⟨congrArg (fun z => some (Value.int z)) ?_, N0, e0⟩
                    rw [f2, if_neg hc12_1, if_neg hc31_2, if_neg hc40_3, if_pos hc53_7, if_pos hc150_10, if_neg hc170_11, if_neg hc177_12, if_neg hc229_13, if_pos hc237_14]
                    try rfl
                  · refine Goes.step (S' := s₁.setTop (mkF m 242 #[.val (.ref u0), .val (.int p1), .val (.int p2), .val (.int v3_7), .val (.int (2 : Int32)), .val (.int v5_74), .val (.int v6_91), .val (.int v7_164), .val (.int v8_198), .val (.int v9_203), .val (.int v10_222)] [])) (fun _ k => XS.icmpYes X0.here hx rfl (pc0 := 237) (pc' := 242) rfl (hb hby d2_237) rfl (flt hc237_14).2.2.2 (by decide) (by decide) k) ?_
                    refine Goes.step (S' := s₁.setTop (mkF m 244 #[.val (.ref u0), .val (.int p1), .val (.int p2), .val (.int v3_7), .val (.int (2 : Int32)), .val (.int v5_74), .val (.int v6_91), .val (.int v7_164), .val (.int v8_198), .val (.int v9_203), .val (.int v10_222)] [(.int v8_198)])) (fun _ k => XS.iload X0.here hx rfl (hb hby d2_242) rfl  k) ?_
                    refine Goes.step (S' := s₁.setTop (mkF m 246 #[.val (.ref u0), .val (.int p1), .val (.int p2), .val (.int v3_7), .val (.int (2 : Int32)), .val (.int v5_74), .val (.int v6_91), .val (.int v7_164), .val (.int v8_198), .val (.int v9_203), .val (.int v10_222)] [(.int (6 : Int32)), (.int v8_198)])) (fun _ k => XS.bipush X0.here hx rfl (hb hby d2_244) k) ?_
                    refine Goes.step (S' := s₁.setTop (mkF m 247 #[.val (.ref u0), .val (.int p1), .val (.int p2), .val (.int v3_7), .val (.int (2 : Int32)), .val (.int v5_74), .val (.int v6_91), .val (.int v7_164), .val (.int v8_198), .val (.int v9_203), .val (.int v10_222)] [(.int (v8_198 <<< ((6 : Int32) &&& 31)))])) (fun _ k => XS.ishl X0.here hx rfl (hb hby d2_246) rfl k) ?_
                    refine Goes.step (S' := s₁.setTop (mkF m 249 #[.val (.ref u0), .val (.int p1), .val (.int p2), .val (.int v3_7), .val (.int (2 : Int32)), .val (.int v5_74), .val (.int v6_91), .val (.int v7_164), .val (.int v8_198), .val (.int v9_203), .val (.int v10_222)] [(.int v10_222), (.int (v8_198 <<< ((6 : Int32) &&& 31)))])) (fun _ k => XS.iload X0.here hx rfl (hb hby d2_247) rfl  k) ?_
                    refine Goes.step (S' := s₁.setTop (mkF m 251 #[.val (.ref u0), .val (.int p1), .val (.int p2), .val (.int v3_7), .val (.int (2 : Int32)), .val (.int v5_74), .val (.int v6_91), .val (.int v7_164), .val (.int v8_198), .val (.int v9_203), .val (.int v10_222)] [(.int (63 : Int32)), (.int v10_222), (.int (v8_198 <<< ((6 : Int32) &&& 31)))])) (fun _ k => XS.bipush X0.here hx rfl (hb hby d2_249) k) ?_
                    refine Goes.step (S' := s₁.setTop (mkF m 252 #[.val (.ref u0), .val (.int p1), .val (.int p2), .val (.int v3_7), .val (.int (2 : Int32)), .val (.int v5_74), .val (.int v6_91), .val (.int v7_164), .val (.int v8_198), .val (.int v9_203), .val (.int v10_222)] [(.int (v10_222 &&& (63 : Int32))), (.int (v8_198 <<< ((6 : Int32) &&& 31)))])) (fun _ k => XS.iand X0.here hx rfl (hb hby d2_251) rfl k) ?_
                    refine Goes.step (S' := s₁.setTop (mkF m 253 #[.val (.ref u0), .val (.int p1), .val (.int p2), .val (.int v3_7), .val (.int (2 : Int32)), .val (.int v5_74), .val (.int v6_91), .val (.int v7_164), .val (.int v8_198), .val (.int v9_203), .val (.int v10_222)] [(.int ((v8_198 <<< ((6 : Int32) &&& 31)) ||| (v10_222 &&& (63 : Int32))))])) (fun _ k => XS.ior X0.here hx rfl (hb hby d2_252) rfl k) ?_
                    refine Goes.step (S' := s₁.setTop (mkF m 255 #[.val (.ref u0), .val (.int p1), .val (.int p2), .val (.int v3_7), .val (.int (2 : Int32)), .val (.int v5_74), .val (.int v6_91), .val (.int v7_164), .val (.int ((v8_198 <<< ((6 : Int32) &&& 31)) ||| (v10_222 &&& (63 : Int32)))), .val (.int v9_203), .val (.int v10_222)] [])) (fun _ k => XS.istore X0.here hx rfl (hb hby d2_253) rfl (l' := #[.val (.ref u0), .val (.int p1), .val (.int p2), .val (.int v3_7), .val (.int (2 : Int32)), .val (.int v5_74), .val (.int v6_91), .val (.int v7_164), .val (.int ((v8_198 <<< ((6 : Int32) &&& 31)) ||| (v10_222 &&& (63 : Int32)))), .val (.int v9_203), .val (.int v10_222)]) rfl k) ?_
                    obtain ⟨v8_253, ev8_253⟩ : ∃ z : Int32, z = ((v8_198 <<< ((6 : Int32) &&& 31)) ||| (v10_222 &&& (63 : Int32))) := ⟨_, rfl⟩
                    rw [← ev8_253]
                    refine Goes.step (S' := s₁.setTop (mkF m 258 #[.val (.ref u0), .val (.int p1), .val (.int p2), .val (.int v3_7), .val (.int (2 : Int32)), .val (.int v5_74), .val (.int v6_91), .val (.int v7_164), .val (.int v8_253), .val (.int (v9_203 + (1 : Int32))), .val (.int v10_222)] [])) (fun _ k => XS.iinc X0.here hx rfl (hb hby d2_255) rfl (l' := #[.val (.ref u0), .val (.int p1), .val (.int p2), .val (.int v3_7), .val (.int (2 : Int32)), .val (.int v5_74), .val (.int v6_91), .val (.int v7_164), .val (.int v8_253), .val (.int (v9_203 + (1 : Int32))), .val (.int v10_222)]) rfl k) ?_
                    refine Goes.step (S' := s₁.setTop (mkF m 205 #[.val (.ref u0), .val (.int p1), .val (.int p2), .val (.int v3_7), .val (.int (2 : Int32)), .val (.int v5_74), .val (.int v6_91), .val (.int v7_164), .val (.int v8_253), .val (.int (v9_203 + (1 : Int32))), .val (.int v10_222)] [])) (fun _ k => XS.goto X0.here hx rfl (pc0 := 258) (pc' := 205) rfl (hb hby d2_258) (by decide) (by decide) k) ?_
                    refine Goes.step (S' := s₁.setTop (mkF m 207 #[.val (.ref u0), .val (.int p1), .val (.int p2), .val (.int v3_7), .val (.int (2 : Int32)), .val (.int v5_74), .val (.int v6_91), .val (.int v7_164), .val (.int v8_253), .val (.int (v9_203 + (1 : Int32))), .val (.int v10_222)] [(.int (v9_203 + (1 : Int32)))])) (fun _ k => XS.iload X0.here hx rfl (hb hby d2_205) rfl  k) ?_
                    refine Goes.step (S' := s₁.setTop (mkF m 208 #[.val (.ref u0), .val (.int p1), .val (.int p2), .val (.int v3_7), .val (.int (2 : Int32)), .val (.int v5_74), .val (.int v6_91), .val (.int v7_164), .val (.int v8_253), .val (.int (v9_203 + (1 : Int32))), .val (.int v10_222)] [(.int p1), (.int (v9_203 + (1 : Int32)))])) (fun _ k => XS.iloadN X0.here hx rfl (hb hby d2_207) rfl  k) ?_
                    refine Goes.step (S' := s₁.setTop (mkF m 210 #[.val (.ref u0), .val (.int p1), .val (.int p2), .val (.int v3_7), .val (.int (2 : Int32)), .val (.int v5_74), .val (.int v6_91), .val (.int v7_164), .val (.int v8_253), .val (.int (v9_203 + (1 : Int32))), .val (.int v10_222)] [(.int (2 : Int32)), (.int p1), (.int (v9_203 + (1 : Int32)))])) (fun _ k => XS.iload X0.here hx rfl (hb hby d2_208) rfl  k) ?_
                    refine Goes.step (S' := s₁.setTop (mkF m 211 #[.val (.ref u0), .val (.int p1), .val (.int p2), .val (.int v3_7), .val (.int (2 : Int32)), .val (.int v5_74), .val (.int v6_91), .val (.int v7_164), .val (.int v8_253), .val (.int (v9_203 + (1 : Int32))), .val (.int v10_222)] [(.int (p1 + (2 : Int32))), (.int (v9_203 + (1 : Int32)))])) (fun _ k => XS.iadd X0.here hx rfl (hb hby d2_210) rfl k) ?_
                    refine Goes.step (S' := s₁.setTop (mkF m 261 #[.val (.ref u0), .val (.int p1), .val (.int p2), .val (.int v3_7), .val (.int (2 : Int32)), .val (.int v5_74), .val (.int v6_91), .val (.int v7_164), .val (.int v8_253), .val (.int (v9_203 + (1 : Int32))), .val (.int v10_222)] [])) (fun _ k => XS.icmpYes X0.here hx rfl (pc0 := 211) (pc' := 261) rfl (hb hby d2_211) rfl (tlt (own_hc2_211_3 n_u0 vs_u0 hl_u0 hn_u0 p1 p2 hB hb2 hb3 hb4 v3_7 ev3_7 hc12_1 hc31_2 hc40_3 hc53_7 v5_74 ev5_74 v6_91 ev6_91 hc150_10 v7_164 ev7_164 hc170_11 hc177_12 v8_198 ev8_198 v9_203 ev9_203 v10_222 ev10_222 hc229_13 hc237_14 v8_253 ev8_253)).2.2.1 (by decide) (by decide) k) ?_
                    refine Goes.step (S' := s₁.setTop (mkF m 263 #[.val (.ref u0), .val (.int p1), .val (.int p2), .val (.int v3_7), .val (.int (2 : Int32)), .val (.int v5_74), .val (.int v6_91), .val (.int v7_164), .val (.int v8_253), .val (.int (v9_203 + (1 : Int32))), .val (.int v10_222)] [(.int v8_253)])) (fun _ k => XS.iload X0.here hx rfl (hb hby d2_261) rfl  k) ?_
                    subst ev8_253 ev10_222 ev9_203 ev8_198 ev7_164 ev6_91 ev5_74 ev3_7
                    refine Goes.retI X0 hx Bd.notSynchronized Bd.returns (hb hby d2_263) (by decide) (by decide) ?_
                    refine ⟨congrArg (fun z => some (Value.int z)) ?_, N0, e0⟩
                    rw [f2, if_neg hc12_1, if_neg hc31_2, if_neg hc40_3, if_pos hc53_7, if_pos hc150_10, if_neg hc170_11, if_neg hc177_12, if_neg hc229_13, if_neg hc237_14]
                    try rfl
          · refine Goes.step (S' := s₁.setTop (mkF m 153 #[.val (.ref u0), .val (.int p1), .val (.int p2), .val (.int v3_7), .val (.int (2 : Int32)), .val (.int v5_74), .val (.int v6_91), .unset, .unset, .unset, .unset] [])) (fun _ k => XS.icmpNo X0.here hx rfl (hb hby d2_150) rfl (flt hc150_10).2.2.1 k) ?_
            refine Goes.step (S' := s₁.setTop (mkF m 154 #[.val (.ref u0), .val (.int p1), .val (.int p2), .val (.int v3_7), .val (.int (2 : Int32)), .val (.int v5_74), .val (.int v6_91), .unset, .unset, .unset, .unset] [(.int (-1 : Int32))])) (fun _ k => XS.iconst X0.here hx rfl (hb hby d2_153) k) ?_
            subst ev6_91 ev5_74 ev3_7
            refine Goes.retI X0 hx Bd.notSynchronized Bd.returns (hb hby d2_154) (by decide) (by decide) ?_
            refine ⟨congrArg (fun z => some (Value.int z)) ?_, N0, e0⟩
            rw [f2, if_neg hc12_1, if_neg hc31_2, if_neg hc40_3, if_pos hc53_7, if_neg hc150_10]
            try rfl
        · refine Goes.step (S' := s₁.setTop (mkF m 96 #[.val (.ref u0), .val (.int p1), .val (.int p2), .val (.int v3_7), .unset, .val (.int (128 : Int32)), .val (.int (191 : Int32)), .unset, .unset, .unset, .unset] [])) (fun _ k => XS.icmpYes X0.here hx rfl (pc0 := 53) (pc' := 96) rfl (hb hby d2_53) rfl (flt hc53_7).2.1 (by decide) (by decide) k) ?_
          refine Goes.step (S' := s₁.setTop (mkF m 97 #[.val (.ref u0), .val (.int p1), .val (.int p2), .val (.int v3_7), .unset, .val (.int (128 : Int32)), .val (.int (191 : Int32)), .unset, .unset, .unset, .unset] [(.int v3_7)])) (fun _ k => XS.iloadN X0.here hx rfl (hb hby d2_96) rfl  k) ?_
          refine Goes.step (S' := s₁.setTop (mkF m 100 #[.val (.ref u0), .val (.int p1), .val (.int p2), .val (.int v3_7), .unset, .val (.int (128 : Int32)), .val (.int (191 : Int32)), .unset, .unset, .unset, .unset] [(.int (245 : Int32)), (.int v3_7)])) (fun _ k => XS.sipush X0.here hx rfl (hb hby d2_97) k) ?_
          by_cases hc100_15 : v3_7 < (245 : Int32)
          · refine Goes.step (S' := s₁.setTop (mkF m 103 #[.val (.ref u0), .val (.int p1), .val (.int p2), .val (.int v3_7), .unset, .val (.int (128 : Int32)), .val (.int (191 : Int32)), .unset, .unset, .unset, .unset] [])) (fun _ k => XS.icmpNo X0.here hx rfl (hb hby d2_100) rfl (tlt hc100_15).2.1 k) ?_
            refine Goes.step (S' := s₁.setTop (mkF m 104 #[.val (.ref u0), .val (.int p1), .val (.int p2), .val (.int v3_7), .unset, .val (.int (128 : Int32)), .val (.int (191 : Int32)), .unset, .unset, .unset, .unset] [(.int (3 : Int32))])) (fun _ k => XS.iconst X0.here hx rfl (hb hby d2_103) k) ?_
            refine Goes.step (S' := s₁.setTop (mkF m 106 #[.val (.ref u0), .val (.int p1), .val (.int p2), .val (.int v3_7), .val (.int (3 : Int32)), .val (.int (128 : Int32)), .val (.int (191 : Int32)), .unset, .unset, .unset, .unset] [])) (fun _ k => XS.istore X0.here hx rfl (hb hby d2_104) rfl (l' := #[.val (.ref u0), .val (.int p1), .val (.int p2), .val (.int v3_7), .val (.int (3 : Int32)), .val (.int (128 : Int32)), .val (.int (191 : Int32)), .unset, .unset, .unset, .unset]) rfl k) ?_
            refine Goes.step (S' := s₁.setTop (mkF m 107 #[.val (.ref u0), .val (.int p1), .val (.int p2), .val (.int v3_7), .val (.int (3 : Int32)), .val (.int (128 : Int32)), .val (.int (191 : Int32)), .unset, .unset, .unset, .unset] [(.int v3_7)])) (fun _ k => XS.iloadN X0.here hx rfl (hb hby d2_106) rfl  k) ?_
            refine Goes.step (S' := s₁.setTop (mkF m 110 #[.val (.ref u0), .val (.int p1), .val (.int p2), .val (.int v3_7), .val (.int (3 : Int32)), .val (.int (128 : Int32)), .val (.int (191 : Int32)), .unset, .unset, .unset, .unset] [(.int (240 : Int32)), (.int v3_7)])) (fun _ k => XS.sipush X0.here hx rfl (hb hby d2_107) k) ?_
            refine Goes.step (own_ite1 (T := s₁) (c := v3_7 = (240 : Int32)) (a0 := (144 : Int32)) (b0 := (128 : Int32)) (F := fun z16_0 => (mkF m 121 #[.val (.ref u0), .val (.int p1), .val (.int p2), .val (.int v3_7), .val (.int (3 : Int32)), .val (.int (128 : Int32)), .val (.int (191 : Int32)), .unset, .unset, .unset, .unset] [(.int z16_0)])) ?_ ?_) ?_
            · intro hc110_16 t k
              refine XS.icmpNo X0.here hx rfl (hb hby d2_110) rfl (teq hc110_16).2 ?_
              show Steps p.tables e below (s₁.setTop (mkF m 113 #[.val (.ref u0), .val (.int p1), .val (.int p2), .val (.int v3_7), .val (.int (3 : Int32)), .val (.int (128 : Int32)), .val (.int (191 : Int32)), .unset, .unset, .unset, .unset] [])) _
              refine XS.sipush X0.here hx rfl (hb hby d2_113) ?_
              show Steps p.tables e below (s₁.setTop (mkF m 116 #[.val (.ref u0), .val (.int p1), .val (.int p2), .val (.int v3_7), .val (.int (3 : Int32)), .val (.int (128 : Int32)), .val (.int (191 : Int32)), .unset, .unset, .unset, .unset] [(.int (144 : Int32))])) _
              refine XS.goto X0.here hx rfl (pc0 := 116) (pc' := 121) rfl (hb hby d2_116) (by decide) (by decide) ?_
              show Steps p.tables e below (s₁.setTop (mkF m 121 #[.val (.ref u0), .val (.int p1), .val (.int p2), .val (.int v3_7), .val (.int (3 : Int32)), .val (.int (128 : Int32)), .val (.int (191 : Int32)), .unset, .unset, .unset, .unset] [(.int (144 : Int32))])) _
              exact k
            · intro hc110_16 t k
              refine XS.icmpYes X0.here hx rfl (pc0 := 110) (pc' := 119) rfl (hb hby d2_110) rfl (feq hc110_16).2 (by decide) (by decide) ?_
              show Steps p.tables e below (s₁.setTop (mkF m 119 #[.val (.ref u0), .val (.int p1), .val (.int p2), .val (.int v3_7), .val (.int (3 : Int32)), .val (.int (128 : Int32)), .val (.int (191 : Int32)), .unset, .unset, .unset, .unset] [])) _
              refine XS.iload X0.here hx rfl (hb hby d2_119) rfl  ?_
              show Steps p.tables e below (s₁.setTop (mkF m 121 #[.val (.ref u0), .val (.int p1), .val (.int p2), .val (.int v3_7), .val (.int (3 : Int32)), .val (.int (128 : Int32)), .val (.int (191 : Int32)), .unset, .unset, .unset, .unset] [(.int (128 : Int32))])) _
              exact k
            show Goes p.tables e below _ (s₁.setTop (mkF m 121 #[.val (.ref u0), .val (.int p1), .val (.int p2), .val (.int v3_7), .val (.int (3 : Int32)), .val (.int (128 : Int32)), .val (.int (191 : Int32)), .unset, .unset, .unset, .unset] [(.int (if v3_7 = (240 : Int32) then (144 : Int32) else (128 : Int32)))]))
            refine Goes.step (S' := s₁.setTop (mkF m 123 #[.val (.ref u0), .val (.int p1), .val (.int p2), .val (.int v3_7), .val (.int (3 : Int32)), .val (.int (if v3_7 = (240 : Int32) then (144 : Int32) else (128 : Int32))), .val (.int (191 : Int32)), .unset, .unset, .unset, .unset] [])) (fun _ k => XS.istore X0.here hx rfl (hb hby d2_121) rfl (l' := #[.val (.ref u0), .val (.int p1), .val (.int p2), .val (.int v3_7), .val (.int (3 : Int32)), .val (.int (if v3_7 = (240 : Int32) then (144 : Int32) else (128 : Int32))), .val (.int (191 : Int32)), .unset, .unset, .unset, .unset]) rfl k) ?_
            obtain ⟨v5_121, ev5_121⟩ : ∃ z : Int32, z = (if v3_7 = (240 : Int32) then (144 : Int32) else (128 : Int32)) := ⟨_, rfl⟩
            rw [← ev5_121]
            refine Goes.step (S' := s₁.setTop (mkF m 124 #[.val (.ref u0), .val (.int p1), .val (.int p2), .val (.int v3_7), .val (.int (3 : Int32)), .val (.int v5_121), .val (.int (191 : Int32)), .unset, .unset, .unset, .unset] [(.int v3_7)])) (fun _ k => XS.iloadN X0.here hx rfl (hb hby d2_123) rfl  k) ?_
            refine Goes.step (S' := s₁.setTop (mkF m 127 #[.val (.ref u0), .val (.int p1), .val (.int p2), .val (.int v3_7), .val (.int (3 : Int32)), .val (.int v5_121), .val (.int (191 : Int32)), .unset, .unset, .unset, .unset] [(.int (244 : Int32)), (.int v3_7)])) (fun _ k => XS.sipush X0.here hx rfl (hb hby d2_124) k) ?_
            refine Goes.step (own_ite1 (T := s₁) (c := v3_7 = (244 : Int32)) (a0 := (143 : Int32)) (b0 := (191 : Int32)) (F := fun z17_0 => (mkF m 138 #[.val (.ref u0), .val (.int p1), .val (.int p2), .val (.int v3_7), .val (.int (3 : Int32)), .val (.int v5_121), .val (.int (191 : Int32)), .unset, .unset, .unset, .unset] [(.int z17_0)])) ?_ ?_) ?_
            · intro hc127_17 t k
              refine XS.icmpNo X0.here hx rfl (hb hby d2_127) rfl (teq hc127_17).2 ?_
              show Steps p.tables e below (s₁.setTop (mkF m 130 #[.val (.ref u0), .val (.int p1), .val (.int p2), .val (.int v3_7), .val (.int (3 : Int32)), .val (.int v5_121), .val (.int (191 : Int32)), .unset, .unset, .unset, .unset] [])) _
              refine XS.sipush X0.here hx rfl (hb hby d2_130) ?_
              show Steps p.tables e below (s₁.setTop (mkF m 133 #[.val (.ref u0), .val (.int p1), .val (.int p2), .val (.int v3_7), .val (.int (3 : Int32)), .val (.int v5_121), .val (.int (191 : Int32)), .unset, .unset, .unset, .unset] [(.int (143 : Int32))])) _
              refine XS.goto X0.here hx rfl (pc0 := 133) (pc' := 138) rfl (hb hby d2_133) (by decide) (by decide) ?_
              show Steps p.tables e below (s₁.setTop (mkF m 138 #[.val (.ref u0), .val (.int p1), .val (.int p2), .val (.int v3_7), .val (.int (3 : Int32)), .val (.int v5_121), .val (.int (191 : Int32)), .unset, .unset, .unset, .unset] [(.int (143 : Int32))])) _
              exact k
            · intro hc127_17 t k
              refine XS.icmpYes X0.here hx rfl (pc0 := 127) (pc' := 136) rfl (hb hby d2_127) rfl (feq hc127_17).2 (by decide) (by decide) ?_
              show Steps p.tables e below (s₁.setTop (mkF m 136 #[.val (.ref u0), .val (.int p1), .val (.int p2), .val (.int v3_7), .val (.int (3 : Int32)), .val (.int v5_121), .val (.int (191 : Int32)), .unset, .unset, .unset, .unset] [])) _
              refine XS.iload X0.here hx rfl (hb hby d2_136) rfl  ?_
              show Steps p.tables e below (s₁.setTop (mkF m 138 #[.val (.ref u0), .val (.int p1), .val (.int p2), .val (.int v3_7), .val (.int (3 : Int32)), .val (.int v5_121), .val (.int (191 : Int32)), .unset, .unset, .unset, .unset] [(.int (191 : Int32))])) _
              exact k
            show Goes p.tables e below _ (s₁.setTop (mkF m 138 #[.val (.ref u0), .val (.int p1), .val (.int p2), .val (.int v3_7), .val (.int (3 : Int32)), .val (.int v5_121), .val (.int (191 : Int32)), .unset, .unset, .unset, .unset] [(.int (if v3_7 = (244 : Int32) then (143 : Int32) else (191 : Int32)))]))
            refine Goes.step (S' := s₁.setTop (mkF m 140 #[.val (.ref u0), .val (.int p1), .val (.int p2), .val (.int v3_7), .val (.int (3 : Int32)), .val (.int v5_121), .val (.int (if v3_7 = (244 : Int32) then (143 : Int32) else (191 : Int32))), .unset, .unset, .unset, .unset] [])) (fun _ k => XS.istore X0.here hx rfl (hb hby d2_138) rfl (l' := #[.val (.ref u0), .val (.int p1), .val (.int p2), .val (.int v3_7), .val (.int (3 : Int32)), .val (.int v5_121), .val (.int (if v3_7 = (244 : Int32) then (143 : Int32) else (191 : Int32))), .unset, .unset, .unset, .unset]) rfl k) ?_
            obtain ⟨v6_138, ev6_138⟩ : ∃ z : Int32, z = (if v3_7 = (244 : Int32) then (143 : Int32) else (191 : Int32)) := ⟨_, rfl⟩
            rw [← ev6_138]
            refine Goes.step (S' := s₁.setTop (mkF m 145 #[.val (.ref u0), .val (.int p1), .val (.int p2), .val (.int v3_7), .val (.int (3 : Int32)), .val (.int v5_121), .val (.int v6_138), .unset, .unset, .unset, .unset] [])) (fun _ k => XS.goto X0.here hx rfl (pc0 := 140) (pc' := 145) rfl (hb hby d2_140) (by decide) (by decide) k) ?_
            refine Goes.step (S' := s₁.setTop (mkF m 146 #[.val (.ref u0), .val (.int p1), .val (.int p2), .val (.int v3_7), .val (.int (3 : Int32)), .val (.int v5_121), .val (.int v6_138), .unset, .unset, .unset, .unset] [(.int p2)])) (fun _ k => XS.iloadN X0.here hx rfl (hb hby d2_145) rfl  k) ?_
            refine Goes.step (S' := s₁.setTop (mkF m 147 #[.val (.ref u0), .val (.int p1), .val (.int p2), .val (.int v3_7), .val (.int (3 : Int32)), .val (.int v5_121), .val (.int v6_138), .unset, .unset, .unset, .unset] [(.int p1), (.int p2)])) (fun _ k => XS.iloadN X0.here hx rfl (hb hby d2_146) rfl  k) ?_
            refine Goes.step (S' := s₁.setTop (mkF m 148 #[.val (.ref u0), .val (.int p1), .val (.int p2), .val (.int v3_7), .val (.int (3 : Int32)), .val (.int v5_121), .val (.int v6_138), .unset, .unset, .unset, .unset] [(.int (p2 - p1))])) (fun _ k => XS.isub X0.here hx rfl (hb hby d2_147) rfl k) ?_
            refine Goes.step (S' := s₁.setTop (mkF m 150 #[.val (.ref u0), .val (.int p1), .val (.int p2), .val (.int v3_7), .val (.int (3 : Int32)), .val (.int v5_121), .val (.int v6_138), .unset, .unset, .unset, .unset] [(.int (3 : Int32)), (.int (p2 - p1))])) (fun _ k => XS.iload X0.here hx rfl (hb hby d2_148) rfl  k) ?_
            by_cases hc150_18 : (3 : Int32) < (p2 - p1)
            · refine Goes.step (S' := s₁.setTop (mkF m 155 #[.val (.ref u0), .val (.int p1), .val (.int p2), .val (.int v3_7), .val (.int (3 : Int32)), .val (.int v5_121), .val (.int v6_138), .unset, .unset, .unset, .unset] [])) (fun _ k => XS.icmpYes X0.here hx rfl (pc0 := 150) (pc' := 155) rfl (hb hby d2_150) rfl (tlt hc150_18).2.2.1 (by decide) (by decide) k) ?_
              refine Goes.step (S' := s₁.setTop (mkF m 156 #[.val (.ref u0), .val (.int p1), .val (.int p2), .val (.int v3_7), .val (.int (3 : Int32)), .val (.int v5_121), .val (.int v6_138), .unset, .unset, .unset, .unset] [(.ref u0)])) (fun _ k => XS.aloadN X0.here hx rfl (hb hby d2_155) rfl rfl k) ?_
              refine Goes.step (S' := s₁.setTop (mkF m 157 #[.val (.ref u0), .val (.int p1), .val (.int p2), .val (.int v3_7), .val (.int (3 : Int32)), .val (.int v5_121), .val (.int v6_138), .unset, .unset, .unset, .unset] [(.int p1), (.ref u0)])) (fun _ k => XS.iloadN X0.here hx rfl (hb hby d2_156) rfl  k) ?_
              refine Goes.step (S' := s₁.setTop (mkF m 158 #[.val (.ref u0), .val (.int p1), .val (.int p2), .val (.int v3_7), .val (.int (3 : Int32)), .val (.int v5_121), .val (.int v6_138), .unset, .unset, .unset, .unset] [(.int (1 : Int32)), (.int p1), (.ref u0)])) (fun _ k => XS.iconst X0.here hx rfl (hb hby d2_157) k) ?_
              refine Goes.step (S' := s₁.setTop (mkF m 159 #[.val (.ref u0), .val (.int p1), .val (.int p2), .val (.int v3_7), .val (.int (3 : Int32)), .val (.int v5_121), .val (.int v6_138), .unset, .unset, .unset, .unset] [(.int (p1 + (1 : Int32))), (.ref u0)])) (fun _ k => XS.iadd X0.here hx rfl (hb hby d2_158) rfl k) ?_
              refine Goes.step (S' := s₁.setTop (mkF m 160 #[.val (.ref u0), .val (.int p1), .val (.int p2), .val (.int v3_7), .val (.int (3 : Int32)), .val (.int v5_121), .val (.int v6_138), .unset, .unset, .unset, .unset] [(.int (vs_u0.getD ((p1 + (1 : Int32))).toNatClampNeg 0))])) (fun _ k => own_baload X0 hx hZ e0 V_u0 (own_ix2_159_3 n_u0 vs_u0 hl_u0 hn_u0 p1 p2 hB hb2 hb3 hb4 v3_7 ev3_7 hc12_1 hc31_2 hc40_3 hc53_7 hc100_15 v5_121 ev5_121 v6_138 ev6_138 hc150_18) (hb hby d2_159) _ k) ?_
              refine Goes.step (S' := s₁.setTop (mkF m 163 #[.val (.ref u0), .val (.int p1), .val (.int p2), .val (.int v3_7), .val (.int (3 : Int32)), .val (.int v5_121), .val (.int v6_138), .unset, .unset, .unset, .unset] [(.int (255 : Int32)), (.int (vs_u0.getD ((p1 + (1 : Int32))).toNatClampNeg 0))])) (fun _ k => XS.sipush X0.here hx rfl (hb hby d2_160) k) ?_
              refine Goes.step (S' := s₁.setTop (mkF m 164 #[.val (.ref u0), .val (.int p1), .val (.int p2), .val (.int v3_7), .val (.int (3 : Int32)), .val (.int v5_121), .val (.int v6_138), .unset, .unset, .unset, .unset] [(.int ((vs_u0.getD ((p1 + (1 : Int32))).toNatClampNeg 0) &&& (255 : Int32)))])) (fun _ k => XS.iand X0.here hx rfl (hb hby d2_163) rfl k) ?_
              refine Goes.step (S' := s₁.setTop (mkF m 166 #[.val (.ref u0), .val (.int p1), .val (.int p2), .val (.int v3_7), .val (.int (3 : Int32)), .val (.int v5_121), .val (.int v6_138), .val (.int ((vs_u0.getD ((p1 + (1 : Int32))).toNatClampNeg 0) &&& (255 : Int32))), .unset, .unset, .unset] [])) (fun _ k => XS.istore X0.here hx rfl (hb hby d2_164) rfl (l' := #[.val (.ref u0), .val (.int p1), .val (.int p2), .val (.int v3_7), .val (.int (3 : Int32)), .val (.int v5_121), .val (.int v6_138), .val (.int ((vs_u0.getD ((p1 + (1 : Int32))).toNatClampNeg 0) &&& (255 : Int32))), .unset, .unset, .unset]) rfl k) ?_
              obtain ⟨v7_164, ev7_164⟩ : ∃ z : Int32, z = ((vs_u0.getD ((p1 + (1 : Int32))).toNatClampNeg 0) &&& (255 : Int32)) := ⟨_, rfl⟩
              rw [← ev7_164]
              refine Goes.step (S' := s₁.setTop (mkF m 168 #[.val (.ref u0), .val (.int p1), .val (.int p2), .val (.int v3_7), .val (.int (3 : Int32)), .val (.int v5_121), .val (.int v6_138), .val (.int v7_164), .unset, .unset, .unset] [(.int v7_164)])) (fun _ k => XS.iload X0.here hx rfl (hb hby d2_166) rfl  k) ?_
              refine Goes.step (S' := s₁.setTop (mkF m 170 #[.val (.ref u0), .val (.int p1), .val (.int p2), .val (.int v3_7), .val (.int (3 : Int32)), .val (.int v5_121), .val (.int v6_138), .val (.int v7_164), .unset, .unset, .unset] [(.int v5_121), (.int v7_164)])) (fun _ k => XS.iload X0.here hx rfl (hb hby d2_168) rfl  k) ?_
              by_cases hc170_19 : v7_164 < v5_121
              · refine Goes.step (S' := s₁.setTop (mkF m 180 #[.val (.ref u0), .val (.int p1), .val (.int p2), .val (.int v3_7), .val (.int (3 : Int32)), .val (.int v5_121), .val (.int v6_138), .val (.int v7_164), .unset, .unset, .unset] [])) (fun _ k => XS.icmpYes X0.here hx rfl (pc0 := 170) (pc' := 180) rfl (hb hby d2_170) rfl (tlt hc170_19).1 (by decide) (by decide) k) ?_
                refine Goes.step (S' := s₁.setTop (mkF m 181 #[.val (.ref u0), .val (.int p1), .val (.int p2), .val (.int v3_7), .val (.int (3 : Int32)), .val (.int v5_121), .val (.int v6_138), .val (.int v7_164), .unset, .unset, .unset] [(.int (-1 : Int32))])) (fun _ k => XS.iconst X0.here hx rfl (hb hby d2_180) k) ?_
                subst ev7_164 ev6_138 ev5_121 ev3_7
                refine Goes.retI X0 hx Bd.notSynchronized Bd.returns (hb hby d2_181) (by decide) (by decide) ?_
                refine ⟨congrArg (fun z => some (Value.int z)) ?_, N0, e0⟩
                rw [f2, if_neg hc12_1, if_neg hc31_2, if_neg hc40_3, if_neg hc53_7, if_pos hc100_15, if_pos hc150_18, if_pos hc170_19]
                try rfl
              · refine Goes.step (S' := s₁.setTop (mkF m 173 #[.val (.ref u0), .val (.int p1), .val (.int p2), .val (.int v3_7), .val (.int (3 : Int32)), .val (.int v5_121), .val (.int v6_138), .val (.int v7_164), .unset, .unset, .unset] [])) (fun _ k => XS.icmpNo X0.here hx rfl (hb hby d2_170) rfl (flt hc170_19).1 k) ?_
                refine Goes.step (S' := s₁.setTop (mkF m 175 #[.val (.ref u0), .val (.int p1), .val (.int p2), .val (.int v3_7), .val (.int (3 : Int32)), .val (.int v5_121), .val (.int v6_138), .val (.int v7_164), .unset, .unset, .unset] [(.int v7_164)])) (fun _ k => XS.iload X0.here hx rfl (hb hby d2_173) rfl  k) ?_
                refine Goes.step (S' := s₁.setTop (mkF m 177 #[.val (.ref u0), .val (.int p1), .val (.int p2), .val (.int v3_7), .val (.int (3 : Int32)), .val (.int v5_121), .val (.int v6_138), .val (.int v7_164), .unset, .unset, .unset] [(.int v6_138), (.int v7_164)])) (fun _ k => XS.iload X0.here hx rfl (hb hby d2_175) rfl  k) ?_
                by_cases hc177_20 : v6_138 < v7_164
                · refine Goes.step (S' := s₁.setTop (mkF m 180 #[.val (.ref u0), .val (.int p1), .val (.int p2), .val (.int v3_7), .val (.int (3 : Int32)), .val (.int v5_121), .val (.int v6_138), .val (.int v7_164), .unset, .unset, .unset] [])) (fun _ k => XS.icmpNo X0.here hx rfl (hb hby d2_177) rfl (tlt hc177_20).2.2.2 k) ?_
                  refine Goes.step (S' := s₁.setTop (mkF m 181 #[.val (.ref u0), .val (.int p1), .val (.int p2), .val (.int v3_7), .val (.int (3 : Int32)), .val (.int v5_121), .val (.int v6_138), .val (.int v7_164), .unset, .unset, .unset] [(.int (-1 : Int32))])) (fun _ k => XS.iconst X0.here hx rfl (hb hby d2_180) k) ?_
                  subst ev7_164 ev6_138 ev5_121 ev3_7
                  refine Goes.retI X0 hx Bd.notSynchronized Bd.returns (hb hby d2_181) (by decide) (by decide) ?_
                  refine ⟨congrArg (fun z => some (Value.int z)) ?_, N0, e0⟩
                  rw [f2, if_neg hc12_1, if_neg hc31_2, if_neg hc40_3, if_neg hc53_7, if_pos hc100_15, if_pos hc150_18, if_neg hc170_19, if_pos hc177_20]
                  try rfl
                · refine Goes.step (S' := s₁.setTop (mkF m 182 #[.val (.ref u0), .val (.int p1), .val (.int p2), .val (.int v3_7), .val (.int (3 : Int32)), .val (.int v5_121), .val (.int v6_138), .val (.int v7_164), .unset, .unset, .unset] [])) (fun _ k => XS.icmpYes X0.here hx rfl (pc0 := 177) (pc' := 182) rfl (hb hby d2_177) rfl (flt hc177_20).2.2.2 (by decide) (by decide) k) ?_
                  refine Goes.step (S' := s₁.setTop (mkF m 183 #[.val (.ref u0), .val (.int p1), .val (.int p2), .val (.int v3_7), .val (.int (3 : Int32)), .val (.int v5_121), .val (.int v6_138), .val (.int v7_164), .unset, .unset, .unset] [(.int v3_7)])) (fun _ k => XS.iloadN X0.here hx rfl (hb hby d2_182) rfl  k) ?_
                  refine Goes.step (S' := s₁.setTop (mkF m 185 #[.val (.ref u0), .val (.int p1), .val (.int p2), .val (.int v3_7), .val (.int (3 : Int32)), .val (.int v5_121), .val (.int v6_138), .val (.int v7_164), .unset, .unset, .unset] [(.int (63 : Int32)), (.int v3_7)])) (fun _ k => XS.bipush X0.here hx rfl (hb hby d2_183) k) ?_
                  refine Goes.step (S' := s₁.setTop (mkF m 187 #[.val (.ref u0), .val (.int p1), .val (.int p2), .val (.int v3_7), .val (.int (3 : Int32)), .val (.int v5_121), .val (.int v6_138), .val (.int v7_164), .unset, .unset, .unset] [(.int (3 : Int32)), (.int (63 : Int32)), (.int v3_7)])) (fun _ k => XS.iload X0.here hx rfl (hb hby d2_185) rfl  k) ?_
                  refine Goes.step (S' := s₁.setTop (mkF m 188 #[.val (.ref u0), .val (.int p1), .val (.int p2), .val (.int v3_7), .val (.int (3 : Int32)), .val (.int v5_121), .val (.int v6_138), .val (.int v7_164), .unset, .unset, .unset] [(.int ((63 : Int32) >>> ((3 : Int32) &&& 31))), (.int v3_7)])) (fun _ k => XS.ishr X0.here hx rfl (hb hby d2_187) rfl k) ?_
                  refine Goes.step (S' := s₁.setTop (mkF m 189 #[.val (.ref u0), .val (.int p1), .val (.int p2), .val (.int v3_7), .val (.int (3 : Int32)), .val (.int v5_121), .val (.int v6_138), .val (.int v7_164), .unset, .unset, .unset] [(.int (v3_7 &&& ((63 : Int32) >>> ((3 : Int32) &&& 31))))])) (fun _ k => XS.iand X0.here hx rfl (hb hby d2_188) rfl k) ?_
                  refine Goes.step (S' := s₁.setTop (mkF m 191 #[.val (.ref u0), .val (.int p1), .val (.int p2), .val (.int v3_7), .val (.int (3 : Int32)), .val (.int v5_121), .val (.int v6_138), .val (.int v7_164), .unset, .unset, .unset] [(.int (6 : Int32)), (.int (v3_7 &&& ((63 : Int32) >>> ((3 : Int32) &&& 31))))])) (fun _ k => XS.bipush X0.here hx rfl (hb hby d2_189) k) ?_
                  refine Goes.step (S' := s₁.setTop (mkF m 192 #[.val (.ref u0), .val (.int p1), .val (.int p2), .val (.int v3_7), .val (.int (3 : Int32)), .val (.int v5_121), .val (.int v6_138), .val (.int v7_164), .unset, .unset, .unset] [(.int ((v3_7 &&& ((63 : Int32) >>> ((3 : Int32) &&& 31))) <<< ((6 : Int32) &&& 31)))])) (fun _ k => XS.ishl X0.here hx rfl (hb hby d2_191) rfl k) ?_
                  refine Goes.step (S' := s₁.setTop (mkF m 194 #[.val (.ref u0), .val (.int p1), .val (.int p2), .val (.int v3_7), .val (.int (3 : Int32)), .val (.int v5_121), .val (.int v6_138), .val (.int v7_164), .unset, .unset, .unset] [(.int v7_164), (.int ((v3_7 &&& ((63 : Int32) >>> ((3 : Int32) &&& 31))) <<< ((6 : Int32) &&& 31)))])) (fun _ k => XS.iload X0.here hx rfl (hb hby d2_192) rfl  k) ?_
                  refine Goes.step (S' := s₁.setTop (mkF m 196 #[.val (.ref u0), .val (.int p1), .val (.int p2), .val (.int v3_7), .val (.int (3 : Int32)), .val (.int v5_121), .val (.int v6_138), .val (.int v7_164), .unset, .unset, .unset] [(.int (63 : Int32)), (.int v7_164), (.int ((v3_7 &&& ((63 : Int32) >>> ((3 : Int32) &&& 31))) <<< ((6 : Int32) &&& 31)))])) (fun _ k => XS.bipush X0.here hx rfl (hb hby d2_194) k) ?_
                  refine Goes.step (S' := s₁.setTop (mkF m 197 #[.val (.ref u0), .val (.int p1), .val (.int p2), .val (.int v3_7), .val (.int (3 : Int32)), .val (.int v5_121), .val (.int v6_138), .val (.int v7_164), .unset, .unset, .unset] [(.int (v7_164 &&& (63 : Int32))), (.int ((v3_7 &&& ((63 : Int32) >>> ((3 : Int32) &&& 31))) <<< ((6 : Int32) &&& 31)))])) (fun _ k => XS.iand X0.here hx rfl (hb hby d2_196) rfl k) ?_
                  refine Goes.step (S' := s₁.setTop (mkF m 198 #[.val (.ref u0), .val (.int p1), .val (.int p2), .val (.int v3_7), .val (.int (3 : Int32)), .val (.int v5_121), .val (.int v6_138), .val (.int v7_164), .unset, .unset, .unset] [(.int (((v3_7 &&& ((63 : Int32) >>> ((3 : Int32) &&& 31))) <<< ((6 : Int32) &&& 31)) ||| (v7_164 &&& (63 : Int32))))])) (fun _ k => XS.ior X0.here hx rfl (hb hby d2_197) rfl k) ?_
                  refine Goes.step (S' := s₁.setTop (mkF m 200 #[.val (.ref u0), .val (.int p1), .val (.int p2), .val (.int v3_7), .val (.int (3 : Int32)), .val (.int v5_121), .val (.int v6_138), .val (.int v7_164), .val (.int (((v3_7 &&& ((63 : Int32) >>> ((3 : Int32) &&& 31))) <<< ((6 : Int32) &&& 31)) ||| (v7_164 &&& (63 : Int32)))), .unset, .unset] [])) (fun _ k => XS.istore X0.here hx rfl (hb hby d2_198) rfl (l' := #[.val (.ref u0), .val (.int p1), .val (.int p2), .val (.int v3_7), .val (.int (3 : Int32)), .val (.int v5_121), .val (.int v6_138), .val (.int v7_164), .val (.int (((v3_7 &&& ((63 : Int32) >>> ((3 : Int32) &&& 31))) <<< ((6 : Int32) &&& 31)) ||| (v7_164 &&& (63 : Int32)))), .unset, .unset]) rfl k) ?_
                  obtain ⟨v8_198, ev8_198⟩ : ∃ z : Int32, z = (((v3_7 &&& ((63 : Int32) >>> ((3 : Int32) &&& 31))) <<< ((6 : Int32) &&& 31)) ||| (v7_164 &&& (63 : Int32))) := ⟨_, rfl⟩
                  rw [← ev8_198]
                  refine Goes.step (S' := s₁.setTop (mkF m 201 #[.val (.ref u0), .val (.int p1), .val (.int p2), .val (.int v3_7), .val (.int (3 : Int32)), .val (.int v5_121), .val (.int v6_138), .val (.int v7_164), .val (.int v8_198), .unset, .unset] [(.int p1)])) (fun _ k => XS.iloadN X0.here hx rfl (hb hby d2_200) rfl  k) ?_
                  refine Goes.step (S' := s₁.setTop (mkF m 202 #[.val (.ref u0), .val (.int p1), .val (.int p2), .val (.int v3_7), .val (.int (3 : Int32)), .val (.int v5_121), .val (.int v6_138), .val (.int v7_164), .val (.int v8_198), .unset, .unset] [(.int (2 : Int32)), (.int p1)])) (fun _ k => XS.iconst X0.here hx rfl (hb hby d2_201) k) ?_
                  refine Goes.step (S' := s₁.setTop (mkF m 203 #[.val (.ref u0), .val (.int p1), .val (.int p2), .val (.int v3_7), .val (.int (3 : Int32)), .val (.int v5_121), .val (.int v6_138), .val (.int v7_164), .val (.int v8_198), .unset, .unset] [(.int (p1 + (2 : Int32)))])) (fun _ k => XS.iadd X0.here hx rfl (hb hby d2_202) rfl k) ?_
                  refine Goes.step (S' := s₁.setTop (mkF m 205 #[.val (.ref u0), .val (.int p1), .val (.int p2), .val (.int v3_7), .val (.int (3 : Int32)), .val (.int v5_121), .val (.int v6_138), .val (.int v7_164), .val (.int v8_198), .val (.int (p1 + (2 : Int32))), .unset] [])) (fun _ k => XS.istore X0.here hx rfl (hb hby d2_203) rfl (l' := #[.val (.ref u0), .val (.int p1), .val (.int p2), .val (.int v3_7), .val (.int (3 : Int32)), .val (.int v5_121), .val (.int v6_138), .val (.int v7_164), .val (.int v8_198), .val (.int (p1 + (2 : Int32))), .unset]) rfl k) ?_
                  obtain ⟨v9_203, ev9_203⟩ : ∃ z : Int32, z = (p1 + (2 : Int32)) := ⟨_, rfl⟩
                  rw [← ev9_203]
                  refine Goes.step (S' := s₁.setTop (mkF m 207 #[.val (.ref u0), .val (.int p1), .val (.int p2), .val (.int v3_7), .val (.int (3 : Int32)), .val (.int v5_121), .val (.int v6_138), .val (.int v7_164), .val (.int v8_198), .val (.int v9_203), .unset] [(.int v9_203)])) (fun _ k => XS.iload X0.here hx rfl (hb hby d2_205) rfl  k) ?_
                  refine Goes.step (S' := s₁.setTop (mkF m 208 #[.val (.ref u0), .val (.int p1), .val (.int p2), .val (.int v3_7), .val (.int (3 : Int32)), .val (.int v5_121), .val (.int v6_138), .val (.int v7_164), .val (.int v8_198), .val (.int v9_203), .unset] [(.int p1), (.int v9_203)])) (fun _ k => XS.iloadN X0.here hx rfl (hb hby d2_207) rfl  k) ?_
                  refine Goes.step (S' := s₁.setTop (mkF m 210 #[.val (.ref u0), .val (.int p1), .val (.int p2), .val (.int v3_7), .val (.int (3 : Int32)), .val (.int v5_121), .val (.int v6_138), .val (.int v7_164), .val (.int v8_198), .val (.int v9_203), .unset] [(.int (3 : Int32)), (.int p1), (.int v9_203)])) (fun _ k => XS.iload X0.here hx rfl (hb hby d2_208) rfl  k) ?_
                  refine Goes.step (S' := s₁.setTop (mkF m 211 #[.val (.ref u0), .val (.int p1), .val (.int p2), .val (.int v3_7), .val (.int (3 : Int32)), .val (.int v5_121), .val (.int v6_138), .val (.int v7_164), .val (.int v8_198), .val (.int v9_203), .unset] [(.int (p1 + (3 : Int32))), (.int v9_203)])) (fun _ k => XS.iadd X0.here hx rfl (hb hby d2_210) rfl k) ?_
                  refine Goes.step (S' := s₁.setTop (mkF m 214 #[.val (.ref u0), .val (.int p1), .val (.int p2), .val (.int v3_7), .val (.int (3 : Int32)), .val (.int v5_121), .val (.int v6_138), .val (.int v7_164), .val (.int v8_198), .val (.int v9_203), .unset] [])) (fun _ k => XS.icmpNo X0.here hx rfl (hb hby d2_211) rfl (flt (own_hc2_211_4 n_u0 vs_u0 hl_u0 hn_u0 p1 p2 hB hb2 hb3 hb4 v3_7 ev3_7 hc12_1 hc31_2 hc40_3 hc53_7 hc100_15 v5_121 ev5_121 v6_138 ev6_138 hc150_18 v7_164 ev7_164 hc170_19 hc177_20 v8_198 ev8_198 v9_203 ev9_203)).2.2.1 k) ?_
                  refine Goes.step (S' := s₁.setTop (mkF m 215 #[.val (.ref u0), .val (.int p1), .val (.int p2), .val (.int v3_7), .val (.int (3 : Int32)), .val (.int v5_121), .val (.int v6_138), .val (.int v7_164), .val (.int v8_198), .val (.int v9_203), .unset] [(.ref u0)])) (fun _ k => XS.aloadN X0.here hx rfl (hb hby d2_214) rfl rfl k) ?_
                  refine Goes.step (S' := s₁.setTop (mkF m 217 #[.val (.ref u0), .val (.int p1), .val (.int p2), .val (.int v3_7), .val (.int (3 : Int32)), .val (.int v5_121), .val (.int v6_138), .val (.int v7_164), .val (.int v8_198), .val (.int v9_203), .unset] [(.int v9_203), (.ref u0)])) (fun _ k => XS.iload X0.here hx rfl (hb hby d2_215) rfl  k) ?_
                  refine Goes.step (S' := s₁.setTop (mkF m 218 #[.val (.ref u0), .val (.int p1), .val (.int p2), .val (.int v3_7), .val (.int (3 : Int32)), .val (.int v5_121), .val (.int v6_138), .val (.int v7_164), .val (.int v8_198), .val (.int v9_203), .unset] [(.int (vs_u0.getD (v9_203).toNatClampNeg 0))])) (fun _ k => own_baload X0 hx hZ e0 V_u0 (own_ix2_217_2 n_u0 vs_u0 hl_u0 hn_u0 p1 p2 hB hb2 hb3 hb4 v3_7 ev3_7 hc12_1 hc31_2 hc40_3 hc53_7 hc100_15 v5_121 ev5_121 v6_138 ev6_138 hc150_18 v7_164 ev7_164 hc170_19 hc177_20 v8_198 ev8_198 v9_203 ev9_203) (hb hby d2_217) _ k) ?_
                  refine Goes.step (S' := s₁.setTop (mkF m 221 #[.val (.ref u0), .val (.int p1), .val (.int p2), .val (.int v3_7), .val (.int (3 : Int32)), .val (.int v5_121), .val (.int v6_138), .val (.int v7_164), .val (.int v8_198), .val (.int v9_203), .unset] [(.int (255 : Int32)), (.int (vs_u0.getD (v9_203).toNatClampNeg 0))])) (fun _ k => XS.sipush X0.here hx rfl (hb hby d2_218) k) ?_
                  refine Goes.step (S' := s₁.setTop (mkF m 222 #[.val (.ref u0), .val (.int p1), .val (.int p2), .val (.int v3_7), .val (.int (3 : Int32)), .val (.int v5_121), .val (.int v6_138), .val (.int v7_164), .val (.int v8_198), .val (.int v9_203), .unset] [(.int ((vs_u0.getD (v9_203).toNatClampNeg 0) &&& (255 : Int32)))])) (fun _ k => XS.iand X0.here hx rfl (hb hby d2_221) rfl k) ?_
                  refine Goes.step (S' := s₁.setTop (mkF m 224 #[.val (.ref u0), .val (.int p1), .val (.int p2), .val (.int v3_7), .val (.int (3 : Int32)), .val (.int v5_121), .val (.int v6_138), .val (.int v7_164), .val (.int v8_198), .val (.int v9_203), .val (.int ((vs_u0.getD (v9_203).toNatClampNeg 0) &&& (255 : Int32)))] [])) (fun _ k => XS.istore X0.here hx rfl (hb hby d2_222) rfl (l' := #[.val (.ref u0), .val (.int p1), .val (.int p2), .val (.int v3_7), .val (.int (3 : Int32)), .val (.int v5_121), .val (.int v6_138), .val (.int v7_164), .val (.int v8_198), .val (.int v9_203), .val (.int ((vs_u0.getD (v9_203).toNatClampNeg 0) &&& (255 : Int32)))]) rfl k) ?_
                  obtain ⟨v10_222, ev10_222⟩ : ∃ z : Int32, z = ((vs_u0.getD (v9_203).toNatClampNeg 0) &&& (255 : Int32)) := ⟨_, rfl⟩
                  rw [← ev10_222]
                  refine Goes.step (S' := s₁.setTop (mkF m 226 #[.val (.ref u0), .val (.int p1), .val (.int p2), .val (.int v3_7), .val (.int (3 : Int32)), .val (.int v5_121), .val (.int v6_138), .val (.int v7_164), .val (.int v8_198), .val (.int v9_203), .val (.int v10_222)] [(.int v10_222)])) (fun _ k => XS.iload X0.here hx rfl (hb hby d2_224) rfl  k) ?_
                  refine Goes.step (S' := s₁.setTop (mkF m 229 #[.val (.ref u0), .val (.int p1), .val (.int p2), .val (.int v3_7), .val (.int (3 : Int32)), .val (.int v5_121), .val (.int v6_138), .val (.int v7_164), .val (.int v8_198), .val (.int v9_203), .val (.int v10_222)] [(.int (128 : Int32)), (.int v10_222)])) (fun _ k => XS.sipush X0.here hx rfl (hb hby d2_226) k) ?_
                  by_cases hc229_21 : v10_222 < (128 : Int32)
                  · refine Goes.step (S' := s₁.setTop (mkF m 240 #[.val (.ref u0), .val (.int p1), .val (.int p2), .val (.int v3_7), .val (.int (3 : Int32)), .val (.int v5_121), .val (.int v6_138), .val (.int v7_164), .val (.int v8_198), .val (.int v9_203), .val (.int v10_222)] [])) (fun _ k => XS.icmpYes X0.here hx rfl (pc0 := 229) (pc' := 240) rfl (hb hby d2_229) rfl (tlt hc229_21).1 (by decide) (by decide) k) ?_
                    refine Goes.step (S' := s₁.setTop (mkF m 241 #[.val (.ref u0), .val (.int p1), .val (.int p2), .val (.int v3_7), .val (.int (3 : Int32)), .val (.int v5_121), .val (.int v6_138), .val (.int v7_164), .val (.int v8_198), .val (.int v9_203), .val (.int v10_222)] [(.int (-1 : Int32))])) (fun _ k => XS.iconst X0.here hx rfl (hb hby d2_240) k) ?_
                    subst ev10_222 ev9_203 ev8_198 ev7_164 ev6_138 ev5_121 ev3_7
                    refine Goes.retI X0 hx Bd.notSynchronized Bd.returns (hb hby d2_241) (by decide) (by decide) ?_
                    refine ⟨congrArg (fun z => some (Value.int z)) ?_, N0, e0⟩
                    rw [f2, if_neg hc12_1, if_neg hc31_2, if_neg hc40_3, if_neg hc53_7, if_pos hc100_15, if_pos hc150_18, if_neg hc170_19, if_neg hc177_20, if_pos hc229_21]
                    try rfl
                  · refine Goes.step (S' := s₁.setTop (mkF m 232 #[.val (.ref u0), .val (.int p1), .val (.int p2), .val (.int v3_7), .val (.int (3 : Int32)), .val (.int v5_121), .val (.int v6_138), .val (.int v7_164), .val (.int v8_198), .val (.int v9_203), .val (.int v10_222)] [])) (fun _ k => XS.icmpNo X0.here hx rfl (hb hby d2_229) rfl (flt hc229_21).1 k) ?_
                    refine Goes.step (S' := s₁.setTop (mkF m 234 #[.val (.ref u0), .val (.int p1), .val (.int p2), .val (.int v3_7), .val (.int (3 : Int32)), .val (.int v5_121), .val (.int v6_138), .val (.int v7_164), .val (.int v8_198), .val (.int v9_203), .val (.int v10_222)] [(.int v10_222)])) (fun _ k => XS.iload X0.here hx rfl (hb hby d2_232) rfl  k) ?_
                    refine Goes.step (S' := s₁.setTop (mkF m 237 #[.val (.ref u0), .val (.int p1), .val (.int p2), .val (.int v3_7), .val (.int (3 : Int32)), .val (.int v5_121), .val (.int v6_138), .val (.int v7_164), .val (.int v8_198), .val (.int v9_203), .val (.int v10_222)] [(.int (191 : Int32)), (.int v10_222)])) (fun _ k => XS.sipush X0.here hx rfl (hb hby d2_234) k) ?_
                    by_cases hc237_22 : (191 : Int32) < v10_222
                    · refine Goes.step (S' := s₁.setTop (mkF m 240 #[.val (.ref u0), .val (.int p1), .val (.int p2), .val (.int v3_7), .val (.int (3 : Int32)), .val (.int v5_121), .val (.int v6_138), .val (.int v7_164), .val (.int v8_198), .val (.int v9_203), .val (.int v10_222)] [])) (fun _ k => XS.icmpNo X0.here hx rfl (hb hby d2_237) rfl (tlt hc237_22).2.2.2 k) ?_
                      refine Goes.step (S' := s₁.setTop (mkF m 241 #[.val (.ref u0), .val (.int p1), .val (.int p2), .val (.int v3_7), .val (.int (3 : Int32)), .val (.int v5_121), .val (.int v6_138), .val (.int v7_164), .val (.int v8_198), .val (.int v9_203), .val (.int v10_222)] [(.int (-1 : Int32))])) (fun _ k => XS.iconst X0.here hx rfl (hb hby d2_240) k) ?_
                      subst ev10_222 ev9_203 ev8_198 ev7_164 ev6_138 ev5_121 ev3_7
                      refine Goes.retI X0 hx Bd.notSynchronized Bd.returns (hb hby d2_241) (by decide) (by decide) ?_
                      refine ⟨congrArg (fun z => some (Value.int z)) ?_, N0, e0⟩
                      rw [f2, if_neg hc12_1, if_neg hc31_2, if_neg hc40_3, if_neg hc53_7, if_pos hc100_15, if_pos hc150_18, if_neg hc170_19, if_neg hc177_20, if_neg hc229_21, if_pos hc237_22]
                      try rfl
                    · refine Goes.step (S' := s₁.setTop (mkF m 242 #[.val (.ref u0), .val (.int p1), .val (.int p2), .val (.int v3_7), .val (.int (3 : Int32)), .val (.int v5_121), .val (.int v6_138), .val (.int v7_164), .val (.int v8_198), .val (.int v9_203), .val (.int v10_222)] [])) (fun _ k => XS.icmpYes X0.here hx rfl (pc0 := 237) (pc' := 242) rfl (hb hby d2_237) rfl (flt hc237_22).2.2.2 (by decide) (by decide) k) ?_
                      refine Goes.step (S' := s₁.setTop (mkF m 244 #[.val (.ref u0), .val (.int p1), .val (.int p2), .val (.int v3_7), .val (.int (3 : Int32)), .val (.int v5_121), .val (.int v6_138), .val (.int v7_164), .val (.int v8_198), .val (.int v9_203), .val (.int v10_222)] [(.int v8_198)])) (fun _ k => XS.iload X0.here hx rfl (hb hby d2_242) rfl  k) ?_
                      refine Goes.step (S' := s₁.setTop (mkF m 246 #[.val (.ref u0), .val (.int p1), .val (.int p2), .val (.int v3_7), .val (.int (3 : Int32)), .val (.int v5_121), .val (.int v6_138), .val (.int v7_164), .val (.int v8_198), .val (.int v9_203), .val (.int v10_222)] [(.int (6 : Int32)), (.int v8_198)])) (fun _ k => XS.bipush X0.here hx rfl (hb hby d2_244) k) ?_
                      refine Goes.step (S' := s₁.setTop (mkF m 247 #[.val (.ref u0), .val (.int p1), .val (.int p2), .val (.int v3_7), .val (.int (3 : Int32)), .val (.int v5_121), .val (.int v6_138), .val (.int v7_164), .val (.int v8_198), .val (.int v9_203), .val (.int v10_222)] [(.int (v8_198 <<< ((6 : Int32) &&& 31)))])) (fun _ k => XS.ishl X0.here hx rfl (hb hby d2_246) rfl k) ?_
                      refine Goes.step (S' := s₁.setTop (mkF m 249 #[.val (.ref u0), .val (.int p1), .val (.int p2), .val (.int v3_7), .val (.int (3 : Int32)), .val (.int v5_121), .val (.int v6_138), .val (.int v7_164), .val (.int v8_198), .val (.int v9_203), .val (.int v10_222)] [(.int v10_222), (.int (v8_198 <<< ((6 : Int32) &&& 31)))])) (fun _ k => XS.iload X0.here hx rfl (hb hby d2_247) rfl  k) ?_
                      refine Goes.step (S' := s₁.setTop (mkF m 251 #[.val (.ref u0), .val (.int p1), .val (.int p2), .val (.int v3_7), .val (.int (3 : Int32)), .val (.int v5_121), .val (.int v6_138), .val (.int v7_164), .val (.int v8_198), .val (.int v9_203), .val (.int v10_222)] [(.int (63 : Int32)), (.int v10_222), (.int (v8_198 <<< ((6 : Int32) &&& 31)))])) (fun _ k => XS.bipush X0.here hx rfl (hb hby d2_249) k) ?_
                      refine Goes.step (S' := s₁.setTop (mkF m 252 #[.val (.ref u0), .val (.int p1), .val (.int p2), .val (.int v3_7), .val (.int (3 : Int32)), .val (.int v5_121), .val (.int v6_138), .val (.int v7_164), .val (.int v8_198), .val (.int v9_203), .val (.int v10_222)] [(.int (v10_222 &&& (63 : Int32))), (.int (v8_198 <<< ((6 : Int32) &&& 31)))])) (fun _ k => XS.iand X0.here hx rfl (hb hby d2_251) rfl k) ?_
                      refine Goes.step (S' := s₁.setTop (mkF m 253 #[.val (.ref u0), .val (.int p1), .val (.int p2), .val (.int v3_7), .val (.int (3 : Int32)), .val (.int v5_121), .val (.int v6_138), .val (.int v7_164), .val (.int v8_198), .val (.int v9_203), .val (.int v10_222)] [(.int ((v8_198 <<< ((6 : Int32) &&& 31)) ||| (v10_222 &&& (63 : Int32))))])) (fun _ k => XS.ior X0.here hx rfl (hb hby d2_252) rfl k) ?_
                      refine Goes.step (S' := s₁.setTop (mkF m 255 #[.val (.ref u0), .val (.int p1), .val (.int p2), .val (.int v3_7), .val (.int (3 : Int32)), .val (.int v5_121), .val (.int v6_138), .val (.int v7_164), .val (.int ((v8_198 <<< ((6 : Int32) &&& 31)) ||| (v10_222 &&& (63 : Int32)))), .val (.int v9_203), .val (.int v10_222)] [])) (fun _ k => XS.istore X0.here hx rfl (hb hby d2_253) rfl (l' := #[.val (.ref u0), .val (.int p1), .val (.int p2), .val (.int v3_7), .val (.int (3 : Int32)), .val (.int v5_121), .val (.int v6_138), .val (.int v7_164), .val (.int ((v8_198 <<< ((6 : Int32) &&& 31)) ||| (v10_222 &&& (63 : Int32)))), .val (.int v9_203), .val (.int v10_222)]) rfl k) ?_
                      obtain ⟨v8_253, ev8_253⟩ : ∃ z : Int32, z = ((v8_198 <<< ((6 : Int32) &&& 31)) ||| (v10_222 &&& (63 : Int32))) := ⟨_, rfl⟩
                      rw [← ev8_253]
                      refine Goes.step (S' := s₁.setTop (mkF m 258 #[.val (.ref u0), .val (.int p1), .val (.int p2), .val (.int v3_7), .val (.int (3 : Int32)), .val (.int v5_121), .val (.int v6_138), .val (.int v7_164), .val (.int v8_253), .val (.int (v9_203 + (1 : Int32))), .val (.int v10_222)] [])) (fun _ k => XS.iinc X0.here hx rfl (hb hby d2_255) rfl (l' := #[.val (.ref u0), .val (.int p1), .val (.int p2), .val (.int v3_7), .val (.int (3 : Int32)), .val (.int v5_121), .val (.int v6_138), .val (.int v7_164), .val (.int v8_253), .val (.int (v9_203 + (1 : Int32))), .val (.int v10_222)]) rfl k) ?_
                      refine Goes.step (S' := s₁.setTop (mkF m 205 #[.val (.ref u0), .val (.int p1), .val (.int p2), .val (.int v3_7), .val (.int (3 : Int32)), .val (.int v5_121), .val (.int v6_138), .val (.int v7_164), .val (.int v8_253), .val (.int (v9_203 + (1 : Int32))), .val (.int v10_222)] [])) (fun _ k => XS.goto X0.here hx rfl (pc0 := 258) (pc' := 205) rfl (hb hby d2_258) (by decide) (by decide) k) ?_
                      refine Goes.step (S' := s₁.setTop (mkF m 207 #[.val (.ref u0), .val (.int p1), .val (.int p2), .val (.int v3_7), .val (.int (3 : Int32)), .val (.int v5_121), .val (.int v6_138), .val (.int v7_164), .val (.int v8_253), .val (.int (v9_203 + (1 : Int32))), .val (.int v10_222)] [(.int (v9_203 + (1 : Int32)))])) (fun _ k => XS.iload X0.here hx rfl (hb hby d2_205) rfl  k) ?_
                      refine Goes.step (S' := s₁.setTop (mkF m 208 #[.val (.ref u0), .val (.int p1), .val (.int p2), .val (.int v3_7), .val (.int (3 : Int32)), .val (.int v5_121), .val (.int v6_138), .val (.int v7_164), .val (.int v8_253), .val (.int (v9_203 + (1 : Int32))), .val (.int v10_222)] [(.int p1), (.int (v9_203 + (1 : Int32)))])) (fun _ k => XS.iloadN X0.here hx rfl (hb hby d2_207) rfl  k) ?_
                      refine Goes.step (S' := s₁.setTop (mkF m 210 #[.val (.ref u0), .val (.int p1), .val (.int p2), .val (.int v3_7), .val (.int (3 : Int32)), .val (.int v5_121), .val (.int v6_138), .val (.int v7_164), .val (.int v8_253), .val (.int (v9_203 + (1 : Int32))), .val (.int v10_222)] [(.int (3 : Int32)), (.int p1), (.int (v9_203 + (1 : Int32)))])) (fun _ k => XS.iload X0.here hx rfl (hb hby d2_208) rfl  k) ?_
                      refine Goes.step (S' := s₁.setTop (mkF m 211 #[.val (.ref u0), .val (.int p1), .val (.int p2), .val (.int v3_7), .val (.int (3 : Int32)), .val (.int v5_121), .val (.int v6_138), .val (.int v7_164), .val (.int v8_253), .val (.int (v9_203 + (1 : Int32))), .val (.int v10_222)] [(.int (p1 + (3 : Int32))), (.int (v9_203 + (1 : Int32)))])) (fun _ k => XS.iadd X0.here hx rfl (hb hby d2_210) rfl k) ?_
                      refine Goes.step (S' := s₁.setTop (mkF m 214 #[.val (.ref u0), .val (.int p1), .val (.int p2), .val (.int v3_7), .val (.int (3 : Int32)), .val (.int v5_121), .val (.int v6_138), .val (.int v7_164), .val (.int v8_253), .val (.int (v9_203 + (1 : Int32))), .val (.int v10_222)] [])) (fun _ k => XS.icmpNo X0.here hx rfl (hb hby d2_211) rfl (flt (own_hc2_211_5 n_u0 vs_u0 hl_u0 hn_u0 p1 p2 hB hb2 hb3 hb4 v3_7 ev3_7 hc12_1 hc31_2 hc40_3 hc53_7 hc100_15 v5_121 ev5_121 v6_138 ev6_138 hc150_18 v7_164 ev7_164 hc170_19 hc177_20 v8_198 ev8_198 v9_203 ev9_203 v10_222 ev10_222 hc229_21 hc237_22 v8_253 ev8_253)).2.2.1 k) ?_
                      refine Goes.step (S' := s₁.setTop (mkF m 215 #[.val (.ref u0), .val (.int p1), .val (.int p2), .val (.int v3_7), .val (.int (3 : Int32)), .val (.int v5_121), .val (.int v6_138), .val (.int v7_164), .val (.int v8_253), .val (.int (v9_203 + (1 : Int32))), .val (.int v10_222)] [(.ref u0)])) (fun _ k => XS.aloadN X0.here hx rfl (hb hby d2_214) rfl rfl k) ?_
                      refine Goes.step (S' := s₁.setTop (mkF m 217 #[.val (.ref u0), .val (.int p1), .val (.int p2), .val (.int v3_7), .val (.int (3 : Int32)), .val (.int v5_121), .val (.int v6_138), .val (.int v7_164), .val (.int v8_253), .val (.int (v9_203 + (1 : Int32))), .val (.int v10_222)] [(.int (v9_203 + (1 : Int32))), (.ref u0)])) (fun _ k => XS.iload X0.here hx rfl (hb hby d2_215) rfl  k) ?_
                      refine Goes.step (S' := s₁.setTop (mkF m 218 #[.val (.ref u0), .val (.int p1), .val (.int p2), .val (.int v3_7), .val (.int (3 : Int32)), .val (.int v5_121), .val (.int v6_138), .val (.int v7_164), .val (.int v8_253), .val (.int (v9_203 + (1 : Int32))), .val (.int v10_222)] [(.int (vs_u0.getD ((v9_203 + (1 : Int32))).toNatClampNeg 0))])) (fun _ k => own_baload X0 hx hZ e0 V_u0 (own_ix2_217_3 n_u0 vs_u0 hl_u0 hn_u0 p1 p2 hB hb2 hb3 hb4 v3_7 ev3_7 hc12_1 hc31_2 hc40_3 hc53_7 hc100_15 v5_121 ev5_121 v6_138 ev6_138 hc150_18 v7_164 ev7_164 hc170_19 hc177_20 v8_198 ev8_198 v9_203 ev9_203 v10_222 ev10_222 hc229_21 hc237_22 v8_253 ev8_253) (hb hby d2_217) _ k) ?_
                      refine Goes.step (S' := s₁.setTop (mkF m 221 #[.val (.ref u0), .val (.int p1), .val (.int p2), .val (.int v3_7), .val (.int (3 : Int32)), .val (.int v5_121), .val (.int v6_138), .val (.int v7_164), .val (.int v8_253), .val (.int (v9_203 + (1 : Int32))), .val (.int v10_222)] [(.int (255 : Int32)), (.int (vs_u0.getD ((v9_203 + (1 : Int32))).toNatClampNeg 0))])) (fun _ k => XS.sipush X0.here hx rfl (hb hby d2_218) k) ?_
                      refine Goes.step (S' := s₁.setTop (mkF m 222 #[.val (.ref u0), .val (.int p1), .val (.int p2), .val (.int v3_7), .val (.int (3 : Int32)), .val (.int v5_121), .val (.int v6_138), .val (.int v7_164), .val (.int v8_253), .val (.int (v9_203 + (1 : Int32))), .val (.int v10_222)] [(.int ((vs_u0.getD ((v9_203 + (1 : Int32))).toNatClampNeg 0) &&& (255 : Int32)))])) (fun _ k => XS.iand X0.here hx rfl (hb hby d2_221) rfl k) ?_
                      refine Goes.step (S' := s₁.setTop (mkF m 224 #[.val (.ref u0), .val (.int p1), .val (.int p2), .val (.int v3_7), .val (.int (3 : Int32)), .val (.int v5_121), .val (.int v6_138), .val (.int v7_164), .val (.int v8_253), .val (.int (v9_203 + (1 : Int32))), .val (.int ((vs_u0.getD ((v9_203 + (1 : Int32))).toNatClampNeg 0) &&& (255 : Int32)))] [])) (fun _ k => XS.istore X0.here hx rfl (hb hby d2_222) rfl (l' := #[.val (.ref u0), .val (.int p1), .val (.int p2), .val (.int v3_7), .val (.int (3 : Int32)), .val (.int v5_121), .val (.int v6_138), .val (.int v7_164), .val (.int v8_253), .val (.int (v9_203 + (1 : Int32))), .val (.int ((vs_u0.getD ((v9_203 + (1 : Int32))).toNatClampNeg 0) &&& (255 : Int32)))]) rfl k) ?_
                      obtain ⟨v10_222_2, ev10_222_2⟩ : ∃ z : Int32, z = ((vs_u0.getD ((v9_203 + (1 : Int32))).toNatClampNeg 0) &&& (255 : Int32)) := ⟨_, rfl⟩
                      rw [← ev10_222_2]
                      refine Goes.step (S' := s₁.setTop (mkF m 226 #[.val (.ref u0), .val (.int p1), .val (.int p2), .val (.int v3_7), .val (.int (3 : Int32)), .val (.int v5_121), .val (.int v6_138), .val (.int v7_164), .val (.int v8_253), .val (.int (v9_203 + (1 : Int32))), .val (.int v10_222_2)] [(.int v10_222_2)])) (fun _ k => XS.iload X0.here hx rfl (hb hby d2_224) rfl  k) ?_
                      refine Goes.step (S' := s₁.setTop (mkF m 229 #[.val (.ref u0), .val (.int p1), .val (.int p2), .val (.int v3_7), .val (.int (3 : Int32)), .val (.int v5_121), .val (.int v6_138), .val (.int v7_164), .val (.int v8_253), .val (.int (v9_203 + (1 : Int32))), .val (.int v10_222_2)] [(.int (128 : Int32)), (.int v10_222_2)])) (fun _ k => XS.sipush X0.here hx rfl (hb hby d2_226) k) ?_
                      by_cases hc229_23 : v10_222_2 < (128 : Int32)
                      · refine Goes.step (S' := s₁.setTop (mkF m 240 #[.val (.ref u0), .val (.int p1), .val (.int p2), .val (.int v3_7), .val (.int (3 : Int32)), .val (.int v5_121), .val (.int v6_138), .val (.int v7_164), .val (.int v8_253), .val (.int (v9_203 + (1 : Int32))), .val (.int v10_222_2)] [])) (fun _ k => XS.icmpYes X0.here hx rfl (pc0 := 229) (pc' := 240) rfl (hb hby d2_229) rfl (tlt hc229_23).1 (by decide) (by decide) k) ?_
                        refine Goes.step (S' := s₁.setTop (mkF m 241 #[.val (.ref u0), .val (.int p1), .val (.int p2), .val (.int v3_7), .val (.int (3 : Int32)), .val (.int v5_121), .val (.int v6_138), .val (.int v7_164), .val (.int v8_253), .val (.int (v9_203 + (1 : Int32))), .val (.int v10_222_2)] [(.int (-1 : Int32))])) (fun _ k => XS.iconst X0.here hx rfl (hb hby d2_240) k) ?_
                        subst ev10_222_2 ev8_253 ev10_222 ev9_203 ev8_198 ev7_164 ev6_138 ev5_121 ev3_7
                        refine Goes.retI X0 hx Bd.notSynchronized Bd.returns (hb hby d2_241) (by decide) (by decide) ?_
                        refine ⟨congrArg (fun z => some (Value.int z)) ?_, N0, e0⟩
                        rw [f2, if_neg hc12_1, if_neg hc31_2, if_neg hc40_3, if_neg hc53_7, if_pos hc100_15, if_pos hc150_18, if_neg hc170_19, if_neg hc177_20, if_neg hc229_21, if_neg hc237_22, if_pos hc229_23]
                        try rfl
                      · refine Goes.step (S' := s₁.setTop (mkF m 232 #[.val (.ref u0), .val (.int p1), .val (.int p2), .val (.int v3_7), .val (.int (3 : Int32)), .val (.int v5_121), .val (.int v6_138), .val (.int v7_164), .val (.int v8_253), .val (.int (v9_203 + (1 : Int32))), .val (.int v10_222_2)] [])) (fun _ k => XS.icmpNo X0.here hx rfl (hb hby d2_229) rfl (flt hc229_23).1 k) ?_
                        refine Goes.step (S' := s₁.setTop (mkF m 234 #[.val (.ref u0), .val (.int p1), .val (.int p2), .val (.int v3_7), .val (.int (3 : Int32)), .val (.int v5_121), .val (.int v6_138), .val (.int v7_164), .val (.int v8_253), .val (.int (v9_203 + (1 : Int32))), .val (.int v10_222_2)] [(.int v10_222_2)])) (fun _ k => XS.iload X0.here hx rfl (hb hby d2_232) rfl  k) ?_
                        refine Goes.step (S' := s₁.setTop (mkF m 237 #[.val (.ref u0), .val (.int p1), .val (.int p2), .val (.int v3_7), .val (.int (3 : Int32)), .val (.int v5_121), .val (.int v6_138), .val (.int v7_164), .val (.int v8_253), .val (.int (v9_203 + (1 : Int32))), .val (.int v10_222_2)] [(.int (191 : Int32)), (.int v10_222_2)])) (fun _ k => XS.sipush X0.here hx rfl (hb hby d2_234) k) ?_
                        by_cases hc237_24 : (191 : Int32) < v10_222_2
                        · refine Goes.step (S' := s₁.setTop (mkF m 240 #[.val (.ref u0), .val (.int p1), .val (.int p2), .val (.int v3_7), .val (.int (3 : Int32)), .val (.int v5_121), .val (.int v6_138), .val (.int v7_164), .val (.int v8_253), .val (.int (v9_203 + (1 : Int32))), .val (.int v10_222_2)] [])) (fun _ k => XS.icmpNo X0.here hx rfl (hb hby d2_237) rfl (tlt hc237_24).2.2.2 k) ?_
                          refine Goes.step (S' := s₁.setTop (mkF m 241 #[.val (.ref u0), .val (.int p1), .val (.int p2), .val (.int v3_7), .val (.int (3 : Int32)), .val (.int v5_121), .val (.int v6_138), .val (.int v7_164), .val (.int v8_253), .val (.int (v9_203 + (1 : Int32))), .val (.int v10_222_2)] [(.int (-1 : Int32))])) (fun _ k => XS.iconst X0.here hx rfl (hb hby d2_240) k) ?_
                          subst ev10_222_2 ev8_253 ev10_222 ev9_203 ev8_198 ev7_164 ev6_138 ev5_121 ev3_7
                          refine Goes.retI X0 hx Bd.notSynchronized Bd.returns (hb hby d2_241) (by decide) (by decide) ?_
                          refine ⟨congrArg (fun z => some (Value.int z)) ?_, N0, e0⟩
                          rw [f2, if_neg hc12_1, if_neg hc31_2, if_neg hc40_3, if_neg hc53_7, if_pos hc100_15, if_pos hc150_18, if_neg hc170_19, if_neg hc177_20, if_neg hc229_21, if_neg hc237_22, if_neg hc229_23, if_pos hc237_24]
                          try rfl
                        · refine Goes.step (S' := s₁.setTop (mkF m 242 #[.val (.ref u0), .val (.int p1), .val (.int p2), .val (.int v3_7), .val (.int (3 : Int32)), .val (.int v5_121), .val (.int v6_138), .val (.int v7_164), .val (.int v8_253), .val (.int (v9_203 + (1 : Int32))), .val (.int v10_222_2)] [])) (fun _ k => XS.icmpYes X0.here hx rfl (pc0 := 237) (pc' := 242) rfl (hb hby d2_237) rfl (flt hc237_24).2.2.2 (by decide) (by decide) k) ?_
                          refine Goes.step (S' := s₁.setTop (mkF m 244 #[.val (.ref u0), .val (.int p1), .val (.int p2), .val (.int v3_7), .val (.int (3 : Int32)), .val (.int v5_121), .val (.int v6_138), .val (.int v7_164), .val (.int v8_253), .val (.int (v9_203 + (1 : Int32))), .val (.int v10_222_2)] [(.int v8_253)])) (fun _ k => XS.iload X0.here hx rfl (hb hby d2_242) rfl  k) ?_
                          refine Goes.step (S' := s₁.setTop (mkF m 246 #[.val (.ref u0), .val (.int p1), .val (.int p2), .val (.int v3_7), .val (.int (3 : Int32)), .val (.int v5_121), .val (.int v6_138), .val (.int v7_164), .val (.int v8_253), .val (.int (v9_203 + (1 : Int32))), .val (.int v10_222_2)] [(.int (6 : Int32)), (.int v8_253)])) (fun _ k => XS.bipush X0.here hx rfl (hb hby d2_244) k) ?_
                          refine Goes.step (S' := s₁.setTop (mkF m 247 #[.val (.ref u0), .val (.int p1), .val (.int p2), .val (.int v3_7), .val (.int (3 : Int32)), .val (.int v5_121), .val (.int v6_138), .val (.int v7_164), .val (.int v8_253), .val (.int (v9_203 + (1 : Int32))), .val (.int v10_222_2)] [(.int (v8_253 <<< ((6 : Int32) &&& 31)))])) (fun _ k => XS.ishl X0.here hx rfl (hb hby d2_246) rfl k) ?_
                          refine Goes.step (S' := s₁.setTop (mkF m 249 #[.val (.ref u0), .val (.int p1), .val (.int p2), .val (.int v3_7), .val (.int (3 : Int32)), .val (.int v5_121), .val (.int v6_138), .val (.int v7_164), .val (.int v8_253), .val (.int (v9_203 + (1 : Int32))), .val (.int v10_222_2)] [(.int v10_222_2), (.int (v8_253 <<< ((6 : Int32) &&& 31)))])) (fun _ k => XS.iload X0.here hx rfl (hb hby d2_247) rfl  k) ?_
                          refine Goes.step (S' := s₁.setTop (mkF m 251 #[.val (.ref u0), .val (.int p1), .val (.int p2), .val (.int v3_7), .val (.int (3 : Int32)), .val (.int v5_121), .val (.int v6_138), .val (.int v7_164), .val (.int v8_253), .val (.int (v9_203 + (1 : Int32))), .val (.int v10_222_2)] [(.int (63 : Int32)), (.int v10_222_2), (.int (v8_253 <<< ((6 : Int32) &&& 31)))])) (fun _ k => XS.bipush X0.here hx rfl (hb hby d2_249) k) ?_
                          refine Goes.step (S' := s₁.setTop (mkF m 252 #[.val (.ref u0), .val (.int p1), .val (.int p2), .val (.int v3_7), .val (.int (3 : Int32)), .val (.int v5_121), .val (.int v6_138), .val (.int v7_164), .val (.int v8_253), .val (.int (v9_203 + (1 : Int32))), .val (.int v10_222_2)] [(.int (v10_222_2 &&& (63 : Int32))), (.int (v8_253 <<< ((6 : Int32) &&& 31)))])) (fun _ k => XS.iand X0.here hx rfl (hb hby d2_251) rfl k) ?_
                          refine Goes.step (S' := s₁.setTop (mkF m 253 #[.val (.ref u0), .val (.int p1), .val (.int p2), .val (.int v3_7), .val (.int (3 : Int32)), .val (.int v5_121), .val (.int v6_138), .val (.int v7_164), .val (.int v8_253), .val (.int (v9_203 + (1 : Int32))), .val (.int v10_222_2)] [(.int ((v8_253 <<< ((6 : Int32) &&& 31)) ||| (v10_222_2 &&& (63 : Int32))))])) (fun _ k => XS.ior X0.here hx rfl (hb hby d2_252) rfl k) ?_
                          refine Goes.step (S' := s₁.setTop (mkF m 255 #[.val (.ref u0), .val (.int p1), .val (.int p2), .val (.int v3_7), .val (.int (3 : Int32)), .val (.int v5_121), .val (.int v6_138), .val (.int v7_164), .val (.int ((v8_253 <<< ((6 : Int32) &&& 31)) ||| (v10_222_2 &&& (63 : Int32)))), .val (.int (v9_203 + (1 : Int32))), .val (.int v10_222_2)] [])) (fun _ k => XS.istore X0.here hx rfl (hb hby d2_253) rfl (l' := #[.val (.ref u0), .val (.int p1), .val (.int p2), .val (.int v3_7), .val (.int (3 : Int32)), .val (.int v5_121), .val (.int v6_138), .val (.int v7_164), .val (.int ((v8_253 <<< ((6 : Int32) &&& 31)) ||| (v10_222_2 &&& (63 : Int32)))), .val (.int (v9_203 + (1 : Int32))), .val (.int v10_222_2)]) rfl k) ?_
                          obtain ⟨v8_253_2, ev8_253_2⟩ : ∃ z : Int32, z = ((v8_253 <<< ((6 : Int32) &&& 31)) ||| (v10_222_2 &&& (63 : Int32))) := ⟨_, rfl⟩
                          rw [← ev8_253_2]
                          refine Goes.step (S' := s₁.setTop (mkF m 258 #[.val (.ref u0), .val (.int p1), .val (.int p2), .val (.int v3_7), .val (.int (3 : Int32)), .val (.int v5_121), .val (.int v6_138), .val (.int v7_164), .val (.int v8_253_2), .val (.int ((v9_203 + (1 : Int32)) + (1 : Int32))), .val (.int v10_222_2)] [])) (fun _ k => XS.iinc X0.here hx rfl (hb hby d2_255) rfl (l' := #[.val (.ref u0), .val (.int p1), .val (.int p2), .val (.int v3_7), .val (.int (3 : Int32)), .val (.int v5_121), .val (.int v6_138), .val (.int v7_164), .val (.int v8_253_2), .val (.int ((v9_203 + (1 : Int32)) + (1 : Int32))), .val (.int v10_222_2)]) rfl k) ?_
                          refine Goes.step (S' := s₁.setTop (mkF m 205 #[.val (.ref u0), .val (.int p1), .val (.int p2), .val (.int v3_7), .val (.int (3 : Int32)), .val (.int v5_121), .val (.int v6_138), .val (.int v7_164), .val (.int v8_253_2), .val (.int ((v9_203 + (1 : Int32)) + (1 : Int32))), .val (.int v10_222_2)] [])) (fun _ k => XS.goto X0.here hx rfl (pc0 := 258) (pc' := 205) rfl (hb hby d2_258) (by decide) (by decide) k) ?_
                          refine Goes.step (S' := s₁.setTop (mkF m 207 #[.val (.ref u0), .val (.int p1), .val (.int p2), .val (.int v3_7), .val (.int (3 : Int32)), .val (.int v5_121), .val (.int v6_138), .val (.int v7_164), .val (.int v8_253_2), .val (.int ((v9_203 + (1 : Int32)) + (1 : Int32))), .val (.int v10_222_2)] [(.int ((v9_203 + (1 : Int32)) + (1 : Int32)))])) (fun _ k => XS.iload X0.here hx rfl (hb hby d2_205) rfl  k) ?_
                          refine Goes.step (S' := s₁.setTop (mkF m 208 #[.val (.ref u0), .val (.int p1), .val (.int p2), .val (.int v3_7), .val (.int (3 : Int32)), .val (.int v5_121), .val (.int v6_138), .val (.int v7_164), .val (.int v8_253_2), .val (.int ((v9_203 + (1 : Int32)) + (1 : Int32))), .val (.int v10_222_2)] [(.int p1), (.int ((v9_203 + (1 : Int32)) + (1 : Int32)))])) (fun _ k => XS.iloadN X0.here hx rfl (hb hby d2_207) rfl  k) ?_
                          refine Goes.step (S' := s₁.setTop (mkF m 210 #[.val (.ref u0), .val (.int p1), .val (.int p2), .val (.int v3_7), .val (.int (3 : Int32)), .val (.int v5_121), .val (.int v6_138), .val (.int v7_164), .val (.int v8_253_2), .val (.int ((v9_203 + (1 : Int32)) + (1 : Int32))), .val (.int v10_222_2)] [(.int (3 : Int32)), (.int p1), (.int ((v9_203 + (1 : Int32)) + (1 : Int32)))])) (fun _ k => XS.iload X0.here hx rfl (hb hby d2_208) rfl  k) ?_
                          refine Goes.step (S' := s₁.setTop (mkF m 211 #[.val (.ref u0), .val (.int p1), .val (.int p2), .val (.int v3_7), .val (.int (3 : Int32)), .val (.int v5_121), .val (.int v6_138), .val (.int v7_164), .val (.int v8_253_2), .val (.int ((v9_203 + (1 : Int32)) + (1 : Int32))), .val (.int v10_222_2)] [(.int (p1 + (3 : Int32))), (.int ((v9_203 + (1 : Int32)) + (1 : Int32)))])) (fun _ k => XS.iadd X0.here hx rfl (hb hby d2_210) rfl k) ?_
                          refine Goes.step (S' := s₁.setTop (mkF m 261 #[.val (.ref u0), .val (.int p1), .val (.int p2), .val (.int v3_7), .val (.int (3 : Int32)), .val (.int v5_121), .val (.int v6_138), .val (.int v7_164), .val (.int v8_253_2), .val (.int ((v9_203 + (1 : Int32)) + (1 : Int32))), .val (.int v10_222_2)] [])) (fun _ k => XS.icmpYes X0.here hx rfl (pc0 := 211) (pc' := 261) rfl (hb hby d2_211) rfl (tlt (own_hc2_211_6 n_u0 vs_u0 hl_u0 hn_u0 p1 p2 hB hb2 hb3 hb4 v3_7 ev3_7 hc12_1 hc31_2 hc40_3 hc53_7 hc100_15 v5_121 ev5_121 v6_138 ev6_138 hc150_18 v7_164 ev7_164 hc170_19 hc177_20 v8_198 ev8_198 v9_203 ev9_203 v10_222 ev10_222 hc229_21 hc237_22 v8_253 ev8_253 v10_222_2 ev10_222_2 hc229_23 hc237_24 v8_253_2 ev8_253_2)).2.2.1 (by decide) (by decide) k) ?_
                          refine Goes.step (S' := s₁.setTop (mkF m 263 #[.val (.ref u0), .val (.int p1), .val (.int p2), .val (.int v3_7), .val (.int (3 : Int32)), .val (.int v5_121), .val (.int v6_138), .val (.int v7_164), .val (.int v8_253_2), .val (.int ((v9_203 + (1 : Int32)) + (1 : Int32))), .val (.int v10_222_2)] [(.int v8_253_2)])) (fun _ k => XS.iload X0.here hx rfl (hb hby d2_261) rfl  k) ?_
                          subst ev8_253_2 ev10_222_2 ev8_253 ev10_222 ev9_203 ev8_198 ev7_164 ev6_138 ev5_121 ev3_7
                          refine Goes.retI X0 hx Bd.notSynchronized Bd.returns (hb hby d2_263) (by decide) (by decide) ?_
                          refine ⟨congrArg (fun z => some (Value.int z)) ?_, N0, e0⟩
                          rw [f2, if_neg hc12_1, if_neg hc31_2, if_neg hc40_3, if_neg hc53_7, if_pos hc100_15, if_pos hc150_18, if_neg hc170_19, if_neg hc177_20, if_neg hc229_21, if_neg hc237_22, if_neg hc229_23, if_neg hc237_24]
                          try rfl
            · refine Goes.step (S' := s₁.setTop (mkF m 153 #[.val (.ref u0), .val (.int p1), .val (.int p2), .val (.int v3_7), .val (.int (3 : Int32)), .val (.int v5_121), .val (.int v6_138), .unset, .unset, .unset, .unset] [])) (fun _ k => XS.icmpNo X0.here hx rfl (hb hby d2_150) rfl (flt hc150_18).2.2.1 k) ?_
              refine Goes.step (S' := s₁.setTop (mkF m 154 #[.val (.ref u0), .val (.int p1), .val (.int p2), .val (.int v3_7), .val (.int (3 : Int32)), .val (.int v5_121), .val (.int v6_138), .unset, .unset, .unset, .unset] [(.int (-1 : Int32))])) (fun _ k => XS.iconst X0.here hx rfl (hb hby d2_153) k) ?_
              subst ev6_138 ev5_121 ev3_7
              refine Goes.retI X0 hx Bd.notSynchronized Bd.returns (hb hby d2_154) (by decide) (by decide) ?_
              refine ⟨congrArg (fun z => some (Value.int z)) ?_, N0, e0⟩
              rw [f2, if_neg hc12_1, if_neg hc31_2, if_neg hc40_3, if_neg hc53_7, if_pos hc100_15, if_neg hc150_18]
              try rfl
          · refine Goes.step (S' := s₁.setTop (mkF m 143 #[.val (.ref u0), .val (.int p1), .val (.int p2), .val (.int v3_7), .unset, .val (.int (128 : Int32)), .val (.int (191 : Int32)), .unset, .unset, .unset, .unset] [])) (fun _ k => XS.icmpYes X0.here hx rfl (pc0 := 100) (pc' := 143) rfl (hb hby d2_100) rfl (flt hc100_15).2.1 (by decide) (by decide) k) ?_
            refine Goes.step (S' := s₁.setTop (mkF m 144 #[.val (.ref u0), .val (.int p1), .val (.int p2), .val (.int v3_7), .unset, .val (.int (128 : Int32)), .val (.int (191 : Int32)), .unset, .unset, .unset, .unset] [(.int (-1 : Int32))])) (fun _ k => XS.iconst X0.here hx rfl (hb hby d2_143) k) ?_
            subst ev3_7
            refine Goes.retI X0 hx Bd.notSynchronized Bd.returns (hb hby d2_144) (by decide) (by decide) ?_
            refine ⟨congrArg (fun z => some (Value.int z)) ?_, N0, e0⟩
            rw [f2, if_neg hc12_1, if_neg hc31_2, if_neg hc40_3, if_neg hc53_7, if_neg hc100_15]
            try rfl
def own_dF (c0 c1 c2 c3 len : Int32) : Int32 := (if c0 < (128 : Int32) then c0 else (if c0 < (194 : Int32) then (-1 : Int32) else (if c0 < (224 : Int32) then (if (1 : Int32) < len then (if c1 < (128 : Int32) then (-1 : Int32) else (if (191 : Int32) < c1 then (-1 : Int32) else (((c0 &&& ((63 : Int32) >>> ((1 : Int32) &&& 31))) <<< ((6 : Int32) &&& 31)) ||| (c1 &&& (63 : Int32))))) else (-1 : Int32)) else (if c0 < (240 : Int32) then (if (2 : Int32) < len then (if c1 < (if c0 = (224 : Int32) then (160 : Int32) else (128 : Int32)) then (-1 : Int32) else (if (if c0 = (237 : Int32) then (159 : Int32) else (191 : Int32)) < c1 then (-1 : Int32) else (if c2 < (128 : Int32) then (-1 : Int32) else (if (191 : Int32) < c2 then (-1 : Int32) else (((((c0 &&& ((63 : Int32) >>> ((2 : Int32) &&& 31))) <<< ((6 : Int32) &&& 31)) ||| (c1 &&& (63 : Int32))) <<< ((6 : Int32) &&& 31)) ||| (c2 &&& (63 : Int32))))))) else (-1 : Int32)) else (if c0 < (245 : Int32) then (if (3 : Int32) < len then (if c1 < (if c0 = (240 : Int32) then (144 : Int32) else (128 : Int32)) then (-1 : Int32) else (if (if c0 = (244 : Int32) then (143 : Int32) else (191 : Int32)) < c1 then (-1 : Int32) else (if c2 < (128 : Int32) then (-1 : Int32) else (if (191 : Int32) < c2 then (-1 : Int32) else (if c3 < (128 : Int32) then (-1 : Int32) else (if (191 : Int32) < c3 then (-1 : Int32) else (((((((c0 &&& ((63 : Int32) >>> ((3 : Int32) &&& 31))) <<< ((6 : Int32) &&& 31)) ||| (c1 &&& (63 : Int32))) <<< ((6 : Int32) &&& 31)) ||| (c2 &&& (63 : Int32))) <<< ((6 : Int32) &&& 31)) ||| (c3 &&& (63 : Int32))))))))) else (-1 : Int32)) else (-1 : Int32))))))
theorem own_sh6 (a b : Int32) (h1 : 0 ≤ a.toInt) (h2 : a.toInt < 1048576) : ((a <<< ((6 : Int32) &&& 31)) ||| (b &&& (63 : Int32))).toInt = a.toInt * 64 + b.toInt % 64 := by
  have s : ((a <<< ((6 : Int32) &&& 31)).toInt - a.toInt * 64) % 4294967296 = 0 := c_ishl a 6 6 (by decide)
  have r := rng32 (a <<< ((6 : Int32) &&& 31))
  have e : (a <<< ((6 : Int32) &&& 31)).toInt = a.toInt * 64 := by omega
  have m : (b &&& 63).toInt = b.toInt % 64 := c_mask b 63 6 (by decide) (by decide)
  have o := c_or (a <<< ((6 : Int32) &&& 31)) (b &&& 63) 6 (by decide) 64 (by decide) (by omega) (by omega) (by omega)
  have r2 := rng32 ((a <<< ((6 : Int32) &&& 31)) ||| (b &&& 63))
  omega
theorem own_ld1 (c : Int32) : (c &&& ((63 : Int32) >>> ((1 : Int32) &&& 31))).toInt = c.toInt % 32 := by
  rw [show ((63 : Int32) >>> ((1 : Int32) &&& 31)) = 31 by decide]
  exact c_mask c 31 5 (by decide) (by decide)
theorem own_ld2 (c : Int32) : (c &&& ((63 : Int32) >>> ((2 : Int32) &&& 31))).toInt = c.toInt % 16 := by
  rw [show ((63 : Int32) >>> ((2 : Int32) &&& 31)) = 15 by decide]
  exact c_mask c 15 4 (by decide) (by decide)
theorem own_ld3 (c : Int32) : (c &&& ((63 : Int32) >>> ((3 : Int32) &&& 31))).toInt = c.toInt % 8 := by
  rw [show ((63 : Int32) >>> ((3 : Int32) &&& 31)) = 7 by decide]
  exact c_mask c 7 3 (by decide) (by decide)
theorem own_l2 (c0 c1 : Int32) : (((c0 &&& ((63 : Int32) >>> ((1 : Int32) &&& 31))) <<< ((6 : Int32) &&& 31)) ||| (c1 &&& (63 : Int32))).toInt = (c0.toInt % 32) * 64 + c1.toInt % 64 := by
  have a := own_ld1 c0
  rw [own_sh6 _ _ (by omega) (by omega), a]
theorem own_l3 (c0 c1 c2 : Int32) : (((((c0 &&& ((63 : Int32) >>> ((2 : Int32) &&& 31))) <<< ((6 : Int32) &&& 31)) ||| (c1 &&& (63 : Int32))) <<< ((6 : Int32) &&& 31)) ||| (c2 &&& (63 : Int32))).toInt = ((c0.toInt % 16) * 64 + c1.toInt % 64) * 64 + c2.toInt % 64 := by
  have a := own_ld2 c0
  have b : (((c0 &&& ((63 : Int32) >>> ((2 : Int32) &&& 31))) <<< ((6 : Int32) &&& 31)) ||| (c1 &&& (63 : Int32))).toInt = (c0.toInt % 16) * 64 + c1.toInt % 64 := by
    rw [own_sh6 _ _ (by omega) (by omega), a]
  rw [own_sh6 _ _ (by omega) (by omega), b]
theorem own_l4 (c0 c1 c2 c3 : Int32) : (((((((c0 &&& ((63 : Int32) >>> ((3 : Int32) &&& 31))) <<< ((6 : Int32) &&& 31)) ||| (c1 &&& (63 : Int32))) <<< ((6 : Int32) &&& 31)) ||| (c2 &&& (63 : Int32))) <<< ((6 : Int32) &&& 31)) ||| (c3 &&& (63 : Int32))).toInt = (((c0.toInt % 8) * 64 + c1.toInt % 64) * 64 + c2.toInt % 64) * 64 + c3.toInt % 64 := by
  have a := own_ld3 c0
  have b : (((c0 &&& ((63 : Int32) >>> ((3 : Int32) &&& 31))) <<< ((6 : Int32) &&& 31)) ||| (c1 &&& (63 : Int32))).toInt = (c0.toInt % 8) * 64 + c1.toInt % 64 := by
    rw [own_sh6 _ _ (by omega) (by omega), a]
  have d : (((((c0 &&& ((63 : Int32) >>> ((3 : Int32) &&& 31))) <<< ((6 : Int32) &&& 31)) ||| (c1 &&& (63 : Int32))) <<< ((6 : Int32) &&& 31)) ||| (c2 &&& (63 : Int32))).toInt = ((c0.toInt % 8) * 64 + c1.toInt % 64) * 64 + c2.toInt % 64 := by
    rw [own_sh6 _ _ (by omega) (by omega), b]
  rw [own_sh6 _ _ (by omega) (by omega), d]
theorem d3_0 : decode method_2_code 0 = .ok (.iload_n 1, 1) := by decide +kernel
theorem d3_1 : decode method_2_code 1 = .ok (.iload_n 2, 1) := by decide +kernel
theorem d3_2 : decode method_2_code 2 = .ok (.if_icmp .lt 8, 3) := by decide +kernel
theorem d3_5 : decode method_2_code 5 = .ok (.iload_n 1, 1) := by decide +kernel
theorem d3_6 : decode method_2_code 6 = .ok (.iload_n 3, 1) := by decide +kernel
theorem d3_7 : decode method_2_code 7 = .ok (.if_icmp .lt 11, 3) := by decide +kernel
theorem d3_10 : decode method_2_code 10 = .ok (.aload_n 0, 1) := by decide +kernel
theorem d3_11 : decode method_2_code 11 = .ok (.iload_n 1, 1) := by decide +kernel
theorem d3_12 : decode method_2_code 12 = .ok (.baload, 1) := by decide +kernel
theorem d3_13 : decode method_2_code 13 = .ok (.iload 4, 2) := by decide +kernel
theorem d3_15 : decode method_2_code 15 = .ok (.if_icmp .ne 7, 3) := by decide +kernel
theorem d3_18 : decode method_2_code 18 = .ok (.iconst 1, 1) := by decide +kernel
theorem d3_19 : decode method_2_code 19 = .ok (.goto 4, 3) := by decide +kernel
theorem d3_22 : decode method_2_code 22 = .ok (.iconst 0, 1) := by decide +kernel
theorem d3_23 : decode method_2_code 23 = .ok (.ireturn, 1) := by decide +kernel
theorem pn1 : plainName "com/example/leaderline/leaderline/Utf8EncodePinLaw" = true := by first | (simp [plainName, overriddenIn]; done) | decide +kernel
theorem ef3 (m : MethodId) (u0 : Addr) (p1 : Int32) (p2 : Int32) (p3 : Int32) (p4 : Int32) : entryFrame m #[(.ref u0), (.int p1), (.int p2), (.int p3), (.int p4)] 5 = mkF m 0 #[.val (.ref u0), .val (.int p1), .val (.int p2), .val (.int p3), .val (.int p4)] [] := by first | (simp [entryFrame, mkF, argsToLocals, Value.category]; done) | rfl
def f3 (n_u0 : Int32) (vs_u0 : List Int32) (p1 : Int32) (p2 : Int32) (p3 : Int32) (p4 : Int32) : Int32 := (nar .boolean (if p1 < p2 then (if (vs_u0.getD (p1).toNatClampNeg 0) = p4 then (1 : Int32) else (0 : Int32)) else (if p1 < p3 then (1 : Int32) else (if (vs_u0.getD (p1).toNatClampNeg 0) = p4 then (1 : Int32) else (0 : Int32)))))
theorem own_ix3_12 (n_u0 : Int32) (vs_u0 : List Int32) (hl_u0 : vs_u0.length = n_u0.toNatClampNeg) (hn_u0 : ¬ n_u0 < 0) (p1 : Int32) (p2 : Int32) (p3 : Int32) (p4 : Int32) (hB : ¬ p1 < 0 ∧ p1 < n_u0) (hc2_1 : p1 < p2) : ¬ p1 < 0 ∧ p1 < n_u0 := by
  exact hB
theorem own_ix3_12_2 (n_u0 : Int32) (vs_u0 : List Int32) (hl_u0 : vs_u0.length = n_u0.toNatClampNeg) (hn_u0 : ¬ n_u0 < 0) (p1 : Int32) (p2 : Int32) (p3 : Int32) (p4 : Int32) (hB : ¬ p1 < 0 ∧ p1 < n_u0) (hc2_1 : ¬ (p1 < p2)) (hc7_3 : ¬ (p1 < p3)) : ¬ p1 < 0 ∧ p1 < n_u0 := by
  exact hB
def Q3 (Z : State) (u0 : Addr) (p1 : Int32) (p2 : Int32) (p3 : Int32) (p4 : Int32) (k_u0 : ClassId) (n_u0 : Int32) (vs_u0 : List Int32) (h0 : Heap) (n0 : Nat) (v : Option Value) (h : Heap) (L : List Loc) : Prop := v = some (.int (f3 n_u0 vs_u0 p1 p2 p3 p4)) ∧ Fr n0 L ∧ h = h0
set_option maxRecDepth 65536 in
set_option maxHeartbeats 40000000 in
theorem rm3 (l : Launch) (Z : State) (a0 : Array Value) (hw : ∀ d ∈ tables_1, d.before a0 Z = true) (ws : List Jvm.Cond) (u0 : Addr) (p1 : Int32) (p2 : Int32) (p3 : Int32) (p4 : Int32) (k_u0 : ClassId) (n_u0 : Int32) (vs_u0 : List Int32) (h0 : Heap) (n0 : Nat) (Z0 : n0 ≤ h0.size) (V_u0 : AI Z h0 u0 k_u0 .byte n_u0 vs_u0) (hB : ¬ p1 < 0 ∧ p1 < n_u0) :
    MetFree l (⟨"com/example/leaderline/leaderline/Utf8EncodePinLaw", "kept", "([BIIIB)Z"⟩ : MethodName) (head1 (Jvm.Cond.code (⟨"com/example/leaderline/leaderline/Utf8EncodePinLaw", "kept", "([BIIIB)Z"⟩ : MethodName) method_2_code 5 (some .boolean) :: ws) ({ frames := 0, cells := 0, slots := 0, locals := 0 } : Room)) (fun a U => a = #[(.ref u0), (.int p1), (.int p2), (.int p3), (.int p4)] ∧ Z.Warmed39 U.vm ∧ U.heap = h0) (fun _ _ _ _ _ => True) (fun _ U o U' => ∃ v L, o = .returned v ∧ Q3 Z u0 p1 p2 p3 p4 k_u0 n_u0 vs_u0 h0 n0 v U'.heap L ∧ FrameEnd U o U' L ({ frames := 0, cells := 0, slots := 0, locals := 0 } : Room).cells ({ frames := 0, cells := 0, slots := 0, locals := 0 } : Room).slots) := by
  refine MetFree.of_bodySF (plainFor_of_name pn1) hisR ?_
  intro p e s m args below meth c s₁ Bd hml0 hP hK
  obtain ⟨rfl, hZ, hh⟩ := hP
  have hx := Bd.exec
  have hby := Bd.bytes
  have hml : c.maxLocals = 5 := hml0
  have hown : s.vm.findClass "com/example/leaderline/leaderline/Utf8EncodePinLaw" = some m.cls := findClass_of_methodNamed Bd.named
  have hnm := (name_of_methodNamed Bd.named Bd.method).1
  have X0 : Stand p l e ({ frames := 0, cells := 0, slots := 0, locals := 0 } : Room) s m #[(.ref u0), (.int p1), (.int p2), (.int p3), (.int p4)] below meth c s₁ [] 0 0 := Stand.of_body Bd
  have e0 : s₁.heap = h0 := by rw [← hh, Bd.state]; rfl
  have N0 := Fr.nil n0
  have hl_u0 : vs_u0.length = n_u0.toNatClampNeg := V_u0.2
  have hn_u0 : ¬ n_u0 < 0 := V_u0.nn
  refine Goes.out (Q := fun o U' => ∃ v L, o = .returned v ∧ Q3 Z u0 p1 p2 p3 p4 k_u0 n_u0 vs_u0 h0 n0 v U'.heap L ∧ FrameEnd s o U' L ({ frames := 0, cells := 0, slots := 0, locals := 0 } : Room).cells ({ frames := 0, cells := 0, slots := 0, locals := 0 } : Room).slots) ?_
  refine Goes.step (S' := s₁.setTop (mkF m 0 #[.val (.ref u0), .val (.int p1), .val (.int p2), .val (.int p3), .val (.int p4)] [])) (fun _ k => castTop (ef3 m u0 p1 p2 p3 p4) k) ?_
  refine Goes.step (S' := s₁.setTop (mkF m 1 #[.val (.ref u0), .val (.int p1), .val (.int p2), .val (.int p3), .val (.int p4)] [(.int p1)])) (fun _ k => XS.iloadN X0.here hx rfl (hb hby d3_0) rfl  k) ?_
  refine Goes.step (S' := s₁.setTop (mkF m 2 #[.val (.ref u0), .val (.int p1), .val (.int p2), .val (.int p3), .val (.int p4)] [(.int p2), (.int p1)])) (fun _ k => XS.iloadN X0.here hx rfl (hb hby d3_1) rfl  k) ?_
  refine Goes.step (own_ite1 (T := s₁) (c := p1 < p2) (a0 := (if (vs_u0.getD (p1).toNatClampNeg 0) = p4 then (1 : Int32) else (0 : Int32))) (b0 := (if p1 < p3 then (1 : Int32) else (if (vs_u0.getD (p1).toNatClampNeg 0) = p4 then (1 : Int32) else (0 : Int32)))) (F := fun z4_0 => (mkF m 23 #[.val (.ref u0), .val (.int p1), .val (.int p2), .val (.int p3), .val (.int p4)] [(.int z4_0)])) ?_ ?_) ?_
  · intro hc2_1 t k
    refine XS.icmpYes X0.here hx rfl (pc0 := 2) (pc' := 10) rfl (hb hby d3_2) rfl (tlt hc2_1).1 (by decide) (by decide) ?_
    show Steps p.tables e below (s₁.setTop (mkF m 10 #[.val (.ref u0), .val (.int p1), .val (.int p2), .val (.int p3), .val (.int p4)] [])) _
    refine XS.aloadN X0.here hx rfl (hb hby d3_10) rfl rfl ?_
    show Steps p.tables e below (s₁.setTop (mkF m 11 #[.val (.ref u0), .val (.int p1), .val (.int p2), .val (.int p3), .val (.int p4)] [(.ref u0)])) _
    refine XS.iloadN X0.here hx rfl (hb hby d3_11) rfl  ?_
    show Steps p.tables e below (s₁.setTop (mkF m 12 #[.val (.ref u0), .val (.int p1), .val (.int p2), .val (.int p3), .val (.int p4)] [(.int p1), (.ref u0)])) _
    refine own_baload X0 hx hZ e0 V_u0 (own_ix3_12 n_u0 vs_u0 hl_u0 hn_u0 p1 p2 p3 p4 hB hc2_1) (hb hby d3_12) _ ?_
    show Steps p.tables e below (s₁.setTop (mkF m 13 #[.val (.ref u0), .val (.int p1), .val (.int p2), .val (.int p3), .val (.int p4)] [(.int (vs_u0.getD (p1).toNatClampNeg 0))])) _
    refine XS.iload X0.here hx rfl (hb hby d3_13) rfl  ?_
    show Steps p.tables e below (s₁.setTop (mkF m 15 #[.val (.ref u0), .val (.int p1), .val (.int p2), .val (.int p3), .val (.int p4)] [(.int p4), (.int (vs_u0.getD (p1).toNatClampNeg 0))])) _
    refine own_ite1 (T := s₁) (c := (vs_u0.getD (p1).toNatClampNeg 0) = p4) (a0 := (1 : Int32)) (b0 := (0 : Int32)) (F := fun z2_0 => (mkF m 23 #[.val (.ref u0), .val (.int p1), .val (.int p2), .val (.int p3), .val (.int p4)] [(.int z2_0)])) ?_ ?_ _ ?_
    · intro hc15_2 t k
      refine XS.icmpNo X0.here hx rfl (hb hby d3_15) rfl (teq hc15_2).2 ?_
      show Steps p.tables e below (s₁.setTop (mkF m 18 #[.val (.ref u0), .val (.int p1), .val (.int p2), .val (.int p3), .val (.int p4)] [])) _
      refine XS.iconst X0.here hx rfl (hb hby d3_18) ?_
      show Steps p.tables e below (s₁.setTop (mkF m 19 #[.val (.ref u0), .val (.int p1), .val (.int p2), .val (.int p3), .val (.int p4)] [(.int (1 : Int32))])) _
      refine XS.goto X0.here hx rfl (pc0 := 19) (pc' := 23) rfl (hb hby d3_19) (by decide) (by decide) ?_
      show Steps p.tables e below (s₁.setTop (mkF m 23 #[.val (.ref u0), .val (.int p1), .val (.int p2), .val (.int p3), .val (.int p4)] [(.int (1 : Int32))])) _
      exact k
    · intro hc15_2 t k
      refine XS.icmpYes X0.here hx rfl (pc0 := 15) (pc' := 22) rfl (hb hby d3_15) rfl (feq hc15_2).2 (by decide) (by decide) ?_
      show Steps p.tables e below (s₁.setTop (mkF m 22 #[.val (.ref u0), .val (.int p1), .val (.int p2), .val (.int p3), .val (.int p4)] [])) _
      refine XS.iconst X0.here hx rfl (hb hby d3_22) ?_
      show Steps p.tables e below (s₁.setTop (mkF m 23 #[.val (.ref u0), .val (.int p1), .val (.int p2), .val (.int p3), .val (.int p4)] [(.int (0 : Int32))])) _
      exact k
    show Steps p.tables e below (s₁.setTop (mkF m 23 #[.val (.ref u0), .val (.int p1), .val (.int p2), .val (.int p3), .val (.int p4)] [(.int (if (vs_u0.getD (p1).toNatClampNeg 0) = p4 then (1 : Int32) else (0 : Int32)))])) _
    exact k
  · intro hc2_1 t k
    refine XS.icmpNo X0.here hx rfl (hb hby d3_2) rfl (flt hc2_1).1 ?_
    show Steps p.tables e below (s₁.setTop (mkF m 5 #[.val (.ref u0), .val (.int p1), .val (.int p2), .val (.int p3), .val (.int p4)] [])) _
    refine XS.iloadN X0.here hx rfl (hb hby d3_5) rfl  ?_
    show Steps p.tables e below (s₁.setTop (mkF m 6 #[.val (.ref u0), .val (.int p1), .val (.int p2), .val (.int p3), .val (.int p4)] [(.int p1)])) _
    refine XS.iloadN X0.here hx rfl (hb hby d3_6) rfl  ?_
    show Steps p.tables e below (s₁.setTop (mkF m 7 #[.val (.ref u0), .val (.int p1), .val (.int p2), .val (.int p3), .val (.int p4)] [(.int p3), (.int p1)])) _
    refine own_ite1 (T := s₁) (c := p1 < p3) (a0 := (1 : Int32)) (b0 := (if (vs_u0.getD (p1).toNatClampNeg 0) = p4 then (1 : Int32) else (0 : Int32))) (F := fun z4_0 => (mkF m 23 #[.val (.ref u0), .val (.int p1), .val (.int p2), .val (.int p3), .val (.int p4)] [(.int z4_0)])) ?_ ?_ _ ?_
    · intro hc7_3 t k
      refine XS.icmpYes X0.here hx rfl (pc0 := 7) (pc' := 18) rfl (hb hby d3_7) rfl (tlt hc7_3).1 (by decide) (by decide) ?_
      show Steps p.tables e below (s₁.setTop (mkF m 18 #[.val (.ref u0), .val (.int p1), .val (.int p2), .val (.int p3), .val (.int p4)] [])) _
      refine XS.iconst X0.here hx rfl (hb hby d3_18) ?_
      show Steps p.tables e below (s₁.setTop (mkF m 19 #[.val (.ref u0), .val (.int p1), .val (.int p2), .val (.int p3), .val (.int p4)] [(.int (1 : Int32))])) _
      refine XS.goto X0.here hx rfl (pc0 := 19) (pc' := 23) rfl (hb hby d3_19) (by decide) (by decide) ?_
      show Steps p.tables e below (s₁.setTop (mkF m 23 #[.val (.ref u0), .val (.int p1), .val (.int p2), .val (.int p3), .val (.int p4)] [(.int (1 : Int32))])) _
      exact k
    · intro hc7_3 t k
      refine XS.icmpNo X0.here hx rfl (hb hby d3_7) rfl (flt hc7_3).1 ?_
      show Steps p.tables e below (s₁.setTop (mkF m 10 #[.val (.ref u0), .val (.int p1), .val (.int p2), .val (.int p3), .val (.int p4)] [])) _
      refine XS.aloadN X0.here hx rfl (hb hby d3_10) rfl rfl ?_
      show Steps p.tables e below (s₁.setTop (mkF m 11 #[.val (.ref u0), .val (.int p1), .val (.int p2), .val (.int p3), .val (.int p4)] [(.ref u0)])) _
      refine XS.iloadN X0.here hx rfl (hb hby d3_11) rfl  ?_
      show Steps p.tables e below (s₁.setTop (mkF m 12 #[.val (.ref u0), .val (.int p1), .val (.int p2), .val (.int p3), .val (.int p4)] [(.int p1), (.ref u0)])) _
      refine own_baload X0 hx hZ e0 V_u0 (own_ix3_12_2 n_u0 vs_u0 hl_u0 hn_u0 p1 p2 p3 p4 hB hc2_1 hc7_3) (hb hby d3_12) _ ?_
      show Steps p.tables e below (s₁.setTop (mkF m 13 #[.val (.ref u0), .val (.int p1), .val (.int p2), .val (.int p3), .val (.int p4)] [(.int (vs_u0.getD (p1).toNatClampNeg 0))])) _
      refine XS.iload X0.here hx rfl (hb hby d3_13) rfl  ?_
      show Steps p.tables e below (s₁.setTop (mkF m 15 #[.val (.ref u0), .val (.int p1), .val (.int p2), .val (.int p3), .val (.int p4)] [(.int p4), (.int (vs_u0.getD (p1).toNatClampNeg 0))])) _
      refine own_ite1 (T := s₁) (c := (vs_u0.getD (p1).toNatClampNeg 0) = p4) (a0 := (1 : Int32)) (b0 := (0 : Int32)) (F := fun z4_0 => (mkF m 23 #[.val (.ref u0), .val (.int p1), .val (.int p2), .val (.int p3), .val (.int p4)] [(.int z4_0)])) ?_ ?_ _ ?_
      · intro hc15_4 t k
        refine XS.icmpNo X0.here hx rfl (hb hby d3_15) rfl (teq hc15_4).2 ?_
        show Steps p.tables e below (s₁.setTop (mkF m 18 #[.val (.ref u0), .val (.int p1), .val (.int p2), .val (.int p3), .val (.int p4)] [])) _
        refine XS.iconst X0.here hx rfl (hb hby d3_18) ?_
        show Steps p.tables e below (s₁.setTop (mkF m 19 #[.val (.ref u0), .val (.int p1), .val (.int p2), .val (.int p3), .val (.int p4)] [(.int (1 : Int32))])) _
        refine XS.goto X0.here hx rfl (pc0 := 19) (pc' := 23) rfl (hb hby d3_19) (by decide) (by decide) ?_
        show Steps p.tables e below (s₁.setTop (mkF m 23 #[.val (.ref u0), .val (.int p1), .val (.int p2), .val (.int p3), .val (.int p4)] [(.int (1 : Int32))])) _
        exact k
      · intro hc15_4 t k
        refine XS.icmpYes X0.here hx rfl (pc0 := 15) (pc' := 22) rfl (hb hby d3_15) rfl (feq hc15_4).2 (by decide) (by decide) ?_
        show Steps p.tables e below (s₁.setTop (mkF m 22 #[.val (.ref u0), .val (.int p1), .val (.int p2), .val (.int p3), .val (.int p4)] [])) _
        refine XS.iconst X0.here hx rfl (hb hby d3_22) ?_
        show Steps p.tables e below (s₁.setTop (mkF m 23 #[.val (.ref u0), .val (.int p1), .val (.int p2), .val (.int p3), .val (.int p4)] [(.int (0 : Int32))])) _
        exact k
      show Steps p.tables e below (s₁.setTop (mkF m 23 #[.val (.ref u0), .val (.int p1), .val (.int p2), .val (.int p3), .val (.int p4)] [(.int (if (vs_u0.getD (p1).toNatClampNeg 0) = p4 then (1 : Int32) else (0 : Int32)))])) _
      exact k
    show Steps p.tables e below (s₁.setTop (mkF m 23 #[.val (.ref u0), .val (.int p1), .val (.int p2), .val (.int p3), .val (.int p4)] [(.int (if p1 < p3 then (1 : Int32) else (if (vs_u0.getD (p1).toNatClampNeg 0) = p4 then (1 : Int32) else (0 : Int32))))])) _
    exact k
  show Goes p.tables e below _ (s₁.setTop (mkF m 23 #[.val (.ref u0), .val (.int p1), .val (.int p2), .val (.int p3), .val (.int p4)] [(.int (if p1 < p2 then (if (vs_u0.getD (p1).toNatClampNeg 0) = p4 then (1 : Int32) else (0 : Int32)) else (if p1 < p3 then (1 : Int32) else (if (vs_u0.getD (p1).toNatClampNeg 0) = p4 then (1 : Int32) else (0 : Int32)))))]))
  refine Goes.retN X0 hx Bd.notSynchronized (t := .boolean) Bd.returns (by simp) (hb hby d3_23) (by decide) (by decide) ?_
  exact ⟨rfl, N0, e0⟩
theorem own_rt1 (c y1 y2 y3 : Int32) (h : 0 ≤ c.toInt ∧ c.toInt < 128) : own_dF (c &&& 255) y1 y2 y3 (1 : Int32) = c := by
  have m := own_m255 c
  apply Int32.toInt_inj.mp
  simp only [own_dF]
  simp only [Int32.lt_iff_toInt_lt, ← Int32.toInt_inj, apply_ite Int32.toInt, Int32.reduceToInt, m]
  repeat' (first | omega | split)
theorem own_rt2 (c y2 y3 : Int32) (h : 128 ≤ c.toInt ∧ c.toInt < 2048) : own_dF (((192 : Int32) ||| (c >>> ((6 : Int32) &&& 31))) &&& 255) (((128 : Int32) ||| (c &&& (63 : Int32))) &&& 255) y2 y3 (2 : Int32) = c := by
  have s : (c >>> ((6 : Int32) &&& 31)).toInt = c.toInt / 64 := c_ishr c 6 6 (by decide)
  have k : (c &&& 63).toInt = c.toInt % 64 := c_mask c 63 6 (by decide) (by decide)
  have o0 := c_or 192 (c >>> ((6 : Int32) &&& 31)) 6 (by decide) 64 (by decide) (by decide) (by omega) (by omega)
  have o1 := c_or 128 (c &&& 63) 6 (by decide) 64 (by decide) (by decide) (by omega) (by omega)
  have r0 := rng32 ((192 : Int32) ||| (c >>> ((6 : Int32) &&& 31)))
  have r1 := rng32 ((128 : Int32) ||| (c &&& 63))
  have m0 := own_m255 ((192 : Int32) ||| (c >>> ((6 : Int32) &&& 31)))
  have m1 := own_m255 ((128 : Int32) ||| (c &&& 63))
  simp only [Int32.reduceToInt] at o0 o1
  generalize ((192 : Int32) ||| (c >>> ((6 : Int32) &&& 31))) &&& 255 = x0 at *
  generalize ((128 : Int32) ||| (c &&& (63 : Int32))) &&& 255 = x1 at *
  have v0 : x0.toInt = 192 + c.toInt / 64 := by omega
  have v1 : x1.toInt = 128 + c.toInt % 64 := by omega
  clear s k o0 o1 r0 r1 m0 m1
  have l2 := own_l2 x0 x1
  have l3 := own_l3 x0 x1 y2
  have l4 := own_l4 x0 x1 y2 y3
  apply Int32.toInt_inj.mp
  simp only [own_dF]
  simp only [Int32.lt_iff_toInt_lt, ← Int32.toInt_inj, apply_ite Int32.toInt, Int32.reduceToInt, l2, l3, l4, v0, v1]
  clear l2 l3 l4
  repeat' (first | omega | split)
theorem own_rt3 (c y3 : Int32) (h : 2048 ≤ c.toInt ∧ c.toInt < 65536) (hs : c.toInt < 55296 ∨ 57343 < c.toInt) : own_dF (((224 : Int32) ||| (c >>> ((12 : Int32) &&& 31))) &&& 255) (((128 : Int32) ||| ((c >>> ((6 : Int32) &&& 31)) &&& (63 : Int32))) &&& 255) (((128 : Int32) ||| (c &&& (63 : Int32))) &&& 255) y3 (3 : Int32) = c := by
  have s : (c >>> ((12 : Int32) &&& 31)).toInt = c.toInt / 4096 := c_ishr c 12 12 (by decide)
  have s1 : (c >>> ((6 : Int32) &&& 31)).toInt = c.toInt / 64 := c_ishr c 6 6 (by decide)
  have k1 : ((c >>> ((6 : Int32) &&& 31)) &&& 63).toInt = (c >>> ((6 : Int32) &&& 31)).toInt % 64 := c_mask _ 63 6 (by decide) (by decide)
  have k : (c &&& 63).toInt = c.toInt % 64 := c_mask c 63 6 (by decide) (by decide)
  have o0 := c_or 224 (c >>> ((12 : Int32) &&& 31)) 4 (by decide) 16 (by decide) (by decide) (by omega) (by omega)
  have o1 := c_or 128 ((c >>> ((6 : Int32) &&& 31)) &&& 63) 6 (by decide) 64 (by decide) (by decide) (by omega) (by omega)
  have o2 := c_or 128 (c &&& 63) 6 (by decide) 64 (by decide) (by decide) (by omega) (by omega)
  have r0 := rng32 ((224 : Int32) ||| (c >>> ((12 : Int32) &&& 31)))
  have r1 := rng32 ((128 : Int32) ||| ((c >>> ((6 : Int32) &&& 31)) &&& 63))
  have r2 := rng32 ((128 : Int32) ||| (c &&& 63))
  have m0 := own_m255 ((224 : Int32) ||| (c >>> ((12 : Int32) &&& 31)))
  have m1 := own_m255 ((128 : Int32) ||| ((c >>> ((6 : Int32) &&& 31)) &&& 63))
  have m2 := own_m255 ((128 : Int32) ||| (c &&& 63))
  simp only [Int32.reduceToInt] at o0 o1 o2
  generalize ((224 : Int32) ||| (c >>> ((12 : Int32) &&& 31))) &&& 255 = x0 at *
  generalize ((128 : Int32) ||| ((c >>> ((6 : Int32) &&& 31)) &&& (63 : Int32))) &&& 255 = x1 at *
  generalize ((128 : Int32) ||| (c &&& (63 : Int32))) &&& 255 = x2 at *
  have v0 : x0.toInt = 224 + c.toInt / 4096 := by omega
  have v1 : x1.toInt = 128 + c.toInt / 64 % 64 := by omega
  have v2 : x2.toInt = 128 + c.toInt % 64 := by omega
  clear s s1 k k1 o0 o1 o2 r0 r1 r2 m0 m1 m2
  have l2 := own_l2 x0 x1
  have l3 := own_l3 x0 x1 x2
  have l4 := own_l4 x0 x1 x2 y3
  apply Int32.toInt_inj.mp
  simp only [own_dF]
  simp only [Int32.lt_iff_toInt_lt, ← Int32.toInt_inj, apply_ite Int32.toInt, Int32.reduceToInt, l2, l3, l4, v0, v1, v2]
  clear l2 l3 l4
  repeat' (first | omega | split)
theorem own_rt4 (c : Int32) (h : 65536 ≤ c.toInt ∧ c.toInt < 1114112) : own_dF (((240 : Int32) ||| (c >>> ((18 : Int32) &&& 31))) &&& 255) (((128 : Int32) ||| ((c >>> ((12 : Int32) &&& 31)) &&& (63 : Int32))) &&& 255) (((128 : Int32) ||| ((c >>> ((6 : Int32) &&& 31)) &&& (63 : Int32))) &&& 255) (((128 : Int32) ||| (c &&& (63 : Int32))) &&& 255) (4 : Int32) = c := by
  have s : (c >>> ((18 : Int32) &&& 31)).toInt = c.toInt / 262144 := c_ishr c 18 18 (by decide)
  have s2 : (c >>> ((12 : Int32) &&& 31)).toInt = c.toInt / 4096 := c_ishr c 12 12 (by decide)
  have s1 : (c >>> ((6 : Int32) &&& 31)).toInt = c.toInt / 64 := c_ishr c 6 6 (by decide)
  have k2 : ((c >>> ((12 : Int32) &&& 31)) &&& 63).toInt = (c >>> ((12 : Int32) &&& 31)).toInt % 64 := c_mask _ 63 6 (by decide) (by decide)
  have k1 : ((c >>> ((6 : Int32) &&& 31)) &&& 63).toInt = (c >>> ((6 : Int32) &&& 31)).toInt % 64 := c_mask _ 63 6 (by decide) (by decide)
  have k : (c &&& 63).toInt = c.toInt % 64 := c_mask c 63 6 (by decide) (by decide)
  have o0 := c_or 240 (c >>> ((18 : Int32) &&& 31)) 3 (by decide) 8 (by decide) (by decide) (by omega) (by omega)
  have o1 := c_or 128 ((c >>> ((12 : Int32) &&& 31)) &&& 63) 6 (by decide) 64 (by decide) (by decide) (by omega) (by omega)
  have o2 := c_or 128 ((c >>> ((6 : Int32) &&& 31)) &&& 63) 6 (by decide) 64 (by decide) (by decide) (by omega) (by omega)
  have o3 := c_or 128 (c &&& 63) 6 (by decide) 64 (by decide) (by decide) (by omega) (by omega)
  have r0 := rng32 ((240 : Int32) ||| (c >>> ((18 : Int32) &&& 31)))
  have r1 := rng32 ((128 : Int32) ||| ((c >>> ((12 : Int32) &&& 31)) &&& 63))
  have r2 := rng32 ((128 : Int32) ||| ((c >>> ((6 : Int32) &&& 31)) &&& 63))
  have r3 := rng32 ((128 : Int32) ||| (c &&& 63))
  have m0 := own_m255 ((240 : Int32) ||| (c >>> ((18 : Int32) &&& 31)))
  have m1 := own_m255 ((128 : Int32) ||| ((c >>> ((12 : Int32) &&& 31)) &&& 63))
  have m2 := own_m255 ((128 : Int32) ||| ((c >>> ((6 : Int32) &&& 31)) &&& 63))
  have m3 := own_m255 ((128 : Int32) ||| (c &&& 63))
  simp only [Int32.reduceToInt] at o0 o1 o2 o3
  generalize ((240 : Int32) ||| (c >>> ((18 : Int32) &&& 31))) &&& 255 = x0 at *
  generalize ((128 : Int32) ||| ((c >>> ((12 : Int32) &&& 31)) &&& (63 : Int32))) &&& 255 = x1 at *
  generalize ((128 : Int32) ||| ((c >>> ((6 : Int32) &&& 31)) &&& (63 : Int32))) &&& 255 = x2 at *
  generalize ((128 : Int32) ||| (c &&& (63 : Int32))) &&& 255 = x3 at *
  have v0 : x0.toInt = 240 + c.toInt / 262144 := by omega
  have v1 : x1.toInt = 128 + c.toInt / 4096 % 64 := by omega
  have v2 : x2.toInt = 128 + c.toInt / 64 % 64 := by omega
  have v3 : x3.toInt = 128 + c.toInt % 64 := by omega
  clear s s1 s2 k k1 k2 o0 o1 o2 o3 r0 r1 r2 r3 m0 m1 m2 m3
  have l2 := own_l2 x0 x1
  have l3 := own_l3 x0 x1 x2
  have l4 := own_l4 x0 x1 x2 x3
  apply Int32.toInt_inj.mp
  simp only [own_dF]
  simp only [Int32.lt_iff_toInt_lt, ← Int32.toInt_inj, apply_ite Int32.toInt, Int32.reduceToInt, l2, l3, l4, v0, v1, v2, v3]
  clear l2 l3 l4
  repeat' (first | omega | split)
theorem own_k1 (lst : List Int32) (i K e b : Int32) (h : i < K) (g : lst.getD (i).toNatClampNeg 0 = b) : ¬ (f3 (8 : Int32) lst i K e b = (0 : Int32)) := by
  unfold f3; rw [if_pos h, if_pos g]; decide
theorem own_k2 (lst : List Int32) (i K e b : Int32) (h : ¬ i < K) (g : i < e) : ¬ (f3 (8 : Int32) lst i K e b = (0 : Int32)) := by
  unfold f3; rw [if_neg h, if_pos g]; decide
theorem own_k3 (lst : List Int32) (i K e b : Int32) (h : ¬ i < K) (h2 : ¬ i < e) (g : lst.getD (i).toNatClampNeg 0 = b) : ¬ (f3 (8 : Int32) lst i K e b = (0 : Int32)) := by
  unfold f3; rw [if_neg h, if_neg h2, if_pos g]; decide
theorem own_sur (x : Int32) (h1 : 55296 ≤ x.toInt) (h2 : x.toInt ≤ 57343) : (x ^^^ 2048).toInt = x.toInt - 2048 := by
  have all : ∀ i : Fin 2048, ((Int32.ofNat (55296 + i.1)) ^^^ 2048) = Int32.ofNat (53248 + i.1) := by decide +kernel
  have hk : x = Int32.ofNat (55296 + (x.toInt.toNat - 55296)) := by
    apply Int32.toInt_inj.mp
    rw [Int32.toInt_ofNat_small (by omega)]
    omega
  have g := all ⟨x.toInt.toNat - 55296, by omega⟩
  rw [← hk] at g
  rw [g, Int32.toInt_ofNat_small (by show 53248 + (x.toInt.toNat - 55296) < 2 ^ 31; omega)]
  show ((53248 + (x.toInt.toNat - 55296) : Nat) : Int) = _
  omega
theorem own_g0_1 (c b : Int32) (h1 : c < (128 : Int32)) : g1_u1 c (8 : Int32) [b, b, b, b, b, b, b, b] (0 : Int32) = [(nar .byte (c.toInt8.toInt32)), b, b, b, b, b, b, b] := (if_pos h1).trans rfl
theorem own_e0_1 (c b : Int32) (h1 : c < (128 : Int32)) : f1 c (8 : Int32) [b, b, b, b, b, b, b, b] (0 : Int32) = (1 : Int32) := (if_pos h1).trans rfl
theorem own_g0_2 (c b : Int32) (h1 : ¬ c < (128 : Int32)) (h2 : c < (2048 : Int32)) : g1_u1 c (8 : Int32) [b, b, b, b, b, b, b, b] (0 : Int32) = [(nar .byte (((192 : Int32) ||| (c >>> ((6 : Int32) &&& 31))).toInt8.toInt32)), (nar .byte (((128 : Int32) ||| (c &&& (63 : Int32))).toInt8.toInt32)), b, b, b, b, b, b] := (if_neg h1).trans ((if_pos h2).trans rfl)
theorem own_e0_2 (c b : Int32) (h1 : ¬ c < (128 : Int32)) (h2 : c < (2048 : Int32)) : f1 c (8 : Int32) [b, b, b, b, b, b, b, b] (0 : Int32) = (2 : Int32) := (if_neg h1).trans ((if_pos h2).trans rfl)
theorem own_g0_3 (c b : Int32) (h1 : ¬ c < (128 : Int32)) (h2 : ¬ c < (2048 : Int32)) (h3 : c < (65536 : Int32)) : g1_u1 c (8 : Int32) [b, b, b, b, b, b, b, b] (0 : Int32) = [(nar .byte (((224 : Int32) ||| (c >>> ((12 : Int32) &&& 31))).toInt8.toInt32)), (nar .byte (((128 : Int32) ||| ((c >>> ((6 : Int32) &&& 31)) &&& (63 : Int32))).toInt8.toInt32)), (nar .byte (((128 : Int32) ||| (c &&& (63 : Int32))).toInt8.toInt32)), b, b, b, b, b] := (if_neg h1).trans ((if_neg h2).trans ((if_pos h3).trans rfl))
theorem own_e0_3 (c b : Int32) (h1 : ¬ c < (128 : Int32)) (h2 : ¬ c < (2048 : Int32)) (h3 : c < (65536 : Int32)) : f1 c (8 : Int32) [b, b, b, b, b, b, b, b] (0 : Int32) = (3 : Int32) := (if_neg h1).trans ((if_neg h2).trans ((if_pos h3).trans rfl))
theorem own_g0_4 (c b : Int32) (h1 : ¬ c < (128 : Int32)) (h2 : ¬ c < (2048 : Int32)) (h3 : ¬ c < (65536 : Int32)) : g1_u1 c (8 : Int32) [b, b, b, b, b, b, b, b] (0 : Int32) = [(nar .byte (((240 : Int32) ||| (c >>> ((18 : Int32) &&& 31))).toInt8.toInt32)), (nar .byte (((128 : Int32) ||| ((c >>> ((12 : Int32) &&& 31)) &&& (63 : Int32))).toInt8.toInt32)), (nar .byte (((128 : Int32) ||| ((c >>> ((6 : Int32) &&& 31)) &&& (63 : Int32))).toInt8.toInt32)), (nar .byte (((128 : Int32) ||| (c &&& (63 : Int32))).toInt8.toInt32)), b, b, b, b] := (if_neg h1).trans ((if_neg h2).trans ((if_neg h3).trans rfl))
theorem own_e0_4 (c b : Int32) (h1 : ¬ c < (128 : Int32)) (h2 : ¬ c < (2048 : Int32)) (h3 : ¬ c < (65536 : Int32)) : f1 c (8 : Int32) [b, b, b, b, b, b, b, b] (0 : Int32) = (4 : Int32) := (if_neg h1).trans ((if_neg h2).trans ((if_neg h3).trans rfl))
theorem own_g1_1 (c b : Int32) (h1 : c < (128 : Int32)) : g1_u1 c (8 : Int32) [b, b, b, b, b, b, b, b] (1 : Int32) = [b, (nar .byte (c.toInt8.toInt32)), b, b, b, b, b, b] := (if_pos h1).trans rfl
theorem own_e1_1 (c b : Int32) (h1 : c < (128 : Int32)) : f1 c (8 : Int32) [b, b, b, b, b, b, b, b] (1 : Int32) = (2 : Int32) := (if_pos h1).trans rfl
theorem own_g1_2 (c b : Int32) (h1 : ¬ c < (128 : Int32)) (h2 : c < (2048 : Int32)) : g1_u1 c (8 : Int32) [b, b, b, b, b, b, b, b] (1 : Int32) = [b, (nar .byte (((192 : Int32) ||| (c >>> ((6 : Int32) &&& 31))).toInt8.toInt32)), (nar .byte (((128 : Int32) ||| (c &&& (63 : Int32))).toInt8.toInt32)), b, b, b, b, b] := (if_neg h1).trans ((if_pos h2).trans rfl)
theorem own_e1_2 (c b : Int32) (h1 : ¬ c < (128 : Int32)) (h2 : c < (2048 : Int32)) : f1 c (8 : Int32) [b, b, b, b, b, b, b, b] (1 : Int32) = (3 : Int32) := (if_neg h1).trans ((if_pos h2).trans rfl)
theorem own_g1_3 (c b : Int32) (h1 : ¬ c < (128 : Int32)) (h2 : ¬ c < (2048 : Int32)) (h3 : c < (65536 : Int32)) : g1_u1 c (8 : Int32) [b, b, b, b, b, b, b, b] (1 : Int32) = [b, (nar .byte (((224 : Int32) ||| (c >>> ((12 : Int32) &&& 31))).toInt8.toInt32)), (nar .byte (((128 : Int32) ||| ((c >>> ((6 : Int32) &&& 31)) &&& (63 : Int32))).toInt8.toInt32)), (nar .byte (((128 : Int32) ||| (c &&& (63 : Int32))).toInt8.toInt32)), b, b, b, b] := (if_neg h1).trans ((if_neg h2).trans ((if_pos h3).trans rfl))
theorem own_e1_3 (c b : Int32) (h1 : ¬ c < (128 : Int32)) (h2 : ¬ c < (2048 : Int32)) (h3 : c < (65536 : Int32)) : f1 c (8 : Int32) [b, b, b, b, b, b, b, b] (1 : Int32) = (4 : Int32) := (if_neg h1).trans ((if_neg h2).trans ((if_pos h3).trans rfl))
theorem own_g1_4 (c b : Int32) (h1 : ¬ c < (128 : Int32)) (h2 : ¬ c < (2048 : Int32)) (h3 : ¬ c < (65536 : Int32)) : g1_u1 c (8 : Int32) [b, b, b, b, b, b, b, b] (1 : Int32) = [b, (nar .byte (((240 : Int32) ||| (c >>> ((18 : Int32) &&& 31))).toInt8.toInt32)), (nar .byte (((128 : Int32) ||| ((c >>> ((12 : Int32) &&& 31)) &&& (63 : Int32))).toInt8.toInt32)), (nar .byte (((128 : Int32) ||| ((c >>> ((6 : Int32) &&& 31)) &&& (63 : Int32))).toInt8.toInt32)), (nar .byte (((128 : Int32) ||| (c &&& (63 : Int32))).toInt8.toInt32)), b, b, b] := (if_neg h1).trans ((if_neg h2).trans ((if_neg h3).trans rfl))
theorem own_e1_4 (c b : Int32) (h1 : ¬ c < (128 : Int32)) (h2 : ¬ c < (2048 : Int32)) (h3 : ¬ c < (65536 : Int32)) : f1 c (8 : Int32) [b, b, b, b, b, b, b, b] (1 : Int32) = (5 : Int32) := (if_neg h1).trans ((if_neg h2).trans ((if_neg h3).trans rfl))
theorem own_g2_1 (c b : Int32) (h1 : c < (128 : Int32)) : g1_u1 c (8 : Int32) [b, b, b, b, b, b, b, b] (2 : Int32) = [b, b, (nar .byte (c.toInt8.toInt32)), b, b, b, b, b] := (if_pos h1).trans rfl
theorem own_e2_1 (c b : Int32) (h1 : c < (128 : Int32)) : f1 c (8 : Int32) [b, b, b, b, b, b, b, b] (2 : Int32) = (3 : Int32) := (if_pos h1).trans rfl
theorem own_g2_2 (c b : Int32) (h1 : ¬ c < (128 : Int32)) (h2 : c < (2048 : Int32)) : g1_u1 c (8 : Int32) [b, b, b, b, b, b, b, b] (2 : Int32) = [b, b, (nar .byte (((192 : Int32) ||| (c >>> ((6 : Int32) &&& 31))).toInt8.toInt32)), (nar .byte (((128 : Int32) ||| (c &&& (63 : Int32))).toInt8.toInt32)), b, b, b, b] := (if_neg h1).trans ((if_pos h2).trans rfl)
theorem own_e2_2 (c b : Int32) (h1 : ¬ c < (128 : Int32)) (h2 : c < (2048 : Int32)) : f1 c (8 : Int32) [b, b, b, b, b, b, b, b] (2 : Int32) = (4 : Int32) := (if_neg h1).trans ((if_pos h2).trans rfl)
theorem own_g2_3 (c b : Int32) (h1 : ¬ c < (128 : Int32)) (h2 : ¬ c < (2048 : Int32)) (h3 : c < (65536 : Int32)) : g1_u1 c (8 : Int32) [b, b, b, b, b, b, b, b] (2 : Int32) = [b, b, (nar .byte (((224 : Int32) ||| (c >>> ((12 : Int32) &&& 31))).toInt8.toInt32)), (nar .byte (((128 : Int32) ||| ((c >>> ((6 : Int32) &&& 31)) &&& (63 : Int32))).toInt8.toInt32)), (nar .byte (((128 : Int32) ||| (c &&& (63 : Int32))).toInt8.toInt32)), b, b, b] := (if_neg h1).trans ((if_neg h2).trans ((if_pos h3).trans rfl))
theorem own_e2_3 (c b : Int32) (h1 : ¬ c < (128 : Int32)) (h2 : ¬ c < (2048 : Int32)) (h3 : c < (65536 : Int32)) : f1 c (8 : Int32) [b, b, b, b, b, b, b, b] (2 : Int32) = (5 : Int32) := (if_neg h1).trans ((if_neg h2).trans ((if_pos h3).trans rfl))
theorem own_g2_4 (c b : Int32) (h1 : ¬ c < (128 : Int32)) (h2 : ¬ c < (2048 : Int32)) (h3 : ¬ c < (65536 : Int32)) : g1_u1 c (8 : Int32) [b, b, b, b, b, b, b, b] (2 : Int32) = [b, b, (nar .byte (((240 : Int32) ||| (c >>> ((18 : Int32) &&& 31))).toInt8.toInt32)), (nar .byte (((128 : Int32) ||| ((c >>> ((12 : Int32) &&& 31)) &&& (63 : Int32))).toInt8.toInt32)), (nar .byte (((128 : Int32) ||| ((c >>> ((6 : Int32) &&& 31)) &&& (63 : Int32))).toInt8.toInt32)), (nar .byte (((128 : Int32) ||| (c &&& (63 : Int32))).toInt8.toInt32)), b, b] := (if_neg h1).trans ((if_neg h2).trans ((if_neg h3).trans rfl))
theorem own_e2_4 (c b : Int32) (h1 : ¬ c < (128 : Int32)) (h2 : ¬ c < (2048 : Int32)) (h3 : ¬ c < (65536 : Int32)) : f1 c (8 : Int32) [b, b, b, b, b, b, b, b] (2 : Int32) = (6 : Int32) := (if_neg h1).trans ((if_neg h2).trans ((if_neg h3).trans rfl))
theorem own_g3_1 (c b : Int32) (h1 : c < (128 : Int32)) : g1_u1 c (8 : Int32) [b, b, b, b, b, b, b, b] (3 : Int32) = [b, b, b, (nar .byte (c.toInt8.toInt32)), b, b, b, b] := (if_pos h1).trans rfl
theorem own_e3_1 (c b : Int32) (h1 : c < (128 : Int32)) : f1 c (8 : Int32) [b, b, b, b, b, b, b, b] (3 : Int32) = (4 : Int32) := (if_pos h1).trans rfl
theorem own_g3_2 (c b : Int32) (h1 : ¬ c < (128 : Int32)) (h2 : c < (2048 : Int32)) : g1_u1 c (8 : Int32) [b, b, b, b, b, b, b, b] (3 : Int32) = [b, b, b, (nar .byte (((192 : Int32) ||| (c >>> ((6 : Int32) &&& 31))).toInt8.toInt32)), (nar .byte (((128 : Int32) ||| (c &&& (63 : Int32))).toInt8.toInt32)), b, b, b] := (if_neg h1).trans ((if_pos h2).trans rfl)
theorem own_e3_2 (c b : Int32) (h1 : ¬ c < (128 : Int32)) (h2 : c < (2048 : Int32)) : f1 c (8 : Int32) [b, b, b, b, b, b, b, b] (3 : Int32) = (5 : Int32) := (if_neg h1).trans ((if_pos h2).trans rfl)
theorem own_g3_3 (c b : Int32) (h1 : ¬ c < (128 : Int32)) (h2 : ¬ c < (2048 : Int32)) (h3 : c < (65536 : Int32)) : g1_u1 c (8 : Int32) [b, b, b, b, b, b, b, b] (3 : Int32) = [b, b, b, (nar .byte (((224 : Int32) ||| (c >>> ((12 : Int32) &&& 31))).toInt8.toInt32)), (nar .byte (((128 : Int32) ||| ((c >>> ((6 : Int32) &&& 31)) &&& (63 : Int32))).toInt8.toInt32)), (nar .byte (((128 : Int32) ||| (c &&& (63 : Int32))).toInt8.toInt32)), b, b] := (if_neg h1).trans ((if_neg h2).trans ((if_pos h3).trans rfl))
theorem own_e3_3 (c b : Int32) (h1 : ¬ c < (128 : Int32)) (h2 : ¬ c < (2048 : Int32)) (h3 : c < (65536 : Int32)) : f1 c (8 : Int32) [b, b, b, b, b, b, b, b] (3 : Int32) = (6 : Int32) := (if_neg h1).trans ((if_neg h2).trans ((if_pos h3).trans rfl))
theorem own_g3_4 (c b : Int32) (h1 : ¬ c < (128 : Int32)) (h2 : ¬ c < (2048 : Int32)) (h3 : ¬ c < (65536 : Int32)) : g1_u1 c (8 : Int32) [b, b, b, b, b, b, b, b] (3 : Int32) = [b, b, b, (nar .byte (((240 : Int32) ||| (c >>> ((18 : Int32) &&& 31))).toInt8.toInt32)), (nar .byte (((128 : Int32) ||| ((c >>> ((12 : Int32) &&& 31)) &&& (63 : Int32))).toInt8.toInt32)), (nar .byte (((128 : Int32) ||| ((c >>> ((6 : Int32) &&& 31)) &&& (63 : Int32))).toInt8.toInt32)), (nar .byte (((128 : Int32) ||| (c &&& (63 : Int32))).toInt8.toInt32)), b] := (if_neg h1).trans ((if_neg h2).trans ((if_neg h3).trans rfl))
theorem own_e3_4 (c b : Int32) (h1 : ¬ c < (128 : Int32)) (h2 : ¬ c < (2048 : Int32)) (h3 : ¬ c < (65536 : Int32)) : f1 c (8 : Int32) [b, b, b, b, b, b, b, b] (3 : Int32) = (7 : Int32) := (if_neg h1).trans ((if_neg h2).trans ((if_neg h3).trans rfl))
theorem own_g4_1 (c b : Int32) (h1 : c < (128 : Int32)) : g1_u1 c (8 : Int32) [b, b, b, b, b, b, b, b] (4 : Int32) = [b, b, b, b, (nar .byte (c.toInt8.toInt32)), b, b, b] := (if_pos h1).trans rfl
theorem own_e4_1 (c b : Int32) (h1 : c < (128 : Int32)) : f1 c (8 : Int32) [b, b, b, b, b, b, b, b] (4 : Int32) = (5 : Int32) := (if_pos h1).trans rfl
theorem own_g4_2 (c b : Int32) (h1 : ¬ c < (128 : Int32)) (h2 : c < (2048 : Int32)) : g1_u1 c (8 : Int32) [b, b, b, b, b, b, b, b] (4 : Int32) = [b, b, b, b, (nar .byte (((192 : Int32) ||| (c >>> ((6 : Int32) &&& 31))).toInt8.toInt32)), (nar .byte (((128 : Int32) ||| (c &&& (63 : Int32))).toInt8.toInt32)), b, b] := (if_neg h1).trans ((if_pos h2).trans rfl)
theorem own_e4_2 (c b : Int32) (h1 : ¬ c < (128 : Int32)) (h2 : c < (2048 : Int32)) : f1 c (8 : Int32) [b, b, b, b, b, b, b, b] (4 : Int32) = (6 : Int32) := (if_neg h1).trans ((if_pos h2).trans rfl)
theorem own_g4_3 (c b : Int32) (h1 : ¬ c < (128 : Int32)) (h2 : ¬ c < (2048 : Int32)) (h3 : c < (65536 : Int32)) : g1_u1 c (8 : Int32) [b, b, b, b, b, b, b, b] (4 : Int32) = [b, b, b, b, (nar .byte (((224 : Int32) ||| (c >>> ((12 : Int32) &&& 31))).toInt8.toInt32)), (nar .byte (((128 : Int32) ||| ((c >>> ((6 : Int32) &&& 31)) &&& (63 : Int32))).toInt8.toInt32)), (nar .byte (((128 : Int32) ||| (c &&& (63 : Int32))).toInt8.toInt32)), b] := (if_neg h1).trans ((if_neg h2).trans ((if_pos h3).trans rfl))
theorem own_e4_3 (c b : Int32) (h1 : ¬ c < (128 : Int32)) (h2 : ¬ c < (2048 : Int32)) (h3 : c < (65536 : Int32)) : f1 c (8 : Int32) [b, b, b, b, b, b, b, b] (4 : Int32) = (7 : Int32) := (if_neg h1).trans ((if_neg h2).trans ((if_pos h3).trans rfl))
theorem own_g4_4 (c b : Int32) (h1 : ¬ c < (128 : Int32)) (h2 : ¬ c < (2048 : Int32)) (h3 : ¬ c < (65536 : Int32)) : g1_u1 c (8 : Int32) [b, b, b, b, b, b, b, b] (4 : Int32) = [b, b, b, b, (nar .byte (((240 : Int32) ||| (c >>> ((18 : Int32) &&& 31))).toInt8.toInt32)), (nar .byte (((128 : Int32) ||| ((c >>> ((12 : Int32) &&& 31)) &&& (63 : Int32))).toInt8.toInt32)), (nar .byte (((128 : Int32) ||| ((c >>> ((6 : Int32) &&& 31)) &&& (63 : Int32))).toInt8.toInt32)), (nar .byte (((128 : Int32) ||| (c &&& (63 : Int32))).toInt8.toInt32))] := (if_neg h1).trans ((if_neg h2).trans ((if_neg h3).trans rfl))
theorem own_e4_4 (c b : Int32) (h1 : ¬ c < (128 : Int32)) (h2 : ¬ c < (2048 : Int32)) (h3 : ¬ c < (65536 : Int32)) : f1 c (8 : Int32) [b, b, b, b, b, b, b, b] (4 : Int32) = (8 : Int32) := (if_neg h1).trans ((if_neg h2).trans ((if_neg h3).trans rfl))
theorem own_rngs (p0 : Int32) (p1 : Int32) (p2 : Int32) (p3 : Int32) (v4_3 : Int32) (ev4_3 : v4_3 = (p0 &&& (3 : Int32))) (v5_9 : Int32) (ev5_9 : v5_9 = (p1 &&& (2147483647 : Int32))) (v6_98 : Int32) (ev6_98 : v6_98 = (if v4_3 = (0 : Int32) then (p1 &&& (127 : Int32)) else (if v4_3 = (1 : Int32) then ((128 : Int32) + (v5_9 % (1920 : Int32))) else (if v4_3 = (2 : Int32) then (if ((2048 : Int32) + (v5_9 % (63488 : Int32))) < (55296 : Int32) then ((2048 : Int32) + (v5_9 % (63488 : Int32))) else (if (57343 : Int32) < ((2048 : Int32) + (v5_9 % (63488 : Int32))) then ((2048 : Int32) + (v5_9 % (63488 : Int32))) else (((2048 : Int32) + (v5_9 % (63488 : Int32))) ^^^ (2048 : Int32)))) else ((65536 : Int32) + (v5_9 % (1048576 : Int32))))))) (v7_104 : Int32) (ev7_104 : v7_104 = ((p2 &&& (2147483647 : Int32)) % (5 : Int32))) (v8_108 : Int32) (ev8_108 : v8_108 = (p3.toInt8.toInt32)) : nar .byte v8_108 = v8_108 ∧ (v7_104 = 0 ∨ v7_104 = 1 ∨ v7_104 = 2 ∨ v7_104 = 3 ∨ v7_104 = 4) ∧ ((v4_3 = 0 ∧ 0 ≤ v6_98.toInt ∧ v6_98.toInt < 128) ∨ (v4_3 = 1 ∧ 128 ≤ v6_98.toInt ∧ v6_98.toInt < 2048) ∨ (v4_3 = 2 ∧ (2048 ≤ v6_98.toInt ∧ v6_98.toInt < 65536) ∧ (v6_98.toInt < 55296 ∨ 57343 < v6_98.toInt)) ∨ (v4_3 = 3 ∧ 65536 ≤ v6_98.toInt ∧ v6_98.toInt < 1114112)) := by
  have hb8 : nar .byte v8_108 = v8_108 := by
    have a := c_i2b p3
    have b := c_i2b (p3.toInt8.toInt32)
    rw [ev8_108]
    apply Int32.toInt_inj.mp
    show (p3.toInt8.toInt32.toInt8.toInt32).toInt = _
    omega
  have hat : v7_104 = 0 ∨ v7_104 = 1 ∨ v7_104 = 2 ∨ v7_104 = 3 ∨ v7_104 = 4 := by
    have a : (p2 &&& 2147483647).toInt = p2.toInt % 2147483648 := c_mask p2 2147483647 31 (by decide) (by decide)
    have b := c_irem (p2 &&& 2147483647) 5 5 (by decide)
    rw [← ev7_104] at b
    simp only [← Int32.toInt_inj, Int32.reduceToInt]
    omega
  have hr : (v4_3 = 0 ∧ 0 ≤ v6_98.toInt ∧ v6_98.toInt < 128) ∨ (v4_3 = 1 ∧ 128 ≤ v6_98.toInt ∧ v6_98.toInt < 2048) ∨ (v4_3 = 2 ∧ (2048 ≤ v6_98.toInt ∧ v6_98.toInt < 65536) ∧ (v6_98.toInt < 55296 ∨ 57343 < v6_98.toInt)) ∨ (v4_3 = 3 ∧ 65536 ≤ v6_98.toInt ∧ v6_98.toInt < 1114112) := by
    have a : (p0 &&& 3).toInt = p0.toInt % 4 := c_mask p0 3 2 (by decide) (by decide)
    rw [← ev4_3] at a
    have a5 : (p1 &&& 2147483647).toInt = p1.toInt % 2147483648 := c_mask p1 2147483647 31 (by decide) (by decide)
    rw [← ev5_9] at a5
    have a7 : (p1 &&& 127).toInt = p1.toInt % 128 := c_mask p1 127 7 (by decide) (by decide)
    have x1 : 128 ≤ (128 + v5_9 % 1920).toInt ∧ (128 + v5_9 % 1920).toInt < 2048 := by
      have k : 0 ≤ (v5_9 % 1920).toInt ∧ (v5_9 % 1920).toInt < 1920 := by
        have b := c_irem v5_9 1920 1920 (by decide)
        omega
      have d := c_iadd 128 (v5_9 % 1920)
      have r := rng32 (128 + v5_9 % 1920)
      simp only [Int32.reduceToInt] at d
      clear a a7 a5
      omega
    have x2 : 2048 ≤ (2048 + v5_9 % 63488).toInt ∧ (2048 + v5_9 % 63488).toInt < 65536 := by
      have k : 0 ≤ (v5_9 % 63488).toInt ∧ (v5_9 % 63488).toInt < 63488 := by
        have b := c_irem v5_9 63488 63488 (by decide)
        omega
      have d := c_iadd 2048 (v5_9 % 63488)
      have r := rng32 (2048 + v5_9 % 63488)
      simp only [Int32.reduceToInt] at d
      clear a a7 a5
      omega
    have x3 : 65536 ≤ (65536 + v5_9 % 1048576).toInt ∧ (65536 + v5_9 % 1048576).toInt < 1114112 := by
      have k : 0 ≤ (v5_9 % 1048576).toInt ∧ (v5_9 % 1048576).toInt < 1048576 := by
        have b := c_irem v5_9 1048576 1048576 (by decide)
        omega
      have d := c_iadd 65536 (v5_9 % 1048576)
      have r := rng32 (65536 + v5_9 % 1048576)
      simp only [Int32.reduceToInt] at d
      clear a a7 a5
      omega
    have su := own_sur (2048 + v5_9 % 63488)
    clear a5
    have h : v4_3 = 0 ∨ v4_3 = 1 ∨ v4_3 = 2 ∨ v4_3 = 3 := by
      simp only [← Int32.toInt_inj, Int32.reduceToInt]
      omega
    rcases h with h | h | h | h
    · refine Or.inl ⟨h, ?_⟩
      rw [ev6_98, if_pos h]
      omega
    · refine Or.inr (Or.inl ⟨h, ?_⟩)
      rw [ev6_98, h, if_neg (by decide), if_pos rfl]
      omega
    · refine Or.inr (Or.inr (Or.inl ⟨h, ?_⟩))
      rw [ev6_98, h, if_neg (by decide), if_neg (by decide), if_pos rfl]
      simp only [Int32.lt_iff_toInt_lt, apply_ite Int32.toInt, Int32.reduceToInt]
      repeat' split
      all_goals omega
    · refine Or.inr (Or.inr (Or.inr ⟨h, ?_⟩))
      rw [ev6_98, h, if_neg (by decide), if_neg (by decide), if_neg (by decide)]
      omega
  clear ev6_98 ev5_9 ev4_3 ev7_104 ev8_108
  exact ⟨hb8, hat, hr⟩
theorem pd0 : parseMethodDescriptor "(I[BI)I" = some ⟨[.int, (.array .byte), .int], some .int⟩ := by decide +kernel
theorem pd1 : parseMethodDescriptor "([BII)I" = some ⟨[(.array .byte), .int, .int], some .int⟩ := by decide +kernel
theorem pd2 : parseMethodDescriptor "([BIIIB)Z" = some ⟨[(.array .byte), .int, .int, .int, .byte], some .boolean⟩ := by decide +kernel
theorem ef0 (m : MethodId) (p0 : Int32) (p1 : Int32) (p2 : Int32) (p3 : Int32) : entryFrame m #[(.int p0), (.int p1), (.int p2), (.int p3)] maxLocals = mkF m 0 #[.val (.int p0), .val (.int p1), .val (.int p2), .val (.int p3), .unset, .unset, .unset, .unset, .unset, .unset, .unset] [] := by first | (simp [entryFrame, mkF, argsToLocals, Value.category, maxLocals]; done) | rfl
theorem own_pr0_164_hB (p0 : Int32) (p1 : Int32) (p2 : Int32) (p3 : Int32) (v4_3 : Int32) (ev4_3 : v4_3 = (p0 &&& (3 : Int32))) (v5_9 : Int32) (ev5_9 : v5_9 = (p1 &&& (2147483647 : Int32))) (v6_98 : Int32) (ev6_98 : v6_98 = (if v4_3 = (0 : Int32) then (p1 &&& (127 : Int32)) else (if v4_3 = (1 : Int32) then ((128 : Int32) + (v5_9 % (1920 : Int32))) else (if v4_3 = (2 : Int32) then (if ((2048 : Int32) + (v5_9 % (63488 : Int32))) < (55296 : Int32) then ((2048 : Int32) + (v5_9 % (63488 : Int32))) else (if (57343 : Int32) < ((2048 : Int32) + (v5_9 % (63488 : Int32))) then ((2048 : Int32) + (v5_9 % (63488 : Int32))) else (((2048 : Int32) + (v5_9 % (63488 : Int32))) ^^^ (2048 : Int32)))) else ((65536 : Int32) + (v5_9 % (1048576 : Int32))))))) (v7_104 : Int32) (ev7_104 : v7_104 = ((p2 &&& (2147483647 : Int32)) % (5 : Int32))) (v8_108 : Int32) (ev8_108 : v8_108 = (p3.toInt8.toInt32)) : ¬ v7_104 < 0 ∧ (v7_104 + (3 : Int32)) < (8 : Int32) := by
  obtain ⟨hb8, hat, hr⟩ := own_rngs p0 p1 p2 p3 v4_3 ev4_3 v5_9 ev5_9 v6_98 ev6_98 v7_104 ev7_104 v8_108 ev8_108
  clear ev6_98 ev5_9 ev4_3 ev7_104 ev8_108
  rcases hat with h | h | h | h | h <;> subst h <;> exact ⟨by decide, by decide⟩
theorem own_pr0_164_hb4 (p0 : Int32) (p1 : Int32) (p2 : Int32) (p3 : Int32) (v4_3 : Int32) (ev4_3 : v4_3 = (p0 &&& (3 : Int32))) (v5_9 : Int32) (ev5_9 : v5_9 = (p1 &&& (2147483647 : Int32))) (v6_98 : Int32) (ev6_98 : v6_98 = (if v4_3 = (0 : Int32) then (p1 &&& (127 : Int32)) else (if v4_3 = (1 : Int32) then ((128 : Int32) + (v5_9 % (1920 : Int32))) else (if v4_3 = (2 : Int32) then (if ((2048 : Int32) + (v5_9 % (63488 : Int32))) < (55296 : Int32) then ((2048 : Int32) + (v5_9 % (63488 : Int32))) else (if (57343 : Int32) < ((2048 : Int32) + (v5_9 % (63488 : Int32))) then ((2048 : Int32) + (v5_9 % (63488 : Int32))) else (((2048 : Int32) + (v5_9 % (63488 : Int32))) ^^^ (2048 : Int32)))) else ((65536 : Int32) + (v5_9 % (1048576 : Int32))))))) (v7_104 : Int32) (ev7_104 : v7_104 = ((p2 &&& (2147483647 : Int32)) % (5 : Int32))) (v8_108 : Int32) (ev8_108 : v8_108 = (p3.toInt8.toInt32)) : (8 : Int32) < (100 : Int32) := by
  first | decide | exact ⟨by decide, by decide⟩
theorem own_pr0_164_hB5 (p0 : Int32) (p1 : Int32) (p2 : Int32) (p3 : Int32) (v4_3 : Int32) (ev4_3 : v4_3 = (p0 &&& (3 : Int32))) (v5_9 : Int32) (ev5_9 : v5_9 = (p1 &&& (2147483647 : Int32))) (v6_98 : Int32) (ev6_98 : v6_98 = (if v4_3 = (0 : Int32) then (p1 &&& (127 : Int32)) else (if v4_3 = (1 : Int32) then ((128 : Int32) + (v5_9 % (1920 : Int32))) else (if v4_3 = (2 : Int32) then (if ((2048 : Int32) + (v5_9 % (63488 : Int32))) < (55296 : Int32) then ((2048 : Int32) + (v5_9 % (63488 : Int32))) else (if (57343 : Int32) < ((2048 : Int32) + (v5_9 % (63488 : Int32))) then ((2048 : Int32) + (v5_9 % (63488 : Int32))) else (((2048 : Int32) + (v5_9 % (63488 : Int32))) ^^^ (2048 : Int32)))) else ((65536 : Int32) + (v5_9 % (1048576 : Int32))))))) (v7_104 : Int32) (ev7_104 : v7_104 = ((p2 &&& (2147483647 : Int32)) % (5 : Int32))) (v8_108 : Int32) (ev8_108 : v8_108 = (p3.toInt8.toInt32)) : v7_104 < (100 : Int32) := by
  obtain ⟨hb8, hat, hr⟩ := own_rngs p0 p1 p2 p3 v4_3 ev4_3 v5_9 ev5_9 v6_98 ev6_98 v7_104 ev7_104 v8_108 ev8_108
  clear ev6_98 ev5_9 ev4_3 ev7_104 ev8_108
  rcases hat with h | h | h | h | h <;> subst h <;> decide
theorem own_hc0_178 (p0 : Int32) (p1 : Int32) (p2 : Int32) (p3 : Int32) (v4_3 : Int32) (ev4_3 : v4_3 = (p0 &&& (3 : Int32))) (v5_9 : Int32) (ev5_9 : v5_9 = (p1 &&& (2147483647 : Int32))) (v6_98 : Int32) (ev6_98 : v6_98 = (if v4_3 = (0 : Int32) then (p1 &&& (127 : Int32)) else (if v4_3 = (1 : Int32) then ((128 : Int32) + (v5_9 % (1920 : Int32))) else (if v4_3 = (2 : Int32) then (if ((2048 : Int32) + (v5_9 % (63488 : Int32))) < (55296 : Int32) then ((2048 : Int32) + (v5_9 % (63488 : Int32))) else (if (57343 : Int32) < ((2048 : Int32) + (v5_9 % (63488 : Int32))) then ((2048 : Int32) + (v5_9 % (63488 : Int32))) else (((2048 : Int32) + (v5_9 % (63488 : Int32))) ^^^ (2048 : Int32)))) else ((65536 : Int32) + (v5_9 % (1048576 : Int32))))))) (v7_104 : Int32) (ev7_104 : v7_104 = ((p2 &&& (2147483647 : Int32)) % (5 : Int32))) (v8_108 : Int32) (ev8_108 : v8_108 = (p3.toInt8.toInt32)) (v10_167 : Int32) (ev10_167 : v10_167 = (f1 v6_98 (8 : Int32) [(nar .byte v8_108), (nar .byte v8_108), (nar .byte v8_108), (nar .byte v8_108), (nar .byte v8_108), (nar .byte v8_108), (nar .byte v8_108), (nar .byte v8_108)] v7_104)) : v10_167 = ((v7_104 + v4_3) + (1 : Int32)) := by
  obtain ⟨hb8, hat, hr⟩ := own_rngs p0 p1 p2 p3 v4_3 ev4_3 v5_9 ev5_9 v6_98 ev6_98 v7_104 ev7_104 v8_108 ev8_108
  clear ev6_98 ev5_9 ev4_3 ev7_104 ev8_108
  rcases hr with ⟨hs, hr⟩ | ⟨hs, hr⟩ | ⟨hs, hr, hx⟩ | ⟨hs, hr⟩
  · have h1 : v6_98 < 128 := by simp only [Int32.lt_iff_toInt_lt, Int32.reduceToInt]; omega
    rcases hat with h | h | h | h | h
    · subst h
      rw [hb8] at ev10_167
      rw [ev10_167, own_e0_1 v6_98 v8_108 h1, hs]
      rfl
    · subst h
      rw [hb8] at ev10_167
      rw [ev10_167, own_e1_1 v6_98 v8_108 h1, hs]
      rfl
    · subst h
      rw [hb8] at ev10_167
      rw [ev10_167, own_e2_1 v6_98 v8_108 h1, hs]
      rfl
    · subst h
      rw [hb8] at ev10_167
      rw [ev10_167, own_e3_1 v6_98 v8_108 h1, hs]
      rfl
    · subst h
      rw [hb8] at ev10_167
      rw [ev10_167, own_e4_1 v6_98 v8_108 h1, hs]
      rfl
  · have h1 : ¬ v6_98 < 128 := by simp only [Int32.lt_iff_toInt_lt, Int32.reduceToInt]; omega
    have h2 : v6_98 < 2048 := by simp only [Int32.lt_iff_toInt_lt, Int32.reduceToInt]; omega
    rcases hat with h | h | h | h | h
    · subst h
      rw [hb8] at ev10_167
      rw [ev10_167, own_e0_2 v6_98 v8_108 h1 h2, hs]
      rfl
    · subst h
      rw [hb8] at ev10_167
      rw [ev10_167, own_e1_2 v6_98 v8_108 h1 h2, hs]
      rfl
    · subst h
      rw [hb8] at ev10_167
      rw [ev10_167, own_e2_2 v6_98 v8_108 h1 h2, hs]
      rfl
    · subst h
      rw [hb8] at ev10_167
      rw [ev10_167, own_e3_2 v6_98 v8_108 h1 h2, hs]
      rfl
    · subst h
      rw [hb8] at ev10_167
      rw [ev10_167, own_e4_2 v6_98 v8_108 h1 h2, hs]
      rfl
  · have h1 : ¬ v6_98 < 128 := by simp only [Int32.lt_iff_toInt_lt, Int32.reduceToInt]; omega
    have h2 : ¬ v6_98 < 2048 := by simp only [Int32.lt_iff_toInt_lt, Int32.reduceToInt]; omega
    have h3 : v6_98 < 65536 := by simp only [Int32.lt_iff_toInt_lt, Int32.reduceToInt]; omega
    rcases hat with h | h | h | h | h
    · subst h
      rw [hb8] at ev10_167
      rw [ev10_167, own_e0_3 v6_98 v8_108 h1 h2 h3, hs]
      rfl
    · subst h
      rw [hb8] at ev10_167
      rw [ev10_167, own_e1_3 v6_98 v8_108 h1 h2 h3, hs]
      rfl
    · subst h
      rw [hb8] at ev10_167
      rw [ev10_167, own_e2_3 v6_98 v8_108 h1 h2 h3, hs]
      rfl
    · subst h
      rw [hb8] at ev10_167
      rw [ev10_167, own_e3_3 v6_98 v8_108 h1 h2 h3, hs]
      rfl
    · subst h
      rw [hb8] at ev10_167
      rw [ev10_167, own_e4_3 v6_98 v8_108 h1 h2 h3, hs]
      rfl
  · have h1 : ¬ v6_98 < 128 := by simp only [Int32.lt_iff_toInt_lt, Int32.reduceToInt]; omega
    have h2 : ¬ v6_98 < 2048 := by simp only [Int32.lt_iff_toInt_lt, Int32.reduceToInt]; omega
    have h3 : ¬ v6_98 < 65536 := by simp only [Int32.lt_iff_toInt_lt, Int32.reduceToInt]; omega
    rcases hat with h | h | h | h | h
    · subst h
      rw [hb8] at ev10_167
      rw [ev10_167, own_e0_4 v6_98 v8_108 h1 h2 h3, hs]
      rfl
    · subst h
      rw [hb8] at ev10_167
      rw [ev10_167, own_e1_4 v6_98 v8_108 h1 h2 h3, hs]
      rfl
    · subst h
      rw [hb8] at ev10_167
      rw [ev10_167, own_e2_4 v6_98 v8_108 h1 h2 h3, hs]
      rfl
    · subst h
      rw [hb8] at ev10_167
      rw [ev10_167, own_e3_4 v6_98 v8_108 h1 h2 h3, hs]
      rfl
    · subst h
      rw [hb8] at ev10_167
      rw [ev10_167, own_e4_4 v6_98 v8_108 h1 h2 h3, hs]
      rfl
theorem own_pr0_189_hB (p0 : Int32) (p1 : Int32) (p2 : Int32) (p3 : Int32) (v4_3 : Int32) (ev4_3 : v4_3 = (p0 &&& (3 : Int32))) (v5_9 : Int32) (ev5_9 : v5_9 = (p1 &&& (2147483647 : Int32))) (v6_98 : Int32) (ev6_98 : v6_98 = (if v4_3 = (0 : Int32) then (p1 &&& (127 : Int32)) else (if v4_3 = (1 : Int32) then ((128 : Int32) + (v5_9 % (1920 : Int32))) else (if v4_3 = (2 : Int32) then (if ((2048 : Int32) + (v5_9 % (63488 : Int32))) < (55296 : Int32) then ((2048 : Int32) + (v5_9 % (63488 : Int32))) else (if (57343 : Int32) < ((2048 : Int32) + (v5_9 % (63488 : Int32))) then ((2048 : Int32) + (v5_9 % (63488 : Int32))) else (((2048 : Int32) + (v5_9 % (63488 : Int32))) ^^^ (2048 : Int32)))) else ((65536 : Int32) + (v5_9 % (1048576 : Int32))))))) (v7_104 : Int32) (ev7_104 : v7_104 = ((p2 &&& (2147483647 : Int32)) % (5 : Int32))) (v8_108 : Int32) (ev8_108 : v8_108 = (p3.toInt8.toInt32)) (v10_167 : Int32) (ev10_167 : v10_167 = (f1 v6_98 (8 : Int32) [(nar .byte v8_108), (nar .byte v8_108), (nar .byte v8_108), (nar .byte v8_108), (nar .byte v8_108), (nar .byte v8_108), (nar .byte v8_108), (nar .byte v8_108)] v7_104)) : ¬ v7_104 < 0 ∧ v7_104 < (8 : Int32) := by
  obtain ⟨hb8, hat, hr⟩ := own_rngs p0 p1 p2 p3 v4_3 ev4_3 v5_9 ev5_9 v6_98 ev6_98 v7_104 ev7_104 v8_108 ev8_108
  clear ev6_98 ev5_9 ev4_3 ev7_104 ev8_108
  rcases hat with h | h | h | h | h <;> subst h <;> exact ⟨by decide, by decide⟩
theorem own_pr0_189_hb2 (p0 : Int32) (p1 : Int32) (p2 : Int32) (p3 : Int32) (v4_3 : Int32) (ev4_3 : v4_3 = (p0 &&& (3 : Int32))) (v5_9 : Int32) (ev5_9 : v5_9 = (p1 &&& (2147483647 : Int32))) (v6_98 : Int32) (ev6_98 : v6_98 = (if v4_3 = (0 : Int32) then (p1 &&& (127 : Int32)) else (if v4_3 = (1 : Int32) then ((128 : Int32) + (v5_9 % (1920 : Int32))) else (if v4_3 = (2 : Int32) then (if ((2048 : Int32) + (v5_9 % (63488 : Int32))) < (55296 : Int32) then ((2048 : Int32) + (v5_9 % (63488 : Int32))) else (if (57343 : Int32) < ((2048 : Int32) + (v5_9 % (63488 : Int32))) then ((2048 : Int32) + (v5_9 % (63488 : Int32))) else (((2048 : Int32) + (v5_9 % (63488 : Int32))) ^^^ (2048 : Int32)))) else ((65536 : Int32) + (v5_9 % (1048576 : Int32))))))) (v7_104 : Int32) (ev7_104 : v7_104 = ((p2 &&& (2147483647 : Int32)) % (5 : Int32))) (v8_108 : Int32) (ev8_108 : v8_108 = (p3.toInt8.toInt32)) (v10_167 : Int32) (ev10_167 : v10_167 = (f1 v6_98 (8 : Int32) [(nar .byte v8_108), (nar .byte v8_108), (nar .byte v8_108), (nar .byte v8_108), (nar .byte v8_108), (nar .byte v8_108), (nar .byte v8_108), (nar .byte v8_108)] v7_104)) : ¬ (8 : Int32) < v10_167 := by
  obtain ⟨hb8, hat, hr⟩ := own_rngs p0 p1 p2 p3 v4_3 ev4_3 v5_9 ev5_9 v6_98 ev6_98 v7_104 ev7_104 v8_108 ev8_108
  clear ev6_98 ev5_9 ev4_3 ev7_104 ev8_108
  rcases hr with ⟨hs, hr⟩ | ⟨hs, hr⟩ | ⟨hs, hr, hx⟩ | ⟨hs, hr⟩
  · have h1 : v6_98 < 128 := by simp only [Int32.lt_iff_toInt_lt, Int32.reduceToInt]; omega
    rcases hat with h | h | h | h | h
    · subst h
      rw [hb8] at ev10_167
      rw [ev10_167, own_e0_1 v6_98 v8_108 h1]
      decide
    · subst h
      rw [hb8] at ev10_167
      rw [ev10_167, own_e1_1 v6_98 v8_108 h1]
      decide
    · subst h
      rw [hb8] at ev10_167
      rw [ev10_167, own_e2_1 v6_98 v8_108 h1]
      decide
    · subst h
      rw [hb8] at ev10_167
      rw [ev10_167, own_e3_1 v6_98 v8_108 h1]
      decide
    · subst h
      rw [hb8] at ev10_167
      rw [ev10_167, own_e4_1 v6_98 v8_108 h1]
      decide
  · have h1 : ¬ v6_98 < 128 := by simp only [Int32.lt_iff_toInt_lt, Int32.reduceToInt]; omega
    have h2 : v6_98 < 2048 := by simp only [Int32.lt_iff_toInt_lt, Int32.reduceToInt]; omega
    rcases hat with h | h | h | h | h
    · subst h
      rw [hb8] at ev10_167
      rw [ev10_167, own_e0_2 v6_98 v8_108 h1 h2]
      decide
    · subst h
      rw [hb8] at ev10_167
      rw [ev10_167, own_e1_2 v6_98 v8_108 h1 h2]
      decide
    · subst h
      rw [hb8] at ev10_167
      rw [ev10_167, own_e2_2 v6_98 v8_108 h1 h2]
      decide
    · subst h
      rw [hb8] at ev10_167
      rw [ev10_167, own_e3_2 v6_98 v8_108 h1 h2]
      decide
    · subst h
      rw [hb8] at ev10_167
      rw [ev10_167, own_e4_2 v6_98 v8_108 h1 h2]
      decide
  · have h1 : ¬ v6_98 < 128 := by simp only [Int32.lt_iff_toInt_lt, Int32.reduceToInt]; omega
    have h2 : ¬ v6_98 < 2048 := by simp only [Int32.lt_iff_toInt_lt, Int32.reduceToInt]; omega
    have h3 : v6_98 < 65536 := by simp only [Int32.lt_iff_toInt_lt, Int32.reduceToInt]; omega
    rcases hat with h | h | h | h | h
    · subst h
      rw [hb8] at ev10_167
      rw [ev10_167, own_e0_3 v6_98 v8_108 h1 h2 h3]
      decide
    · subst h
      rw [hb8] at ev10_167
      rw [ev10_167, own_e1_3 v6_98 v8_108 h1 h2 h3]
      decide
    · subst h
      rw [hb8] at ev10_167
      rw [ev10_167, own_e2_3 v6_98 v8_108 h1 h2 h3]
      decide
    · subst h
      rw [hb8] at ev10_167
      rw [ev10_167, own_e3_3 v6_98 v8_108 h1 h2 h3]
      decide
    · subst h
      rw [hb8] at ev10_167
      rw [ev10_167, own_e4_3 v6_98 v8_108 h1 h2 h3]
      decide
  · have h1 : ¬ v6_98 < 128 := by simp only [Int32.lt_iff_toInt_lt, Int32.reduceToInt]; omega
    have h2 : ¬ v6_98 < 2048 := by simp only [Int32.lt_iff_toInt_lt, Int32.reduceToInt]; omega
    have h3 : ¬ v6_98 < 65536 := by simp only [Int32.lt_iff_toInt_lt, Int32.reduceToInt]; omega
    rcases hat with h | h | h | h | h
    · subst h
      rw [hb8] at ev10_167
      rw [ev10_167, own_e0_4 v6_98 v8_108 h1 h2 h3]
      decide
    · subst h
      rw [hb8] at ev10_167
      rw [ev10_167, own_e1_4 v6_98 v8_108 h1 h2 h3]
      decide
    · subst h
      rw [hb8] at ev10_167
      rw [ev10_167, own_e2_4 v6_98 v8_108 h1 h2 h3]
      decide
    · subst h
      rw [hb8] at ev10_167
      rw [ev10_167, own_e3_4 v6_98 v8_108 h1 h2 h3]
      decide
    · subst h
      rw [hb8] at ev10_167
      rw [ev10_167, own_e4_4 v6_98 v8_108 h1 h2 h3]
      decide
theorem own_pr0_189_hb3 (p0 : Int32) (p1 : Int32) (p2 : Int32) (p3 : Int32) (v4_3 : Int32) (ev4_3 : v4_3 = (p0 &&& (3 : Int32))) (v5_9 : Int32) (ev5_9 : v5_9 = (p1 &&& (2147483647 : Int32))) (v6_98 : Int32) (ev6_98 : v6_98 = (if v4_3 = (0 : Int32) then (p1 &&& (127 : Int32)) else (if v4_3 = (1 : Int32) then ((128 : Int32) + (v5_9 % (1920 : Int32))) else (if v4_3 = (2 : Int32) then (if ((2048 : Int32) + (v5_9 % (63488 : Int32))) < (55296 : Int32) then ((2048 : Int32) + (v5_9 % (63488 : Int32))) else (if (57343 : Int32) < ((2048 : Int32) + (v5_9 % (63488 : Int32))) then ((2048 : Int32) + (v5_9 % (63488 : Int32))) else (((2048 : Int32) + (v5_9 % (63488 : Int32))) ^^^ (2048 : Int32)))) else ((65536 : Int32) + (v5_9 % (1048576 : Int32))))))) (v7_104 : Int32) (ev7_104 : v7_104 = ((p2 &&& (2147483647 : Int32)) % (5 : Int32))) (v8_108 : Int32) (ev8_108 : v8_108 = (p3.toInt8.toInt32)) (v10_167 : Int32) (ev10_167 : v10_167 = (f1 v6_98 (8 : Int32) [(nar .byte v8_108), (nar .byte v8_108), (nar .byte v8_108), (nar .byte v8_108), (nar .byte v8_108), (nar .byte v8_108), (nar .byte v8_108), (nar .byte v8_108)] v7_104)) : ¬ v10_167 < 0 := by
  obtain ⟨hb8, hat, hr⟩ := own_rngs p0 p1 p2 p3 v4_3 ev4_3 v5_9 ev5_9 v6_98 ev6_98 v7_104 ev7_104 v8_108 ev8_108
  clear ev6_98 ev5_9 ev4_3 ev7_104 ev8_108
  rcases hr with ⟨hs, hr⟩ | ⟨hs, hr⟩ | ⟨hs, hr, hx⟩ | ⟨hs, hr⟩
  · have h1 : v6_98 < 128 := by simp only [Int32.lt_iff_toInt_lt, Int32.reduceToInt]; omega
    rcases hat with h | h | h | h | h
    · subst h
      rw [hb8] at ev10_167
      rw [ev10_167, own_e0_1 v6_98 v8_108 h1]
      decide
    · subst h
      rw [hb8] at ev10_167
      rw [ev10_167, own_e1_1 v6_98 v8_108 h1]
      decide
    · subst h
      rw [hb8] at ev10_167
      rw [ev10_167, own_e2_1 v6_98 v8_108 h1]
      decide
    · subst h
      rw [hb8] at ev10_167
      rw [ev10_167, own_e3_1 v6_98 v8_108 h1]
      decide
    · subst h
      rw [hb8] at ev10_167
      rw [ev10_167, own_e4_1 v6_98 v8_108 h1]
      decide
  · have h1 : ¬ v6_98 < 128 := by simp only [Int32.lt_iff_toInt_lt, Int32.reduceToInt]; omega
    have h2 : v6_98 < 2048 := by simp only [Int32.lt_iff_toInt_lt, Int32.reduceToInt]; omega
    rcases hat with h | h | h | h | h
    · subst h
      rw [hb8] at ev10_167
      rw [ev10_167, own_e0_2 v6_98 v8_108 h1 h2]
      decide
    · subst h
      rw [hb8] at ev10_167
      rw [ev10_167, own_e1_2 v6_98 v8_108 h1 h2]
      decide
    · subst h
      rw [hb8] at ev10_167
      rw [ev10_167, own_e2_2 v6_98 v8_108 h1 h2]
      decide
    · subst h
      rw [hb8] at ev10_167
      rw [ev10_167, own_e3_2 v6_98 v8_108 h1 h2]
      decide
    · subst h
      rw [hb8] at ev10_167
      rw [ev10_167, own_e4_2 v6_98 v8_108 h1 h2]
      decide
  · have h1 : ¬ v6_98 < 128 := by simp only [Int32.lt_iff_toInt_lt, Int32.reduceToInt]; omega
    have h2 : ¬ v6_98 < 2048 := by simp only [Int32.lt_iff_toInt_lt, Int32.reduceToInt]; omega
    have h3 : v6_98 < 65536 := by simp only [Int32.lt_iff_toInt_lt, Int32.reduceToInt]; omega
    rcases hat with h | h | h | h | h
    · subst h
      rw [hb8] at ev10_167
      rw [ev10_167, own_e0_3 v6_98 v8_108 h1 h2 h3]
      decide
    · subst h
      rw [hb8] at ev10_167
      rw [ev10_167, own_e1_3 v6_98 v8_108 h1 h2 h3]
      decide
    · subst h
      rw [hb8] at ev10_167
      rw [ev10_167, own_e2_3 v6_98 v8_108 h1 h2 h3]
      decide
    · subst h
      rw [hb8] at ev10_167
      rw [ev10_167, own_e3_3 v6_98 v8_108 h1 h2 h3]
      decide
    · subst h
      rw [hb8] at ev10_167
      rw [ev10_167, own_e4_3 v6_98 v8_108 h1 h2 h3]
      decide
  · have h1 : ¬ v6_98 < 128 := by simp only [Int32.lt_iff_toInt_lt, Int32.reduceToInt]; omega
    have h2 : ¬ v6_98 < 2048 := by simp only [Int32.lt_iff_toInt_lt, Int32.reduceToInt]; omega
    have h3 : ¬ v6_98 < 65536 := by simp only [Int32.lt_iff_toInt_lt, Int32.reduceToInt]; omega
    rcases hat with h | h | h | h | h
    · subst h
      rw [hb8] at ev10_167
      rw [ev10_167, own_e0_4 v6_98 v8_108 h1 h2 h3]
      decide
    · subst h
      rw [hb8] at ev10_167
      rw [ev10_167, own_e1_4 v6_98 v8_108 h1 h2 h3]
      decide
    · subst h
      rw [hb8] at ev10_167
      rw [ev10_167, own_e2_4 v6_98 v8_108 h1 h2 h3]
      decide
    · subst h
      rw [hb8] at ev10_167
      rw [ev10_167, own_e3_4 v6_98 v8_108 h1 h2 h3]
      decide
    · subst h
      rw [hb8] at ev10_167
      rw [ev10_167, own_e4_4 v6_98 v8_108 h1 h2 h3]
      decide
theorem own_pr0_189_hb4 (p0 : Int32) (p1 : Int32) (p2 : Int32) (p3 : Int32) (v4_3 : Int32) (ev4_3 : v4_3 = (p0 &&& (3 : Int32))) (v5_9 : Int32) (ev5_9 : v5_9 = (p1 &&& (2147483647 : Int32))) (v6_98 : Int32) (ev6_98 : v6_98 = (if v4_3 = (0 : Int32) then (p1 &&& (127 : Int32)) else (if v4_3 = (1 : Int32) then ((128 : Int32) + (v5_9 % (1920 : Int32))) else (if v4_3 = (2 : Int32) then (if ((2048 : Int32) + (v5_9 % (63488 : Int32))) < (55296 : Int32) then ((2048 : Int32) + (v5_9 % (63488 : Int32))) else (if (57343 : Int32) < ((2048 : Int32) + (v5_9 % (63488 : Int32))) then ((2048 : Int32) + (v5_9 % (63488 : Int32))) else (((2048 : Int32) + (v5_9 % (63488 : Int32))) ^^^ (2048 : Int32)))) else ((65536 : Int32) + (v5_9 % (1048576 : Int32))))))) (v7_104 : Int32) (ev7_104 : v7_104 = ((p2 &&& (2147483647 : Int32)) % (5 : Int32))) (v8_108 : Int32) (ev8_108 : v8_108 = (p3.toInt8.toInt32)) (v10_167 : Int32) (ev10_167 : v10_167 = (f1 v6_98 (8 : Int32) [(nar .byte v8_108), (nar .byte v8_108), (nar .byte v8_108), (nar .byte v8_108), (nar .byte v8_108), (nar .byte v8_108), (nar .byte v8_108), (nar .byte v8_108)] v7_104)) : (8 : Int32) < (100 : Int32) := by
  first | decide | exact ⟨by decide, by decide⟩
theorem own_hc0_194 (p0 : Int32) (p1 : Int32) (p2 : Int32) (p3 : Int32) (v4_3 : Int32) (ev4_3 : v4_3 = (p0 &&& (3 : Int32))) (v5_9 : Int32) (ev5_9 : v5_9 = (p1 &&& (2147483647 : Int32))) (v6_98 : Int32) (ev6_98 : v6_98 = (if v4_3 = (0 : Int32) then (p1 &&& (127 : Int32)) else (if v4_3 = (1 : Int32) then ((128 : Int32) + (v5_9 % (1920 : Int32))) else (if v4_3 = (2 : Int32) then (if ((2048 : Int32) + (v5_9 % (63488 : Int32))) < (55296 : Int32) then ((2048 : Int32) + (v5_9 % (63488 : Int32))) else (if (57343 : Int32) < ((2048 : Int32) + (v5_9 % (63488 : Int32))) then ((2048 : Int32) + (v5_9 % (63488 : Int32))) else (((2048 : Int32) + (v5_9 % (63488 : Int32))) ^^^ (2048 : Int32)))) else ((65536 : Int32) + (v5_9 % (1048576 : Int32))))))) (v7_104 : Int32) (ev7_104 : v7_104 = ((p2 &&& (2147483647 : Int32)) % (5 : Int32))) (v8_108 : Int32) (ev8_108 : v8_108 = (p3.toInt8.toInt32)) (v10_167 : Int32) (ev10_167 : v10_167 = (f1 v6_98 (8 : Int32) [(nar .byte v8_108), (nar .byte v8_108), (nar .byte v8_108), (nar .byte v8_108), (nar .byte v8_108), (nar .byte v8_108), (nar .byte v8_108), (nar .byte v8_108)] v7_104)) : (f2 (8 : Int32) (g1_u1 v6_98 (8 : Int32) [(nar .byte v8_108), (nar .byte v8_108), (nar .byte v8_108), (nar .byte v8_108), (nar .byte v8_108), (nar .byte v8_108), (nar .byte v8_108), (nar .byte v8_108)] v7_104) v7_104 v10_167) = v6_98 := by
  obtain ⟨hb8, hat, hr⟩ := own_rngs p0 p1 p2 p3 v4_3 ev4_3 v5_9 ev5_9 v6_98 ev6_98 v7_104 ev7_104 v8_108 ev8_108
  clear ev6_98 ev5_9 ev4_3 ev7_104 ev8_108
  rcases hr with ⟨hs, hr⟩ | ⟨hs, hr⟩ | ⟨hs, hr, hx⟩ | ⟨hs, hr⟩
  · have h1 : v6_98 < 128 := by simp only [Int32.lt_iff_toInt_lt, Int32.reduceToInt]; omega
    rcases hat with h | h | h | h | h
    · subst h
      rw [hb8] at ev10_167 ⊢
      rw [ev10_167, own_e0_1 v6_98 v8_108 h1, own_g0_1 v6_98 v8_108 h1]
      show own_dF ((nar .byte (v6_98.toInt8.toInt32)) &&& 255) (v8_108 &&& 255) (v8_108 &&& 255) (v8_108 &&& 255) (1 : Int32) = v6_98
      rw [own_b255]
      exact own_rt1 _ _ _ _ hr
    · subst h
      rw [hb8] at ev10_167 ⊢
      rw [ev10_167, own_e1_1 v6_98 v8_108 h1, own_g1_1 v6_98 v8_108 h1]
      show own_dF ((nar .byte (v6_98.toInt8.toInt32)) &&& 255) (v8_108 &&& 255) (v8_108 &&& 255) (v8_108 &&& 255) (1 : Int32) = v6_98
      rw [own_b255]
      exact own_rt1 _ _ _ _ hr
    · subst h
      rw [hb8] at ev10_167 ⊢
      rw [ev10_167, own_e2_1 v6_98 v8_108 h1, own_g2_1 v6_98 v8_108 h1]
      show own_dF ((nar .byte (v6_98.toInt8.toInt32)) &&& 255) (v8_108 &&& 255) (v8_108 &&& 255) (v8_108 &&& 255) (1 : Int32) = v6_98
      rw [own_b255]
      exact own_rt1 _ _ _ _ hr
    · subst h
      rw [hb8] at ev10_167 ⊢
      rw [ev10_167, own_e3_1 v6_98 v8_108 h1, own_g3_1 v6_98 v8_108 h1]
      show own_dF ((nar .byte (v6_98.toInt8.toInt32)) &&& 255) (v8_108 &&& 255) (v8_108 &&& 255) (v8_108 &&& 255) (1 : Int32) = v6_98
      rw [own_b255]
      exact own_rt1 _ _ _ _ hr
    · subst h
      rw [hb8] at ev10_167 ⊢
      rw [ev10_167, own_e4_1 v6_98 v8_108 h1, own_g4_1 v6_98 v8_108 h1]
      show own_dF ((nar .byte (v6_98.toInt8.toInt32)) &&& 255) (v8_108 &&& 255) (v8_108 &&& 255) (v8_108 &&& 255) (1 : Int32) = v6_98
      rw [own_b255]
      exact own_rt1 _ _ _ _ hr
  · have h1 : ¬ v6_98 < 128 := by simp only [Int32.lt_iff_toInt_lt, Int32.reduceToInt]; omega
    have h2 : v6_98 < 2048 := by simp only [Int32.lt_iff_toInt_lt, Int32.reduceToInt]; omega
    rcases hat with h | h | h | h | h
    · subst h
      rw [hb8] at ev10_167 ⊢
      rw [ev10_167, own_e0_2 v6_98 v8_108 h1 h2, own_g0_2 v6_98 v8_108 h1 h2]
      show own_dF ((nar .byte (((192 : Int32) ||| (v6_98 >>> ((6 : Int32) &&& 31))).toInt8.toInt32)) &&& 255) ((nar .byte (((128 : Int32) ||| (v6_98 &&& (63 : Int32))).toInt8.toInt32)) &&& 255) (v8_108 &&& 255) (v8_108 &&& 255) (2 : Int32) = v6_98
      rw [own_b255, own_b255]
      exact own_rt2 _ _ _ hr
    · subst h
      rw [hb8] at ev10_167 ⊢
      rw [ev10_167, own_e1_2 v6_98 v8_108 h1 h2, own_g1_2 v6_98 v8_108 h1 h2]
      show own_dF ((nar .byte (((192 : Int32) ||| (v6_98 >>> ((6 : Int32) &&& 31))).toInt8.toInt32)) &&& 255) ((nar .byte (((128 : Int32) ||| (v6_98 &&& (63 : Int32))).toInt8.toInt32)) &&& 255) (v8_108 &&& 255) (v8_108 &&& 255) (2 : Int32) = v6_98
      rw [own_b255, own_b255]
      exact own_rt2 _ _ _ hr
    · subst h
      rw [hb8] at ev10_167 ⊢
      rw [ev10_167, own_e2_2 v6_98 v8_108 h1 h2, own_g2_2 v6_98 v8_108 h1 h2]
      show own_dF ((nar .byte (((192 : Int32) ||| (v6_98 >>> ((6 : Int32) &&& 31))).toInt8.toInt32)) &&& 255) ((nar .byte (((128 : Int32) ||| (v6_98 &&& (63 : Int32))).toInt8.toInt32)) &&& 255) (v8_108 &&& 255) (v8_108 &&& 255) (2 : Int32) = v6_98
      rw [own_b255, own_b255]
      exact own_rt2 _ _ _ hr
    · subst h
      rw [hb8] at ev10_167 ⊢
      rw [ev10_167, own_e3_2 v6_98 v8_108 h1 h2, own_g3_2 v6_98 v8_108 h1 h2]
      show own_dF ((nar .byte (((192 : Int32) ||| (v6_98 >>> ((6 : Int32) &&& 31))).toInt8.toInt32)) &&& 255) ((nar .byte (((128 : Int32) ||| (v6_98 &&& (63 : Int32))).toInt8.toInt32)) &&& 255) (v8_108 &&& 255) (v8_108 &&& 255) (2 : Int32) = v6_98
      rw [own_b255, own_b255]
      exact own_rt2 _ _ _ hr
    · subst h
      rw [hb8] at ev10_167 ⊢
      rw [ev10_167, own_e4_2 v6_98 v8_108 h1 h2, own_g4_2 v6_98 v8_108 h1 h2]
      show own_dF ((nar .byte (((192 : Int32) ||| (v6_98 >>> ((6 : Int32) &&& 31))).toInt8.toInt32)) &&& 255) ((nar .byte (((128 : Int32) ||| (v6_98 &&& (63 : Int32))).toInt8.toInt32)) &&& 255) (v8_108 &&& 255) (v8_108 &&& 255) (2 : Int32) = v6_98
      rw [own_b255, own_b255]
      exact own_rt2 _ _ _ hr
  · have h1 : ¬ v6_98 < 128 := by simp only [Int32.lt_iff_toInt_lt, Int32.reduceToInt]; omega
    have h2 : ¬ v6_98 < 2048 := by simp only [Int32.lt_iff_toInt_lt, Int32.reduceToInt]; omega
    have h3 : v6_98 < 65536 := by simp only [Int32.lt_iff_toInt_lt, Int32.reduceToInt]; omega
    rcases hat with h | h | h | h | h
    · subst h
      rw [hb8] at ev10_167 ⊢
      rw [ev10_167, own_e0_3 v6_98 v8_108 h1 h2 h3, own_g0_3 v6_98 v8_108 h1 h2 h3]
      show own_dF ((nar .byte (((224 : Int32) ||| (v6_98 >>> ((12 : Int32) &&& 31))).toInt8.toInt32)) &&& 255) ((nar .byte (((128 : Int32) ||| ((v6_98 >>> ((6 : Int32) &&& 31)) &&& (63 : Int32))).toInt8.toInt32)) &&& 255) ((nar .byte (((128 : Int32) ||| (v6_98 &&& (63 : Int32))).toInt8.toInt32)) &&& 255) (v8_108 &&& 255) (3 : Int32) = v6_98
      rw [own_b255, own_b255, own_b255]
      exact own_rt3 _ _ hr hx
    · subst h
      rw [hb8] at ev10_167 ⊢
      rw [ev10_167, own_e1_3 v6_98 v8_108 h1 h2 h3, own_g1_3 v6_98 v8_108 h1 h2 h3]
      show own_dF ((nar .byte (((224 : Int32) ||| (v6_98 >>> ((12 : Int32) &&& 31))).toInt8.toInt32)) &&& 255) ((nar .byte (((128 : Int32) ||| ((v6_98 >>> ((6 : Int32) &&& 31)) &&& (63 : Int32))).toInt8.toInt32)) &&& 255) ((nar .byte (((128 : Int32) ||| (v6_98 &&& (63 : Int32))).toInt8.toInt32)) &&& 255) (v8_108 &&& 255) (3 : Int32) = v6_98
      rw [own_b255, own_b255, own_b255]
      exact own_rt3 _ _ hr hx
    · subst h
      rw [hb8] at ev10_167 ⊢
      rw [ev10_167, own_e2_3 v6_98 v8_108 h1 h2 h3, own_g2_3 v6_98 v8_108 h1 h2 h3]
      show own_dF ((nar .byte (((224 : Int32) ||| (v6_98 >>> ((12 : Int32) &&& 31))).toInt8.toInt32)) &&& 255) ((nar .byte (((128 : Int32) ||| ((v6_98 >>> ((6 : Int32) &&& 31)) &&& (63 : Int32))).toInt8.toInt32)) &&& 255) ((nar .byte (((128 : Int32) ||| (v6_98 &&& (63 : Int32))).toInt8.toInt32)) &&& 255) (v8_108 &&& 255) (3 : Int32) = v6_98
      rw [own_b255, own_b255, own_b255]
      exact own_rt3 _ _ hr hx
    · subst h
      rw [hb8] at ev10_167 ⊢
      rw [ev10_167, own_e3_3 v6_98 v8_108 h1 h2 h3, own_g3_3 v6_98 v8_108 h1 h2 h3]
      show own_dF ((nar .byte (((224 : Int32) ||| (v6_98 >>> ((12 : Int32) &&& 31))).toInt8.toInt32)) &&& 255) ((nar .byte (((128 : Int32) ||| ((v6_98 >>> ((6 : Int32) &&& 31)) &&& (63 : Int32))).toInt8.toInt32)) &&& 255) ((nar .byte (((128 : Int32) ||| (v6_98 &&& (63 : Int32))).toInt8.toInt32)) &&& 255) (v8_108 &&& 255) (3 : Int32) = v6_98
      rw [own_b255, own_b255, own_b255]
      exact own_rt3 _ _ hr hx
    · subst h
      rw [hb8] at ev10_167 ⊢
      rw [ev10_167, own_e4_3 v6_98 v8_108 h1 h2 h3, own_g4_3 v6_98 v8_108 h1 h2 h3]
      show own_dF ((nar .byte (((224 : Int32) ||| (v6_98 >>> ((12 : Int32) &&& 31))).toInt8.toInt32)) &&& 255) ((nar .byte (((128 : Int32) ||| ((v6_98 >>> ((6 : Int32) &&& 31)) &&& (63 : Int32))).toInt8.toInt32)) &&& 255) ((nar .byte (((128 : Int32) ||| (v6_98 &&& (63 : Int32))).toInt8.toInt32)) &&& 255) (v8_108 &&& 255) (3 : Int32) = v6_98
      rw [own_b255, own_b255, own_b255]
      exact own_rt3 _ _ hr hx
  · have h1 : ¬ v6_98 < 128 := by simp only [Int32.lt_iff_toInt_lt, Int32.reduceToInt]; omega
    have h2 : ¬ v6_98 < 2048 := by simp only [Int32.lt_iff_toInt_lt, Int32.reduceToInt]; omega
    have h3 : ¬ v6_98 < 65536 := by simp only [Int32.lt_iff_toInt_lt, Int32.reduceToInt]; omega
    rcases hat with h | h | h | h | h
    · subst h
      rw [hb8] at ev10_167 ⊢
      rw [ev10_167, own_e0_4 v6_98 v8_108 h1 h2 h3, own_g0_4 v6_98 v8_108 h1 h2 h3]
      show own_dF ((nar .byte (((240 : Int32) ||| (v6_98 >>> ((18 : Int32) &&& 31))).toInt8.toInt32)) &&& 255) ((nar .byte (((128 : Int32) ||| ((v6_98 >>> ((12 : Int32) &&& 31)) &&& (63 : Int32))).toInt8.toInt32)) &&& 255) ((nar .byte (((128 : Int32) ||| ((v6_98 >>> ((6 : Int32) &&& 31)) &&& (63 : Int32))).toInt8.toInt32)) &&& 255) ((nar .byte (((128 : Int32) ||| (v6_98 &&& (63 : Int32))).toInt8.toInt32)) &&& 255) (4 : Int32) = v6_98
      rw [own_b255, own_b255, own_b255, own_b255]
      exact own_rt4 _ hr
    · subst h
      rw [hb8] at ev10_167 ⊢
      rw [ev10_167, own_e1_4 v6_98 v8_108 h1 h2 h3, own_g1_4 v6_98 v8_108 h1 h2 h3]
      show own_dF ((nar .byte (((240 : Int32) ||| (v6_98 >>> ((18 : Int32) &&& 31))).toInt8.toInt32)) &&& 255) ((nar .byte (((128 : Int32) ||| ((v6_98 >>> ((12 : Int32) &&& 31)) &&& (63 : Int32))).toInt8.toInt32)) &&& 255) ((nar .byte (((128 : Int32) ||| ((v6_98 >>> ((6 : Int32) &&& 31)) &&& (63 : Int32))).toInt8.toInt32)) &&& 255) ((nar .byte (((128 : Int32) ||| (v6_98 &&& (63 : Int32))).toInt8.toInt32)) &&& 255) (4 : Int32) = v6_98
      rw [own_b255, own_b255, own_b255, own_b255]
      exact own_rt4 _ hr
    · subst h
      rw [hb8] at ev10_167 ⊢
      rw [ev10_167, own_e2_4 v6_98 v8_108 h1 h2 h3, own_g2_4 v6_98 v8_108 h1 h2 h3]
      show own_dF ((nar .byte (((240 : Int32) ||| (v6_98 >>> ((18 : Int32) &&& 31))).toInt8.toInt32)) &&& 255) ((nar .byte (((128 : Int32) ||| ((v6_98 >>> ((12 : Int32) &&& 31)) &&& (63 : Int32))).toInt8.toInt32)) &&& 255) ((nar .byte (((128 : Int32) ||| ((v6_98 >>> ((6 : Int32) &&& 31)) &&& (63 : Int32))).toInt8.toInt32)) &&& 255) ((nar .byte (((128 : Int32) ||| (v6_98 &&& (63 : Int32))).toInt8.toInt32)) &&& 255) (4 : Int32) = v6_98
      rw [own_b255, own_b255, own_b255, own_b255]
      exact own_rt4 _ hr
    · subst h
      rw [hb8] at ev10_167 ⊢
      rw [ev10_167, own_e3_4 v6_98 v8_108 h1 h2 h3, own_g3_4 v6_98 v8_108 h1 h2 h3]
      show own_dF ((nar .byte (((240 : Int32) ||| (v6_98 >>> ((18 : Int32) &&& 31))).toInt8.toInt32)) &&& 255) ((nar .byte (((128 : Int32) ||| ((v6_98 >>> ((12 : Int32) &&& 31)) &&& (63 : Int32))).toInt8.toInt32)) &&& 255) ((nar .byte (((128 : Int32) ||| ((v6_98 >>> ((6 : Int32) &&& 31)) &&& (63 : Int32))).toInt8.toInt32)) &&& 255) ((nar .byte (((128 : Int32) ||| (v6_98 &&& (63 : Int32))).toInt8.toInt32)) &&& 255) (4 : Int32) = v6_98
      rw [own_b255, own_b255, own_b255, own_b255]
      exact own_rt4 _ hr
    · subst h
      rw [hb8] at ev10_167 ⊢
      rw [ev10_167, own_e4_4 v6_98 v8_108 h1 h2 h3, own_g4_4 v6_98 v8_108 h1 h2 h3]
      show own_dF ((nar .byte (((240 : Int32) ||| (v6_98 >>> ((18 : Int32) &&& 31))).toInt8.toInt32)) &&& 255) ((nar .byte (((128 : Int32) ||| ((v6_98 >>> ((12 : Int32) &&& 31)) &&& (63 : Int32))).toInt8.toInt32)) &&& 255) ((nar .byte (((128 : Int32) ||| ((v6_98 >>> ((6 : Int32) &&& 31)) &&& (63 : Int32))).toInt8.toInt32)) &&& 255) ((nar .byte (((128 : Int32) ||| (v6_98 &&& (63 : Int32))).toInt8.toInt32)) &&& 255) (4 : Int32) = v6_98
      rw [own_b255, own_b255, own_b255, own_b255]
      exact own_rt4 _ hr
theorem own_pr0_208_hB (p0 : Int32) (p1 : Int32) (p2 : Int32) (p3 : Int32) (v4_3 : Int32) (ev4_3 : v4_3 = (p0 &&& (3 : Int32))) (v5_9 : Int32) (ev5_9 : v5_9 = (p1 &&& (2147483647 : Int32))) (v6_98 : Int32) (ev6_98 : v6_98 = (if v4_3 = (0 : Int32) then (p1 &&& (127 : Int32)) else (if v4_3 = (1 : Int32) then ((128 : Int32) + (v5_9 % (1920 : Int32))) else (if v4_3 = (2 : Int32) then (if ((2048 : Int32) + (v5_9 % (63488 : Int32))) < (55296 : Int32) then ((2048 : Int32) + (v5_9 % (63488 : Int32))) else (if (57343 : Int32) < ((2048 : Int32) + (v5_9 % (63488 : Int32))) then ((2048 : Int32) + (v5_9 % (63488 : Int32))) else (((2048 : Int32) + (v5_9 % (63488 : Int32))) ^^^ (2048 : Int32)))) else ((65536 : Int32) + (v5_9 % (1048576 : Int32))))))) (v7_104 : Int32) (ev7_104 : v7_104 = ((p2 &&& (2147483647 : Int32)) % (5 : Int32))) (v8_108 : Int32) (ev8_108 : v8_108 = (p3.toInt8.toInt32)) (v10_167 : Int32) (ev10_167 : v10_167 = (f1 v6_98 (8 : Int32) [(nar .byte v8_108), (nar .byte v8_108), (nar .byte v8_108), (nar .byte v8_108), (nar .byte v8_108), (nar .byte v8_108), (nar .byte v8_108), (nar .byte v8_108)] v7_104)) : ¬ (0 : Int32) < 0 ∧ (0 : Int32) < (8 : Int32) := by
  first | decide | exact ⟨by decide, by decide⟩
theorem own_hc0_211 (p0 : Int32) (p1 : Int32) (p2 : Int32) (p3 : Int32) (v4_3 : Int32) (ev4_3 : v4_3 = (p0 &&& (3 : Int32))) (v5_9 : Int32) (ev5_9 : v5_9 = (p1 &&& (2147483647 : Int32))) (v6_98 : Int32) (ev6_98 : v6_98 = (if v4_3 = (0 : Int32) then (p1 &&& (127 : Int32)) else (if v4_3 = (1 : Int32) then ((128 : Int32) + (v5_9 % (1920 : Int32))) else (if v4_3 = (2 : Int32) then (if ((2048 : Int32) + (v5_9 % (63488 : Int32))) < (55296 : Int32) then ((2048 : Int32) + (v5_9 % (63488 : Int32))) else (if (57343 : Int32) < ((2048 : Int32) + (v5_9 % (63488 : Int32))) then ((2048 : Int32) + (v5_9 % (63488 : Int32))) else (((2048 : Int32) + (v5_9 % (63488 : Int32))) ^^^ (2048 : Int32)))) else ((65536 : Int32) + (v5_9 % (1048576 : Int32))))))) (v7_104 : Int32) (ev7_104 : v7_104 = ((p2 &&& (2147483647 : Int32)) % (5 : Int32))) (v8_108 : Int32) (ev8_108 : v8_108 = (p3.toInt8.toInt32)) (v10_167 : Int32) (ev10_167 : v10_167 = (f1 v6_98 (8 : Int32) [(nar .byte v8_108), (nar .byte v8_108), (nar .byte v8_108), (nar .byte v8_108), (nar .byte v8_108), (nar .byte v8_108), (nar .byte v8_108), (nar .byte v8_108)] v7_104)) : ¬ ((f3 (8 : Int32) (g1_u1 v6_98 (8 : Int32) [(nar .byte v8_108), (nar .byte v8_108), (nar .byte v8_108), (nar .byte v8_108), (nar .byte v8_108), (nar .byte v8_108), (nar .byte v8_108), (nar .byte v8_108)] v7_104) (0 : Int32) v7_104 v10_167 v8_108) = (0 : Int32)) := by
  obtain ⟨hb8, hat, hr⟩ := own_rngs p0 p1 p2 p3 v4_3 ev4_3 v5_9 ev5_9 v6_98 ev6_98 v7_104 ev7_104 v8_108 ev8_108
  clear ev6_98 ev5_9 ev4_3 ev7_104 ev8_108
  rcases hr with ⟨hs, hr⟩ | ⟨hs, hr⟩ | ⟨hs, hr, hx⟩ | ⟨hs, hr⟩
  · have h1 : v6_98 < 128 := by simp only [Int32.lt_iff_toInt_lt, Int32.reduceToInt]; omega
    rcases hat with h | h | h | h | h
    · subst h
      rw [hb8] at ev10_167 ⊢
      rw [ev10_167, own_e0_1 v6_98 v8_108 h1, own_g0_1 v6_98 v8_108 h1]
      exact own_k2 _ _ _ _ _ (by decide) (by decide)
    · subst h
      rw [hb8] at ev10_167 ⊢
      rw [ev10_167, own_e1_1 v6_98 v8_108 h1, own_g1_1 v6_98 v8_108 h1]
      exact own_k1 _ _ _ _ _ (by decide) rfl
    · subst h
      rw [hb8] at ev10_167 ⊢
      rw [ev10_167, own_e2_1 v6_98 v8_108 h1, own_g2_1 v6_98 v8_108 h1]
      exact own_k1 _ _ _ _ _ (by decide) rfl
    · subst h
      rw [hb8] at ev10_167 ⊢
      rw [ev10_167, own_e3_1 v6_98 v8_108 h1, own_g3_1 v6_98 v8_108 h1]
      exact own_k1 _ _ _ _ _ (by decide) rfl
    · subst h
      rw [hb8] at ev10_167 ⊢
      rw [ev10_167, own_e4_1 v6_98 v8_108 h1, own_g4_1 v6_98 v8_108 h1]
      exact own_k1 _ _ _ _ _ (by decide) rfl
  · have h1 : ¬ v6_98 < 128 := by simp only [Int32.lt_iff_toInt_lt, Int32.reduceToInt]; omega
    have h2 : v6_98 < 2048 := by simp only [Int32.lt_iff_toInt_lt, Int32.reduceToInt]; omega
    rcases hat with h | h | h | h | h
    · subst h
      rw [hb8] at ev10_167 ⊢
      rw [ev10_167, own_e0_2 v6_98 v8_108 h1 h2, own_g0_2 v6_98 v8_108 h1 h2]
      exact own_k2 _ _ _ _ _ (by decide) (by decide)
    · subst h
      rw [hb8] at ev10_167 ⊢
      rw [ev10_167, own_e1_2 v6_98 v8_108 h1 h2, own_g1_2 v6_98 v8_108 h1 h2]
      exact own_k1 _ _ _ _ _ (by decide) rfl
    · subst h
      rw [hb8] at ev10_167 ⊢
      rw [ev10_167, own_e2_2 v6_98 v8_108 h1 h2, own_g2_2 v6_98 v8_108 h1 h2]
      exact own_k1 _ _ _ _ _ (by decide) rfl
    · subst h
      rw [hb8] at ev10_167 ⊢
      rw [ev10_167, own_e3_2 v6_98 v8_108 h1 h2, own_g3_2 v6_98 v8_108 h1 h2]
      exact own_k1 _ _ _ _ _ (by decide) rfl
    · subst h
      rw [hb8] at ev10_167 ⊢
      rw [ev10_167, own_e4_2 v6_98 v8_108 h1 h2, own_g4_2 v6_98 v8_108 h1 h2]
      exact own_k1 _ _ _ _ _ (by decide) rfl
  · have h1 : ¬ v6_98 < 128 := by simp only [Int32.lt_iff_toInt_lt, Int32.reduceToInt]; omega
    have h2 : ¬ v6_98 < 2048 := by simp only [Int32.lt_iff_toInt_lt, Int32.reduceToInt]; omega
    have h3 : v6_98 < 65536 := by simp only [Int32.lt_iff_toInt_lt, Int32.reduceToInt]; omega
    rcases hat with h | h | h | h | h
    · subst h
      rw [hb8] at ev10_167 ⊢
      rw [ev10_167, own_e0_3 v6_98 v8_108 h1 h2 h3, own_g0_3 v6_98 v8_108 h1 h2 h3]
      exact own_k2 _ _ _ _ _ (by decide) (by decide)
    · subst h
      rw [hb8] at ev10_167 ⊢
      rw [ev10_167, own_e1_3 v6_98 v8_108 h1 h2 h3, own_g1_3 v6_98 v8_108 h1 h2 h3]
      exact own_k1 _ _ _ _ _ (by decide) rfl
    · subst h
      rw [hb8] at ev10_167 ⊢
      rw [ev10_167, own_e2_3 v6_98 v8_108 h1 h2 h3, own_g2_3 v6_98 v8_108 h1 h2 h3]
      exact own_k1 _ _ _ _ _ (by decide) rfl
    · subst h
      rw [hb8] at ev10_167 ⊢
      rw [ev10_167, own_e3_3 v6_98 v8_108 h1 h2 h3, own_g3_3 v6_98 v8_108 h1 h2 h3]
      exact own_k1 _ _ _ _ _ (by decide) rfl
    · subst h
      rw [hb8] at ev10_167 ⊢
      rw [ev10_167, own_e4_3 v6_98 v8_108 h1 h2 h3, own_g4_3 v6_98 v8_108 h1 h2 h3]
      exact own_k1 _ _ _ _ _ (by decide) rfl
  · have h1 : ¬ v6_98 < 128 := by simp only [Int32.lt_iff_toInt_lt, Int32.reduceToInt]; omega
    have h2 : ¬ v6_98 < 2048 := by simp only [Int32.lt_iff_toInt_lt, Int32.reduceToInt]; omega
    have h3 : ¬ v6_98 < 65536 := by simp only [Int32.lt_iff_toInt_lt, Int32.reduceToInt]; omega
    rcases hat with h | h | h | h | h
    · subst h
      rw [hb8] at ev10_167 ⊢
      rw [ev10_167, own_e0_4 v6_98 v8_108 h1 h2 h3, own_g0_4 v6_98 v8_108 h1 h2 h3]
      exact own_k2 _ _ _ _ _ (by decide) (by decide)
    · subst h
      rw [hb8] at ev10_167 ⊢
      rw [ev10_167, own_e1_4 v6_98 v8_108 h1 h2 h3, own_g1_4 v6_98 v8_108 h1 h2 h3]
      exact own_k1 _ _ _ _ _ (by decide) rfl
    · subst h
      rw [hb8] at ev10_167 ⊢
      rw [ev10_167, own_e2_4 v6_98 v8_108 h1 h2 h3, own_g2_4 v6_98 v8_108 h1 h2 h3]
      exact own_k1 _ _ _ _ _ (by decide) rfl
    · subst h
      rw [hb8] at ev10_167 ⊢
      rw [ev10_167, own_e3_4 v6_98 v8_108 h1 h2 h3, own_g3_4 v6_98 v8_108 h1 h2 h3]
      exact own_k1 _ _ _ _ _ (by decide) rfl
    · subst h
      rw [hb8] at ev10_167 ⊢
      rw [ev10_167, own_e4_4 v6_98 v8_108 h1 h2 h3, own_g4_4 v6_98 v8_108 h1 h2 h3]
      exact own_k1 _ _ _ _ _ (by decide) rfl
theorem own_pr0_223_hB (p0 : Int32) (p1 : Int32) (p2 : Int32) (p3 : Int32) (v4_3 : Int32) (ev4_3 : v4_3 = (p0 &&& (3 : Int32))) (v5_9 : Int32) (ev5_9 : v5_9 = (p1 &&& (2147483647 : Int32))) (v6_98 : Int32) (ev6_98 : v6_98 = (if v4_3 = (0 : Int32) then (p1 &&& (127 : Int32)) else (if v4_3 = (1 : Int32) then ((128 : Int32) + (v5_9 % (1920 : Int32))) else (if v4_3 = (2 : Int32) then (if ((2048 : Int32) + (v5_9 % (63488 : Int32))) < (55296 : Int32) then ((2048 : Int32) + (v5_9 % (63488 : Int32))) else (if (57343 : Int32) < ((2048 : Int32) + (v5_9 % (63488 : Int32))) then ((2048 : Int32) + (v5_9 % (63488 : Int32))) else (((2048 : Int32) + (v5_9 % (63488 : Int32))) ^^^ (2048 : Int32)))) else ((65536 : Int32) + (v5_9 % (1048576 : Int32))))))) (v7_104 : Int32) (ev7_104 : v7_104 = ((p2 &&& (2147483647 : Int32)) % (5 : Int32))) (v8_108 : Int32) (ev8_108 : v8_108 = (p3.toInt8.toInt32)) (v10_167 : Int32) (ev10_167 : v10_167 = (f1 v6_98 (8 : Int32) [(nar .byte v8_108), (nar .byte v8_108), (nar .byte v8_108), (nar .byte v8_108), (nar .byte v8_108), (nar .byte v8_108), (nar .byte v8_108), (nar .byte v8_108)] v7_104)) : ¬ (1 : Int32) < 0 ∧ (1 : Int32) < (8 : Int32) := by
  first | decide | exact ⟨by decide, by decide⟩
theorem own_hc0_226 (p0 : Int32) (p1 : Int32) (p2 : Int32) (p3 : Int32) (v4_3 : Int32) (ev4_3 : v4_3 = (p0 &&& (3 : Int32))) (v5_9 : Int32) (ev5_9 : v5_9 = (p1 &&& (2147483647 : Int32))) (v6_98 : Int32) (ev6_98 : v6_98 = (if v4_3 = (0 : Int32) then (p1 &&& (127 : Int32)) else (if v4_3 = (1 : Int32) then ((128 : Int32) + (v5_9 % (1920 : Int32))) else (if v4_3 = (2 : Int32) then (if ((2048 : Int32) + (v5_9 % (63488 : Int32))) < (55296 : Int32) then ((2048 : Int32) + (v5_9 % (63488 : Int32))) else (if (57343 : Int32) < ((2048 : Int32) + (v5_9 % (63488 : Int32))) then ((2048 : Int32) + (v5_9 % (63488 : Int32))) else (((2048 : Int32) + (v5_9 % (63488 : Int32))) ^^^ (2048 : Int32)))) else ((65536 : Int32) + (v5_9 % (1048576 : Int32))))))) (v7_104 : Int32) (ev7_104 : v7_104 = ((p2 &&& (2147483647 : Int32)) % (5 : Int32))) (v8_108 : Int32) (ev8_108 : v8_108 = (p3.toInt8.toInt32)) (v10_167 : Int32) (ev10_167 : v10_167 = (f1 v6_98 (8 : Int32) [(nar .byte v8_108), (nar .byte v8_108), (nar .byte v8_108), (nar .byte v8_108), (nar .byte v8_108), (nar .byte v8_108), (nar .byte v8_108), (nar .byte v8_108)] v7_104)) : ¬ ((f3 (8 : Int32) (g1_u1 v6_98 (8 : Int32) [(nar .byte v8_108), (nar .byte v8_108), (nar .byte v8_108), (nar .byte v8_108), (nar .byte v8_108), (nar .byte v8_108), (nar .byte v8_108), (nar .byte v8_108)] v7_104) (1 : Int32) v7_104 v10_167 v8_108) = (0 : Int32)) := by
  obtain ⟨hb8, hat, hr⟩ := own_rngs p0 p1 p2 p3 v4_3 ev4_3 v5_9 ev5_9 v6_98 ev6_98 v7_104 ev7_104 v8_108 ev8_108
  clear ev6_98 ev5_9 ev4_3 ev7_104 ev8_108
  rcases hr with ⟨hs, hr⟩ | ⟨hs, hr⟩ | ⟨hs, hr, hx⟩ | ⟨hs, hr⟩
  · have h1 : v6_98 < 128 := by simp only [Int32.lt_iff_toInt_lt, Int32.reduceToInt]; omega
    rcases hat with h | h | h | h | h
    · subst h
      rw [hb8] at ev10_167 ⊢
      rw [ev10_167, own_e0_1 v6_98 v8_108 h1, own_g0_1 v6_98 v8_108 h1]
      exact own_k3 _ _ _ _ _ (by decide) (by decide) rfl
    · subst h
      rw [hb8] at ev10_167 ⊢
      rw [ev10_167, own_e1_1 v6_98 v8_108 h1, own_g1_1 v6_98 v8_108 h1]
      exact own_k2 _ _ _ _ _ (by decide) (by decide)
    · subst h
      rw [hb8] at ev10_167 ⊢
      rw [ev10_167, own_e2_1 v6_98 v8_108 h1, own_g2_1 v6_98 v8_108 h1]
      exact own_k1 _ _ _ _ _ (by decide) rfl
    · subst h
      rw [hb8] at ev10_167 ⊢
      rw [ev10_167, own_e3_1 v6_98 v8_108 h1, own_g3_1 v6_98 v8_108 h1]
      exact own_k1 _ _ _ _ _ (by decide) rfl
    · subst h
      rw [hb8] at ev10_167 ⊢
      rw [ev10_167, own_e4_1 v6_98 v8_108 h1, own_g4_1 v6_98 v8_108 h1]
      exact own_k1 _ _ _ _ _ (by decide) rfl
  · have h1 : ¬ v6_98 < 128 := by simp only [Int32.lt_iff_toInt_lt, Int32.reduceToInt]; omega
    have h2 : v6_98 < 2048 := by simp only [Int32.lt_iff_toInt_lt, Int32.reduceToInt]; omega
    rcases hat with h | h | h | h | h
    · subst h
      rw [hb8] at ev10_167 ⊢
      rw [ev10_167, own_e0_2 v6_98 v8_108 h1 h2, own_g0_2 v6_98 v8_108 h1 h2]
      exact own_k2 _ _ _ _ _ (by decide) (by decide)
    · subst h
      rw [hb8] at ev10_167 ⊢
      rw [ev10_167, own_e1_2 v6_98 v8_108 h1 h2, own_g1_2 v6_98 v8_108 h1 h2]
      exact own_k2 _ _ _ _ _ (by decide) (by decide)
    · subst h
      rw [hb8] at ev10_167 ⊢
      rw [ev10_167, own_e2_2 v6_98 v8_108 h1 h2, own_g2_2 v6_98 v8_108 h1 h2]
      exact own_k1 _ _ _ _ _ (by decide) rfl
    · subst h
      rw [hb8] at ev10_167 ⊢
      rw [ev10_167, own_e3_2 v6_98 v8_108 h1 h2, own_g3_2 v6_98 v8_108 h1 h2]
      exact own_k1 _ _ _ _ _ (by decide) rfl
    · subst h
      rw [hb8] at ev10_167 ⊢
      rw [ev10_167, own_e4_2 v6_98 v8_108 h1 h2, own_g4_2 v6_98 v8_108 h1 h2]
      exact own_k1 _ _ _ _ _ (by decide) rfl
  · have h1 : ¬ v6_98 < 128 := by simp only [Int32.lt_iff_toInt_lt, Int32.reduceToInt]; omega
    have h2 : ¬ v6_98 < 2048 := by simp only [Int32.lt_iff_toInt_lt, Int32.reduceToInt]; omega
    have h3 : v6_98 < 65536 := by simp only [Int32.lt_iff_toInt_lt, Int32.reduceToInt]; omega
    rcases hat with h | h | h | h | h
    · subst h
      rw [hb8] at ev10_167 ⊢
      rw [ev10_167, own_e0_3 v6_98 v8_108 h1 h2 h3, own_g0_3 v6_98 v8_108 h1 h2 h3]
      exact own_k2 _ _ _ _ _ (by decide) (by decide)
    · subst h
      rw [hb8] at ev10_167 ⊢
      rw [ev10_167, own_e1_3 v6_98 v8_108 h1 h2 h3, own_g1_3 v6_98 v8_108 h1 h2 h3]
      exact own_k2 _ _ _ _ _ (by decide) (by decide)
    · subst h
      rw [hb8] at ev10_167 ⊢
      rw [ev10_167, own_e2_3 v6_98 v8_108 h1 h2 h3, own_g2_3 v6_98 v8_108 h1 h2 h3]
      exact own_k1 _ _ _ _ _ (by decide) rfl
    · subst h
      rw [hb8] at ev10_167 ⊢
      rw [ev10_167, own_e3_3 v6_98 v8_108 h1 h2 h3, own_g3_3 v6_98 v8_108 h1 h2 h3]
      exact own_k1 _ _ _ _ _ (by decide) rfl
    · subst h
      rw [hb8] at ev10_167 ⊢
      rw [ev10_167, own_e4_3 v6_98 v8_108 h1 h2 h3, own_g4_3 v6_98 v8_108 h1 h2 h3]
      exact own_k1 _ _ _ _ _ (by decide) rfl
  · have h1 : ¬ v6_98 < 128 := by simp only [Int32.lt_iff_toInt_lt, Int32.reduceToInt]; omega
    have h2 : ¬ v6_98 < 2048 := by simp only [Int32.lt_iff_toInt_lt, Int32.reduceToInt]; omega
    have h3 : ¬ v6_98 < 65536 := by simp only [Int32.lt_iff_toInt_lt, Int32.reduceToInt]; omega
    rcases hat with h | h | h | h | h
    · subst h
      rw [hb8] at ev10_167 ⊢
      rw [ev10_167, own_e0_4 v6_98 v8_108 h1 h2 h3, own_g0_4 v6_98 v8_108 h1 h2 h3]
      exact own_k2 _ _ _ _ _ (by decide) (by decide)
    · subst h
      rw [hb8] at ev10_167 ⊢
      rw [ev10_167, own_e1_4 v6_98 v8_108 h1 h2 h3, own_g1_4 v6_98 v8_108 h1 h2 h3]
      exact own_k2 _ _ _ _ _ (by decide) (by decide)
    · subst h
      rw [hb8] at ev10_167 ⊢
      rw [ev10_167, own_e2_4 v6_98 v8_108 h1 h2 h3, own_g2_4 v6_98 v8_108 h1 h2 h3]
      exact own_k1 _ _ _ _ _ (by decide) rfl
    · subst h
      rw [hb8] at ev10_167 ⊢
      rw [ev10_167, own_e3_4 v6_98 v8_108 h1 h2 h3, own_g3_4 v6_98 v8_108 h1 h2 h3]
      exact own_k1 _ _ _ _ _ (by decide) rfl
    · subst h
      rw [hb8] at ev10_167 ⊢
      rw [ev10_167, own_e4_4 v6_98 v8_108 h1 h2 h3, own_g4_4 v6_98 v8_108 h1 h2 h3]
      exact own_k1 _ _ _ _ _ (by decide) rfl
theorem own_pr0_238_hB (p0 : Int32) (p1 : Int32) (p2 : Int32) (p3 : Int32) (v4_3 : Int32) (ev4_3 : v4_3 = (p0 &&& (3 : Int32))) (v5_9 : Int32) (ev5_9 : v5_9 = (p1 &&& (2147483647 : Int32))) (v6_98 : Int32) (ev6_98 : v6_98 = (if v4_3 = (0 : Int32) then (p1 &&& (127 : Int32)) else (if v4_3 = (1 : Int32) then ((128 : Int32) + (v5_9 % (1920 : Int32))) else (if v4_3 = (2 : Int32) then (if ((2048 : Int32) + (v5_9 % (63488 : Int32))) < (55296 : Int32) then ((2048 : Int32) + (v5_9 % (63488 : Int32))) else (if (57343 : Int32) < ((2048 : Int32) + (v5_9 % (63488 : Int32))) then ((2048 : Int32) + (v5_9 % (63488 : Int32))) else (((2048 : Int32) + (v5_9 % (63488 : Int32))) ^^^ (2048 : Int32)))) else ((65536 : Int32) + (v5_9 % (1048576 : Int32))))))) (v7_104 : Int32) (ev7_104 : v7_104 = ((p2 &&& (2147483647 : Int32)) % (5 : Int32))) (v8_108 : Int32) (ev8_108 : v8_108 = (p3.toInt8.toInt32)) (v10_167 : Int32) (ev10_167 : v10_167 = (f1 v6_98 (8 : Int32) [(nar .byte v8_108), (nar .byte v8_108), (nar .byte v8_108), (nar .byte v8_108), (nar .byte v8_108), (nar .byte v8_108), (nar .byte v8_108), (nar .byte v8_108)] v7_104)) : ¬ (2 : Int32) < 0 ∧ (2 : Int32) < (8 : Int32) := by
  first | decide | exact ⟨by decide, by decide⟩
theorem own_hc0_241 (p0 : Int32) (p1 : Int32) (p2 : Int32) (p3 : Int32) (v4_3 : Int32) (ev4_3 : v4_3 = (p0 &&& (3 : Int32))) (v5_9 : Int32) (ev5_9 : v5_9 = (p1 &&& (2147483647 : Int32))) (v6_98 : Int32) (ev6_98 : v6_98 = (if v4_3 = (0 : Int32) then (p1 &&& (127 : Int32)) else (if v4_3 = (1 : Int32) then ((128 : Int32) + (v5_9 % (1920 : Int32))) else (if v4_3 = (2 : Int32) then (if ((2048 : Int32) + (v5_9 % (63488 : Int32))) < (55296 : Int32) then ((2048 : Int32) + (v5_9 % (63488 : Int32))) else (if (57343 : Int32) < ((2048 : Int32) + (v5_9 % (63488 : Int32))) then ((2048 : Int32) + (v5_9 % (63488 : Int32))) else (((2048 : Int32) + (v5_9 % (63488 : Int32))) ^^^ (2048 : Int32)))) else ((65536 : Int32) + (v5_9 % (1048576 : Int32))))))) (v7_104 : Int32) (ev7_104 : v7_104 = ((p2 &&& (2147483647 : Int32)) % (5 : Int32))) (v8_108 : Int32) (ev8_108 : v8_108 = (p3.toInt8.toInt32)) (v10_167 : Int32) (ev10_167 : v10_167 = (f1 v6_98 (8 : Int32) [(nar .byte v8_108), (nar .byte v8_108), (nar .byte v8_108), (nar .byte v8_108), (nar .byte v8_108), (nar .byte v8_108), (nar .byte v8_108), (nar .byte v8_108)] v7_104)) : ¬ ((f3 (8 : Int32) (g1_u1 v6_98 (8 : Int32) [(nar .byte v8_108), (nar .byte v8_108), (nar .byte v8_108), (nar .byte v8_108), (nar .byte v8_108), (nar .byte v8_108), (nar .byte v8_108), (nar .byte v8_108)] v7_104) (2 : Int32) v7_104 v10_167 v8_108) = (0 : Int32)) := by
  obtain ⟨hb8, hat, hr⟩ := own_rngs p0 p1 p2 p3 v4_3 ev4_3 v5_9 ev5_9 v6_98 ev6_98 v7_104 ev7_104 v8_108 ev8_108
  clear ev6_98 ev5_9 ev4_3 ev7_104 ev8_108
  rcases hr with ⟨hs, hr⟩ | ⟨hs, hr⟩ | ⟨hs, hr, hx⟩ | ⟨hs, hr⟩
  · have h1 : v6_98 < 128 := by simp only [Int32.lt_iff_toInt_lt, Int32.reduceToInt]; omega
    rcases hat with h | h | h | h | h
    · subst h
      rw [hb8] at ev10_167 ⊢
      rw [ev10_167, own_e0_1 v6_98 v8_108 h1, own_g0_1 v6_98 v8_108 h1]
      exact own_k3 _ _ _ _ _ (by decide) (by decide) rfl
    · subst h
      rw [hb8] at ev10_167 ⊢
      rw [ev10_167, own_e1_1 v6_98 v8_108 h1, own_g1_1 v6_98 v8_108 h1]
      exact own_k3 _ _ _ _ _ (by decide) (by decide) rfl
    · subst h
      rw [hb8] at ev10_167 ⊢
      rw [ev10_167, own_e2_1 v6_98 v8_108 h1, own_g2_1 v6_98 v8_108 h1]
      exact own_k2 _ _ _ _ _ (by decide) (by decide)
    · subst h
      rw [hb8] at ev10_167 ⊢
      rw [ev10_167, own_e3_1 v6_98 v8_108 h1, own_g3_1 v6_98 v8_108 h1]
      exact own_k1 _ _ _ _ _ (by decide) rfl
    · subst h
      rw [hb8] at ev10_167 ⊢
      rw [ev10_167, own_e4_1 v6_98 v8_108 h1, own_g4_1 v6_98 v8_108 h1]
      exact own_k1 _ _ _ _ _ (by decide) rfl
  · have h1 : ¬ v6_98 < 128 := by simp only [Int32.lt_iff_toInt_lt, Int32.reduceToInt]; omega
    have h2 : v6_98 < 2048 := by simp only [Int32.lt_iff_toInt_lt, Int32.reduceToInt]; omega
    rcases hat with h | h | h | h | h
    · subst h
      rw [hb8] at ev10_167 ⊢
      rw [ev10_167, own_e0_2 v6_98 v8_108 h1 h2, own_g0_2 v6_98 v8_108 h1 h2]
      exact own_k3 _ _ _ _ _ (by decide) (by decide) rfl
    · subst h
      rw [hb8] at ev10_167 ⊢
      rw [ev10_167, own_e1_2 v6_98 v8_108 h1 h2, own_g1_2 v6_98 v8_108 h1 h2]
      exact own_k2 _ _ _ _ _ (by decide) (by decide)
    · subst h
      rw [hb8] at ev10_167 ⊢
      rw [ev10_167, own_e2_2 v6_98 v8_108 h1 h2, own_g2_2 v6_98 v8_108 h1 h2]
      exact own_k2 _ _ _ _ _ (by decide) (by decide)
    · subst h
      rw [hb8] at ev10_167 ⊢
      rw [ev10_167, own_e3_2 v6_98 v8_108 h1 h2, own_g3_2 v6_98 v8_108 h1 h2]
      exact own_k1 _ _ _ _ _ (by decide) rfl
    · subst h
      rw [hb8] at ev10_167 ⊢
      rw [ev10_167, own_e4_2 v6_98 v8_108 h1 h2, own_g4_2 v6_98 v8_108 h1 h2]
      exact own_k1 _ _ _ _ _ (by decide) rfl
  · have h1 : ¬ v6_98 < 128 := by simp only [Int32.lt_iff_toInt_lt, Int32.reduceToInt]; omega
    have h2 : ¬ v6_98 < 2048 := by simp only [Int32.lt_iff_toInt_lt, Int32.reduceToInt]; omega
    have h3 : v6_98 < 65536 := by simp only [Int32.lt_iff_toInt_lt, Int32.reduceToInt]; omega
    rcases hat with h | h | h | h | h
    · subst h
      rw [hb8] at ev10_167 ⊢
      rw [ev10_167, own_e0_3 v6_98 v8_108 h1 h2 h3, own_g0_3 v6_98 v8_108 h1 h2 h3]
      exact own_k2 _ _ _ _ _ (by decide) (by decide)
    · subst h
      rw [hb8] at ev10_167 ⊢
      rw [ev10_167, own_e1_3 v6_98 v8_108 h1 h2 h3, own_g1_3 v6_98 v8_108 h1 h2 h3]
      exact own_k2 _ _ _ _ _ (by decide) (by decide)
    · subst h
      rw [hb8] at ev10_167 ⊢
      rw [ev10_167, own_e2_3 v6_98 v8_108 h1 h2 h3, own_g2_3 v6_98 v8_108 h1 h2 h3]
      exact own_k2 _ _ _ _ _ (by decide) (by decide)
    · subst h
      rw [hb8] at ev10_167 ⊢
      rw [ev10_167, own_e3_3 v6_98 v8_108 h1 h2 h3, own_g3_3 v6_98 v8_108 h1 h2 h3]
      exact own_k1 _ _ _ _ _ (by decide) rfl
    · subst h
      rw [hb8] at ev10_167 ⊢
      rw [ev10_167, own_e4_3 v6_98 v8_108 h1 h2 h3, own_g4_3 v6_98 v8_108 h1 h2 h3]
      exact own_k1 _ _ _ _ _ (by decide) rfl
  · have h1 : ¬ v6_98 < 128 := by simp only [Int32.lt_iff_toInt_lt, Int32.reduceToInt]; omega
    have h2 : ¬ v6_98 < 2048 := by simp only [Int32.lt_iff_toInt_lt, Int32.reduceToInt]; omega
    have h3 : ¬ v6_98 < 65536 := by simp only [Int32.lt_iff_toInt_lt, Int32.reduceToInt]; omega
    rcases hat with h | h | h | h | h
    · subst h
      rw [hb8] at ev10_167 ⊢
      rw [ev10_167, own_e0_4 v6_98 v8_108 h1 h2 h3, own_g0_4 v6_98 v8_108 h1 h2 h3]
      exact own_k2 _ _ _ _ _ (by decide) (by decide)
    · subst h
      rw [hb8] at ev10_167 ⊢
      rw [ev10_167, own_e1_4 v6_98 v8_108 h1 h2 h3, own_g1_4 v6_98 v8_108 h1 h2 h3]
      exact own_k2 _ _ _ _ _ (by decide) (by decide)
    · subst h
      rw [hb8] at ev10_167 ⊢
      rw [ev10_167, own_e2_4 v6_98 v8_108 h1 h2 h3, own_g2_4 v6_98 v8_108 h1 h2 h3]
      exact own_k2 _ _ _ _ _ (by decide) (by decide)
    · subst h
      rw [hb8] at ev10_167 ⊢
      rw [ev10_167, own_e3_4 v6_98 v8_108 h1 h2 h3, own_g3_4 v6_98 v8_108 h1 h2 h3]
      exact own_k1 _ _ _ _ _ (by decide) rfl
    · subst h
      rw [hb8] at ev10_167 ⊢
      rw [ev10_167, own_e4_4 v6_98 v8_108 h1 h2 h3, own_g4_4 v6_98 v8_108 h1 h2 h3]
      exact own_k1 _ _ _ _ _ (by decide) rfl
theorem own_pr0_253_hB (p0 : Int32) (p1 : Int32) (p2 : Int32) (p3 : Int32) (v4_3 : Int32) (ev4_3 : v4_3 = (p0 &&& (3 : Int32))) (v5_9 : Int32) (ev5_9 : v5_9 = (p1 &&& (2147483647 : Int32))) (v6_98 : Int32) (ev6_98 : v6_98 = (if v4_3 = (0 : Int32) then (p1 &&& (127 : Int32)) else (if v4_3 = (1 : Int32) then ((128 : Int32) + (v5_9 % (1920 : Int32))) else (if v4_3 = (2 : Int32) then (if ((2048 : Int32) + (v5_9 % (63488 : Int32))) < (55296 : Int32) then ((2048 : Int32) + (v5_9 % (63488 : Int32))) else (if (57343 : Int32) < ((2048 : Int32) + (v5_9 % (63488 : Int32))) then ((2048 : Int32) + (v5_9 % (63488 : Int32))) else (((2048 : Int32) + (v5_9 % (63488 : Int32))) ^^^ (2048 : Int32)))) else ((65536 : Int32) + (v5_9 % (1048576 : Int32))))))) (v7_104 : Int32) (ev7_104 : v7_104 = ((p2 &&& (2147483647 : Int32)) % (5 : Int32))) (v8_108 : Int32) (ev8_108 : v8_108 = (p3.toInt8.toInt32)) (v10_167 : Int32) (ev10_167 : v10_167 = (f1 v6_98 (8 : Int32) [(nar .byte v8_108), (nar .byte v8_108), (nar .byte v8_108), (nar .byte v8_108), (nar .byte v8_108), (nar .byte v8_108), (nar .byte v8_108), (nar .byte v8_108)] v7_104)) : ¬ (3 : Int32) < 0 ∧ (3 : Int32) < (8 : Int32) := by
  first | decide | exact ⟨by decide, by decide⟩
theorem own_hc0_256 (p0 : Int32) (p1 : Int32) (p2 : Int32) (p3 : Int32) (v4_3 : Int32) (ev4_3 : v4_3 = (p0 &&& (3 : Int32))) (v5_9 : Int32) (ev5_9 : v5_9 = (p1 &&& (2147483647 : Int32))) (v6_98 : Int32) (ev6_98 : v6_98 = (if v4_3 = (0 : Int32) then (p1 &&& (127 : Int32)) else (if v4_3 = (1 : Int32) then ((128 : Int32) + (v5_9 % (1920 : Int32))) else (if v4_3 = (2 : Int32) then (if ((2048 : Int32) + (v5_9 % (63488 : Int32))) < (55296 : Int32) then ((2048 : Int32) + (v5_9 % (63488 : Int32))) else (if (57343 : Int32) < ((2048 : Int32) + (v5_9 % (63488 : Int32))) then ((2048 : Int32) + (v5_9 % (63488 : Int32))) else (((2048 : Int32) + (v5_9 % (63488 : Int32))) ^^^ (2048 : Int32)))) else ((65536 : Int32) + (v5_9 % (1048576 : Int32))))))) (v7_104 : Int32) (ev7_104 : v7_104 = ((p2 &&& (2147483647 : Int32)) % (5 : Int32))) (v8_108 : Int32) (ev8_108 : v8_108 = (p3.toInt8.toInt32)) (v10_167 : Int32) (ev10_167 : v10_167 = (f1 v6_98 (8 : Int32) [(nar .byte v8_108), (nar .byte v8_108), (nar .byte v8_108), (nar .byte v8_108), (nar .byte v8_108), (nar .byte v8_108), (nar .byte v8_108), (nar .byte v8_108)] v7_104)) : ¬ ((f3 (8 : Int32) (g1_u1 v6_98 (8 : Int32) [(nar .byte v8_108), (nar .byte v8_108), (nar .byte v8_108), (nar .byte v8_108), (nar .byte v8_108), (nar .byte v8_108), (nar .byte v8_108), (nar .byte v8_108)] v7_104) (3 : Int32) v7_104 v10_167 v8_108) = (0 : Int32)) := by
  obtain ⟨hb8, hat, hr⟩ := own_rngs p0 p1 p2 p3 v4_3 ev4_3 v5_9 ev5_9 v6_98 ev6_98 v7_104 ev7_104 v8_108 ev8_108
  clear ev6_98 ev5_9 ev4_3 ev7_104 ev8_108
  rcases hr with ⟨hs, hr⟩ | ⟨hs, hr⟩ | ⟨hs, hr, hx⟩ | ⟨hs, hr⟩
  · have h1 : v6_98 < 128 := by simp only [Int32.lt_iff_toInt_lt, Int32.reduceToInt]; omega
    rcases hat with h | h | h | h | h
    · subst h
      rw [hb8] at ev10_167 ⊢
      rw [ev10_167, own_e0_1 v6_98 v8_108 h1, own_g0_1 v6_98 v8_108 h1]
      exact own_k3 _ _ _ _ _ (by decide) (by decide) rfl
    · subst h
      rw [hb8] at ev10_167 ⊢
      rw [ev10_167, own_e1_1 v6_98 v8_108 h1, own_g1_1 v6_98 v8_108 h1]
      exact own_k3 _ _ _ _ _ (by decide) (by decide) rfl
    · subst h
      rw [hb8] at ev10_167 ⊢
      rw [ev10_167, own_e2_1 v6_98 v8_108 h1, own_g2_1 v6_98 v8_108 h1]
      exact own_k3 _ _ _ _ _ (by decide) (by decide) rfl
    · subst h
      rw [hb8] at ev10_167 ⊢
      rw [ev10_167, own_e3_1 v6_98 v8_108 h1, own_g3_1 v6_98 v8_108 h1]
      exact own_k2 _ _ _ _ _ (by decide) (by decide)
    · subst h
      rw [hb8] at ev10_167 ⊢
      rw [ev10_167, own_e4_1 v6_98 v8_108 h1, own_g4_1 v6_98 v8_108 h1]
      exact own_k1 _ _ _ _ _ (by decide) rfl
  · have h1 : ¬ v6_98 < 128 := by simp only [Int32.lt_iff_toInt_lt, Int32.reduceToInt]; omega
    have h2 : v6_98 < 2048 := by simp only [Int32.lt_iff_toInt_lt, Int32.reduceToInt]; omega
    rcases hat with h | h | h | h | h
    · subst h
      rw [hb8] at ev10_167 ⊢
      rw [ev10_167, own_e0_2 v6_98 v8_108 h1 h2, own_g0_2 v6_98 v8_108 h1 h2]
      exact own_k3 _ _ _ _ _ (by decide) (by decide) rfl
    · subst h
      rw [hb8] at ev10_167 ⊢
      rw [ev10_167, own_e1_2 v6_98 v8_108 h1 h2, own_g1_2 v6_98 v8_108 h1 h2]
      exact own_k3 _ _ _ _ _ (by decide) (by decide) rfl
    · subst h
      rw [hb8] at ev10_167 ⊢
      rw [ev10_167, own_e2_2 v6_98 v8_108 h1 h2, own_g2_2 v6_98 v8_108 h1 h2]
      exact own_k2 _ _ _ _ _ (by decide) (by decide)
    · subst h
      rw [hb8] at ev10_167 ⊢
      rw [ev10_167, own_e3_2 v6_98 v8_108 h1 h2, own_g3_2 v6_98 v8_108 h1 h2]
      exact own_k2 _ _ _ _ _ (by decide) (by decide)
    · subst h
      rw [hb8] at ev10_167 ⊢
      rw [ev10_167, own_e4_2 v6_98 v8_108 h1 h2, own_g4_2 v6_98 v8_108 h1 h2]
      exact own_k1 _ _ _ _ _ (by decide) rfl
  · have h1 : ¬ v6_98 < 128 := by simp only [Int32.lt_iff_toInt_lt, Int32.reduceToInt]; omega
    have h2 : ¬ v6_98 < 2048 := by simp only [Int32.lt_iff_toInt_lt, Int32.reduceToInt]; omega
    have h3 : v6_98 < 65536 := by simp only [Int32.lt_iff_toInt_lt, Int32.reduceToInt]; omega
    rcases hat with h | h | h | h | h
    · subst h
      rw [hb8] at ev10_167 ⊢
      rw [ev10_167, own_e0_3 v6_98 v8_108 h1 h2 h3, own_g0_3 v6_98 v8_108 h1 h2 h3]
      exact own_k3 _ _ _ _ _ (by decide) (by decide) rfl
    · subst h
      rw [hb8] at ev10_167 ⊢
      rw [ev10_167, own_e1_3 v6_98 v8_108 h1 h2 h3, own_g1_3 v6_98 v8_108 h1 h2 h3]
      exact own_k2 _ _ _ _ _ (by decide) (by decide)
    · subst h
      rw [hb8] at ev10_167 ⊢
      rw [ev10_167, own_e2_3 v6_98 v8_108 h1 h2 h3, own_g2_3 v6_98 v8_108 h1 h2 h3]
      exact own_k2 _ _ _ _ _ (by decide) (by decide)
    · subst h
      rw [hb8] at ev10_167 ⊢
      rw [ev10_167, own_e3_3 v6_98 v8_108 h1 h2 h3, own_g3_3 v6_98 v8_108 h1 h2 h3]
      exact own_k2 _ _ _ _ _ (by decide) (by decide)
    · subst h
      rw [hb8] at ev10_167 ⊢
      rw [ev10_167, own_e4_3 v6_98 v8_108 h1 h2 h3, own_g4_3 v6_98 v8_108 h1 h2 h3]
      exact own_k1 _ _ _ _ _ (by decide) rfl
  · have h1 : ¬ v6_98 < 128 := by simp only [Int32.lt_iff_toInt_lt, Int32.reduceToInt]; omega
    have h2 : ¬ v6_98 < 2048 := by simp only [Int32.lt_iff_toInt_lt, Int32.reduceToInt]; omega
    have h3 : ¬ v6_98 < 65536 := by simp only [Int32.lt_iff_toInt_lt, Int32.reduceToInt]; omega
    rcases hat with h | h | h | h | h
    · subst h
      rw [hb8] at ev10_167 ⊢
      rw [ev10_167, own_e0_4 v6_98 v8_108 h1 h2 h3, own_g0_4 v6_98 v8_108 h1 h2 h3]
      exact own_k2 _ _ _ _ _ (by decide) (by decide)
    · subst h
      rw [hb8] at ev10_167 ⊢
      rw [ev10_167, own_e1_4 v6_98 v8_108 h1 h2 h3, own_g1_4 v6_98 v8_108 h1 h2 h3]
      exact own_k2 _ _ _ _ _ (by decide) (by decide)
    · subst h
      rw [hb8] at ev10_167 ⊢
      rw [ev10_167, own_e2_4 v6_98 v8_108 h1 h2 h3, own_g2_4 v6_98 v8_108 h1 h2 h3]
      exact own_k2 _ _ _ _ _ (by decide) (by decide)
    · subst h
      rw [hb8] at ev10_167 ⊢
      rw [ev10_167, own_e3_4 v6_98 v8_108 h1 h2 h3, own_g3_4 v6_98 v8_108 h1 h2 h3]
      exact own_k2 _ _ _ _ _ (by decide) (by decide)
    · subst h
      rw [hb8] at ev10_167 ⊢
      rw [ev10_167, own_e4_4 v6_98 v8_108 h1 h2 h3, own_g4_4 v6_98 v8_108 h1 h2 h3]
      exact own_k1 _ _ _ _ _ (by decide) rfl
theorem own_pr0_268_hB (p0 : Int32) (p1 : Int32) (p2 : Int32) (p3 : Int32) (v4_3 : Int32) (ev4_3 : v4_3 = (p0 &&& (3 : Int32))) (v5_9 : Int32) (ev5_9 : v5_9 = (p1 &&& (2147483647 : Int32))) (v6_98 : Int32) (ev6_98 : v6_98 = (if v4_3 = (0 : Int32) then (p1 &&& (127 : Int32)) else (if v4_3 = (1 : Int32) then ((128 : Int32) + (v5_9 % (1920 : Int32))) else (if v4_3 = (2 : Int32) then (if ((2048 : Int32) + (v5_9 % (63488 : Int32))) < (55296 : Int32) then ((2048 : Int32) + (v5_9 % (63488 : Int32))) else (if (57343 : Int32) < ((2048 : Int32) + (v5_9 % (63488 : Int32))) then ((2048 : Int32) + (v5_9 % (63488 : Int32))) else (((2048 : Int32) + (v5_9 % (63488 : Int32))) ^^^ (2048 : Int32)))) else ((65536 : Int32) + (v5_9 % (1048576 : Int32))))))) (v7_104 : Int32) (ev7_104 : v7_104 = ((p2 &&& (2147483647 : Int32)) % (5 : Int32))) (v8_108 : Int32) (ev8_108 : v8_108 = (p3.toInt8.toInt32)) (v10_167 : Int32) (ev10_167 : v10_167 = (f1 v6_98 (8 : Int32) [(nar .byte v8_108), (nar .byte v8_108), (nar .byte v8_108), (nar .byte v8_108), (nar .byte v8_108), (nar .byte v8_108), (nar .byte v8_108), (nar .byte v8_108)] v7_104)) : ¬ (4 : Int32) < 0 ∧ (4 : Int32) < (8 : Int32) := by
  first | decide | exact ⟨by decide, by decide⟩
theorem own_hc0_271 (p0 : Int32) (p1 : Int32) (p2 : Int32) (p3 : Int32) (v4_3 : Int32) (ev4_3 : v4_3 = (p0 &&& (3 : Int32))) (v5_9 : Int32) (ev5_9 : v5_9 = (p1 &&& (2147483647 : Int32))) (v6_98 : Int32) (ev6_98 : v6_98 = (if v4_3 = (0 : Int32) then (p1 &&& (127 : Int32)) else (if v4_3 = (1 : Int32) then ((128 : Int32) + (v5_9 % (1920 : Int32))) else (if v4_3 = (2 : Int32) then (if ((2048 : Int32) + (v5_9 % (63488 : Int32))) < (55296 : Int32) then ((2048 : Int32) + (v5_9 % (63488 : Int32))) else (if (57343 : Int32) < ((2048 : Int32) + (v5_9 % (63488 : Int32))) then ((2048 : Int32) + (v5_9 % (63488 : Int32))) else (((2048 : Int32) + (v5_9 % (63488 : Int32))) ^^^ (2048 : Int32)))) else ((65536 : Int32) + (v5_9 % (1048576 : Int32))))))) (v7_104 : Int32) (ev7_104 : v7_104 = ((p2 &&& (2147483647 : Int32)) % (5 : Int32))) (v8_108 : Int32) (ev8_108 : v8_108 = (p3.toInt8.toInt32)) (v10_167 : Int32) (ev10_167 : v10_167 = (f1 v6_98 (8 : Int32) [(nar .byte v8_108), (nar .byte v8_108), (nar .byte v8_108), (nar .byte v8_108), (nar .byte v8_108), (nar .byte v8_108), (nar .byte v8_108), (nar .byte v8_108)] v7_104)) : ¬ ((f3 (8 : Int32) (g1_u1 v6_98 (8 : Int32) [(nar .byte v8_108), (nar .byte v8_108), (nar .byte v8_108), (nar .byte v8_108), (nar .byte v8_108), (nar .byte v8_108), (nar .byte v8_108), (nar .byte v8_108)] v7_104) (4 : Int32) v7_104 v10_167 v8_108) = (0 : Int32)) := by
  obtain ⟨hb8, hat, hr⟩ := own_rngs p0 p1 p2 p3 v4_3 ev4_3 v5_9 ev5_9 v6_98 ev6_98 v7_104 ev7_104 v8_108 ev8_108
  clear ev6_98 ev5_9 ev4_3 ev7_104 ev8_108
  rcases hr with ⟨hs, hr⟩ | ⟨hs, hr⟩ | ⟨hs, hr, hx⟩ | ⟨hs, hr⟩
  · have h1 : v6_98 < 128 := by simp only [Int32.lt_iff_toInt_lt, Int32.reduceToInt]; omega
    rcases hat with h | h | h | h | h
    · subst h
      rw [hb8] at ev10_167 ⊢
      rw [ev10_167, own_e0_1 v6_98 v8_108 h1, own_g0_1 v6_98 v8_108 h1]
      exact own_k3 _ _ _ _ _ (by decide) (by decide) rfl
    · subst h
      rw [hb8] at ev10_167 ⊢
      rw [ev10_167, own_e1_1 v6_98 v8_108 h1, own_g1_1 v6_98 v8_108 h1]
      exact own_k3 _ _ _ _ _ (by decide) (by decide) rfl
    · subst h
      rw [hb8] at ev10_167 ⊢
      rw [ev10_167, own_e2_1 v6_98 v8_108 h1, own_g2_1 v6_98 v8_108 h1]
      exact own_k3 _ _ _ _ _ (by decide) (by decide) rfl
    · subst h
      rw [hb8] at ev10_167 ⊢
      rw [ev10_167, own_e3_1 v6_98 v8_108 h1, own_g3_1 v6_98 v8_108 h1]
      exact own_k3 _ _ _ _ _ (by decide) (by decide) rfl
    · subst h
      rw [hb8] at ev10_167 ⊢
      rw [ev10_167, own_e4_1 v6_98 v8_108 h1, own_g4_1 v6_98 v8_108 h1]
      exact own_k2 _ _ _ _ _ (by decide) (by decide)
  · have h1 : ¬ v6_98 < 128 := by simp only [Int32.lt_iff_toInt_lt, Int32.reduceToInt]; omega
    have h2 : v6_98 < 2048 := by simp only [Int32.lt_iff_toInt_lt, Int32.reduceToInt]; omega
    rcases hat with h | h | h | h | h
    · subst h
      rw [hb8] at ev10_167 ⊢
      rw [ev10_167, own_e0_2 v6_98 v8_108 h1 h2, own_g0_2 v6_98 v8_108 h1 h2]
      exact own_k3 _ _ _ _ _ (by decide) (by decide) rfl
    · subst h
      rw [hb8] at ev10_167 ⊢
      rw [ev10_167, own_e1_2 v6_98 v8_108 h1 h2, own_g1_2 v6_98 v8_108 h1 h2]
      exact own_k3 _ _ _ _ _ (by decide) (by decide) rfl
    · subst h
      rw [hb8] at ev10_167 ⊢
      rw [ev10_167, own_e2_2 v6_98 v8_108 h1 h2, own_g2_2 v6_98 v8_108 h1 h2]
      exact own_k3 _ _ _ _ _ (by decide) (by decide) rfl
    · subst h
      rw [hb8] at ev10_167 ⊢
      rw [ev10_167, own_e3_2 v6_98 v8_108 h1 h2, own_g3_2 v6_98 v8_108 h1 h2]
      exact own_k2 _ _ _ _ _ (by decide) (by decide)
    · subst h
      rw [hb8] at ev10_167 ⊢
      rw [ev10_167, own_e4_2 v6_98 v8_108 h1 h2, own_g4_2 v6_98 v8_108 h1 h2]
      exact own_k2 _ _ _ _ _ (by decide) (by decide)
  · have h1 : ¬ v6_98 < 128 := by simp only [Int32.lt_iff_toInt_lt, Int32.reduceToInt]; omega
    have h2 : ¬ v6_98 < 2048 := by simp only [Int32.lt_iff_toInt_lt, Int32.reduceToInt]; omega
    have h3 : v6_98 < 65536 := by simp only [Int32.lt_iff_toInt_lt, Int32.reduceToInt]; omega
    rcases hat with h | h | h | h | h
    · subst h
      rw [hb8] at ev10_167 ⊢
      rw [ev10_167, own_e0_3 v6_98 v8_108 h1 h2 h3, own_g0_3 v6_98 v8_108 h1 h2 h3]
      exact own_k3 _ _ _ _ _ (by decide) (by decide) rfl
    · subst h
      rw [hb8] at ev10_167 ⊢
      rw [ev10_167, own_e1_3 v6_98 v8_108 h1 h2 h3, own_g1_3 v6_98 v8_108 h1 h2 h3]
      exact own_k3 _ _ _ _ _ (by decide) (by decide) rfl
    · subst h
      rw [hb8] at ev10_167 ⊢
      rw [ev10_167, own_e2_3 v6_98 v8_108 h1 h2 h3, own_g2_3 v6_98 v8_108 h1 h2 h3]
      exact own_k2 _ _ _ _ _ (by decide) (by decide)
    · subst h
      rw [hb8] at ev10_167 ⊢
      rw [ev10_167, own_e3_3 v6_98 v8_108 h1 h2 h3, own_g3_3 v6_98 v8_108 h1 h2 h3]
      exact own_k2 _ _ _ _ _ (by decide) (by decide)
    · subst h
      rw [hb8] at ev10_167 ⊢
      rw [ev10_167, own_e4_3 v6_98 v8_108 h1 h2 h3, own_g4_3 v6_98 v8_108 h1 h2 h3]
      exact own_k2 _ _ _ _ _ (by decide) (by decide)
  · have h1 : ¬ v6_98 < 128 := by simp only [Int32.lt_iff_toInt_lt, Int32.reduceToInt]; omega
    have h2 : ¬ v6_98 < 2048 := by simp only [Int32.lt_iff_toInt_lt, Int32.reduceToInt]; omega
    have h3 : ¬ v6_98 < 65536 := by simp only [Int32.lt_iff_toInt_lt, Int32.reduceToInt]; omega
    rcases hat with h | h | h | h | h
    · subst h
      rw [hb8] at ev10_167 ⊢
      rw [ev10_167, own_e0_4 v6_98 v8_108 h1 h2 h3, own_g0_4 v6_98 v8_108 h1 h2 h3]
      exact own_k3 _ _ _ _ _ (by decide) (by decide) rfl
    · subst h
      rw [hb8] at ev10_167 ⊢
      rw [ev10_167, own_e1_4 v6_98 v8_108 h1 h2 h3, own_g1_4 v6_98 v8_108 h1 h2 h3]
      exact own_k2 _ _ _ _ _ (by decide) (by decide)
    · subst h
      rw [hb8] at ev10_167 ⊢
      rw [ev10_167, own_e2_4 v6_98 v8_108 h1 h2 h3, own_g2_4 v6_98 v8_108 h1 h2 h3]
      exact own_k2 _ _ _ _ _ (by decide) (by decide)
    · subst h
      rw [hb8] at ev10_167 ⊢
      rw [ev10_167, own_e3_4 v6_98 v8_108 h1 h2 h3, own_g3_4 v6_98 v8_108 h1 h2 h3]
      exact own_k2 _ _ _ _ _ (by decide) (by decide)
    · subst h
      rw [hb8] at ev10_167 ⊢
      rw [ev10_167, own_e4_4 v6_98 v8_108 h1 h2 h3, own_g4_4 v6_98 v8_108 h1 h2 h3]
      exact own_k2 _ _ _ _ _ (by decide) (by decide)
theorem own_pr0_283_hB (p0 : Int32) (p1 : Int32) (p2 : Int32) (p3 : Int32) (v4_3 : Int32) (ev4_3 : v4_3 = (p0 &&& (3 : Int32))) (v5_9 : Int32) (ev5_9 : v5_9 = (p1 &&& (2147483647 : Int32))) (v6_98 : Int32) (ev6_98 : v6_98 = (if v4_3 = (0 : Int32) then (p1 &&& (127 : Int32)) else (if v4_3 = (1 : Int32) then ((128 : Int32) + (v5_9 % (1920 : Int32))) else (if v4_3 = (2 : Int32) then (if ((2048 : Int32) + (v5_9 % (63488 : Int32))) < (55296 : Int32) then ((2048 : Int32) + (v5_9 % (63488 : Int32))) else (if (57343 : Int32) < ((2048 : Int32) + (v5_9 % (63488 : Int32))) then ((2048 : Int32) + (v5_9 % (63488 : Int32))) else (((2048 : Int32) + (v5_9 % (63488 : Int32))) ^^^ (2048 : Int32)))) else ((65536 : Int32) + (v5_9 % (1048576 : Int32))))))) (v7_104 : Int32) (ev7_104 : v7_104 = ((p2 &&& (2147483647 : Int32)) % (5 : Int32))) (v8_108 : Int32) (ev8_108 : v8_108 = (p3.toInt8.toInt32)) (v10_167 : Int32) (ev10_167 : v10_167 = (f1 v6_98 (8 : Int32) [(nar .byte v8_108), (nar .byte v8_108), (nar .byte v8_108), (nar .byte v8_108), (nar .byte v8_108), (nar .byte v8_108), (nar .byte v8_108), (nar .byte v8_108)] v7_104)) : ¬ (5 : Int32) < 0 ∧ (5 : Int32) < (8 : Int32) := by
  first | decide | exact ⟨by decide, by decide⟩
theorem own_hc0_286 (p0 : Int32) (p1 : Int32) (p2 : Int32) (p3 : Int32) (v4_3 : Int32) (ev4_3 : v4_3 = (p0 &&& (3 : Int32))) (v5_9 : Int32) (ev5_9 : v5_9 = (p1 &&& (2147483647 : Int32))) (v6_98 : Int32) (ev6_98 : v6_98 = (if v4_3 = (0 : Int32) then (p1 &&& (127 : Int32)) else (if v4_3 = (1 : Int32) then ((128 : Int32) + (v5_9 % (1920 : Int32))) else (if v4_3 = (2 : Int32) then (if ((2048 : Int32) + (v5_9 % (63488 : Int32))) < (55296 : Int32) then ((2048 : Int32) + (v5_9 % (63488 : Int32))) else (if (57343 : Int32) < ((2048 : Int32) + (v5_9 % (63488 : Int32))) then ((2048 : Int32) + (v5_9 % (63488 : Int32))) else (((2048 : Int32) + (v5_9 % (63488 : Int32))) ^^^ (2048 : Int32)))) else ((65536 : Int32) + (v5_9 % (1048576 : Int32))))))) (v7_104 : Int32) (ev7_104 : v7_104 = ((p2 &&& (2147483647 : Int32)) % (5 : Int32))) (v8_108 : Int32) (ev8_108 : v8_108 = (p3.toInt8.toInt32)) (v10_167 : Int32) (ev10_167 : v10_167 = (f1 v6_98 (8 : Int32) [(nar .byte v8_108), (nar .byte v8_108), (nar .byte v8_108), (nar .byte v8_108), (nar .byte v8_108), (nar .byte v8_108), (nar .byte v8_108), (nar .byte v8_108)] v7_104)) : ¬ ((f3 (8 : Int32) (g1_u1 v6_98 (8 : Int32) [(nar .byte v8_108), (nar .byte v8_108), (nar .byte v8_108), (nar .byte v8_108), (nar .byte v8_108), (nar .byte v8_108), (nar .byte v8_108), (nar .byte v8_108)] v7_104) (5 : Int32) v7_104 v10_167 v8_108) = (0 : Int32)) := by
  obtain ⟨hb8, hat, hr⟩ := own_rngs p0 p1 p2 p3 v4_3 ev4_3 v5_9 ev5_9 v6_98 ev6_98 v7_104 ev7_104 v8_108 ev8_108
  clear ev6_98 ev5_9 ev4_3 ev7_104 ev8_108
  rcases hr with ⟨hs, hr⟩ | ⟨hs, hr⟩ | ⟨hs, hr, hx⟩ | ⟨hs, hr⟩
  · have h1 : v6_98 < 128 := by simp only [Int32.lt_iff_toInt_lt, Int32.reduceToInt]; omega
    rcases hat with h | h | h | h | h
    · subst h
      rw [hb8] at ev10_167 ⊢
      rw [ev10_167, own_e0_1 v6_98 v8_108 h1, own_g0_1 v6_98 v8_108 h1]
      exact own_k3 _ _ _ _ _ (by decide) (by decide) rfl
    · subst h
      rw [hb8] at ev10_167 ⊢
      rw [ev10_167, own_e1_1 v6_98 v8_108 h1, own_g1_1 v6_98 v8_108 h1]
      exact own_k3 _ _ _ _ _ (by decide) (by decide) rfl
    · subst h
      rw [hb8] at ev10_167 ⊢
      rw [ev10_167, own_e2_1 v6_98 v8_108 h1, own_g2_1 v6_98 v8_108 h1]
      exact own_k3 _ _ _ _ _ (by decide) (by decide) rfl
    · subst h
      rw [hb8] at ev10_167 ⊢
      rw [ev10_167, own_e3_1 v6_98 v8_108 h1, own_g3_1 v6_98 v8_108 h1]
      exact own_k3 _ _ _ _ _ (by decide) (by decide) rfl
    · subst h
      rw [hb8] at ev10_167 ⊢
      rw [ev10_167, own_e4_1 v6_98 v8_108 h1, own_g4_1 v6_98 v8_108 h1]
      exact own_k3 _ _ _ _ _ (by decide) (by decide) rfl
  · have h1 : ¬ v6_98 < 128 := by simp only [Int32.lt_iff_toInt_lt, Int32.reduceToInt]; omega
    have h2 : v6_98 < 2048 := by simp only [Int32.lt_iff_toInt_lt, Int32.reduceToInt]; omega
    rcases hat with h | h | h | h | h
    · subst h
      rw [hb8] at ev10_167 ⊢
      rw [ev10_167, own_e0_2 v6_98 v8_108 h1 h2, own_g0_2 v6_98 v8_108 h1 h2]
      exact own_k3 _ _ _ _ _ (by decide) (by decide) rfl
    · subst h
      rw [hb8] at ev10_167 ⊢
      rw [ev10_167, own_e1_2 v6_98 v8_108 h1 h2, own_g1_2 v6_98 v8_108 h1 h2]
      exact own_k3 _ _ _ _ _ (by decide) (by decide) rfl
    · subst h
      rw [hb8] at ev10_167 ⊢
      rw [ev10_167, own_e2_2 v6_98 v8_108 h1 h2, own_g2_2 v6_98 v8_108 h1 h2]
      exact own_k3 _ _ _ _ _ (by decide) (by decide) rfl
    · subst h
      rw [hb8] at ev10_167 ⊢
      rw [ev10_167, own_e3_2 v6_98 v8_108 h1 h2, own_g3_2 v6_98 v8_108 h1 h2]
      exact own_k3 _ _ _ _ _ (by decide) (by decide) rfl
    · subst h
      rw [hb8] at ev10_167 ⊢
      rw [ev10_167, own_e4_2 v6_98 v8_108 h1 h2, own_g4_2 v6_98 v8_108 h1 h2]
      exact own_k2 _ _ _ _ _ (by decide) (by decide)
  · have h1 : ¬ v6_98 < 128 := by simp only [Int32.lt_iff_toInt_lt, Int32.reduceToInt]; omega
    have h2 : ¬ v6_98 < 2048 := by simp only [Int32.lt_iff_toInt_lt, Int32.reduceToInt]; omega
    have h3 : v6_98 < 65536 := by simp only [Int32.lt_iff_toInt_lt, Int32.reduceToInt]; omega
    rcases hat with h | h | h | h | h
    · subst h
      rw [hb8] at ev10_167 ⊢
      rw [ev10_167, own_e0_3 v6_98 v8_108 h1 h2 h3, own_g0_3 v6_98 v8_108 h1 h2 h3]
      exact own_k3 _ _ _ _ _ (by decide) (by decide) rfl
    · subst h
      rw [hb8] at ev10_167 ⊢
      rw [ev10_167, own_e1_3 v6_98 v8_108 h1 h2 h3, own_g1_3 v6_98 v8_108 h1 h2 h3]
      exact own_k3 _ _ _ _ _ (by decide) (by decide) rfl
    · subst h
      rw [hb8] at ev10_167 ⊢
      rw [ev10_167, own_e2_3 v6_98 v8_108 h1 h2 h3, own_g2_3 v6_98 v8_108 h1 h2 h3]
      exact own_k3 _ _ _ _ _ (by decide) (by decide) rfl
    · subst h
      rw [hb8] at ev10_167 ⊢
      rw [ev10_167, own_e3_3 v6_98 v8_108 h1 h2 h3, own_g3_3 v6_98 v8_108 h1 h2 h3]
      exact own_k2 _ _ _ _ _ (by decide) (by decide)
    · subst h
      rw [hb8] at ev10_167 ⊢
      rw [ev10_167, own_e4_3 v6_98 v8_108 h1 h2 h3, own_g4_3 v6_98 v8_108 h1 h2 h3]
      exact own_k2 _ _ _ _ _ (by decide) (by decide)
  · have h1 : ¬ v6_98 < 128 := by simp only [Int32.lt_iff_toInt_lt, Int32.reduceToInt]; omega
    have h2 : ¬ v6_98 < 2048 := by simp only [Int32.lt_iff_toInt_lt, Int32.reduceToInt]; omega
    have h3 : ¬ v6_98 < 65536 := by simp only [Int32.lt_iff_toInt_lt, Int32.reduceToInt]; omega
    rcases hat with h | h | h | h | h
    · subst h
      rw [hb8] at ev10_167 ⊢
      rw [ev10_167, own_e0_4 v6_98 v8_108 h1 h2 h3, own_g0_4 v6_98 v8_108 h1 h2 h3]
      exact own_k3 _ _ _ _ _ (by decide) (by decide) rfl
    · subst h
      rw [hb8] at ev10_167 ⊢
      rw [ev10_167, own_e1_4 v6_98 v8_108 h1 h2 h3, own_g1_4 v6_98 v8_108 h1 h2 h3]
      exact own_k3 _ _ _ _ _ (by decide) (by decide) rfl
    · subst h
      rw [hb8] at ev10_167 ⊢
      rw [ev10_167, own_e2_4 v6_98 v8_108 h1 h2 h3, own_g2_4 v6_98 v8_108 h1 h2 h3]
      exact own_k2 _ _ _ _ _ (by decide) (by decide)
    · subst h
      rw [hb8] at ev10_167 ⊢
      rw [ev10_167, own_e3_4 v6_98 v8_108 h1 h2 h3, own_g3_4 v6_98 v8_108 h1 h2 h3]
      exact own_k2 _ _ _ _ _ (by decide) (by decide)
    · subst h
      rw [hb8] at ev10_167 ⊢
      rw [ev10_167, own_e4_4 v6_98 v8_108 h1 h2 h3, own_g4_4 v6_98 v8_108 h1 h2 h3]
      exact own_k2 _ _ _ _ _ (by decide) (by decide)
theorem own_pr0_299_hB (p0 : Int32) (p1 : Int32) (p2 : Int32) (p3 : Int32) (v4_3 : Int32) (ev4_3 : v4_3 = (p0 &&& (3 : Int32))) (v5_9 : Int32) (ev5_9 : v5_9 = (p1 &&& (2147483647 : Int32))) (v6_98 : Int32) (ev6_98 : v6_98 = (if v4_3 = (0 : Int32) then (p1 &&& (127 : Int32)) else (if v4_3 = (1 : Int32) then ((128 : Int32) + (v5_9 % (1920 : Int32))) else (if v4_3 = (2 : Int32) then (if ((2048 : Int32) + (v5_9 % (63488 : Int32))) < (55296 : Int32) then ((2048 : Int32) + (v5_9 % (63488 : Int32))) else (if (57343 : Int32) < ((2048 : Int32) + (v5_9 % (63488 : Int32))) then ((2048 : Int32) + (v5_9 % (63488 : Int32))) else (((2048 : Int32) + (v5_9 % (63488 : Int32))) ^^^ (2048 : Int32)))) else ((65536 : Int32) + (v5_9 % (1048576 : Int32))))))) (v7_104 : Int32) (ev7_104 : v7_104 = ((p2 &&& (2147483647 : Int32)) % (5 : Int32))) (v8_108 : Int32) (ev8_108 : v8_108 = (p3.toInt8.toInt32)) (v10_167 : Int32) (ev10_167 : v10_167 = (f1 v6_98 (8 : Int32) [(nar .byte v8_108), (nar .byte v8_108), (nar .byte v8_108), (nar .byte v8_108), (nar .byte v8_108), (nar .byte v8_108), (nar .byte v8_108), (nar .byte v8_108)] v7_104)) : ¬ (6 : Int32) < 0 ∧ (6 : Int32) < (8 : Int32) := by
  first | decide | exact ⟨by decide, by decide⟩
theorem own_hc0_302 (p0 : Int32) (p1 : Int32) (p2 : Int32) (p3 : Int32) (v4_3 : Int32) (ev4_3 : v4_3 = (p0 &&& (3 : Int32))) (v5_9 : Int32) (ev5_9 : v5_9 = (p1 &&& (2147483647 : Int32))) (v6_98 : Int32) (ev6_98 : v6_98 = (if v4_3 = (0 : Int32) then (p1 &&& (127 : Int32)) else (if v4_3 = (1 : Int32) then ((128 : Int32) + (v5_9 % (1920 : Int32))) else (if v4_3 = (2 : Int32) then (if ((2048 : Int32) + (v5_9 % (63488 : Int32))) < (55296 : Int32) then ((2048 : Int32) + (v5_9 % (63488 : Int32))) else (if (57343 : Int32) < ((2048 : Int32) + (v5_9 % (63488 : Int32))) then ((2048 : Int32) + (v5_9 % (63488 : Int32))) else (((2048 : Int32) + (v5_9 % (63488 : Int32))) ^^^ (2048 : Int32)))) else ((65536 : Int32) + (v5_9 % (1048576 : Int32))))))) (v7_104 : Int32) (ev7_104 : v7_104 = ((p2 &&& (2147483647 : Int32)) % (5 : Int32))) (v8_108 : Int32) (ev8_108 : v8_108 = (p3.toInt8.toInt32)) (v10_167 : Int32) (ev10_167 : v10_167 = (f1 v6_98 (8 : Int32) [(nar .byte v8_108), (nar .byte v8_108), (nar .byte v8_108), (nar .byte v8_108), (nar .byte v8_108), (nar .byte v8_108), (nar .byte v8_108), (nar .byte v8_108)] v7_104)) : ¬ ((f3 (8 : Int32) (g1_u1 v6_98 (8 : Int32) [(nar .byte v8_108), (nar .byte v8_108), (nar .byte v8_108), (nar .byte v8_108), (nar .byte v8_108), (nar .byte v8_108), (nar .byte v8_108), (nar .byte v8_108)] v7_104) (6 : Int32) v7_104 v10_167 v8_108) = (0 : Int32)) := by
  obtain ⟨hb8, hat, hr⟩ := own_rngs p0 p1 p2 p3 v4_3 ev4_3 v5_9 ev5_9 v6_98 ev6_98 v7_104 ev7_104 v8_108 ev8_108
  clear ev6_98 ev5_9 ev4_3 ev7_104 ev8_108
  rcases hr with ⟨hs, hr⟩ | ⟨hs, hr⟩ | ⟨hs, hr, hx⟩ | ⟨hs, hr⟩
  · have h1 : v6_98 < 128 := by simp only [Int32.lt_iff_toInt_lt, Int32.reduceToInt]; omega
    rcases hat with h | h | h | h | h
    · subst h
      rw [hb8] at ev10_167 ⊢
      rw [ev10_167, own_e0_1 v6_98 v8_108 h1, own_g0_1 v6_98 v8_108 h1]
      exact own_k3 _ _ _ _ _ (by decide) (by decide) rfl
    · subst h
      rw [hb8] at ev10_167 ⊢
      rw [ev10_167, own_e1_1 v6_98 v8_108 h1, own_g1_1 v6_98 v8_108 h1]
      exact own_k3 _ _ _ _ _ (by decide) (by decide) rfl
    · subst h
      rw [hb8] at ev10_167 ⊢
      rw [ev10_167, own_e2_1 v6_98 v8_108 h1, own_g2_1 v6_98 v8_108 h1]
      exact own_k3 _ _ _ _ _ (by decide) (by decide) rfl
    · subst h
      rw [hb8] at ev10_167 ⊢
      rw [ev10_167, own_e3_1 v6_98 v8_108 h1, own_g3_1 v6_98 v8_108 h1]
      exact own_k3 _ _ _ _ _ (by decide) (by decide) rfl
    · subst h
      rw [hb8] at ev10_167 ⊢
      rw [ev10_167, own_e4_1 v6_98 v8_108 h1, own_g4_1 v6_98 v8_108 h1]
      exact own_k3 _ _ _ _ _ (by decide) (by decide) rfl
  · have h1 : ¬ v6_98 < 128 := by simp only [Int32.lt_iff_toInt_lt, Int32.reduceToInt]; omega
    have h2 : v6_98 < 2048 := by simp only [Int32.lt_iff_toInt_lt, Int32.reduceToInt]; omega
    rcases hat with h | h | h | h | h
    · subst h
      rw [hb8] at ev10_167 ⊢
      rw [ev10_167, own_e0_2 v6_98 v8_108 h1 h2, own_g0_2 v6_98 v8_108 h1 h2]
      exact own_k3 _ _ _ _ _ (by decide) (by decide) rfl
    · subst h
      rw [hb8] at ev10_167 ⊢
      rw [ev10_167, own_e1_2 v6_98 v8_108 h1 h2, own_g1_2 v6_98 v8_108 h1 h2]
      exact own_k3 _ _ _ _ _ (by decide) (by decide) rfl
    · subst h
      rw [hb8] at ev10_167 ⊢
      rw [ev10_167, own_e2_2 v6_98 v8_108 h1 h2, own_g2_2 v6_98 v8_108 h1 h2]
      exact own_k3 _ _ _ _ _ (by decide) (by decide) rfl
    · subst h
      rw [hb8] at ev10_167 ⊢
      rw [ev10_167, own_e3_2 v6_98 v8_108 h1 h2, own_g3_2 v6_98 v8_108 h1 h2]
      exact own_k3 _ _ _ _ _ (by decide) (by decide) rfl
    · subst h
      rw [hb8] at ev10_167 ⊢
      rw [ev10_167, own_e4_2 v6_98 v8_108 h1 h2, own_g4_2 v6_98 v8_108 h1 h2]
      exact own_k3 _ _ _ _ _ (by decide) (by decide) rfl
  · have h1 : ¬ v6_98 < 128 := by simp only [Int32.lt_iff_toInt_lt, Int32.reduceToInt]; omega
    have h2 : ¬ v6_98 < 2048 := by simp only [Int32.lt_iff_toInt_lt, Int32.reduceToInt]; omega
    have h3 : v6_98 < 65536 := by simp only [Int32.lt_iff_toInt_lt, Int32.reduceToInt]; omega
    rcases hat with h | h | h | h | h
    · subst h
      rw [hb8] at ev10_167 ⊢
      rw [ev10_167, own_e0_3 v6_98 v8_108 h1 h2 h3, own_g0_3 v6_98 v8_108 h1 h2 h3]
      exact own_k3 _ _ _ _ _ (by decide) (by decide) rfl
    · subst h
      rw [hb8] at ev10_167 ⊢
      rw [ev10_167, own_e1_3 v6_98 v8_108 h1 h2 h3, own_g1_3 v6_98 v8_108 h1 h2 h3]
      exact own_k3 _ _ _ _ _ (by decide) (by decide) rfl
    · subst h
      rw [hb8] at ev10_167 ⊢
      rw [ev10_167, own_e2_3 v6_98 v8_108 h1 h2 h3, own_g2_3 v6_98 v8_108 h1 h2 h3]
      exact own_k3 _ _ _ _ _ (by decide) (by decide) rfl
    · subst h
      rw [hb8] at ev10_167 ⊢
      rw [ev10_167, own_e3_3 v6_98 v8_108 h1 h2 h3, own_g3_3 v6_98 v8_108 h1 h2 h3]
      exact own_k3 _ _ _ _ _ (by decide) (by decide) rfl
    · subst h
      rw [hb8] at ev10_167 ⊢
      rw [ev10_167, own_e4_3 v6_98 v8_108 h1 h2 h3, own_g4_3 v6_98 v8_108 h1 h2 h3]
      exact own_k2 _ _ _ _ _ (by decide) (by decide)
  · have h1 : ¬ v6_98 < 128 := by simp only [Int32.lt_iff_toInt_lt, Int32.reduceToInt]; omega
    have h2 : ¬ v6_98 < 2048 := by simp only [Int32.lt_iff_toInt_lt, Int32.reduceToInt]; omega
    have h3 : ¬ v6_98 < 65536 := by simp only [Int32.lt_iff_toInt_lt, Int32.reduceToInt]; omega
    rcases hat with h | h | h | h | h
    · subst h
      rw [hb8] at ev10_167 ⊢
      rw [ev10_167, own_e0_4 v6_98 v8_108 h1 h2 h3, own_g0_4 v6_98 v8_108 h1 h2 h3]
      exact own_k3 _ _ _ _ _ (by decide) (by decide) rfl
    · subst h
      rw [hb8] at ev10_167 ⊢
      rw [ev10_167, own_e1_4 v6_98 v8_108 h1 h2 h3, own_g1_4 v6_98 v8_108 h1 h2 h3]
      exact own_k3 _ _ _ _ _ (by decide) (by decide) rfl
    · subst h
      rw [hb8] at ev10_167 ⊢
      rw [ev10_167, own_e2_4 v6_98 v8_108 h1 h2 h3, own_g2_4 v6_98 v8_108 h1 h2 h3]
      exact own_k3 _ _ _ _ _ (by decide) (by decide) rfl
    · subst h
      rw [hb8] at ev10_167 ⊢
      rw [ev10_167, own_e3_4 v6_98 v8_108 h1 h2 h3, own_g3_4 v6_98 v8_108 h1 h2 h3]
      exact own_k2 _ _ _ _ _ (by decide) (by decide)
    · subst h
      rw [hb8] at ev10_167 ⊢
      rw [ev10_167, own_e4_4 v6_98 v8_108 h1 h2 h3, own_g4_4 v6_98 v8_108 h1 h2 h3]
      exact own_k2 _ _ _ _ _ (by decide) (by decide)
theorem own_pr0_315_hB (p0 : Int32) (p1 : Int32) (p2 : Int32) (p3 : Int32) (v4_3 : Int32) (ev4_3 : v4_3 = (p0 &&& (3 : Int32))) (v5_9 : Int32) (ev5_9 : v5_9 = (p1 &&& (2147483647 : Int32))) (v6_98 : Int32) (ev6_98 : v6_98 = (if v4_3 = (0 : Int32) then (p1 &&& (127 : Int32)) else (if v4_3 = (1 : Int32) then ((128 : Int32) + (v5_9 % (1920 : Int32))) else (if v4_3 = (2 : Int32) then (if ((2048 : Int32) + (v5_9 % (63488 : Int32))) < (55296 : Int32) then ((2048 : Int32) + (v5_9 % (63488 : Int32))) else (if (57343 : Int32) < ((2048 : Int32) + (v5_9 % (63488 : Int32))) then ((2048 : Int32) + (v5_9 % (63488 : Int32))) else (((2048 : Int32) + (v5_9 % (63488 : Int32))) ^^^ (2048 : Int32)))) else ((65536 : Int32) + (v5_9 % (1048576 : Int32))))))) (v7_104 : Int32) (ev7_104 : v7_104 = ((p2 &&& (2147483647 : Int32)) % (5 : Int32))) (v8_108 : Int32) (ev8_108 : v8_108 = (p3.toInt8.toInt32)) (v10_167 : Int32) (ev10_167 : v10_167 = (f1 v6_98 (8 : Int32) [(nar .byte v8_108), (nar .byte v8_108), (nar .byte v8_108), (nar .byte v8_108), (nar .byte v8_108), (nar .byte v8_108), (nar .byte v8_108), (nar .byte v8_108)] v7_104)) : ¬ (7 : Int32) < 0 ∧ (7 : Int32) < (8 : Int32) := by
  first | decide | exact ⟨by decide, by decide⟩
theorem own_hc0_318 (p0 : Int32) (p1 : Int32) (p2 : Int32) (p3 : Int32) (v4_3 : Int32) (ev4_3 : v4_3 = (p0 &&& (3 : Int32))) (v5_9 : Int32) (ev5_9 : v5_9 = (p1 &&& (2147483647 : Int32))) (v6_98 : Int32) (ev6_98 : v6_98 = (if v4_3 = (0 : Int32) then (p1 &&& (127 : Int32)) else (if v4_3 = (1 : Int32) then ((128 : Int32) + (v5_9 % (1920 : Int32))) else (if v4_3 = (2 : Int32) then (if ((2048 : Int32) + (v5_9 % (63488 : Int32))) < (55296 : Int32) then ((2048 : Int32) + (v5_9 % (63488 : Int32))) else (if (57343 : Int32) < ((2048 : Int32) + (v5_9 % (63488 : Int32))) then ((2048 : Int32) + (v5_9 % (63488 : Int32))) else (((2048 : Int32) + (v5_9 % (63488 : Int32))) ^^^ (2048 : Int32)))) else ((65536 : Int32) + (v5_9 % (1048576 : Int32))))))) (v7_104 : Int32) (ev7_104 : v7_104 = ((p2 &&& (2147483647 : Int32)) % (5 : Int32))) (v8_108 : Int32) (ev8_108 : v8_108 = (p3.toInt8.toInt32)) (v10_167 : Int32) (ev10_167 : v10_167 = (f1 v6_98 (8 : Int32) [(nar .byte v8_108), (nar .byte v8_108), (nar .byte v8_108), (nar .byte v8_108), (nar .byte v8_108), (nar .byte v8_108), (nar .byte v8_108), (nar .byte v8_108)] v7_104)) : ¬ ((f3 (8 : Int32) (g1_u1 v6_98 (8 : Int32) [(nar .byte v8_108), (nar .byte v8_108), (nar .byte v8_108), (nar .byte v8_108), (nar .byte v8_108), (nar .byte v8_108), (nar .byte v8_108), (nar .byte v8_108)] v7_104) (7 : Int32) v7_104 v10_167 v8_108) = (0 : Int32)) := by
  obtain ⟨hb8, hat, hr⟩ := own_rngs p0 p1 p2 p3 v4_3 ev4_3 v5_9 ev5_9 v6_98 ev6_98 v7_104 ev7_104 v8_108 ev8_108
  clear ev6_98 ev5_9 ev4_3 ev7_104 ev8_108
  rcases hr with ⟨hs, hr⟩ | ⟨hs, hr⟩ | ⟨hs, hr, hx⟩ | ⟨hs, hr⟩
  · have h1 : v6_98 < 128 := by simp only [Int32.lt_iff_toInt_lt, Int32.reduceToInt]; omega
    rcases hat with h | h | h | h | h
    · subst h
      rw [hb8] at ev10_167 ⊢
      rw [ev10_167, own_e0_1 v6_98 v8_108 h1, own_g0_1 v6_98 v8_108 h1]
      exact own_k3 _ _ _ _ _ (by decide) (by decide) rfl
    · subst h
      rw [hb8] at ev10_167 ⊢
      rw [ev10_167, own_e1_1 v6_98 v8_108 h1, own_g1_1 v6_98 v8_108 h1]
      exact own_k3 _ _ _ _ _ (by decide) (by decide) rfl
    · subst h
      rw [hb8] at ev10_167 ⊢
      rw [ev10_167, own_e2_1 v6_98 v8_108 h1, own_g2_1 v6_98 v8_108 h1]
      exact own_k3 _ _ _ _ _ (by decide) (by decide) rfl
    · subst h
      rw [hb8] at ev10_167 ⊢
      rw [ev10_167, own_e3_1 v6_98 v8_108 h1, own_g3_1 v6_98 v8_108 h1]
      exact own_k3 _ _ _ _ _ (by decide) (by decide) rfl
    · subst h
      rw [hb8] at ev10_167 ⊢
      rw [ev10_167, own_e4_1 v6_98 v8_108 h1, own_g4_1 v6_98 v8_108 h1]
      exact own_k3 _ _ _ _ _ (by decide) (by decide) rfl
  · have h1 : ¬ v6_98 < 128 := by simp only [Int32.lt_iff_toInt_lt, Int32.reduceToInt]; omega
    have h2 : v6_98 < 2048 := by simp only [Int32.lt_iff_toInt_lt, Int32.reduceToInt]; omega
    rcases hat with h | h | h | h | h
    · subst h
      rw [hb8] at ev10_167 ⊢
      rw [ev10_167, own_e0_2 v6_98 v8_108 h1 h2, own_g0_2 v6_98 v8_108 h1 h2]
      exact own_k3 _ _ _ _ _ (by decide) (by decide) rfl
    · subst h
      rw [hb8] at ev10_167 ⊢
      rw [ev10_167, own_e1_2 v6_98 v8_108 h1 h2, own_g1_2 v6_98 v8_108 h1 h2]
      exact own_k3 _ _ _ _ _ (by decide) (by decide) rfl
    · subst h
      rw [hb8] at ev10_167 ⊢
      rw [ev10_167, own_e2_2 v6_98 v8_108 h1 h2, own_g2_2 v6_98 v8_108 h1 h2]
      exact own_k3 _ _ _ _ _ (by decide) (by decide) rfl
    · subst h
      rw [hb8] at ev10_167 ⊢
      rw [ev10_167, own_e3_2 v6_98 v8_108 h1 h2, own_g3_2 v6_98 v8_108 h1 h2]
      exact own_k3 _ _ _ _ _ (by decide) (by decide) rfl
    · subst h
      rw [hb8] at ev10_167 ⊢
      rw [ev10_167, own_e4_2 v6_98 v8_108 h1 h2, own_g4_2 v6_98 v8_108 h1 h2]
      exact own_k3 _ _ _ _ _ (by decide) (by decide) rfl
  · have h1 : ¬ v6_98 < 128 := by simp only [Int32.lt_iff_toInt_lt, Int32.reduceToInt]; omega
    have h2 : ¬ v6_98 < 2048 := by simp only [Int32.lt_iff_toInt_lt, Int32.reduceToInt]; omega
    have h3 : v6_98 < 65536 := by simp only [Int32.lt_iff_toInt_lt, Int32.reduceToInt]; omega
    rcases hat with h | h | h | h | h
    · subst h
      rw [hb8] at ev10_167 ⊢
      rw [ev10_167, own_e0_3 v6_98 v8_108 h1 h2 h3, own_g0_3 v6_98 v8_108 h1 h2 h3]
      exact own_k3 _ _ _ _ _ (by decide) (by decide) rfl
    · subst h
      rw [hb8] at ev10_167 ⊢
      rw [ev10_167, own_e1_3 v6_98 v8_108 h1 h2 h3, own_g1_3 v6_98 v8_108 h1 h2 h3]
      exact own_k3 _ _ _ _ _ (by decide) (by decide) rfl
    · subst h
      rw [hb8] at ev10_167 ⊢
      rw [ev10_167, own_e2_3 v6_98 v8_108 h1 h2 h3, own_g2_3 v6_98 v8_108 h1 h2 h3]
      exact own_k3 _ _ _ _ _ (by decide) (by decide) rfl
    · subst h
      rw [hb8] at ev10_167 ⊢
      rw [ev10_167, own_e3_3 v6_98 v8_108 h1 h2 h3, own_g3_3 v6_98 v8_108 h1 h2 h3]
      exact own_k3 _ _ _ _ _ (by decide) (by decide) rfl
    · subst h
      rw [hb8] at ev10_167 ⊢
      rw [ev10_167, own_e4_3 v6_98 v8_108 h1 h2 h3, own_g4_3 v6_98 v8_108 h1 h2 h3]
      exact own_k3 _ _ _ _ _ (by decide) (by decide) rfl
  · have h1 : ¬ v6_98 < 128 := by simp only [Int32.lt_iff_toInt_lt, Int32.reduceToInt]; omega
    have h2 : ¬ v6_98 < 2048 := by simp only [Int32.lt_iff_toInt_lt, Int32.reduceToInt]; omega
    have h3 : ¬ v6_98 < 65536 := by simp only [Int32.lt_iff_toInt_lt, Int32.reduceToInt]; omega
    rcases hat with h | h | h | h | h
    · subst h
      rw [hb8] at ev10_167 ⊢
      rw [ev10_167, own_e0_4 v6_98 v8_108 h1 h2 h3, own_g0_4 v6_98 v8_108 h1 h2 h3]
      exact own_k3 _ _ _ _ _ (by decide) (by decide) rfl
    · subst h
      rw [hb8] at ev10_167 ⊢
      rw [ev10_167, own_e1_4 v6_98 v8_108 h1 h2 h3, own_g1_4 v6_98 v8_108 h1 h2 h3]
      exact own_k3 _ _ _ _ _ (by decide) (by decide) rfl
    · subst h
      rw [hb8] at ev10_167 ⊢
      rw [ev10_167, own_e2_4 v6_98 v8_108 h1 h2 h3, own_g2_4 v6_98 v8_108 h1 h2 h3]
      exact own_k3 _ _ _ _ _ (by decide) (by decide) rfl
    · subst h
      rw [hb8] at ev10_167 ⊢
      rw [ev10_167, own_e3_4 v6_98 v8_108 h1 h2 h3, own_g3_4 v6_98 v8_108 h1 h2 h3]
      exact own_k3 _ _ _ _ _ (by decide) (by decide) rfl
    · subst h
      rw [hb8] at ev10_167 ⊢
      rw [ev10_167, own_e4_4 v6_98 v8_108 h1 h2 h3, own_g4_4 v6_98 v8_108 h1 h2 h3]
      exact own_k2 _ _ _ _ _ (by decide) (by decide)
def Q0 (Z : State) (p0 : Int32) (p1 : Int32) (p2 : Int32) (p3 : Int32) (h0 : Heap) (n0 : Nat) (v : Option Value) (h : Heap) (L : List Loc) : Prop := v = some (.int 1) ∧ Fr n0 L
set_option maxRecDepth 65536 in
set_option maxHeartbeats 40000000 in
theorem rm0 (l : Launch) (Z : State) (a0 : Array Value) (hw : ∀ d ∈ tables_1, d.before a0 Z = true) (ws : List Jvm.Cond) (p0 : Int32) (p1 : Int32) (p2 : Int32) (p3 : Int32) (h0 : Heap) (n0 : Nat) (Z0 : n0 ≤ h0.size) :
    MetFree l x (head1 (Jvm.Cond.code x code maxLocals ret :: ws) room_1) (fun a U => a = #[(.int p0), (.int p1), (.int p2), (.int p3)] ∧ Z.Warmed39 U.vm ∧ U.heap = h0) (fun _ _ _ _ _ => True) (fun _ U o U' => ∃ v L, o = .returned v ∧ Q0 Z p0 p1 p2 p3 h0 n0 v U'.heap L ∧ FrameEnd U o U' L room_1.cells room_1.slots) := by
  refine MetFree.of_bodySF (plainFor_of_name pn1) hisR ?_
  intro p e s m args below meth c s₁ Bd hml0 hP hK
  obtain ⟨rfl, hZ, hh⟩ := hP
  have hx := Bd.exec
  have hby := Bd.bytes
  have hml : c.maxLocals = 11 := hml0
  have hown : s.vm.findClass "com/example/leaderline/leaderline/Utf8EncodePinLaw" = some m.cls := findClass_of_methodNamed Bd.named
  have hnm := (name_of_methodNamed Bd.named Bd.method).1
  have X0 : Stand p l e room_1 s m #[(.int p0), (.int p1), (.int p2), (.int p3)] below meth c s₁ [] 0 0 := Stand.of_body Bd
  have e0 : s₁.heap = h0 := by rw [← hh, Bd.state]; rfl
  have N0 := Fr.nil n0
  refine Goes.out (Q := fun o U' => ∃ v L, o = .returned v ∧ Q0 Z p0 p1 p2 p3 h0 n0 v U'.heap L ∧ FrameEnd s o U' L room_1.cells room_1.slots) ?_
  refine Goes.step (S' := s₁.setTop (mkF m 0 #[.val (.int p0), .val (.int p1), .val (.int p2), .val (.int p3), .unset, .unset, .unset, .unset, .unset, .unset, .unset] [])) (fun _ k => castTop (ef0 m p0 p1 p2 p3) k) ?_
  refine Goes.step (S' := s₁.setTop (mkF m 1 #[.val (.int p0), .val (.int p1), .val (.int p2), .val (.int p3), .unset, .unset, .unset, .unset, .unset, .unset, .unset] [(.int p0)])) (fun _ k => XS.iloadN X0.here hx rfl (hb hby at_0) rfl  k) ?_
  refine Goes.step (S' := s₁.setTop (mkF m 2 #[.val (.int p0), .val (.int p1), .val (.int p2), .val (.int p3), .unset, .unset, .unset, .unset, .unset, .unset, .unset] [(.int (3 : Int32)), (.int p0)])) (fun _ k => XS.iconst X0.here hx rfl (hb hby at_1) k) ?_
  refine Goes.step (S' := s₁.setTop (mkF m 3 #[.val (.int p0), .val (.int p1), .val (.int p2), .val (.int p3), .unset, .unset, .unset, .unset, .unset, .unset, .unset] [(.int (p0 &&& (3 : Int32)))])) (fun _ k => XS.iand X0.here hx rfl (hb hby at_2) rfl k) ?_
  refine Goes.step (S' := s₁.setTop (mkF m 5 #[.val (.int p0), .val (.int p1), .val (.int p2), .val (.int p3), .val (.int (p0 &&& (3 : Int32))), .unset, .unset, .unset, .unset, .unset, .unset] [])) (fun _ k => XS.istore X0.here hx rfl (hb hby at_3) rfl (l' := #[.val (.int p0), .val (.int p1), .val (.int p2), .val (.int p3), .val (.int (p0 &&& (3 : Int32))), .unset, .unset, .unset, .unset, .unset, .unset]) rfl k) ?_
  obtain ⟨v4_3, ev4_3⟩ : ∃ z : Int32, z = (p0 &&& (3 : Int32)) := ⟨_, rfl⟩
  rw [← ev4_3]
  refine Goes.step (S' := s₁.setTop (mkF m 6 #[.val (.int p0), .val (.int p1), .val (.int p2), .val (.int p3), .val (.int v4_3), .unset, .unset, .unset, .unset, .unset, .unset] [(.int p1)])) (fun _ k => XS.iloadN X0.here hx rfl (hb hby at_5) rfl  k) ?_
  refine Goes.step (S' := s₁.setTop (mkF m 8 #[.val (.int p0), .val (.int p1), .val (.int p2), .val (.int p3), .val (.int v4_3), .unset, .unset, .unset, .unset, .unset, .unset] [(.int (2147483647 : Int32)), (.int p1)])) (fun _ k => X0.ldcInt hx hown (mvT hZ (hw _ (List.mem_of_getElem? (i := 0) rfl))) (g := (mkF m 6 #[.val (.int p0), .val (.int p1), .val (.int p2), .val (.int p3), .val (.int v4_3), .unset, .unset, .unset, .unset, .unset, .unset] [(.int p1)])) rfl (hb hby at_6) _ k) ?_
  refine Goes.step (S' := s₁.setTop (mkF m 9 #[.val (.int p0), .val (.int p1), .val (.int p2), .val (.int p3), .val (.int v4_3), .unset, .unset, .unset, .unset, .unset, .unset] [(.int (p1 &&& (2147483647 : Int32)))])) (fun _ k => XS.iand X0.here hx rfl (hb hby at_8) rfl k) ?_
  refine Goes.step (S' := s₁.setTop (mkF m 11 #[.val (.int p0), .val (.int p1), .val (.int p2), .val (.int p3), .val (.int v4_3), .val (.int (p1 &&& (2147483647 : Int32))), .unset, .unset, .unset, .unset, .unset] [])) (fun _ k => XS.istore X0.here hx rfl (hb hby at_9) rfl (l' := #[.val (.int p0), .val (.int p1), .val (.int p2), .val (.int p3), .val (.int v4_3), .val (.int (p1 &&& (2147483647 : Int32))), .unset, .unset, .unset, .unset, .unset]) rfl k) ?_
  obtain ⟨v5_9, ev5_9⟩ : ∃ z : Int32, z = (p1 &&& (2147483647 : Int32)) := ⟨_, rfl⟩
  rw [← ev5_9]
  refine Goes.step (S' := s₁.setTop (mkF m 13 #[.val (.int p0), .val (.int p1), .val (.int p2), .val (.int p3), .val (.int v4_3), .val (.int v5_9), .unset, .unset, .unset, .unset, .unset] [(.int v4_3)])) (fun _ k => XS.iload X0.here hx rfl (hb hby at_11) rfl  k) ?_
  refine Goes.step (own_ite1 (T := s₁) (c := v4_3 = (0 : Int32)) (a0 := (p1 &&& (127 : Int32))) (b0 := (if v4_3 = (1 : Int32) then ((128 : Int32) + (v5_9 % (1920 : Int32))) else (if v4_3 = (2 : Int32) then (if ((2048 : Int32) + (v5_9 % (63488 : Int32))) < (55296 : Int32) then ((2048 : Int32) + (v5_9 % (63488 : Int32))) else (if (57343 : Int32) < ((2048 : Int32) + (v5_9 % (63488 : Int32))) then ((2048 : Int32) + (v5_9 % (63488 : Int32))) else (((2048 : Int32) + (v5_9 % (63488 : Int32))) ^^^ (2048 : Int32)))) else ((65536 : Int32) + (v5_9 % (1048576 : Int32)))))) (F := fun z5_0 => (mkF m 98 #[.val (.int p0), .val (.int p1), .val (.int p2), .val (.int p3), .val (.int v4_3), .val (.int v5_9), .val (.int z5_0), .unset, .unset, .unset, .unset] [])) ?_ ?_) ?_
  · intro hc13_1 t k
    refine XS.ifNo X0.here hx rfl (hb hby at_13) rfl ((if0 _ _).trans (teq hc13_1).2) ?_
    show Steps p.tables e below (s₁.setTop (mkF m 16 #[.val (.int p0), .val (.int p1), .val (.int p2), .val (.int p3), .val (.int v4_3), .val (.int v5_9), .unset, .unset, .unset, .unset, .unset] [])) _
    refine XS.iloadN X0.here hx rfl (hb hby at_16) rfl  ?_
    show Steps p.tables e below (s₁.setTop (mkF m 17 #[.val (.int p0), .val (.int p1), .val (.int p2), .val (.int p3), .val (.int v4_3), .val (.int v5_9), .unset, .unset, .unset, .unset, .unset] [(.int p1)])) _
    refine XS.bipush X0.here hx rfl (hb hby at_17) ?_
    show Steps p.tables e below (s₁.setTop (mkF m 19 #[.val (.int p0), .val (.int p1), .val (.int p2), .val (.int p3), .val (.int v4_3), .val (.int v5_9), .unset, .unset, .unset, .unset, .unset] [(.int (127 : Int32)), (.int p1)])) _
    refine XS.iand X0.here hx rfl (hb hby at_19) rfl ?_
    show Steps p.tables e below (s₁.setTop (mkF m 20 #[.val (.int p0), .val (.int p1), .val (.int p2), .val (.int p3), .val (.int v4_3), .val (.int v5_9), .unset, .unset, .unset, .unset, .unset] [(.int (p1 &&& (127 : Int32)))])) _
    refine XS.istore X0.here hx rfl (hb hby at_20) rfl (l' := #[.val (.int p0), .val (.int p1), .val (.int p2), .val (.int p3), .val (.int v4_3), .val (.int v5_9), .val (.int (p1 &&& (127 : Int32))), .unset, .unset, .unset, .unset]) rfl ?_
    show Steps p.tables e below (s₁.setTop (mkF m 22 #[.val (.int p0), .val (.int p1), .val (.int p2), .val (.int p3), .val (.int v4_3), .val (.int v5_9), .val (.int (p1 &&& (127 : Int32))), .unset, .unset, .unset, .unset] [])) _
    refine XS.goto X0.here hx rfl (pc0 := 22) (pc' := 98) rfl (hb hby at_22) (by decide) (by decide) ?_
    show Steps p.tables e below (s₁.setTop (mkF m 98 #[.val (.int p0), .val (.int p1), .val (.int p2), .val (.int p3), .val (.int v4_3), .val (.int v5_9), .val (.int (p1 &&& (127 : Int32))), .unset, .unset, .unset, .unset] [])) _
    exact k
  · intro hc13_1 t k
    refine XS.ifYes X0.here hx rfl (pc0 := 13) (pc' := 25) rfl (hb hby at_13) rfl ((if0 _ _).trans (feq hc13_1).2) (by decide) (by decide) ?_
    show Steps p.tables e below (s₁.setTop (mkF m 25 #[.val (.int p0), .val (.int p1), .val (.int p2), .val (.int p3), .val (.int v4_3), .val (.int v5_9), .unset, .unset, .unset, .unset, .unset] [])) _
    refine XS.iload X0.here hx rfl (hb hby at_25) rfl  ?_
    show Steps p.tables e below (s₁.setTop (mkF m 27 #[.val (.int p0), .val (.int p1), .val (.int p2), .val (.int p3), .val (.int v4_3), .val (.int v5_9), .unset, .unset, .unset, .unset, .unset] [(.int v4_3)])) _
    refine XS.iconst X0.here hx rfl (hb hby at_27) ?_
    show Steps p.tables e below (s₁.setTop (mkF m 28 #[.val (.int p0), .val (.int p1), .val (.int p2), .val (.int p3), .val (.int v4_3), .val (.int v5_9), .unset, .unset, .unset, .unset, .unset] [(.int (1 : Int32)), (.int v4_3)])) _
    refine own_ite1 (T := s₁) (c := v4_3 = (1 : Int32)) (a0 := ((128 : Int32) + (v5_9 % (1920 : Int32)))) (b0 := (if v4_3 = (2 : Int32) then (if ((2048 : Int32) + (v5_9 % (63488 : Int32))) < (55296 : Int32) then ((2048 : Int32) + (v5_9 % (63488 : Int32))) else (if (57343 : Int32) < ((2048 : Int32) + (v5_9 % (63488 : Int32))) then ((2048 : Int32) + (v5_9 % (63488 : Int32))) else (((2048 : Int32) + (v5_9 % (63488 : Int32))) ^^^ (2048 : Int32)))) else ((65536 : Int32) + (v5_9 % (1048576 : Int32))))) (F := fun z5_0 => (mkF m 98 #[.val (.int p0), .val (.int p1), .val (.int p2), .val (.int p3), .val (.int v4_3), .val (.int v5_9), .val (.int z5_0), .unset, .unset, .unset, .unset] [])) ?_ ?_ _ ?_
    · intro hc28_2 t k
      refine XS.icmpNo X0.here hx rfl (hb hby at_28) rfl (teq hc28_2).2 ?_
      show Steps p.tables e below (s₁.setTop (mkF m 31 #[.val (.int p0), .val (.int p1), .val (.int p2), .val (.int p3), .val (.int v4_3), .val (.int v5_9), .unset, .unset, .unset, .unset, .unset] [])) _
      refine XS.sipush X0.here hx rfl (hb hby at_31) ?_
      show Steps p.tables e below (s₁.setTop (mkF m 34 #[.val (.int p0), .val (.int p1), .val (.int p2), .val (.int p3), .val (.int v4_3), .val (.int v5_9), .unset, .unset, .unset, .unset, .unset] [(.int (128 : Int32))])) _
      refine XS.iload X0.here hx rfl (hb hby at_34) rfl  ?_
      show Steps p.tables e below (s₁.setTop (mkF m 36 #[.val (.int p0), .val (.int p1), .val (.int p2), .val (.int p3), .val (.int v4_3), .val (.int v5_9), .unset, .unset, .unset, .unset, .unset] [(.int v5_9), (.int (128 : Int32))])) _
      refine XS.sipush X0.here hx rfl (hb hby at_36) ?_
      show Steps p.tables e below (s₁.setTop (mkF m 39 #[.val (.int p0), .val (.int p1), .val (.int p2), .val (.int p3), .val (.int v4_3), .val (.int v5_9), .unset, .unset, .unset, .unset, .unset] [(.int (1920 : Int32)), (.int v5_9), (.int (128 : Int32))])) _
      refine iremM X0 hx rfl (hb hby at_39) rfl (by decide) ?_
      show Steps p.tables e below (s₁.setTop (mkF m 40 #[.val (.int p0), .val (.int p1), .val (.int p2), .val (.int p3), .val (.int v4_3), .val (.int v5_9), .unset, .unset, .unset, .unset, .unset] [(.int (v5_9 % (1920 : Int32))), (.int (128 : Int32))])) _
      refine XS.iadd X0.here hx rfl (hb hby at_40) rfl ?_
      show Steps p.tables e below (s₁.setTop (mkF m 41 #[.val (.int p0), .val (.int p1), .val (.int p2), .val (.int p3), .val (.int v4_3), .val (.int v5_9), .unset, .unset, .unset, .unset, .unset] [(.int ((128 : Int32) + (v5_9 % (1920 : Int32))))])) _
      refine XS.istore X0.here hx rfl (hb hby at_41) rfl (l' := #[.val (.int p0), .val (.int p1), .val (.int p2), .val (.int p3), .val (.int v4_3), .val (.int v5_9), .val (.int ((128 : Int32) + (v5_9 % (1920 : Int32)))), .unset, .unset, .unset, .unset]) rfl ?_
      show Steps p.tables e below (s₁.setTop (mkF m 43 #[.val (.int p0), .val (.int p1), .val (.int p2), .val (.int p3), .val (.int v4_3), .val (.int v5_9), .val (.int ((128 : Int32) + (v5_9 % (1920 : Int32)))), .unset, .unset, .unset, .unset] [])) _
      refine XS.goto X0.here hx rfl (pc0 := 43) (pc' := 98) rfl (hb hby at_43) (by decide) (by decide) ?_
      show Steps p.tables e below (s₁.setTop (mkF m 98 #[.val (.int p0), .val (.int p1), .val (.int p2), .val (.int p3), .val (.int v4_3), .val (.int v5_9), .val (.int ((128 : Int32) + (v5_9 % (1920 : Int32)))), .unset, .unset, .unset, .unset] [])) _
      exact k
    · intro hc28_2 t k
      refine XS.icmpYes X0.here hx rfl (pc0 := 28) (pc' := 46) rfl (hb hby at_28) rfl (feq hc28_2).2 (by decide) (by decide) ?_
      show Steps p.tables e below (s₁.setTop (mkF m 46 #[.val (.int p0), .val (.int p1), .val (.int p2), .val (.int p3), .val (.int v4_3), .val (.int v5_9), .unset, .unset, .unset, .unset, .unset] [])) _
      refine XS.iload X0.here hx rfl (hb hby at_46) rfl  ?_
      show Steps p.tables e below (s₁.setTop (mkF m 48 #[.val (.int p0), .val (.int p1), .val (.int p2), .val (.int p3), .val (.int v4_3), .val (.int v5_9), .unset, .unset, .unset, .unset, .unset] [(.int v4_3)])) _
      refine XS.iconst X0.here hx rfl (hb hby at_48) ?_
      show Steps p.tables e below (s₁.setTop (mkF m 49 #[.val (.int p0), .val (.int p1), .val (.int p2), .val (.int p3), .val (.int v4_3), .val (.int v5_9), .unset, .unset, .unset, .unset, .unset] [(.int (2 : Int32)), (.int v4_3)])) _
      refine own_ite1 (T := s₁) (c := v4_3 = (2 : Int32)) (a0 := (if ((2048 : Int32) + (v5_9 % (63488 : Int32))) < (55296 : Int32) then ((2048 : Int32) + (v5_9 % (63488 : Int32))) else (if (57343 : Int32) < ((2048 : Int32) + (v5_9 % (63488 : Int32))) then ((2048 : Int32) + (v5_9 % (63488 : Int32))) else (((2048 : Int32) + (v5_9 % (63488 : Int32))) ^^^ (2048 : Int32))))) (b0 := ((65536 : Int32) + (v5_9 % (1048576 : Int32)))) (F := fun z5_0 => (mkF m 98 #[.val (.int p0), .val (.int p1), .val (.int p2), .val (.int p3), .val (.int v4_3), .val (.int v5_9), .val (.int z5_0), .unset, .unset, .unset, .unset] [])) ?_ ?_ _ ?_
      · intro hc49_3 t k
        refine XS.icmpNo X0.here hx rfl (hb hby at_49) rfl (teq hc49_3).2 ?_
        show Steps p.tables e below (s₁.setTop (mkF m 52 #[.val (.int p0), .val (.int p1), .val (.int p2), .val (.int p3), .val (.int v4_3), .val (.int v5_9), .unset, .unset, .unset, .unset, .unset] [])) _
        refine XS.sipush X0.here hx rfl (hb hby at_52) ?_
        show Steps p.tables e below (s₁.setTop (mkF m 55 #[.val (.int p0), .val (.int p1), .val (.int p2), .val (.int p3), .val (.int v4_3), .val (.int v5_9), .unset, .unset, .unset, .unset, .unset] [(.int (2048 : Int32))])) _
        refine XS.iload X0.here hx rfl (hb hby at_55) rfl  ?_
        show Steps p.tables e below (s₁.setTop (mkF m 57 #[.val (.int p0), .val (.int p1), .val (.int p2), .val (.int p3), .val (.int v4_3), .val (.int v5_9), .unset, .unset, .unset, .unset, .unset] [(.int v5_9), (.int (2048 : Int32))])) _
        refine X0.ldcInt hx hown (mvT hZ (hw _ (List.mem_of_getElem? (i := 16) rfl))) (g := (mkF m 57 #[.val (.int p0), .val (.int p1), .val (.int p2), .val (.int p3), .val (.int v4_3), .val (.int v5_9), .unset, .unset, .unset, .unset, .unset] [(.int v5_9), (.int (2048 : Int32))])) rfl (hb hby at_57) _ ?_
        show Steps p.tables e below (s₁.setTop (mkF m 59 #[.val (.int p0), .val (.int p1), .val (.int p2), .val (.int p3), .val (.int v4_3), .val (.int v5_9), .unset, .unset, .unset, .unset, .unset] [(.int (63488 : Int32)), (.int v5_9), (.int (2048 : Int32))])) _
        refine iremM X0 hx rfl (hb hby at_59) rfl (by decide) ?_
        show Steps p.tables e below (s₁.setTop (mkF m 60 #[.val (.int p0), .val (.int p1), .val (.int p2), .val (.int p3), .val (.int v4_3), .val (.int v5_9), .unset, .unset, .unset, .unset, .unset] [(.int (v5_9 % (63488 : Int32))), (.int (2048 : Int32))])) _
        refine XS.iadd X0.here hx rfl (hb hby at_60) rfl ?_
        show Steps p.tables e below (s₁.setTop (mkF m 61 #[.val (.int p0), .val (.int p1), .val (.int p2), .val (.int p3), .val (.int v4_3), .val (.int v5_9), .unset, .unset, .unset, .unset, .unset] [(.int ((2048 : Int32) + (v5_9 % (63488 : Int32))))])) _
        refine XS.istore X0.here hx rfl (hb hby at_61) rfl (l' := #[.val (.int p0), .val (.int p1), .val (.int p2), .val (.int p3), .val (.int v4_3), .val (.int v5_9), .val (.int ((2048 : Int32) + (v5_9 % (63488 : Int32)))), .unset, .unset, .unset, .unset]) rfl ?_
        show Steps p.tables e below (s₁.setTop (mkF m 63 #[.val (.int p0), .val (.int p1), .val (.int p2), .val (.int p3), .val (.int v4_3), .val (.int v5_9), .val (.int ((2048 : Int32) + (v5_9 % (63488 : Int32)))), .unset, .unset, .unset, .unset] [])) _
        refine XS.iload X0.here hx rfl (hb hby at_63) rfl  ?_
        show Steps p.tables e below (s₁.setTop (mkF m 65 #[.val (.int p0), .val (.int p1), .val (.int p2), .val (.int p3), .val (.int v4_3), .val (.int v5_9), .val (.int ((2048 : Int32) + (v5_9 % (63488 : Int32)))), .unset, .unset, .unset, .unset] [(.int ((2048 : Int32) + (v5_9 % (63488 : Int32))))])) _
        refine X0.ldcInt hx hown (mvT hZ (hw _ (List.mem_of_getElem? (i := 17) rfl))) (g := (mkF m 65 #[.val (.int p0), .val (.int p1), .val (.int p2), .val (.int p3), .val (.int v4_3), .val (.int v5_9), .val (.int ((2048 : Int32) + (v5_9 % (63488 : Int32)))), .unset, .unset, .unset, .unset] [(.int ((2048 : Int32) + (v5_9 % (63488 : Int32))))])) rfl (hb hby at_65) _ ?_
        show Steps p.tables e below (s₁.setTop (mkF m 67 #[.val (.int p0), .val (.int p1), .val (.int p2), .val (.int p3), .val (.int v4_3), .val (.int v5_9), .val (.int ((2048 : Int32) + (v5_9 % (63488 : Int32)))), .unset, .unset, .unset, .unset] [(.int (55296 : Int32)), (.int ((2048 : Int32) + (v5_9 % (63488 : Int32))))])) _
        refine own_ite1 (T := s₁) (c := ((2048 : Int32) + (v5_9 % (63488 : Int32))) < (55296 : Int32)) (a0 := ((2048 : Int32) + (v5_9 % (63488 : Int32)))) (b0 := (if (57343 : Int32) < ((2048 : Int32) + (v5_9 % (63488 : Int32))) then ((2048 : Int32) + (v5_9 % (63488 : Int32))) else (((2048 : Int32) + (v5_9 % (63488 : Int32))) ^^^ (2048 : Int32)))) (F := fun z5_0 => (mkF m 98 #[.val (.int p0), .val (.int p1), .val (.int p2), .val (.int p3), .val (.int v4_3), .val (.int v5_9), .val (.int z5_0), .unset, .unset, .unset, .unset] [])) ?_ ?_ _ ?_
        · intro hc67_4 t k
          refine XS.icmpYes X0.here hx rfl (pc0 := 67) (pc' := 98) rfl (hb hby at_67) rfl (tlt hc67_4).1 (by decide) (by decide) ?_
          show Steps p.tables e below (s₁.setTop (mkF m 98 #[.val (.int p0), .val (.int p1), .val (.int p2), .val (.int p3), .val (.int v4_3), .val (.int v5_9), .val (.int ((2048 : Int32) + (v5_9 % (63488 : Int32)))), .unset, .unset, .unset, .unset] [])) _
          exact k
        · intro hc67_4 t k
          refine XS.icmpNo X0.here hx rfl (hb hby at_67) rfl (flt hc67_4).1 ?_
          show Steps p.tables e below (s₁.setTop (mkF m 70 #[.val (.int p0), .val (.int p1), .val (.int p2), .val (.int p3), .val (.int v4_3), .val (.int v5_9), .val (.int ((2048 : Int32) + (v5_9 % (63488 : Int32)))), .unset, .unset, .unset, .unset] [])) _
          refine XS.iload X0.here hx rfl (hb hby at_70) rfl  ?_
          show Steps p.tables e below (s₁.setTop (mkF m 72 #[.val (.int p0), .val (.int p1), .val (.int p2), .val (.int p3), .val (.int v4_3), .val (.int v5_9), .val (.int ((2048 : Int32) + (v5_9 % (63488 : Int32)))), .unset, .unset, .unset, .unset] [(.int ((2048 : Int32) + (v5_9 % (63488 : Int32))))])) _
          refine X0.ldcInt hx hown (mvT hZ (hw _ (List.mem_of_getElem? (i := 18) rfl))) (g := (mkF m 72 #[.val (.int p0), .val (.int p1), .val (.int p2), .val (.int p3), .val (.int v4_3), .val (.int v5_9), .val (.int ((2048 : Int32) + (v5_9 % (63488 : Int32)))), .unset, .unset, .unset, .unset] [(.int ((2048 : Int32) + (v5_9 % (63488 : Int32))))])) rfl (hb hby at_72) _ ?_
          show Steps p.tables e below (s₁.setTop (mkF m 74 #[.val (.int p0), .val (.int p1), .val (.int p2), .val (.int p3), .val (.int v4_3), .val (.int v5_9), .val (.int ((2048 : Int32) + (v5_9 % (63488 : Int32)))), .unset, .unset, .unset, .unset] [(.int (57343 : Int32)), (.int ((2048 : Int32) + (v5_9 % (63488 : Int32))))])) _
          refine own_ite1 (T := s₁) (c := (57343 : Int32) < ((2048 : Int32) + (v5_9 % (63488 : Int32)))) (a0 := ((2048 : Int32) + (v5_9 % (63488 : Int32)))) (b0 := (((2048 : Int32) + (v5_9 % (63488 : Int32))) ^^^ (2048 : Int32))) (F := fun z5_0 => (mkF m 98 #[.val (.int p0), .val (.int p1), .val (.int p2), .val (.int p3), .val (.int v4_3), .val (.int v5_9), .val (.int z5_0), .unset, .unset, .unset, .unset] [])) ?_ ?_ _ ?_
          · intro hc74_5 t k
            refine XS.icmpYes X0.here hx rfl (pc0 := 74) (pc' := 98) rfl (hb hby at_74) rfl (tlt hc74_5).2.2.1 (by decide) (by decide) ?_
            show Steps p.tables e below (s₁.setTop (mkF m 98 #[.val (.int p0), .val (.int p1), .val (.int p2), .val (.int p3), .val (.int v4_3), .val (.int v5_9), .val (.int ((2048 : Int32) + (v5_9 % (63488 : Int32)))), .unset, .unset, .unset, .unset] [])) _
            exact k
          · intro hc74_5 t k
            refine XS.icmpNo X0.here hx rfl (hb hby at_74) rfl (flt hc74_5).2.2.1 ?_
            show Steps p.tables e below (s₁.setTop (mkF m 77 #[.val (.int p0), .val (.int p1), .val (.int p2), .val (.int p3), .val (.int v4_3), .val (.int v5_9), .val (.int ((2048 : Int32) + (v5_9 % (63488 : Int32)))), .unset, .unset, .unset, .unset] [])) _
            refine XS.iload X0.here hx rfl (hb hby at_77) rfl  ?_
            show Steps p.tables e below (s₁.setTop (mkF m 79 #[.val (.int p0), .val (.int p1), .val (.int p2), .val (.int p3), .val (.int v4_3), .val (.int v5_9), .val (.int ((2048 : Int32) + (v5_9 % (63488 : Int32)))), .unset, .unset, .unset, .unset] [(.int ((2048 : Int32) + (v5_9 % (63488 : Int32))))])) _
            refine XS.sipush X0.here hx rfl (hb hby at_79) ?_
            show Steps p.tables e below (s₁.setTop (mkF m 82 #[.val (.int p0), .val (.int p1), .val (.int p2), .val (.int p3), .val (.int v4_3), .val (.int v5_9), .val (.int ((2048 : Int32) + (v5_9 % (63488 : Int32)))), .unset, .unset, .unset, .unset] [(.int (2048 : Int32)), (.int ((2048 : Int32) + (v5_9 % (63488 : Int32))))])) _
            refine XS.ixor X0.here hx rfl (hb hby at_82) rfl ?_
            show Steps p.tables e below (s₁.setTop (mkF m 83 #[.val (.int p0), .val (.int p1), .val (.int p2), .val (.int p3), .val (.int v4_3), .val (.int v5_9), .val (.int ((2048 : Int32) + (v5_9 % (63488 : Int32)))), .unset, .unset, .unset, .unset] [(.int (((2048 : Int32) + (v5_9 % (63488 : Int32))) ^^^ (2048 : Int32)))])) _
            refine XS.istore X0.here hx rfl (hb hby at_83) rfl (l' := #[.val (.int p0), .val (.int p1), .val (.int p2), .val (.int p3), .val (.int v4_3), .val (.int v5_9), .val (.int (((2048 : Int32) + (v5_9 % (63488 : Int32))) ^^^ (2048 : Int32))), .unset, .unset, .unset, .unset]) rfl ?_
            show Steps p.tables e below (s₁.setTop (mkF m 85 #[.val (.int p0), .val (.int p1), .val (.int p2), .val (.int p3), .val (.int v4_3), .val (.int v5_9), .val (.int (((2048 : Int32) + (v5_9 % (63488 : Int32))) ^^^ (2048 : Int32))), .unset, .unset, .unset, .unset] [])) _
            refine XS.goto X0.here hx rfl (pc0 := 85) (pc' := 98) rfl (hb hby at_85) (by decide) (by decide) ?_
            show Steps p.tables e below (s₁.setTop (mkF m 98 #[.val (.int p0), .val (.int p1), .val (.int p2), .val (.int p3), .val (.int v4_3), .val (.int v5_9), .val (.int (((2048 : Int32) + (v5_9 % (63488 : Int32))) ^^^ (2048 : Int32))), .unset, .unset, .unset, .unset] [])) _
            exact k
          show Steps p.tables e below (s₁.setTop (mkF m 98 #[.val (.int p0), .val (.int p1), .val (.int p2), .val (.int p3), .val (.int v4_3), .val (.int v5_9), .val (.int (if (57343 : Int32) < ((2048 : Int32) + (v5_9 % (63488 : Int32))) then ((2048 : Int32) + (v5_9 % (63488 : Int32))) else (((2048 : Int32) + (v5_9 % (63488 : Int32))) ^^^ (2048 : Int32)))), .unset, .unset, .unset, .unset] [])) _
          exact k
        show Steps p.tables e below (s₁.setTop (mkF m 98 #[.val (.int p0), .val (.int p1), .val (.int p2), .val (.int p3), .val (.int v4_3), .val (.int v5_9), .val (.int (if ((2048 : Int32) + (v5_9 % (63488 : Int32))) < (55296 : Int32) then ((2048 : Int32) + (v5_9 % (63488 : Int32))) else (if (57343 : Int32) < ((2048 : Int32) + (v5_9 % (63488 : Int32))) then ((2048 : Int32) + (v5_9 % (63488 : Int32))) else (((2048 : Int32) + (v5_9 % (63488 : Int32))) ^^^ (2048 : Int32))))), .unset, .unset, .unset, .unset] [])) _
        exact k
      · intro hc49_3 t k
        refine XS.icmpYes X0.here hx rfl (pc0 := 49) (pc' := 88) rfl (hb hby at_49) rfl (feq hc49_3).2 (by decide) (by decide) ?_
        show Steps p.tables e below (s₁.setTop (mkF m 88 #[.val (.int p0), .val (.int p1), .val (.int p2), .val (.int p3), .val (.int v4_3), .val (.int v5_9), .unset, .unset, .unset, .unset, .unset] [])) _
        refine X0.ldcInt hx hown (mvT hZ (hw _ (List.mem_of_getElem? (i := 13) rfl))) (g := (mkF m 88 #[.val (.int p0), .val (.int p1), .val (.int p2), .val (.int p3), .val (.int v4_3), .val (.int v5_9), .unset, .unset, .unset, .unset, .unset] [])) rfl (hb hby at_88) _ ?_
        show Steps p.tables e below (s₁.setTop (mkF m 90 #[.val (.int p0), .val (.int p1), .val (.int p2), .val (.int p3), .val (.int v4_3), .val (.int v5_9), .unset, .unset, .unset, .unset, .unset] [(.int (65536 : Int32))])) _
        refine XS.iload X0.here hx rfl (hb hby at_90) rfl  ?_
        show Steps p.tables e below (s₁.setTop (mkF m 92 #[.val (.int p0), .val (.int p1), .val (.int p2), .val (.int p3), .val (.int v4_3), .val (.int v5_9), .unset, .unset, .unset, .unset, .unset] [(.int v5_9), (.int (65536 : Int32))])) _
        refine X0.ldcInt hx hown (mvT hZ (hw _ (List.mem_of_getElem? (i := 14) rfl))) (g := (mkF m 92 #[.val (.int p0), .val (.int p1), .val (.int p2), .val (.int p3), .val (.int v4_3), .val (.int v5_9), .unset, .unset, .unset, .unset, .unset] [(.int v5_9), (.int (65536 : Int32))])) rfl (hb hby at_92) _ ?_
        show Steps p.tables e below (s₁.setTop (mkF m 94 #[.val (.int p0), .val (.int p1), .val (.int p2), .val (.int p3), .val (.int v4_3), .val (.int v5_9), .unset, .unset, .unset, .unset, .unset] [(.int (1048576 : Int32)), (.int v5_9), (.int (65536 : Int32))])) _
        refine iremM X0 hx rfl (hb hby at_94) rfl (by decide) ?_
        show Steps p.tables e below (s₁.setTop (mkF m 95 #[.val (.int p0), .val (.int p1), .val (.int p2), .val (.int p3), .val (.int v4_3), .val (.int v5_9), .unset, .unset, .unset, .unset, .unset] [(.int (v5_9 % (1048576 : Int32))), (.int (65536 : Int32))])) _
        refine XS.iadd X0.here hx rfl (hb hby at_95) rfl ?_
        show Steps p.tables e below (s₁.setTop (mkF m 96 #[.val (.int p0), .val (.int p1), .val (.int p2), .val (.int p3), .val (.int v4_3), .val (.int v5_9), .unset, .unset, .unset, .unset, .unset] [(.int ((65536 : Int32) + (v5_9 % (1048576 : Int32))))])) _
        refine XS.istore X0.here hx rfl (hb hby at_96) rfl (l' := #[.val (.int p0), .val (.int p1), .val (.int p2), .val (.int p3), .val (.int v4_3), .val (.int v5_9), .val (.int ((65536 : Int32) + (v5_9 % (1048576 : Int32)))), .unset, .unset, .unset, .unset]) rfl ?_
        show Steps p.tables e below (s₁.setTop (mkF m 98 #[.val (.int p0), .val (.int p1), .val (.int p2), .val (.int p3), .val (.int v4_3), .val (.int v5_9), .val (.int ((65536 : Int32) + (v5_9 % (1048576 : Int32)))), .unset, .unset, .unset, .unset] [])) _
        exact k
      show Steps p.tables e below (s₁.setTop (mkF m 98 #[.val (.int p0), .val (.int p1), .val (.int p2), .val (.int p3), .val (.int v4_3), .val (.int v5_9), .val (.int (if v4_3 = (2 : Int32) then (if ((2048 : Int32) + (v5_9 % (63488 : Int32))) < (55296 : Int32) then ((2048 : Int32) + (v5_9 % (63488 : Int32))) else (if (57343 : Int32) < ((2048 : Int32) + (v5_9 % (63488 : Int32))) then ((2048 : Int32) + (v5_9 % (63488 : Int32))) else (((2048 : Int32) + (v5_9 % (63488 : Int32))) ^^^ (2048 : Int32)))) else ((65536 : Int32) + (v5_9 % (1048576 : Int32))))), .unset, .unset, .unset, .unset] [])) _
      exact k
    show Steps p.tables e below (s₁.setTop (mkF m 98 #[.val (.int p0), .val (.int p1), .val (.int p2), .val (.int p3), .val (.int v4_3), .val (.int v5_9), .val (.int (if v4_3 = (1 : Int32) then ((128 : Int32) + (v5_9 % (1920 : Int32))) else (if v4_3 = (2 : Int32) then (if ((2048 : Int32) + (v5_9 % (63488 : Int32))) < (55296 : Int32) then ((2048 : Int32) + (v5_9 % (63488 : Int32))) else (if (57343 : Int32) < ((2048 : Int32) + (v5_9 % (63488 : Int32))) then ((2048 : Int32) + (v5_9 % (63488 : Int32))) else (((2048 : Int32) + (v5_9 % (63488 : Int32))) ^^^ (2048 : Int32)))) else ((65536 : Int32) + (v5_9 % (1048576 : Int32)))))), .unset, .unset, .unset, .unset] [])) _
    exact k
  show Goes p.tables e below _ (s₁.setTop (mkF m 98 #[.val (.int p0), .val (.int p1), .val (.int p2), .val (.int p3), .val (.int v4_3), .val (.int v5_9), .val (.int (if v4_3 = (0 : Int32) then (p1 &&& (127 : Int32)) else (if v4_3 = (1 : Int32) then ((128 : Int32) + (v5_9 % (1920 : Int32))) else (if v4_3 = (2 : Int32) then (if ((2048 : Int32) + (v5_9 % (63488 : Int32))) < (55296 : Int32) then ((2048 : Int32) + (v5_9 % (63488 : Int32))) else (if (57343 : Int32) < ((2048 : Int32) + (v5_9 % (63488 : Int32))) then ((2048 : Int32) + (v5_9 % (63488 : Int32))) else (((2048 : Int32) + (v5_9 % (63488 : Int32))) ^^^ (2048 : Int32)))) else ((65536 : Int32) + (v5_9 % (1048576 : Int32))))))), .unset, .unset, .unset, .unset] []))
  obtain ⟨v6_98, ev6_98⟩ : ∃ z : Int32, z = (if v4_3 = (0 : Int32) then (p1 &&& (127 : Int32)) else (if v4_3 = (1 : Int32) then ((128 : Int32) + (v5_9 % (1920 : Int32))) else (if v4_3 = (2 : Int32) then (if ((2048 : Int32) + (v5_9 % (63488 : Int32))) < (55296 : Int32) then ((2048 : Int32) + (v5_9 % (63488 : Int32))) else (if (57343 : Int32) < ((2048 : Int32) + (v5_9 % (63488 : Int32))) then ((2048 : Int32) + (v5_9 % (63488 : Int32))) else (((2048 : Int32) + (v5_9 % (63488 : Int32))) ^^^ (2048 : Int32)))) else ((65536 : Int32) + (v5_9 % (1048576 : Int32)))))) := ⟨_, rfl⟩
  rw [← ev6_98]
  refine Goes.step (S' := s₁.setTop (mkF m 99 #[.val (.int p0), .val (.int p1), .val (.int p2), .val (.int p3), .val (.int v4_3), .val (.int v5_9), .val (.int v6_98), .unset, .unset, .unset, .unset] [(.int p2)])) (fun _ k => XS.iloadN X0.here hx rfl (hb hby at_98) rfl  k) ?_
  refine Goes.step (S' := s₁.setTop (mkF m 101 #[.val (.int p0), .val (.int p1), .val (.int p2), .val (.int p3), .val (.int v4_3), .val (.int v5_9), .val (.int v6_98), .unset, .unset, .unset, .unset] [(.int (2147483647 : Int32)), (.int p2)])) (fun _ k => X0.ldcInt hx hown (mvT hZ (hw _ (List.mem_of_getElem? (i := 0) rfl))) (g := (mkF m 99 #[.val (.int p0), .val (.int p1), .val (.int p2), .val (.int p3), .val (.int v4_3), .val (.int v5_9), .val (.int v6_98), .unset, .unset, .unset, .unset] [(.int p2)])) rfl (hb hby at_99) _ k) ?_
  refine Goes.step (S' := s₁.setTop (mkF m 102 #[.val (.int p0), .val (.int p1), .val (.int p2), .val (.int p3), .val (.int v4_3), .val (.int v5_9), .val (.int v6_98), .unset, .unset, .unset, .unset] [(.int (p2 &&& (2147483647 : Int32)))])) (fun _ k => XS.iand X0.here hx rfl (hb hby at_101) rfl k) ?_
  refine Goes.step (S' := s₁.setTop (mkF m 103 #[.val (.int p0), .val (.int p1), .val (.int p2), .val (.int p3), .val (.int v4_3), .val (.int v5_9), .val (.int v6_98), .unset, .unset, .unset, .unset] [(.int (5 : Int32)), (.int (p2 &&& (2147483647 : Int32)))])) (fun _ k => XS.iconst X0.here hx rfl (hb hby at_102) k) ?_
  refine Goes.step (S' := s₁.setTop (mkF m 104 #[.val (.int p0), .val (.int p1), .val (.int p2), .val (.int p3), .val (.int v4_3), .val (.int v5_9), .val (.int v6_98), .unset, .unset, .unset, .unset] [(.int ((p2 &&& (2147483647 : Int32)) % (5 : Int32)))])) (fun _ k => iremM X0 hx rfl (hb hby at_103) rfl (by decide) k) ?_
  refine Goes.step (S' := s₁.setTop (mkF m 106 #[.val (.int p0), .val (.int p1), .val (.int p2), .val (.int p3), .val (.int v4_3), .val (.int v5_9), .val (.int v6_98), .val (.int ((p2 &&& (2147483647 : Int32)) % (5 : Int32))), .unset, .unset, .unset] [])) (fun _ k => XS.istore X0.here hx rfl (hb hby at_104) rfl (l' := #[.val (.int p0), .val (.int p1), .val (.int p2), .val (.int p3), .val (.int v4_3), .val (.int v5_9), .val (.int v6_98), .val (.int ((p2 &&& (2147483647 : Int32)) % (5 : Int32))), .unset, .unset, .unset]) rfl k) ?_
  obtain ⟨v7_104, ev7_104⟩ : ∃ z : Int32, z = ((p2 &&& (2147483647 : Int32)) % (5 : Int32)) := ⟨_, rfl⟩
  rw [← ev7_104]
  refine Goes.step (S' := s₁.setTop (mkF m 107 #[.val (.int p0), .val (.int p1), .val (.int p2), .val (.int p3), .val (.int v4_3), .val (.int v5_9), .val (.int v6_98), .val (.int v7_104), .unset, .unset, .unset] [(.int p3)])) (fun _ k => XS.iloadN X0.here hx rfl (hb hby at_106) rfl  k) ?_
  refine Goes.step (S' := s₁.setTop (mkF m 108 #[.val (.int p0), .val (.int p1), .val (.int p2), .val (.int p3), .val (.int v4_3), .val (.int v5_9), .val (.int v6_98), .val (.int v7_104), .unset, .unset, .unset] [(.int (p3.toInt8.toInt32))])) (fun _ k => XS.i2b X0.here hx rfl (hb hby at_107) rfl k) ?_
  refine Goes.step (S' := s₁.setTop (mkF m 110 #[.val (.int p0), .val (.int p1), .val (.int p2), .val (.int p3), .val (.int v4_3), .val (.int v5_9), .val (.int v6_98), .val (.int v7_104), .val (.int (p3.toInt8.toInt32)), .unset, .unset] [])) (fun _ k => XS.istore X0.here hx rfl (hb hby at_108) rfl (l' := #[.val (.int p0), .val (.int p1), .val (.int p2), .val (.int p3), .val (.int v4_3), .val (.int v5_9), .val (.int v6_98), .val (.int v7_104), .val (.int (p3.toInt8.toInt32)), .unset, .unset]) rfl k) ?_
  obtain ⟨v8_108, ev8_108⟩ : ∃ z : Int32, z = (p3.toInt8.toInt32) := ⟨_, rfl⟩
  rw [← ev8_108]
  refine Goes.step (S' := s₁.setTop (mkF m 112 #[.val (.int p0), .val (.int p1), .val (.int p2), .val (.int p3), .val (.int v4_3), .val (.int v5_9), .val (.int v6_98), .val (.int v7_104), .val (.int v8_108), .unset, .unset] [(.int (8 : Int32))])) (fun _ k => XS.bipush X0.here hx rfl (hb hby at_110) k) ?_
  obtain ⟨T1, h1, k1, X1, e1, E1, A1, st1⟩ := newP X0 hx hZ (hw _ (List.mem_of_getElem? (i := 1) rfl)) e0 (g := (mkF m 112 #[.val (.int p0), .val (.int p1), .val (.int p2), .val (.int p3), .val (.int v4_3), .val (.int v5_9), .val (.int v6_98), .val (.int v7_104), .val (.int v8_108), .unset, .unset] [(.int (8 : Int32))])) rfl (hb hby at_112) rfl (by decide) (cap := 8) (by decide) (by decide) (by decide) (by decide)
  obtain ⟨b1, g1⟩ : ∃ z, z = h0.size := ⟨_, rfl⟩
  rw [← g1] at A1 st1
  have g2 : n0 ≤ b1 := Nat.le_trans Z0 (Nat.le_of_eq g1.symm)
  have Z3 : n0 ≤ h1.size := Nat.le_trans Z0 E1.1
  have V4 : AI Z h1 b1 k1 .byte (8 : Int32) [(0 : Int32), (0 : Int32), (0 : Int32), (0 : Int32), (0 : Int32), (0 : Int32), (0 : Int32), (0 : Int32)] := own_new A1 (by decide) rfl
  refine Goes.step (S' := T1.setTop (mkF m 114 #[.val (.int p0), .val (.int p1), .val (.int p2), .val (.int p3), .val (.int v4_3), .val (.int v5_9), .val (.int v6_98), .val (.int v7_104), .val (.int v8_108), .unset, .unset] [(.ref b1)])) st1 ?_
  refine Goes.step (S' := T1.setTop (mkF m 115 #[.val (.int p0), .val (.int p1), .val (.int p2), .val (.int p3), .val (.int v4_3), .val (.int v5_9), .val (.int v6_98), .val (.int v7_104), .val (.int v8_108), .unset, .unset] [(.ref b1), (.ref b1)])) (fun _ k => XS.dup X1.here hx rfl (hb hby at_114) rfl rfl k) ?_
  refine Goes.step (S' := T1.setTop (mkF m 116 #[.val (.int p0), .val (.int p1), .val (.int p2), .val (.int p3), .val (.int v4_3), .val (.int v5_9), .val (.int v6_98), .val (.int v7_104), .val (.int v8_108), .unset, .unset] [(.int (0 : Int32)), (.ref b1), (.ref b1)])) (fun _ k => XS.iconst X1.here hx rfl (hb hby at_115) k) ?_
  refine Goes.step (S' := T1.setTop (mkF m 118 #[.val (.int p0), .val (.int p1), .val (.int p2), .val (.int p3), .val (.int v4_3), .val (.int v5_9), .val (.int v6_98), .val (.int v7_104), .val (.int v8_108), .unset, .unset] [(.int v8_108), (.int (0 : Int32)), (.ref b1), (.ref b1)])) (fun _ k => XS.iload X1.here hx rfl (hb hby at_116) rfl  k) ?_
  obtain ⟨T5, h5, X5, e5, W5, V_5, st5⟩ := own_bastore X1 hx hZ e1 V4 ⟨by decide, by decide⟩ (g := (mkF m 118 #[.val (.int p0), .val (.int p1), .val (.int p2), .val (.int p3), .val (.int v4_3), .val (.int v5_9), .val (.int v6_98), .val (.int v7_104), .val (.int v8_108), .unset, .unset] [(.int v8_108), (.int (0 : Int32)), (.ref b1), (.ref b1)])) rfl rfl (hb hby at_118)
  replace V_5 : AI Z h5 b1 k1 .byte (8 : Int32) [(nar .byte v8_108), (0 : Int32), (0 : Int32), (0 : Int32), (0 : Int32), (0 : Int32), (0 : Int32), (0 : Int32)] := V_5
  have N6 := Fr.snoc X5 N0 g2
  have Z7 : n0 ≤ h5.size := Nat.le_trans Z3 (Nat.le_of_eq W5.size.symm)
  refine Goes.step (S' := T5.setTop (mkF m 119 #[.val (.int p0), .val (.int p1), .val (.int p2), .val (.int p3), .val (.int v4_3), .val (.int v5_9), .val (.int v6_98), .val (.int v7_104), .val (.int v8_108), .unset, .unset] [(.ref b1)])) st5 ?_
  refine Goes.step (S' := T5.setTop (mkF m 120 #[.val (.int p0), .val (.int p1), .val (.int p2), .val (.int p3), .val (.int v4_3), .val (.int v5_9), .val (.int v6_98), .val (.int v7_104), .val (.int v8_108), .unset, .unset] [(.ref b1), (.ref b1)])) (fun _ k => XS.dup X5.here hx rfl (hb hby at_119) rfl rfl k) ?_
  refine Goes.step (S' := T5.setTop (mkF m 121 #[.val (.int p0), .val (.int p1), .val (.int p2), .val (.int p3), .val (.int v4_3), .val (.int v5_9), .val (.int v6_98), .val (.int v7_104), .val (.int v8_108), .unset, .unset] [(.int (1 : Int32)), (.ref b1), (.ref b1)])) (fun _ k => XS.iconst X5.here hx rfl (hb hby at_120) k) ?_
  refine Goes.step (S' := T5.setTop (mkF m 123 #[.val (.int p0), .val (.int p1), .val (.int p2), .val (.int p3), .val (.int v4_3), .val (.int v5_9), .val (.int v6_98), .val (.int v7_104), .val (.int v8_108), .unset, .unset] [(.int v8_108), (.int (1 : Int32)), (.ref b1), (.ref b1)])) (fun _ k => XS.iload X5.here hx rfl (hb hby at_121) rfl  k) ?_
  obtain ⟨T8, h8, X8, e8, W8, V_8, st8⟩ := own_bastore X5 hx hZ e5 V_5 ⟨by decide, by decide⟩ (g := (mkF m 123 #[.val (.int p0), .val (.int p1), .val (.int p2), .val (.int p3), .val (.int v4_3), .val (.int v5_9), .val (.int v6_98), .val (.int v7_104), .val (.int v8_108), .unset, .unset] [(.int v8_108), (.int (1 : Int32)), (.ref b1), (.ref b1)])) rfl rfl (hb hby at_123)
  replace V_8 : AI Z h8 b1 k1 .byte (8 : Int32) [(nar .byte v8_108), (nar .byte v8_108), (0 : Int32), (0 : Int32), (0 : Int32), (0 : Int32), (0 : Int32), (0 : Int32)] := V_8
  have N9 := Fr.snoc X8 N6 g2
  have Z10 : n0 ≤ h8.size := Nat.le_trans Z7 (Nat.le_of_eq W8.size.symm)
  refine Goes.step (S' := T8.setTop (mkF m 124 #[.val (.int p0), .val (.int p1), .val (.int p2), .val (.int p3), .val (.int v4_3), .val (.int v5_9), .val (.int v6_98), .val (.int v7_104), .val (.int v8_108), .unset, .unset] [(.ref b1)])) st8 ?_
  refine Goes.step (S' := T8.setTop (mkF m 125 #[.val (.int p0), .val (.int p1), .val (.int p2), .val (.int p3), .val (.int v4_3), .val (.int v5_9), .val (.int v6_98), .val (.int v7_104), .val (.int v8_108), .unset, .unset] [(.ref b1), (.ref b1)])) (fun _ k => XS.dup X8.here hx rfl (hb hby at_124) rfl rfl k) ?_
  refine Goes.step (S' := T8.setTop (mkF m 126 #[.val (.int p0), .val (.int p1), .val (.int p2), .val (.int p3), .val (.int v4_3), .val (.int v5_9), .val (.int v6_98), .val (.int v7_104), .val (.int v8_108), .unset, .unset] [(.int (2 : Int32)), (.ref b1), (.ref b1)])) (fun _ k => XS.iconst X8.here hx rfl (hb hby at_125) k) ?_
  refine Goes.step (S' := T8.setTop (mkF m 128 #[.val (.int p0), .val (.int p1), .val (.int p2), .val (.int p3), .val (.int v4_3), .val (.int v5_9), .val (.int v6_98), .val (.int v7_104), .val (.int v8_108), .unset, .unset] [(.int v8_108), (.int (2 : Int32)), (.ref b1), (.ref b1)])) (fun _ k => XS.iload X8.here hx rfl (hb hby at_126) rfl  k) ?_
  obtain ⟨T11, h11, X11, e11, W11, V_11, st11⟩ := own_bastore X8 hx hZ e8 V_8 ⟨by decide, by decide⟩ (g := (mkF m 128 #[.val (.int p0), .val (.int p1), .val (.int p2), .val (.int p3), .val (.int v4_3), .val (.int v5_9), .val (.int v6_98), .val (.int v7_104), .val (.int v8_108), .unset, .unset] [(.int v8_108), (.int (2 : Int32)), (.ref b1), (.ref b1)])) rfl rfl (hb hby at_128)
  replace V_11 : AI Z h11 b1 k1 .byte (8 : Int32) [(nar .byte v8_108), (nar .byte v8_108), (nar .byte v8_108), (0 : Int32), (0 : Int32), (0 : Int32), (0 : Int32), (0 : Int32)] := V_11
  have N12 := Fr.snoc X11 N9 g2
  have Z13 : n0 ≤ h11.size := Nat.le_trans Z10 (Nat.le_of_eq W11.size.symm)
  refine Goes.step (S' := T11.setTop (mkF m 129 #[.val (.int p0), .val (.int p1), .val (.int p2), .val (.int p3), .val (.int v4_3), .val (.int v5_9), .val (.int v6_98), .val (.int v7_104), .val (.int v8_108), .unset, .unset] [(.ref b1)])) st11 ?_
  refine Goes.step (S' := T11.setTop (mkF m 130 #[.val (.int p0), .val (.int p1), .val (.int p2), .val (.int p3), .val (.int v4_3), .val (.int v5_9), .val (.int v6_98), .val (.int v7_104), .val (.int v8_108), .unset, .unset] [(.ref b1), (.ref b1)])) (fun _ k => XS.dup X11.here hx rfl (hb hby at_129) rfl rfl k) ?_
  refine Goes.step (S' := T11.setTop (mkF m 131 #[.val (.int p0), .val (.int p1), .val (.int p2), .val (.int p3), .val (.int v4_3), .val (.int v5_9), .val (.int v6_98), .val (.int v7_104), .val (.int v8_108), .unset, .unset] [(.int (3 : Int32)), (.ref b1), (.ref b1)])) (fun _ k => XS.iconst X11.here hx rfl (hb hby at_130) k) ?_
  refine Goes.step (S' := T11.setTop (mkF m 133 #[.val (.int p0), .val (.int p1), .val (.int p2), .val (.int p3), .val (.int v4_3), .val (.int v5_9), .val (.int v6_98), .val (.int v7_104), .val (.int v8_108), .unset, .unset] [(.int v8_108), (.int (3 : Int32)), (.ref b1), (.ref b1)])) (fun _ k => XS.iload X11.here hx rfl (hb hby at_131) rfl  k) ?_
  obtain ⟨T14, h14, X14, e14, W14, V_14, st14⟩ := own_bastore X11 hx hZ e11 V_11 ⟨by decide, by decide⟩ (g := (mkF m 133 #[.val (.int p0), .val (.int p1), .val (.int p2), .val (.int p3), .val (.int v4_3), .val (.int v5_9), .val (.int v6_98), .val (.int v7_104), .val (.int v8_108), .unset, .unset] [(.int v8_108), (.int (3 : Int32)), (.ref b1), (.ref b1)])) rfl rfl (hb hby at_133)
  replace V_14 : AI Z h14 b1 k1 .byte (8 : Int32) [(nar .byte v8_108), (nar .byte v8_108), (nar .byte v8_108), (nar .byte v8_108), (0 : Int32), (0 : Int32), (0 : Int32), (0 : Int32)] := V_14
  have N15 := Fr.snoc X14 N12 g2
  have Z16 : n0 ≤ h14.size := Nat.le_trans Z13 (Nat.le_of_eq W14.size.symm)
  refine Goes.step (S' := T14.setTop (mkF m 134 #[.val (.int p0), .val (.int p1), .val (.int p2), .val (.int p3), .val (.int v4_3), .val (.int v5_9), .val (.int v6_98), .val (.int v7_104), .val (.int v8_108), .unset, .unset] [(.ref b1)])) st14 ?_
  refine Goes.step (S' := T14.setTop (mkF m 135 #[.val (.int p0), .val (.int p1), .val (.int p2), .val (.int p3), .val (.int v4_3), .val (.int v5_9), .val (.int v6_98), .val (.int v7_104), .val (.int v8_108), .unset, .unset] [(.ref b1), (.ref b1)])) (fun _ k => XS.dup X14.here hx rfl (hb hby at_134) rfl rfl k) ?_
  refine Goes.step (S' := T14.setTop (mkF m 136 #[.val (.int p0), .val (.int p1), .val (.int p2), .val (.int p3), .val (.int v4_3), .val (.int v5_9), .val (.int v6_98), .val (.int v7_104), .val (.int v8_108), .unset, .unset] [(.int (4 : Int32)), (.ref b1), (.ref b1)])) (fun _ k => XS.iconst X14.here hx rfl (hb hby at_135) k) ?_
  refine Goes.step (S' := T14.setTop (mkF m 138 #[.val (.int p0), .val (.int p1), .val (.int p2), .val (.int p3), .val (.int v4_3), .val (.int v5_9), .val (.int v6_98), .val (.int v7_104), .val (.int v8_108), .unset, .unset] [(.int v8_108), (.int (4 : Int32)), (.ref b1), (.ref b1)])) (fun _ k => XS.iload X14.here hx rfl (hb hby at_136) rfl  k) ?_
  obtain ⟨T17, h17, X17, e17, W17, V_17, st17⟩ := own_bastore X14 hx hZ e14 V_14 ⟨by decide, by decide⟩ (g := (mkF m 138 #[.val (.int p0), .val (.int p1), .val (.int p2), .val (.int p3), .val (.int v4_3), .val (.int v5_9), .val (.int v6_98), .val (.int v7_104), .val (.int v8_108), .unset, .unset] [(.int v8_108), (.int (4 : Int32)), (.ref b1), (.ref b1)])) rfl rfl (hb hby at_138)
  replace V_17 : AI Z h17 b1 k1 .byte (8 : Int32) [(nar .byte v8_108), (nar .byte v8_108), (nar .byte v8_108), (nar .byte v8_108), (nar .byte v8_108), (0 : Int32), (0 : Int32), (0 : Int32)] := V_17
  have N18 := Fr.snoc X17 N15 g2
  have Z19 : n0 ≤ h17.size := Nat.le_trans Z16 (Nat.le_of_eq W17.size.symm)
  refine Goes.step (S' := T17.setTop (mkF m 139 #[.val (.int p0), .val (.int p1), .val (.int p2), .val (.int p3), .val (.int v4_3), .val (.int v5_9), .val (.int v6_98), .val (.int v7_104), .val (.int v8_108), .unset, .unset] [(.ref b1)])) st17 ?_
  refine Goes.step (S' := T17.setTop (mkF m 140 #[.val (.int p0), .val (.int p1), .val (.int p2), .val (.int p3), .val (.int v4_3), .val (.int v5_9), .val (.int v6_98), .val (.int v7_104), .val (.int v8_108), .unset, .unset] [(.ref b1), (.ref b1)])) (fun _ k => XS.dup X17.here hx rfl (hb hby at_139) rfl rfl k) ?_
  refine Goes.step (S' := T17.setTop (mkF m 141 #[.val (.int p0), .val (.int p1), .val (.int p2), .val (.int p3), .val (.int v4_3), .val (.int v5_9), .val (.int v6_98), .val (.int v7_104), .val (.int v8_108), .unset, .unset] [(.int (5 : Int32)), (.ref b1), (.ref b1)])) (fun _ k => XS.iconst X17.here hx rfl (hb hby at_140) k) ?_
  refine Goes.step (S' := T17.setTop (mkF m 143 #[.val (.int p0), .val (.int p1), .val (.int p2), .val (.int p3), .val (.int v4_3), .val (.int v5_9), .val (.int v6_98), .val (.int v7_104), .val (.int v8_108), .unset, .unset] [(.int v8_108), (.int (5 : Int32)), (.ref b1), (.ref b1)])) (fun _ k => XS.iload X17.here hx rfl (hb hby at_141) rfl  k) ?_
  obtain ⟨T20, h20, X20, e20, W20, V_20, st20⟩ := own_bastore X17 hx hZ e17 V_17 ⟨by decide, by decide⟩ (g := (mkF m 143 #[.val (.int p0), .val (.int p1), .val (.int p2), .val (.int p3), .val (.int v4_3), .val (.int v5_9), .val (.int v6_98), .val (.int v7_104), .val (.int v8_108), .unset, .unset] [(.int v8_108), (.int (5 : Int32)), (.ref b1), (.ref b1)])) rfl rfl (hb hby at_143)
  replace V_20 : AI Z h20 b1 k1 .byte (8 : Int32) [(nar .byte v8_108), (nar .byte v8_108), (nar .byte v8_108), (nar .byte v8_108), (nar .byte v8_108), (nar .byte v8_108), (0 : Int32), (0 : Int32)] := V_20
  have N21 := Fr.snoc X20 N18 g2
  have Z22 : n0 ≤ h20.size := Nat.le_trans Z19 (Nat.le_of_eq W20.size.symm)
  refine Goes.step (S' := T20.setTop (mkF m 144 #[.val (.int p0), .val (.int p1), .val (.int p2), .val (.int p3), .val (.int v4_3), .val (.int v5_9), .val (.int v6_98), .val (.int v7_104), .val (.int v8_108), .unset, .unset] [(.ref b1)])) st20 ?_
  refine Goes.step (S' := T20.setTop (mkF m 145 #[.val (.int p0), .val (.int p1), .val (.int p2), .val (.int p3), .val (.int v4_3), .val (.int v5_9), .val (.int v6_98), .val (.int v7_104), .val (.int v8_108), .unset, .unset] [(.ref b1), (.ref b1)])) (fun _ k => XS.dup X20.here hx rfl (hb hby at_144) rfl rfl k) ?_
  refine Goes.step (S' := T20.setTop (mkF m 147 #[.val (.int p0), .val (.int p1), .val (.int p2), .val (.int p3), .val (.int v4_3), .val (.int v5_9), .val (.int v6_98), .val (.int v7_104), .val (.int v8_108), .unset, .unset] [(.int (6 : Int32)), (.ref b1), (.ref b1)])) (fun _ k => XS.bipush X20.here hx rfl (hb hby at_145) k) ?_
  refine Goes.step (S' := T20.setTop (mkF m 149 #[.val (.int p0), .val (.int p1), .val (.int p2), .val (.int p3), .val (.int v4_3), .val (.int v5_9), .val (.int v6_98), .val (.int v7_104), .val (.int v8_108), .unset, .unset] [(.int v8_108), (.int (6 : Int32)), (.ref b1), (.ref b1)])) (fun _ k => XS.iload X20.here hx rfl (hb hby at_147) rfl  k) ?_
  obtain ⟨T23, h23, X23, e23, W23, V_23, st23⟩ := own_bastore X20 hx hZ e20 V_20 ⟨by decide, by decide⟩ (g := (mkF m 149 #[.val (.int p0), .val (.int p1), .val (.int p2), .val (.int p3), .val (.int v4_3), .val (.int v5_9), .val (.int v6_98), .val (.int v7_104), .val (.int v8_108), .unset, .unset] [(.int v8_108), (.int (6 : Int32)), (.ref b1), (.ref b1)])) rfl rfl (hb hby at_149)
  replace V_23 : AI Z h23 b1 k1 .byte (8 : Int32) [(nar .byte v8_108), (nar .byte v8_108), (nar .byte v8_108), (nar .byte v8_108), (nar .byte v8_108), (nar .byte v8_108), (nar .byte v8_108), (0 : Int32)] := V_23
  have N24 := Fr.snoc X23 N21 g2
  have Z25 : n0 ≤ h23.size := Nat.le_trans Z22 (Nat.le_of_eq W23.size.symm)
  refine Goes.step (S' := T23.setTop (mkF m 150 #[.val (.int p0), .val (.int p1), .val (.int p2), .val (.int p3), .val (.int v4_3), .val (.int v5_9), .val (.int v6_98), .val (.int v7_104), .val (.int v8_108), .unset, .unset] [(.ref b1)])) st23 ?_
  refine Goes.step (S' := T23.setTop (mkF m 151 #[.val (.int p0), .val (.int p1), .val (.int p2), .val (.int p3), .val (.int v4_3), .val (.int v5_9), .val (.int v6_98), .val (.int v7_104), .val (.int v8_108), .unset, .unset] [(.ref b1), (.ref b1)])) (fun _ k => XS.dup X23.here hx rfl (hb hby at_150) rfl rfl k) ?_
  refine Goes.step (S' := T23.setTop (mkF m 153 #[.val (.int p0), .val (.int p1), .val (.int p2), .val (.int p3), .val (.int v4_3), .val (.int v5_9), .val (.int v6_98), .val (.int v7_104), .val (.int v8_108), .unset, .unset] [(.int (7 : Int32)), (.ref b1), (.ref b1)])) (fun _ k => XS.bipush X23.here hx rfl (hb hby at_151) k) ?_
  refine Goes.step (S' := T23.setTop (mkF m 155 #[.val (.int p0), .val (.int p1), .val (.int p2), .val (.int p3), .val (.int v4_3), .val (.int v5_9), .val (.int v6_98), .val (.int v7_104), .val (.int v8_108), .unset, .unset] [(.int v8_108), (.int (7 : Int32)), (.ref b1), (.ref b1)])) (fun _ k => XS.iload X23.here hx rfl (hb hby at_153) rfl  k) ?_
  obtain ⟨T26, h26, X26, e26, W26, V_26, st26⟩ := own_bastore X23 hx hZ e23 V_23 ⟨by decide, by decide⟩ (g := (mkF m 155 #[.val (.int p0), .val (.int p1), .val (.int p2), .val (.int p3), .val (.int v4_3), .val (.int v5_9), .val (.int v6_98), .val (.int v7_104), .val (.int v8_108), .unset, .unset] [(.int v8_108), (.int (7 : Int32)), (.ref b1), (.ref b1)])) rfl rfl (hb hby at_155)
  replace V_26 : AI Z h26 b1 k1 .byte (8 : Int32) [(nar .byte v8_108), (nar .byte v8_108), (nar .byte v8_108), (nar .byte v8_108), (nar .byte v8_108), (nar .byte v8_108), (nar .byte v8_108), (nar .byte v8_108)] := V_26
  have N27 := Fr.snoc X26 N24 g2
  have Z28 : n0 ≤ h26.size := Nat.le_trans Z25 (Nat.le_of_eq W26.size.symm)
  refine Goes.step (S' := T26.setTop (mkF m 156 #[.val (.int p0), .val (.int p1), .val (.int p2), .val (.int p3), .val (.int v4_3), .val (.int v5_9), .val (.int v6_98), .val (.int v7_104), .val (.int v8_108), .unset, .unset] [(.ref b1)])) st26 ?_
  refine Goes.step (S' := T26.setTop (mkF m 158 #[.val (.int p0), .val (.int p1), .val (.int p2), .val (.int p3), .val (.int v4_3), .val (.int v5_9), .val (.int v6_98), .val (.int v7_104), .val (.int v8_108), .val (.ref b1), .unset] [])) (fun _ k => XS.astore X26.here hx rfl (hb hby at_156) rfl rfl (l' := #[.val (.int p0), .val (.int p1), .val (.int p2), .val (.int p3), .val (.int v4_3), .val (.int v5_9), .val (.int v6_98), .val (.int v7_104), .val (.int v8_108), .val (.ref b1), .unset]) rfl k) ?_
  refine Goes.step (S' := T26.setTop (mkF m 160 #[.val (.int p0), .val (.int p1), .val (.int p2), .val (.int p3), .val (.int v4_3), .val (.int v5_9), .val (.int v6_98), .val (.int v7_104), .val (.int v8_108), .val (.ref b1), .unset] [(.int v6_98)])) (fun _ k => XS.iload X26.here hx rfl (hb hby at_158) rfl  k) ?_
  refine Goes.step (S' := T26.setTop (mkF m 162 #[.val (.int p0), .val (.int p1), .val (.int p2), .val (.int p3), .val (.int v4_3), .val (.int v5_9), .val (.int v6_98), .val (.int v7_104), .val (.int v8_108), .val (.ref b1), .unset] [(.ref b1), (.int v6_98)])) (fun _ k => XS.aload X26.here hx rfl (hb hby at_160) rfl rfl k) ?_
  refine Goes.step (S' := T26.setTop (mkF m 164 #[.val (.int p0), .val (.int p1), .val (.int p2), .val (.int p3), .val (.int v4_3), .val (.int v5_9), .val (.int v6_98), .val (.int v7_104), .val (.int v8_108), .val (.ref b1), .unset] [(.int v7_104), (.ref b1), (.int v6_98)])) (fun _ k => XS.iload X26.here hx rfl (hb hby at_162) rfl  k) ?_
  obtain ⟨_, _, ⟨T29, L29, k29, n29⟩, -, X29, ⟨Lc29, hQ29, l29, y29, z29⟩, st29⟩ := Jvm.LawKit.callS X26 hx (y := (⟨"com/example/leaderline/leaderline/Utf8", "encode", "(I[BI)I"⟩ : MethodName)) hown (mvT hZ (hw _ (List.mem_of_getElem? (i := 2) rfl))) (mvT hZ (hw _ (List.mem_of_getElem? (i := 3) rfl))) (mvT hZ (hw _ (List.mem_of_getElem? (i := 4) rfl))) (mvT hZ (hw _ (List.mem_of_getElem? (i := 5) rfl))) (by decide) (backOf (W := 0) (rm1 l Z a0 hw [] v6_98 b1 v7_104 k1 ((8 : Int32)) ([(nar .byte v8_108), (nar .byte v8_108), (nar .byte v8_108), (nar .byte v8_108), (nar .byte v8_108), (nar .byte v8_108), (nar .byte v8_108), (nar .byte v8_108)]) h26 n0 Z28 V_26 g2 (own_pr0_164_hB p0 p1 p2 p3 v4_3 ev4_3 v5_9 ev5_9 v6_98 ev6_98 v7_104 ev7_104 v8_108 ev8_108) (own_pr0_164_hb4 p0 p1 p2 p3 v4_3 ev4_3 v5_9 ev5_9 v6_98 ev6_98 v7_104 ev7_104 v8_108 ev8_108) (own_pr0_164_hB5 p0 p1 p2 p3 v4_3 ev4_3 v5_9 ev5_9 v6_98 ev6_98 v7_104 ev7_104 v8_108 ev8_108)) hZ (hw _ (List.mem_of_getElem? (i := 5) rfl)) (hw _ (List.mem_of_getElem? (i := 4) rfl)) (by decide) (by decide)) (g := (mkF m 164 #[.val (.int p0), .val (.int p1), .val (.int p2), .val (.int p3), .val (.int v4_3), .val (.int v5_9), .val (.int v6_98), .val (.int v7_104), .val (.int v8_108), .val (.ref b1), .unset] [(.int v7_104), (.ref b1), (.int v6_98)])) rfl (by rw [hml]; rfl) (argsL := [(.int v6_98), (.ref b1), (.int v7_104)]) (rest := []) (lenOf pd0 rfl) rfl (by show 2 * 0 + _ ≤ _; exact Nat.le_of_eq rfl) (hb hby at_164) (fun _ _ => ⟨rfl, e26, (by decide : 1 + 0 ≤ _), (by decide : 8 + 0 ≤ _)⟩)
  dsimp only [Pt.U, Pt.locs, Pt.cells, Pt.slots] at X29 l29 y29 z29 st29 hQ29
  subst l29 y29 z29
  obtain ⟨rfl, N29q, K29q, V30⟩ := hQ29
  have N31 := Fr.app N27 N29q
  have Z32 : n0 ≤ T29.heap.size := Nat.le_trans Z28 K29q.1
  replace V30 : AI Z T29.heap b1 k1 .byte (8 : Int32) (g1_u1 v6_98 (8 : Int32) [(nar .byte v8_108), (nar .byte v8_108), (nar .byte v8_108), (nar .byte v8_108), (nar .byte v8_108), (nar .byte v8_108), (nar .byte v8_108), (nar .byte v8_108)] v7_104) := V30
  refine Goes.step (S' := T29.setTop (mkF m 167 #[.val (.int p0), .val (.int p1), .val (.int p2), .val (.int p3), .val (.int v4_3), .val (.int v5_9), .val (.int v6_98), .val (.int v7_104), .val (.int v8_108), .val (.ref b1), .unset] [(.int (f1 v6_98 (8 : Int32) [(nar .byte v8_108), (nar .byte v8_108), (nar .byte v8_108), (nar .byte v8_108), (nar .byte v8_108), (nar .byte v8_108), (nar .byte v8_108), (nar .byte v8_108)] v7_104))])) st29 ?_
  refine Goes.step (S' := T29.setTop (mkF m 169 #[.val (.int p0), .val (.int p1), .val (.int p2), .val (.int p3), .val (.int v4_3), .val (.int v5_9), .val (.int v6_98), .val (.int v7_104), .val (.int v8_108), .val (.ref b1), .val (.int (f1 v6_98 (8 : Int32) [(nar .byte v8_108), (nar .byte v8_108), (nar .byte v8_108), (nar .byte v8_108), (nar .byte v8_108), (nar .byte v8_108), (nar .byte v8_108), (nar .byte v8_108)] v7_104))] [])) (fun _ k => XS.istore X29.here hx rfl (hb hby at_167) rfl (l' := #[.val (.int p0), .val (.int p1), .val (.int p2), .val (.int p3), .val (.int v4_3), .val (.int v5_9), .val (.int v6_98), .val (.int v7_104), .val (.int v8_108), .val (.ref b1), .val (.int (f1 v6_98 (8 : Int32) [(nar .byte v8_108), (nar .byte v8_108), (nar .byte v8_108), (nar .byte v8_108), (nar .byte v8_108), (nar .byte v8_108), (nar .byte v8_108), (nar .byte v8_108)] v7_104))]) rfl k) ?_
  obtain ⟨v10_167, ev10_167⟩ : ∃ z : Int32, z = (f1 v6_98 (8 : Int32) [(nar .byte v8_108), (nar .byte v8_108), (nar .byte v8_108), (nar .byte v8_108), (nar .byte v8_108), (nar .byte v8_108), (nar .byte v8_108), (nar .byte v8_108)] v7_104) := ⟨_, rfl⟩
  rw [← ev10_167]
  refine Goes.step (S' := T29.setTop (mkF m 171 #[.val (.int p0), .val (.int p1), .val (.int p2), .val (.int p3), .val (.int v4_3), .val (.int v5_9), .val (.int v6_98), .val (.int v7_104), .val (.int v8_108), .val (.ref b1), .val (.int v10_167)] [(.int v10_167)])) (fun _ k => XS.iload X29.here hx rfl (hb hby at_169) rfl  k) ?_
  refine Goes.step (S' := T29.setTop (mkF m 173 #[.val (.int p0), .val (.int p1), .val (.int p2), .val (.int p3), .val (.int v4_3), .val (.int v5_9), .val (.int v6_98), .val (.int v7_104), .val (.int v8_108), .val (.ref b1), .val (.int v10_167)] [(.int v7_104), (.int v10_167)])) (fun _ k => XS.iload X29.here hx rfl (hb hby at_171) rfl  k) ?_
  refine Goes.step (S' := T29.setTop (mkF m 175 #[.val (.int p0), .val (.int p1), .val (.int p2), .val (.int p3), .val (.int v4_3), .val (.int v5_9), .val (.int v6_98), .val (.int v7_104), .val (.int v8_108), .val (.ref b1), .val (.int v10_167)] [(.int v4_3), (.int v7_104), (.int v10_167)])) (fun _ k => XS.iload X29.here hx rfl (hb hby at_173) rfl  k) ?_
  refine Goes.step (S' := T29.setTop (mkF m 176 #[.val (.int p0), .val (.int p1), .val (.int p2), .val (.int p3), .val (.int v4_3), .val (.int v5_9), .val (.int v6_98), .val (.int v7_104), .val (.int v8_108), .val (.ref b1), .val (.int v10_167)] [(.int (v7_104 + v4_3)), (.int v10_167)])) (fun _ k => XS.iadd X29.here hx rfl (hb hby at_175) rfl k) ?_
  refine Goes.step (S' := T29.setTop (mkF m 177 #[.val (.int p0), .val (.int p1), .val (.int p2), .val (.int p3), .val (.int v4_3), .val (.int v5_9), .val (.int v6_98), .val (.int v7_104), .val (.int v8_108), .val (.ref b1), .val (.int v10_167)] [(.int (1 : Int32)), (.int (v7_104 + v4_3)), (.int v10_167)])) (fun _ k => XS.iconst X29.here hx rfl (hb hby at_176) k) ?_
  refine Goes.step (S' := T29.setTop (mkF m 178 #[.val (.int p0), .val (.int p1), .val (.int p2), .val (.int p3), .val (.int v4_3), .val (.int v5_9), .val (.int v6_98), .val (.int v7_104), .val (.int v8_108), .val (.ref b1), .val (.int v10_167)] [(.int ((v7_104 + v4_3) + (1 : Int32))), (.int v10_167)])) (fun _ k => XS.iadd X29.here hx rfl (hb hby at_177) rfl k) ?_
  refine Goes.step (S' := T29.setTop (mkF m 183 #[.val (.int p0), .val (.int p1), .val (.int p2), .val (.int p3), .val (.int v4_3), .val (.int v5_9), .val (.int v6_98), .val (.int v7_104), .val (.int v8_108), .val (.ref b1), .val (.int v10_167)] [])) (fun _ k => XS.icmpYes X29.here hx rfl (pc0 := 178) (pc' := 183) rfl (hb hby at_178) rfl (teq (own_hc0_178 p0 p1 p2 p3 v4_3 ev4_3 v5_9 ev5_9 v6_98 ev6_98 v7_104 ev7_104 v8_108 ev8_108 v10_167 ev10_167)).1 (by decide) (by decide) k) ?_
  refine Goes.step (S' := T29.setTop (mkF m 185 #[.val (.int p0), .val (.int p1), .val (.int p2), .val (.int p3), .val (.int v4_3), .val (.int v5_9), .val (.int v6_98), .val (.int v7_104), .val (.int v8_108), .val (.ref b1), .val (.int v10_167)] [(.ref b1)])) (fun _ k => XS.aload X29.here hx rfl (hb hby at_183) rfl rfl k) ?_
  refine Goes.step (S' := T29.setTop (mkF m 187 #[.val (.int p0), .val (.int p1), .val (.int p2), .val (.int p3), .val (.int v4_3), .val (.int v5_9), .val (.int v6_98), .val (.int v7_104), .val (.int v8_108), .val (.ref b1), .val (.int v10_167)] [(.int v7_104), (.ref b1)])) (fun _ k => XS.iload X29.here hx rfl (hb hby at_185) rfl  k) ?_
  refine Goes.step (S' := T29.setTop (mkF m 189 #[.val (.int p0), .val (.int p1), .val (.int p2), .val (.int p3), .val (.int v4_3), .val (.int v5_9), .val (.int v6_98), .val (.int v7_104), .val (.int v8_108), .val (.ref b1), .val (.int v10_167)] [(.int v10_167), (.int v7_104), (.ref b1)])) (fun _ k => XS.iload X29.here hx rfl (hb hby at_187) rfl  k) ?_
  obtain ⟨_, _, ⟨T33, L33, k33, n33⟩, -, X33, ⟨Lc33, hQ33, l33, y33, z33⟩, st33⟩ := Jvm.LawKit.callS X29 hx (y := (⟨"com/example/leaderline/leaderline/Utf8", "decode", "([BII)I"⟩ : MethodName)) hown (mvT hZ (hw _ (List.mem_of_getElem? (i := 6) rfl))) (mvT hZ (hw _ (List.mem_of_getElem? (i := 7) rfl))) (mvT hZ (hw _ (List.mem_of_getElem? (i := 4) rfl))) (mvT hZ (hw _ (List.mem_of_getElem? (i := 8) rfl))) (by decide) (backOf (W := 0) (rm2 l Z a0 hw [] b1 v7_104 v10_167 k1 ((8 : Int32)) ((g1_u1 v6_98 (8 : Int32) [(nar .byte v8_108), (nar .byte v8_108), (nar .byte v8_108), (nar .byte v8_108), (nar .byte v8_108), (nar .byte v8_108), (nar .byte v8_108), (nar .byte v8_108)] v7_104)) T29.heap n0 Z32 V30 (own_pr0_189_hB p0 p1 p2 p3 v4_3 ev4_3 v5_9 ev5_9 v6_98 ev6_98 v7_104 ev7_104 v8_108 ev8_108 v10_167 ev10_167) (own_pr0_189_hb2 p0 p1 p2 p3 v4_3 ev4_3 v5_9 ev5_9 v6_98 ev6_98 v7_104 ev7_104 v8_108 ev8_108 v10_167 ev10_167) (own_pr0_189_hb3 p0 p1 p2 p3 v4_3 ev4_3 v5_9 ev5_9 v6_98 ev6_98 v7_104 ev7_104 v8_108 ev8_108 v10_167 ev10_167) (own_pr0_189_hb4 p0 p1 p2 p3 v4_3 ev4_3 v5_9 ev5_9 v6_98 ev6_98 v7_104 ev7_104 v8_108 ev8_108 v10_167 ev10_167)) hZ (hw _ (List.mem_of_getElem? (i := 8) rfl)) (hw _ (List.mem_of_getElem? (i := 4) rfl)) (by decide) (by decide)) (g := (mkF m 189 #[.val (.int p0), .val (.int p1), .val (.int p2), .val (.int p3), .val (.int v4_3), .val (.int v5_9), .val (.int v6_98), .val (.int v7_104), .val (.int v8_108), .val (.ref b1), .val (.int v10_167)] [(.int v10_167), (.int v7_104), (.ref b1)])) rfl (by rw [hml]; rfl) (argsL := [(.ref b1), (.int v7_104), (.int v10_167)]) (rest := []) (lenOf pd1 rfl) rfl (by show 2 * 0 + _ ≤ _; exact Nat.le_of_eq rfl) (hb hby at_189) (fun _ _ => ⟨rfl, rfl, (by decide : 1 + 0 ≤ _), (by decide : 8 + 0 ≤ _)⟩)
  dsimp only [Pt.U, Pt.locs, Pt.cells, Pt.slots] at X33 l33 y33 z33 st33 hQ33
  subst l33 y33 z33
  obtain ⟨rfl, N33q, e33⟩ := hQ33
  have N34 := Fr.app N31 N33q
  refine Goes.step (S' := T33.setTop (mkF m 192 #[.val (.int p0), .val (.int p1), .val (.int p2), .val (.int p3), .val (.int v4_3), .val (.int v5_9), .val (.int v6_98), .val (.int v7_104), .val (.int v8_108), .val (.ref b1), .val (.int v10_167)] [(.int (f2 (8 : Int32) (g1_u1 v6_98 (8 : Int32) [(nar .byte v8_108), (nar .byte v8_108), (nar .byte v8_108), (nar .byte v8_108), (nar .byte v8_108), (nar .byte v8_108), (nar .byte v8_108), (nar .byte v8_108)] v7_104) v7_104 v10_167))])) st33 ?_
  refine Goes.step (S' := T33.setTop (mkF m 194 #[.val (.int p0), .val (.int p1), .val (.int p2), .val (.int p3), .val (.int v4_3), .val (.int v5_9), .val (.int v6_98), .val (.int v7_104), .val (.int v8_108), .val (.ref b1), .val (.int v10_167)] [(.int v6_98), (.int (f2 (8 : Int32) (g1_u1 v6_98 (8 : Int32) [(nar .byte v8_108), (nar .byte v8_108), (nar .byte v8_108), (nar .byte v8_108), (nar .byte v8_108), (nar .byte v8_108), (nar .byte v8_108), (nar .byte v8_108)] v7_104) v7_104 v10_167))])) (fun _ k => XS.iload X33.here hx rfl (hb hby at_192) rfl  k) ?_
  refine Goes.step (S' := T33.setTop (mkF m 199 #[.val (.int p0), .val (.int p1), .val (.int p2), .val (.int p3), .val (.int v4_3), .val (.int v5_9), .val (.int v6_98), .val (.int v7_104), .val (.int v8_108), .val (.ref b1), .val (.int v10_167)] [])) (fun _ k => XS.icmpYes X33.here hx rfl (pc0 := 194) (pc' := 199) rfl (hb hby at_194) rfl (teq (own_hc0_194 p0 p1 p2 p3 v4_3 ev4_3 v5_9 ev5_9 v6_98 ev6_98 v7_104 ev7_104 v8_108 ev8_108 v10_167 ev10_167)).1 (by decide) (by decide) k) ?_
  refine Goes.step (S' := T33.setTop (mkF m 201 #[.val (.int p0), .val (.int p1), .val (.int p2), .val (.int p3), .val (.int v4_3), .val (.int v5_9), .val (.int v6_98), .val (.int v7_104), .val (.int v8_108), .val (.ref b1), .val (.int v10_167)] [(.ref b1)])) (fun _ k => XS.aload X33.here hx rfl (hb hby at_199) rfl rfl k) ?_
  refine Goes.step (S' := T33.setTop (mkF m 202 #[.val (.int p0), .val (.int p1), .val (.int p2), .val (.int p3), .val (.int v4_3), .val (.int v5_9), .val (.int v6_98), .val (.int v7_104), .val (.int v8_108), .val (.ref b1), .val (.int v10_167)] [(.int (0 : Int32)), (.ref b1)])) (fun _ k => XS.iconst X33.here hx rfl (hb hby at_201) k) ?_
  refine Goes.step (S' := T33.setTop (mkF m 204 #[.val (.int p0), .val (.int p1), .val (.int p2), .val (.int p3), .val (.int v4_3), .val (.int v5_9), .val (.int v6_98), .val (.int v7_104), .val (.int v8_108), .val (.ref b1), .val (.int v10_167)] [(.int v7_104), (.int (0 : Int32)), (.ref b1)])) (fun _ k => XS.iload X33.here hx rfl (hb hby at_202) rfl  k) ?_
  refine Goes.step (S' := T33.setTop (mkF m 206 #[.val (.int p0), .val (.int p1), .val (.int p2), .val (.int p3), .val (.int v4_3), .val (.int v5_9), .val (.int v6_98), .val (.int v7_104), .val (.int v8_108), .val (.ref b1), .val (.int v10_167)] [(.int v10_167), (.int v7_104), (.int (0 : Int32)), (.ref b1)])) (fun _ k => XS.iload X33.here hx rfl (hb hby at_204) rfl  k) ?_
  refine Goes.step (S' := T33.setTop (mkF m 208 #[.val (.int p0), .val (.int p1), .val (.int p2), .val (.int p3), .val (.int v4_3), .val (.int v5_9), .val (.int v6_98), .val (.int v7_104), .val (.int v8_108), .val (.ref b1), .val (.int v10_167)] [(.int v8_108), (.int v10_167), (.int v7_104), (.int (0 : Int32)), (.ref b1)])) (fun _ k => XS.iload X33.here hx rfl (hb hby at_206) rfl  k) ?_
  obtain ⟨_, _, ⟨T35, L35, k35, n35⟩, -, X35, ⟨Lc35, hQ35, l35, y35, z35⟩, st35⟩ := Jvm.LawKit.callS X33 hx (y := (⟨"com/example/leaderline/leaderline/Utf8EncodePinLaw", "kept", "([BIIIB)Z"⟩ : MethodName)) hown (mvT hZ (hw _ (List.mem_of_getElem? (i := 9) rfl))) (mvT hZ (hw _ (List.mem_of_getElem? (i := 10) rfl))) (mvT hZ (hw _ (List.mem_of_getElem? (i := 11) rfl))) (mvT hZ (hw _ (List.mem_of_getElem? (i := 12) rfl))) (by decide) (backOf (W := 0) (rm3 l Z a0 hw [] b1 (0 : Int32) v7_104 v10_167 v8_108 k1 ((8 : Int32)) ((g1_u1 v6_98 (8 : Int32) [(nar .byte v8_108), (nar .byte v8_108), (nar .byte v8_108), (nar .byte v8_108), (nar .byte v8_108), (nar .byte v8_108), (nar .byte v8_108), (nar .byte v8_108)] v7_104)) T29.heap n0 Z32 V30 (own_pr0_208_hB p0 p1 p2 p3 v4_3 ev4_3 v5_9 ev5_9 v6_98 ev6_98 v7_104 ev7_104 v8_108 ev8_108 v10_167 ev10_167)) hZ (hw _ (List.mem_of_getElem? (i := 12) rfl)) (hw _ (List.mem_of_getElem? (i := 11) rfl)) (by decide) (by decide)) (g := (mkF m 208 #[.val (.int p0), .val (.int p1), .val (.int p2), .val (.int p3), .val (.int v4_3), .val (.int v5_9), .val (.int v6_98), .val (.int v7_104), .val (.int v8_108), .val (.ref b1), .val (.int v10_167)] [(.int v8_108), (.int v10_167), (.int v7_104), (.int (0 : Int32)), (.ref b1)])) rfl (by rw [hml]; rfl) (argsL := [(.ref b1), (.int (0 : Int32)), (.int v7_104), (.int v10_167), (.int v8_108)]) (rest := []) (lenOf pd2 rfl) rfl (by show 2 * 0 + _ ≤ _; exact Nat.le_of_eq rfl) (hb hby at_208) (fun _ _ => ⟨rfl, e33, (by decide : 1 + 0 ≤ _), (by decide : 8 + 0 ≤ _)⟩)
  dsimp only [Pt.U, Pt.locs, Pt.cells, Pt.slots] at X35 l35 y35 z35 st35 hQ35
  subst l35 y35 z35
  obtain ⟨rfl, N35q, e35⟩ := hQ35
  have N36 := Fr.app N34 N35q
  refine Goes.step (S' := T35.setTop (mkF m 211 #[.val (.int p0), .val (.int p1), .val (.int p2), .val (.int p3), .val (.int v4_3), .val (.int v5_9), .val (.int v6_98), .val (.int v7_104), .val (.int v8_108), .val (.ref b1), .val (.int v10_167)] [(.int (f3 (8 : Int32) (g1_u1 v6_98 (8 : Int32) [(nar .byte v8_108), (nar .byte v8_108), (nar .byte v8_108), (nar .byte v8_108), (nar .byte v8_108), (nar .byte v8_108), (nar .byte v8_108), (nar .byte v8_108)] v7_104) (0 : Int32) v7_104 v10_167 v8_108))])) st35 ?_
  refine Goes.step (S' := T35.setTop (mkF m 214 #[.val (.int p0), .val (.int p1), .val (.int p2), .val (.int p3), .val (.int v4_3), .val (.int v5_9), .val (.int v6_98), .val (.int v7_104), .val (.int v8_108), .val (.ref b1), .val (.int v10_167)] [])) (fun _ k => XS.ifNo X35.here hx rfl (hb hby at_211) rfl ((if0 _ _).trans (feq (own_hc0_211 p0 p1 p2 p3 v4_3 ev4_3 v5_9 ev5_9 v6_98 ev6_98 v7_104 ev7_104 v8_108 ev8_108 v10_167 ev10_167)).1) k) ?_
  refine Goes.step (S' := T35.setTop (mkF m 216 #[.val (.int p0), .val (.int p1), .val (.int p2), .val (.int p3), .val (.int v4_3), .val (.int v5_9), .val (.int v6_98), .val (.int v7_104), .val (.int v8_108), .val (.ref b1), .val (.int v10_167)] [(.ref b1)])) (fun _ k => XS.aload X35.here hx rfl (hb hby at_214) rfl rfl k) ?_
  refine Goes.step (S' := T35.setTop (mkF m 217 #[.val (.int p0), .val (.int p1), .val (.int p2), .val (.int p3), .val (.int v4_3), .val (.int v5_9), .val (.int v6_98), .val (.int v7_104), .val (.int v8_108), .val (.ref b1), .val (.int v10_167)] [(.int (1 : Int32)), (.ref b1)])) (fun _ k => XS.iconst X35.here hx rfl (hb hby at_216) k) ?_
  refine Goes.step (S' := T35.setTop (mkF m 219 #[.val (.int p0), .val (.int p1), .val (.int p2), .val (.int p3), .val (.int v4_3), .val (.int v5_9), .val (.int v6_98), .val (.int v7_104), .val (.int v8_108), .val (.ref b1), .val (.int v10_167)] [(.int v7_104), (.int (1 : Int32)), (.ref b1)])) (fun _ k => XS.iload X35.here hx rfl (hb hby at_217) rfl  k) ?_
  refine Goes.step (S' := T35.setTop (mkF m 221 #[.val (.int p0), .val (.int p1), .val (.int p2), .val (.int p3), .val (.int v4_3), .val (.int v5_9), .val (.int v6_98), .val (.int v7_104), .val (.int v8_108), .val (.ref b1), .val (.int v10_167)] [(.int v10_167), (.int v7_104), (.int (1 : Int32)), (.ref b1)])) (fun _ k => XS.iload X35.here hx rfl (hb hby at_219) rfl  k) ?_
  refine Goes.step (S' := T35.setTop (mkF m 223 #[.val (.int p0), .val (.int p1), .val (.int p2), .val (.int p3), .val (.int v4_3), .val (.int v5_9), .val (.int v6_98), .val (.int v7_104), .val (.int v8_108), .val (.ref b1), .val (.int v10_167)] [(.int v8_108), (.int v10_167), (.int v7_104), (.int (1 : Int32)), (.ref b1)])) (fun _ k => XS.iload X35.here hx rfl (hb hby at_221) rfl  k) ?_
  obtain ⟨_, _, ⟨T37, L37, k37, n37⟩, -, X37, ⟨Lc37, hQ37, l37, y37, z37⟩, st37⟩ := Jvm.LawKit.callS X35 hx (y := (⟨"com/example/leaderline/leaderline/Utf8EncodePinLaw", "kept", "([BIIIB)Z"⟩ : MethodName)) hown (mvT hZ (hw _ (List.mem_of_getElem? (i := 9) rfl))) (mvT hZ (hw _ (List.mem_of_getElem? (i := 10) rfl))) (mvT hZ (hw _ (List.mem_of_getElem? (i := 11) rfl))) (mvT hZ (hw _ (List.mem_of_getElem? (i := 12) rfl))) (by decide) (backOf (W := 0) (rm3 l Z a0 hw [] b1 (1 : Int32) v7_104 v10_167 v8_108 k1 ((8 : Int32)) ((g1_u1 v6_98 (8 : Int32) [(nar .byte v8_108), (nar .byte v8_108), (nar .byte v8_108), (nar .byte v8_108), (nar .byte v8_108), (nar .byte v8_108), (nar .byte v8_108), (nar .byte v8_108)] v7_104)) T29.heap n0 Z32 V30 (own_pr0_223_hB p0 p1 p2 p3 v4_3 ev4_3 v5_9 ev5_9 v6_98 ev6_98 v7_104 ev7_104 v8_108 ev8_108 v10_167 ev10_167)) hZ (hw _ (List.mem_of_getElem? (i := 12) rfl)) (hw _ (List.mem_of_getElem? (i := 11) rfl)) (by decide) (by decide)) (g := (mkF m 223 #[.val (.int p0), .val (.int p1), .val (.int p2), .val (.int p3), .val (.int v4_3), .val (.int v5_9), .val (.int v6_98), .val (.int v7_104), .val (.int v8_108), .val (.ref b1), .val (.int v10_167)] [(.int v8_108), (.int v10_167), (.int v7_104), (.int (1 : Int32)), (.ref b1)])) rfl (by rw [hml]; rfl) (argsL := [(.ref b1), (.int (1 : Int32)), (.int v7_104), (.int v10_167), (.int v8_108)]) (rest := []) (lenOf pd2 rfl) rfl (by show 2 * 0 + _ ≤ _; exact Nat.le_of_eq rfl) (hb hby at_223) (fun _ _ => ⟨rfl, e35, (by decide : 1 + 0 ≤ _), (by decide : 8 + 0 ≤ _)⟩)
  dsimp only [Pt.U, Pt.locs, Pt.cells, Pt.slots] at X37 l37 y37 z37 st37 hQ37
  subst l37 y37 z37
  obtain ⟨rfl, N37q, e37⟩ := hQ37
  have N38 := Fr.app N36 N37q
  refine Goes.step (S' := T37.setTop (mkF m 226 #[.val (.int p0), .val (.int p1), .val (.int p2), .val (.int p3), .val (.int v4_3), .val (.int v5_9), .val (.int v6_98), .val (.int v7_104), .val (.int v8_108), .val (.ref b1), .val (.int v10_167)] [(.int (f3 (8 : Int32) (g1_u1 v6_98 (8 : Int32) [(nar .byte v8_108), (nar .byte v8_108), (nar .byte v8_108), (nar .byte v8_108), (nar .byte v8_108), (nar .byte v8_108), (nar .byte v8_108), (nar .byte v8_108)] v7_104) (1 : Int32) v7_104 v10_167 v8_108))])) st37 ?_
  refine Goes.step (S' := T37.setTop (mkF m 229 #[.val (.int p0), .val (.int p1), .val (.int p2), .val (.int p3), .val (.int v4_3), .val (.int v5_9), .val (.int v6_98), .val (.int v7_104), .val (.int v8_108), .val (.ref b1), .val (.int v10_167)] [])) (fun _ k => XS.ifNo X37.here hx rfl (hb hby at_226) rfl ((if0 _ _).trans (feq (own_hc0_226 p0 p1 p2 p3 v4_3 ev4_3 v5_9 ev5_9 v6_98 ev6_98 v7_104 ev7_104 v8_108 ev8_108 v10_167 ev10_167)).1) k) ?_
  refine Goes.step (S' := T37.setTop (mkF m 231 #[.val (.int p0), .val (.int p1), .val (.int p2), .val (.int p3), .val (.int v4_3), .val (.int v5_9), .val (.int v6_98), .val (.int v7_104), .val (.int v8_108), .val (.ref b1), .val (.int v10_167)] [(.ref b1)])) (fun _ k => XS.aload X37.here hx rfl (hb hby at_229) rfl rfl k) ?_
  refine Goes.step (S' := T37.setTop (mkF m 232 #[.val (.int p0), .val (.int p1), .val (.int p2), .val (.int p3), .val (.int v4_3), .val (.int v5_9), .val (.int v6_98), .val (.int v7_104), .val (.int v8_108), .val (.ref b1), .val (.int v10_167)] [(.int (2 : Int32)), (.ref b1)])) (fun _ k => XS.iconst X37.here hx rfl (hb hby at_231) k) ?_
  refine Goes.step (S' := T37.setTop (mkF m 234 #[.val (.int p0), .val (.int p1), .val (.int p2), .val (.int p3), .val (.int v4_3), .val (.int v5_9), .val (.int v6_98), .val (.int v7_104), .val (.int v8_108), .val (.ref b1), .val (.int v10_167)] [(.int v7_104), (.int (2 : Int32)), (.ref b1)])) (fun _ k => XS.iload X37.here hx rfl (hb hby at_232) rfl  k) ?_
  refine Goes.step (S' := T37.setTop (mkF m 236 #[.val (.int p0), .val (.int p1), .val (.int p2), .val (.int p3), .val (.int v4_3), .val (.int v5_9), .val (.int v6_98), .val (.int v7_104), .val (.int v8_108), .val (.ref b1), .val (.int v10_167)] [(.int v10_167), (.int v7_104), (.int (2 : Int32)), (.ref b1)])) (fun _ k => XS.iload X37.here hx rfl (hb hby at_234) rfl  k) ?_
  refine Goes.step (S' := T37.setTop (mkF m 238 #[.val (.int p0), .val (.int p1), .val (.int p2), .val (.int p3), .val (.int v4_3), .val (.int v5_9), .val (.int v6_98), .val (.int v7_104), .val (.int v8_108), .val (.ref b1), .val (.int v10_167)] [(.int v8_108), (.int v10_167), (.int v7_104), (.int (2 : Int32)), (.ref b1)])) (fun _ k => XS.iload X37.here hx rfl (hb hby at_236) rfl  k) ?_
  obtain ⟨_, _, ⟨T39, L39, k39, n39⟩, -, X39, ⟨Lc39, hQ39, l39, y39, z39⟩, st39⟩ := Jvm.LawKit.callS X37 hx (y := (⟨"com/example/leaderline/leaderline/Utf8EncodePinLaw", "kept", "([BIIIB)Z"⟩ : MethodName)) hown (mvT hZ (hw _ (List.mem_of_getElem? (i := 9) rfl))) (mvT hZ (hw _ (List.mem_of_getElem? (i := 10) rfl))) (mvT hZ (hw _ (List.mem_of_getElem? (i := 11) rfl))) (mvT hZ (hw _ (List.mem_of_getElem? (i := 12) rfl))) (by decide) (backOf (W := 0) (rm3 l Z a0 hw [] b1 (2 : Int32) v7_104 v10_167 v8_108 k1 ((8 : Int32)) ((g1_u1 v6_98 (8 : Int32) [(nar .byte v8_108), (nar .byte v8_108), (nar .byte v8_108), (nar .byte v8_108), (nar .byte v8_108), (nar .byte v8_108), (nar .byte v8_108), (nar .byte v8_108)] v7_104)) T29.heap n0 Z32 V30 (own_pr0_238_hB p0 p1 p2 p3 v4_3 ev4_3 v5_9 ev5_9 v6_98 ev6_98 v7_104 ev7_104 v8_108 ev8_108 v10_167 ev10_167)) hZ (hw _ (List.mem_of_getElem? (i := 12) rfl)) (hw _ (List.mem_of_getElem? (i := 11) rfl)) (by decide) (by decide)) (g := (mkF m 238 #[.val (.int p0), .val (.int p1), .val (.int p2), .val (.int p3), .val (.int v4_3), .val (.int v5_9), .val (.int v6_98), .val (.int v7_104), .val (.int v8_108), .val (.ref b1), .val (.int v10_167)] [(.int v8_108), (.int v10_167), (.int v7_104), (.int (2 : Int32)), (.ref b1)])) rfl (by rw [hml]; rfl) (argsL := [(.ref b1), (.int (2 : Int32)), (.int v7_104), (.int v10_167), (.int v8_108)]) (rest := []) (lenOf pd2 rfl) rfl (by show 2 * 0 + _ ≤ _; exact Nat.le_of_eq rfl) (hb hby at_238) (fun _ _ => ⟨rfl, e37, (by decide : 1 + 0 ≤ _), (by decide : 8 + 0 ≤ _)⟩)
  dsimp only [Pt.U, Pt.locs, Pt.cells, Pt.slots] at X39 l39 y39 z39 st39 hQ39
  subst l39 y39 z39
  obtain ⟨rfl, N39q, e39⟩ := hQ39
  have N40 := Fr.app N38 N39q
  refine Goes.step (S' := T39.setTop (mkF m 241 #[.val (.int p0), .val (.int p1), .val (.int p2), .val (.int p3), .val (.int v4_3), .val (.int v5_9), .val (.int v6_98), .val (.int v7_104), .val (.int v8_108), .val (.ref b1), .val (.int v10_167)] [(.int (f3 (8 : Int32) (g1_u1 v6_98 (8 : Int32) [(nar .byte v8_108), (nar .byte v8_108), (nar .byte v8_108), (nar .byte v8_108), (nar .byte v8_108), (nar .byte v8_108), (nar .byte v8_108), (nar .byte v8_108)] v7_104) (2 : Int32) v7_104 v10_167 v8_108))])) st39 ?_
  refine Goes.step (S' := T39.setTop (mkF m 244 #[.val (.int p0), .val (.int p1), .val (.int p2), .val (.int p3), .val (.int v4_3), .val (.int v5_9), .val (.int v6_98), .val (.int v7_104), .val (.int v8_108), .val (.ref b1), .val (.int v10_167)] [])) (fun _ k => XS.ifNo X39.here hx rfl (hb hby at_241) rfl ((if0 _ _).trans (feq (own_hc0_241 p0 p1 p2 p3 v4_3 ev4_3 v5_9 ev5_9 v6_98 ev6_98 v7_104 ev7_104 v8_108 ev8_108 v10_167 ev10_167)).1) k) ?_
  refine Goes.step (S' := T39.setTop (mkF m 246 #[.val (.int p0), .val (.int p1), .val (.int p2), .val (.int p3), .val (.int v4_3), .val (.int v5_9), .val (.int v6_98), .val (.int v7_104), .val (.int v8_108), .val (.ref b1), .val (.int v10_167)] [(.ref b1)])) (fun _ k => XS.aload X39.here hx rfl (hb hby at_244) rfl rfl k) ?_
  refine Goes.step (S' := T39.setTop (mkF m 247 #[.val (.int p0), .val (.int p1), .val (.int p2), .val (.int p3), .val (.int v4_3), .val (.int v5_9), .val (.int v6_98), .val (.int v7_104), .val (.int v8_108), .val (.ref b1), .val (.int v10_167)] [(.int (3 : Int32)), (.ref b1)])) (fun _ k => XS.iconst X39.here hx rfl (hb hby at_246) k) ?_
  refine Goes.step (S' := T39.setTop (mkF m 249 #[.val (.int p0), .val (.int p1), .val (.int p2), .val (.int p3), .val (.int v4_3), .val (.int v5_9), .val (.int v6_98), .val (.int v7_104), .val (.int v8_108), .val (.ref b1), .val (.int v10_167)] [(.int v7_104), (.int (3 : Int32)), (.ref b1)])) (fun _ k => XS.iload X39.here hx rfl (hb hby at_247) rfl  k) ?_
  refine Goes.step (S' := T39.setTop (mkF m 251 #[.val (.int p0), .val (.int p1), .val (.int p2), .val (.int p3), .val (.int v4_3), .val (.int v5_9), .val (.int v6_98), .val (.int v7_104), .val (.int v8_108), .val (.ref b1), .val (.int v10_167)] [(.int v10_167), (.int v7_104), (.int (3 : Int32)), (.ref b1)])) (fun _ k => XS.iload X39.here hx rfl (hb hby at_249) rfl  k) ?_
  refine Goes.step (S' := T39.setTop (mkF m 253 #[.val (.int p0), .val (.int p1), .val (.int p2), .val (.int p3), .val (.int v4_3), .val (.int v5_9), .val (.int v6_98), .val (.int v7_104), .val (.int v8_108), .val (.ref b1), .val (.int v10_167)] [(.int v8_108), (.int v10_167), (.int v7_104), (.int (3 : Int32)), (.ref b1)])) (fun _ k => XS.iload X39.here hx rfl (hb hby at_251) rfl  k) ?_
  obtain ⟨_, _, ⟨T41, L41, k41, n41⟩, -, X41, ⟨Lc41, hQ41, l41, y41, z41⟩, st41⟩ := Jvm.LawKit.callS X39 hx (y := (⟨"com/example/leaderline/leaderline/Utf8EncodePinLaw", "kept", "([BIIIB)Z"⟩ : MethodName)) hown (mvT hZ (hw _ (List.mem_of_getElem? (i := 9) rfl))) (mvT hZ (hw _ (List.mem_of_getElem? (i := 10) rfl))) (mvT hZ (hw _ (List.mem_of_getElem? (i := 11) rfl))) (mvT hZ (hw _ (List.mem_of_getElem? (i := 12) rfl))) (by decide) (backOf (W := 0) (rm3 l Z a0 hw [] b1 (3 : Int32) v7_104 v10_167 v8_108 k1 ((8 : Int32)) ((g1_u1 v6_98 (8 : Int32) [(nar .byte v8_108), (nar .byte v8_108), (nar .byte v8_108), (nar .byte v8_108), (nar .byte v8_108), (nar .byte v8_108), (nar .byte v8_108), (nar .byte v8_108)] v7_104)) T29.heap n0 Z32 V30 (own_pr0_253_hB p0 p1 p2 p3 v4_3 ev4_3 v5_9 ev5_9 v6_98 ev6_98 v7_104 ev7_104 v8_108 ev8_108 v10_167 ev10_167)) hZ (hw _ (List.mem_of_getElem? (i := 12) rfl)) (hw _ (List.mem_of_getElem? (i := 11) rfl)) (by decide) (by decide)) (g := (mkF m 253 #[.val (.int p0), .val (.int p1), .val (.int p2), .val (.int p3), .val (.int v4_3), .val (.int v5_9), .val (.int v6_98), .val (.int v7_104), .val (.int v8_108), .val (.ref b1), .val (.int v10_167)] [(.int v8_108), (.int v10_167), (.int v7_104), (.int (3 : Int32)), (.ref b1)])) rfl (by rw [hml]; rfl) (argsL := [(.ref b1), (.int (3 : Int32)), (.int v7_104), (.int v10_167), (.int v8_108)]) (rest := []) (lenOf pd2 rfl) rfl (by show 2 * 0 + _ ≤ _; exact Nat.le_of_eq rfl) (hb hby at_253) (fun _ _ => ⟨rfl, e39, (by decide : 1 + 0 ≤ _), (by decide : 8 + 0 ≤ _)⟩)
  dsimp only [Pt.U, Pt.locs, Pt.cells, Pt.slots] at X41 l41 y41 z41 st41 hQ41
  subst l41 y41 z41
  obtain ⟨rfl, N41q, e41⟩ := hQ41
  have N42 := Fr.app N40 N41q
  refine Goes.step (S' := T41.setTop (mkF m 256 #[.val (.int p0), .val (.int p1), .val (.int p2), .val (.int p3), .val (.int v4_3), .val (.int v5_9), .val (.int v6_98), .val (.int v7_104), .val (.int v8_108), .val (.ref b1), .val (.int v10_167)] [(.int (f3 (8 : Int32) (g1_u1 v6_98 (8 : Int32) [(nar .byte v8_108), (nar .byte v8_108), (nar .byte v8_108), (nar .byte v8_108), (nar .byte v8_108), (nar .byte v8_108), (nar .byte v8_108), (nar .byte v8_108)] v7_104) (3 : Int32) v7_104 v10_167 v8_108))])) st41 ?_
  refine Goes.step (S' := T41.setTop (mkF m 259 #[.val (.int p0), .val (.int p1), .val (.int p2), .val (.int p3), .val (.int v4_3), .val (.int v5_9), .val (.int v6_98), .val (.int v7_104), .val (.int v8_108), .val (.ref b1), .val (.int v10_167)] [])) (fun _ k => XS.ifNo X41.here hx rfl (hb hby at_256) rfl ((if0 _ _).trans (feq (own_hc0_256 p0 p1 p2 p3 v4_3 ev4_3 v5_9 ev5_9 v6_98 ev6_98 v7_104 ev7_104 v8_108 ev8_108 v10_167 ev10_167)).1) k) ?_
  refine Goes.step (S' := T41.setTop (mkF m 261 #[.val (.int p0), .val (.int p1), .val (.int p2), .val (.int p3), .val (.int v4_3), .val (.int v5_9), .val (.int v6_98), .val (.int v7_104), .val (.int v8_108), .val (.ref b1), .val (.int v10_167)] [(.ref b1)])) (fun _ k => XS.aload X41.here hx rfl (hb hby at_259) rfl rfl k) ?_
  refine Goes.step (S' := T41.setTop (mkF m 262 #[.val (.int p0), .val (.int p1), .val (.int p2), .val (.int p3), .val (.int v4_3), .val (.int v5_9), .val (.int v6_98), .val (.int v7_104), .val (.int v8_108), .val (.ref b1), .val (.int v10_167)] [(.int (4 : Int32)), (.ref b1)])) (fun _ k => XS.iconst X41.here hx rfl (hb hby at_261) k) ?_
  refine Goes.step (S' := T41.setTop (mkF m 264 #[.val (.int p0), .val (.int p1), .val (.int p2), .val (.int p3), .val (.int v4_3), .val (.int v5_9), .val (.int v6_98), .val (.int v7_104), .val (.int v8_108), .val (.ref b1), .val (.int v10_167)] [(.int v7_104), (.int (4 : Int32)), (.ref b1)])) (fun _ k => XS.iload X41.here hx rfl (hb hby at_262) rfl  k) ?_
  refine Goes.step (S' := T41.setTop (mkF m 266 #[.val (.int p0), .val (.int p1), .val (.int p2), .val (.int p3), .val (.int v4_3), .val (.int v5_9), .val (.int v6_98), .val (.int v7_104), .val (.int v8_108), .val (.ref b1), .val (.int v10_167)] [(.int v10_167), (.int v7_104), (.int (4 : Int32)), (.ref b1)])) (fun _ k => XS.iload X41.here hx rfl (hb hby at_264) rfl  k) ?_
  refine Goes.step (S' := T41.setTop (mkF m 268 #[.val (.int p0), .val (.int p1), .val (.int p2), .val (.int p3), .val (.int v4_3), .val (.int v5_9), .val (.int v6_98), .val (.int v7_104), .val (.int v8_108), .val (.ref b1), .val (.int v10_167)] [(.int v8_108), (.int v10_167), (.int v7_104), (.int (4 : Int32)), (.ref b1)])) (fun _ k => XS.iload X41.here hx rfl (hb hby at_266) rfl  k) ?_
  obtain ⟨_, _, ⟨T43, L43, k43, n43⟩, -, X43, ⟨Lc43, hQ43, l43, y43, z43⟩, st43⟩ := Jvm.LawKit.callS X41 hx (y := (⟨"com/example/leaderline/leaderline/Utf8EncodePinLaw", "kept", "([BIIIB)Z"⟩ : MethodName)) hown (mvT hZ (hw _ (List.mem_of_getElem? (i := 9) rfl))) (mvT hZ (hw _ (List.mem_of_getElem? (i := 10) rfl))) (mvT hZ (hw _ (List.mem_of_getElem? (i := 11) rfl))) (mvT hZ (hw _ (List.mem_of_getElem? (i := 12) rfl))) (by decide) (backOf (W := 0) (rm3 l Z a0 hw [] b1 (4 : Int32) v7_104 v10_167 v8_108 k1 ((8 : Int32)) ((g1_u1 v6_98 (8 : Int32) [(nar .byte v8_108), (nar .byte v8_108), (nar .byte v8_108), (nar .byte v8_108), (nar .byte v8_108), (nar .byte v8_108), (nar .byte v8_108), (nar .byte v8_108)] v7_104)) T29.heap n0 Z32 V30 (own_pr0_268_hB p0 p1 p2 p3 v4_3 ev4_3 v5_9 ev5_9 v6_98 ev6_98 v7_104 ev7_104 v8_108 ev8_108 v10_167 ev10_167)) hZ (hw _ (List.mem_of_getElem? (i := 12) rfl)) (hw _ (List.mem_of_getElem? (i := 11) rfl)) (by decide) (by decide)) (g := (mkF m 268 #[.val (.int p0), .val (.int p1), .val (.int p2), .val (.int p3), .val (.int v4_3), .val (.int v5_9), .val (.int v6_98), .val (.int v7_104), .val (.int v8_108), .val (.ref b1), .val (.int v10_167)] [(.int v8_108), (.int v10_167), (.int v7_104), (.int (4 : Int32)), (.ref b1)])) rfl (by rw [hml]; rfl) (argsL := [(.ref b1), (.int (4 : Int32)), (.int v7_104), (.int v10_167), (.int v8_108)]) (rest := []) (lenOf pd2 rfl) rfl (by show 2 * 0 + _ ≤ _; exact Nat.le_of_eq rfl) (hb hby at_268) (fun _ _ => ⟨rfl, e41, (by decide : 1 + 0 ≤ _), (by decide : 8 + 0 ≤ _)⟩)
  dsimp only [Pt.U, Pt.locs, Pt.cells, Pt.slots] at X43 l43 y43 z43 st43 hQ43
  subst l43 y43 z43
  obtain ⟨rfl, N43q, e43⟩ := hQ43
  have N44 := Fr.app N42 N43q
  refine Goes.step (S' := T43.setTop (mkF m 271 #[.val (.int p0), .val (.int p1), .val (.int p2), .val (.int p3), .val (.int v4_3), .val (.int v5_9), .val (.int v6_98), .val (.int v7_104), .val (.int v8_108), .val (.ref b1), .val (.int v10_167)] [(.int (f3 (8 : Int32) (g1_u1 v6_98 (8 : Int32) [(nar .byte v8_108), (nar .byte v8_108), (nar .byte v8_108), (nar .byte v8_108), (nar .byte v8_108), (nar .byte v8_108), (nar .byte v8_108), (nar .byte v8_108)] v7_104) (4 : Int32) v7_104 v10_167 v8_108))])) st43 ?_
  refine Goes.step (S' := T43.setTop (mkF m 274 #[.val (.int p0), .val (.int p1), .val (.int p2), .val (.int p3), .val (.int v4_3), .val (.int v5_9), .val (.int v6_98), .val (.int v7_104), .val (.int v8_108), .val (.ref b1), .val (.int v10_167)] [])) (fun _ k => XS.ifNo X43.here hx rfl (hb hby at_271) rfl ((if0 _ _).trans (feq (own_hc0_271 p0 p1 p2 p3 v4_3 ev4_3 v5_9 ev5_9 v6_98 ev6_98 v7_104 ev7_104 v8_108 ev8_108 v10_167 ev10_167)).1) k) ?_
  refine Goes.step (S' := T43.setTop (mkF m 276 #[.val (.int p0), .val (.int p1), .val (.int p2), .val (.int p3), .val (.int v4_3), .val (.int v5_9), .val (.int v6_98), .val (.int v7_104), .val (.int v8_108), .val (.ref b1), .val (.int v10_167)] [(.ref b1)])) (fun _ k => XS.aload X43.here hx rfl (hb hby at_274) rfl rfl k) ?_
  refine Goes.step (S' := T43.setTop (mkF m 277 #[.val (.int p0), .val (.int p1), .val (.int p2), .val (.int p3), .val (.int v4_3), .val (.int v5_9), .val (.int v6_98), .val (.int v7_104), .val (.int v8_108), .val (.ref b1), .val (.int v10_167)] [(.int (5 : Int32)), (.ref b1)])) (fun _ k => XS.iconst X43.here hx rfl (hb hby at_276) k) ?_
  refine Goes.step (S' := T43.setTop (mkF m 279 #[.val (.int p0), .val (.int p1), .val (.int p2), .val (.int p3), .val (.int v4_3), .val (.int v5_9), .val (.int v6_98), .val (.int v7_104), .val (.int v8_108), .val (.ref b1), .val (.int v10_167)] [(.int v7_104), (.int (5 : Int32)), (.ref b1)])) (fun _ k => XS.iload X43.here hx rfl (hb hby at_277) rfl  k) ?_
  refine Goes.step (S' := T43.setTop (mkF m 281 #[.val (.int p0), .val (.int p1), .val (.int p2), .val (.int p3), .val (.int v4_3), .val (.int v5_9), .val (.int v6_98), .val (.int v7_104), .val (.int v8_108), .val (.ref b1), .val (.int v10_167)] [(.int v10_167), (.int v7_104), (.int (5 : Int32)), (.ref b1)])) (fun _ k => XS.iload X43.here hx rfl (hb hby at_279) rfl  k) ?_
  refine Goes.step (S' := T43.setTop (mkF m 283 #[.val (.int p0), .val (.int p1), .val (.int p2), .val (.int p3), .val (.int v4_3), .val (.int v5_9), .val (.int v6_98), .val (.int v7_104), .val (.int v8_108), .val (.ref b1), .val (.int v10_167)] [(.int v8_108), (.int v10_167), (.int v7_104), (.int (5 : Int32)), (.ref b1)])) (fun _ k => XS.iload X43.here hx rfl (hb hby at_281) rfl  k) ?_
  obtain ⟨_, _, ⟨T45, L45, k45, n45⟩, -, X45, ⟨Lc45, hQ45, l45, y45, z45⟩, st45⟩ := Jvm.LawKit.callS X43 hx (y := (⟨"com/example/leaderline/leaderline/Utf8EncodePinLaw", "kept", "([BIIIB)Z"⟩ : MethodName)) hown (mvT hZ (hw _ (List.mem_of_getElem? (i := 9) rfl))) (mvT hZ (hw _ (List.mem_of_getElem? (i := 10) rfl))) (mvT hZ (hw _ (List.mem_of_getElem? (i := 11) rfl))) (mvT hZ (hw _ (List.mem_of_getElem? (i := 12) rfl))) (by decide) (backOf (W := 0) (rm3 l Z a0 hw [] b1 (5 : Int32) v7_104 v10_167 v8_108 k1 ((8 : Int32)) ((g1_u1 v6_98 (8 : Int32) [(nar .byte v8_108), (nar .byte v8_108), (nar .byte v8_108), (nar .byte v8_108), (nar .byte v8_108), (nar .byte v8_108), (nar .byte v8_108), (nar .byte v8_108)] v7_104)) T29.heap n0 Z32 V30 (own_pr0_283_hB p0 p1 p2 p3 v4_3 ev4_3 v5_9 ev5_9 v6_98 ev6_98 v7_104 ev7_104 v8_108 ev8_108 v10_167 ev10_167)) hZ (hw _ (List.mem_of_getElem? (i := 12) rfl)) (hw _ (List.mem_of_getElem? (i := 11) rfl)) (by decide) (by decide)) (g := (mkF m 283 #[.val (.int p0), .val (.int p1), .val (.int p2), .val (.int p3), .val (.int v4_3), .val (.int v5_9), .val (.int v6_98), .val (.int v7_104), .val (.int v8_108), .val (.ref b1), .val (.int v10_167)] [(.int v8_108), (.int v10_167), (.int v7_104), (.int (5 : Int32)), (.ref b1)])) rfl (by rw [hml]; rfl) (argsL := [(.ref b1), (.int (5 : Int32)), (.int v7_104), (.int v10_167), (.int v8_108)]) (rest := []) (lenOf pd2 rfl) rfl (by show 2 * 0 + _ ≤ _; exact Nat.le_of_eq rfl) (hb hby at_283) (fun _ _ => ⟨rfl, e43, (by decide : 1 + 0 ≤ _), (by decide : 8 + 0 ≤ _)⟩)
  dsimp only [Pt.U, Pt.locs, Pt.cells, Pt.slots] at X45 l45 y45 z45 st45 hQ45
  subst l45 y45 z45
  obtain ⟨rfl, N45q, e45⟩ := hQ45
  have N46 := Fr.app N44 N45q
  refine Goes.step (S' := T45.setTop (mkF m 286 #[.val (.int p0), .val (.int p1), .val (.int p2), .val (.int p3), .val (.int v4_3), .val (.int v5_9), .val (.int v6_98), .val (.int v7_104), .val (.int v8_108), .val (.ref b1), .val (.int v10_167)] [(.int (f3 (8 : Int32) (g1_u1 v6_98 (8 : Int32) [(nar .byte v8_108), (nar .byte v8_108), (nar .byte v8_108), (nar .byte v8_108), (nar .byte v8_108), (nar .byte v8_108), (nar .byte v8_108), (nar .byte v8_108)] v7_104) (5 : Int32) v7_104 v10_167 v8_108))])) st45 ?_
  refine Goes.step (S' := T45.setTop (mkF m 289 #[.val (.int p0), .val (.int p1), .val (.int p2), .val (.int p3), .val (.int v4_3), .val (.int v5_9), .val (.int v6_98), .val (.int v7_104), .val (.int v8_108), .val (.ref b1), .val (.int v10_167)] [])) (fun _ k => XS.ifNo X45.here hx rfl (hb hby at_286) rfl ((if0 _ _).trans (feq (own_hc0_286 p0 p1 p2 p3 v4_3 ev4_3 v5_9 ev5_9 v6_98 ev6_98 v7_104 ev7_104 v8_108 ev8_108 v10_167 ev10_167)).1) k) ?_
  refine Goes.step (S' := T45.setTop (mkF m 291 #[.val (.int p0), .val (.int p1), .val (.int p2), .val (.int p3), .val (.int v4_3), .val (.int v5_9), .val (.int v6_98), .val (.int v7_104), .val (.int v8_108), .val (.ref b1), .val (.int v10_167)] [(.ref b1)])) (fun _ k => XS.aload X45.here hx rfl (hb hby at_289) rfl rfl k) ?_
  refine Goes.step (S' := T45.setTop (mkF m 293 #[.val (.int p0), .val (.int p1), .val (.int p2), .val (.int p3), .val (.int v4_3), .val (.int v5_9), .val (.int v6_98), .val (.int v7_104), .val (.int v8_108), .val (.ref b1), .val (.int v10_167)] [(.int (6 : Int32)), (.ref b1)])) (fun _ k => XS.bipush X45.here hx rfl (hb hby at_291) k) ?_
  refine Goes.step (S' := T45.setTop (mkF m 295 #[.val (.int p0), .val (.int p1), .val (.int p2), .val (.int p3), .val (.int v4_3), .val (.int v5_9), .val (.int v6_98), .val (.int v7_104), .val (.int v8_108), .val (.ref b1), .val (.int v10_167)] [(.int v7_104), (.int (6 : Int32)), (.ref b1)])) (fun _ k => XS.iload X45.here hx rfl (hb hby at_293) rfl  k) ?_
  refine Goes.step (S' := T45.setTop (mkF m 297 #[.val (.int p0), .val (.int p1), .val (.int p2), .val (.int p3), .val (.int v4_3), .val (.int v5_9), .val (.int v6_98), .val (.int v7_104), .val (.int v8_108), .val (.ref b1), .val (.int v10_167)] [(.int v10_167), (.int v7_104), (.int (6 : Int32)), (.ref b1)])) (fun _ k => XS.iload X45.here hx rfl (hb hby at_295) rfl  k) ?_
  refine Goes.step (S' := T45.setTop (mkF m 299 #[.val (.int p0), .val (.int p1), .val (.int p2), .val (.int p3), .val (.int v4_3), .val (.int v5_9), .val (.int v6_98), .val (.int v7_104), .val (.int v8_108), .val (.ref b1), .val (.int v10_167)] [(.int v8_108), (.int v10_167), (.int v7_104), (.int (6 : Int32)), (.ref b1)])) (fun _ k => XS.iload X45.here hx rfl (hb hby at_297) rfl  k) ?_
  obtain ⟨_, _, ⟨T47, L47, k47, n47⟩, -, X47, ⟨Lc47, hQ47, l47, y47, z47⟩, st47⟩ := Jvm.LawKit.callS X45 hx (y := (⟨"com/example/leaderline/leaderline/Utf8EncodePinLaw", "kept", "([BIIIB)Z"⟩ : MethodName)) hown (mvT hZ (hw _ (List.mem_of_getElem? (i := 9) rfl))) (mvT hZ (hw _ (List.mem_of_getElem? (i := 10) rfl))) (mvT hZ (hw _ (List.mem_of_getElem? (i := 11) rfl))) (mvT hZ (hw _ (List.mem_of_getElem? (i := 12) rfl))) (by decide) (backOf (W := 0) (rm3 l Z a0 hw [] b1 (6 : Int32) v7_104 v10_167 v8_108 k1 ((8 : Int32)) ((g1_u1 v6_98 (8 : Int32) [(nar .byte v8_108), (nar .byte v8_108), (nar .byte v8_108), (nar .byte v8_108), (nar .byte v8_108), (nar .byte v8_108), (nar .byte v8_108), (nar .byte v8_108)] v7_104)) T29.heap n0 Z32 V30 (own_pr0_299_hB p0 p1 p2 p3 v4_3 ev4_3 v5_9 ev5_9 v6_98 ev6_98 v7_104 ev7_104 v8_108 ev8_108 v10_167 ev10_167)) hZ (hw _ (List.mem_of_getElem? (i := 12) rfl)) (hw _ (List.mem_of_getElem? (i := 11) rfl)) (by decide) (by decide)) (g := (mkF m 299 #[.val (.int p0), .val (.int p1), .val (.int p2), .val (.int p3), .val (.int v4_3), .val (.int v5_9), .val (.int v6_98), .val (.int v7_104), .val (.int v8_108), .val (.ref b1), .val (.int v10_167)] [(.int v8_108), (.int v10_167), (.int v7_104), (.int (6 : Int32)), (.ref b1)])) rfl (by rw [hml]; rfl) (argsL := [(.ref b1), (.int (6 : Int32)), (.int v7_104), (.int v10_167), (.int v8_108)]) (rest := []) (lenOf pd2 rfl) rfl (by show 2 * 0 + _ ≤ _; exact Nat.le_of_eq rfl) (hb hby at_299) (fun _ _ => ⟨rfl, e45, (by decide : 1 + 0 ≤ _), (by decide : 8 + 0 ≤ _)⟩)
  dsimp only [Pt.U, Pt.locs, Pt.cells, Pt.slots] at X47 l47 y47 z47 st47 hQ47
  subst l47 y47 z47
  obtain ⟨rfl, N47q, e47⟩ := hQ47
  have N48 := Fr.app N46 N47q
  refine Goes.step (S' := T47.setTop (mkF m 302 #[.val (.int p0), .val (.int p1), .val (.int p2), .val (.int p3), .val (.int v4_3), .val (.int v5_9), .val (.int v6_98), .val (.int v7_104), .val (.int v8_108), .val (.ref b1), .val (.int v10_167)] [(.int (f3 (8 : Int32) (g1_u1 v6_98 (8 : Int32) [(nar .byte v8_108), (nar .byte v8_108), (nar .byte v8_108), (nar .byte v8_108), (nar .byte v8_108), (nar .byte v8_108), (nar .byte v8_108), (nar .byte v8_108)] v7_104) (6 : Int32) v7_104 v10_167 v8_108))])) st47 ?_
  refine Goes.step (S' := T47.setTop (mkF m 305 #[.val (.int p0), .val (.int p1), .val (.int p2), .val (.int p3), .val (.int v4_3), .val (.int v5_9), .val (.int v6_98), .val (.int v7_104), .val (.int v8_108), .val (.ref b1), .val (.int v10_167)] [])) (fun _ k => XS.ifNo X47.here hx rfl (hb hby at_302) rfl ((if0 _ _).trans (feq (own_hc0_302 p0 p1 p2 p3 v4_3 ev4_3 v5_9 ev5_9 v6_98 ev6_98 v7_104 ev7_104 v8_108 ev8_108 v10_167 ev10_167)).1) k) ?_
  refine Goes.step (S' := T47.setTop (mkF m 307 #[.val (.int p0), .val (.int p1), .val (.int p2), .val (.int p3), .val (.int v4_3), .val (.int v5_9), .val (.int v6_98), .val (.int v7_104), .val (.int v8_108), .val (.ref b1), .val (.int v10_167)] [(.ref b1)])) (fun _ k => XS.aload X47.here hx rfl (hb hby at_305) rfl rfl k) ?_
  refine Goes.step (S' := T47.setTop (mkF m 309 #[.val (.int p0), .val (.int p1), .val (.int p2), .val (.int p3), .val (.int v4_3), .val (.int v5_9), .val (.int v6_98), .val (.int v7_104), .val (.int v8_108), .val (.ref b1), .val (.int v10_167)] [(.int (7 : Int32)), (.ref b1)])) (fun _ k => XS.bipush X47.here hx rfl (hb hby at_307) k) ?_
  refine Goes.step (S' := T47.setTop (mkF m 311 #[.val (.int p0), .val (.int p1), .val (.int p2), .val (.int p3), .val (.int v4_3), .val (.int v5_9), .val (.int v6_98), .val (.int v7_104), .val (.int v8_108), .val (.ref b1), .val (.int v10_167)] [(.int v7_104), (.int (7 : Int32)), (.ref b1)])) (fun _ k => XS.iload X47.here hx rfl (hb hby at_309) rfl  k) ?_
  refine Goes.step (S' := T47.setTop (mkF m 313 #[.val (.int p0), .val (.int p1), .val (.int p2), .val (.int p3), .val (.int v4_3), .val (.int v5_9), .val (.int v6_98), .val (.int v7_104), .val (.int v8_108), .val (.ref b1), .val (.int v10_167)] [(.int v10_167), (.int v7_104), (.int (7 : Int32)), (.ref b1)])) (fun _ k => XS.iload X47.here hx rfl (hb hby at_311) rfl  k) ?_
  refine Goes.step (S' := T47.setTop (mkF m 315 #[.val (.int p0), .val (.int p1), .val (.int p2), .val (.int p3), .val (.int v4_3), .val (.int v5_9), .val (.int v6_98), .val (.int v7_104), .val (.int v8_108), .val (.ref b1), .val (.int v10_167)] [(.int v8_108), (.int v10_167), (.int v7_104), (.int (7 : Int32)), (.ref b1)])) (fun _ k => XS.iload X47.here hx rfl (hb hby at_313) rfl  k) ?_
  obtain ⟨_, _, ⟨T49, L49, k49, n49⟩, -, X49, ⟨Lc49, hQ49, l49, y49, z49⟩, st49⟩ := Jvm.LawKit.callS X47 hx (y := (⟨"com/example/leaderline/leaderline/Utf8EncodePinLaw", "kept", "([BIIIB)Z"⟩ : MethodName)) hown (mvT hZ (hw _ (List.mem_of_getElem? (i := 9) rfl))) (mvT hZ (hw _ (List.mem_of_getElem? (i := 10) rfl))) (mvT hZ (hw _ (List.mem_of_getElem? (i := 11) rfl))) (mvT hZ (hw _ (List.mem_of_getElem? (i := 12) rfl))) (by decide) (backOf (W := 0) (rm3 l Z a0 hw [] b1 (7 : Int32) v7_104 v10_167 v8_108 k1 ((8 : Int32)) ((g1_u1 v6_98 (8 : Int32) [(nar .byte v8_108), (nar .byte v8_108), (nar .byte v8_108), (nar .byte v8_108), (nar .byte v8_108), (nar .byte v8_108), (nar .byte v8_108), (nar .byte v8_108)] v7_104)) T29.heap n0 Z32 V30 (own_pr0_315_hB p0 p1 p2 p3 v4_3 ev4_3 v5_9 ev5_9 v6_98 ev6_98 v7_104 ev7_104 v8_108 ev8_108 v10_167 ev10_167)) hZ (hw _ (List.mem_of_getElem? (i := 12) rfl)) (hw _ (List.mem_of_getElem? (i := 11) rfl)) (by decide) (by decide)) (g := (mkF m 315 #[.val (.int p0), .val (.int p1), .val (.int p2), .val (.int p3), .val (.int v4_3), .val (.int v5_9), .val (.int v6_98), .val (.int v7_104), .val (.int v8_108), .val (.ref b1), .val (.int v10_167)] [(.int v8_108), (.int v10_167), (.int v7_104), (.int (7 : Int32)), (.ref b1)])) rfl (by rw [hml]; rfl) (argsL := [(.ref b1), (.int (7 : Int32)), (.int v7_104), (.int v10_167), (.int v8_108)]) (rest := []) (lenOf pd2 rfl) rfl (by show 2 * 0 + _ ≤ _; exact Nat.le_of_eq rfl) (hb hby at_315) (fun _ _ => ⟨rfl, e47, (by decide : 1 + 0 ≤ _), (by decide : 8 + 0 ≤ _)⟩)
  dsimp only [Pt.U, Pt.locs, Pt.cells, Pt.slots] at X49 l49 y49 z49 st49 hQ49
  subst l49 y49 z49
  obtain ⟨rfl, N49q, e49⟩ := hQ49
  have N50 := Fr.app N48 N49q
  refine Goes.step (S' := T49.setTop (mkF m 318 #[.val (.int p0), .val (.int p1), .val (.int p2), .val (.int p3), .val (.int v4_3), .val (.int v5_9), .val (.int v6_98), .val (.int v7_104), .val (.int v8_108), .val (.ref b1), .val (.int v10_167)] [(.int (f3 (8 : Int32) (g1_u1 v6_98 (8 : Int32) [(nar .byte v8_108), (nar .byte v8_108), (nar .byte v8_108), (nar .byte v8_108), (nar .byte v8_108), (nar .byte v8_108), (nar .byte v8_108), (nar .byte v8_108)] v7_104) (7 : Int32) v7_104 v10_167 v8_108))])) st49 ?_
  refine Goes.step (S' := T49.setTop (mkF m 321 #[.val (.int p0), .val (.int p1), .val (.int p2), .val (.int p3), .val (.int v4_3), .val (.int v5_9), .val (.int v6_98), .val (.int v7_104), .val (.int v8_108), .val (.ref b1), .val (.int v10_167)] [])) (fun _ k => XS.ifNo X49.here hx rfl (hb hby at_318) rfl ((if0 _ _).trans (feq (own_hc0_318 p0 p1 p2 p3 v4_3 ev4_3 v5_9 ev5_9 v6_98 ev6_98 v7_104 ev7_104 v8_108 ev8_108 v10_167 ev10_167)).1) k) ?_
  refine Goes.step (S' := T49.setTop (mkF m 322 #[.val (.int p0), .val (.int p1), .val (.int p2), .val (.int p3), .val (.int v4_3), .val (.int v5_9), .val (.int v6_98), .val (.int v7_104), .val (.int v8_108), .val (.ref b1), .val (.int v10_167)] [(.int (1 : Int32))])) (fun _ k => XS.iconst X49.here hx rfl (hb hby at_321) k) ?_
  refine Goes.step (S' := T49.setTop (mkF m 326 #[.val (.int p0), .val (.int p1), .val (.int p2), .val (.int p3), .val (.int v4_3), .val (.int v5_9), .val (.int v6_98), .val (.int v7_104), .val (.int v8_108), .val (.ref b1), .val (.int v10_167)] [(.int (1 : Int32))])) (fun _ k => XS.goto X49.here hx rfl (pc0 := 322) (pc' := 326) rfl (hb hby at_322) (by decide) (by decide) k) ?_
  refine Goes.retN X49 hx Bd.notSynchronized (t := .boolean) Bd.returns (by simp) (hb hby at_326) (by decide) (by decide) ?_
  exact ⟨rfl, N50⟩
set_option maxRecDepth 65536 in
set_option maxHeartbeats 40000000 in
theorem comes_1 {Post : Tables → Env → Array Value → State → Outcome → State → Prop} (hpost : ∀ tb e args s v u, (limb_1_1.after args s (.returned v) u = true ∧ limb_1_2.after args s (.returned v) u = true ∧ True) → FrameEnd s (.returned v) u (Jvm.fieldLocs frame_1_writes args s ++ Jvm.arrayLocs frame_1_arrays args s ++ Jvm.staticLocs frame_1_statics s) 16 128 → Post tb e args s (.returned v) u) :
    ArmFor flags0 classFile x code maxLocals ret World_1 tables_1 room_1 Calls_1 rest_1 Pre_1 Post := by
  intro l hfl _ _ p e ha hc hk s m args below hf hA hF happ hP
  obtain ⟨hcalls, hrest, hpre⟩ := hP
  obtain ⟨-, -, -, hnamed, -, -, -, hat⟩ := (Spec.applies_iff hf).mp happ
  obtain ⟨hg, hn⟩ := and_e (Cond.before_iff.mp (show (Jvm.Cond.and given_1 narrow_1).before args s = true from hpre))
  obtain ⟨gg1, gg2⟩ := and_e hg
  obtain ⟨gg3, gg4⟩ := and_e gg2
  obtain ⟨gg5, gg6⟩ := and_e gg4
  obtain ⟨gg7, gg8⟩ := and_e gg6
  obtain ⟨w0, w1, w2, w3, rfl⟩ : ∃ w0 w1 w2 w3 : Value, args = #[w0, w1, w2, w3] := by
    have hs : args.size = 4 := by simpa [Cond.value, given_1] using gg1
    obtain ⟨L⟩ := args
    match L, hs with
    | [w0, w1, w2, w3], _ => exact ⟨w0, w1, w2, w3, rfl⟩
  have hw := fun d (hd : d ∈ tables_1) => atoms_spec (ws := Jvm.Cond.code x code maxLocals ret :: tables_1) hat d (List.mem_cons_of_mem _ hd)
  obtain ⟨i0, ei0⟩ := is_v gg3
  obtain rfl : w0 = (.int i0) := Option.some.inj ei0
  obtain ⟨i1, ei1⟩ := is_v gg5
  obtain rfl : w1 = (.int i1) := Option.some.inj ei1
  obtain ⟨i2, ei2⟩ := is_v gg7
  obtain rfl : w2 = (.int i2) := Option.some.inj ei2
  obtain ⟨i3, ei3⟩ := is_v gg8
  obtain rfl : w3 = (.int i3) := Option.some.inj ei3
  obtain ⟨n, o, h1, h2, h3, _, L, rfl, ⟨rfl, N⟩, hq⟩ := rm0 l s _ hw tables_1 i0 i1 i2 i3 s.heap s.heap.size (Nat.le_refl _) p e ha hc hk s m _ below hf ((Spec.applies_iff_loose hf).mp happ).1 ⟨rfl, State.Warmed39.refl s, rfl⟩ trivial
  refine ⟨n, _, h1, h2, h3, hpost _ _ _ _ _ _ ⟨Cond.after_iff.mpr rfl, Cond.after_iff.mpr (eq_i res_at (Term.int_eval (1)) rfl), trivial⟩ ⟨hq.1, hq.2.1, (hq.2.2.sift fun y hy => Or.inr (N y hy)).mono (by decide) (by decide)⟩⟩
theorem main_1_1 : Claimed_1_1 := comes_1 fun _ _ _ _ _ _ h hF => ⟨h.1, hF⟩
theorem main_1_2 : Claimed_1_2 := comes_1 fun _ _ _ _ _ _ h hF => ⟨h.2.1, hF⟩
end Jvm.Pilot.@@N@@
namespace Jvm.Pilot.@@N@@
open Jvm Jvm.ClassFile Sem Op Lib Jvm.Free Jvm.Stand Jvm.Pilot.@@N@@.Jvm.D
/-! MADE BY PROGRAM (witnessworld.py) out of the Statement's table words and the real class files: 9 classes; the members and pool entries that the words name. The judged class is class 1, her method 2. -/
namespace start1
open Jvm.ClassFile
def u (s : String) : CpInfo := .utf8 (stringToUtf16 s)
/-- a pool by its gaps: so many unusable entries, then the entry; so many at the end -/
def gap : Nat → List CpInfo → List CpInfo
  | 0, r => r
  | n + 1, r => .unusable :: gap n r
def poolList (es : List (Nat × CpInfo)) (last : Nat) : List CpInfo := es.foldr (fun e r => gap e.1 (e.2 :: r)) (gap last [])
def pool (es : List (Nat × CpInfo)) (last : Nat) : Array CpInfo := ⟨poolList es last⟩
def fileOf (pool : Array CpInfo) (this : Nat) (attrs : Array Attribute := #[]) (ms : Array MethodInfo := #[]) (fl : Nat := 33) (sup : Nat := 0) (ifs : Array Nat := #[]) (fds : Array FieldInfo := #[]) : ClassFile where
  minorVersion := 0
  majorVersion := 65
  constantPool := pool
  accessFlags := fl
  thisClass := this
  superClass := sup
  interfaces := ifs
  fields := fds
  methods := ms
  attributes := attrs
def plain (name : String) (sup : Option ClassId) : Class where
  name := name
  kind := .ordinary
  loader := none
  accessFlags := 33
  super := sup
  interfaces := #[]
  cf := none
  fields := #[]
  methods := #[]
  instanceTypes := #[]
  staticTypes := #[]
  resolved := #[]
  callSites := []
  init := .initialized
  statics := none
  mirror := none

def pool0 : Array CpInfo := pool [(5, u "<init>"), (0, u "()V"), (1, .class_ 10), (1, u "java/lang/Object")] 113

def k0m0 : Method := { name := "<init>", desc := "()V", sig := { parameters := [], returnType := none }, accessFlags := 1, code := none }
/-- java/lang/Object -/
def k0 : Class := { plain "java/lang/Object" none with
  accessFlags := 33
  interfaces := #[]
  cf := some (fileOf pool0 8 #[] #[{ accessFlags := 1, nameIndex := 5, descriptorIndex := 6, attributes := #[] }] 33 0 #[] #[])
  fields := #[]
  methods := #[k0m0]
  instanceTypes := #[]
  staticTypes := #[]
  resolved := Array.replicate 124 none
  statics := none }

def pool1 : Array CpInfo := pool [(2, .class_ 4), (1, u "java/lang/Object"), (0, u "<init>"), (0, u "()V"), (0, .integer 2147483647), (0, .integer 63488), (0, .integer 55296), (0, .integer 57343), (0, .integer 65536), (0, .integer 1048576), (0, .methodref 14 15), (0, .class_ 16), (0, .nameAndType 17 18), (0, u "com/example/leaderline/leaderline/Utf8"), (0, u "encode"), (0, u "(I[BI)I"), (0, .methodref 14 20), (0, .nameAndType 21 22), (0, u "decode"), (0, u "([BII)I"), (0, .methodref 24 25), (0, .class_ 26), (0, .nameAndType 27 28), (0, u "com/example/leaderline/leaderline/Utf8EncodePinLaw"), (0, u "kept"), (0, u "([BIIIB)Z"), (3, u "law"), (0, u "(IIII)Z")] 4

def k1m0 : Method := { name := "<init>", desc := "()V", sig := { parameters := [], returnType := none }, accessFlags := 1, code := none }
def k1c1 : Code := { maxStack := 2, maxLocals := 5, code := method_2_code, exceptionTable := #[], attributes := #[] }
def k1m1 : Method := { name := "kept", desc := "([BIIIB)Z", sig := { parameters := [(.array .byte), .int, .int, .int, .byte], returnType := some .boolean }, accessFlags := 10, code := some k1c1 }
def k1c2 : Code := { maxStack := 5, maxLocals := 11, code := code, exceptionTable := #[], attributes := #[] }
def k1m2 : Method := { name := "law", desc := "(IIII)Z", sig := { parameters := [.int, .int, .int, .int], returnType := some .boolean }, accessFlags := 9, code := some k1c2 }
/-- com/example/leaderline/leaderline/Utf8EncodePinLaw -/
def k1 : Class := { plain "com/example/leaderline/leaderline/Utf8EncodePinLaw" (some 0) with
  accessFlags := 49
  interfaces := #[]
  cf := some (fileOf pool1 24 #[] #[{ accessFlags := 1, nameIndex := 5, descriptorIndex := 6, attributes := #[] }, { accessFlags := 10, nameIndex := 27, descriptorIndex := 28, attributes := #[] }, { accessFlags := 9, nameIndex := 32, descriptorIndex := 33, attributes := #[] }] 49 2 #[] #[])
  fields := #[]
  methods := #[k1m0, k1m1, k1m2]
  instanceTypes := #[]
  staticTypes := #[]
  resolved := Array.replicate 38 none
  statics := none }

def pool2 : Array CpInfo := pool [(2, .class_ 4), (1, u "java/lang/Object"), (0, u "<init>"), (0, u "()V"), (0, .integer 65536), (0, .class_ 9), (0, u "com/example/leaderline/leaderline/Utf8"), (0, u "MALFORMED"), (0, u "I"), (4, u "encode"), (0, u "(I[BI)I"), (1, u "decode"), (0, u "([BII)I")] 6

def k2m0 : Method := { name := "<init>", desc := "()V", sig := { parameters := [], returnType := none }, accessFlags := 2, code := none }
def k2c1 : Code := { maxStack := 5, maxLocals := 3, code := prog_31_method_2_code, exceptionTable := #[], attributes := #[] }
def k2m1 : Method := { name := "encode", desc := "(I[BI)I", sig := { parameters := [.int, (.array .byte), .int], returnType := some .int }, accessFlags := 8, code := some k2c1 }
def k2c2 : Code := { maxStack := 3, maxLocals := 11, code := prog_31_method_3_code, exceptionTable := #[], attributes := #[] }
def k2m2 : Method := { name := "decode", desc := "([BII)I", sig := { parameters := [(.array .byte), .int, .int], returnType := some .int }, accessFlags := 8, code := some k2c2 }
/-- com/example/leaderline/leaderline/Utf8 -/
def k2 : Class := { plain "com/example/leaderline/leaderline/Utf8" (some 0) with
  accessFlags := 48
  interfaces := #[]
  cf := some (fileOf pool2 8 #[] #[{ accessFlags := 2, nameIndex := 5, descriptorIndex := 6, attributes := #[] }, { accessFlags := 8, nameIndex := 16, descriptorIndex := 17, attributes := #[] }, { accessFlags := 8, nameIndex := 19, descriptorIndex := 20, attributes := #[] }] 48 2 #[] #[{ accessFlags := 24, nameIndex := 10, descriptorIndex := 11, attributes := #[] }])
  fields := #[{ name := "MALFORMED", type := .int, accessFlags := 24, slot := 0, constantValue := 0 }]
  methods := #[k2m0, k2m1, k2m2]
  instanceTypes := #[]
  staticTypes := #[.int]
  resolved := Array.replicate 27 none
  statics := none }

def pool3 : Array CpInfo := pool [(1, u "java/lang/Cloneable"), (0, .class_ 1), (0, u "java/lang/Object"), (0, .class_ 3)] 3

/-- java/lang/Cloneable -/
def k3 : Class := { plain "java/lang/Cloneable" (some 0) with
  accessFlags := 1537
  interfaces := #[]
  cf := some (fileOf pool3 2 #[] #[] 1537 4 #[] #[])
  fields := #[]
  methods := #[]
  instanceTypes := #[]
  staticTypes := #[]
  resolved := Array.replicate 8 none
  statics := none }

def pool4 : Array CpInfo := pool [(1, u "java/io/Serializable"), (0, .class_ 1), (0, u "java/lang/Object"), (0, .class_ 3)] 3

/-- java/io/Serializable -/
def k4 : Class := { plain "java/io/Serializable" (some 0) with
  accessFlags := 1537
  interfaces := #[]
  cf := some (fileOf pool4 2 #[] #[] 1537 4 #[] #[])
  fields := #[]
  methods := #[]
  instanceTypes := #[]
  staticTypes := #[]
  resolved := Array.replicate 8 none
  statics := none }

/-- the primitive byte -/
def k5 : Class := { plain "byte" none with kind := .primitive 'B', accessFlags := 0x411 }
/-- [B -/
def k6 : Class := { plain "[B" (some 0) with kind := .array 5 .byte, interfaces := #[3, 4], accessFlags := 1041 }

/-- the primitive int -/
def k7 : Class := { plain "int" none with kind := .primitive 'I', accessFlags := 0x411 }
/-- [I -/
def k8 : Class := { plain "[I" (some 0) with kind := .array 7 .int, interfaces := #[3, 4], accessFlags := 1041 }

def heap : Heap := #[]
def classes : Array Class := #[k0, k1, k2, k3, k4, k5, k6, k7, k8]
def interned : List (Array UInt16 × Addr) := []
def slotsUsed : Nat := 0
def theMethod : MethodId := ⟨1, 2⟩
def args0 : Array Value := #[.int 5, .int 5, .int 5, .int 5]
def aboutOver (below : List Frame) : State where
  vm := { classes := classes, interned := interned.toArray }
  heap := heap
  slotsUsed := slotsUsed
  threads := #[{ frames := .invoking theMethod args0 :: below }]
def below0 : List Frame := [.native { method := ⟨0, 0⟩, args := #[] }]
def about1 : State := aboutOver below0
def p0 : Program := .bare "" "" ""
def e0 : Env := launch0.env 0 0 0
theorem w_frames : about1.frames = Frame.invoking theMethod args0 :: below0 := rfl
set_option maxRecDepth 65536 in
theorem w_args : argsFit about1.vm theMethod args0 = true := by decide +kernel
set_option maxRecDepth 65536 in
theorem w_heap : heapFits about1 = true := by decide +kernel
set_option maxRecDepth 65536 in
theorem w_runnable : about1.curStatus? = some .runnable := by decide +kernel
set_option maxRecDepth 65536 in
theorem w_alone : about1.alone = true := by decide +kernel
set_option maxRecDepth 65536 in
theorem w_named : about1.methodNamed? x = some theMethod := by decide +kernel
set_option maxRecDepth 65536 in
theorem w_hears : about1.hears theMethod below0 = true := by decide +kernel
set_option maxRecDepth 65536 in
theorem w_ripe : about1.ripe theMethod args0 below0 = true := by decide +kernel
theorem w_running : about1.status = .running := rfl
set_option maxRecDepth 65536 in
theorem w_room : about1.hasRoom e0.platform room_1 = true :=
  launch0.hasRoom_least _ room_1 (by decide +kernel) (by decide +kernel) (by decide +kernel) (by decide +kernel) (by decide +kernel) (by decide +kernel)
theorem allAtoms_all (ts : List Jvm.Cond) (a : Array Jvm.Value) (st : Jvm.State) : (allAtoms ts).before a st = ts.all (fun c => c.before a st) := by
  induction ts with
  | nil => rfl
  | cons c t ih =>
    show (Jvm.Cond.and c (allAtoms t)).before a st = _
    rw [Jvm.Cond.before_and, ih, List.all_cons]
def words1 : List Jvm.Cond := Jvm.Cond.code x code maxLocals ret :: tables_1
/-- a 'code' word, met by the world's own term for the bytes: nothing is compared byte by byte -/
theorem code_word {y : MethodName} {bytes : ByteArray} {mx : Nat} {rt : Option FieldType} {a : Array Value} {s : State} {m : MethodId} {meth : Method} {c : Code} (h1 : s.methodNamed? y = some m) (h2 : s.vm.method? m = some meth) (h3 : meth.code = some c) (h4 : c.code = bytes)
    (h5 : (c.maxLocals == mx && c.exceptionTable.isEmpty && decide (c.maxStack ≤ mostOperands) && decide (meth.sig.returnType = rt) && !meth.locks && decide (parseMethodDescriptor y.desc = some meth.sig)) = true) : (Jvm.Cond.code y bytes mx rt).before a s = true := by
  simp only [Bool.and_eq_true, beq_iff_eq, Bool.not_eq_true', decide_eq_true_eq] at h5
  obtain ⟨⟨⟨⟨⟨g1, g2⟩, g3⟩, g4⟩, g5⟩, g6⟩ := h5
  simp [Cond.before, Cond.holds, Cond.value, h1, h2, h3, h4, g1, g2, g3, g4, g5, g6]
def isCode : Jvm.Cond → Bool
  | .code _ _ _ _ => true
  | _ => false
theorem all_split {L : List Jvm.Cond} {P : Jvm.Cond → Bool} (h1 : L.all (fun c => isCode c || P c) = true) (h2 : ∀ c ∈ L.filter isCode, P c = true) : L.all P = true := by
  refine List.all_eq_true.mpr fun c hc => ?_
  have h := List.all_eq_true.mp h1 c hc
  rcases Bool.eq_false_or_eq_true (isCode c) with hi | hi
  · exact h2 c (List.mem_filter.mpr ⟨hc, hi⟩)
  · simpa [hi] using h
set_option maxRecDepth 65536 in
theorem w_c0 : (Jvm.Cond.code x code maxLocals ret).before args0 about1 = true := code_word (m := ⟨1, 2⟩) (meth := k1m2) (c := k1c2) (by decide +kernel) rfl rfl rfl (by decide +kernel)
set_option maxRecDepth 65536 in
theorem w_c1 : (Jvm.Cond.code ({ cls := "com/example/leaderline/leaderline/Utf8", name := "encode", desc := "(I[BI)I" } : Jvm.MethodName) prog_31_method_2_code (3 : Nat) (Option.some Jvm.ClassFile.FieldType.int)).before args0 about1 = true := code_word (m := ⟨2, 1⟩) (meth := k2m1) (c := k2c1) (by decide +kernel) rfl rfl rfl (by decide +kernel)
set_option maxRecDepth 65536 in
theorem w_c2 : (Jvm.Cond.code ({ cls := "com/example/leaderline/leaderline/Utf8", name := "decode", desc := "([BII)I" } : Jvm.MethodName) prog_31_method_3_code (11 : Nat) (Option.some Jvm.ClassFile.FieldType.int)).before args0 about1 = true := code_word (m := ⟨2, 2⟩) (meth := k2m2) (c := k2c2) (by decide +kernel) rfl rfl rfl (by decide +kernel)
set_option maxRecDepth 65536 in
theorem w_c3 : (Jvm.Cond.code ({ cls := "com/example/leaderline/leaderline/Utf8EncodePinLaw", name := "kept", desc := "([BIIIB)Z" } : Jvm.MethodName) method_2_code (5 : Nat) (Option.some Jvm.ClassFile.FieldType.boolean)).before args0 about1 = true := code_word (m := ⟨1, 1⟩) (meth := k1m1) (c := k1c1) (by decide +kernel) rfl rfl rfl (by decide +kernel)
def codes1 : List Jvm.Cond := [Jvm.Cond.code x code maxLocals ret, Jvm.Cond.code ({ cls := "com/example/leaderline/leaderline/Utf8", name := "encode", desc := "(I[BI)I" } : Jvm.MethodName) prog_31_method_2_code (3 : Nat) (Option.some Jvm.ClassFile.FieldType.int), Jvm.Cond.code ({ cls := "com/example/leaderline/leaderline/Utf8", name := "decode", desc := "([BII)I" } : Jvm.MethodName) prog_31_method_3_code (11 : Nat) (Option.some Jvm.ClassFile.FieldType.int), Jvm.Cond.code ({ cls := "com/example/leaderline/leaderline/Utf8EncodePinLaw", name := "kept", desc := "([BIIIB)Z" } : Jvm.MethodName) method_2_code (5 : Nat) (Option.some Jvm.ClassFile.FieldType.boolean)]
set_option maxRecDepth 65536 in
theorem codes_eq : words1.filter isCode = codes1 := rfl
theorem w_codes : ∀ c ∈ words1.filter isCode, c.before args0 about1 = true := by
  rw [codes_eq]
  intro c hc
  simp only [codes1, List.mem_cons, List.not_mem_nil, or_false] at hc
  rcases hc with rfl | rfl | rfl | rfl
  · exact w_c0
  · exact w_c1
  · exact w_c2
  · exact w_c3
set_option maxRecDepth 65536 in
theorem w_t1 : words1.all (fun c => isCode c || c.before args0 about1) = true := by decide +kernel
theorem w_tables : (allAtoms (Jvm.Cond.code x code maxLocals ret :: tables_1)).before args0 about1 = true := by
  rw [allAtoms_all]
  show words1.all (fun c => c.before args0 about1) = true
  refine all_split ?_ w_codes
  rw [w_t1]
set_option maxRecDepth 65536 in
theorem w_case : (Jvm.Cond.and given_1 narrow_1).before args0 about1 = true := by decide +kernel
theorem w_applies : (headSpec (Jvm.Cond.code x code maxLocals ret :: tables_1) room_1).applies x e0.platform about1 = true :=
  (Spec.applies_iff w_frames).mpr ⟨w_running, w_runnable, w_alone, w_named, w_hears, w_ripe, w_room, w_tables⟩
theorem atStart : AtStart classFile x code maxLocals ret World_1 tables_1 room_1 Calls_1 rest_1 Pre_1 launch0 p0 e0 about1 theMethod args0 below0 :=
  ⟨lists_1, trivial, launch0.admits_env _ _ _, launch0.least_env, fairChoices_fair.cas, fairChoices_fair.clock, w_frames, w_args, w_heap, w_applies, trivial, trivial, w_case⟩
end start1
theorem witness_1 : WitnessClaimed_1 := ⟨start1.p0, start1.e0, start1.about1, start1.theMethod, start1.args0, start1.below0, start1.atStart⟩
end Jvm.Pilot.@@N@@
