import JvmDerived
import JvmDerived.Pilot.@@N@@Statement
import JvmDerived.Pilot.@@N@@Code
set_option linter.unusedVariables false
set_option linter.unusedSimpArgs false
namespace Jvm.RoadKit
open Sem ClassFile Op Lib Jvm.Stand Jvm.Free Jvm.LawKit
section New
variable {p : Program} {l : Launch} {e : Env} {R : Room} {s : State} {m : MethodId} {args : Array Value} {below : List Frame} {meth : Method} {c : Code} {T : State} {locs : List Loc} {cells slots : Nat}
theorem retI (X : Stand p l e R s m args below meth c T locs cells slots) (hx : p.tables.exec = Jvm.exec) {pc : Nat} {Ls : Array Slot} {z : Int32} {rest : List Value} (hret : meth.sig.returnType = some .int) (hd : decode c.code pc = .ok (.ireturn, 1)) {fs : List Frame}
    (hl : ∀ (f : JFrame) (acts : List Action), f.method = m → f.locked = none → f.entered = [] → (doReturn e (T.setTop f) acts (some (.int z))).1 = T.setFrames fs) : Steps p.tables e below (T.setTop (mkF m pc Ls (.int z :: rest))) (T.setFrames fs) := by
  have hm' : T.vm.method? m = some meth := X.method'
  have hn : narrow .int (.int z) = .int z := rfl
  show Steps p.tables e below (T.setTop { method := m, pc := pc, locals := Ls, stack := _ :: rest, locked := none }) _
  jvm_step X.here [X.here.top, hx, hd, hm', hret, hn]
  first | (intro acts; rw [hl _ acts rfl rfl rfl]) | rw [hl _ _ rfl rfl rfl]
  exact Steps.refl _
end New
end Jvm.RoadKit
namespace Jvm.Pilot.@@N@@
open Jvm Jvm.ClassFile Sem Op Lib Jvm.Free Jvm.Stand Jvm.LawKit Jvm.RoadKit Bundle Jvm.Pilot.@@N@@.Jvm.D
/-! MY OWN LAYER, 1: a walk in forward style -/
/-- from the state S the run ends, and Q holds of the end -/
def Goes (tb : Tables) (e : Env) (below : List Frame) (Q : Outcome → State → Prop) (S : State) : Prop :=
  ∃ s₂ o, Steps tb e below S s₂ ∧ s₂.status = .running ∧ Ended s₂ below o ∧ Q o s₂
theorem Goes.out {tb : Tables} {e : Env} {below : List Frame} {Q : Outcome → State → Prop} {S : State} (h : Goes tb e below Q S) :
    ∃ s₂ o, Steps tb e below S s₂ ∧ s₂.status = .running ∧ Ended s₂ below o ∧ Q o s₂ := h
theorem Goes.step {tb : Tables} {e : Env} {below : List Frame} {Q : Outcome → State → Prop} {S S' : State}
    (h : ∀ t, Steps tb e below S' t → Steps tb e below S t) (k : Goes tb e below Q S') : Goes tb e below Q S := by
  obtain ⟨s₂, o, h1, h2⟩ := k
  exact ⟨s₂, o, h _ h1, h2⟩
section Ites
variable {tb : Tables} {e : Env} {below : List Frame} {T S : State} {c : Prop} [Decidable c]
theorem own_ite0 {F : JFrame} (hy : c → ∀ t, Steps tb e below (T.setTop F) t → Steps tb e below S t) (hn : ¬ c → ∀ t, Steps tb e below (T.setTop F) t → Steps tb e below S t) :
    ∀ t, Steps tb e below (T.setTop F) t → Steps tb e below S t := fun t k => by
  by_cases h : c
  · exact hy h t k
  · exact hn h t k
theorem own_ite1 {A0 : Type} {a0 b0 : A0} {F : A0 → JFrame} (hy : c → ∀ t, Steps tb e below (T.setTop (F a0)) t → Steps tb e below S t) (hn : ¬ c → ∀ t, Steps tb e below (T.setTop (F b0)) t → Steps tb e below S t) :
    ∀ t, Steps tb e below (T.setTop (F (if c then a0 else b0))) t → Steps tb e below S t := fun t k => by
  by_cases h : c
  · rw [if_pos h] at k; exact hy h t k
  · rw [if_neg h] at k; exact hn h t k
theorem own_ite2 {A0 A1 : Type} {a0 b0 : A0} {a1 b1 : A1} {F : A0 → A1 → JFrame} (hy : c → ∀ t, Steps tb e below (T.setTop (F a0 a1)) t → Steps tb e below S t) (hn : ¬ c → ∀ t, Steps tb e below (T.setTop (F b0 b1)) t → Steps tb e below S t) :
    ∀ t, Steps tb e below (T.setTop (F (if c then a0 else b0) (if c then a1 else b1))) t → Steps tb e below S t := fun t k => by
  by_cases h : c
  · rw [if_pos h, if_pos h] at k; exact hy h t k
  · rw [if_neg h, if_neg h] at k; exact hn h t k
theorem own_ite3 {A0 A1 A2 : Type} {a0 b0 : A0} {a1 b1 : A1} {a2 b2 : A2} {F : A0 → A1 → A2 → JFrame} (hy : c → ∀ t, Steps tb e below (T.setTop (F a0 a1 a2)) t → Steps tb e below S t) (hn : ¬ c → ∀ t, Steps tb e below (T.setTop (F b0 b1 b2)) t → Steps tb e below S t) :
    ∀ t, Steps tb e below (T.setTop (F (if c then a0 else b0) (if c then a1 else b1) (if c then a2 else b2))) t → Steps tb e below S t := fun t k => by
  by_cases h : c
  · rw [if_pos h, if_pos h, if_pos h] at k; exact hy h t k
  · rw [if_neg h, if_neg h, if_neg h] at k; exact hn h t k
end Ites
section Rets
variable {p : Program} {l : Launch} {e : Env} {R : Room} {s : State} {m : MethodId} {args : Array Value} {below : List Frame} {meth : Method} {c : Code} {T : State} {locs : List Loc} {cells slots : Nat}
variable {QQ : Option Value → Heap → List Loc → Prop} {C0 S0 : Nat} {pc : Nat} {Ls : Array Slot} {rest : List Value}
theorem Goes.retN (X : Stand p l e R s m args below meth c T locs cells slots) (hx : p.tables.exec = Jvm.exec) (hlk : meth.locks = false) {t : FieldType} {z : Int32} (hret : meth.sig.returnType = some t) (ht : t = .boolean ∨ t = .byte ∨ t = .char ∨ t = .short)
    (hd : decode c.code pc = .ok (.ireturn, 1)) (hC : cells ≤ C0) (hS : slots ≤ S0) (hQ : QQ (some (.int (nar t z))) T.heap locs) :
    Goes p.tables e below (fun o U' => ∃ v L, o = .returned v ∧ QQ v U'.heap L ∧ FrameEnd s o U' L C0 S0) (T.setTop (mkF m pc Ls (.int z :: rest))) := by
  obtain ⟨fs, hr, hrun, hended, hW, hsame⟩ := X.leave (v := some (.int (nar t z))) (fun h => by rw [hret] at h; cases h) hlk
  exact ⟨_, _, Jvm.RoadKit.retN X hx hret ht hd hr, hrun, hended, _, _, rfl, hQ, ⟨_, rfl⟩, hW, hsame.mono hC hS⟩
theorem Goes.retI (X : Stand p l e R s m args below meth c T locs cells slots) (hx : p.tables.exec = Jvm.exec) (hlk : meth.locks = false) {z : Int32} (hret : meth.sig.returnType = some .int)
    (hd : decode c.code pc = .ok (.ireturn, 1)) (hC : cells ≤ C0) (hS : slots ≤ S0) (hQ : QQ (some (.int z)) T.heap locs) :
    Goes p.tables e below (fun o U' => ∃ v L, o = .returned v ∧ QQ v U'.heap L ∧ FrameEnd s o U' L C0 S0) (T.setTop (mkF m pc Ls (.int z :: rest))) := by
  obtain ⟨fs, hr, hrun, hended, hW, hsame⟩ := X.leave (v := some (.int z)) (fun h => by rw [hret] at h; cases h) hlk
  exact ⟨_, _, Jvm.RoadKit.retI X hx hret hd hr, hrun, hended, _, _, rfl, hQ, ⟨_, rfl⟩, hW, hsame.mono hC hS⟩
theorem Goes.retJ (X : Stand p l e R s m args below meth c T locs cells slots) (hx : p.tables.exec = Jvm.exec) (hlk : meth.locks = false) {z : Int64} (hret : meth.sig.returnType = some .long)
    (hd : decode c.code pc = .ok (.lreturn, 1)) (hC : cells ≤ C0) (hS : slots ≤ S0) (hQ : QQ (some (.long z)) T.heap locs) :
    Goes p.tables e below (fun o U' => ∃ v L, o = .returned v ∧ QQ v U'.heap L ∧ FrameEnd s o U' L C0 S0) (T.setTop (mkF m pc Ls (.long z :: rest))) := by
  obtain ⟨fs, hr, hrun, hended, hW, hsame⟩ := X.leave (v := some (.long z)) (fun h => by rw [hret] at h; cases h) hlk
  refine ⟨_, _, ?_, hrun, hended, _, _, rfl, hQ, ⟨_, rfl⟩, hW, hsame.mono hC hS⟩
  jvm_step X.here [X.here.top, hx, hd, X.method', hret, narrow]
  first | (intro acts; rw [hr _ acts rfl rfl rfl]) | rw [hr _ _ rfl rfl rfl]
  exact Steps.refl _
theorem Goes.retA (X : Stand p l e R s m args below meth c T locs cells slots) (hx : p.tables.exec = Jvm.exec) (hlk : meth.locks = false) {a : Addr} {t : FieldType} (hret : meth.sig.returnType = some t) (ht : t.isReference = true)
    (hd : decode c.code pc = .ok (.areturn, 1)) (hC : cells ≤ C0) (hS : slots ≤ S0) (hQ : QQ (some (.ref a)) T.heap locs) :
    Goes p.tables e below (fun o U' => ∃ v L, o = .returned v ∧ QQ v U'.heap L ∧ FrameEnd s o U' L C0 S0) (T.setTop (mkF m pc Ls (.ref a :: rest))) := by
  obtain ⟨fs, hr, hrun, hended, hW, hsame⟩ := X.leave (v := some (.ref a)) (fun h => by rw [hret] at h; cases h) hlk
  refine ⟨_, _, ?_, hrun, hended, _, _, rfl, hQ, ⟨_, rfl⟩, hW, hsame.mono hC hS⟩
  jvm_step X.here [X.here.top, hx, hd, X.method', hret, Value.isRef, ht]
  first | (intro acts; rw [hr _ acts rfl rfl rfl]) | rw [hr _ _ rfl rfl rfl]
  exact Steps.refl _
theorem Goes.retV (X : Stand p l e R s m args below meth c T locs cells slots) (hx : p.tables.exec = Jvm.exec) (hlk : meth.locks = false) (hret : meth.sig.returnType = none)
    (hd : decode c.code pc = .ok (.return_, 1)) (hC : cells ≤ C0) (hS : slots ≤ S0) (hQ : QQ none T.heap locs) :
    Goes p.tables e below (fun o U' => ∃ v L, o = .returned v ∧ QQ v U'.heap L ∧ FrameEnd s o U' L C0 S0) (T.setTop (mkF m pc Ls [])) := by
  obtain ⟨fs, hr, hrun, hended, hW, hsame⟩ := X.leave (v := none) (fun _ => rfl) hlk
  exact ⟨_, _, X.returnOut hx hret hd hr, hrun, hended, _, _, rfl, hQ, ⟨_, rfl⟩, hW, hsame.mono hC hS⟩
theorem own_lrem {g : JFrame} {target : State} (X : Stand p l e R s m args below meth c T locs cells slots) (hx : p.tables.exec = Jvm.exec) (hg : g.method = m) {x y : Int64} {rest : List Value} (hd : decode c.code g.pc = .ok (.lrem, 1)) (hs : g.stack = .long y :: .long x :: rest) (hy : y ≠ 0)
    (hr : Steps p.tables e below (T.setTop { g with pc := g.pc + 1, stack := .long (x % y) :: rest }) target) : Steps p.tables e below (T.setTop g) target :=
  XS.lrem X.here hx hg hd hs hy (by rw [lrem_mod]; exact hr)
end Rets
/-! MY OWN LAYER, 2: an array of ints (bytes, chars ..) by the list of its values, whole -/
def AI (Z : State) (h : Heap) (a : Addr) (k : ClassId) (ty : FieldType) (n : Int32) (vs : List Int32) : Prop :=
  Arv Z h a k ty n (vs.map Value.int) (.int 0) ∧ vs.length = n.toNatClampNeg
section Arrays
variable {p : Program} {l : Launch} {e : Env} {R : Room} {s : State} {m : MethodId} {args : Array Value} {below : List Frame} {meth : Method} {c : Code} {T : State} {locs : List Loc} {cells slots : Nat}
variable {Z : State} {h h' : Heap} {a b : Addr} {k : ClassId} {ty : FieldType} {n : Int32} {vs : List Int32} {sl : Nat} {v : Value} {ws : List Addr}
theorem AI.lt (F : AI Z h a k ty n vs) : a < h.size := F.1.lt
theorem AI.nn (F : AI Z h a k ty n vs) : ¬ n < 0 := by obtain ⟨⟨c, -, -, -, q, -⟩, -⟩ := F; exact q
theorem AI.ext (F : AI Z h a k ty n vs) (E : Ext h h') : AI Z h' a k ty n vs := ⟨F.1.ext E, F.2⟩
theorem AI.other (F : AI Z h b k ty n vs) (W : Wr h h' a sl v) (q : b ≠ a) : AI Z h' b k ty n vs := ⟨F.1.other W q, F.2⟩
theorem AI.keep (F : AI Z h a k ty n vs) (K : Keep h h' ws) (q : a ∉ ws) : AI Z h' a k ty n vs := ⟨F.1.keep K q, F.2⟩
theorem own_getD (vs : List Int32) (i : Nat) : (vs.map Value.int).getD i (.int 0) = .int (vs.getD i 0) := by
  simp only [List.getD_eq_getElem?_getD, List.getElem?_map]
  cases vs[i]? <;> rfl
theorem own_new {q : Int32} (A : Arr Z h a (newA k ty q) ty) (hq : ¬ q < 0) (hd : defaultValue ty = .int 0) {vs : List Int32} (hv : vs = List.replicate q.toNatClampNeg 0 := by rfl) : AI Z h a k ty q vs := by
  subst hv
  have V := Arv.new A hq
  rw [hd] at V
  refine ⟨?_, by simp⟩
  have q1 := V.pad (pad_rep [] (.int 0) q.toNatClampNeg)
  rw [List.nil_append] at q1
  rw [List.map_replicate]; exact q1
theorem own_inb {cl : Cell} {j : Int32} (S : cl.slots.size = n.toNatClampNeg) (q : ¬ j < 0 ∧ j < n) : ¬ (j < 0 ∨ cl.slots.size ≤ j.toNatClampNeg) := inb_of S q
theorem own_jlt {j : Int32} (q : ¬ j < 0 ∧ j < n) : j.toNatClampNeg < n.toNatClampNeg := by
  obtain ⟨q1, q2⟩ := q
  rw [Int32.lt_iff_toInt_lt] at q1 q2
  have e0 : (0 : Int32).toInt = 0 := rfl
  simp only [Int32.toNatClampNeg] at *; omega
theorem own_iaload {pc : Nat} {Ls : Array Slot} {rest : List Value} {j : Int32} (X : Stand p l e R s m args below meth c T locs cells slots) (hx : p.tables.exec = Jvm.exec) (hZ : Z.Warmed39 s.vm) (eT : T.heap = h) (F : AI Z h a k .int n vs) (hj : ¬ j < 0 ∧ j < n)
    (hd : decode c.code pc = .ok (.iaload, 1)) (t : State) (kk : Steps p.tables e below (T.setTop (mkF m (pc + 1) Ls (.int (vs.getD j.toNatClampNeg 0) :: rest))) t) : Steps p.tables e below (T.setTop (mkF m pc Ls (.int j :: .ref a :: rest))) t := by
  obtain ⟨⟨cl, A, -, S, -, H, -⟩, hl⟩ := F
  have hin := own_inb S hj
  exact X.iaload hx (j := j) (v := .int (vs.getD j.toNatClampNeg 0)) (by rw [eT]; exact A.1) (State.isArrayOf_alike hZ.alike A.2.1) A.2.2 hin (H.at hin (own_getD _ _)) (g := mkF m pc Ls (.int j :: .ref a :: rest)) rfl rfl hd _ kk
theorem own_baload {pc : Nat} {Ls : Array Slot} {rest : List Value} {j : Int32} (X : Stand p l e R s m args below meth c T locs cells slots) (hx : p.tables.exec = Jvm.exec) (hZ : Z.Warmed39 s.vm) (eT : T.heap = h) (F : AI Z h a k .byte n vs) (hj : ¬ j < 0 ∧ j < n)
    (hd : decode c.code pc = .ok (.baload, 1)) (t : State) (kk : Steps p.tables e below (T.setTop (mkF m (pc + 1) Ls (.int (vs.getD j.toNatClampNeg 0) :: rest))) t) : Steps p.tables e below (T.setTop (mkF m pc Ls (.int j :: .ref a :: rest))) t := by
  obtain ⟨⟨cl, A, -, S, -, H, -⟩, hl⟩ := F
  have hin := own_inb S hj
  exact X.baloadBytes hx (j := j) (v := .int (vs.getD j.toNatClampNeg 0)) (by rw [eT]; exact A.1) (State.isArrayOf_alike hZ.alike A.2.1) A.2.2 hin (H.at hin (own_getD _ _)) (g := mkF m pc Ls (.int j :: .ref a :: rest)) rfl rfl hd _ kk
theorem own_len {pc : Nat} {Ls : Array Slot} {rest : List Value} (X : Stand p l e R s m args below meth c T locs cells slots) (hx : p.tables.exec = Jvm.exec) (hZ : Z.Warmed39 s.vm) (eT : T.heap = h) (F : AI Z h a k ty n vs)
    (hd : decode c.code pc = .ok (.arraylength, 1)) (t : State) (kk : Steps p.tables e below (T.setTop (mkF m (pc + 1) Ls (.int n :: rest))) t) : Steps p.tables e below (T.setTop (mkF m pc Ls (.ref a :: rest))) t := by
  obtain ⟨⟨cl, A, -, S, N, H, -⟩, hl⟩ := F
  refine X.arraylength hx (by rw [eT]; exact A.1) (State.isArrayOf_alike hZ.alike A.2.1) (g := mkF m pc Ls (.ref a :: rest)) rfl rfl hd _ ?_
  rw [len_of S N]; exact kk
theorem own_iastore {j x : Int32} (X : Stand p l e R s m args below meth c T locs cells slots) (hx : p.tables.exec = Jvm.exec) (hZ : Z.Warmed39 s.vm) (eT : T.heap = h) (F : AI Z h a k .int n vs) (hj : ¬ j < 0 ∧ j < n) {g : JFrame} (hg : g.method = m) {rest : List Value} (hs : g.stack = .int x :: .int j :: .ref a :: rest) (hd : decode c.code g.pc = .ok (.iastore, 1)) :
    ∃ T' h', Stand p l e R s m args below meth c T' (locs ++ [⟨a, j.toNatClampNeg⟩]) cells slots ∧ T'.heap = h' ∧ Wr h h' a j.toNatClampNeg (.int x) ∧ AI Z h' a k .int n (vs.set j.toNatClampNeg x) ∧ ∀ target, Steps p.tables e below (T'.setTop { g with pc := g.pc + 1, stack := rest }) target → Steps p.tables e below (T.setTop g) target := by
  obtain ⟨⟨cl, A, q1, S, N, H, G⟩, hl⟩ := F
  obtain ⟨T', h', X', e', W, st⟩ := stI X hx hZ eT A (own_inb S hj) hg hs hd
  refine ⟨T', h', X', e', W, ⟨?_, by simpa using hl⟩, st⟩
  rw [List.map_set]
  exact Arv.set A q1 S N H G rfl W _ rfl (by rw [List.length_map, hl]; exact own_jlt hj)
theorem own_bastore {j x : Int32} (X : Stand p l e R s m args below meth c T locs cells slots) (hx : p.tables.exec = Jvm.exec) (hZ : Z.Warmed39 s.vm) (eT : T.heap = h) (F : AI Z h a k .byte n vs) (hj : ¬ j < 0 ∧ j < n) {g : JFrame} (hg : g.method = m) {rest : List Value} (hs : g.stack = .int x :: .int j :: .ref a :: rest) (hd : decode c.code g.pc = .ok (.bastore, 1)) :
    ∃ T' h', Stand p l e R s m args below meth c T' (locs ++ [⟨a, j.toNatClampNeg⟩]) cells slots ∧ T'.heap = h' ∧ Wr h h' a j.toNatClampNeg (.int (nar .byte x)) ∧ AI Z h' a k .byte n (vs.set j.toNatClampNeg (nar .byte x)) ∧ ∀ target, Steps p.tables e below (T'.setTop { g with pc := g.pc + 1, stack := rest }) target → Steps p.tables e below (T.setTop g) target := by
  obtain ⟨⟨cl, A, q1, S, N, H, G⟩, hl⟩ := F
  obtain ⟨T', h', X', e', W, st⟩ := stB X hx hZ eT A (own_inb S hj) hg hs hd
  refine ⟨T', h', X', e', W, ⟨?_, by simpa using hl⟩, st⟩
  rw [List.map_set]
  exact Arv.set A q1 S N H G (fits_nar_byte _) W _ rfl (by rw [List.length_map, hl]; exact own_jlt hj)
end Arrays
/-! MY OWN LAYER, 3: numbers -/
theorem own_b255 (x : Int32) : (nar .byte (x.toInt8.toInt32)) &&& 255 = x &&& 255 := by
  have a := c_i2b x
  have b := c_i2b x.toInt8.toInt32
  have m1 : ((x.toInt8.toInt32.toInt8.toInt32) &&& 255).toInt = (x.toInt8.toInt32.toInt8.toInt32).toInt % 256 := c_mask _ 255 8 (by decide) (by decide)
  have m2 : (x &&& 255).toInt = x.toInt % 256 := c_mask _ 255 8 (by decide) (by decide)
  apply Int32.toInt_inj.mp
  show ((x.toInt8.toInt32.toInt8.toInt32) &&& 255).toInt = _
  omega
theorem own_m255 (x : Int32) : (x &&& 255).toInt = x.toInt % 256 := c_mask _ 255 8 (by decide) (by decide)
theorem own_or8 (a b : Int32) (h1 : 0 ≤ a.toInt) (h2 : a.toInt < 256) (h3 : 0 ≤ b.toInt) (h4 : b.toInt < 256) : ((a <<< ((8 : Int32) &&& 31)) ||| b).toInt = a.toInt * 256 + b.toInt := by
  have s : ((a <<< ((8 : Int32) &&& 31)).toInt - a.toInt * 256) % 4294967296 = 0 := c_ishl a 8 8 (by decide)
  have r := rng32 (a <<< ((8 : Int32) &&& 31))
  have e : (a <<< ((8 : Int32) &&& 31)).toInt = a.toInt * 256 := by omega
  have o := c_or (a <<< ((8 : Int32) &&& 31)) b 8 (by decide) 256 (by decide) (by omega) h3 h4
  have r2 := rng32 ((a <<< ((8 : Int32) &&& 31)) ||| b)
  omega
theorem d1_0 : decode prog_73_method_4_code 0 = .ok (.iload_n 0, 1) := by decide +kernel
theorem d1_1 : decode prog_73_method_4_code 1 = .ok (.bipush 32, 2) := by decide +kernel
theorem d1_3 : decode prog_73_method_4_code 3 = .ok (.if_icmp .lt 19, 3) := by decide +kernel
theorem d1_6 : decode prog_73_method_4_code 6 = .ok (.iload_n 0, 1) := by decide +kernel
theorem d1_7 : decode prog_73_method_4_code 7 = .ok (.bipush 126, 2) := by decide +kernel
theorem d1_9 : decode prog_73_method_4_code 9 = .ok (.if_icmp .gt 13, 3) := by decide +kernel
theorem d1_12 : decode prog_73_method_4_code 12 = .ok (.bipush 92, 2) := by decide +kernel
theorem d1_14 : decode prog_73_method_4_code 14 = .ok (.iload_n 0, 1) := by decide +kernel
theorem d1_15 : decode prog_73_method_4_code 15 = .ok (.if_icmp .eq 7, 3) := by decide +kernel
theorem d1_18 : decode prog_73_method_4_code 18 = .ok (.iconst 1, 1) := by decide +kernel
theorem d1_19 : decode prog_73_method_4_code 19 = .ok (.goto 4, 3) := by decide +kernel
theorem d1_22 : decode prog_73_method_4_code 22 = .ok (.iconst 0, 1) := by decide +kernel
theorem d1_23 : decode prog_73_method_4_code 23 = .ok (.ireturn, 1) := by decide +kernel
theorem pn0 : plainName "com/example/marginalia/marginalia/output/Escapes" = true := by first | (simp [plainName, overriddenIn]; done) | decide +kernel
theorem ef1 (m : MethodId) (p0 : Int32) : entryFrame m #[(.int p0)] 1 = mkF m 0 #[.val (.int p0)] [] := by first | (simp [entryFrame, mkF, argsToLocals, Value.category]; done) | rfl
def f1 (p0 : Int32) : Int32 := (nar .boolean (if p0 < (32 : Int32) then (0 : Int32) else (if (126 : Int32) < p0 then (0 : Int32) else (if (92 : Int32) = p0 then (0 : Int32) else (1 : Int32)))))
def Q1 (Z : State) (p0 : Int32) (h0 : Heap) (n0 : Nat) (v : Option Value) (h : Heap) (L : List Loc) : Prop := v = some (.int (f1 p0)) ∧ Fr n0 L ∧ h = h0
set_option maxRecDepth 65536 in
set_option maxHeartbeats 40000000 in
theorem rm1 (l : Launch) (Z : State) (a0 : Array Value) (hw : ∀ d ∈ tables_1, d.before a0 Z = true) (ws : List Jvm.Cond) (p0 : Int32) (h0 : Heap) (n0 : Nat) (Z0 : n0 ≤ h0.size) :
    MetFree l (⟨"com/example/marginalia/marginalia/output/Escapes", "isPlain", "(C)Z"⟩ : MethodName) (head1 (Jvm.Cond.code (⟨"com/example/marginalia/marginalia/output/Escapes", "isPlain", "(C)Z"⟩ : MethodName) prog_73_method_4_code 1 (some .boolean) :: ws) ({ frames := 0, cells := 0, slots := 0, locals := 0 } : Room)) (fun a U => a = #[(.int p0)] ∧ Z.Warmed39 U.vm ∧ U.heap = h0) (fun _ _ _ _ _ => True) (fun _ U o U' => ∃ v L, o = .returned v ∧ Q1 Z p0 h0 n0 v U'.heap L ∧ FrameEnd U o U' L ({ frames := 0, cells := 0, slots := 0, locals := 0 } : Room).cells ({ frames := 0, cells := 0, slots := 0, locals := 0 } : Room).slots) := by
  refine MetFree.of_bodySF (plainFor_of_name pn0) hisR ?_
  intro p e s m args below meth c s₁ Bd hml0 hP hK
  obtain ⟨rfl, hZ, hh⟩ := hP
  have hx := Bd.exec
  have hby := Bd.bytes
  have hml : c.maxLocals = 1 := hml0
  have hown : s.vm.findClass "com/example/marginalia/marginalia/output/Escapes" = some m.cls := findClass_of_methodNamed Bd.named
  have hnm := (name_of_methodNamed Bd.named Bd.method).1
  have X0 : Stand p l e ({ frames := 0, cells := 0, slots := 0, locals := 0 } : Room) s m #[(.int p0)] below meth c s₁ [] 0 0 := Stand.of_body Bd
  have e0 : s₁.heap = h0 := by rw [← hh, Bd.state]; rfl
  have N0 := Fr.nil n0
  refine Goes.out (Q := fun o U' => ∃ v L, o = .returned v ∧ Q1 Z p0 h0 n0 v U'.heap L ∧ FrameEnd s o U' L ({ frames := 0, cells := 0, slots := 0, locals := 0 } : Room).cells ({ frames := 0, cells := 0, slots := 0, locals := 0 } : Room).slots) ?_
  refine Goes.step (S' := s₁.setTop (mkF m 0 #[.val (.int p0)] [])) (fun _ k => castTop (ef1 m p0) k) ?_
  refine Goes.step (S' := s₁.setTop (mkF m 1 #[.val (.int p0)] [(.int p0)])) (fun _ k => XS.iloadN X0.here hx rfl (hb hby d1_0) rfl  k) ?_
  refine Goes.step (S' := s₁.setTop (mkF m 3 #[.val (.int p0)] [(.int (32 : Int32)), (.int p0)])) (fun _ k => XS.bipush X0.here hx rfl (hb hby d1_1) k) ?_
  refine Goes.step (own_ite1 (T := s₁) (c := p0 < (32 : Int32)) (a0 := (0 : Int32)) (b0 := (if (126 : Int32) < p0 then (0 : Int32) else (if (92 : Int32) = p0 then (0 : Int32) else (1 : Int32)))) (F := fun z3_0 => (mkF m 23 #[.val (.int p0)] [(.int z3_0)])) ?_ ?_) ?_
  · intro hc3_1 t k
    refine XS.icmpYes X0.here hx rfl (pc0 := 3) (pc' := 22) rfl (hb hby d1_3) rfl (tlt hc3_1).1 (by decide) (by decide) ?_
    show Steps p.tables e below (s₁.setTop (mkF m 22 #[.val (.int p0)] [])) _
    refine XS.iconst X0.here hx rfl (hb hby d1_22) ?_
    show Steps p.tables e below (s₁.setTop (mkF m 23 #[.val (.int p0)] [(.int (0 : Int32))])) _
    exact k
  · intro hc3_1 t k
    refine XS.icmpNo X0.here hx rfl (hb hby d1_3) rfl (flt hc3_1).1 ?_
    show Steps p.tables e below (s₁.setTop (mkF m 6 #[.val (.int p0)] [])) _
    refine XS.iloadN X0.here hx rfl (hb hby d1_6) rfl  ?_
    show Steps p.tables e below (s₁.setTop (mkF m 7 #[.val (.int p0)] [(.int p0)])) _
    refine XS.bipush X0.here hx rfl (hb hby d1_7) ?_
    show Steps p.tables e below (s₁.setTop (mkF m 9 #[.val (.int p0)] [(.int (126 : Int32)), (.int p0)])) _
    refine own_ite1 (T := s₁) (c := (126 : Int32) < p0) (a0 := (0 : Int32)) (b0 := (if (92 : Int32) = p0 then (0 : Int32) else (1 : Int32))) (F := fun z3_0 => (mkF m 23 #[.val (.int p0)] [(.int z3_0)])) ?_ ?_ _ ?_
    · intro hc9_2 t k
      refine XS.icmpYes X0.here hx rfl (pc0 := 9) (pc' := 22) rfl (hb hby d1_9) rfl (tlt hc9_2).2.2.1 (by decide) (by decide) ?_
      show Steps p.tables e below (s₁.setTop (mkF m 22 #[.val (.int p0)] [])) _
      refine XS.iconst X0.here hx rfl (hb hby d1_22) ?_
      show Steps p.tables e below (s₁.setTop (mkF m 23 #[.val (.int p0)] [(.int (0 : Int32))])) _
      exact k
    · intro hc9_2 t k
      refine XS.icmpNo X0.here hx rfl (hb hby d1_9) rfl (flt hc9_2).2.2.1 ?_
      show Steps p.tables e below (s₁.setTop (mkF m 12 #[.val (.int p0)] [])) _
      refine XS.bipush X0.here hx rfl (hb hby d1_12) ?_
      show Steps p.tables e below (s₁.setTop (mkF m 14 #[.val (.int p0)] [(.int (92 : Int32))])) _
      refine XS.iloadN X0.here hx rfl (hb hby d1_14) rfl  ?_
      show Steps p.tables e below (s₁.setTop (mkF m 15 #[.val (.int p0)] [(.int p0), (.int (92 : Int32))])) _
      refine own_ite1 (T := s₁) (c := (92 : Int32) = p0) (a0 := (0 : Int32)) (b0 := (1 : Int32)) (F := fun z3_0 => (mkF m 23 #[.val (.int p0)] [(.int z3_0)])) ?_ ?_ _ ?_
      · intro hc15_3 t k
        refine XS.icmpYes X0.here hx rfl (pc0 := 15) (pc' := 22) rfl (hb hby d1_15) rfl (teq hc15_3).1 (by decide) (by decide) ?_
        show Steps p.tables e below (s₁.setTop (mkF m 22 #[.val (.int p0)] [])) _
        refine XS.iconst X0.here hx rfl (hb hby d1_22) ?_
        show Steps p.tables e below (s₁.setTop (mkF m 23 #[.val (.int p0)] [(.int (0 : Int32))])) _
        exact k
      · intro hc15_3 t k
        refine XS.icmpNo X0.here hx rfl (hb hby d1_15) rfl (feq hc15_3).1 ?_
        show Steps p.tables e below (s₁.setTop (mkF m 18 #[.val (.int p0)] [])) _
        refine XS.iconst X0.here hx rfl (hb hby d1_18) ?_
        show Steps p.tables e below (s₁.setTop (mkF m 19 #[.val (.int p0)] [(.int (1 : Int32))])) _
        refine XS.goto X0.here hx rfl (pc0 := 19) (pc' := 23) rfl (hb hby d1_19) (by decide) (by decide) ?_
        show Steps p.tables e below (s₁.setTop (mkF m 23 #[.val (.int p0)] [(.int (1 : Int32))])) _
        exact k
      show Steps p.tables e below (s₁.setTop (mkF m 23 #[.val (.int p0)] [(.int (if (92 : Int32) = p0 then (0 : Int32) else (1 : Int32)))])) _
      exact k
    show Steps p.tables e below (s₁.setTop (mkF m 23 #[.val (.int p0)] [(.int (if (126 : Int32) < p0 then (0 : Int32) else (if (92 : Int32) = p0 then (0 : Int32) else (1 : Int32))))])) _
    exact k
  show Goes p.tables e below _ (s₁.setTop (mkF m 23 #[.val (.int p0)] [(.int (if p0 < (32 : Int32) then (0 : Int32) else (if (126 : Int32) < p0 then (0 : Int32) else (if (92 : Int32) = p0 then (0 : Int32) else (1 : Int32)))))]))
  refine Goes.retN X0 hx Bd.notSynchronized (t := .boolean) Bd.returns (by simp) (hb hby d1_23) (by decide) (by decide) ?_
  exact ⟨rfl, N0, e0⟩
theorem pd0 : parseMethodDescriptor "(C)Z" = some ⟨[.char], some .boolean⟩ := by decide +kernel
theorem pn1 : plainName "com/example/marginalia/marginalia/output/EscapesIsPlainPinLaw" = true := by first | (simp [plainName, overriddenIn]; done) | decide +kernel
theorem ef0 (m : MethodId) (p0 : Int32) (p1 : Int32) : entryFrame m #[(.int p0), (.int p1)] maxLocals = mkF m 0 #[.val (.int p0), .val (.int p1), .unset, .unset, .unset, .unset, .unset, .unset, .unset] [] := by first | (simp [entryFrame, mkF, argsToLocals, Value.category, maxLocals]; done) | rfl
theorem own_ix0_83 (p0 : Int32) (p1 : Int32) (v3_74 : Int32) (ev3_74 : v3_74 = (p1 &&& (15 : Int32))) (hc78_1 : v3_74 < (12 : Int32)) : ¬ v3_74 < 0 ∧ v3_74 < (12 : Int32) := by
  have b : (p1 &&& 15).toInt = p1.toInt % 16 := c_mask p1 15 4 (by decide) (by decide)
  rw [← ev3_74] at b
  refine ⟨?_, hc78_1⟩
  simp only [Int32.lt_iff_toInt_lt, Int32.reduceToInt]
  omega
theorem own_hc0_164 (p0 : Int32) (p1 : Int32) (v3_74 : Int32) (ev3_74 : v3_74 = (p1 &&& (15 : Int32))) (v4_94 : Int32) (ev4_94 : v4_94 = (if v3_74 < (12 : Int32) then (([(0 : Int32), (31 : Int32), (32 : Int32), (33 : Int32), (91 : Int32), (92 : Int32), (93 : Int32), (125 : Int32), (126 : Int32), (127 : Int32), (65535 : Int32), (65340 : Int32)].getD (v3_74).toNatClampNeg 0).toUInt32.toUInt16.toUInt32.toInt32) else (p0.toUInt32.toUInt16.toUInt32.toInt32))) (v6_117 : Int32) (ev6_117 : v6_117 = (if v4_94 < (32 : Int32) then (0 : Int32) else (if (91 : Int32) < v4_94 then (0 : Int32) else (1 : Int32)))) (v7_138 : Int32) (ev7_138 : v7_138 = (if v4_94 < (93 : Int32) then (0 : Int32) else (if (126 : Int32) < v4_94 then (0 : Int32) else (1 : Int32)))) (v8_155 : Int32) (ev8_155 : v8_155 = (if v6_117 = (0 : Int32) then (if v7_138 = (0 : Int32) then (0 : Int32) else (1 : Int32)) else (1 : Int32))) : (f1 v4_94) = v8_155 := by
  rw [ev8_155, ev7_138, ev6_117]
  clear ev8_155 ev7_138 ev6_117 ev4_94
  simp only [f1, Int32.lt_iff_toInt_lt, ← Int32.toInt_inj, apply_ite Int32.toInt, Int32.reduceToInt]
  repeat' split
  all_goals first | rfl | decide | (exfalso; omega)
def Q0 (Z : State) (p0 : Int32) (p1 : Int32) (h0 : Heap) (n0 : Nat) (v : Option Value) (h : Heap) (L : List Loc) : Prop := v = some (.int 1) ∧ Fr n0 L
set_option maxRecDepth 65536 in
set_option maxHeartbeats 40000000 in
theorem rm0 (l : Launch) (Z : State) (a0 : Array Value) (hw : ∀ d ∈ tables_1, d.before a0 Z = true) (ws : List Jvm.Cond) (p0 : Int32) (p1 : Int32) (h0 : Heap) (n0 : Nat) (Z0 : n0 ≤ h0.size) :
    MetFree l x (head1 (Jvm.Cond.code x code maxLocals ret :: ws) room_1) (fun a U => a = #[(.int p0), (.int p1)] ∧ Z.Warmed39 U.vm ∧ U.heap = h0) (fun _ _ _ _ _ => True) (fun _ U o U' => ∃ v L, o = .returned v ∧ Q0 Z p0 p1 h0 n0 v U'.heap L ∧ FrameEnd U o U' L room_1.cells room_1.slots) := by
  refine MetFree.of_bodySF (plainFor_of_name pn1) hisR ?_
  intro p e s m args below meth c s₁ Bd hml0 hP hK
  obtain ⟨rfl, hZ, hh⟩ := hP
  have hx := Bd.exec
  have hby := Bd.bytes
  have hml : c.maxLocals = 9 := hml0
  have hown : s.vm.findClass "com/example/marginalia/marginalia/output/EscapesIsPlainPinLaw" = some m.cls := findClass_of_methodNamed Bd.named
  have hnm := (name_of_methodNamed Bd.named Bd.method).1
  have X0 : Stand p l e room_1 s m #[(.int p0), (.int p1)] below meth c s₁ [] 0 0 := Stand.of_body Bd
  have e0 : s₁.heap = h0 := by rw [← hh, Bd.state]; rfl
  have N0 := Fr.nil n0
  refine Goes.out (Q := fun o U' => ∃ v L, o = .returned v ∧ Q0 Z p0 p1 h0 n0 v U'.heap L ∧ FrameEnd s o U' L room_1.cells room_1.slots) ?_
  refine Goes.step (S' := s₁.setTop (mkF m 0 #[.val (.int p0), .val (.int p1), .unset, .unset, .unset, .unset, .unset, .unset, .unset] [])) (fun _ k => castTop (ef0 m p0 p1) k) ?_
  refine Goes.step (S' := s₁.setTop (mkF m 2 #[.val (.int p0), .val (.int p1), .unset, .unset, .unset, .unset, .unset, .unset, .unset] [(.int (12 : Int32))])) (fun _ k => XS.bipush X0.here hx rfl (hb hby at_0) k) ?_
  obtain ⟨T1, h1, k1, X1, e1, E1, A1, st1⟩ := newP X0 hx hZ (hw _ (List.mem_of_getElem? (i := 0) rfl)) e0 (g := (mkF m 2 #[.val (.int p0), .val (.int p1), .unset, .unset, .unset, .unset, .unset, .unset, .unset] [(.int (12 : Int32))])) rfl (hb hby at_2) rfl (by decide) (cap := 12) (by decide) (by decide) (by decide) (by decide)
  obtain ⟨b1, g1⟩ : ∃ z, z = h0.size := ⟨_, rfl⟩
  rw [← g1] at A1 st1
  have g2 : n0 ≤ b1 := Nat.le_trans Z0 (Nat.le_of_eq g1.symm)
  have Z3 : n0 ≤ h1.size := Nat.le_trans Z0 E1.1
  have V4 : AI Z h1 b1 k1 .int (12 : Int32) [(0 : Int32), (0 : Int32), (0 : Int32), (0 : Int32), (0 : Int32), (0 : Int32), (0 : Int32), (0 : Int32), (0 : Int32), (0 : Int32), (0 : Int32), (0 : Int32)] := own_new A1 (by decide) rfl
  refine Goes.step (S' := T1.setTop (mkF m 4 #[.val (.int p0), .val (.int p1), .unset, .unset, .unset, .unset, .unset, .unset, .unset] [(.ref b1)])) st1 ?_
  refine Goes.step (S' := T1.setTop (mkF m 5 #[.val (.int p0), .val (.int p1), .unset, .unset, .unset, .unset, .unset, .unset, .unset] [(.ref b1), (.ref b1)])) (fun _ k => XS.dup X1.here hx rfl (hb hby at_4) rfl rfl k) ?_
  refine Goes.step (S' := T1.setTop (mkF m 6 #[.val (.int p0), .val (.int p1), .unset, .unset, .unset, .unset, .unset, .unset, .unset] [(.int (0 : Int32)), (.ref b1), (.ref b1)])) (fun _ k => XS.iconst X1.here hx rfl (hb hby at_5) k) ?_
  refine Goes.step (S' := T1.setTop (mkF m 7 #[.val (.int p0), .val (.int p1), .unset, .unset, .unset, .unset, .unset, .unset, .unset] [(.int (0 : Int32)), (.int (0 : Int32)), (.ref b1), (.ref b1)])) (fun _ k => XS.iconst X1.here hx rfl (hb hby at_6) k) ?_
  obtain ⟨T5, h5, X5, e5, W5, V_5, st5⟩ := own_iastore X1 hx hZ e1 V4 ⟨by decide, by decide⟩ (g := (mkF m 7 #[.val (.int p0), .val (.int p1), .unset, .unset, .unset, .unset, .unset, .unset, .unset] [(.int (0 : Int32)), (.int (0 : Int32)), (.ref b1), (.ref b1)])) rfl rfl (hb hby at_7)
  replace V_5 : AI Z h5 b1 k1 .int (12 : Int32) [(0 : Int32), (0 : Int32), (0 : Int32), (0 : Int32), (0 : Int32), (0 : Int32), (0 : Int32), (0 : Int32), (0 : Int32), (0 : Int32), (0 : Int32), (0 : Int32)] := V_5
  have N6 := Fr.snoc X5 N0 g2
  have Z7 : n0 ≤ h5.size := Nat.le_trans Z3 (Nat.le_of_eq W5.size.symm)
  refine Goes.step (S' := T5.setTop (mkF m 8 #[.val (.int p0), .val (.int p1), .unset, .unset, .unset, .unset, .unset, .unset, .unset] [(.ref b1)])) st5 ?_
  refine Goes.step (S' := T5.setTop (mkF m 9 #[.val (.int p0), .val (.int p1), .unset, .unset, .unset, .unset, .unset, .unset, .unset] [(.ref b1), (.ref b1)])) (fun _ k => XS.dup X5.here hx rfl (hb hby at_8) rfl rfl k) ?_
  refine Goes.step (S' := T5.setTop (mkF m 10 #[.val (.int p0), .val (.int p1), .unset, .unset, .unset, .unset, .unset, .unset, .unset] [(.int (1 : Int32)), (.ref b1), (.ref b1)])) (fun _ k => XS.iconst X5.here hx rfl (hb hby at_9) k) ?_
  refine Goes.step (S' := T5.setTop (mkF m 12 #[.val (.int p0), .val (.int p1), .unset, .unset, .unset, .unset, .unset, .unset, .unset] [(.int (31 : Int32)), (.int (1 : Int32)), (.ref b1), (.ref b1)])) (fun _ k => XS.bipush X5.here hx rfl (hb hby at_10) k) ?_
  obtain ⟨T8, h8, X8, e8, W8, V_8, st8⟩ := own_iastore X5 hx hZ e5 V_5 ⟨by decide, by decide⟩ (g := (mkF m 12 #[.val (.int p0), .val (.int p1), .unset, .unset, .unset, .unset, .unset, .unset, .unset] [(.int (31 : Int32)), (.int (1 : Int32)), (.ref b1), (.ref b1)])) rfl rfl (hb hby at_12)
  replace V_8 : AI Z h8 b1 k1 .int (12 : Int32) [(0 : Int32), (31 : Int32), (0 : Int32), (0 : Int32), (0 : Int32), (0 : Int32), (0 : Int32), (0 : Int32), (0 : Int32), (0 : Int32), (0 : Int32), (0 : Int32)] := V_8
  have N9 := Fr.snoc X8 N6 g2
  have Z10 : n0 ≤ h8.size := Nat.le_trans Z7 (Nat.le_of_eq W8.size.symm)
  refine Goes.step (S' := T8.setTop (mkF m 13 #[.val (.int p0), .val (.int p1), .unset, .unset, .unset, .unset, .unset, .unset, .unset] [(.ref b1)])) st8 ?_
  refine Goes.step (S' := T8.setTop (mkF m 14 #[.val (.int p0), .val (.int p1), .unset, .unset, .unset, .unset, .unset, .unset, .unset] [(.ref b1), (.ref b1)])) (fun _ k => XS.dup X8.here hx rfl (hb hby at_13) rfl rfl k) ?_
  refine Goes.step (S' := T8.setTop (mkF m 15 #[.val (.int p0), .val (.int p1), .unset, .unset, .unset, .unset, .unset, .unset, .unset] [(.int (2 : Int32)), (.ref b1), (.ref b1)])) (fun _ k => XS.iconst X8.here hx rfl (hb hby at_14) k) ?_
  refine Goes.step (S' := T8.setTop (mkF m 17 #[.val (.int p0), .val (.int p1), .unset, .unset, .unset, .unset, .unset, .unset, .unset] [(.int (32 : Int32)), (.int (2 : Int32)), (.ref b1), (.ref b1)])) (fun _ k => XS.bipush X8.here hx rfl (hb hby at_15) k) ?_
  obtain ⟨T11, h11, X11, e11, W11, V_11, st11⟩ := own_iastore X8 hx hZ e8 V_8 ⟨by decide, by decide⟩ (g := (mkF m 17 #[.val (.int p0), .val (.int p1), .unset, .unset, .unset, .unset, .unset, .unset, .unset] [(.int (32 : Int32)), (.int (2 : Int32)), (.ref b1), (.ref b1)])) rfl rfl (hb hby at_17)
  replace V_11 : AI Z h11 b1 k1 .int (12 : Int32) [(0 : Int32), (31 : Int32), (32 : Int32), (0 : Int32), (0 : Int32), (0 : Int32), (0 : Int32), (0 : Int32), (0 : Int32), (0 : Int32), (0 : Int32), (0 : Int32)] := V_11
  have N12 := Fr.snoc X11 N9 g2
  have Z13 : n0 ≤ h11.size := Nat.le_trans Z10 (Nat.le_of_eq W11.size.symm)
  refine Goes.step (S' := T11.setTop (mkF m 18 #[.val (.int p0), .val (.int p1), .unset, .unset, .unset, .unset, .unset, .unset, .unset] [(.ref b1)])) st11 ?_
  refine Goes.step (S' := T11.setTop (mkF m 19 #[.val (.int p0), .val (.int p1), .unset, .unset, .unset, .unset, .unset, .unset, .unset] [(.ref b1), (.ref b1)])) (fun _ k => XS.dup X11.here hx rfl (hb hby at_18) rfl rfl k) ?_
  refine Goes.step (S' := T11.setTop (mkF m 20 #[.val (.int p0), .val (.int p1), .unset, .unset, .unset, .unset, .unset, .unset, .unset] [(.int (3 : Int32)), (.ref b1), (.ref b1)])) (fun _ k => XS.iconst X11.here hx rfl (hb hby at_19) k) ?_
  refine Goes.step (S' := T11.setTop (mkF m 22 #[.val (.int p0), .val (.int p1), .unset, .unset, .unset, .unset, .unset, .unset, .unset] [(.int (33 : Int32)), (.int (3 : Int32)), (.ref b1), (.ref b1)])) (fun _ k => XS.bipush X11.here hx rfl (hb hby at_20) k) ?_
  obtain ⟨T14, h14, X14, e14, W14, V_14, st14⟩ := own_iastore X11 hx hZ e11 V_11 ⟨by decide, by decide⟩ (g := (mkF m 22 #[.val (.int p0), .val (.int p1), .unset, .unset, .unset, .unset, .unset, .unset, .unset] [(.int (33 : Int32)), (.int (3 : Int32)), (.ref b1), (.ref b1)])) rfl rfl (hb hby at_22)
  replace V_14 : AI Z h14 b1 k1 .int (12 : Int32) [(0 : Int32), (31 : Int32), (32 : Int32), (33 : Int32), (0 : Int32), (0 : Int32), (0 : Int32), (0 : Int32), (0 : Int32), (0 : Int32), (0 : Int32), (0 : Int32)] := V_14
  have N15 := Fr.snoc X14 N12 g2
  have Z16 : n0 ≤ h14.size := Nat.le_trans Z13 (Nat.le_of_eq W14.size.symm)
  refine Goes.step (S' := T14.setTop (mkF m 23 #[.val (.int p0), .val (.int p1), .unset, .unset, .unset, .unset, .unset, .unset, .unset] [(.ref b1)])) st14 ?_
  refine Goes.step (S' := T14.setTop (mkF m 24 #[.val (.int p0), .val (.int p1), .unset, .unset, .unset, .unset, .unset, .unset, .unset] [(.ref b1), (.ref b1)])) (fun _ k => XS.dup X14.here hx rfl (hb hby at_23) rfl rfl k) ?_
  refine Goes.step (S' := T14.setTop (mkF m 25 #[.val (.int p0), .val (.int p1), .unset, .unset, .unset, .unset, .unset, .unset, .unset] [(.int (4 : Int32)), (.ref b1), (.ref b1)])) (fun _ k => XS.iconst X14.here hx rfl (hb hby at_24) k) ?_
  refine Goes.step (S' := T14.setTop (mkF m 27 #[.val (.int p0), .val (.int p1), .unset, .unset, .unset, .unset, .unset, .unset, .unset] [(.int (91 : Int32)), (.int (4 : Int32)), (.ref b1), (.ref b1)])) (fun _ k => XS.bipush X14.here hx rfl (hb hby at_25) k) ?_
  obtain ⟨T17, h17, X17, e17, W17, V_17, st17⟩ := own_iastore X14 hx hZ e14 V_14 ⟨by decide, by decide⟩ (g := (mkF m 27 #[.val (.int p0), .val (.int p1), .unset, .unset, .unset, .unset, .unset, .unset, .unset] [(.int (91 : Int32)), (.int (4 : Int32)), (.ref b1), (.ref b1)])) rfl rfl (hb hby at_27)
  replace V_17 : AI Z h17 b1 k1 .int (12 : Int32) [(0 : Int32), (31 : Int32), (32 : Int32), (33 : Int32), (91 : Int32), (0 : Int32), (0 : Int32), (0 : Int32), (0 : Int32), (0 : Int32), (0 : Int32), (0 : Int32)] := V_17
  have N18 := Fr.snoc X17 N15 g2
  have Z19 : n0 ≤ h17.size := Nat.le_trans Z16 (Nat.le_of_eq W17.size.symm)
  refine Goes.step (S' := T17.setTop (mkF m 28 #[.val (.int p0), .val (.int p1), .unset, .unset, .unset, .unset, .unset, .unset, .unset] [(.ref b1)])) st17 ?_
  refine Goes.step (S' := T17.setTop (mkF m 29 #[.val (.int p0), .val (.int p1), .unset, .unset, .unset, .unset, .unset, .unset, .unset] [(.ref b1), (.ref b1)])) (fun _ k => XS.dup X17.here hx rfl (hb hby at_28) rfl rfl k) ?_
  refine Goes.step (S' := T17.setTop (mkF m 30 #[.val (.int p0), .val (.int p1), .unset, .unset, .unset, .unset, .unset, .unset, .unset] [(.int (5 : Int32)), (.ref b1), (.ref b1)])) (fun _ k => XS.iconst X17.here hx rfl (hb hby at_29) k) ?_
  refine Goes.step (S' := T17.setTop (mkF m 32 #[.val (.int p0), .val (.int p1), .unset, .unset, .unset, .unset, .unset, .unset, .unset] [(.int (92 : Int32)), (.int (5 : Int32)), (.ref b1), (.ref b1)])) (fun _ k => XS.bipush X17.here hx rfl (hb hby at_30) k) ?_
  obtain ⟨T20, h20, X20, e20, W20, V_20, st20⟩ := own_iastore X17 hx hZ e17 V_17 ⟨by decide, by decide⟩ (g := (mkF m 32 #[.val (.int p0), .val (.int p1), .unset, .unset, .unset, .unset, .unset, .unset, .unset] [(.int (92 : Int32)), (.int (5 : Int32)), (.ref b1), (.ref b1)])) rfl rfl (hb hby at_32)
  replace V_20 : AI Z h20 b1 k1 .int (12 : Int32) [(0 : Int32), (31 : Int32), (32 : Int32), (33 : Int32), (91 : Int32), (92 : Int32), (0 : Int32), (0 : Int32), (0 : Int32), (0 : Int32), (0 : Int32), (0 : Int32)] := V_20
  have N21 := Fr.snoc X20 N18 g2
  have Z22 : n0 ≤ h20.size := Nat.le_trans Z19 (Nat.le_of_eq W20.size.symm)
  refine Goes.step (S' := T20.setTop (mkF m 33 #[.val (.int p0), .val (.int p1), .unset, .unset, .unset, .unset, .unset, .unset, .unset] [(.ref b1)])) st20 ?_
  refine Goes.step (S' := T20.setTop (mkF m 34 #[.val (.int p0), .val (.int p1), .unset, .unset, .unset, .unset, .unset, .unset, .unset] [(.ref b1), (.ref b1)])) (fun _ k => XS.dup X20.here hx rfl (hb hby at_33) rfl rfl k) ?_
  refine Goes.step (S' := T20.setTop (mkF m 36 #[.val (.int p0), .val (.int p1), .unset, .unset, .unset, .unset, .unset, .unset, .unset] [(.int (6 : Int32)), (.ref b1), (.ref b1)])) (fun _ k => XS.bipush X20.here hx rfl (hb hby at_34) k) ?_
  refine Goes.step (S' := T20.setTop (mkF m 38 #[.val (.int p0), .val (.int p1), .unset, .unset, .unset, .unset, .unset, .unset, .unset] [(.int (93 : Int32)), (.int (6 : Int32)), (.ref b1), (.ref b1)])) (fun _ k => XS.bipush X20.here hx rfl (hb hby at_36) k) ?_
  obtain ⟨T23, h23, X23, e23, W23, V_23, st23⟩ := own_iastore X20 hx hZ e20 V_20 ⟨by decide, by decide⟩ (g := (mkF m 38 #[.val (.int p0), .val (.int p1), .unset, .unset, .unset, .unset, .unset, .unset, .unset] [(.int (93 : Int32)), (.int (6 : Int32)), (.ref b1), (.ref b1)])) rfl rfl (hb hby at_38)
  replace V_23 : AI Z h23 b1 k1 .int (12 : Int32) [(0 : Int32), (31 : Int32), (32 : Int32), (33 : Int32), (91 : Int32), (92 : Int32), (93 : Int32), (0 : Int32), (0 : Int32), (0 : Int32), (0 : Int32), (0 : Int32)] := V_23
  have N24 := Fr.snoc X23 N21 g2
  have Z25 : n0 ≤ h23.size := Nat.le_trans Z22 (Nat.le_of_eq W23.size.symm)
  refine Goes.step (S' := T23.setTop (mkF m 39 #[.val (.int p0), .val (.int p1), .unset, .unset, .unset, .unset, .unset, .unset, .unset] [(.ref b1)])) st23 ?_
  refine Goes.step (S' := T23.setTop (mkF m 40 #[.val (.int p0), .val (.int p1), .unset, .unset, .unset, .unset, .unset, .unset, .unset] [(.ref b1), (.ref b1)])) (fun _ k => XS.dup X23.here hx rfl (hb hby at_39) rfl rfl k) ?_
  refine Goes.step (S' := T23.setTop (mkF m 42 #[.val (.int p0), .val (.int p1), .unset, .unset, .unset, .unset, .unset, .unset, .unset] [(.int (7 : Int32)), (.ref b1), (.ref b1)])) (fun _ k => XS.bipush X23.here hx rfl (hb hby at_40) k) ?_
  refine Goes.step (S' := T23.setTop (mkF m 44 #[.val (.int p0), .val (.int p1), .unset, .unset, .unset, .unset, .unset, .unset, .unset] [(.int (125 : Int32)), (.int (7 : Int32)), (.ref b1), (.ref b1)])) (fun _ k => XS.bipush X23.here hx rfl (hb hby at_42) k) ?_
  obtain ⟨T26, h26, X26, e26, W26, V_26, st26⟩ := own_iastore X23 hx hZ e23 V_23 ⟨by decide, by decide⟩ (g := (mkF m 44 #[.val (.int p0), .val (.int p1), .unset, .unset, .unset, .unset, .unset, .unset, .unset] [(.int (125 : Int32)), (.int (7 : Int32)), (.ref b1), (.ref b1)])) rfl rfl (hb hby at_44)
  replace V_26 : AI Z h26 b1 k1 .int (12 : Int32) [(0 : Int32), (31 : Int32), (32 : Int32), (33 : Int32), (91 : Int32), (92 : Int32), (93 : Int32), (125 : Int32), (0 : Int32), (0 : Int32), (0 : Int32), (0 : Int32)] := V_26
  have N27 := Fr.snoc X26 N24 g2
  have Z28 : n0 ≤ h26.size := Nat.le_trans Z25 (Nat.le_of_eq W26.size.symm)
  refine Goes.step (S' := T26.setTop (mkF m 45 #[.val (.int p0), .val (.int p1), .unset, .unset, .unset, .unset, .unset, .unset, .unset] [(.ref b1)])) st26 ?_
  refine Goes.step (S' := T26.setTop (mkF m 46 #[.val (.int p0), .val (.int p1), .unset, .unset, .unset, .unset, .unset, .unset, .unset] [(.ref b1), (.ref b1)])) (fun _ k => XS.dup X26.here hx rfl (hb hby at_45) rfl rfl k) ?_
  refine Goes.step (S' := T26.setTop (mkF m 48 #[.val (.int p0), .val (.int p1), .unset, .unset, .unset, .unset, .unset, .unset, .unset] [(.int (8 : Int32)), (.ref b1), (.ref b1)])) (fun _ k => XS.bipush X26.here hx rfl (hb hby at_46) k) ?_
  refine Goes.step (S' := T26.setTop (mkF m 50 #[.val (.int p0), .val (.int p1), .unset, .unset, .unset, .unset, .unset, .unset, .unset] [(.int (126 : Int32)), (.int (8 : Int32)), (.ref b1), (.ref b1)])) (fun _ k => XS.bipush X26.here hx rfl (hb hby at_48) k) ?_
  obtain ⟨T29, h29, X29, e29, W29, V_29, st29⟩ := own_iastore X26 hx hZ e26 V_26 ⟨by decide, by decide⟩ (g := (mkF m 50 #[.val (.int p0), .val (.int p1), .unset, .unset, .unset, .unset, .unset, .unset, .unset] [(.int (126 : Int32)), (.int (8 : Int32)), (.ref b1), (.ref b1)])) rfl rfl (hb hby at_50)
  replace V_29 : AI Z h29 b1 k1 .int (12 : Int32) [(0 : Int32), (31 : Int32), (32 : Int32), (33 : Int32), (91 : Int32), (92 : Int32), (93 : Int32), (125 : Int32), (126 : Int32), (0 : Int32), (0 : Int32), (0 : Int32)] := V_29
  have N30 := Fr.snoc X29 N27 g2
  have Z31 : n0 ≤ h29.size := Nat.le_trans Z28 (Nat.le_of_eq W29.size.symm)
  refine Goes.step (S' := T29.setTop (mkF m 51 #[.val (.int p0), .val (.int p1), .unset, .unset, .unset, .unset, .unset, .unset, .unset] [(.ref b1)])) st29 ?_
  refine Goes.step (S' := T29.setTop (mkF m 52 #[.val (.int p0), .val (.int p1), .unset, .unset, .unset, .unset, .unset, .unset, .unset] [(.ref b1), (.ref b1)])) (fun _ k => XS.dup X29.here hx rfl (hb hby at_51) rfl rfl k) ?_
  refine Goes.step (S' := T29.setTop (mkF m 54 #[.val (.int p0), .val (.int p1), .unset, .unset, .unset, .unset, .unset, .unset, .unset] [(.int (9 : Int32)), (.ref b1), (.ref b1)])) (fun _ k => XS.bipush X29.here hx rfl (hb hby at_52) k) ?_
  refine Goes.step (S' := T29.setTop (mkF m 56 #[.val (.int p0), .val (.int p1), .unset, .unset, .unset, .unset, .unset, .unset, .unset] [(.int (127 : Int32)), (.int (9 : Int32)), (.ref b1), (.ref b1)])) (fun _ k => XS.bipush X29.here hx rfl (hb hby at_54) k) ?_
  obtain ⟨T32, h32, X32, e32, W32, V_32, st32⟩ := own_iastore X29 hx hZ e29 V_29 ⟨by decide, by decide⟩ (g := (mkF m 56 #[.val (.int p0), .val (.int p1), .unset, .unset, .unset, .unset, .unset, .unset, .unset] [(.int (127 : Int32)), (.int (9 : Int32)), (.ref b1), (.ref b1)])) rfl rfl (hb hby at_56)
  replace V_32 : AI Z h32 b1 k1 .int (12 : Int32) [(0 : Int32), (31 : Int32), (32 : Int32), (33 : Int32), (91 : Int32), (92 : Int32), (93 : Int32), (125 : Int32), (126 : Int32), (127 : Int32), (0 : Int32), (0 : Int32)] := V_32
  have N33 := Fr.snoc X32 N30 g2
  have Z34 : n0 ≤ h32.size := Nat.le_trans Z31 (Nat.le_of_eq W32.size.symm)
  refine Goes.step (S' := T32.setTop (mkF m 57 #[.val (.int p0), .val (.int p1), .unset, .unset, .unset, .unset, .unset, .unset, .unset] [(.ref b1)])) st32 ?_
  refine Goes.step (S' := T32.setTop (mkF m 58 #[.val (.int p0), .val (.int p1), .unset, .unset, .unset, .unset, .unset, .unset, .unset] [(.ref b1), (.ref b1)])) (fun _ k => XS.dup X32.here hx rfl (hb hby at_57) rfl rfl k) ?_
  refine Goes.step (S' := T32.setTop (mkF m 60 #[.val (.int p0), .val (.int p1), .unset, .unset, .unset, .unset, .unset, .unset, .unset] [(.int (10 : Int32)), (.ref b1), (.ref b1)])) (fun _ k => XS.bipush X32.here hx rfl (hb hby at_58) k) ?_
  refine Goes.step (S' := T32.setTop (mkF m 62 #[.val (.int p0), .val (.int p1), .unset, .unset, .unset, .unset, .unset, .unset, .unset] [(.int (65535 : Int32)), (.int (10 : Int32)), (.ref b1), (.ref b1)])) (fun _ k => X32.ldcInt hx hown (mvT hZ (hw _ (List.mem_of_getElem? (i := 1) rfl))) (g := (mkF m 60 #[.val (.int p0), .val (.int p1), .unset, .unset, .unset, .unset, .unset, .unset, .unset] [(.int (10 : Int32)), (.ref b1), (.ref b1)])) rfl (hb hby at_60) _ k) ?_
  obtain ⟨T35, h35, X35, e35, W35, V_35, st35⟩ := own_iastore X32 hx hZ e32 V_32 ⟨by decide, by decide⟩ (g := (mkF m 62 #[.val (.int p0), .val (.int p1), .unset, .unset, .unset, .unset, .unset, .unset, .unset] [(.int (65535 : Int32)), (.int (10 : Int32)), (.ref b1), (.ref b1)])) rfl rfl (hb hby at_62)
  replace V_35 : AI Z h35 b1 k1 .int (12 : Int32) [(0 : Int32), (31 : Int32), (32 : Int32), (33 : Int32), (91 : Int32), (92 : Int32), (93 : Int32), (125 : Int32), (126 : Int32), (127 : Int32), (65535 : Int32), (0 : Int32)] := V_35
  have N36 := Fr.snoc X35 N33 g2
  have Z37 : n0 ≤ h35.size := Nat.le_trans Z34 (Nat.le_of_eq W35.size.symm)
  refine Goes.step (S' := T35.setTop (mkF m 63 #[.val (.int p0), .val (.int p1), .unset, .unset, .unset, .unset, .unset, .unset, .unset] [(.ref b1)])) st35 ?_
  refine Goes.step (S' := T35.setTop (mkF m 64 #[.val (.int p0), .val (.int p1), .unset, .unset, .unset, .unset, .unset, .unset, .unset] [(.ref b1), (.ref b1)])) (fun _ k => XS.dup X35.here hx rfl (hb hby at_63) rfl rfl k) ?_
  refine Goes.step (S' := T35.setTop (mkF m 66 #[.val (.int p0), .val (.int p1), .unset, .unset, .unset, .unset, .unset, .unset, .unset] [(.int (11 : Int32)), (.ref b1), (.ref b1)])) (fun _ k => XS.bipush X35.here hx rfl (hb hby at_64) k) ?_
  refine Goes.step (S' := T35.setTop (mkF m 68 #[.val (.int p0), .val (.int p1), .unset, .unset, .unset, .unset, .unset, .unset, .unset] [(.int (65340 : Int32)), (.int (11 : Int32)), (.ref b1), (.ref b1)])) (fun _ k => X35.ldcInt hx hown (mvT hZ (hw _ (List.mem_of_getElem? (i := 2) rfl))) (g := (mkF m 66 #[.val (.int p0), .val (.int p1), .unset, .unset, .unset, .unset, .unset, .unset, .unset] [(.int (11 : Int32)), (.ref b1), (.ref b1)])) rfl (hb hby at_66) _ k) ?_
  obtain ⟨T38, h38, X38, e38, W38, V_38, st38⟩ := own_iastore X35 hx hZ e35 V_35 ⟨by decide, by decide⟩ (g := (mkF m 68 #[.val (.int p0), .val (.int p1), .unset, .unset, .unset, .unset, .unset, .unset, .unset] [(.int (65340 : Int32)), (.int (11 : Int32)), (.ref b1), (.ref b1)])) rfl rfl (hb hby at_68)
  replace V_38 : AI Z h38 b1 k1 .int (12 : Int32) [(0 : Int32), (31 : Int32), (32 : Int32), (33 : Int32), (91 : Int32), (92 : Int32), (93 : Int32), (125 : Int32), (126 : Int32), (127 : Int32), (65535 : Int32), (65340 : Int32)] := V_38
  have N39 := Fr.snoc X38 N36 g2
  have Z40 : n0 ≤ h38.size := Nat.le_trans Z37 (Nat.le_of_eq W38.size.symm)
  refine Goes.step (S' := T38.setTop (mkF m 69 #[.val (.int p0), .val (.int p1), .unset, .unset, .unset, .unset, .unset, .unset, .unset] [(.ref b1)])) st38 ?_
  refine Goes.step (S' := T38.setTop (mkF m 70 #[.val (.int p0), .val (.int p1), .val (.ref b1), .unset, .unset, .unset, .unset, .unset, .unset] [])) (fun _ k => XS.astoreN X38.here hx rfl (hb hby at_69) rfl rfl (l' := #[.val (.int p0), .val (.int p1), .val (.ref b1), .unset, .unset, .unset, .unset, .unset, .unset]) rfl k) ?_
  refine Goes.step (S' := T38.setTop (mkF m 71 #[.val (.int p0), .val (.int p1), .val (.ref b1), .unset, .unset, .unset, .unset, .unset, .unset] [(.int p1)])) (fun _ k => XS.iloadN X38.here hx rfl (hb hby at_70) rfl  k) ?_
  refine Goes.step (S' := T38.setTop (mkF m 73 #[.val (.int p0), .val (.int p1), .val (.ref b1), .unset, .unset, .unset, .unset, .unset, .unset] [(.int (15 : Int32)), (.int p1)])) (fun _ k => XS.bipush X38.here hx rfl (hb hby at_71) k) ?_
  refine Goes.step (S' := T38.setTop (mkF m 74 #[.val (.int p0), .val (.int p1), .val (.ref b1), .unset, .unset, .unset, .unset, .unset, .unset] [(.int (p1 &&& (15 : Int32)))])) (fun _ k => XS.iand X38.here hx rfl (hb hby at_73) rfl k) ?_
  refine Goes.step (S' := T38.setTop (mkF m 75 #[.val (.int p0), .val (.int p1), .val (.ref b1), .val (.int (p1 &&& (15 : Int32))), .unset, .unset, .unset, .unset, .unset] [])) (fun _ k => XS.istoreN X38.here hx rfl (hb hby at_74) rfl (l' := #[.val (.int p0), .val (.int p1), .val (.ref b1), .val (.int (p1 &&& (15 : Int32))), .unset, .unset, .unset, .unset, .unset]) rfl k) ?_
  obtain ⟨v3_74, ev3_74⟩ : ∃ z : Int32, z = (p1 &&& (15 : Int32)) := ⟨_, rfl⟩
  rw [← ev3_74]
  refine Goes.step (S' := T38.setTop (mkF m 76 #[.val (.int p0), .val (.int p1), .val (.ref b1), .val (.int v3_74), .unset, .unset, .unset, .unset, .unset] [(.int v3_74)])) (fun _ k => XS.iloadN X38.here hx rfl (hb hby at_75) rfl  k) ?_
  refine Goes.step (S' := T38.setTop (mkF m 78 #[.val (.int p0), .val (.int p1), .val (.ref b1), .val (.int v3_74), .unset, .unset, .unset, .unset, .unset] [(.int (12 : Int32)), (.int v3_74)])) (fun _ k => XS.bipush X38.here hx rfl (hb hby at_76) k) ?_
  refine Goes.step (own_ite1 (T := T38) (c := v3_74 < (12 : Int32)) (a0 := (([(0 : Int32), (31 : Int32), (32 : Int32), (33 : Int32), (91 : Int32), (92 : Int32), (93 : Int32), (125 : Int32), (126 : Int32), (127 : Int32), (65535 : Int32), (65340 : Int32)].getD (v3_74).toNatClampNeg 0).toUInt32.toUInt16.toUInt32.toInt32)) (b0 := (p0.toUInt32.toUInt16.toUInt32.toInt32)) (F := fun z1_0 => (mkF m 94 #[.val (.int p0), .val (.int p1), .val (.ref b1), .val (.int v3_74), .val (.int z1_0), .unset, .unset, .unset, .unset] [])) ?_ ?_) ?_
  · intro hc78_1 t k
    refine XS.icmpNo X38.here hx rfl (hb hby at_78) rfl (tlt hc78_1).2.1 ?_
    show Steps p.tables e below (T38.setTop (mkF m 81 #[.val (.int p0), .val (.int p1), .val (.ref b1), .val (.int v3_74), .unset, .unset, .unset, .unset, .unset] [])) _
    refine XS.aloadN X38.here hx rfl (hb hby at_81) rfl rfl ?_
    show Steps p.tables e below (T38.setTop (mkF m 82 #[.val (.int p0), .val (.int p1), .val (.ref b1), .val (.int v3_74), .unset, .unset, .unset, .unset, .unset] [(.ref b1)])) _
    refine XS.iloadN X38.here hx rfl (hb hby at_82) rfl  ?_
    show Steps p.tables e below (T38.setTop (mkF m 83 #[.val (.int p0), .val (.int p1), .val (.ref b1), .val (.int v3_74), .unset, .unset, .unset, .unset, .unset] [(.int v3_74), (.ref b1)])) _
    refine own_iaload X38 hx hZ e38 V_38 (own_ix0_83 p0 p1 v3_74 ev3_74 hc78_1) (hb hby at_83) _ ?_
    show Steps p.tables e below (T38.setTop (mkF m 84 #[.val (.int p0), .val (.int p1), .val (.ref b1), .val (.int v3_74), .unset, .unset, .unset, .unset, .unset] [(.int ([(0 : Int32), (31 : Int32), (32 : Int32), (33 : Int32), (91 : Int32), (92 : Int32), (93 : Int32), (125 : Int32), (126 : Int32), (127 : Int32), (65535 : Int32), (65340 : Int32)].getD (v3_74).toNatClampNeg 0))])) _
    refine XS.i2c X38.here hx rfl (hb hby at_84) rfl ?_
    show Steps p.tables e below (T38.setTop (mkF m 85 #[.val (.int p0), .val (.int p1), .val (.ref b1), .val (.int v3_74), .unset, .unset, .unset, .unset, .unset] [(.int (([(0 : Int32), (31 : Int32), (32 : Int32), (33 : Int32), (91 : Int32), (92 : Int32), (93 : Int32), (125 : Int32), (126 : Int32), (127 : Int32), (65535 : Int32), (65340 : Int32)].getD (v3_74).toNatClampNeg 0).toUInt32.toUInt16.toUInt32.toInt32))])) _
    refine XS.istore X38.here hx rfl (hb hby at_85) rfl (l' := #[.val (.int p0), .val (.int p1), .val (.ref b1), .val (.int v3_74), .val (.int (([(0 : Int32), (31 : Int32), (32 : Int32), (33 : Int32), (91 : Int32), (92 : Int32), (93 : Int32), (125 : Int32), (126 : Int32), (127 : Int32), (65535 : Int32), (65340 : Int32)].getD (v3_74).toNatClampNeg 0).toUInt32.toUInt16.toUInt32.toInt32)), .unset, .unset, .unset, .unset]) rfl ?_
    show Steps p.tables e below (T38.setTop (mkF m 87 #[.val (.int p0), .val (.int p1), .val (.ref b1), .val (.int v3_74), .val (.int (([(0 : Int32), (31 : Int32), (32 : Int32), (33 : Int32), (91 : Int32), (92 : Int32), (93 : Int32), (125 : Int32), (126 : Int32), (127 : Int32), (65535 : Int32), (65340 : Int32)].getD (v3_74).toNatClampNeg 0).toUInt32.toUInt16.toUInt32.toInt32)), .unset, .unset, .unset, .unset] [])) _
    refine XS.goto X38.here hx rfl (pc0 := 87) (pc' := 94) rfl (hb hby at_87) (by decide) (by decide) ?_
    show Steps p.tables e below (T38.setTop (mkF m 94 #[.val (.int p0), .val (.int p1), .val (.ref b1), .val (.int v3_74), .val (.int (([(0 : Int32), (31 : Int32), (32 : Int32), (33 : Int32), (91 : Int32), (92 : Int32), (93 : Int32), (125 : Int32), (126 : Int32), (127 : Int32), (65535 : Int32), (65340 : Int32)].getD (v3_74).toNatClampNeg 0).toUInt32.toUInt16.toUInt32.toInt32)), .unset, .unset, .unset, .unset] [])) _
    exact k
  · intro hc78_1 t k
    refine XS.icmpYes X38.here hx rfl (pc0 := 78) (pc' := 90) rfl (hb hby at_78) rfl (flt hc78_1).2.1 (by decide) (by decide) ?_
    show Steps p.tables e below (T38.setTop (mkF m 90 #[.val (.int p0), .val (.int p1), .val (.ref b1), .val (.int v3_74), .unset, .unset, .unset, .unset, .unset] [])) _
    refine XS.iloadN X38.here hx rfl (hb hby at_90) rfl  ?_
    show Steps p.tables e below (T38.setTop (mkF m 91 #[.val (.int p0), .val (.int p1), .val (.ref b1), .val (.int v3_74), .unset, .unset, .unset, .unset, .unset] [(.int p0)])) _
    refine XS.i2c X38.here hx rfl (hb hby at_91) rfl ?_
    show Steps p.tables e below (T38.setTop (mkF m 92 #[.val (.int p0), .val (.int p1), .val (.ref b1), .val (.int v3_74), .unset, .unset, .unset, .unset, .unset] [(.int (p0.toUInt32.toUInt16.toUInt32.toInt32))])) _
    refine XS.istore X38.here hx rfl (hb hby at_92) rfl (l' := #[.val (.int p0), .val (.int p1), .val (.ref b1), .val (.int v3_74), .val (.int (p0.toUInt32.toUInt16.toUInt32.toInt32)), .unset, .unset, .unset, .unset]) rfl ?_
    show Steps p.tables e below (T38.setTop (mkF m 94 #[.val (.int p0), .val (.int p1), .val (.ref b1), .val (.int v3_74), .val (.int (p0.toUInt32.toUInt16.toUInt32.toInt32)), .unset, .unset, .unset, .unset] [])) _
    exact k
  show Goes p.tables e below _ (T38.setTop (mkF m 94 #[.val (.int p0), .val (.int p1), .val (.ref b1), .val (.int v3_74), .val (.int (if v3_74 < (12 : Int32) then (([(0 : Int32), (31 : Int32), (32 : Int32), (33 : Int32), (91 : Int32), (92 : Int32), (93 : Int32), (125 : Int32), (126 : Int32), (127 : Int32), (65535 : Int32), (65340 : Int32)].getD (v3_74).toNatClampNeg 0).toUInt32.toUInt16.toUInt32.toInt32) else (p0.toUInt32.toUInt16.toUInt32.toInt32))), .unset, .unset, .unset, .unset] []))
  obtain ⟨v4_94, ev4_94⟩ : ∃ z : Int32, z = (if v3_74 < (12 : Int32) then (([(0 : Int32), (31 : Int32), (32 : Int32), (33 : Int32), (91 : Int32), (92 : Int32), (93 : Int32), (125 : Int32), (126 : Int32), (127 : Int32), (65535 : Int32), (65340 : Int32)].getD (v3_74).toNatClampNeg 0).toUInt32.toUInt16.toUInt32.toInt32) else (p0.toUInt32.toUInt16.toUInt32.toInt32)) := ⟨_, rfl⟩
  rw [← ev4_94]
  refine Goes.step (S' := T38.setTop (mkF m 96 #[.val (.int p0), .val (.int p1), .val (.ref b1), .val (.int v3_74), .val (.int v4_94), .unset, .unset, .unset, .unset] [(.int v4_94)])) (fun _ k => XS.iload X38.here hx rfl (hb hby at_94) rfl  k) ?_
  refine Goes.step (S' := T38.setTop (mkF m 98 #[.val (.int p0), .val (.int p1), .val (.ref b1), .val (.int v3_74), .val (.int v4_94), .val (.int v4_94), .unset, .unset, .unset] [])) (fun _ k => XS.istore X38.here hx rfl (hb hby at_96) rfl (l' := #[.val (.int p0), .val (.int p1), .val (.ref b1), .val (.int v3_74), .val (.int v4_94), .val (.int v4_94), .unset, .unset, .unset]) rfl k) ?_
  refine Goes.step (S' := T38.setTop (mkF m 100 #[.val (.int p0), .val (.int p1), .val (.ref b1), .val (.int v3_74), .val (.int v4_94), .val (.int v4_94), .unset, .unset, .unset] [(.int v4_94)])) (fun _ k => XS.iload X38.here hx rfl (hb hby at_98) rfl  k) ?_
  refine Goes.step (S' := T38.setTop (mkF m 102 #[.val (.int p0), .val (.int p1), .val (.ref b1), .val (.int v3_74), .val (.int v4_94), .val (.int v4_94), .unset, .unset, .unset] [(.int (32 : Int32)), (.int v4_94)])) (fun _ k => XS.bipush X38.here hx rfl (hb hby at_100) k) ?_
  refine Goes.step (own_ite1 (T := T38) (c := v4_94 < (32 : Int32)) (a0 := (0 : Int32)) (b0 := (if (91 : Int32) < v4_94 then (0 : Int32) else (1 : Int32))) (F := fun z3_0 => (mkF m 117 #[.val (.int p0), .val (.int p1), .val (.ref b1), .val (.int v3_74), .val (.int v4_94), .val (.int v4_94), .unset, .unset, .unset] [(.int z3_0)])) ?_ ?_) ?_
  · intro hc102_2 t k
    refine XS.icmpYes X38.here hx rfl (pc0 := 102) (pc' := 116) rfl (hb hby at_102) rfl (tlt hc102_2).1 (by decide) (by decide) ?_
    show Steps p.tables e below (T38.setTop (mkF m 116 #[.val (.int p0), .val (.int p1), .val (.ref b1), .val (.int v3_74), .val (.int v4_94), .val (.int v4_94), .unset, .unset, .unset] [])) _
    refine XS.iconst X38.here hx rfl (hb hby at_116) ?_
    show Steps p.tables e below (T38.setTop (mkF m 117 #[.val (.int p0), .val (.int p1), .val (.ref b1), .val (.int v3_74), .val (.int v4_94), .val (.int v4_94), .unset, .unset, .unset] [(.int (0 : Int32))])) _
    exact k
  · intro hc102_2 t k
    refine XS.icmpNo X38.here hx rfl (hb hby at_102) rfl (flt hc102_2).1 ?_
    show Steps p.tables e below (T38.setTop (mkF m 105 #[.val (.int p0), .val (.int p1), .val (.ref b1), .val (.int v3_74), .val (.int v4_94), .val (.int v4_94), .unset, .unset, .unset] [])) _
    refine XS.iload X38.here hx rfl (hb hby at_105) rfl  ?_
    show Steps p.tables e below (T38.setTop (mkF m 107 #[.val (.int p0), .val (.int p1), .val (.ref b1), .val (.int v3_74), .val (.int v4_94), .val (.int v4_94), .unset, .unset, .unset] [(.int v4_94)])) _
    refine XS.bipush X38.here hx rfl (hb hby at_107) ?_
    show Steps p.tables e below (T38.setTop (mkF m 109 #[.val (.int p0), .val (.int p1), .val (.ref b1), .val (.int v3_74), .val (.int v4_94), .val (.int v4_94), .unset, .unset, .unset] [(.int (91 : Int32)), (.int v4_94)])) _
    refine own_ite1 (T := T38) (c := (91 : Int32) < v4_94) (a0 := (0 : Int32)) (b0 := (1 : Int32)) (F := fun z3_0 => (mkF m 117 #[.val (.int p0), .val (.int p1), .val (.ref b1), .val (.int v3_74), .val (.int v4_94), .val (.int v4_94), .unset, .unset, .unset] [(.int z3_0)])) ?_ ?_ _ ?_
    · intro hc109_3 t k
      refine XS.icmpYes X38.here hx rfl (pc0 := 109) (pc' := 116) rfl (hb hby at_109) rfl (tlt hc109_3).2.2.1 (by decide) (by decide) ?_
      show Steps p.tables e below (T38.setTop (mkF m 116 #[.val (.int p0), .val (.int p1), .val (.ref b1), .val (.int v3_74), .val (.int v4_94), .val (.int v4_94), .unset, .unset, .unset] [])) _
      refine XS.iconst X38.here hx rfl (hb hby at_116) ?_
      show Steps p.tables e below (T38.setTop (mkF m 117 #[.val (.int p0), .val (.int p1), .val (.ref b1), .val (.int v3_74), .val (.int v4_94), .val (.int v4_94), .unset, .unset, .unset] [(.int (0 : Int32))])) _
      exact k
    · intro hc109_3 t k
      refine XS.icmpNo X38.here hx rfl (hb hby at_109) rfl (flt hc109_3).2.2.1 ?_
      show Steps p.tables e below (T38.setTop (mkF m 112 #[.val (.int p0), .val (.int p1), .val (.ref b1), .val (.int v3_74), .val (.int v4_94), .val (.int v4_94), .unset, .unset, .unset] [])) _
      refine XS.iconst X38.here hx rfl (hb hby at_112) ?_
      show Steps p.tables e below (T38.setTop (mkF m 113 #[.val (.int p0), .val (.int p1), .val (.ref b1), .val (.int v3_74), .val (.int v4_94), .val (.int v4_94), .unset, .unset, .unset] [(.int (1 : Int32))])) _
      refine XS.goto X38.here hx rfl (pc0 := 113) (pc' := 117) rfl (hb hby at_113) (by decide) (by decide) ?_
      show Steps p.tables e below (T38.setTop (mkF m 117 #[.val (.int p0), .val (.int p1), .val (.ref b1), .val (.int v3_74), .val (.int v4_94), .val (.int v4_94), .unset, .unset, .unset] [(.int (1 : Int32))])) _
      exact k
    show Steps p.tables e below (T38.setTop (mkF m 117 #[.val (.int p0), .val (.int p1), .val (.ref b1), .val (.int v3_74), .val (.int v4_94), .val (.int v4_94), .unset, .unset, .unset] [(.int (if (91 : Int32) < v4_94 then (0 : Int32) else (1 : Int32)))])) _
    exact k
  show Goes p.tables e below _ (T38.setTop (mkF m 117 #[.val (.int p0), .val (.int p1), .val (.ref b1), .val (.int v3_74), .val (.int v4_94), .val (.int v4_94), .unset, .unset, .unset] [(.int (if v4_94 < (32 : Int32) then (0 : Int32) else (if (91 : Int32) < v4_94 then (0 : Int32) else (1 : Int32))))]))
  refine Goes.step (S' := T38.setTop (mkF m 119 #[.val (.int p0), .val (.int p1), .val (.ref b1), .val (.int v3_74), .val (.int v4_94), .val (.int v4_94), .val (.int (if v4_94 < (32 : Int32) then (0 : Int32) else (if (91 : Int32) < v4_94 then (0 : Int32) else (1 : Int32)))), .unset, .unset] [])) (fun _ k => XS.istore X38.here hx rfl (hb hby at_117) rfl (l' := #[.val (.int p0), .val (.int p1), .val (.ref b1), .val (.int v3_74), .val (.int v4_94), .val (.int v4_94), .val (.int (if v4_94 < (32 : Int32) then (0 : Int32) else (if (91 : Int32) < v4_94 then (0 : Int32) else (1 : Int32)))), .unset, .unset]) rfl k) ?_
  obtain ⟨v6_117, ev6_117⟩ : ∃ z : Int32, z = (if v4_94 < (32 : Int32) then (0 : Int32) else (if (91 : Int32) < v4_94 then (0 : Int32) else (1 : Int32))) := ⟨_, rfl⟩
  rw [← ev6_117]
  refine Goes.step (S' := T38.setTop (mkF m 121 #[.val (.int p0), .val (.int p1), .val (.ref b1), .val (.int v3_74), .val (.int v4_94), .val (.int v4_94), .val (.int v6_117), .unset, .unset] [(.int v4_94)])) (fun _ k => XS.iload X38.here hx rfl (hb hby at_119) rfl  k) ?_
  refine Goes.step (S' := T38.setTop (mkF m 123 #[.val (.int p0), .val (.int p1), .val (.ref b1), .val (.int v3_74), .val (.int v4_94), .val (.int v4_94), .val (.int v6_117), .unset, .unset] [(.int (93 : Int32)), (.int v4_94)])) (fun _ k => XS.bipush X38.here hx rfl (hb hby at_121) k) ?_
  refine Goes.step (own_ite1 (T := T38) (c := v4_94 < (93 : Int32)) (a0 := (0 : Int32)) (b0 := (if (126 : Int32) < v4_94 then (0 : Int32) else (1 : Int32))) (F := fun z5_0 => (mkF m 138 #[.val (.int p0), .val (.int p1), .val (.ref b1), .val (.int v3_74), .val (.int v4_94), .val (.int v4_94), .val (.int v6_117), .unset, .unset] [(.int z5_0)])) ?_ ?_) ?_
  · intro hc123_4 t k
    refine XS.icmpYes X38.here hx rfl (pc0 := 123) (pc' := 137) rfl (hb hby at_123) rfl (tlt hc123_4).1 (by decide) (by decide) ?_
    show Steps p.tables e below (T38.setTop (mkF m 137 #[.val (.int p0), .val (.int p1), .val (.ref b1), .val (.int v3_74), .val (.int v4_94), .val (.int v4_94), .val (.int v6_117), .unset, .unset] [])) _
    refine XS.iconst X38.here hx rfl (hb hby at_137) ?_
    show Steps p.tables e below (T38.setTop (mkF m 138 #[.val (.int p0), .val (.int p1), .val (.ref b1), .val (.int v3_74), .val (.int v4_94), .val (.int v4_94), .val (.int v6_117), .unset, .unset] [(.int (0 : Int32))])) _
    exact k
  · intro hc123_4 t k
    refine XS.icmpNo X38.here hx rfl (hb hby at_123) rfl (flt hc123_4).1 ?_
    show Steps p.tables e below (T38.setTop (mkF m 126 #[.val (.int p0), .val (.int p1), .val (.ref b1), .val (.int v3_74), .val (.int v4_94), .val (.int v4_94), .val (.int v6_117), .unset, .unset] [])) _
    refine XS.iload X38.here hx rfl (hb hby at_126) rfl  ?_
    show Steps p.tables e below (T38.setTop (mkF m 128 #[.val (.int p0), .val (.int p1), .val (.ref b1), .val (.int v3_74), .val (.int v4_94), .val (.int v4_94), .val (.int v6_117), .unset, .unset] [(.int v4_94)])) _
    refine XS.bipush X38.here hx rfl (hb hby at_128) ?_
    show Steps p.tables e below (T38.setTop (mkF m 130 #[.val (.int p0), .val (.int p1), .val (.ref b1), .val (.int v3_74), .val (.int v4_94), .val (.int v4_94), .val (.int v6_117), .unset, .unset] [(.int (126 : Int32)), (.int v4_94)])) _
    refine own_ite1 (T := T38) (c := (126 : Int32) < v4_94) (a0 := (0 : Int32)) (b0 := (1 : Int32)) (F := fun z5_0 => (mkF m 138 #[.val (.int p0), .val (.int p1), .val (.ref b1), .val (.int v3_74), .val (.int v4_94), .val (.int v4_94), .val (.int v6_117), .unset, .unset] [(.int z5_0)])) ?_ ?_ _ ?_
    · intro hc130_5 t k
      refine XS.icmpYes X38.here hx rfl (pc0 := 130) (pc' := 137) rfl (hb hby at_130) rfl (tlt hc130_5).2.2.1 (by decide) (by decide) ?_
      show Steps p.tables e below (T38.setTop (mkF m 137 #[.val (.int p0), .val (.int p1), .val (.ref b1), .val (.int v3_74), .val (.int v4_94), .val (.int v4_94), .val (.int v6_117), .unset, .unset] [])) _
      refine XS.iconst X38.here hx rfl (hb hby at_137) ?_
      show Steps p.tables e below (T38.setTop (mkF m 138 #[.val (.int p0), .val (.int p1), .val (.ref b1), .val (.int v3_74), .val (.int v4_94), .val (.int v4_94), .val (.int v6_117), .unset, .unset] [(.int (0 : Int32))])) _
      exact k
    · intro hc130_5 t k
      refine XS.icmpNo X38.here hx rfl (hb hby at_130) rfl (flt hc130_5).2.2.1 ?_
      show Steps p.tables e below (T38.setTop (mkF m 133 #[.val (.int p0), .val (.int p1), .val (.ref b1), .val (.int v3_74), .val (.int v4_94), .val (.int v4_94), .val (.int v6_117), .unset, .unset] [])) _
      refine XS.iconst X38.here hx rfl (hb hby at_133) ?_
      show Steps p.tables e below (T38.setTop (mkF m 134 #[.val (.int p0), .val (.int p1), .val (.ref b1), .val (.int v3_74), .val (.int v4_94), .val (.int v4_94), .val (.int v6_117), .unset, .unset] [(.int (1 : Int32))])) _
      refine XS.goto X38.here hx rfl (pc0 := 134) (pc' := 138) rfl (hb hby at_134) (by decide) (by decide) ?_
      show Steps p.tables e below (T38.setTop (mkF m 138 #[.val (.int p0), .val (.int p1), .val (.ref b1), .val (.int v3_74), .val (.int v4_94), .val (.int v4_94), .val (.int v6_117), .unset, .unset] [(.int (1 : Int32))])) _
      exact k
    show Steps p.tables e below (T38.setTop (mkF m 138 #[.val (.int p0), .val (.int p1), .val (.ref b1), .val (.int v3_74), .val (.int v4_94), .val (.int v4_94), .val (.int v6_117), .unset, .unset] [(.int (if (126 : Int32) < v4_94 then (0 : Int32) else (1 : Int32)))])) _
    exact k
  show Goes p.tables e below _ (T38.setTop (mkF m 138 #[.val (.int p0), .val (.int p1), .val (.ref b1), .val (.int v3_74), .val (.int v4_94), .val (.int v4_94), .val (.int v6_117), .unset, .unset] [(.int (if v4_94 < (93 : Int32) then (0 : Int32) else (if (126 : Int32) < v4_94 then (0 : Int32) else (1 : Int32))))]))
  refine Goes.step (S' := T38.setTop (mkF m 140 #[.val (.int p0), .val (.int p1), .val (.ref b1), .val (.int v3_74), .val (.int v4_94), .val (.int v4_94), .val (.int v6_117), .val (.int (if v4_94 < (93 : Int32) then (0 : Int32) else (if (126 : Int32) < v4_94 then (0 : Int32) else (1 : Int32)))), .unset] [])) (fun _ k => XS.istore X38.here hx rfl (hb hby at_138) rfl (l' := #[.val (.int p0), .val (.int p1), .val (.ref b1), .val (.int v3_74), .val (.int v4_94), .val (.int v4_94), .val (.int v6_117), .val (.int (if v4_94 < (93 : Int32) then (0 : Int32) else (if (126 : Int32) < v4_94 then (0 : Int32) else (1 : Int32)))), .unset]) rfl k) ?_
  obtain ⟨v7_138, ev7_138⟩ : ∃ z : Int32, z = (if v4_94 < (93 : Int32) then (0 : Int32) else (if (126 : Int32) < v4_94 then (0 : Int32) else (1 : Int32))) := ⟨_, rfl⟩
  rw [← ev7_138]
  refine Goes.step (S' := T38.setTop (mkF m 142 #[.val (.int p0), .val (.int p1), .val (.ref b1), .val (.int v3_74), .val (.int v4_94), .val (.int v4_94), .val (.int v6_117), .val (.int v7_138), .unset] [(.int v6_117)])) (fun _ k => XS.iload X38.here hx rfl (hb hby at_140) rfl  k) ?_
  refine Goes.step (own_ite1 (T := T38) (c := v6_117 = (0 : Int32)) (a0 := (if v7_138 = (0 : Int32) then (0 : Int32) else (1 : Int32))) (b0 := (1 : Int32)) (F := fun z7_0 => (mkF m 155 #[.val (.int p0), .val (.int p1), .val (.ref b1), .val (.int v3_74), .val (.int v4_94), .val (.int v4_94), .val (.int v6_117), .val (.int v7_138), .unset] [(.int z7_0)])) ?_ ?_) ?_
  · intro hc142_6 t k
    refine XS.ifNo X38.here hx rfl (hb hby at_142) rfl ((if0 _ _).trans (teq hc142_6).2) ?_
    show Steps p.tables e below (T38.setTop (mkF m 145 #[.val (.int p0), .val (.int p1), .val (.ref b1), .val (.int v3_74), .val (.int v4_94), .val (.int v4_94), .val (.int v6_117), .val (.int v7_138), .unset] [])) _
    refine XS.iload X38.here hx rfl (hb hby at_145) rfl  ?_
    show Steps p.tables e below (T38.setTop (mkF m 147 #[.val (.int p0), .val (.int p1), .val (.ref b1), .val (.int v3_74), .val (.int v4_94), .val (.int v4_94), .val (.int v6_117), .val (.int v7_138), .unset] [(.int v7_138)])) _
    refine own_ite1 (T := T38) (c := v7_138 = (0 : Int32)) (a0 := (0 : Int32)) (b0 := (1 : Int32)) (F := fun z7_0 => (mkF m 155 #[.val (.int p0), .val (.int p1), .val (.ref b1), .val (.int v3_74), .val (.int v4_94), .val (.int v4_94), .val (.int v6_117), .val (.int v7_138), .unset] [(.int z7_0)])) ?_ ?_ _ ?_
    · intro hc147_7 t k
      refine XS.ifYes X38.here hx rfl (pc0 := 147) (pc' := 154) rfl (hb hby at_147) rfl ((if0 _ _).trans (teq hc147_7).1) (by decide) (by decide) ?_
      show Steps p.tables e below (T38.setTop (mkF m 154 #[.val (.int p0), .val (.int p1), .val (.ref b1), .val (.int v3_74), .val (.int v4_94), .val (.int v4_94), .val (.int v6_117), .val (.int v7_138), .unset] [])) _
      refine XS.iconst X38.here hx rfl (hb hby at_154) ?_
      show Steps p.tables e below (T38.setTop (mkF m 155 #[.val (.int p0), .val (.int p1), .val (.ref b1), .val (.int v3_74), .val (.int v4_94), .val (.int v4_94), .val (.int v6_117), .val (.int v7_138), .unset] [(.int (0 : Int32))])) _
      exact k
    · intro hc147_7 t k
      refine XS.ifNo X38.here hx rfl (hb hby at_147) rfl ((if0 _ _).trans (feq hc147_7).1) ?_
      show Steps p.tables e below (T38.setTop (mkF m 150 #[.val (.int p0), .val (.int p1), .val (.ref b1), .val (.int v3_74), .val (.int v4_94), .val (.int v4_94), .val (.int v6_117), .val (.int v7_138), .unset] [])) _
      refine XS.iconst X38.here hx rfl (hb hby at_150) ?_
      show Steps p.tables e below (T38.setTop (mkF m 151 #[.val (.int p0), .val (.int p1), .val (.ref b1), .val (.int v3_74), .val (.int v4_94), .val (.int v4_94), .val (.int v6_117), .val (.int v7_138), .unset] [(.int (1 : Int32))])) _
      refine XS.goto X38.here hx rfl (pc0 := 151) (pc' := 155) rfl (hb hby at_151) (by decide) (by decide) ?_
      show Steps p.tables e below (T38.setTop (mkF m 155 #[.val (.int p0), .val (.int p1), .val (.ref b1), .val (.int v3_74), .val (.int v4_94), .val (.int v4_94), .val (.int v6_117), .val (.int v7_138), .unset] [(.int (1 : Int32))])) _
      exact k
    show Steps p.tables e below (T38.setTop (mkF m 155 #[.val (.int p0), .val (.int p1), .val (.ref b1), .val (.int v3_74), .val (.int v4_94), .val (.int v4_94), .val (.int v6_117), .val (.int v7_138), .unset] [(.int (if v7_138 = (0 : Int32) then (0 : Int32) else (1 : Int32)))])) _
    exact k
  · intro hc142_6 t k
    refine XS.ifYes X38.here hx rfl (pc0 := 142) (pc' := 150) rfl (hb hby at_142) rfl ((if0 _ _).trans (feq hc142_6).2) (by decide) (by decide) ?_
    show Steps p.tables e below (T38.setTop (mkF m 150 #[.val (.int p0), .val (.int p1), .val (.ref b1), .val (.int v3_74), .val (.int v4_94), .val (.int v4_94), .val (.int v6_117), .val (.int v7_138), .unset] [])) _
    refine XS.iconst X38.here hx rfl (hb hby at_150) ?_
    show Steps p.tables e below (T38.setTop (mkF m 151 #[.val (.int p0), .val (.int p1), .val (.ref b1), .val (.int v3_74), .val (.int v4_94), .val (.int v4_94), .val (.int v6_117), .val (.int v7_138), .unset] [(.int (1 : Int32))])) _
    refine XS.goto X38.here hx rfl (pc0 := 151) (pc' := 155) rfl (hb hby at_151) (by decide) (by decide) ?_
    show Steps p.tables e below (T38.setTop (mkF m 155 #[.val (.int p0), .val (.int p1), .val (.ref b1), .val (.int v3_74), .val (.int v4_94), .val (.int v4_94), .val (.int v6_117), .val (.int v7_138), .unset] [(.int (1 : Int32))])) _
    exact k
  show Goes p.tables e below _ (T38.setTop (mkF m 155 #[.val (.int p0), .val (.int p1), .val (.ref b1), .val (.int v3_74), .val (.int v4_94), .val (.int v4_94), .val (.int v6_117), .val (.int v7_138), .unset] [(.int (if v6_117 = (0 : Int32) then (if v7_138 = (0 : Int32) then (0 : Int32) else (1 : Int32)) else (1 : Int32)))]))
  refine Goes.step (S' := T38.setTop (mkF m 157 #[.val (.int p0), .val (.int p1), .val (.ref b1), .val (.int v3_74), .val (.int v4_94), .val (.int v4_94), .val (.int v6_117), .val (.int v7_138), .val (.int (if v6_117 = (0 : Int32) then (if v7_138 = (0 : Int32) then (0 : Int32) else (1 : Int32)) else (1 : Int32)))] [])) (fun _ k => XS.istore X38.here hx rfl (hb hby at_155) rfl (l' := #[.val (.int p0), .val (.int p1), .val (.ref b1), .val (.int v3_74), .val (.int v4_94), .val (.int v4_94), .val (.int v6_117), .val (.int v7_138), .val (.int (if v6_117 = (0 : Int32) then (if v7_138 = (0 : Int32) then (0 : Int32) else (1 : Int32)) else (1 : Int32)))]) rfl k) ?_
  obtain ⟨v8_155, ev8_155⟩ : ∃ z : Int32, z = (if v6_117 = (0 : Int32) then (if v7_138 = (0 : Int32) then (0 : Int32) else (1 : Int32)) else (1 : Int32)) := ⟨_, rfl⟩
  rw [← ev8_155]
  refine Goes.step (S' := T38.setTop (mkF m 159 #[.val (.int p0), .val (.int p1), .val (.ref b1), .val (.int v3_74), .val (.int v4_94), .val (.int v4_94), .val (.int v6_117), .val (.int v7_138), .val (.int v8_155)] [(.int v4_94)])) (fun _ k => XS.iload X38.here hx rfl (hb hby at_157) rfl  k) ?_
  obtain ⟨_, _, ⟨T41, L41, k41, n41⟩, -, X41, ⟨Lc41, hQ41, l41, y41, z41⟩, st41⟩ := Jvm.LawKit.callS X38 hx (y := (⟨"com/example/marginalia/marginalia/output/Escapes", "isPlain", "(C)Z"⟩ : MethodName)) hown (mvT hZ (hw _ (List.mem_of_getElem? (i := 3) rfl))) (mvT hZ (hw _ (List.mem_of_getElem? (i := 4) rfl))) (mvT hZ (hw _ (List.mem_of_getElem? (i := 5) rfl))) (mvT hZ (hw _ (List.mem_of_getElem? (i := 6) rfl))) (by decide) (backOf (W := 0) (rm1 l Z a0 hw [] v4_94 h38 n0 Z40) hZ (hw _ (List.mem_of_getElem? (i := 6) rfl)) (hw _ (List.mem_of_getElem? (i := 5) rfl)) (by decide) (by decide)) (g := (mkF m 159 #[.val (.int p0), .val (.int p1), .val (.ref b1), .val (.int v3_74), .val (.int v4_94), .val (.int v4_94), .val (.int v6_117), .val (.int v7_138), .val (.int v8_155)] [(.int v4_94)])) rfl (by rw [hml]; rfl) (argsL := [(.int v4_94)]) (rest := []) (lenOf pd0 rfl) rfl (by show 2 * 0 + _ ≤ _; exact Nat.le_of_eq rfl) (hb hby at_159) (fun _ _ => ⟨rfl, e38, (by decide : 1 + 0 ≤ _), (by decide : 12 + 0 ≤ _)⟩)
  dsimp only [Pt.U, Pt.locs, Pt.cells, Pt.slots] at X41 l41 y41 z41 st41 hQ41
  subst l41 y41 z41
  obtain ⟨rfl, N41q, e41⟩ := hQ41
  have N42 := Fr.app N39 N41q
  refine Goes.step (S' := T41.setTop (mkF m 162 #[.val (.int p0), .val (.int p1), .val (.ref b1), .val (.int v3_74), .val (.int v4_94), .val (.int v4_94), .val (.int v6_117), .val (.int v7_138), .val (.int v8_155)] [(.int (f1 v4_94))])) st41 ?_
  refine Goes.step (S' := T41.setTop (mkF m 164 #[.val (.int p0), .val (.int p1), .val (.ref b1), .val (.int v3_74), .val (.int v4_94), .val (.int v4_94), .val (.int v6_117), .val (.int v7_138), .val (.int v8_155)] [(.int v8_155), (.int (f1 v4_94))])) (fun _ k => XS.iload X41.here hx rfl (hb hby at_162) rfl  k) ?_
  refine Goes.step (S' := T41.setTop (mkF m 167 #[.val (.int p0), .val (.int p1), .val (.ref b1), .val (.int v3_74), .val (.int v4_94), .val (.int v4_94), .val (.int v6_117), .val (.int v7_138), .val (.int v8_155)] [])) (fun _ k => XS.icmpNo X41.here hx rfl (hb hby at_164) rfl (teq (own_hc0_164 p0 p1 v3_74 ev3_74 v4_94 ev4_94 v6_117 ev6_117 v7_138 ev7_138 v8_155 ev8_155)).2 k) ?_
  refine Goes.step (S' := T41.setTop (mkF m 168 #[.val (.int p0), .val (.int p1), .val (.ref b1), .val (.int v3_74), .val (.int v4_94), .val (.int v4_94), .val (.int v6_117), .val (.int v7_138), .val (.int v8_155)] [(.int (1 : Int32))])) (fun _ k => XS.iconst X41.here hx rfl (hb hby at_167) k) ?_
  refine Goes.step (S' := T41.setTop (mkF m 172 #[.val (.int p0), .val (.int p1), .val (.ref b1), .val (.int v3_74), .val (.int v4_94), .val (.int v4_94), .val (.int v6_117), .val (.int v7_138), .val (.int v8_155)] [(.int (1 : Int32))])) (fun _ k => XS.goto X41.here hx rfl (pc0 := 168) (pc' := 172) rfl (hb hby at_168) (by decide) (by decide) k) ?_
  refine Goes.retN X41 hx Bd.notSynchronized (t := .boolean) Bd.returns (by simp) (hb hby at_172) (by decide) (by decide) ?_
  exact ⟨rfl, N42⟩
set_option maxRecDepth 65536 in
set_option maxHeartbeats 40000000 in
theorem comes_1 {Post : Tables → Env → Array Value → State → Outcome → State → Prop} (hpost : ∀ tb e args s v u, (limb_1_1.after args s (.returned v) u = true ∧ limb_1_2.after args s (.returned v) u = true ∧ True) → FrameEnd s (.returned v) u (Jvm.fieldLocs frame_1_writes args s ++ Jvm.arrayLocs frame_1_arrays args s ++ Jvm.staticLocs frame_1_statics s) 16 128 → Post tb e args s (.returned v) u) :
    ArmFor flags0 classFile x code maxLocals ret World_1 tables_1 room_1 Calls_1 rest_1 Pre_1 Post := by
  intro l hfl _ _ p e ha hc hk s m args below hf hA hF happ hP
  obtain ⟨hcalls, hrest, hpre⟩ := hP
  obtain ⟨-, -, -, hnamed, -, -, -, hat⟩ := (Spec.applies_iff hf).mp happ
  obtain ⟨hg, hn⟩ := and_e (Cond.before_iff.mp (show (Jvm.Cond.and given_1 narrow_1).before args s = true from hpre))
  obtain ⟨gg1, gg2⟩ := and_e hg
  obtain ⟨gg3, gg4⟩ := and_e gg2
  obtain ⟨w0, w1, rfl⟩ : ∃ w0 w1 : Value, args = #[w0, w1] := by
    have hs : args.size = 2 := by simpa [Cond.value, given_1] using gg1
    obtain ⟨L⟩ := args
    match L, hs with
    | [w0, w1], _ => exact ⟨w0, w1, rfl⟩
  have hw := fun d (hd : d ∈ tables_1) => atoms_spec (ws := Jvm.Cond.code x code maxLocals ret :: tables_1) hat d (List.mem_cons_of_mem _ hd)
  obtain ⟨i0, ei0⟩ := is_v gg3
  obtain rfl : w0 = (.int i0) := Option.some.inj ei0
  obtain ⟨i1, ei1⟩ := is_v gg4
  obtain rfl : w1 = (.int i1) := Option.some.inj ei1
  obtain ⟨n, o, h1, h2, h3, _, L, rfl, ⟨rfl, N⟩, hq⟩ := rm0 l s _ hw tables_1 i0 i1 s.heap s.heap.size (Nat.le_refl _) p e ha hc hk s m _ below hf ((Spec.applies_iff_loose hf).mp happ).1 ⟨rfl, State.Warmed39.refl s, rfl⟩ trivial
  refine ⟨n, _, h1, h2, h3, hpost _ _ _ _ _ _ ⟨Cond.after_iff.mpr rfl, Cond.after_iff.mpr (eq_i res_at (Term.int_eval (1)) rfl), trivial⟩ ⟨hq.1, hq.2.1, (hq.2.2.sift fun y hy => Or.inr (N y hy)).mono (by decide) (by decide)⟩⟩
theorem main_1_1 : Claimed_1_1 := comes_1 fun _ _ _ _ _ _ h hF => ⟨h.1, hF⟩
theorem main_1_2 : Claimed_1_2 := comes_1 fun _ _ _ _ _ _ h hF => ⟨h.2.1, hF⟩
end Jvm.Pilot.@@N@@
namespace Jvm.Pilot.@@N@@
open Jvm Jvm.ClassFile Sem Op Lib Jvm.Free Jvm.Stand Jvm.Pilot.@@N@@.Jvm.D
/-! MADE BY PROGRAM (witnessworld.py) out of the Statement's table words and the real class files: 9 classes; the members and pool entries that the words name. The judged class is class 1, her method 1. -/
namespace start1
open Jvm.ClassFile
def u (s : String) : CpInfo := .utf8 (stringToUtf16 s)
/-- a pool by its gaps: so many unusable entries, then the entry; so many at the end -/
def gap : Nat → List CpInfo → List CpInfo
  | 0, r => r
  | n + 1, r => .unusable :: gap n r
def poolList (es : List (Nat × CpInfo)) (last : Nat) : List CpInfo := es.foldr (fun e r => gap e.1 (e.2 :: r)) (gap last [])
def pool (es : List (Nat × CpInfo)) (last : Nat) : Array CpInfo := ⟨poolList es last⟩
def fileOf (pool : Array CpInfo) (this : Nat) (attrs : Array Attribute := #[]) (ms : Array MethodInfo := #[]) (fl : Nat := 33) (sup : Nat := 0) (ifs : Array Nat := #[]) (fds : Array FieldInfo := #[]) : ClassFile where
  minorVersion := 0
  majorVersion := 65
  constantPool := pool
  accessFlags := fl
  thisClass := this
  superClass := sup
  interfaces := ifs
  fields := fds
  methods := ms
  attributes := attrs
def plain (name : String) (sup : Option ClassId) : Class where
  name := name
  kind := .ordinary
  loader := none
  accessFlags := 33
  super := sup
  interfaces := #[]
  cf := none
  fields := #[]
  methods := #[]
  instanceTypes := #[]
  staticTypes := #[]
  resolved := #[]
  callSites := []
  init := .initialized
  statics := none
  mirror := none

def pool0 : Array CpInfo := pool [(5, u "<init>"), (0, u "()V"), (1, .class_ 10), (1, u "java/lang/Object")] 113

def k0m0 : Method := { name := "<init>", desc := "()V", sig := { parameters := [], returnType := none }, accessFlags := 1, code := none }
/-- java/lang/Object -/
def k0 : Class := { plain "java/lang/Object" none with
  accessFlags := 33
  interfaces := #[]
  cf := some (fileOf pool0 8 #[] #[{ accessFlags := 1, nameIndex := 5, descriptorIndex := 6, attributes := #[] }] 33 0 #[] #[])
  fields := #[]
  methods := #[k0m0]
  instanceTypes := #[]
  staticTypes := #[]
  resolved := Array.replicate 124 none
  statics := none }

def pool1 : Array CpInfo := pool [(2, .class_ 4), (1, u "java/lang/Object"), (0, u "<init>"), (0, u "()V"), (0, .integer 65535), (0, .integer 65340), (0, .methodref 10 11), (0, .class_ 12), (0, .nameAndType 13 14), (0, u "com/example/marginalia/marginalia/output/Escapes"), (0, u "isPlain"), (0, u "(C)Z"), (0, .class_ 16), (0, u "com/example/marginalia/marginalia/output/EscapesIsPlainPinLaw"), (2, u "law"), (0, u "(II)Z")] 5

def k1m0 : Method := { name := "<init>", desc := "()V", sig := { parameters := [], returnType := none }, accessFlags := 2, code := none }
def k1c1 : Code := { maxStack := 4, maxLocals := 9, code := code, exceptionTable := #[], attributes := #[] }
def k1m1 : Method := { name := "law", desc := "(II)Z", sig := { parameters := [.int, .int], returnType := some .boolean }, accessFlags := 9, code := some k1c1 }
/-- com/example/marginalia/marginalia/output/EscapesIsPlainPinLaw -/
def k1 : Class := { plain "com/example/marginalia/marginalia/output/EscapesIsPlainPinLaw" (some 0) with
  accessFlags := 49
  interfaces := #[]
  cf := some (fileOf pool1 15 #[] #[{ accessFlags := 2, nameIndex := 5, descriptorIndex := 6, attributes := #[] }, { accessFlags := 9, nameIndex := 19, descriptorIndex := 20, attributes := #[] }] 49 2 #[] #[])
  fields := #[]
  methods := #[k1m0, k1m1]
  instanceTypes := #[]
  staticTypes := #[]
  resolved := Array.replicate 26 none
  statics := none }

def pool2 : Array CpInfo := pool [(2, .class_ 4), (1, u "java/lang/Object"), (0, u "<init>"), (0, u "()V"), (26, .class_ 35), (1, u "com/example/marginalia/marginalia/output/Escapes"), (19, u "isPlain"), (0, u "(C)Z")] 28

def k2m0 : Method := { name := "<init>", desc := "()V", sig := { parameters := [], returnType := none }, accessFlags := 2, code := none }
def k2c1 : Code := { maxStack := 2, maxLocals := 1, code := prog_73_method_4_code, exceptionTable := #[], attributes := #[] }
def k2m1 : Method := { name := "isPlain", desc := "(C)Z", sig := { parameters := [.char], returnType := some .boolean }, accessFlags := 8, code := some k2c1 }
/-- com/example/marginalia/marginalia/output/Escapes -/
def k2 : Class := { plain "com/example/marginalia/marginalia/output/Escapes" (some 0) with
  accessFlags := 48
  interfaces := #[]
  cf := some (fileOf pool2 33 #[] #[{ accessFlags := 2, nameIndex := 5, descriptorIndex := 6, attributes := #[] }, { accessFlags := 8, nameIndex := 55, descriptorIndex := 56, attributes := #[] }] 48 2 #[] #[])
  fields := #[]
  methods := #[k2m0, k2m1]
  instanceTypes := #[]
  staticTypes := #[]
  resolved := Array.replicate 85 none
  statics := none }

def pool3 : Array CpInfo := pool [(1, u "java/lang/Cloneable"), (0, .class_ 1), (0, u "java/lang/Object"), (0, .class_ 3)] 3

/-- java/lang/Cloneable -/
def k3 : Class := { plain "java/lang/Cloneable" (some 0) with
  accessFlags := 1537
  interfaces := #[]
  cf := some (fileOf pool3 2 #[] #[] 1537 4 #[] #[])
  fields := #[]
  methods := #[]
  instanceTypes := #[]
  staticTypes := #[]
  resolved := Array.replicate 8 none
  statics := none }

def pool4 : Array CpInfo := pool [(1, u "java/io/Serializable"), (0, .class_ 1), (0, u "java/lang/Object"), (0, .class_ 3)] 3

/-- java/io/Serializable -/
def k4 : Class := { plain "java/io/Serializable" (some 0) with
  accessFlags := 1537
  interfaces := #[]
  cf := some (fileOf pool4 2 #[] #[] 1537 4 #[] #[])
  fields := #[]
  methods := #[]
  instanceTypes := #[]
  staticTypes := #[]
  resolved := Array.replicate 8 none
  statics := none }

/-- the primitive byte -/
def k5 : Class := { plain "byte" none with kind := .primitive 'B', accessFlags := 0x411 }
/-- [B -/
def k6 : Class := { plain "[B" (some 0) with kind := .array 5 .byte, interfaces := #[3, 4], accessFlags := 1041 }

/-- the primitive int -/
def k7 : Class := { plain "int" none with kind := .primitive 'I', accessFlags := 0x411 }
/-- [I -/
def k8 : Class := { plain "[I" (some 0) with kind := .array 7 .int, interfaces := #[3, 4], accessFlags := 1041 }

def heap : Heap := #[]
def classes : Array Class := #[k0, k1, k2, k3, k4, k5, k6, k7, k8]
def interned : List (Array UInt16 × Addr) := []
def slotsUsed : Nat := 0
def theMethod : MethodId := ⟨1, 1⟩
def args0 : Array Value := #[.int 5, .int 5]
def aboutOver (below : List Frame) : State where
  vm := { classes := classes, interned := interned.toArray }
  heap := heap
  slotsUsed := slotsUsed
  threads := #[{ frames := .invoking theMethod args0 :: below }]
def below0 : List Frame := [.native { method := ⟨0, 0⟩, args := #[] }]
def about1 : State := aboutOver below0
def p0 : Program := .bare "" "" ""
def e0 : Env := launch0.env 0 0 0
theorem w_frames : about1.frames = Frame.invoking theMethod args0 :: below0 := rfl
set_option maxRecDepth 65536 in
theorem w_args : argsFit about1.vm theMethod args0 = true := by decide +kernel
set_option maxRecDepth 65536 in
theorem w_heap : heapFits about1 = true := by decide +kernel
set_option maxRecDepth 65536 in
theorem w_runnable : about1.curStatus? = some .runnable := by decide +kernel
set_option maxRecDepth 65536 in
theorem w_alone : about1.alone = true := by decide +kernel
set_option maxRecDepth 65536 in
theorem w_named : about1.methodNamed? x = some theMethod := by decide +kernel
set_option maxRecDepth 65536 in
theorem w_hears : about1.hears theMethod below0 = true := by decide +kernel
set_option maxRecDepth 65536 in
theorem w_ripe : about1.ripe theMethod args0 below0 = true := by decide +kernel
theorem w_running : about1.status = .running := rfl
set_option maxRecDepth 65536 in
theorem w_room : about1.hasRoom e0.platform room_1 = true :=
  launch0.hasRoom_least _ room_1 (by decide +kernel) (by decide +kernel) (by decide +kernel) (by decide +kernel) (by decide +kernel) (by decide +kernel)
theorem allAtoms_all (ts : List Jvm.Cond) (a : Array Jvm.Value) (st : Jvm.State) : (allAtoms ts).before a st = ts.all (fun c => c.before a st) := by
  induction ts with
  | nil => rfl
  | cons c t ih =>
    show (Jvm.Cond.and c (allAtoms t)).before a st = _
    rw [Jvm.Cond.before_and, ih, List.all_cons]
def words1 : List Jvm.Cond := Jvm.Cond.code x code maxLocals ret :: tables_1
/-- a 'code' word, met by the world's own term for the bytes: nothing is compared byte by byte -/
theorem code_word {y : MethodName} {bytes : ByteArray} {mx : Nat} {rt : Option FieldType} {a : Array Value} {s : State} {m : MethodId} {meth : Method} {c : Code} (h1 : s.methodNamed? y = some m) (h2 : s.vm.method? m = some meth) (h3 : meth.code = some c) (h4 : c.code = bytes)
    (h5 : (c.maxLocals == mx && c.exceptionTable.isEmpty && decide (c.maxStack ≤ mostOperands) && decide (meth.sig.returnType = rt) && !meth.locks && decide (parseMethodDescriptor y.desc = some meth.sig)) = true) : (Jvm.Cond.code y bytes mx rt).before a s = true := by
  simp only [Bool.and_eq_true, beq_iff_eq, Bool.not_eq_true', decide_eq_true_eq] at h5
  obtain ⟨⟨⟨⟨⟨g1, g2⟩, g3⟩, g4⟩, g5⟩, g6⟩ := h5
  simp [Cond.before, Cond.holds, Cond.value, h1, h2, h3, h4, g1, g2, g3, g4, g5, g6]
def isCode : Jvm.Cond → Bool
  | .code _ _ _ _ => true
  | _ => false
theorem all_split {L : List Jvm.Cond} {P : Jvm.Cond → Bool} (h1 : L.all (fun c => isCode c || P c) = true) (h2 : ∀ c ∈ L.filter isCode, P c = true) : L.all P = true := by
  refine List.all_eq_true.mpr fun c hc => ?_
  have h := List.all_eq_true.mp h1 c hc
  rcases Bool.eq_false_or_eq_true (isCode c) with hi | hi
  · exact h2 c (List.mem_filter.mpr ⟨hc, hi⟩)
  · simpa [hi] using h
set_option maxRecDepth 65536 in
theorem w_c0 : (Jvm.Cond.code x code maxLocals ret).before args0 about1 = true := code_word (m := ⟨1, 1⟩) (meth := k1m1) (c := k1c1) (by decide +kernel) rfl rfl rfl (by decide +kernel)
set_option maxRecDepth 65536 in
theorem w_c1 : (Jvm.Cond.code ({ cls := "com/example/marginalia/marginalia/output/Escapes", name := "isPlain", desc := "(C)Z" } : Jvm.MethodName) prog_73_method_4_code (1 : Nat) (Option.some Jvm.ClassFile.FieldType.boolean)).before args0 about1 = true := code_word (m := ⟨2, 1⟩) (meth := k2m1) (c := k2c1) (by decide +kernel) rfl rfl rfl (by decide +kernel)
def codes1 : List Jvm.Cond := [Jvm.Cond.code x code maxLocals ret, Jvm.Cond.code ({ cls := "com/example/marginalia/marginalia/output/Escapes", name := "isPlain", desc := "(C)Z" } : Jvm.MethodName) prog_73_method_4_code (1 : Nat) (Option.some Jvm.ClassFile.FieldType.boolean)]
set_option maxRecDepth 65536 in
theorem codes_eq : words1.filter isCode = codes1 := rfl
theorem w_codes : ∀ c ∈ words1.filter isCode, c.before args0 about1 = true := by
  rw [codes_eq]
  intro c hc
  simp only [codes1, List.mem_cons, List.not_mem_nil, or_false] at hc
  rcases hc with rfl | rfl
  · exact w_c0
  · exact w_c1
set_option maxRecDepth 65536 in
theorem w_t1 : words1.all (fun c => isCode c || c.before args0 about1) = true := by decide +kernel
theorem w_tables : (allAtoms (Jvm.Cond.code x code maxLocals ret :: tables_1)).before args0 about1 = true := by
  rw [allAtoms_all]
  show words1.all (fun c => c.before args0 about1) = true
  refine all_split ?_ w_codes
  rw [w_t1]
set_option maxRecDepth 65536 in
theorem w_case : (Jvm.Cond.and given_1 narrow_1).before args0 about1 = true := by decide +kernel
theorem w_applies : (headSpec (Jvm.Cond.code x code maxLocals ret :: tables_1) room_1).applies x e0.platform about1 = true :=
  (Spec.applies_iff w_frames).mpr ⟨w_running, w_runnable, w_alone, w_named, w_hears, w_ripe, w_room, w_tables⟩
theorem atStart : AtStart classFile x code maxLocals ret World_1 tables_1 room_1 Calls_1 rest_1 Pre_1 launch0 p0 e0 about1 theMethod args0 below0 :=
  ⟨lists_1, trivial, launch0.admits_env _ _ _, launch0.least_env, fairChoices_fair.cas, fairChoices_fair.clock, w_frames, w_args, w_heap, w_applies, trivial, trivial, w_case⟩
end start1
theorem witness_1 : WitnessClaimed_1 := ⟨start1.p0, start1.e0, start1.about1, start1.theMethod, start1.args0, start1.below0, start1.atStart⟩
end Jvm.Pilot.@@N@@
