import JvmDerived
import JvmDerived.Pilot.@@N@@Statement
import JvmDerived.Pilot.@@N@@Code
set_option linter.unusedVariables false
set_option linter.unusedSimpArgs false
namespace Jvm.Wk
open Sem ClassFile Op Lib Jvm.Stand Jvm.Free Jvm.LawKit Jvm.RoadKit
/-- a boolean as an int -/
def b2 (P : Prop) [Decidable P] : Int32 := if P then 1 else 0
theorem b2_t {P : Prop} [Decidable P] (h : P) : b2 P = 1 := if_pos h
theorem b2_f {P : Prop} [Decidable P] (h : ¬ P) : b2 P = 0 := if_neg h
theorem b2_01 (P : Prop) [Decidable P] : b2 P = 0 ∨ b2 P = 1 := by by_cases h : P <;> simp [b2, h]
theorem b2_congr {P P' : Prop} [Decidable P] [Decidable P'] (h : P ↔ P') : b2 P = b2 P' := by simp only [b2, h]
theorem b2_int (P : Prop) [Decidable P] : (b2 P).toInt = if P then 1 else 0 := by by_cases h : P <;> simp [b2, h]
theorem b2_ne0 (P : Prop) [Decidable P] : (b2 P).toInt ≠ 0 ↔ P := by by_cases h : P <;> simp [b2, h]
theorem b2_eq0 (P : Prop) [Decidable P] : (b2 P).toInt = 0 ↔ ¬ P := by by_cases h : P <;> simp [b2, h]
theorem b2_inj (P P' : Prop) [Decidable P] [Decidable P'] : (b2 P).toInt = (b2 P').toInt ↔ (P ↔ P') := by by_cases h : P <;> by_cases h' : P' <;> simp [b2, h, h']
theorem eqI {x y : Int32} (h : x.toInt = y.toInt) : x = y := Int32.toInt_inj.mp h
theorem eqL {x y : Int64} (h : x.toInt = y.toInt) : x = y := Int64.toInt_inj.mp h
/-- from the frame f, with the heap h and so many cells and slots made, the body ends as Q says -/
def Go (p : Program) (l : Launch) (e : Env) (R : Room) (s : State) (m : MethodId) (args : Array Value) (below : List Frame) (meth : Method) (c : Code) (n0 : Nat) (Q : Option Value → Heap → Prop) (h : Heap) (kc ks : Nat) (f : JFrame) : Prop :=
  ∀ (T : State) (locs : List Loc), Stand p l e R s m args below meth c T locs kc ks → T.heap = h → Fr n0 locs →
    ∃ s₂ o, Steps p.tables e below (T.setTop f) s₂ ∧ s₂.status = .running ∧ Ended s₂ below o ∧ ∃ v L, o = .returned v ∧ (Q v s₂.heap ∧ Fr n0 L) ∧ FrameEnd s o s₂ L R.cells R.slots
/-- the ambient of a body's walk, hidden behind G -/
def Cx (l : Launch) (R : Room) (Z : State) (n0 : Nat) (Q : Option Value → Heap → Prop) (own nm : String) (bytes : ByteArray) (maxL : Nat) (ret : Option FieldType) (m : MethodId) (G : Heap → Nat → Nat → JFrame → Prop) : Prop :=
  ∃ (p : Program) (e : Env) (s : State) (args : Array Value) (below : List Frame) (meth : Method) (c : Code), G = Go p l e R s m args below meth c n0 Q ∧ p.tables.exec = Jvm.exec ∧ c.code = bytes ∧ c.maxLocals = maxL ∧ s.vm.findClass own = some m.cls ∧ Z.Warmed39 s.vm ∧ meth.sig.returnType = ret ∧ meth.locks = false ∧ meth.name = nm
/-- the contract of a body, asked with these arguments at this heap -/
def MeetsW (l : Launch) (Z : State) (n0 : Nat) (y : MethodName) (bytes : ByteArray) (maxL : Nat) (ret : Option FieldType) (rm : Room) (as' : Array Value) (h0 : Heap) (Q : Option Value → Heap → Prop) : Prop :=
  ∀ ws : List Cond, MetFree l y (head1 (Cond.code y bytes maxL ret :: ws) rm) (fun a U => a = as' ∧ Z.Warmed39 U.vm ∧ U.heap = h0) (fun _ _ _ _ _ => True) (fun _ U o U' => ∃ v L, o = .returned v ∧ (Q v U'.heap ∧ Fr n0 L) ∧ FrameEnd U o U' L rm.cells rm.slots)
/-- an array with just these values -/
def Ary (Z : State) (h : Heap) (a : Addr) (ty : FieldType) (vs : List Value) : Prop := ∃ c : Cell, Arr Z h a c ty ∧ c.slots.toList = vs ∧ vs.length < 2 ^ 31
section Facts
variable {Z : State} {h h' : Heap} {a b : Addr} {ty : FieldType} {vs : List Value} {v : Value} {sl : Nat} {ws : List Addr}
theorem Ary.lt (A : Ary Z h a ty vs) : a < h.size := by obtain ⟨c, A, -⟩ := A; exact A.lt
theorem Ary.ext (A : Ary Z h a ty vs) (E : Ext h h') : Ary Z h' a ty vs := by obtain ⟨c, A, r⟩ := A; exact ⟨c, A.ext E, r⟩
theorem Ary.other (A : Ary Z h b ty vs) (W : Wr h h' a sl v) (q : b ≠ a) : Ary Z h' b ty vs := by obtain ⟨c, A, r⟩ := A; exact ⟨c, A.other W q, r⟩
theorem Ary.keep (A : Ary Z h a ty vs) (K : Keep h h' ws) (q : a ∉ ws) : Ary Z h' a ty vs := by obtain ⟨c, A, r⟩ := A; exact ⟨c, ⟨K.2.1 a c A.1 q, A.2⟩, r⟩
theorem Ary.same (A : Ary Z h a ty vs) (W : Wr h h' a sl v) : Ary Z h' a ty (vs.set sl v) := by
  obtain ⟨c, A, r, r'⟩ := A
  refine ⟨_, A.same W, ?_, by rw [List.length_set]; exact r'⟩
  show (c.slots.setIfInBounds sl v).toList = _
  rw [Array.toList_setIfInBounds, r]
theorem clamp_of {j : Int32} {i : Nat} (hj : j.toInt = i) : j.toNatClampNeg = i := by simp only [Int32.toNatClampNeg, hj]; rfl
theorem in_of {c : Cell} {j : Int32} {i : Nat} (hj : j.toInt = i) (hi : i < c.slots.toList.length) : ¬ (j < 0 ∨ c.slots.size ≤ j.toNatClampNeg) := by
  rw [clamp_of hj]
  have h0 : ¬ j < 0 := by rw [Int32.lt_iff_toInt_lt, hj, show (0 : Int32).toInt = 0 from rfl]; omega
  rw [Array.length_toList] at hi
  intro q; rcases q with q | q
  · exact h0 q
  · omega
theorem at_of {c : Cell} {j : Int32} {i : Nat} {v : Value} (hj : j.toInt = i) (hv : c.slots.toList[i]? = some v) : c.slots[j.toNatClampNeg]? = some v := by
  rw [clamp_of hj, ← Array.getElem?_toList]; exact hv
theorem len_int {n : Nat} (h : n < 2 ^ 31) : n.toInt32.toInt = n := len_toInt h
theorem nar_byte_of {x : Int32} (h : -128 ≤ x.toInt ∧ x.toInt < 128) : nar .byte x = x := by
  apply Int32.toInt_inj.mp
  have q := c_i2b x
  show x.toInt8.toInt32.toInt = _
  omega
theorem nar_char_of {x : Int32} (h : 0 ≤ x.toInt ∧ x.toInt < 65536) : nar .char x = x := by
  apply Int32.toInt_inj.mp
  have q := c_i2c x
  show x.toUInt32.toUInt16.toUInt32.toInt32.toInt = _
  omega
theorem Ary.toArv {d : Value} (A : Ary Z h a ty vs) (hf : ∀ v ∈ vs, fits ty v = true) (hd : fits ty d = true) : ∃ (k : ClassId) (z : Int32), z.toInt = ((vs.length : Nat) : Int) ∧ Arv Z h a k ty z vs d := by
  obtain ⟨c, Ar, rfl, hlt⟩ := A
  have hl : c.slots.size < 2 ^ 31 := by rwa [Array.length_toList] at hlt
  refine ⟨c.cls, c.slots.size.toInt32, by rw [Array.length_toList]; exact len_int hl, c, Ar, rfl, by rw [clamp_of (len_int hl)], ?_, ?_, ?_⟩
  · rw [Int32.lt_iff_toInt_lt, len_int hl, show (0 : Int32).toInt = 0 from rfl]; omega
  · intro k hk; simp [List.getD_eq_getElem?_getD, hk]
  · intro i hi
    have q : c.slots.toList.getD i d = c.slots[i] := by simp [List.getD_eq_getElem?_getD, hi]
    rw [q]; exact hf _ (by simp)
theorem Arv.toAry {d : Value} {k : ClassId} {z : Int32} (F : Arv Z h a k ty z vs d) (hz : z.toInt = (vs.length : Nat)) : Ary Z h a ty vs := by
  obtain ⟨c, Ar, -, S, -, H, -⟩ := F
  rw [clamp_of hz] at S
  refine ⟨c, Ar, ?_, by have := z.toInt_lt; omega⟩
  apply List.ext_getElem?
  intro i
  by_cases hi : i < c.slots.size
  · rw [Array.getElem?_toList, H i hi, List.getD_eq_getElem?_getD]
    have hi' : i < vs.length := by omega
    simp [hi']
  · rw [List.getElem?_eq_none (by rw [Array.length_toList]; omega), List.getElem?_eq_none (by omega)]
theorem Fld.keepO {C n d : String} (F : Fld Z h a C n d v) (K : Keep h h' ws) (q : a ∉ ws) : Fld Z h' a C n d v := F.keep K q
theorem Keep.of_ext (E : Ext h h') : Keep h h' ws := (Keep.refl h ws).ext E
end Facts
section Steps
variable {l : Launch} {R : Room} {Z : State} {n0 : Nat} {Q : Option Value → Heap → Prop} {own nm : String} {bytes : ByteArray} {maxL : Nat} {ret : Option FieldType} {m : MethodId} {G : Heap → Nat → Nat → JFrame → Prop} {h : Heap} {kc ks pc pc' pc1 pc2 : Nat} {L L' : Array Slot} {S : List Value} {a0 : Array Value}
theorem MeetsW.intro {y : MethodName} {rm : Room} {as' : Array Value} {h0 : Heap} (hpl : plainFor y = true) {L0 : Array Slot} (hef : ∀ m, entryFrame m as' maxL = mkF m 0 L0 [])
    (body : ∀ m G, Cx l rm Z n0 Q y.cls y.name bytes maxL ret m G → G h0 0 0 (mkF m 0 L0 [])) : MeetsW l Z n0 y bytes maxL ret rm as' h0 Q := by
  intro ws
  refine MetFree.of_bodySF hpl hisR ?_
  intro p e s m args below meth c s₁ Bd hml0 hP hK
  obtain ⟨rfl, hZ, hh⟩ := hP
  have hnm := (name_of_methodNamed Bd.named Bd.method).1
  have X0 : Stand p l e rm s m args below meth c s₁ [] 0 0 := Stand.of_body Bd
  have e0 : s₁.heap = h0 := by rw [← hh, Bd.state]; rfl
  have q := body m _ ⟨p, e, s, args, below, meth, c, rfl, Bd.exec, Bd.bytes, hml0, findClass_of_methodNamed Bd.named, hZ, Bd.returns, Bd.notSynchronized, hnm⟩ s₁ [] X0 e0 (Fr.nil n0)
  rw [hef]; exact q
theorem Cx.step (K : Cx l R Z n0 Q own nm bytes maxL ret m G) {f f' : JFrame}
    (hs : ∀ (p : Program) (e : Env) (below : List Frame) (T : State) (c : Code), At T m c below → p.tables.exec = Jvm.exec → c.code = bytes → ∀ t, Steps p.tables e below (T.setTop f') t → Steps p.tables e below (T.setTop f) t)
    (hr : G h kc ks f') : G h kc ks f := by
  obtain ⟨p, e, s, args, below, meth, c, rfl, hx, hby, hml, hown, hZ, hret, hlk, hn⟩ := K
  intro T locs X eT N
  obtain ⟨s₂, o, h1, h2⟩ := hr T locs X eT N
  exact ⟨s₂, o, hs p e below T c X.here hx hby _ h1, h2⟩
theorem Cx.stepX (K : Cx l R Z n0 Q own nm bytes maxL ret m G) {f f' : JFrame} {h' : Heap}
    (hs : ∀ (p : Program) (e : Env) (s : State) (args : Array Value) (below : List Frame) (meth : Method) (c : Code) (T : State) (locs : List Loc), Stand p l e R s m args below meth c T locs kc ks → T.heap = h → p.tables.exec = Jvm.exec → c.code = bytes → s.vm.findClass own = some m.cls → Z.Warmed39 s.vm → ∃ T', Stand p l e R s m args below meth c T' locs kc ks ∧ T'.heap = h ∧ ∀ t, Steps p.tables e below (T'.setTop f') t → Steps p.tables e below (T.setTop f) t)
    (hr : G h kc ks f') : G h kc ks f := by
  obtain ⟨p, e, s, args, below, meth, c, rfl, hx, hby, hml, hown, hZ, hret, hlk, hn⟩ := K
  intro T locs X eT N
  obtain ⟨T', X', e', st⟩ := hs p e s args below meth c T locs X eT hx hby hown hZ
  obtain ⟨s₂, o, h1, h2⟩ := hr T' locs X' e' N
  exact ⟨s₂, o, st _ h1, h2⟩
theorem Cx.cast (K : Cx l R Z n0 Q own nm bytes maxL ret m G) {f f' : JFrame} (q : f = f') (hr : G h kc ks f') : G h kc ks f := q ▸ hr
theorem Cx.iloadN (K : Cx l R Z n0 Q own nm bytes maxL ret m G) {k : Fin 4} {v : Int32} (hd : decode bytes pc = .ok (.iload_n k, 1)) (hp : pc + 1 = pc') (hl : L[k.val]? = some (.val (.int v))) (hr : G h kc ks (mkF m pc' L (.int v :: S))) : G h kc ks (mkF m pc L (S)) := by
  subst hp
  exact K.step (fun p e below T c h hx hb0 t hr => XS.iloadN h hx rfl (hb hb0 hd) hl hr) hr
theorem Cx.iload (K : Cx l R Z n0 Q own nm bytes maxL ret m G) {k : Nat} {v : Int32} (hd : decode bytes pc = .ok (.iload k, 2)) (hp : pc + 2 = pc') (hl : L[k]? = some (.val (.int v))) (hr : G h kc ks (mkF m pc' L (.int v :: S))) : G h kc ks (mkF m pc L (S)) := by
  subst hp
  exact K.step (fun p e below T c h hx hb0 t hr => XS.iload h hx rfl (hb hb0 hd) hl hr) hr
theorem Cx.istoreN (K : Cx l R Z n0 Q own nm bytes maxL ret m G) {k : Fin 4} {x : Int32} (hd : decode bytes pc = .ok (.istore_n k, 1)) (hp : pc + 1 = pc') (hl : storeLocals L k.val (.int x) = some L') (hr : G h kc ks (mkF m pc' L' (S))) : G h kc ks (mkF m pc L (.int x :: S)) := by
  subst hp
  exact K.step (fun p e below T c h hx hb0 t hr => XS.istoreN h hx rfl (hb hb0 hd) rfl hl hr) hr
theorem Cx.istore (K : Cx l R Z n0 Q own nm bytes maxL ret m G) {k : Nat} {x : Int32} (hd : decode bytes pc = .ok (.istore k, 2)) (hp : pc + 2 = pc') (hl : storeLocals L k (.int x) = some L') (hr : G h kc ks (mkF m pc' L' (S))) : G h kc ks (mkF m pc L (.int x :: S)) := by
  subst hp
  exact K.step (fun p e below T c h hx hb0 t hr => XS.istore h hx rfl (hb hb0 hd) rfl hl hr) hr
theorem Cx.lloadN (K : Cx l R Z n0 Q own nm bytes maxL ret m G) {k : Fin 4} {v : Int64} (hd : decode bytes pc = .ok (.lload_n k, 1)) (hp : pc + 1 = pc') (hl : L[k.val]? = some (.val (.long v))) (hr : G h kc ks (mkF m pc' L (.long v :: S))) : G h kc ks (mkF m pc L (S)) := by
  subst hp
  exact K.step (fun p e below T c h hx hb0 t hr => XS.lloadN h hx rfl (hb hb0 hd) hl hr) hr
theorem Cx.lload (K : Cx l R Z n0 Q own nm bytes maxL ret m G) {k : Nat} {v : Int64} (hd : decode bytes pc = .ok (.lload k, 2)) (hp : pc + 2 = pc') (hl : L[k]? = some (.val (.long v))) (hr : G h kc ks (mkF m pc' L (.long v :: S))) : G h kc ks (mkF m pc L (S)) := by
  subst hp
  exact K.step (fun p e below T c h hx hb0 t hr => XS.lload h hx rfl (hb hb0 hd) hl hr) hr
theorem Cx.lstoreN (K : Cx l R Z n0 Q own nm bytes maxL ret m G) {k : Fin 4} {x : Int64} (hd : decode bytes pc = .ok (.lstore_n k, 1)) (hp : pc + 1 = pc') (hl : storeLocals L k.val (.long x) = some L') (hr : G h kc ks (mkF m pc' L' (S))) : G h kc ks (mkF m pc L (.long x :: S)) := by
  subst hp
  exact K.step (fun p e below T c h hx hb0 t hr => XS.lstoreN h hx rfl (hb hb0 hd) rfl hl hr) hr
theorem Cx.lstore (K : Cx l R Z n0 Q own nm bytes maxL ret m G) {k : Nat} {x : Int64} (hd : decode bytes pc = .ok (.lstore k, 2)) (hp : pc + 2 = pc') (hl : storeLocals L k (.long x) = some L') (hr : G h kc ks (mkF m pc' L' (S))) : G h kc ks (mkF m pc L (.long x :: S)) := by
  subst hp
  exact K.step (fun p e below T c h hx hb0 t hr => XS.lstore h hx rfl (hb hb0 hd) rfl hl hr) hr
theorem Cx.aloadN (K : Cx l R Z n0 Q own nm bytes maxL ret m G) {k : Fin 4} {v : Value} (hd : decode bytes pc = .ok (.aload_n k, 1)) (hp : pc + 1 = pc') (hl : L[k.val]? = some (.val v)) (hv : v.isRef = true) (hr : G h kc ks (mkF m pc' L (v :: S))) : G h kc ks (mkF m pc L (S)) := by
  subst hp
  exact K.step (fun p e below T c h hx hb0 t hr => XS.aloadN h hx rfl (hb hb0 hd) hl hv hr) hr
theorem Cx.aload (K : Cx l R Z n0 Q own nm bytes maxL ret m G) {k : Nat} {v : Value} (hd : decode bytes pc = .ok (.aload k, 2)) (hp : pc + 2 = pc') (hl : L[k]? = some (.val v)) (hv : v.isRef = true) (hr : G h kc ks (mkF m pc' L (v :: S))) : G h kc ks (mkF m pc L (S)) := by
  subst hp
  exact K.step (fun p e below T c h hx hb0 t hr => XS.aload h hx rfl (hb hb0 hd) hl hv hr) hr
theorem Cx.astoreN (K : Cx l R Z n0 Q own nm bytes maxL ret m G) {k : Fin 4} {x : Value} (hd : decode bytes pc = .ok (.astore_n k, 1)) (hp : pc + 1 = pc') (hv : x.isRef = true) (hl : storeLocals L k.val x = some L') (hr : G h kc ks (mkF m pc' L' (S))) : G h kc ks (mkF m pc L (x :: S)) := by
  subst hp
  exact K.step (fun p e below T c h hx hb0 t hr => XS.astoreN h hx rfl (hb hb0 hd) rfl hv hl hr) hr
theorem Cx.astore (K : Cx l R Z n0 Q own nm bytes maxL ret m G) {k : Nat} {x : Value} (hd : decode bytes pc = .ok (.astore k, 2)) (hp : pc + 2 = pc') (hv : x.isRef = true) (hl : storeLocals L k x = some L') (hr : G h kc ks (mkF m pc' L' (S))) : G h kc ks (mkF m pc L (x :: S)) := by
  subst hp
  exact K.step (fun p e below T c h hx hb0 t hr => XS.astore h hx rfl (hb hb0 hd) rfl hv hl hr) hr
theorem Cx.dloadN (K : Cx l R Z n0 Q own nm bytes maxL ret m G) {k : Fin 4} {v : UInt64} (hd : decode bytes pc = .ok (.dload_n k, 1)) (hp : pc + 1 = pc') (hl : L[k.val]? = some (.val (.double v))) (hr : G h kc ks (mkF m pc' L (.double v :: S))) : G h kc ks (mkF m pc L (S)) := by
  subst hp
  exact K.step (fun p e below T c h hx hb0 t hr => XS.dloadN h hx rfl (hb hb0 hd) hl hr) hr
theorem Cx.dload (K : Cx l R Z n0 Q own nm bytes maxL ret m G) {k : Nat} {v : UInt64} (hd : decode bytes pc = .ok (.dload k, 2)) (hp : pc + 2 = pc') (hl : L[k]? = some (.val (.double v))) (hr : G h kc ks (mkF m pc' L (.double v :: S))) : G h kc ks (mkF m pc L (S)) := by
  subst hp
  exact K.step (fun p e below T c h hx hb0 t hr => XS.dload h hx rfl (hb hb0 hd) hl hr) hr
theorem Cx.dstoreN (K : Cx l R Z n0 Q own nm bytes maxL ret m G) {k : Fin 4} {x : UInt64} (hd : decode bytes pc = .ok (.dstore_n k, 1)) (hp : pc + 1 = pc') (hl : storeLocals L k.val (.double x) = some L') (hr : G h kc ks (mkF m pc' L' (S))) : G h kc ks (mkF m pc L (.double x :: S)) := by
  subst hp
  exact K.step (fun p e below T c h hx hb0 t hr => XS.dstoreN h hx rfl (hb hb0 hd) rfl hl hr) hr
theorem Cx.dstore (K : Cx l R Z n0 Q own nm bytes maxL ret m G) {k : Nat} {x : UInt64} (hd : decode bytes pc = .ok (.dstore k, 2)) (hp : pc + 2 = pc') (hl : storeLocals L k (.double x) = some L') (hr : G h kc ks (mkF m pc' L' (S))) : G h kc ks (mkF m pc L (.double x :: S)) := by
  subst hp
  exact K.step (fun p e below T c h hx hb0 t hr => XS.dstore h hx rfl (hb hb0 hd) rfl hl hr) hr
theorem Cx.dconst0 (K : Cx l R Z n0 Q own nm bytes maxL ret m G) {z : UInt64} (hd : decode bytes pc = .ok (.dconst 0, 1)) (hp : pc + 1 = pc') (hz : FP.dconst0 = z) (hr : G h kc ks (mkF m pc' L (.double z :: S))) : G h kc ks (mkF m pc L (S)) := by
  subst hp hz
  exact K.step (fun p e below T c h hx hb0 t hr => XS.dconst0 h hx rfl (hb hb0 hd) rfl hr) hr
theorem Cx.dconst1 (K : Cx l R Z n0 Q own nm bytes maxL ret m G) {z : UInt64} (hd : decode bytes pc = .ok (.dconst 1, 1)) (hp : pc + 1 = pc') (hz : FP.dconst1 = z) (hr : G h kc ks (mkF m pc' L (.double z :: S))) : G h kc ks (mkF m pc L (S)) := by
  subst hp hz
  exact K.step (fun p e below T c h hx hb0 t hr => XS.dconst1 h hx rfl (hb hb0 hd) rfl hr) hr
theorem Cx.i2d (K : Cx l R Z n0 Q own nm bytes maxL ret m G) {x : Int32} {z : UInt64} (hd : decode bytes pc = .ok (.i2d, 1)) (hp : pc + 1 = pc') (hz : FP.i2d x = z) (hr : G h kc ks (mkF m pc' L (.double z :: S))) : G h kc ks (mkF m pc L (.int x :: S)) := by
  subst hp hz
  exact K.step (fun p e below T c h hx hb0 t hr => XS.i2dS h hx rfl (hb hb0 hd) rfl rfl hr) hr
theorem Cx.l2d (K : Cx l R Z n0 Q own nm bytes maxL ret m G) {x : Int64} {z : UInt64} (hd : decode bytes pc = .ok (.l2d, 1)) (hp : pc + 1 = pc') (hz : FP.l2d x = z) (hr : G h kc ks (mkF m pc' L (.double z :: S))) : G h kc ks (mkF m pc L (.long x :: S)) := by
  subst hp hz
  exact K.step (fun p e below T c h hx hb0 t hr => XS.l2dS h hx rfl (hb hb0 hd) rfl rfl hr) hr
theorem Cx.d2l (K : Cx l R Z n0 Q own nm bytes maxL ret m G) {x : UInt64} {z : Int64} (hd : decode bytes pc = .ok (.d2l, 1)) (hp : pc + 1 = pc') (hz : FP.d2l x = z) (hr : G h kc ks (mkF m pc' L (.long z :: S))) : G h kc ks (mkF m pc L (.double x :: S)) := by
  subst hp hz
  exact K.step (fun p e below T c h hx hb0 t hr => XS.d2lS h hx rfl (hb hb0 hd) rfl rfl hr) hr
theorem Cx.dadd (K : Cx l R Z n0 Q own nm bytes maxL ret m G) {x y z : UInt64} (hd : decode bytes pc = .ok (.dadd, 1)) (hp : pc + 1 = pc') (hn : Jvm.Free.Fl.NoNaN64 (FP.dadd x y)) (hz : FP.dadd x y = z) (hr : G h kc ks (mkF m pc' L (.double z :: S))) : G h kc ks (mkF m pc L (.double y :: .double x :: S)) := by
  subst hp hz
  exact K.step (fun p e below T c h hx hb0 t hr => XS.daddS h hx rfl (hb hb0 hd) rfl hn rfl hr) hr
theorem Cx.dmul (K : Cx l R Z n0 Q own nm bytes maxL ret m G) {x y z : UInt64} (hd : decode bytes pc = .ok (.dmul, 1)) (hp : pc + 1 = pc') (hn : Jvm.Free.Fl.NoNaN64 (FP.dmul x y)) (hz : FP.dmul x y = z) (hr : G h kc ks (mkF m pc' L (.double z :: S))) : G h kc ks (mkF m pc L (.double y :: .double x :: S)) := by
  subst hp hz
  exact K.step (fun p e below T c h hx hb0 t hr => XS.dmulS h hx rfl (hb hb0 hd) rfl hn rfl hr) hr
theorem Cx.ddiv (K : Cx l R Z n0 Q own nm bytes maxL ret m G) {x y z : UInt64} (hd : decode bytes pc = .ok (.ddiv, 1)) (hp : pc + 1 = pc') (hn : Jvm.Free.Fl.NoNaN64 (FP.ddiv x y)) (hz : FP.ddiv x y = z) (hr : G h kc ks (mkF m pc' L (.double z :: S))) : G h kc ks (mkF m pc L (.double y :: .double x :: S)) := by
  subst hp hz
  exact K.step (fun p e below T c h hx hb0 t hr => XS.ddivS h hx rfl (hb hb0 hd) rfl hn rfl hr) hr
theorem Cx.dsub (K : Cx l R Z n0 Q own nm bytes maxL ret m G) {x y z : UInt64} (hd : decode bytes pc = .ok (.dsub, 1)) (hp : pc + 1 = pc') (hn : Jvm.Free.Fl.NoNaN64 (FP.dsub x y)) (hz : FP.dsub x y = z) (hr : G h kc ks (mkF m pc' L (.double z :: S))) : G h kc ks (mkF m pc L (.double y :: .double x :: S)) := by
  subst hp hz
  exact K.step (fun p e below T c h hx hb0 t hr => XS.dsubS h hx rfl (hb hb0 hd) rfl hn rfl hr) hr
theorem Cx.dcmp (K : Cx l R Z n0 Q own nm bytes maxL ret m G) {o : CmpOp} {x y : UInt64} {z : Int32} (hd : decode bytes pc = .ok (.dcmp o, 1)) (hp : pc + 1 = pc') (hz : cmpValue (FP.dcmp x y) o = z) (hr : G h kc ks (mkF m pc' L (.int z :: S))) : G h kc ks (mkF m pc L (.double y :: .double x :: S)) := by
  subst hp hz
  exact K.step (fun p e below T c h hx hb0 t hr => XS.dcmpS h hx rfl (hb hb0 hd) rfl rfl hr) hr
theorem Cx.iconst (K : Cx l R Z n0 Q own nm bytes maxL ret m G) {i : Int} {z : Int32} (hd : decode bytes pc = .ok (.iconst i, 1)) (hp : pc + 1 = pc') (hz : Int32.ofInt i = z) (hr : G h kc ks (mkF m pc' L (.int z :: S))) : G h kc ks (mkF m pc L (S)) := by
  subst hp hz
  exact K.step (fun p e below T c h hx hb0 t hr => XS.iconst h hx rfl (hb hb0 hd) hr) hr
theorem Cx.bipush (K : Cx l R Z n0 Q own nm bytes maxL ret m G) {i : Int} {z : Int32} (hd : decode bytes pc = .ok (.bipush i, 2)) (hp : pc + 2 = pc') (hz : (Int8.ofInt i).toInt32 = z) (hr : G h kc ks (mkF m pc' L (.int z :: S))) : G h kc ks (mkF m pc L (S)) := by
  subst hp hz
  exact K.step (fun p e below T c h hx hb0 t hr => XS.bipush h hx rfl (hb hb0 hd) hr) hr
theorem Cx.sipush (K : Cx l R Z n0 Q own nm bytes maxL ret m G) {i : Int} {z : Int32} (hd : decode bytes pc = .ok (.sipush i, 3)) (hp : pc + 3 = pc') (hz : (Int16.ofInt i).toInt32 = z) (hr : G h kc ks (mkF m pc' L (.int z :: S))) : G h kc ks (mkF m pc L (S)) := by
  subst hp hz
  exact K.step (fun p e below T c h hx hb0 t hr => XS.sipush h hx rfl (hb hb0 hd) hr) hr
theorem Cx.lconst (K : Cx l R Z n0 Q own nm bytes maxL ret m G) {k : Fin 2} {z : Int64} (hd : decode bytes pc = .ok (.lconst k, 1)) (hp : pc + 1 = pc') (hz : Int64.ofNat k = z) (hr : G h kc ks (mkF m pc' L (.long z :: S))) : G h kc ks (mkF m pc L (S)) := by
  subst hp hz
  exact K.step (fun p e below T c h hx hb0 t hr => XS.lconst h hx rfl (hb hb0 hd) hr) hr
theorem Cx.anull (K : Cx l R Z n0 Q own nm bytes maxL ret m G) (hd : decode bytes pc = .ok (.aconst_null, 1)) (hp : pc + 1 = pc')  (hr : G h kc ks (mkF m pc' L (.null :: S))) : G h kc ks (mkF m pc L (S)) := by
  subst hp
  exact K.step (fun p e below T c h hx hb0 t hr => XS.aconstNull h hx rfl (hb hb0 hd) hr) hr
theorem Cx.iadd (K : Cx l R Z n0 Q own nm bytes maxL ret m G) {x y z : Int32} (hd : decode bytes pc = .ok (.iadd, 1)) (hp : pc + 1 = pc') (hz : x + y = z) (hr : G h kc ks (mkF m pc' L (.int z :: S))) : G h kc ks (mkF m pc L (.int y :: .int x :: S)) := by
  subst hp hz
  exact K.step (fun p e below T c h hx hb0 t hr => XS.iadd h hx rfl (hb hb0 hd) rfl hr) hr
theorem Cx.ladd (K : Cx l R Z n0 Q own nm bytes maxL ret m G) {x y z : Int64} (hd : decode bytes pc = .ok (.ladd, 1)) (hp : pc + 1 = pc') (hz : x + y = z) (hr : G h kc ks (mkF m pc' L (.long z :: S))) : G h kc ks (mkF m pc L (.long y :: .long x :: S)) := by
  subst hp hz
  exact K.step (fun p e below T c h hx hb0 t hr => XS.ladd h hx rfl (hb hb0 hd) rfl hr) hr
theorem Cx.isub (K : Cx l R Z n0 Q own nm bytes maxL ret m G) {x y z : Int32} (hd : decode bytes pc = .ok (.isub, 1)) (hp : pc + 1 = pc') (hz : x - y = z) (hr : G h kc ks (mkF m pc' L (.int z :: S))) : G h kc ks (mkF m pc L (.int y :: .int x :: S)) := by
  subst hp hz
  exact K.step (fun p e below T c h hx hb0 t hr => XS.isub h hx rfl (hb hb0 hd) rfl hr) hr
theorem Cx.lsub (K : Cx l R Z n0 Q own nm bytes maxL ret m G) {x y z : Int64} (hd : decode bytes pc = .ok (.lsub, 1)) (hp : pc + 1 = pc') (hz : x - y = z) (hr : G h kc ks (mkF m pc' L (.long z :: S))) : G h kc ks (mkF m pc L (.long y :: .long x :: S)) := by
  subst hp hz
  exact K.step (fun p e below T c h hx hb0 t hr => XS.lsub h hx rfl (hb hb0 hd) rfl hr) hr
theorem Cx.imul (K : Cx l R Z n0 Q own nm bytes maxL ret m G) {x y z : Int32} (hd : decode bytes pc = .ok (.imul, 1)) (hp : pc + 1 = pc') (hz : x * y = z) (hr : G h kc ks (mkF m pc' L (.int z :: S))) : G h kc ks (mkF m pc L (.int y :: .int x :: S)) := by
  subst hp hz
  exact K.step (fun p e below T c h hx hb0 t hr => XS.imul h hx rfl (hb hb0 hd) rfl hr) hr
theorem Cx.lmul (K : Cx l R Z n0 Q own nm bytes maxL ret m G) {x y z : Int64} (hd : decode bytes pc = .ok (.lmul, 1)) (hp : pc + 1 = pc') (hz : x * y = z) (hr : G h kc ks (mkF m pc' L (.long z :: S))) : G h kc ks (mkF m pc L (.long y :: .long x :: S)) := by
  subst hp hz
  exact K.step (fun p e below T c h hx hb0 t hr => XS.lmul h hx rfl (hb hb0 hd) rfl hr) hr
theorem Cx.iand (K : Cx l R Z n0 Q own nm bytes maxL ret m G) {x y z : Int32} (hd : decode bytes pc = .ok (.iand, 1)) (hp : pc + 1 = pc') (hz : x &&& y = z) (hr : G h kc ks (mkF m pc' L (.int z :: S))) : G h kc ks (mkF m pc L (.int y :: .int x :: S)) := by
  subst hp hz
  exact K.step (fun p e below T c h hx hb0 t hr => XS.iand h hx rfl (hb hb0 hd) rfl hr) hr
theorem Cx.land (K : Cx l R Z n0 Q own nm bytes maxL ret m G) {x y z : Int64} (hd : decode bytes pc = .ok (.land, 1)) (hp : pc + 1 = pc') (hz : x &&& y = z) (hr : G h kc ks (mkF m pc' L (.long z :: S))) : G h kc ks (mkF m pc L (.long y :: .long x :: S)) := by
  subst hp hz
  exact K.step (fun p e below T c h hx hb0 t hr => XS.land h hx rfl (hb hb0 hd) rfl hr) hr
theorem Cx.ior (K : Cx l R Z n0 Q own nm bytes maxL ret m G) {x y z : Int32} (hd : decode bytes pc = .ok (.ior, 1)) (hp : pc + 1 = pc') (hz : x ||| y = z) (hr : G h kc ks (mkF m pc' L (.int z :: S))) : G h kc ks (mkF m pc L (.int y :: .int x :: S)) := by
  subst hp hz
  exact K.step (fun p e below T c h hx hb0 t hr => XS.ior h hx rfl (hb hb0 hd) rfl hr) hr
theorem Cx.lor (K : Cx l R Z n0 Q own nm bytes maxL ret m G) {x y z : Int64} (hd : decode bytes pc = .ok (.lor, 1)) (hp : pc + 1 = pc') (hz : x ||| y = z) (hr : G h kc ks (mkF m pc' L (.long z :: S))) : G h kc ks (mkF m pc L (.long y :: .long x :: S)) := by
  subst hp hz
  exact K.step (fun p e below T c h hx hb0 t hr => XS.lor h hx rfl (hb hb0 hd) rfl hr) hr
theorem Cx.ixor (K : Cx l R Z n0 Q own nm bytes maxL ret m G) {x y z : Int32} (hd : decode bytes pc = .ok (.ixor, 1)) (hp : pc + 1 = pc') (hz : x ^^^ y = z) (hr : G h kc ks (mkF m pc' L (.int z :: S))) : G h kc ks (mkF m pc L (.int y :: .int x :: S)) := by
  subst hp hz
  exact K.step (fun p e below T c h hx hb0 t hr => XS.ixor h hx rfl (hb hb0 hd) rfl hr) hr
theorem Cx.lxor (K : Cx l R Z n0 Q own nm bytes maxL ret m G) {x y z : Int64} (hd : decode bytes pc = .ok (.lxor, 1)) (hp : pc + 1 = pc') (hz : x ^^^ y = z) (hr : G h kc ks (mkF m pc' L (.long z :: S))) : G h kc ks (mkF m pc L (.long y :: .long x :: S)) := by
  subst hp hz
  exact K.step (fun p e below T c h hx hb0 t hr => XS.lxor h hx rfl (hb hb0 hd) rfl hr) hr
theorem Cx.ishl (K : Cx l R Z n0 Q own nm bytes maxL ret m G) {x y z : Int32} (hd : decode bytes pc = .ok (.ishl, 1)) (hp : pc + 1 = pc') (hz : x <<< (y &&& 31) = z) (hr : G h kc ks (mkF m pc' L (.int z :: S))) : G h kc ks (mkF m pc L (.int y :: .int x :: S)) := by
  subst hp hz
  exact K.step (fun p e below T c h hx hb0 t hr => XS.ishl h hx rfl (hb hb0 hd) rfl hr) hr
theorem Cx.ishr (K : Cx l R Z n0 Q own nm bytes maxL ret m G) {x y z : Int32} (hd : decode bytes pc = .ok (.ishr, 1)) (hp : pc + 1 = pc') (hz : x >>> (y &&& 31) = z) (hr : G h kc ks (mkF m pc' L (.int z :: S))) : G h kc ks (mkF m pc L (.int y :: .int x :: S)) := by
  subst hp hz
  exact K.step (fun p e below T c h hx hb0 t hr => XS.ishr h hx rfl (hb hb0 hd) rfl hr) hr
theorem Cx.iushr (K : Cx l R Z n0 Q own nm bytes maxL ret m G) {x y z : Int32} (hd : decode bytes pc = .ok (.iushr, 1)) (hp : pc + 1 = pc') (hz : (x.toUInt32 >>> (y &&& 31).toUInt32).toInt32 = z) (hr : G h kc ks (mkF m pc' L (.int z :: S))) : G h kc ks (mkF m pc L (.int y :: .int x :: S)) := by
  subst hp hz
  exact K.step (fun p e below T c h hx hb0 t hr => XS.iushr h hx rfl (hb hb0 hd) rfl hr) hr
theorem Cx.lshl (K : Cx l R Z n0 Q own nm bytes maxL ret m G) {x z : Int64} {y : Int32} (hd : decode bytes pc = .ok (.lshl, 1)) (hp : pc + 1 = pc') (hz : x <<< (y &&& 0x3f).toInt64 = z) (hr : G h kc ks (mkF m pc' L (.long z :: S))) : G h kc ks (mkF m pc L (.int y :: .long x :: S)) := by
  subst hp hz
  exact K.step (fun p e below T c h hx hb0 t hr => XS.lshl h hx rfl (hb hb0 hd) rfl hr) hr
theorem Cx.lshr (K : Cx l R Z n0 Q own nm bytes maxL ret m G) {x z : Int64} {y : Int32} (hd : decode bytes pc = .ok (.lshr, 1)) (hp : pc + 1 = pc') (hz : x >>> (y &&& 0x3f).toInt64 = z) (hr : G h kc ks (mkF m pc' L (.long z :: S))) : G h kc ks (mkF m pc L (.int y :: .long x :: S)) := by
  subst hp hz
  exact K.step (fun p e below T c h hx hb0 t hr => XS.lshr h hx rfl (hb hb0 hd) rfl hr) hr
theorem Cx.lushr (K : Cx l R Z n0 Q own nm bytes maxL ret m G) {x z : Int64} {y : Int32} (hd : decode bytes pc = .ok (.lushr, 1)) (hp : pc + 1 = pc') (hz : (x.toUInt64 >>> (y &&& 0x3f).toInt64.toUInt64).toInt64 = z) (hr : G h kc ks (mkF m pc' L (.long z :: S))) : G h kc ks (mkF m pc L (.int y :: .long x :: S)) := by
  subst hp hz
  exact K.step (fun p e below T c h hx hb0 t hr => XS.lushr h hx rfl (hb hb0 hd) rfl hr) hr
theorem Cx.idiv (K : Cx l R Z n0 Q own nm bytes maxL ret m G) {x y z : Int32} (hd : decode bytes pc = .ok (.idiv, 1)) (hp : pc + 1 = pc') (hy : y ≠ 0) (hz : x / y = z) (hr : G h kc ks (mkF m pc' L (.int z :: S))) : G h kc ks (mkF m pc L (.int y :: .int x :: S)) := by
  subst hp hz
  exact K.step (fun p e below T c h hx hb0 t hr => XS.idiv h hx rfl (hb hb0 hd) rfl hy hr) hr
theorem Cx.ldiv (K : Cx l R Z n0 Q own nm bytes maxL ret m G) {x y z : Int64} (hd : decode bytes pc = .ok (.ldiv, 1)) (hp : pc + 1 = pc') (hy : y ≠ 0) (hz : x / y = z) (hr : G h kc ks (mkF m pc' L (.long z :: S))) : G h kc ks (mkF m pc L (.long y :: .long x :: S)) := by
  subst hp hz
  exact K.step (fun p e below T c h hx hb0 t hr => XS.ldiv h hx rfl (hb hb0 hd) rfl hy hr) hr
theorem Cx.irem (K : Cx l R Z n0 Q own nm bytes maxL ret m G) {x y z : Int32} (hd : decode bytes pc = .ok (.irem, 1)) (hp : pc + 1 = pc') (hy : y ≠ 0) (hz : x % y = z) (hr : G h kc ks (mkF m pc' L (.int z :: S))) : G h kc ks (mkF m pc L (.int y :: .int x :: S)) := by
  subst hp hz
  exact K.step (fun p e below T c h hx hb0 t hr => XS.irem h hx rfl (hb hb0 hd) rfl hy (by rw [irem_eq_mod]; exact hr)) hr
theorem Cx.lrem (K : Cx l R Z n0 Q own nm bytes maxL ret m G) {x y z : Int64} (hd : decode bytes pc = .ok (.lrem, 1)) (hp : pc + 1 = pc') (hy : y ≠ 0) (hz : x % y = z) (hr : G h kc ks (mkF m pc' L (.long z :: S))) : G h kc ks (mkF m pc L (.long y :: .long x :: S)) := by
  subst hp hz
  exact K.step (fun p e below T c h hx hb0 t hr => XS.lrem h hx rfl (hb hb0 hd) rfl hy (by rw [lrem_mod]; exact hr)) hr
theorem Cx.ineg (K : Cx l R Z n0 Q own nm bytes maxL ret m G) {x z : Int32} (hd : decode bytes pc = .ok (.ineg, 1)) (hp : pc + 1 = pc') (hz : -x = z) (hr : G h kc ks (mkF m pc' L (.int z :: S))) : G h kc ks (mkF m pc L (.int x :: S)) := by
  subst hp hz
  exact K.step (fun p e below T c h hx hb0 t hr => XS.ineg h hx rfl (hb hb0 hd) rfl hr) hr
theorem Cx.lneg (K : Cx l R Z n0 Q own nm bytes maxL ret m G) {x z : Int64} (hd : decode bytes pc = .ok (.lneg, 1)) (hp : pc + 1 = pc') (hz : -x = z) (hr : G h kc ks (mkF m pc' L (.long z :: S))) : G h kc ks (mkF m pc L (.long x :: S)) := by
  subst hp hz
  exact K.step (fun p e below T c h hx hb0 t hr => XS.lneg h hx rfl (hb hb0 hd) rfl hr) hr
theorem Cx.i2b (K : Cx l R Z n0 Q own nm bytes maxL ret m G) {x : Int32} {z : Int32} (hd : decode bytes pc = .ok (.i2b, 1)) (hp : pc + 1 = pc') (hz : x.toInt8.toInt32 = z) (hr : G h kc ks (mkF m pc' L (.int z :: S))) : G h kc ks (mkF m pc L (.int x :: S)) := by
  subst hp hz
  exact K.step (fun p e below T c h hx hb0 t hr => XS.i2b h hx rfl (hb hb0 hd) rfl hr) hr
theorem Cx.i2c (K : Cx l R Z n0 Q own nm bytes maxL ret m G) {x : Int32} {z : Int32} (hd : decode bytes pc = .ok (.i2c, 1)) (hp : pc + 1 = pc') (hz : x.toUInt32.toUInt16.toUInt32.toInt32 = z) (hr : G h kc ks (mkF m pc' L (.int z :: S))) : G h kc ks (mkF m pc L (.int x :: S)) := by
  subst hp hz
  exact K.step (fun p e below T c h hx hb0 t hr => XS.i2c h hx rfl (hb hb0 hd) rfl hr) hr
theorem Cx.i2s (K : Cx l R Z n0 Q own nm bytes maxL ret m G) {x : Int32} {z : Int32} (hd : decode bytes pc = .ok (.i2s, 1)) (hp : pc + 1 = pc') (hz : x.toInt16.toInt32 = z) (hr : G h kc ks (mkF m pc' L (.int z :: S))) : G h kc ks (mkF m pc L (.int x :: S)) := by
  subst hp hz
  exact K.step (fun p e below T c h hx hb0 t hr => XS.i2s h hx rfl (hb hb0 hd) rfl hr) hr
theorem Cx.i2l (K : Cx l R Z n0 Q own nm bytes maxL ret m G) {x : Int32} {z : Int64} (hd : decode bytes pc = .ok (.i2l, 1)) (hp : pc + 1 = pc') (hz : x.toInt64 = z) (hr : G h kc ks (mkF m pc' L (.long z :: S))) : G h kc ks (mkF m pc L (.int x :: S)) := by
  subst hp hz
  exact K.step (fun p e below T c h hx hb0 t hr => XS.i2l h hx rfl (hb hb0 hd) rfl hr) hr
theorem Cx.l2i (K : Cx l R Z n0 Q own nm bytes maxL ret m G) {x : Int64} {z : Int32} (hd : decode bytes pc = .ok (.l2i, 1)) (hp : pc + 1 = pc') (hz : x.toInt32 = z) (hr : G h kc ks (mkF m pc' L (.int z :: S))) : G h kc ks (mkF m pc L (.long x :: S)) := by
  subst hp hz
  exact K.step (fun p e below T c h hx hb0 t hr => XS.l2i h hx rfl (hb hb0 hd) rfl hr) hr
theorem Cx.iinc (K : Cx l R Z n0 Q own nm bytes maxL ret m G) {k : Nat} {cst : Int} {x z : Int32} (hd : decode bytes pc = .ok (.iinc k cst, 3)) (hp : pc + 3 = pc') (hl : L[k]? = some (.val (.int x))) (hz : x + Int32.ofInt cst = z) (hl' : storeLocals L k (.int z) = some L') (hr : G h kc ks (mkF m pc' L' (S))) : G h kc ks (mkF m pc L (S)) := by
  subst hp hz
  exact K.step (fun p e below T c h hx hb0 t hr => XS.iinc h hx rfl (hb hb0 hd) hl hl' hr) hr
theorem Cx.dup (K : Cx l R Z n0 Q own nm bytes maxL ret m G) {x : Value} (hd : decode bytes pc = .ok (.dup, 1)) (hp : pc + 1 = pc') (hc : x.category = 1) (hr : G h kc ks (mkF m pc' L (x :: x :: S))) : G h kc ks (mkF m pc L (x :: S)) := by
  subst hp
  exact K.step (fun p e below T c h hx hb0 t hr => XS.dup h hx rfl (hb hb0 hd) rfl hc hr) hr
theorem Cx.pop (K : Cx l R Z n0 Q own nm bytes maxL ret m G) {x : Value} (hd : decode bytes pc = .ok (.pop, 1)) (hp : pc + 1 = pc') (hc : x.category = 1) (hr : G h kc ks (mkF m pc' L (S))) : G h kc ks (mkF m pc L (x :: S)) := by
  subst hp
  exact K.step (fun p e below T c h hx hb0 t hr => XS.pop h hx rfl (hb hb0 hd) rfl hc hr) hr
theorem Cx.dupX1 (K : Cx l R Z n0 Q own nm bytes maxL ret m G) {x y : Value} (hd : decode bytes pc = .ok (.dup_x1, 1)) (hp : pc + 1 = pc') (hc : x.category = 1) (hc2 : y.category = 1) (hr : G h kc ks (mkF m pc' L (x :: y :: x :: S))) : G h kc ks (mkF m pc L (x :: y :: S)) := by
  subst hp
  exact K.step (fun p e below T c h hx hb0 t hr => XS.dupX1 h hx rfl (hb hb0 hd) rfl hc hc2 hr) hr
theorem Cx.goto (K : Cx l R Z n0 Q own nm bytes maxL ret m G) {o : Int} (hd : decode bytes pc = .ok (.goto o, 3)) (ho : 0 ≤ (pc : Int) + o) (hp : ((pc : Int) + o).toNat = pc') (hr : G h kc ks (mkF m pc' L S)) : G h kc ks (mkF m pc L S) :=
  K.step (fun p e below T c h hx hb0 t hr => XS.goto h hx rfl (pc0 := pc) (pc' := pc') rfl (hb hb0 hd) ho hp hr) hr
theorem icmpW (cd : ClassFile.Cond) {x y : Int32} {a b : Int} (ha : x.toInt = a) (hb : y.toInt = b) : if_icmp.holds cd x y = (match cd with | .lt => decide (a < b) | .ge => decide (b ≤ a) | .gt => decide (b < a) | .le => decide (a ≤ b) | .eq => decide (a = b) | .ne => decide (a ≠ b)) := by
  subst ha hb
  cases cd <;> rw [Bool.eq_iff_iff] <;> simp [if_icmp.holds, Int32.lt_iff_toInt_lt, Int32.le_iff_toInt_le, Int32.toInt_inj]
theorem lcmpW0 (cd : ClassFile.Cond) {x y : Int64} {a b : Int} (ha : x.toInt = a) (hb : y.toInt = b) : ifCond.holds cd (if x > y then 1 else if x = y then 0 else -1) = (match cd with | .lt => decide (a < b) | .ge => decide (b ≤ a) | .gt => decide (b < a) | .le => decide (a ≤ b) | .eq => decide (a = b) | .ne => decide (a ≠ b)) := by
  subst ha hb
  rcases Int.lt_trichotomy x.toInt y.toInt with h | h | h
  · have e : (if x > y then (1 : Int32) else if x = y then 0 else -1) = -1 := by rw [if_neg (by rw [gt_iff_lt, Int64.lt_iff_toInt_lt]; omega), if_neg (by rw [← Int64.toInt_inj]; omega)]
    rw [e, if0, icmpW cd (a := -1) (b := 0) rfl rfl]
    cases cd <;> exact decide_eq_decide.mpr (by omega)
  · have e : (if x > y then (1 : Int32) else if x = y then 0 else -1) = 0 := by rw [if_neg (by rw [gt_iff_lt, Int64.lt_iff_toInt_lt]; omega), if_pos (by rw [← Int64.toInt_inj]; omega)]
    rw [e, if0, icmpW cd (a := 0) (b := 0) rfl rfl]
    cases cd <;> exact decide_eq_decide.mpr (by omega)
  · have e : (if x > y then (1 : Int32) else if x = y then 0 else -1) = 1 := by rw [if_pos (by rw [gt_iff_lt, Int64.lt_iff_toInt_lt]; omega)]
    rw [e, if0, icmpW cd (a := 1) (b := 0) rfl rfl]
    cases cd <;> exact decide_eq_decide.mpr (by omega)
theorem Cx.icmp_lt (K : Cx l R Z n0 Q own nm bytes maxL ret m G) {o : Int} {x y : Int32} {a b : Int} (hd : decode bytes pc = .ok (.if_icmp .lt o, 3)) (hp : pc + 3 = pc1) (ho : 0 ≤ (pc : Int) + o) (hq : ((pc : Int) + o).toNat = pc2) (ha : x.toInt = a) (hb' : y.toInt = b) (ht : a < b → G h kc ks (mkF m pc2 L S)) (hf : b ≤ a → G h kc ks (mkF m pc1 L S)) : G h kc ks (mkF m pc L (.int y :: .int x :: S)) := by
  subst hp
  have q := icmpW .lt ha hb'
  by_cases hc : a < b
  · exact K.step (fun p e below T c h hx hb0 t hr => XS.icmpYes h hx rfl (pc0 := pc) (pc' := pc2) rfl (hb hb0 hd) rfl (q.trans (decide_eq_true hc)) ho hq hr) (ht hc)
  · exact K.step (fun p e below T c h hx hb0 t hr => XS.icmpNo h hx rfl (hb hb0 hd) rfl (q.trans (decide_eq_false hc)) hr) (hf (by omega))
theorem Cx.if_lt (K : Cx l R Z n0 Q own nm bytes maxL ret m G) {o : Int} {x : Int32} {a : Int} (hd : decode bytes pc = .ok (.ifCond .lt o, 3)) (hp : pc + 3 = pc1) (ho : 0 ≤ (pc : Int) + o) (hq : ((pc : Int) + o).toNat = pc2) (ha : x.toInt = a) (ht : a < 0 → G h kc ks (mkF m pc2 L S)) (hf : 0 ≤ a → G h kc ks (mkF m pc1 L S)) : G h kc ks (mkF m pc L (.int x :: S)) := by
  subst hp
  have q := (if0 .lt x).trans (icmpW .lt ha (b := 0) rfl)
  by_cases hc : a < 0
  · exact K.step (fun p e below T c h hx hb0 t hr => XS.ifYes h hx rfl (pc0 := pc) (pc' := pc2) rfl (hb hb0 hd) rfl (q.trans (decide_eq_true hc)) ho hq hr) (ht hc)
  · exact K.step (fun p e below T c h hx hb0 t hr => XS.ifNo h hx rfl (hb hb0 hd) rfl (q.trans (decide_eq_false hc)) hr) (hf (by omega))
theorem Cx.lcmp_lt (K : Cx l R Z n0 Q own nm bytes maxL ret m G) {o : Int} {x y : Int64} {a b : Int} (hd0 : decode bytes pc = .ok (.lcmp, 1)) (hd : decode bytes (pc + 1) = .ok (.ifCond .lt o, 3)) (hp : pc + 4 = pc1) (ho : 0 ≤ ((pc + 1 : Nat) : Int) + o) (hq : (((pc + 1 : Nat) : Int) + o).toNat = pc2) (ha : x.toInt = a) (hb' : y.toInt = b) (ht : a < b → G h kc ks (mkF m pc2 L S)) (hf : b ≤ a → G h kc ks (mkF m pc1 L S)) : G h kc ks (mkF m pc L (.long y :: .long x :: S)) := by
  subst hp
  have q := lcmpW0 .lt ha hb'
  refine K.step (f' := mkF m (pc + 1) L (.int (if x > y then 1 else if x = y then 0 else -1) :: S)) (fun p e below T c h hx hb0 t hr => XS.lcmp h hx rfl (hb hb0 hd0) rfl hr) ?_
  by_cases hc : a < b
  · exact K.step (fun p e below T c h hx hb0 t hr => XS.ifYes h hx rfl (pc0 := pc + 1) (pc' := pc2) rfl (hb hb0 hd) rfl (q.trans (decide_eq_true hc)) ho hq hr) (ht hc)
  · exact K.step (fun p e below T c h hx hb0 t hr => XS.ifNo h hx rfl (hb hb0 hd) rfl (q.trans (decide_eq_false hc)) hr) (hf (by omega))
theorem Cx.icmp_ge (K : Cx l R Z n0 Q own nm bytes maxL ret m G) {o : Int} {x y : Int32} {a b : Int} (hd : decode bytes pc = .ok (.if_icmp .ge o, 3)) (hp : pc + 3 = pc1) (ho : 0 ≤ (pc : Int) + o) (hq : ((pc : Int) + o).toNat = pc2) (ha : x.toInt = a) (hb' : y.toInt = b) (ht : b ≤ a → G h kc ks (mkF m pc2 L S)) (hf : a < b → G h kc ks (mkF m pc1 L S)) : G h kc ks (mkF m pc L (.int y :: .int x :: S)) := by
  subst hp
  have q := icmpW .ge ha hb'
  by_cases hc : b ≤ a
  · exact K.step (fun p e below T c h hx hb0 t hr => XS.icmpYes h hx rfl (pc0 := pc) (pc' := pc2) rfl (hb hb0 hd) rfl (q.trans (decide_eq_true hc)) ho hq hr) (ht hc)
  · exact K.step (fun p e below T c h hx hb0 t hr => XS.icmpNo h hx rfl (hb hb0 hd) rfl (q.trans (decide_eq_false hc)) hr) (hf (by omega))
theorem Cx.if_ge (K : Cx l R Z n0 Q own nm bytes maxL ret m G) {o : Int} {x : Int32} {a : Int} (hd : decode bytes pc = .ok (.ifCond .ge o, 3)) (hp : pc + 3 = pc1) (ho : 0 ≤ (pc : Int) + o) (hq : ((pc : Int) + o).toNat = pc2) (ha : x.toInt = a) (ht : 0 ≤ a → G h kc ks (mkF m pc2 L S)) (hf : a < 0 → G h kc ks (mkF m pc1 L S)) : G h kc ks (mkF m pc L (.int x :: S)) := by
  subst hp
  have q := (if0 .ge x).trans (icmpW .ge ha (b := 0) rfl)
  by_cases hc : 0 ≤ a
  · exact K.step (fun p e below T c h hx hb0 t hr => XS.ifYes h hx rfl (pc0 := pc) (pc' := pc2) rfl (hb hb0 hd) rfl (q.trans (decide_eq_true hc)) ho hq hr) (ht hc)
  · exact K.step (fun p e below T c h hx hb0 t hr => XS.ifNo h hx rfl (hb hb0 hd) rfl (q.trans (decide_eq_false hc)) hr) (hf (by omega))
theorem Cx.lcmp_ge (K : Cx l R Z n0 Q own nm bytes maxL ret m G) {o : Int} {x y : Int64} {a b : Int} (hd0 : decode bytes pc = .ok (.lcmp, 1)) (hd : decode bytes (pc + 1) = .ok (.ifCond .ge o, 3)) (hp : pc + 4 = pc1) (ho : 0 ≤ ((pc + 1 : Nat) : Int) + o) (hq : (((pc + 1 : Nat) : Int) + o).toNat = pc2) (ha : x.toInt = a) (hb' : y.toInt = b) (ht : b ≤ a → G h kc ks (mkF m pc2 L S)) (hf : a < b → G h kc ks (mkF m pc1 L S)) : G h kc ks (mkF m pc L (.long y :: .long x :: S)) := by
  subst hp
  have q := lcmpW0 .ge ha hb'
  refine K.step (f' := mkF m (pc + 1) L (.int (if x > y then 1 else if x = y then 0 else -1) :: S)) (fun p e below T c h hx hb0 t hr => XS.lcmp h hx rfl (hb hb0 hd0) rfl hr) ?_
  by_cases hc : b ≤ a
  · exact K.step (fun p e below T c h hx hb0 t hr => XS.ifYes h hx rfl (pc0 := pc + 1) (pc' := pc2) rfl (hb hb0 hd) rfl (q.trans (decide_eq_true hc)) ho hq hr) (ht hc)
  · exact K.step (fun p e below T c h hx hb0 t hr => XS.ifNo h hx rfl (hb hb0 hd) rfl (q.trans (decide_eq_false hc)) hr) (hf (by omega))
theorem Cx.icmp_gt (K : Cx l R Z n0 Q own nm bytes maxL ret m G) {o : Int} {x y : Int32} {a b : Int} (hd : decode bytes pc = .ok (.if_icmp .gt o, 3)) (hp : pc + 3 = pc1) (ho : 0 ≤ (pc : Int) + o) (hq : ((pc : Int) + o).toNat = pc2) (ha : x.toInt = a) (hb' : y.toInt = b) (ht : b < a → G h kc ks (mkF m pc2 L S)) (hf : a ≤ b → G h kc ks (mkF m pc1 L S)) : G h kc ks (mkF m pc L (.int y :: .int x :: S)) := by
  subst hp
  have q := icmpW .gt ha hb'
  by_cases hc : b < a
  · exact K.step (fun p e below T c h hx hb0 t hr => XS.icmpYes h hx rfl (pc0 := pc) (pc' := pc2) rfl (hb hb0 hd) rfl (q.trans (decide_eq_true hc)) ho hq hr) (ht hc)
  · exact K.step (fun p e below T c h hx hb0 t hr => XS.icmpNo h hx rfl (hb hb0 hd) rfl (q.trans (decide_eq_false hc)) hr) (hf (by omega))
theorem Cx.if_gt (K : Cx l R Z n0 Q own nm bytes maxL ret m G) {o : Int} {x : Int32} {a : Int} (hd : decode bytes pc = .ok (.ifCond .gt o, 3)) (hp : pc + 3 = pc1) (ho : 0 ≤ (pc : Int) + o) (hq : ((pc : Int) + o).toNat = pc2) (ha : x.toInt = a) (ht : 0 < a → G h kc ks (mkF m pc2 L S)) (hf : a ≤ 0 → G h kc ks (mkF m pc1 L S)) : G h kc ks (mkF m pc L (.int x :: S)) := by
  subst hp
  have q := (if0 .gt x).trans (icmpW .gt ha (b := 0) rfl)
  by_cases hc : 0 < a
  · exact K.step (fun p e below T c h hx hb0 t hr => XS.ifYes h hx rfl (pc0 := pc) (pc' := pc2) rfl (hb hb0 hd) rfl (q.trans (decide_eq_true hc)) ho hq hr) (ht hc)
  · exact K.step (fun p e below T c h hx hb0 t hr => XS.ifNo h hx rfl (hb hb0 hd) rfl (q.trans (decide_eq_false hc)) hr) (hf (by omega))
theorem Cx.lcmp_gt (K : Cx l R Z n0 Q own nm bytes maxL ret m G) {o : Int} {x y : Int64} {a b : Int} (hd0 : decode bytes pc = .ok (.lcmp, 1)) (hd : decode bytes (pc + 1) = .ok (.ifCond .gt o, 3)) (hp : pc + 4 = pc1) (ho : 0 ≤ ((pc + 1 : Nat) : Int) + o) (hq : (((pc + 1 : Nat) : Int) + o).toNat = pc2) (ha : x.toInt = a) (hb' : y.toInt = b) (ht : b < a → G h kc ks (mkF m pc2 L S)) (hf : a ≤ b → G h kc ks (mkF m pc1 L S)) : G h kc ks (mkF m pc L (.long y :: .long x :: S)) := by
  subst hp
  have q := lcmpW0 .gt ha hb'
  refine K.step (f' := mkF m (pc + 1) L (.int (if x > y then 1 else if x = y then 0 else -1) :: S)) (fun p e below T c h hx hb0 t hr => XS.lcmp h hx rfl (hb hb0 hd0) rfl hr) ?_
  by_cases hc : b < a
  · exact K.step (fun p e below T c h hx hb0 t hr => XS.ifYes h hx rfl (pc0 := pc + 1) (pc' := pc2) rfl (hb hb0 hd) rfl (q.trans (decide_eq_true hc)) ho hq hr) (ht hc)
  · exact K.step (fun p e below T c h hx hb0 t hr => XS.ifNo h hx rfl (hb hb0 hd) rfl (q.trans (decide_eq_false hc)) hr) (hf (by omega))
theorem Cx.icmp_le (K : Cx l R Z n0 Q own nm bytes maxL ret m G) {o : Int} {x y : Int32} {a b : Int} (hd : decode bytes pc = .ok (.if_icmp .le o, 3)) (hp : pc + 3 = pc1) (ho : 0 ≤ (pc : Int) + o) (hq : ((pc : Int) + o).toNat = pc2) (ha : x.toInt = a) (hb' : y.toInt = b) (ht : a ≤ b → G h kc ks (mkF m pc2 L S)) (hf : b < a → G h kc ks (mkF m pc1 L S)) : G h kc ks (mkF m pc L (.int y :: .int x :: S)) := by
  subst hp
  have q := icmpW .le ha hb'
  by_cases hc : a ≤ b
  · exact K.step (fun p e below T c h hx hb0 t hr => XS.icmpYes h hx rfl (pc0 := pc) (pc' := pc2) rfl (hb hb0 hd) rfl (q.trans (decide_eq_true hc)) ho hq hr) (ht hc)
  · exact K.step (fun p e below T c h hx hb0 t hr => XS.icmpNo h hx rfl (hb hb0 hd) rfl (q.trans (decide_eq_false hc)) hr) (hf (by omega))
theorem Cx.if_le (K : Cx l R Z n0 Q own nm bytes maxL ret m G) {o : Int} {x : Int32} {a : Int} (hd : decode bytes pc = .ok (.ifCond .le o, 3)) (hp : pc + 3 = pc1) (ho : 0 ≤ (pc : Int) + o) (hq : ((pc : Int) + o).toNat = pc2) (ha : x.toInt = a) (ht : a ≤ 0 → G h kc ks (mkF m pc2 L S)) (hf : 0 < a → G h kc ks (mkF m pc1 L S)) : G h kc ks (mkF m pc L (.int x :: S)) := by
  subst hp
  have q := (if0 .le x).trans (icmpW .le ha (b := 0) rfl)
  by_cases hc : a ≤ 0
  · exact K.step (fun p e below T c h hx hb0 t hr => XS.ifYes h hx rfl (pc0 := pc) (pc' := pc2) rfl (hb hb0 hd) rfl (q.trans (decide_eq_true hc)) ho hq hr) (ht hc)
  · exact K.step (fun p e below T c h hx hb0 t hr => XS.ifNo h hx rfl (hb hb0 hd) rfl (q.trans (decide_eq_false hc)) hr) (hf (by omega))
theorem Cx.lcmp_le (K : Cx l R Z n0 Q own nm bytes maxL ret m G) {o : Int} {x y : Int64} {a b : Int} (hd0 : decode bytes pc = .ok (.lcmp, 1)) (hd : decode bytes (pc + 1) = .ok (.ifCond .le o, 3)) (hp : pc + 4 = pc1) (ho : 0 ≤ ((pc + 1 : Nat) : Int) + o) (hq : (((pc + 1 : Nat) : Int) + o).toNat = pc2) (ha : x.toInt = a) (hb' : y.toInt = b) (ht : a ≤ b → G h kc ks (mkF m pc2 L S)) (hf : b < a → G h kc ks (mkF m pc1 L S)) : G h kc ks (mkF m pc L (.long y :: .long x :: S)) := by
  subst hp
  have q := lcmpW0 .le ha hb'
  refine K.step (f' := mkF m (pc + 1) L (.int (if x > y then 1 else if x = y then 0 else -1) :: S)) (fun p e below T c h hx hb0 t hr => XS.lcmp h hx rfl (hb hb0 hd0) rfl hr) ?_
  by_cases hc : a ≤ b
  · exact K.step (fun p e below T c h hx hb0 t hr => XS.ifYes h hx rfl (pc0 := pc + 1) (pc' := pc2) rfl (hb hb0 hd) rfl (q.trans (decide_eq_true hc)) ho hq hr) (ht hc)
  · exact K.step (fun p e below T c h hx hb0 t hr => XS.ifNo h hx rfl (hb hb0 hd) rfl (q.trans (decide_eq_false hc)) hr) (hf (by omega))
theorem Cx.icmp_eq (K : Cx l R Z n0 Q own nm bytes maxL ret m G) {o : Int} {x y : Int32} {a b : Int} (hd : decode bytes pc = .ok (.if_icmp .eq o, 3)) (hp : pc + 3 = pc1) (ho : 0 ≤ (pc : Int) + o) (hq : ((pc : Int) + o).toNat = pc2) (ha : x.toInt = a) (hb' : y.toInt = b) (ht : a = b → G h kc ks (mkF m pc2 L S)) (hf : a ≠ b → G h kc ks (mkF m pc1 L S)) : G h kc ks (mkF m pc L (.int y :: .int x :: S)) := by
  subst hp
  have q := icmpW .eq ha hb'
  by_cases hc : a = b
  · exact K.step (fun p e below T c h hx hb0 t hr => XS.icmpYes h hx rfl (pc0 := pc) (pc' := pc2) rfl (hb hb0 hd) rfl (q.trans (decide_eq_true hc)) ho hq hr) (ht hc)
  · exact K.step (fun p e below T c h hx hb0 t hr => XS.icmpNo h hx rfl (hb hb0 hd) rfl (q.trans (decide_eq_false hc)) hr) (hf (by omega))
theorem Cx.if_eq (K : Cx l R Z n0 Q own nm bytes maxL ret m G) {o : Int} {x : Int32} {a : Int} (hd : decode bytes pc = .ok (.ifCond .eq o, 3)) (hp : pc + 3 = pc1) (ho : 0 ≤ (pc : Int) + o) (hq : ((pc : Int) + o).toNat = pc2) (ha : x.toInt = a) (ht : a = 0 → G h kc ks (mkF m pc2 L S)) (hf : a ≠ 0 → G h kc ks (mkF m pc1 L S)) : G h kc ks (mkF m pc L (.int x :: S)) := by
  subst hp
  have q := (if0 .eq x).trans (icmpW .eq ha (b := 0) rfl)
  by_cases hc : a = 0
  · exact K.step (fun p e below T c h hx hb0 t hr => XS.ifYes h hx rfl (pc0 := pc) (pc' := pc2) rfl (hb hb0 hd) rfl (q.trans (decide_eq_true hc)) ho hq hr) (ht hc)
  · exact K.step (fun p e below T c h hx hb0 t hr => XS.ifNo h hx rfl (hb hb0 hd) rfl (q.trans (decide_eq_false hc)) hr) (hf (by omega))
theorem Cx.lcmp_eq (K : Cx l R Z n0 Q own nm bytes maxL ret m G) {o : Int} {x y : Int64} {a b : Int} (hd0 : decode bytes pc = .ok (.lcmp, 1)) (hd : decode bytes (pc + 1) = .ok (.ifCond .eq o, 3)) (hp : pc + 4 = pc1) (ho : 0 ≤ ((pc + 1 : Nat) : Int) + o) (hq : (((pc + 1 : Nat) : Int) + o).toNat = pc2) (ha : x.toInt = a) (hb' : y.toInt = b) (ht : a = b → G h kc ks (mkF m pc2 L S)) (hf : a ≠ b → G h kc ks (mkF m pc1 L S)) : G h kc ks (mkF m pc L (.long y :: .long x :: S)) := by
  subst hp
  have q := lcmpW0 .eq ha hb'
  refine K.step (f' := mkF m (pc + 1) L (.int (if x > y then 1 else if x = y then 0 else -1) :: S)) (fun p e below T c h hx hb0 t hr => XS.lcmp h hx rfl (hb hb0 hd0) rfl hr) ?_
  by_cases hc : a = b
  · exact K.step (fun p e below T c h hx hb0 t hr => XS.ifYes h hx rfl (pc0 := pc + 1) (pc' := pc2) rfl (hb hb0 hd) rfl (q.trans (decide_eq_true hc)) ho hq hr) (ht hc)
  · exact K.step (fun p e below T c h hx hb0 t hr => XS.ifNo h hx rfl (hb hb0 hd) rfl (q.trans (decide_eq_false hc)) hr) (hf (by omega))
theorem Cx.icmp_ne (K : Cx l R Z n0 Q own nm bytes maxL ret m G) {o : Int} {x y : Int32} {a b : Int} (hd : decode bytes pc = .ok (.if_icmp .ne o, 3)) (hp : pc + 3 = pc1) (ho : 0 ≤ (pc : Int) + o) (hq : ((pc : Int) + o).toNat = pc2) (ha : x.toInt = a) (hb' : y.toInt = b) (ht : a ≠ b → G h kc ks (mkF m pc2 L S)) (hf : a = b → G h kc ks (mkF m pc1 L S)) : G h kc ks (mkF m pc L (.int y :: .int x :: S)) := by
  subst hp
  have q := icmpW .ne ha hb'
  by_cases hc : a ≠ b
  · exact K.step (fun p e below T c h hx hb0 t hr => XS.icmpYes h hx rfl (pc0 := pc) (pc' := pc2) rfl (hb hb0 hd) rfl (q.trans (decide_eq_true hc)) ho hq hr) (ht hc)
  · exact K.step (fun p e below T c h hx hb0 t hr => XS.icmpNo h hx rfl (hb hb0 hd) rfl (q.trans (decide_eq_false hc)) hr) (hf (by omega))
theorem Cx.if_ne (K : Cx l R Z n0 Q own nm bytes maxL ret m G) {o : Int} {x : Int32} {a : Int} (hd : decode bytes pc = .ok (.ifCond .ne o, 3)) (hp : pc + 3 = pc1) (ho : 0 ≤ (pc : Int) + o) (hq : ((pc : Int) + o).toNat = pc2) (ha : x.toInt = a) (ht : a ≠ 0 → G h kc ks (mkF m pc2 L S)) (hf : a = 0 → G h kc ks (mkF m pc1 L S)) : G h kc ks (mkF m pc L (.int x :: S)) := by
  subst hp
  have q := (if0 .ne x).trans (icmpW .ne ha (b := 0) rfl)
  by_cases hc : a ≠ 0
  · exact K.step (fun p e below T c h hx hb0 t hr => XS.ifYes h hx rfl (pc0 := pc) (pc' := pc2) rfl (hb hb0 hd) rfl (q.trans (decide_eq_true hc)) ho hq hr) (ht hc)
  · exact K.step (fun p e below T c h hx hb0 t hr => XS.ifNo h hx rfl (hb hb0 hd) rfl (q.trans (decide_eq_false hc)) hr) (hf (by omega))
theorem Cx.lcmp_ne (K : Cx l R Z n0 Q own nm bytes maxL ret m G) {o : Int} {x y : Int64} {a b : Int} (hd0 : decode bytes pc = .ok (.lcmp, 1)) (hd : decode bytes (pc + 1) = .ok (.ifCond .ne o, 3)) (hp : pc + 4 = pc1) (ho : 0 ≤ ((pc + 1 : Nat) : Int) + o) (hq : (((pc + 1 : Nat) : Int) + o).toNat = pc2) (ha : x.toInt = a) (hb' : y.toInt = b) (ht : a ≠ b → G h kc ks (mkF m pc2 L S)) (hf : a = b → G h kc ks (mkF m pc1 L S)) : G h kc ks (mkF m pc L (.long y :: .long x :: S)) := by
  subst hp
  have q := lcmpW0 .ne ha hb'
  refine K.step (f' := mkF m (pc + 1) L (.int (if x > y then 1 else if x = y then 0 else -1) :: S)) (fun p e below T c h hx hb0 t hr => XS.lcmp h hx rfl (hb hb0 hd0) rfl hr) ?_
  by_cases hc : a ≠ b
  · exact K.step (fun p e below T c h hx hb0 t hr => XS.ifYes h hx rfl (pc0 := pc + 1) (pc' := pc2) rfl (hb hb0 hd) rfl (q.trans (decide_eq_true hc)) ho hq hr) (ht hc)
  · exact K.step (fun p e below T c h hx hb0 t hr => XS.ifNo h hx rfl (hb hb0 hd) rfl (q.trans (decide_eq_false hc)) hr) (hf (by omega))
theorem Cx.ifneB (K : Cx l R Z n0 Q own nm bytes maxL ret m G) {o : Int} {P : Prop} [Decidable P] (hd : decode bytes pc = .ok (.ifCond .ne o, 3)) (hp : pc + 3 = pc1) (ho : 0 ≤ (pc : Int) + o) (hq : ((pc : Int) + o).toNat = pc2) (ht : P → G h kc ks (mkF m pc2 L S)) (hf : ¬ P → G h kc ks (mkF m pc1 L S)) : G h kc ks (mkF m pc L (.int (b2 P) :: S)) :=
  K.if_ne hd hp ho hq rfl (fun q => ht ((b2_ne0 P).mp q)) (fun q => hf ((b2_eq0 P).mp q))
theorem Cx.ifeqB (K : Cx l R Z n0 Q own nm bytes maxL ret m G) {o : Int} {P : Prop} [Decidable P] (hd : decode bytes pc = .ok (.ifCond .eq o, 3)) (hp : pc + 3 = pc1) (ho : 0 ≤ (pc : Int) + o) (hq : ((pc : Int) + o).toNat = pc2) (ht : ¬ P → G h kc ks (mkF m pc2 L S)) (hf : P → G h kc ks (mkF m pc1 L S)) : G h kc ks (mkF m pc L (.int (b2 P) :: S)) :=
  K.if_eq hd hp ho hq rfl (fun q => ht ((b2_eq0 P).mp q)) (fun q => hf ((b2_ne0 P).mp q))
theorem Cx.icmpneB (K : Cx l R Z n0 Q own nm bytes maxL ret m G) {o : Int} {P P' : Prop} [Decidable P] [Decidable P'] (hd : decode bytes pc = .ok (.if_icmp .ne o, 3)) (hp : pc + 3 = pc1) (ho : 0 ≤ (pc : Int) + o) (hq : ((pc : Int) + o).toNat = pc2) (ht : ¬ (P ↔ P') → G h kc ks (mkF m pc2 L S)) (hf : (P ↔ P') → G h kc ks (mkF m pc1 L S)) : G h kc ks (mkF m pc L (.int (b2 P') :: .int (b2 P) :: S)) :=
  K.icmp_ne hd hp ho hq rfl rfl (fun q => ht (fun z => q ((b2_inj P P').mpr z))) (fun q => hf ((b2_inj P P').mp q))
theorem Cx.icmpeqB (K : Cx l R Z n0 Q own nm bytes maxL ret m G) {o : Int} {P P' : Prop} [Decidable P] [Decidable P'] (hd : decode bytes pc = .ok (.if_icmp .eq o, 3)) (hp : pc + 3 = pc1) (ho : 0 ≤ (pc : Int) + o) (hq : ((pc : Int) + o).toNat = pc2) (ht : (P ↔ P') → G h kc ks (mkF m pc2 L S)) (hf : ¬ (P ↔ P') → G h kc ks (mkF m pc1 L S)) : G h kc ks (mkF m pc L (.int (b2 P') :: .int (b2 P) :: S)) :=
  K.icmp_eq hd hp ho hq rfl rfl (fun q => ht ((b2_inj P P').mp q)) (fun q => hf (fun z => q ((b2_inj P P').mpr z)))
theorem Cx.ifnull0 (K : Cx l R Z n0 Q own nm bytes maxL ret m G) {o : Int} (hd : decode bytes pc = .ok (.ifnull o, 3)) (ho : 0 ≤ (pc : Int) + o) (hq : ((pc : Int) + o).toNat = pc2) (hr : G h kc ks (mkF m pc2 L S)) : G h kc ks (mkF m pc L (.null :: S)) :=
  K.step (fun p e below T c h hx hb0 t hr => XS.ifnullYes h hx rfl (pc0 := pc) (pc' := pc2) rfl (hb hb0 hd) rfl ho hq hr) hr
theorem Cx.ifnull1 (K : Cx l R Z n0 Q own nm bytes maxL ret m G) {o : Int} {b : Addr} (hd : decode bytes pc = .ok (.ifnull o, 3)) (hp : pc + 3 = pc') (hr : G h kc ks (mkF m pc' L S)) : G h kc ks (mkF m pc L (.ref b :: S)) := by
  subst hp
  exact K.step (fun p e below T c h hx hb0 t hr => XS.ifnullNo h hx rfl (hb hb0 hd) rfl hr) hr
theorem Cx.ifnonnull1 (K : Cx l R Z n0 Q own nm bytes maxL ret m G) {o : Int} {b : Addr} (hd : decode bytes pc = .ok (.ifnonnull o, 3)) (ho : 0 ≤ (pc : Int) + o) (hq : ((pc : Int) + o).toNat = pc2) (hr : G h kc ks (mkF m pc2 L S)) : G h kc ks (mkF m pc L (.ref b :: S)) :=
  K.step (fun p e below T c h hx hb0 t hr => XS.ifnonnullYes h hx rfl (pc0 := pc) (pc' := pc2) rfl (hb hb0 hd) rfl ho hq hr) hr
theorem Cx.ifnonnull0 (K : Cx l R Z n0 Q own nm bytes maxL ret m G) {o : Int} (hd : decode bytes pc = .ok (.ifnonnull o, 3)) (hp : pc + 3 = pc') (hr : G h kc ks (mkF m pc' L S)) : G h kc ks (mkF m pc L (.null :: S)) := by
  subst hp
  exact K.step (fun p e below T c h hx hb0 t hr => XS.ifnonnullNo h hx rfl (hb hb0 hd) rfl hr) hr
theorem Cx.acmpNe (K : Cx l R Z n0 Q own nm bytes maxL ret m G) {o : Int} {a b : Addr} (hd : decode bytes pc = .ok (.if_acmp .ne o, 3)) (hp : pc + 3 = pc1) (ho : 0 ≤ (pc : Int) + o) (hq : ((pc : Int) + o).toNat = pc2) (ht : a ≠ b → G h kc ks (mkF m pc2 L S)) (hf : a = b → G h kc ks (mkF m pc1 L S)) : G h kc ks (mkF m pc L (.ref b :: .ref a :: S)) := by
  subst hp
  by_cases hc : a = b
  · exact K.step (fun p e below T c h hx hb0 t hr => XS.acmpNo h hx rfl (hb hb0 hd) rfl (by simp [if_acmp.holds, hc]) hr) (hf hc)
  · exact K.step (fun p e below T c h hx hb0 t hr => XS.acmpYes h hx rfl (pc0 := pc) (pc' := pc2) rfl (hb hb0 hd) rfl (by simp [if_acmp.holds, hc]) ho hq hr) (ht hc)
theorem Cx.acmpEq (K : Cx l R Z n0 Q own nm bytes maxL ret m G) {o : Int} {a b : Addr} (hd : decode bytes pc = .ok (.if_acmp .eq o, 3)) (hp : pc + 3 = pc1) (ho : 0 ≤ (pc : Int) + o) (hq : ((pc : Int) + o).toNat = pc2) (ht : a = b → G h kc ks (mkF m pc2 L S)) (hf : a ≠ b → G h kc ks (mkF m pc1 L S)) : G h kc ks (mkF m pc L (.ref b :: .ref a :: S)) := by
  subst hp
  by_cases hc : a = b
  · exact K.step (fun p e below T c h hx hb0 t hr => XS.acmpYes h hx rfl (pc0 := pc) (pc' := pc2) rfl (hb hb0 hd) rfl (by simp [if_acmp.holds, hc]) ho hq hr) (ht hc)
  · exact K.step (fun p e below T c h hx hb0 t hr => XS.acmpNo h hx rfl (hb hb0 hd) rfl (by simp [if_acmp.holds, hc]) hr) (hf hc)
theorem Cx.lsHit (K : Cx l R Z n0 Q own nm bytes maxL ret m G) {dflt : Int} {pairs : Array (Int × Int)} {len : Nat} {k : Int32} {a off : Int} (hd : decode bytes pc = .ok (.lookupswitch dflt pairs, len)) (hsorted : (pairs.toList.zip (pairs.toList.drop 1)).all (fun (a, next) => a.1 < next.1) = true) (hfind : pairs.find? (·.1 == k.toInt) = some (a, off)) (ho : 0 ≤ (pc : Int) + off) (hq : ((pc : Int) + off).toNat = pc2) (hr : G h kc ks (mkF m pc2 L S)) : G h kc ks (mkF m pc L (.int k :: S)) := by
  subst hq
  exact K.stepX (h' := h) (fun p e s args below meth c T locs X eT hx hb0 hown hZ => ⟨T, X, eT, fun t hr => X.lookupswitchHit hx (g := mkF m pc L (.int k :: S)) rfl rfl (hb hb0 hd) hsorted hfind ho _ hr⟩) hr
theorem Cx.lsMiss (K : Cx l R Z n0 Q own nm bytes maxL ret m G) {dflt : Int} {pairs : Array (Int × Int)} {len : Nat} {k : Int32} (hd : decode bytes pc = .ok (.lookupswitch dflt pairs, len)) (hsorted : (pairs.toList.zip (pairs.toList.drop 1)).all (fun (a, next) => a.1 < next.1) = true) (hfind : ∀ p ∈ pairs.toList, p.1 ≠ k.toInt) (ho : 0 ≤ (pc : Int) + dflt) (hq : ((pc : Int) + dflt).toNat = pc2) (hr : G h kc ks (mkF m pc2 L S)) : G h kc ks (mkF m pc L (.int k :: S)) := by
  subst hq
  exact K.stepX (h' := h) (fun p e s args below meth c T locs X eT hx hb0 hown hZ => ⟨T, X, eT, fun t hr => X.lookupswitchMiss hx (g := mkF m pc L (.int k :: S)) rfl rfl (hb hb0 hd) hsorted (find_miss hfind) ho _ hr⟩) hr
theorem Cx.ldcI (K : Cx l R Z n0 Q own nm bytes maxL ret m G) {index : Nat} {v : Int32} (hd : decode bytes pc = .ok (.ldc index, 2)) (hp : pc + 2 = pc') (w : (Cond.constant own index v).before a0 Z = true) (hr : G h kc ks (mkF m pc' L (.int v :: S))) : G h kc ks (mkF m pc L S) := by
  subst hp
  exact K.stepX (h' := h) (fun p e s args below meth c T locs X eT hx hb0 hown hZ => ⟨T, X, eT, X.ldcInt hx hown (mvT hZ w) (g := mkF m pc L S) rfl (hb hb0 hd)⟩) hr
theorem Cx.ldcwI (K : Cx l R Z n0 Q own nm bytes maxL ret m G) {index : Nat} {v : Int32} (hd : decode bytes pc = .ok (.ldc_w index, 3)) (hp : pc + 3 = pc') (w : (Cond.constant own index v).before a0 Z = true) (hr : G h kc ks (mkF m pc' L (.int v :: S))) : G h kc ks (mkF m pc L S) := by
  subst hp
  exact K.stepX (h' := h) (fun p e s args below meth c T locs X eT hx hb0 hown hZ => ⟨T, X, eT, X.ldcwInt hx hown (mvT hZ w) (g := mkF m pc L S) rfl (hb hb0 hd)⟩) hr
theorem Cx.ldc2J (K : Cx l R Z n0 Q own nm bytes maxL ret m G) {index : Nat} {v : Int64} (hd : decode bytes pc = .ok (.ldc2_w index, 3)) (hp : pc + 3 = pc') (w : (Cond.constantLong own index v).before a0 Z = true) (hr : G h kc ks (mkF m pc' L (.long v :: S))) : G h kc ks (mkF m pc L S) := by
  subst hp
  exact K.stepX (h' := h) (fun p e s args below meth c T locs X eT hx hb0 hown hZ => ⟨T, X, eT, X.ldc2Long hx hown (mvT hZ w) (g := mkF m pc L S) rfl (hb hb0 hd)⟩) hr
theorem Cx.ldc2D (K : Cx l R Z n0 Q own nm bytes maxL ret m G) {index : Nat} {v : UInt64} (hd : decode bytes pc = .ok (.ldc2_w index, 3)) (hp : pc + 3 = pc') (w : (Cond.constantDouble own index v).before a0 Z = true) (hr : G h kc ks (mkF m pc' L (.double v :: S))) : G h kc ks (mkF m pc L S) := by
  subst hp
  exact K.stepX (h' := h) (fun p e s args below meth c T locs X eT hx hb0 hown hZ => ⟨T, X, eT, X.ldc2DoubleC hx hown (mvT hZ w) (g := mkF m pc L S) rfl (hb hb0 hd)⟩) hr
theorem Cx.getf (K : Cx l R Z n0 Q own nm bytes maxL ret m G) {R0 O n d host : String} {index : Nat} {a : Addr} {v : Value} (hd : decode bytes pc = .ok (.getfield index, 3)) (hp : pc + 3 = pc') (w : (Cond.fieldLink own index R0 n d).before a0 Z = true ∨ (Cond.fieldLinkNest own index R0 n d host).before a0 Z = true) (via : Via Z R0 O n d) (F : Fld Z h a O n d v) (hr : G h kc ks (mkF m pc' L (v :: S))) : G h kc ks (mkF m pc L (.ref a :: S)) := by
  subst hp
  exact K.stepX (h' := h) (fun p e s args below meth c T locs X eT hx hb0 hown hZ => RoadKit.getF X hx hZ hown w via eT F (g := mkF m pc L (.ref a :: S)) rfl rfl (hb hb0 hd)) hr
theorem Cx.gets (K : Cx l R Z n0 Q own nm bytes maxL ret m G) {R0 O n d host : String} {index : Nat} {v : Value} (hd : decode bytes pc = .ok (.getstatic index, 3)) (hp : pc + 3 = pc') (w : (Cond.fieldLink own index R0 n d).before a0 Z = true ∨ (Cond.fieldLinkNest own index R0 n d host).before a0 Z = true) (via : Via Z R0 O n d) (F : Sta Z h O n d v) (hr : G h kc ks (mkF m pc' L (v :: S))) : G h kc ks (mkF m pc L S) := by
  subst hp
  exact K.stepX (h' := h) (fun p e s args below meth c T locs X eT hx hb0 hown hZ => RoadKit.getS2 X hx hZ hown w via eT F (g := mkF m pc L S) rfl (hb hb0 hd)) hr
theorem Cx.putf (K : Cx l R Z n0 Q own nm bytes maxL ret m G) {R0 O n d host C : String} {index kk : Nat} {ty : FieldType} {a : Addr} {v old : Value} (hd : decode bytes pc = .ok (.putfield index, 3)) (hp : pc + 3 = pc') (w : (Cond.fieldLink own index R0 n d).before a0 Z = true ∨ (Cond.fieldLinkNest own index R0 n d host).before a0 Z = true) (via : Via Z R0 O n d) (F : Fld Z h a O n d old) (E : Exa Z h a C)
    (LL : (Cond.lays C O n d).before a0 Z = true ∨ ((Cond.laysFinal C O n d).before a0 Z = true ∧ own = O ∧ nm = "<init>")) (wi : (Cond.instantiable C kk).before a0 Z = true) (hty : parseFieldDescriptor d = some ty) (hn : narrow ty v = v) (hf : fits ty v = true) (ga : n0 ≤ a)
    (hr : ∀ h', Wr h h' a (Jvm.RoadKit.slotOf Z O n d) v → G h' kc ks (mkF m pc' L S)) : G h kc ks (mkF m pc L (v :: .ref a :: S)) := by
  obtain ⟨p, e, s, args, below, meth, c, rfl, hx, hby, hml, hown, hZ, hret, hlk, hnm⟩ := K
  subst hp
  intro T locs X eT N
  obtain ⟨T', h', X', e', W, st⟩ := RoadKit.putF X hx hZ hown w via eT F E (LL.imp id fun q => ⟨q.1, q.2.1, hnm.trans q.2.2⟩) wi hty hn hf (g := mkF m pc L (v :: .ref a :: S)) rfl rfl (hb hby hd)
  obtain ⟨s₂, o, h1, h2⟩ := hr h' W T' _ X' e' (Fr.snoc X' N ga)
  exact ⟨s₂, o, st _ h1, h2⟩
theorem Cx.newo (K : Cx l R Z n0 Q own nm bytes maxL ret m G) {C : String} {index n : Nat} (hd : decode bytes pc = .ok (.new index, 3)) (hp : pc + 3 = pc') (w : (Cond.classLink own index C).before a0 Z = true) (wi : (Cond.instantiable C n).before a0 Z = true) (wz : (Cond.initialized C).before a0 Z = true) (hc : kc + 1 ≤ R.cells) (hl : ks + n ≤ R.slots)
    (hr : ∀ h' a, a = h.size → Ext h h' → Exa Z h' a C → (∀ {O nm d : String} {ty : FieldType}, Laid Z a0 C O nm d → parseFieldDescriptor d = some ty → Fld Z h' a O nm d (defaultValue ty)) → G h' (kc + 1) (ks + n) (mkF m pc' L (.ref a :: S))) : G h kc ks (mkF m pc L S) := by
  obtain ⟨p, e, s, args, below, meth, c, rfl, hx, hby, hml, hown, hZ, hret, hlk, hnm⟩ := K
  subst hp
  intro T locs X eT N
  obtain ⟨T', h', X', e', E, A, D, -, st⟩ := RoadKit.newO X hx hZ hown w wi wz eT (g := mkF m pc L S) rfl (hb hby hd) hc hl
  obtain ⟨s₂, o, h1, h2⟩ := hr h' _ rfl E A D T' _ X' e' N
  exact ⟨s₂, o, st _ h1, h2⟩
theorem Cx.newa (K : Cx l R Z n0 Q own nm bytes maxL ret m G) {aty : ArrayType} {n : Int32} {k cap : Nat} (hd : decode bytes pc = .ok (.newarray aty, 2)) (hp : pc + 2 = pc') (w : (Cond.arrayClass (newarray.typeOf aty)).before a0 Z = true) (hn : n.toInt = (k : Nat)) (hk : k ≤ cap) (hbig : cap * 8 ≤ 536870912) (hc : kc + 1 ≤ R.cells) (hl : ks + cap ≤ R.slots) {ad : String} (had : "[" ++ (newarray.typeOf aty).toString = ad)
    (hr : ∀ h' a, a = h.size → Ext h h' → Ary Z h' a (newarray.typeOf aty) (List.replicate k (defaultValue (newarray.typeOf aty))) → Exa Z h' a ad → G h' (kc + 1) (ks + cap) (mkF m pc' L (.ref a :: S))) : G h kc ks (mkF m pc L (.int n :: S)) := by
  obtain ⟨p, e, s, args, below, meth, c, rfl, hx, hby, hml, hown, hZ, hret, hlk, hnm⟩ := K
  subst hp
  intro T locs X eT N
  have hn0 : ¬ n < 0 := by rw [Int32.lt_iff_toInt_lt, hn, show (0 : Int32).toInt = 0 from rfl]; omega
  obtain ⟨T', h', cA, X', e', E, A, EX, st⟩ := RoadKit.newPE X hx hZ w eT (g := mkF m pc L (.int n :: S)) rfl (hb hby hd) rfl hn0 (cap := cap) (by rw [clamp_of hn]; exact hk) hbig hc hl had
  obtain ⟨s₂, o, h1, h2⟩ := hr h' _ rfl E ⟨_, A, by simp [newA, clamp_of hn], by rw [List.length_replicate]; have := n.toInt_lt; omega⟩ EX T' _ X' e' N
  exact ⟨s₂, o, st _ h1, h2⟩
theorem Cx.iald (K : Cx l R Z n0 Q own nm bytes maxL ret m G) {a : Addr} {vs : List Value} {j : Int32} {i : Nat} {v : Value} (hd : decode bytes pc = .ok (.iaload, 1)) (hp : pc + 1 = pc') (A : Ary Z h a .int vs) (hj : j.toInt = (i : Nat)) (hv : vs[i]? = some v) (hr : G h kc ks (mkF m pc' L (v :: S))) : G h kc ks (mkF m pc L (.int j :: .ref a :: S)) := by
  subst hp
  obtain ⟨cl, Ar, rfl, hlt⟩ := A
  have hi : i < cl.slots.toList.length := (List.getElem?_eq_some_iff.mp hv).1
  exact K.stepX (h' := h) (fun p e s args below meth c T locs X eT hx hb0 hown hZ => ⟨T, X, eT, fun t hr => X.iaload hx (j := j) (v := v) (by rw [eT]; exact Ar.1) (State.isArrayOf_alike hZ.alike Ar.2.1) Ar.2.2 (in_of hj hi) (at_of hj hv) (g := mkF m pc L (.int j :: .ref a :: S)) rfl rfl (hb hb0 hd) _ hr⟩) hr
theorem Cx.lald (K : Cx l R Z n0 Q own nm bytes maxL ret m G) {a : Addr} {vs : List Value} {j : Int32} {i : Nat} {v : Value} (hd : decode bytes pc = .ok (.laload, 1)) (hp : pc + 1 = pc') (A : Ary Z h a .long vs) (hj : j.toInt = (i : Nat)) (hv : vs[i]? = some v) (hr : G h kc ks (mkF m pc' L (v :: S))) : G h kc ks (mkF m pc L (.int j :: .ref a :: S)) := by
  subst hp
  obtain ⟨cl, Ar, rfl, hlt⟩ := A
  have hi : i < cl.slots.toList.length := (List.getElem?_eq_some_iff.mp hv).1
  exact K.stepX (h' := h) (fun p e s args below meth c T locs X eT hx hb0 hown hZ => ⟨T, X, eT, fun t hr => X.laload hx (j := j) (v := v) (by rw [eT]; exact Ar.1) (State.isArrayOf_alike hZ.alike Ar.2.1) Ar.2.2 (in_of hj hi) (at_of hj hv) (g := mkF m pc L (.int j :: .ref a :: S)) rfl rfl (hb hb0 hd) _ hr⟩) hr
theorem Cx.cald (K : Cx l R Z n0 Q own nm bytes maxL ret m G) {a : Addr} {vs : List Value} {j : Int32} {i : Nat} {v : Value} (hd : decode bytes pc = .ok (.caload, 1)) (hp : pc + 1 = pc') (A : Ary Z h a .char vs) (hj : j.toInt = (i : Nat)) (hv : vs[i]? = some v) (hr : G h kc ks (mkF m pc' L (v :: S))) : G h kc ks (mkF m pc L (.int j :: .ref a :: S)) := by
  subst hp
  obtain ⟨cl, Ar, rfl, hlt⟩ := A
  have hi : i < cl.slots.toList.length := (List.getElem?_eq_some_iff.mp hv).1
  exact K.stepX (h' := h) (fun p e s args below meth c T locs X eT hx hb0 hown hZ => ⟨T, X, eT, fun t hr => X.caload hx (j := j) (v := v) (by rw [eT]; exact Ar.1) (State.isArrayOf_alike hZ.alike Ar.2.1) Ar.2.2 (in_of hj hi) (at_of hj hv) (g := mkF m pc L (.int j :: .ref a :: S)) rfl rfl (hb hb0 hd) _ hr⟩) hr
theorem Cx.bald (K : Cx l R Z n0 Q own nm bytes maxL ret m G) {a : Addr} {vs : List Value} {j : Int32} {i : Nat} {v : Value} (hd : decode bytes pc = .ok (.baload, 1)) (hp : pc + 1 = pc') (A : Ary Z h a .byte vs) (hj : j.toInt = (i : Nat)) (hv : vs[i]? = some v) (hr : G h kc ks (mkF m pc' L (v :: S))) : G h kc ks (mkF m pc L (.int j :: .ref a :: S)) := by
  subst hp
  obtain ⟨cl, Ar, rfl, hlt⟩ := A
  have hi : i < cl.slots.toList.length := (List.getElem?_eq_some_iff.mp hv).1
  exact K.stepX (h' := h) (fun p e s args below meth c T locs X eT hx hb0 hown hZ => ⟨T, X, eT, fun t hr => X.baloadBytes hx (j := j) (v := v) (by rw [eT]; exact Ar.1) (State.isArrayOf_alike hZ.alike Ar.2.1) Ar.2.2 (in_of hj hi) (at_of hj hv) (g := mkF m pc L (.int j :: .ref a :: S)) rfl rfl (hb hb0 hd) _ hr⟩) hr
theorem Cx.alen (K : Cx l R Z n0 Q own nm bytes maxL ret m G) {a : Addr} {vs : List Value} {ty : FieldType} (hd : decode bytes pc = .ok (.arraylength, 1)) (hp : pc + 1 = pc') (A : Ary Z h a ty vs) (hr : ∀ z : Int32, z.toInt = (vs.length : Nat) → G h kc ks (mkF m pc' L (.int z :: S))) : G h kc ks (mkF m pc L (.ref a :: S)) := by
  subst hp
  obtain ⟨cl, Ar, rfl, hlt⟩ := A
  refine K.stepX (h' := h) (f' := mkF m (pc + 1) L (.int cl.slots.size.toInt32 :: S)) (fun p e s args below meth c T locs X eT hx hb0 hown hZ => ⟨T, X, eT, fun t hr => X.arraylength hx (by rw [eT]; exact Ar.1) (State.isArrayOf_alike hZ.alike Ar.2.1) (g := mkF m pc L (.ref a :: S)) rfl rfl (hb hb0 hd) _ hr⟩) (hr _ ?_)
  rw [Array.length_toList] at hlt ⊢
  exact len_int hlt
theorem Cx.iast (K : Cx l R Z n0 Q own nm bytes maxL ret m G) {a : Addr} {vs : List Value} {j : Int32} {x : Int32} {i : Nat} (hd : decode bytes pc = .ok (.iastore, 1)) (hp : pc + 1 = pc') (A : Ary Z h a .int vs) (hj : j.toInt = (i : Nat)) (hi : i < vs.length) (ga : n0 ≤ a) (hr : ∀ h', Wr h h' a i (.int x) → Ary Z h' a .int (vs.set i (.int x)) → G h' kc ks (mkF m pc' L S)) : G h kc ks (mkF m pc L (.int x :: .int j :: .ref a :: S)) := by
  obtain ⟨p, e, s, args, below, meth, c, rfl, hx, hby, hml, hown, hZ, hret, hlk, hnm⟩ := K
  subst hp
  intro T locs X eT N
  have A0 := A
  obtain ⟨cl, Ar, rfl, hlt⟩ := A
  obtain ⟨T', h', X', e', W, st⟩ := RoadKit.stI X hx hZ eT Ar (j := j) (in_of hj hi) (g := mkF m pc L (.int x :: .int j :: .ref a :: S)) rfl rfl (hb hby hd)
  have W' := W
  rw [clamp_of hj] at W'
  obtain ⟨s₂, o, h1, h2⟩ := hr h' W' (A0.same W') T' _ X' e' (Fr.snoc X' N ga)
  exact ⟨s₂, o, st _ h1, h2⟩
theorem Cx.last (K : Cx l R Z n0 Q own nm bytes maxL ret m G) {a : Addr} {vs : List Value} {j : Int32} {x : Int64} {i : Nat} (hd : decode bytes pc = .ok (.lastore, 1)) (hp : pc + 1 = pc') (A : Ary Z h a .long vs) (hj : j.toInt = (i : Nat)) (hi : i < vs.length) (ga : n0 ≤ a) (hr : ∀ h', Wr h h' a i (.long x) → Ary Z h' a .long (vs.set i (.long x)) → G h' kc ks (mkF m pc' L S)) : G h kc ks (mkF m pc L (.long x :: .int j :: .ref a :: S)) := by
  obtain ⟨p, e, s, args, below, meth, c, rfl, hx, hby, hml, hown, hZ, hret, hlk, hnm⟩ := K
  subst hp
  intro T locs X eT N
  have A0 := A
  obtain ⟨cl, Ar, rfl, hlt⟩ := A
  obtain ⟨T', h', X', e', W, st⟩ := RoadKit.stJ X hx hZ eT Ar (j := j) (in_of hj hi) (g := mkF m pc L (.long x :: .int j :: .ref a :: S)) rfl rfl (hb hby hd)
  have W' := W
  rw [clamp_of hj] at W'
  obtain ⟨s₂, o, h1, h2⟩ := hr h' W' (A0.same W') T' _ X' e' (Fr.snoc X' N ga)
  exact ⟨s₂, o, st _ h1, h2⟩
theorem Cx.cast_ (K : Cx l R Z n0 Q own nm bytes maxL ret m G) {a : Addr} {vs : List Value} {j : Int32} {x : Int32} {i : Nat} (hd : decode bytes pc = .ok (.castore, 1)) (hp : pc + 1 = pc') (A : Ary Z h a .char vs) (hj : j.toInt = (i : Nat)) (hi : i < vs.length) (ga : n0 ≤ a) (hr : ∀ h', Wr h h' a i (.int (nar .char x)) → Ary Z h' a .char (vs.set i (.int (nar .char x))) → G h' kc ks (mkF m pc' L S)) : G h kc ks (mkF m pc L (.int x :: .int j :: .ref a :: S)) := by
  obtain ⟨p, e, s, args, below, meth, c, rfl, hx, hby, hml, hown, hZ, hret, hlk, hnm⟩ := K
  subst hp
  intro T locs X eT N
  have A0 := A
  obtain ⟨cl, Ar, rfl, hlt⟩ := A
  obtain ⟨T', h', X', e', W, st⟩ := RoadKit.stC X hx hZ eT Ar (j := j) (in_of hj hi) (g := mkF m pc L (.int x :: .int j :: .ref a :: S)) rfl rfl (hb hby hd)
  have W' := W
  rw [clamp_of hj] at W'
  obtain ⟨s₂, o, h1, h2⟩ := hr h' W' (A0.same W') T' _ X' e' (Fr.snoc X' N ga)
  exact ⟨s₂, o, st _ h1, h2⟩
theorem Cx.bast (K : Cx l R Z n0 Q own nm bytes maxL ret m G) {a : Addr} {vs : List Value} {j : Int32} {x : Int32} {i : Nat} (hd : decode bytes pc = .ok (.bastore, 1)) (hp : pc + 1 = pc') (A : Ary Z h a .byte vs) (hj : j.toInt = (i : Nat)) (hi : i < vs.length) (ga : n0 ≤ a) (hr : ∀ h', Wr h h' a i (.int (nar .byte x)) → Ary Z h' a .byte (vs.set i (.int (nar .byte x))) → G h' kc ks (mkF m pc' L S)) : G h kc ks (mkF m pc L (.int x :: .int j :: .ref a :: S)) := by
  obtain ⟨p, e, s, args, below, meth, c, rfl, hx, hby, hml, hown, hZ, hret, hlk, hnm⟩ := K
  subst hp
  intro T locs X eT N
  have A0 := A
  obtain ⟨cl, Ar, rfl, hlt⟩ := A
  obtain ⟨T', h', X', e', W, st⟩ := RoadKit.stB X hx hZ eT Ar (j := j) (in_of hj hi) (g := mkF m pc L (.int x :: .int j :: .ref a :: S)) rfl rfl (hb hby hd)
  have W' := W
  rw [clamp_of hj] at W'
  obtain ⟨s₂, o, h1, h2⟩ := hr h' W' (A0.same W') T' _ X' e' (Fr.snoc X' N ga)
  exact ⟨s₂, o, st _ h1, h2⟩
theorem Cx.init0 (K : Cx l R Z n0 Q own nm bytes maxL ret m G) {idx W : Nat} {a : Addr} (hd : decode bytes pc = .ok (.invokespecial idx, 3)) (hp : pc + 3 = pc') (w1 : (Cond.methodLink own idx Lib.objectInit).before a0 Z = true) (w2 : (Cond.instanceMethod Lib.objectInit).before a0 Z = true) (w3 : (Cond.code Lib.objectInit ⟨#[0xb1]⟩ 1 none).before a0 Z = true) (hL : L.size = maxL) (hf : 1 ≤ R.frames) (hW : (S.map fun v => v.category).sum ≤ W) (hl : W + 12 ≤ R.locals)
    (hr : G h kc ks (mkF m pc' L S)) : G h kc ks (mkF m pc L (.ref a :: S)) := by
  obtain ⟨p, e, s, args, below, meth, c, rfl, hx, hby, hml, hown, hZ, hret, hlk, hnm⟩ := K
  subst hp
  intro T locs X eT N
  obtain ⟨T', X', e', st⟩ := RoadKit.initO X hx hZ hown w1 w2 w3 eT (g := mkF m pc L (.ref a :: S)) rfl (by rw [hml]; exact hL) rfl (hb hby hd) hf (W := W) (by show 2 * 0 + _ ≤ _; omega) hl
  obtain ⟨s₂, o, h1, h2⟩ := hr T' _ X' e' N
  exact ⟨s₂, o, st _ h1, h2⟩
theorem Cx.calls (K : Cx l R Z n0 Q own nm bytes maxL ret m G) {y : MethodName} {b' : ByteArray} {ml' : Nat} {rt' r : Option FieldType} {rm : Room} {Qc : Option Value → Heap → Prop} {index : Nat} {argsL rest : List Value} {W : Nat} {ps : List FieldType} (hd : decode bytes pc = .ok (.invokestatic index, 3)) (hp : pc + 3 = pc') (M : MeetsW l Z n0 y b' ml' rt' rm argsL.toArray h Qc) (w1 : (Cond.methodLink own index y).before a0 Z = true) (w2 : (Cond.static y).before a0 Z = true) (w3 : (Cond.initialized y.cls).before a0 Z = true) (w4 : (Cond.code y b' ml' rt').before a0 Z = true) (hy : y.cls ≠ "java/lang/invoke/MethodHandle" ∧ y.cls ≠ "java/lang/invoke/VarHandle") (hpd : parseMethodDescriptor y.desc = some ⟨ps, r⟩) (hlen : argsL.length = ps.length) (hL : L.size = maxL) (hW : (rest.map fun v => v.category).sum ≤ W) (hf : rm.frames + 1 ≤ R.frames) (hl : W + (ml' + 11) + rm.locals ≤ R.locals) (hc : kc + rm.cells ≤ R.cells) (hsl : ks + rm.slots ≤ R.slots) (hr : ∀ v h', Qc v h' → G h' (kc + rm.cells) (ks + rm.slots) (mkF m pc' L (v.toList ++ rest))) : G h kc ks (mkF m pc L (argsL.reverse ++ rest)) := by
  obtain ⟨p, e, s, args, below, meth, c, rfl, hx, hby, hml, hown, hZ, hret, hlk, hnm⟩ := K
  subst hp
  intro T locs X eT N
  obtain ⟨v, _, ⟨T', Lo, ko, no⟩, -, X', ⟨Lc, hQ, l', y', z'⟩, st⟩ := Jvm.LawKit.callS X hx (y := y) hown (mvT hZ w1) (mvT hZ w2) (mvT hZ w3) (mvT hZ w4) hy (backOf (Q := fun v h L => Qc v h ∧ Fr n0 L) (W := W) (M []) hZ w4 w3 hf hl) (g := mkF m pc L (argsL.reverse ++ rest)) rfl (by rw [hml]; exact hL) (argsL := argsL) (rest := rest) (lenOf hpd hlen) rfl (by show 2 * 0 + _ ≤ _; omega) (hb hby hd) (fun _ _ => ⟨rfl, eT, hc, hsl⟩)
  dsimp only [Pt.U, Pt.locs, Pt.cells, Pt.slots] at X' l' y' z' st hQ
  subst l' y' z'
  obtain ⟨s₂, o, h1, h2⟩ := hr v T'.heap hQ.1 T' _ X' rfl (Fr.app N hQ.2)
  exact ⟨s₂, o, st _ h1, h2⟩
theorem Cx.callc (K : Cx l R Z n0 Q own nm bytes maxL ret m G) {y : MethodName} {b' : ByteArray} {ml' : Nat} {r : Option FieldType} {rm : Room} {Qc : Option Value → Heap → Prop} {index : Nat} {argsL rest : List Value} {W : Nat} {ps : List FieldType} {a : Addr} (hd : decode bytes pc = .ok (.invokespecial index, 3)) (hp : pc + 3 = pc') (hi : y.name = "<init>") (M : MeetsW l Z n0 y b' ml' none rm (Value.ref a :: argsL).toArray h Qc) (w1 : (Cond.methodLink own index y).before a0 Z = true) (w2 : (Cond.instanceMethod y).before a0 Z = true) (w3 : (Cond.initialized y.cls).before a0 Z = true) (w4 : (Cond.code y b' ml' none).before a0 Z = true) (hy : y.cls ≠ "java/lang/invoke/MethodHandle" ∧ y.cls ≠ "java/lang/invoke/VarHandle") (hpd : parseMethodDescriptor y.desc = some ⟨ps, r⟩) (hlen : argsL.length = ps.length) (hL : L.size = maxL) (hW : (rest.map fun v => v.category).sum ≤ W) (hf : rm.frames + 1 ≤ R.frames) (hl : W + (ml' + 11) + rm.locals ≤ R.locals) (hc : kc + rm.cells ≤ R.cells) (hsl : ks + rm.slots ≤ R.slots) (hr : ∀ v h', Qc v h' → G h' (kc + rm.cells) (ks + rm.slots) (mkF m pc' L (v.toList ++ rest))) : G h kc ks (mkF m pc L (argsL.reverse ++ .ref a :: rest)) := by
  obtain ⟨p, e, s, args, below, meth, c, rfl, hx, hby, hml, hown, hZ, hret, hlk, hnm⟩ := K
  subst hp
  intro T locs X eT N
  obtain ⟨v, _, ⟨T', Lo, ko, no⟩, -, X', ⟨Lc, hQ, l', y', z'⟩, st⟩ := X.specialBack hx (y := y) hi hown (mvT hZ w1) (mvT hZ w2) (mvT hZ w4) hy (backOf (Q := fun v h L => Qc v h ∧ Fr n0 L) (W := W) (M []) hZ w4 w3 hf hl) (g := mkF m pc L (argsL.reverse ++ .ref a :: rest)) rfl (by rw [hml]; exact hL) (Steps.refl _) (a := a) (argsL := argsL) (rest := rest) (lenOf hpd hlen) rfl (by show 2 * 0 + _ ≤ _; omega) (hb hby hd) (fun _ _ => ⟨rfl, eT, hc, hsl⟩)
  dsimp only [Pt.U, Pt.locs, Pt.cells, Pt.slots] at X' l' y' z' st hQ
  subst l' y' z'
  obtain ⟨s₂, o, h1, h2⟩ := hr v T'.heap hQ.1 T' _ X' rfl (Fr.app N hQ.2)
  exact ⟨s₂, o, st.trans h1, h2⟩
theorem Cx.callv (K : Cx l R Z n0 Q own nm bytes maxL ret m G) {y z : MethodName} {b' : ByteArray} {ml' : Nat} {rt' r : Option FieldType} {rm : Room} {Qc : Option Value → Heap → Prop} {index : Nat} {argsL rest : List Value} {W : Nat} {ps : List FieldType} {C : String} {a : Addr} (hd : decode bytes pc = .ok (.invokevirtual index, 3)) (hp : pc + 3 = pc') (M : MeetsW l Z n0 z b' ml' rt' rm (Value.ref a :: argsL).toArray h Qc) (E : Exa Z h a C) (w1 : (Cond.methodLink own index y).before a0 Z = true) (w5 : (Cond.declares y).before a0 Z = true) (nf : ∀ s : State, Z.Warmed39 s.vm → NotFace s y) (w6 : (Cond.selects C y z).before a0 Z = true) (w2 : (Cond.instanceMethod z).before a0 Z = true) (w3 : (Cond.initialized z.cls).before a0 Z = true) (w4 : (Cond.code z b' ml' rt').before a0 Z = true) (hy : y.cls ≠ "java/lang/invoke/MethodHandle" ∧ y.cls ≠ "java/lang/invoke/VarHandle") (hpd : parseMethodDescriptor y.desc = some ⟨ps, r⟩) (hlen : argsL.length = ps.length) (hL : L.size = maxL) (hW : (rest.map fun v => v.category).sum ≤ W) (hf : rm.frames + 1 ≤ R.frames) (hl : W + (ml' + 11) + rm.locals ≤ R.locals) (hc : kc + rm.cells ≤ R.cells) (hsl : ks + rm.slots ≤ R.slots) (hr : ∀ v h', Qc v h' → G h' (kc + rm.cells) (ks + rm.slots) (mkF m pc' L (v.toList ++ rest))) : G h kc ks (mkF m pc L (argsL.reverse ++ .ref a :: rest)) := by
  obtain ⟨p, e, s, args, below, meth, c, rfl, hx, hby, hml, hown, hZ, hret, hlk, hnm⟩ := K
  subst hp
  intro T locs X eT N
  obtain ⟨cq, kq, qa, qb, qc⟩ := isOf hZ eT E
  obtain ⟨v, _, ⟨T', Lo, ko, no⟩, -, X', ⟨Lc, hQ, l', y', z'⟩, st⟩ := X.virtualBack hx (y := y) (z := z) hown (mvT hZ w1) (mvT hZ w5) (nf s hZ) (mvT hZ w6) (mvT hZ w2) hy (backOf (Q := fun v h L => Qc v h ∧ Fr n0 L) (W := W) (M []) hZ w4 w3 hf hl) qa qc (g := mkF m pc L (argsL.reverse ++ .ref a :: rest)) rfl (by rw [hml]; exact hL) (Steps.refl _) (argsL := argsL) (rest := rest) (lenOf hpd hlen) rfl (by show 2 * 0 + _ ≤ _; omega) (hb hby hd) (fun _ _ => ⟨rfl, eT, hc, hsl⟩)
  dsimp only [Pt.U, Pt.locs, Pt.cells, Pt.slots] at X' l' y' z' st hQ
  subst l' y' z'
  obtain ⟨s₂, o, h1, h2⟩ := hr v T'.heap hQ.1 T' _ X' rfl (Fr.app N hQ.2)
  exact ⟨s₂, o, st.trans h1, h2⟩
theorem nf_sel {y z : MethodName} {C : String} (w : (Cond.selects C y z).before a0 Z = true) (hyz : y = z) : ∀ s : State, Z.Warmed39 s.vm → NotFace s y := fun s hZ => by subst hyz; exact notFace_of_selects (args := #[]) (mvT hZ w)
theorem Cx.callp (K : Cx l R Z n0 Q own nm bytes maxL ret m G) {y : MethodName} {b' : ByteArray} {ml' : Nat} {rt' r : Option FieldType} {rm : Room} {Qc : Option Value → Heap → Prop} {index : Nat} {argsL rest : List Value} {W : Nat} {ps : List FieldType} {C : String} {a : Addr} (hd : decode bytes pc = .ok (.invokevirtual index, 3)) (hp : pc + 3 = pc') (M : MeetsW l Z n0 y b' ml' rt' rm (Value.ref a :: argsL).toArray h Qc) (E : Exa Z h a C) (w1 : (Cond.methodLink own index y).before a0 Z = true) (w2 : (Cond.instanceMethod y).before a0 Z = true) {kk : Nat} (wi : (Cond.instantiable y.cls kk).before a0 Z = true) (w7 : (Cond.privateMethod y).before a0 Z = true) (w3 : (Cond.initialized y.cls).before a0 Z = true) (w4 : (Cond.code y b' ml' rt').before a0 Z = true) (hy : y.cls ≠ "java/lang/invoke/MethodHandle" ∧ y.cls ≠ "java/lang/invoke/VarHandle") (hpd : parseMethodDescriptor y.desc = some ⟨ps, r⟩) (hlen : argsL.length = ps.length) (hL : L.size = maxL) (hW : (rest.map fun v => v.category).sum ≤ W) (hf : rm.frames + 1 ≤ R.frames) (hl : W + (ml' + 11) + rm.locals ≤ R.locals) (hc : kc + rm.cells ≤ R.cells) (hsl : ks + rm.slots ≤ R.slots) (hr : ∀ v h', Qc v h' → G h' (kc + rm.cells) (ks + rm.slots) (mkF m pc' L (v.toList ++ rest))) : G h kc ks (mkF m pc L (argsL.reverse ++ .ref a :: rest)) := by
  obtain ⟨p, e, s, args, below, meth, c, rfl, hx, hby, hml, hown, hZ, hret, hlk, hnm⟩ := K
  subst hp
  intro T locs X eT N
  obtain ⟨cq, q1, q2⟩ := E.cell
  have hpriv : s.PrivateAt y := Cond.privateMethod_at (mvP hZ w7 (args := #[]))
  obtain ⟨c0, k0, i1, i2, i3, i4, -⟩ := Cond.instantiable_spec (show (Cond.instantiable y.cls kk).before args s = true from mvT hZ wi)
  have w6 : (Cond.selects y.cls y y).before args s = true := selects_self_of_private i1 i2 (by simp only [Bool.or_eq_false_iff] at i4; exact i4.1) hpriv (mvT hZ w2) hy
  obtain ⟨v, _, ⟨T', Lo, ko, no⟩, -, X', ⟨Lc, hQ, l', y', z'⟩, st⟩ := X.privateBack hx (y := y) hown (mvT hZ w1) (mvT hZ w2) w6 hpriv (mvT hZ w4) hy (backOf (Q := fun v h L => Qc v h ∧ Fr n0 L) (W := W) (M []) hZ w4 w3 hf hl) (g := mkF m pc L (argsL.reverse ++ .ref a :: rest)) rfl (by rw [hml]; exact hL) (Steps.refl _) (a := a) (by rw [eT]; exact q1) q2 (argsL := argsL) (rest := rest) (lenOf hpd hlen) rfl (by show 2 * 0 + _ ≤ _; omega) (hb hby hd) (fun _ _ => ⟨rfl, eT, hc, hsl⟩)
  dsimp only [Pt.U, Pt.locs, Pt.cells, Pt.slots] at X' l' y' z' st hQ
  subst l' y' z'
  obtain ⟨s₂, o, h1, h2⟩ := hr v T'.heap hQ.1 T' _ X' rfl (Fr.app N hQ.2)
  exact ⟨s₂, o, st.trans h1, h2⟩
theorem Cx.acopy (K : Cx l R Z n0 Q own nm bytes maxL ret m G) {index W i j k : Nat} {a b : Addr} {ty : FieldType} {vs vd : List Value} {sp dp nn : Int32} (dv : Value) (hd : decode bytes pc = .ok (.invokestatic index, 3)) (hp : pc + 3 = pc') (w1 : (Cond.methodLink own index Jvm.Stand.acN).before a0 Z = true) (w2 : (Cond.native Jvm.Stand.acN).before a0 Z = true) (w3 : (Cond.static Jvm.Stand.acN).before a0 Z = true) (w4 : (Cond.initialized "java/lang/System").before a0 Z = true)
    (A : Ary Z h a ty vs) (B : Ary Z h b ty vd) (hpr : refKind ty = false) (hfa : ∀ v ∈ vs, fits ty v = true) (hfb : ∀ v ∈ vd, fits ty v = true) (hdv : fits ty dv = true) (hi : sp.toInt = (i : Nat)) (hj : dp.toInt = (j : Nat)) (hk : nn.toInt = (k : Nat)) (h4 : i + k ≤ vs.length) (h5 : j + k ≤ vd.length) (gb : n0 ≤ b)
    (hL : L.size = maxL) (hf : 1 ≤ R.frames) (hW : (S.map fun v => v.category).sum ≤ W) (hlo : W + (nativeFrameWords "java/lang/System" "arraycopy" 5 + 11) ≤ R.locals)
    (hr : ∀ h', Keep h h' [b] → Ary Z h' b ty (vd.take j ++ ((List.range k).map fun t => vs.getD (i + t) dv) ++ vd.drop (j + k)) → G h' kc ks (mkF m pc' L S)) : G h kc ks (mkF m pc L (.int nn :: .int dp :: .ref b :: .int sp :: .ref a :: S)) := by
  obtain ⟨p, e, s, args, below, meth, c, rfl, hx, hby, hml, hown, hZ, hret, hlk, hnm⟩ := K
  subst hp
  intro T locs X eT N
  obtain ⟨ka, za, ea, VA⟩ := A.toArv hfa hdv
  obtain ⟨kb, zb, eb, VB⟩ := B.toArv hfb hdv
  have neg : ∀ {x : Int32} {n : Nat}, x.toInt = (n : Nat) → ¬ x < 0 := fun {x n} q => by rw [Int32.lt_iff_toInt_lt, q, show (0 : Int32).toInt = 0 from rfl]; omega
  obtain ⟨T', h', Lc, X', e', N', Kp, V, st⟩ := RoadKit.cpA X hx hZ hown w1 w2 w3 w4 eT VA VB (Or.inl ⟨rfl, hpr⟩) (neg hi) (neg hj) (neg hk) (by rw [clamp_of hi, clamp_of hk, clamp_of ea]; exact h4) (by rw [clamp_of hj, clamp_of hk, clamp_of eb]; exact h5) rfl (by rw [clamp_of hj, clamp_of hk]; exact h5) N gb (g := mkF m pc L (.int nn :: .int dp :: .ref b :: .int sp :: .ref a :: S)) rfl (by rw [hml]; exact hL) rfl (hb hby hd) hf (W := W) (by show 2 * 0 + _ ≤ _; omega) hlo
  rw [clamp_of hi, clamp_of hj, clamp_of hk] at V
  obtain ⟨s₂, o, h1, h2⟩ := hr h' Kp (Arv.toAry V (by rw [eb]; simp; omega)) T' _ X' e' N'
  exact ⟨s₂, o, st _ h1, h2⟩
theorem Cx.clone (K : Cx l R Z n0 Q own nm bytes maxL ret m G) {index W cap : Nat} {a : Addr} {ad : String} {ty : FieldType} {vs : List Value} (dv : Value) (hd : decode bytes pc = .ok (.invokevirtual index, 3)) (hp : pc + 3 = pc')
    (w1 : (Cond.methodLink own index ⟨ad, "clone", "()Ljava/lang/Object;"⟩).before a0 Z = true) (w2 : (Cond.sameMethod ad "java/lang/Object" "clone" "()Ljava/lang/Object;").before a0 Z = true) (w3 : (Cond.native ⟨"java/lang/Object", "clone", "()Ljava/lang/Object;"⟩).before a0 Z = true)
    (w4 : (Cond.instanceMethod ⟨"java/lang/Object", "clone", "()Ljava/lang/Object;"⟩).before a0 Z = true) (w5 : (Cond.selects ad ⟨ad, "clone", "()Ljava/lang/Object;"⟩ ⟨"java/lang/Object", "clone", "()Ljava/lang/Object;"⟩).before a0 Z = true) (w6 : (Cond.castable ad "java/lang/Cloneable").before a0 Z = true)
    (A : Ary Z h a ty vs) (E : Exa Z h a ad) (hfv : ∀ v ∈ vs, fits ty v = true) (hdv : fits ty dv = true) (hL : L.size = maxL) (hf : 1 ≤ R.frames) (hW : (S.map fun v => v.category).sum ≤ W) (hl : W + 14 ≤ R.locals) (hcap : vs.length ≤ cap) (hc : kc + 1 ≤ R.cells) (hsl : ks + cap ≤ R.slots)
    (hr : ∀ h' b, b = h.size → Ext h h' → Ary Z h' b ty vs → Exa Z h' b ad → G h' (kc + 1) (ks + cap) (mkF m pc' L (.ref b :: S))) : G h kc ks (mkF m pc L (.ref a :: S)) := by
  obtain ⟨p, e, s, args, below, meth, c, rfl, hx, hby, hml, hown, hZ, hret, hlk, hnm⟩ := K
  subst hp
  intro T locs X eT N
  obtain ⟨ka, za, ea, VA⟩ := A.toArv hfv hdv
  obtain ⟨T', h', X', e', Ex', V, EX, st⟩ := RoadKit.cloneH X hx hZ hown w1 w2 w3 w4 w5 w6 eT VA.arh E (g := mkF m pc L (.ref a :: S)) rfl (by rw [hml]; exact hL) rfl (hb hby hd) hf (W := W) (cap := cap) (by show 2 * 0 + _ ≤ _; omega) hl (by rw [clamp_of ea]; exact hcap) hc hsl
  obtain ⟨s₂, o, h1, h2⟩ := hr h' _ rfl Ex' (Arv.toAry (show Arv Z h' h.size ka ty za vs dv from V) ea) EX T' _ X' e' N
  exact ⟨s₂, o, st _ h1, h2⟩
theorem Cx.ccast (K : Cx l R Z n0 Q own nm bytes maxL ret m G) {index : Nat} {Kc : String} {a : Addr} (hd : decode bytes pc = .ok (.checkcast index, 3)) (hp : pc + 3 = pc') (w : (Cond.classLink own index Kc).before a0 Z = true) (F : Ins Z h a Kc true) (hr : G h kc ks (mkF m pc' L (.ref a :: S))) : G h kc ks (mkF m pc L (.ref a :: S)) := by
  subst hp
  exact K.stepX (h' := h) (fun p e s args below meth c T locs X eT hx hb0 hown hZ => RoadKit.castY X hx hZ hown w eT F (g := mkF m pc L (.ref a :: S)) rfl rfl (hb hb0 hd)) hr
theorem Cx.reti (K : Cx l R Z n0 Q own nm bytes maxL (some .int) m G) {z : Int32} (hd : decode bytes pc = .ok (.ireturn, 1)) (hc : kc ≤ R.cells) (hs : ks ≤ R.slots) (hQ : Q (some (.int z)) h) : G h kc ks (mkF m pc L (.int z :: S)) := by
  obtain ⟨p, e, s, args, below, meth, c, rfl, hx, hby, hml, hown, hZ, hret, hlk, hnm⟩ := K
  intro T locs X eT N
  obtain ⟨fs, hr, hrun, hended, hW, hsame⟩ := X.leave (v := some (.int z)) (fun h => by rw [hret] at h; cases h) hlk
  refine ⟨_, _, ?_, hrun, hended, _, _, rfl, ⟨?_, N⟩, ⟨_, rfl⟩, hW, hsame.mono hc hs⟩
  · exact retOut X hx hret rfl (Or.inl ⟨rfl, Or.inl rfl, _, rfl⟩) (hb hby hd) hr
  · show Q _ T.heap
    rw [eT]; exact hQ
theorem Cx.retz (K : Cx l R Z n0 Q own nm bytes maxL (some .boolean) m G) {z : Int32} (hd : decode bytes pc = .ok (.ireturn, 1)) (hz : z = 0 ∨ z = 1) (hc : kc ≤ R.cells) (hs : ks ≤ R.slots) (hQ : Q (some (.int z)) h) : G h kc ks (mkF m pc L (.int z :: S)) := by
  obtain ⟨p, e, s, args, below, meth, c, rfl, hx, hby, hml, hown, hZ, hret, hlk, hnm⟩ := K
  intro T locs X eT N
  obtain ⟨fs, hr, hrun, hended, hW, hsame⟩ := X.leave (v := some (.int z)) (fun h => by rw [hret] at h; cases h) hlk
  refine ⟨_, _, ?_, hrun, hended, _, _, rfl, ⟨?_, N⟩, ⟨_, rfl⟩, hW, hsame.mono hc hs⟩
  · exact retOut X hx hret (by rcases hz with rfl | rfl <;> rfl) (Or.inl ⟨rfl, Or.inr (Or.inl rfl), _, rfl⟩) (hb hby hd) hr
  · show Q _ T.heap
    rw [eT]; exact hQ
theorem Cx.retl (K : Cx l R Z n0 Q own nm bytes maxL (some .long) m G) {z : Int64} (hd : decode bytes pc = .ok (.lreturn, 1)) (hc : kc ≤ R.cells) (hs : ks ≤ R.slots) (hQ : Q (some (.long z)) h) : G h kc ks (mkF m pc L (.long z :: S)) := by
  obtain ⟨p, e, s, args, below, meth, c, rfl, hx, hby, hml, hown, hZ, hret, hlk, hnm⟩ := K
  intro T locs X eT N
  obtain ⟨fs, hr, hrun, hended, hW, hsame⟩ := X.leave (v := some (.long z)) (fun h => by rw [hret] at h; cases h) hlk
  refine ⟨_, _, ?_, hrun, hended, _, _, rfl, ⟨?_, N⟩, ⟨_, rfl⟩, hW, hsame.mono hc hs⟩
  · exact retOut X hx hret rfl (Or.inr (Or.inl ⟨rfl, rfl, _, rfl⟩)) (hb hby hd) hr
  · show Q _ T.heap
    rw [eT]; exact hQ
theorem Cx.reta {t : FieldType} (K : Cx l R Z n0 Q own nm bytes maxL (some t) m G) {v : Value} (hd : decode bytes pc = .ok (.areturn, 1)) (ht : t.isReference = true) (hn : narrow t v = v) (hv : v.isRef = true) (hc : kc ≤ R.cells) (hs : ks ≤ R.slots) (hQ : Q (some v) h) : G h kc ks (mkF m pc L (v :: S)) := by
  obtain ⟨p, e, s, args, below, meth, c, rfl, hx, hby, hml, hown, hZ, hret, hlk, hnm⟩ := K
  intro T locs X eT N
  obtain ⟨fs, hr, hrun, hended, hW, hsame⟩ := X.leave (v := some v) (fun h => by rw [hret] at h; cases h) hlk
  refine ⟨_, _, ?_, hrun, hended, _, _, rfl, ⟨?_, N⟩, ⟨_, rfl⟩, hW, hsame.mono hc hs⟩
  · exact retOut X hx hret hn (Or.inr (Or.inr (Or.inr (Or.inr ⟨rfl, ht, hv⟩)))) (hb hby hd) hr
  · show Q _ T.heap
    rw [eT]; exact hQ
theorem Cx.retd (K : Cx l R Z n0 Q own nm bytes maxL (some .double) m G) {z : UInt64} (hd : decode bytes pc = .ok (.dreturn, 1)) (hc : kc ≤ R.cells) (hs : ks ≤ R.slots) (hQ : Q (some (.double z)) h) : G h kc ks (mkF m pc L (.double z :: S)) := by
  obtain ⟨p, e, s, args, below, meth, c, rfl, hx, hby, hml, hown, hZ, hret, hlk, hnm⟩ := K
  intro T locs X eT N
  obtain ⟨fs, hr, hrun, hended, hW, hsame⟩ := X.leave (v := some (.double z)) (fun h => by rw [hret] at h; cases h) hlk
  refine ⟨_, _, ?_, hrun, hended, _, _, rfl, ⟨?_, N⟩, ⟨_, rfl⟩, hW, hsame.mono hc hs⟩
  · exact retOut X hx hret rfl (Or.inr (Or.inr (Or.inl ⟨rfl, rfl, _, rfl⟩))) (hb hby hd) hr
  · show Q _ T.heap
    rw [eT]; exact hQ
theorem Cx.ret0 (K : Cx l R Z n0 Q own nm bytes maxL none m G) (hd : decode bytes pc = .ok (.return_, 1)) (hc : kc ≤ R.cells) (hs : ks ≤ R.slots) (hQ : Q none h) : G h kc ks (mkF m pc L []) := by
  obtain ⟨p, e, s, args, below, meth, c, rfl, hx, hby, hml, hown, hZ, hret, hlk, hnm⟩ := K
  intro T locs X eT N
  obtain ⟨fs, hr, hrun, hended, hW, hsame⟩ := X.leave (v := none) (fun h => rfl) hlk
  refine ⟨_, _, ?_, hrun, hended, _, _, rfl, ⟨?_, N⟩, ⟨_, rfl⟩, hW, hsame.mono hc hs⟩
  · exact X.returnOut hx hret (hb hby hd) hr
  · show Q _ T.heap
    rw [eT]; exact hQ
end Steps
end Jvm.Wk
namespace Jvm.Pilot.@@N@@
open Jvm Jvm.ClassFile Sem Op Lib Jvm.Free Jvm.Stand Jvm.LawKit Jvm.RoadKit Jvm.Wk Bundle Jvm.Pilot.@@N@@.Jvm.D
theorem d1_0 : decode prog_29_method_1_code 0 = .ok (.aload_n 0, 1) := by decide +kernel
theorem d1_1 : decode prog_29_method_1_code 1 = .ok (.invokespecial 1, 3) := by decide +kernel
theorem d1_4 : decode prog_29_method_1_code 4 = .ok (.aload_n 0, 1) := by decide +kernel
theorem d1_5 : decode prog_29_method_1_code 5 = .ok (.aload_n 1, 1) := by decide +kernel
theorem d1_6 : decode prog_29_method_1_code 6 = .ok (.putfield 7, 3) := by decide +kernel
theorem d1_9 : decode prog_29_method_1_code 9 = .ok (.aload_n 0, 1) := by decide +kernel
theorem d1_10 : decode prog_29_method_1_code 10 = .ok (.iload_n 2, 1) := by decide +kernel
theorem d1_11 : decode prog_29_method_1_code 11 = .ok (.putfield 13, 3) := by decide +kernel
theorem d1_14 : decode prog_29_method_1_code 14 = .ok (.return_, 1) := by decide +kernel
theorem pn_com_example_woodlark_woodlark_io_NumberBuffer_Reader : plainName "com/example/woodlark/woodlark/io/NumberBuffer$Reader" = true := by first | (simp [plainName, overriddenIn]; done) | decide +kernel
set_option maxRecDepth 65536 in
set_option maxHeartbeats 40000000 in
theorem c_new (l : Launch) (Z : State) (a0 : Array Value) (hw : ∀ d ∈ tables_1, d.before a0 Z = true) (n0 : Nat) (h : Heap) (a : Addr) (b : Addr) (n : Int32) (P1 : Exa Z h a "com/example/woodlark/woodlark/io/NumberBuffer$Reader") (P2 : Fld Z h a "com/example/woodlark/woodlark/io/NumberBuffer$Reader" "bytes" "[B" .null) (P3 : Fld Z h a "com/example/woodlark/woodlark/io/NumberBuffer$Reader" "end" "I" (.int (0 : Int32))) (P4 : Fld Z h a "com/example/woodlark/woodlark/io/NumberBuffer$Reader" "position" "I" (.int (0 : Int32))) (P5 : n0 ≤ a) : MeetsW l Z n0 (⟨"com/example/woodlark/woodlark/io/NumberBuffer$Reader", "<init>", "([BI)V"⟩ : MethodName) prog_29_method_1_code 3 none ({ frames := 1, cells := 0, slots := 0, locals := 12 } : Room) #[(.ref a), (.ref b), (.int n)] h (fun v h' => v = none ∧ Keep h h' [a] ∧ Fld Z h' a "com/example/woodlark/woodlark/io/NumberBuffer$Reader" "bytes" "[B" (.ref b) ∧ Fld Z h' a "com/example/woodlark/woodlark/io/NumberBuffer$Reader" "end" "I" (.int n) ∧ Fld Z h' a "com/example/woodlark/woodlark/io/NumberBuffer$Reader" "position" "I" (.int (0 : Int32))) := by
  refine MeetsW.intro (plainFor_of_name pn_com_example_woodlark_woodlark_io_NumberBuffer_Reader) (L0 := #[.val (.ref a), .val (.ref b), .val (.int n)]) (fun m => by first | (simp [entryFrame, mkF, argsToLocals, Value.category]; done) | rfl) ?_
  intro m G K0
  have K : Cx l ({ frames := 1, cells := 0, slots := 0, locals := 12 } : Room) Z n0 _ "com/example/woodlark/woodlark/io/NumberBuffer$Reader" "<init>" prog_29_method_1_code 3 none m G := K0
  refine K.aloadN d1_0 (pc' := 1) rfl rfl rfl ?_
  refine K.init0 d1_1 (pc' := 4) rfl (hw _ (List.mem_of_getElem? (i := 7) rfl)) (hw _ (List.mem_of_getElem? (i := 8) rfl)) (hw _ (List.mem_of_getElem? (i := 9) rfl)) rfl (by decide) (W := 0) (by simp [Value.category]) (by decide) ?_
  refine K.aloadN d1_4 (pc' := 5) rfl rfl rfl ?_
  refine K.aloadN d1_5 (pc' := 6) rfl rfl rfl ?_
  refine K.putf d1_6 (pc' := 9) rfl (host := "") (Or.inl (hw _ (List.mem_of_getElem? (i := 10) rfl))) Via.refl P2 P1 (Or.inr ⟨(hw _ (List.mem_of_getElem? (i := 11) rfl)), rfl, rfl⟩) (hw _ (List.mem_of_getElem? (i := 2) rfl)) (ty := (.array .byte)) (by decide) rfl rfl P5 (fun h_1 W_2 => ?_)
  have f_3 : Exa Z h_1 a "com/example/woodlark/woodlark/io/NumberBuffer$Reader" := P1.wr W_2
  have f_4 : Fld Z h_1 a "com/example/woodlark/woodlark/io/NumberBuffer$Reader" "bytes" "[B" (.ref b) := P2.same W_2
  have f_5 : Fld Z h_1 a "com/example/woodlark/woodlark/io/NumberBuffer$Reader" "end" "I" (.int (0 : Int32)) := P3.other W_2 (Or.inr (slot_ne (Or.inr (hw _ (List.mem_of_getElem? (i := 13) rfl))) (Or.inr (hw _ (List.mem_of_getElem? (i := 11) rfl))) (by decide) (t := .int) (t' := (.array .byte)) (by decide) (by decide)))
  have f_6 : Fld Z h_1 a "com/example/woodlark/woodlark/io/NumberBuffer$Reader" "position" "I" (.int (0 : Int32)) := P4.other W_2 (Or.inr (slot_ne (Or.inl (hw _ (List.mem_of_getElem? (i := 20) rfl))) (Or.inr (hw _ (List.mem_of_getElem? (i := 11) rfl))) (by decide) (t := .int) (t' := (.array .byte)) (by decide) (by decide)))
  have kp_7 : Keep h h_1 [a] := (Keep.refl h [a]).wr W_2 (Or.inl (by simp))
  refine K.aloadN d1_9 (pc' := 10) rfl rfl rfl ?_
  refine K.iloadN d1_10 (pc' := 11) rfl rfl ?_
  refine K.putf d1_11 (pc' := 14) rfl (host := "") (Or.inl (hw _ (List.mem_of_getElem? (i := 12) rfl))) Via.refl f_5 f_3 (Or.inr ⟨(hw _ (List.mem_of_getElem? (i := 13) rfl)), rfl, rfl⟩) (hw _ (List.mem_of_getElem? (i := 2) rfl)) (ty := .int) (by decide) rfl rfl P5 (fun h_8 W_9 => ?_)
  have f_10 : Exa Z h_8 a "com/example/woodlark/woodlark/io/NumberBuffer$Reader" := f_3.wr W_9
  have f_11 : Fld Z h_8 a "com/example/woodlark/woodlark/io/NumberBuffer$Reader" "bytes" "[B" (.ref b) := f_4.other W_9 (Or.inr (slot_ne (Or.inr (hw _ (List.mem_of_getElem? (i := 11) rfl))) (Or.inr (hw _ (List.mem_of_getElem? (i := 13) rfl))) (by decide) (t := (.array .byte)) (t' := .int) (by decide) (by decide)))
  have f_12 : Fld Z h_8 a "com/example/woodlark/woodlark/io/NumberBuffer$Reader" "end" "I" (.int n) := f_5.same W_9
  have f_13 : Fld Z h_8 a "com/example/woodlark/woodlark/io/NumberBuffer$Reader" "position" "I" (.int (0 : Int32)) := f_6.other W_9 (Or.inr (slot_ne (Or.inl (hw _ (List.mem_of_getElem? (i := 20) rfl))) (Or.inr (hw _ (List.mem_of_getElem? (i := 13) rfl))) (by decide) (t := .int) (t' := .int) (by decide) (by decide)))
  have kp_14 : Keep h h_8 [a] := kp_7.wr W_9 (Or.inl (by simp))
  exact K.ret0 d1_14 (by decide) (by decide) ⟨rfl, kp_14, f_11, f_12, f_13⟩
theorem d4_0 : decode prog_29_method_2_code 0 = .ok (.aload_n 0, 1) := by decide +kernel
theorem d4_1 : decode prog_29_method_2_code 1 = .ok (.getfield 17, 3) := by decide +kernel
theorem d4_4 : decode prog_29_method_2_code 4 = .ok (.aload_n 0, 1) := by decide +kernel
theorem d4_5 : decode prog_29_method_2_code 5 = .ok (.getfield 13, 3) := by decide +kernel
theorem d4_8 : decode prog_29_method_2_code 8 = .ok (.if_icmp .ge 7, 3) := by decide +kernel
theorem d4_15 : decode prog_29_method_2_code 15 = .ok (.iconst 0, 1) := by decide +kernel
theorem d4_16 : decode prog_29_method_2_code 16 = .ok (.ireturn, 1) := by decide +kernel
theorem d4_11 : decode prog_29_method_2_code 11 = .ok (.iconst 1, 1) := by decide +kernel
theorem d4_12 : decode prog_29_method_2_code 12 = .ok (.goto 4, 3) := by decide +kernel
set_option maxRecDepth 65536 in
set_option maxHeartbeats 40000000 in
theorem c_has (l : Launch) (Z : State) (a0 : Array Value) (hw : ∀ d ∈ tables_1, d.before a0 Z = true) (n0 : Nat) (h : Heap) (a : Addr) (w1 : Int32) (w2 : Int32) (P1 : Exa Z h a "com/example/woodlark/woodlark/io/NumberBuffer$Reader") (P2 : Fld Z h a "com/example/woodlark/woodlark/io/NumberBuffer$Reader" "position" "I" (.int w1)) (P3 : Fld Z h a "com/example/woodlark/woodlark/io/NumberBuffer$Reader" "end" "I" (.int w2)) : MeetsW l Z n0 (⟨"com/example/woodlark/woodlark/io/NumberBuffer$Reader", "hasRemaining", "()Z"⟩ : MethodName) prog_29_method_2_code 1 (some .boolean) ({ frames := 0, cells := 0, slots := 0, locals := 0 } : Room) #[(.ref a)] h (fun v h' => v = some (.int (b2 (w1.toInt < w2.toInt))) ∧ h = h') := by
  refine MeetsW.intro (plainFor_of_name pn_com_example_woodlark_woodlark_io_NumberBuffer_Reader) (L0 := #[.val (.ref a)]) (fun m => by first | (simp [entryFrame, mkF, argsToLocals, Value.category]; done) | rfl) ?_
  intro m G K0
  have K : Cx l ({ frames := 0, cells := 0, slots := 0, locals := 0 } : Room) Z n0 _ "com/example/woodlark/woodlark/io/NumberBuffer$Reader" "hasRemaining" prog_29_method_2_code 1 (some .boolean) m G := K0
  refine K.aloadN d4_0 (pc' := 1) rfl rfl rfl ?_
  refine K.getf d4_1 (pc' := 4) rfl (host := "") (Or.inl (hw _ (List.mem_of_getElem? (i := 19) rfl))) Via.refl P2 ?_
  refine K.aloadN d4_4 (pc' := 5) rfl rfl rfl ?_
  refine K.getf d4_5 (pc' := 8) rfl (host := "") (Or.inl (hw _ (List.mem_of_getElem? (i := 12) rfl))) Via.refl P3 ?_
  refine K.icmp_ge d4_8 (pc1 := 11) rfl (by decide) (pc2 := 15) (by decide) (a := w1.toInt) (b := w2.toInt) rfl rfl (fun c8 => ?_) (fun c8 => ?_)
  · refine K.iconst d4_15 (pc' := 16) rfl (z := 0) rfl ?_
    exact K.retz d4_16 (Or.inl rfl) (by decide) (by decide) ⟨by rw [b2_f (by omega)], rfl⟩
  · refine K.iconst d4_11 (pc' := 12) rfl (z := 1) rfl ?_
    refine K.goto d4_12 (by decide) (pc' := 16) (by decide) ?_
    exact K.retz d4_16 (Or.inr rfl) (by decide) (by decide) ⟨by rw [b2_t (by omega)], rfl⟩
def ct (x0 x1 x2 x3 x4 : Int32) : Int := if 0 ≤ x0.toInt then 1 else if 0 ≤ x1.toInt then 2 else if 0 ≤ x2.toInt then 3 else if 0 ≤ x3.toInt then 4 else 5
def vl (x0 x1 x2 x3 x4 : Int32) : Int := if 0 ≤ x0.toInt then x0.toInt % 128 else if 0 ≤ x1.toInt then x0.toInt % 128 + 128 * (x1.toInt % 128) else if 0 ≤ x2.toInt then x0.toInt % 128 + 128 * (x1.toInt % 128) + 16384 * (x2.toInt % 128) else if 0 ≤ x3.toInt then x0.toInt % 128 + 128 * (x1.toInt % 128) + 16384 * (x2.toInt % 128) + 2097152 * (x3.toInt % 128) else if 0 ≤ x4.toInt then (if x4.toInt % 128 < 8 then x0.toInt % 128 + 128 * (x1.toInt % 128) + 16384 * (x2.toInt % 128) + 2097152 * (x3.toInt % 128) + 268435456 * (x4.toInt % 128) else 0) else 0
theorem d3_0 : decode prog_29_method_4_code 0 = .ok (.lconst 0, 1) := by decide +kernel
theorem d3_1 : decode prog_29_method_4_code 1 = .ok (.lstore_n 1, 1) := by decide +kernel
theorem d3_2 : decode prog_29_method_4_code 2 = .ok (.iconst 0, 1) := by decide +kernel
theorem d3_3 : decode prog_29_method_4_code 3 = .ok (.istore_n 3, 1) := by decide +kernel
theorem d3_4 : decode prog_29_method_4_code 4 = .ok (.iload_n 3, 1) := by decide +kernel
theorem d3_5 : decode prog_29_method_4_code 5 = .ok (.bipush 28, 2) := by decide +kernel
theorem d3_7 : decode prog_29_method_4_code 7 = .ok (.if_icmp .gt 77, 3) := by decide +kernel
theorem d3_10 : decode prog_29_method_4_code 10 = .ok (.aload_n 0, 1) := by decide +kernel
theorem d3_11 : decode prog_29_method_4_code 11 = .ok (.getfield 17, 3) := by decide +kernel
theorem d3_14 : decode prog_29_method_4_code 14 = .ok (.aload_n 0, 1) := by decide +kernel
theorem d3_15 : decode prog_29_method_4_code 15 = .ok (.getfield 13, 3) := by decide +kernel
theorem d3_18 : decode prog_29_method_4_code 18 = .ok (.if_icmp .ne 11, 3) := by decide +kernel
theorem d3_29 : decode prog_29_method_4_code 29 = .ok (.aload_n 0, 1) := by decide +kernel
theorem d3_30 : decode prog_29_method_4_code 30 = .ok (.getfield 7, 3) := by decide +kernel
theorem d3_33 : decode prog_29_method_4_code 33 = .ok (.aload_n 0, 1) := by decide +kernel
theorem d3_34 : decode prog_29_method_4_code 34 = .ok (.dup, 1) := by decide +kernel
theorem d3_35 : decode prog_29_method_4_code 35 = .ok (.getfield 17, 3) := by decide +kernel
theorem d3_38 : decode prog_29_method_4_code 38 = .ok (.dup_x1, 1) := by decide +kernel
theorem d3_39 : decode prog_29_method_4_code 39 = .ok (.iconst 1, 1) := by decide +kernel
theorem d3_40 : decode prog_29_method_4_code 40 = .ok (.iadd, 1) := by decide +kernel
theorem d3_41 : decode prog_29_method_4_code 41 = .ok (.putfield 17, 3) := by decide +kernel
theorem d3_44 : decode prog_29_method_4_code 44 = .ok (.baload, 1) := by decide +kernel
theorem d3_45 : decode prog_29_method_4_code 45 = .ok (.istore 4, 2) := by decide +kernel
theorem d3_47 : decode prog_29_method_4_code 47 = .ok (.lload_n 1, 1) := by decide +kernel
theorem d3_48 : decode prog_29_method_4_code 48 = .ok (.iload 4, 2) := by decide +kernel
theorem d3_50 : decode prog_29_method_4_code 50 = .ok (.bipush 127, 2) := by decide +kernel
theorem d3_52 : decode prog_29_method_4_code 52 = .ok (.iand, 1) := by decide +kernel
theorem d3_53 : decode prog_29_method_4_code 53 = .ok (.i2l, 1) := by decide +kernel
theorem d3_54 : decode prog_29_method_4_code 54 = .ok (.iload_n 3, 1) := by decide +kernel
theorem d3_55 : decode prog_29_method_4_code 55 = .ok (.lshl, 1) := by decide +kernel
theorem d3_56 : decode prog_29_method_4_code 56 = .ok (.lor, 1) := by decide +kernel
theorem d3_57 : decode prog_29_method_4_code 57 = .ok (.lstore_n 1, 1) := by decide +kernel
theorem d3_58 : decode prog_29_method_4_code 58 = .ok (.iload 4, 2) := by decide +kernel
theorem d3_60 : decode prog_29_method_4_code 60 = .ok (.ifCond .lt 18, 3) := by decide +kernel
theorem d3_78 : decode prog_29_method_4_code 78 = .ok (.iinc 3 7, 3) := by decide +kernel
theorem d3_81 : decode prog_29_method_4_code 81 = .ok (.goto (-77), 3) := by decide +kernel
theorem d3_84 : decode prog_29_method_4_code 84 = .ok (.iconst 0, 1) := by decide +kernel
theorem d3_85 : decode prog_29_method_4_code 85 = .ok (.ireturn, 1) := by decide +kernel
theorem d3_63 : decode prog_29_method_4_code 63 = .ok (.lload_n 1, 1) := by decide +kernel
theorem d3_64 : decode prog_29_method_4_code 64 = .ok (.ldc2_w 31, 3) := by decide +kernel
theorem d3_67 : decode prog_29_method_4_code 67 = .ok (.lcmp, 1) := by decide +kernel
theorem d3_68 : decode prog_29_method_4_code 68 = .ok (.ifCond .gt 8, 3) := by decide +kernel
theorem d3_76 : decode prog_29_method_4_code 76 = .ok (.iconst 0, 1) := by decide +kernel
theorem d3_77 : decode prog_29_method_4_code 77 = .ok (.ireturn, 1) := by decide +kernel
theorem d3_71 : decode prog_29_method_4_code 71 = .ok (.lload_n 1, 1) := by decide +kernel
theorem d3_72 : decode prog_29_method_4_code 72 = .ok (.l2i, 1) := by decide +kernel
theorem d3_73 : decode prog_29_method_4_code 73 = .ok (.goto 4, 3) := by decide +kernel
set_option maxRecDepth 65536 in
set_option maxHeartbeats 40000000 in
theorem c_next (l : Launch) (Z : State) (a0 : Array Value) (hw : ∀ d ∈ tables_1, d.before a0 Z = true) (n0 : Nat) (h : Heap) (a : Addr) (b : Addr) (n : Int32) (x0 : Int32) (x1 : Int32) (x2 : Int32) (x3 : Int32) (x4 : Int32) (x5 : Int32) (P1 : Exa Z h a "com/example/woodlark/woodlark/io/NumberBuffer$Reader") (P2 : Fld Z h a "com/example/woodlark/woodlark/io/NumberBuffer$Reader" "bytes" "[B" (.ref b)) (P3 : Fld Z h a "com/example/woodlark/woodlark/io/NumberBuffer$Reader" "end" "I" (.int n)) (P4 : Fld Z h a "com/example/woodlark/woodlark/io/NumberBuffer$Reader" "position" "I" (.int (0 : Int32))) (P5 : Ary Z h b .byte [(.int x0), (.int x1), (.int x2), (.int x3), (.int x4), (.int x5)]) (P6 : n0 ≤ a) (P7 : b ≠ a) (hn : ct x0 x1 x2 x3 x4 ≤ n.toInt) : MeetsW l Z n0 (⟨"com/example/woodlark/woodlark/io/NumberBuffer$Reader", "next", "()I"⟩ : MethodName) prog_29_method_4_code 5 (some .int) ({ frames := 0, cells := 0, slots := 0, locals := 0 } : Room) #[(.ref a)] h (fun v h' => ∃ (z : Int32) (ps : Int32), v = some (.int z) ∧ (ps.toInt = ct x0 x1 x2 x3 x4 ∧ z.toInt = vl x0 x1 x2 x3 x4 ∧ (1 ≤ ps.toInt ∧ ps.toInt ≤ 5)) ∧ Keep h h' [a] ∧ Fld Z h' a "com/example/woodlark/woodlark/io/NumberBuffer$Reader" "position" "I" (.int ps) ∧ Fld Z h' a "com/example/woodlark/woodlark/io/NumberBuffer$Reader" "bytes" "[B" (.ref b) ∧ Fld Z h' a "com/example/woodlark/woodlark/io/NumberBuffer$Reader" "end" "I" (.int n)) := by
  refine MeetsW.intro (plainFor_of_name pn_com_example_woodlark_woodlark_io_NumberBuffer_Reader) (L0 := #[.val (.ref a), .unset, .unset, .unset, .unset]) (fun m => by first | (simp [entryFrame, mkF, argsToLocals, Value.category]; done) | rfl) ?_
  intro m G K0
  have K : Cx l ({ frames := 0, cells := 0, slots := 0, locals := 0 } : Room) Z n0 _ "com/example/woodlark/woodlark/io/NumberBuffer$Reader" "next" prog_29_method_4_code 5 (some .int) m G := K0
  have hn1 : 1 ≤ n.toInt ∧ (x0.toInt < 0 → 2 ≤ n.toInt ∧ (x1.toInt < 0 → 3 ≤ n.toInt ∧ (x2.toInt < 0 → 4 ≤ n.toInt ∧ (x3.toInt < 0 → 5 ≤ n.toInt)))) := by simp only [ct] at hn; (repeat' split at hn) <;> omega
  clear hn
  refine K.lconst d3_0 (pc' := 1) rfl (z := 0) rfl ?_
  refine K.lstoreN d3_1 (pc' := 2) rfl (L' := #[.val (.ref a), .val (.long (0 : Int64)), .second, .unset, .unset]) rfl ?_
  refine K.iconst d3_2 (pc' := 3) rfl (z := 0) rfl ?_
  refine K.istoreN d3_3 (pc' := 4) rfl (L' := #[.val (.ref a), .val (.long (0 : Int64)), .second, .val (.int (0 : Int32)), .unset]) rfl ?_
  refine K.iloadN d3_4 (pc' := 5) rfl rfl ?_
  refine K.bipush d3_5 (pc' := 7) rfl (z := 28) rfl ?_
  refine K.icmp_gt d3_7 (pc1 := 10) rfl (by decide) (pc2 := 84) (by decide) (a := 0) (b := 28) rfl rfl (fun c7 => ?_) (fun c7 => ?_)
  · exfalso; omega
  · refine K.aloadN d3_10 (pc' := 11) rfl rfl rfl ?_
    refine K.getf d3_11 (pc' := 14) rfl (host := "") (Or.inl (hw _ (List.mem_of_getElem? (i := 19) rfl))) Via.refl P4 ?_
    refine K.aloadN d3_14 (pc' := 15) rfl rfl rfl ?_
    refine K.getf d3_15 (pc' := 18) rfl (host := "") (Or.inl (hw _ (List.mem_of_getElem? (i := 12) rfl))) Via.refl P3 ?_
    refine K.icmp_ne d3_18 (pc1 := 21) rfl (by decide) (pc2 := 29) (by decide) (a := 0) (b := n.toInt) rfl rfl (fun c18 => ?_) (fun c18 => ?_)
    · refine K.aloadN d3_29 (pc' := 30) rfl rfl rfl ?_
      refine K.getf d3_30 (pc' := 33) rfl (host := "") (Or.inl (hw _ (List.mem_of_getElem? (i := 10) rfl))) Via.refl P2 ?_
      refine K.aloadN d3_33 (pc' := 34) rfl rfl rfl ?_
      refine K.dup d3_34 (pc' := 35) rfl rfl ?_
      refine K.getf d3_35 (pc' := 38) rfl (host := "") (Or.inl (hw _ (List.mem_of_getElem? (i := 19) rfl))) Via.refl P4 ?_
      refine K.dupX1 d3_38 (pc' := 39) rfl rfl rfl ?_
      refine K.iconst d3_39 (pc' := 40) rfl (z := 1) rfl ?_
      refine K.iadd d3_40 (pc' := 41) rfl (z := (1 : Int32)) (by decide) ?_
      refine K.putf d3_41 (pc' := 44) rfl (host := "") (Or.inl (hw _ (List.mem_of_getElem? (i := 19) rfl))) Via.refl P4 P1 (Or.inl (hw _ (List.mem_of_getElem? (i := 20) rfl))) (hw _ (List.mem_of_getElem? (i := 2) rfl)) (ty := .int) (by decide) rfl rfl P6 (fun h_1 W_2 => ?_)
      have f_3 : Exa Z h_1 a "com/example/woodlark/woodlark/io/NumberBuffer$Reader" := P1.wr W_2
      have f_4 : Fld Z h_1 a "com/example/woodlark/woodlark/io/NumberBuffer$Reader" "bytes" "[B" (.ref b) := P2.other W_2 (Or.inr (slot_ne (Or.inr (hw _ (List.mem_of_getElem? (i := 11) rfl))) (Or.inl (hw _ (List.mem_of_getElem? (i := 20) rfl))) (by decide) (t := (.array .byte)) (t' := .int) (by decide) (by decide)))
      have f_5 : Fld Z h_1 a "com/example/woodlark/woodlark/io/NumberBuffer$Reader" "end" "I" (.int n) := P3.other W_2 (Or.inr (slot_ne (Or.inr (hw _ (List.mem_of_getElem? (i := 13) rfl))) (Or.inl (hw _ (List.mem_of_getElem? (i := 20) rfl))) (by decide) (t := .int) (t' := .int) (by decide) (by decide)))
      have f_6 : Fld Z h_1 a "com/example/woodlark/woodlark/io/NumberBuffer$Reader" "position" "I" (.int (1 : Int32)) := P4.same W_2
      have f_7 : Ary Z h_1 b .byte [(.int x0), (.int x1), (.int x2), (.int x3), (.int x4), (.int x5)] := P5.other W_2 P7
      have kp_8 : Keep h h_1 [a] := (Keep.refl h [a]).wr W_2 (Or.inl (by simp))
      refine K.bald d3_44 (pc' := 45) rfl f_7 (i := 0) rfl rfl ?_
      refine K.istore d3_45 (pc' := 47) rfl (L' := #[.val (.ref a), .val (.long (0 : Int64)), .second, .val (.int (0 : Int32)), .val (.int x0)]) rfl ?_
      refine K.lloadN d3_47 (pc' := 48) rfl rfl ?_
      refine K.iload d3_48 (pc' := 50) rfl rfl ?_
      refine K.bipush d3_50 (pc' := 52) rfl (z := 127) rfl ?_
      obtain ⟨z52, e_z52⟩ : ∃ z, x0 &&& (127 : Int32) = z := ⟨_, rfl⟩
      have r_z52 : z52.toInt = x0.toInt % 128 := by have q := c_mask x0 (127 : Int32) 7 (by decide) (by decide); rw [e_z52] at q; exact q
      refine K.iand d3_52 (pc' := 53) rfl e_z52 ?_
      obtain ⟨z53, e_z53⟩ : ∃ z, z52.toInt64 = z := ⟨_, rfl⟩
      have r_z53 : z53.toInt = z52.toInt := by have q := c_i2l z52; rw [e_z53] at q; exact q
      refine K.i2l d3_53 (pc' := 54) rfl e_z53 ?_
      refine K.iloadN d3_54 (pc' := 55) rfl rfl ?_
      obtain ⟨z55, e_z55⟩ : ∃ z, z53 <<< ((0 : Int32) &&& 0x3f).toInt64 = z := ⟨_, rfl⟩
      have r_z55 : (z55.toInt - z53.toInt * 1) % 18446744073709551616 = 0 := by have q := c_lshl z53 (0 : Int32) 0 (by decide); rw [e_z55] at q; exact q
      have g_z55 := rng64 z55
      have t_z55 : z55.toInt = z53.toInt * 1 := by omega
      clear r_z55
      clear g_z55
      refine K.lshl d3_55 (pc' := 56) rfl e_z55 ?_
      obtain ⟨z56, e_z56⟩ : ∃ z, (0 : Int64) ||| z55 = z := ⟨_, rfl⟩
      have r_z56 := c_orL' (0 : Int64) z55 0 (by decide) 1 (by decide) (by omega) (by decide) (by decide)
      rw [e_z56] at r_z56
      have g_z56 := rng64 z56
      have t_z56 : z56.toInt = 0 + z55.toInt := by have e0 : (0 : Int64).toInt = 0 := rfl; rw [e0] at r_z56; omega
      clear r_z56 g_z56
      refine K.lor d3_56 (pc' := 57) rfl e_z56 ?_
      refine K.lstoreN d3_57 (pc' := 58) rfl (L' := #[.val (.ref a), .val (.long z56), .second, .val (.int (0 : Int32)), .val (.int x0)]) rfl ?_
      refine K.iload d3_58 (pc' := 60) rfl rfl ?_
      refine K.if_lt d3_60 (pc1 := 63) rfl (by decide) (pc2 := 78) (by decide) (a := x0.toInt) rfl (fun c60 => ?_) (fun c60 => ?_)
      · refine K.iinc d3_78 (pc' := 81) rfl rfl (z := (7 : Int32)) rfl (L' := #[.val (.ref a), .val (.long z56), .second, .val (.int (7 : Int32)), .val (.int x0)]) rfl ?_
        refine K.goto d3_81 (by decide) (pc' := 4) (by decide) ?_
        refine K.iloadN d3_4 (pc' := 5) rfl rfl ?_
        refine K.bipush d3_5 (pc' := 7) rfl (z := 28) rfl ?_
        refine K.icmp_gt d3_7 (pc1 := 10) rfl (by decide) (pc2 := 84) (by decide) (a := 7) (b := 28) rfl rfl (fun c7_1 => ?_) (fun c7_1 => ?_)
        · exfalso; omega
        · refine K.aloadN d3_10 (pc' := 11) rfl rfl rfl ?_
          refine K.getf d3_11 (pc' := 14) rfl (host := "") (Or.inl (hw _ (List.mem_of_getElem? (i := 19) rfl))) Via.refl f_6 ?_
          refine K.aloadN d3_14 (pc' := 15) rfl rfl rfl ?_
          refine K.getf d3_15 (pc' := 18) rfl (host := "") (Or.inl (hw _ (List.mem_of_getElem? (i := 12) rfl))) Via.refl f_5 ?_
          refine K.icmp_ne d3_18 (pc1 := 21) rfl (by decide) (pc2 := 29) (by decide) (a := 1) (b := n.toInt) rfl rfl (fun c18_1 => ?_) (fun c18_1 => ?_)
          · refine K.aloadN d3_29 (pc' := 30) rfl rfl rfl ?_
            refine K.getf d3_30 (pc' := 33) rfl (host := "") (Or.inl (hw _ (List.mem_of_getElem? (i := 10) rfl))) Via.refl f_4 ?_
            refine K.aloadN d3_33 (pc' := 34) rfl rfl rfl ?_
            refine K.dup d3_34 (pc' := 35) rfl rfl ?_
            refine K.getf d3_35 (pc' := 38) rfl (host := "") (Or.inl (hw _ (List.mem_of_getElem? (i := 19) rfl))) Via.refl f_6 ?_
            refine K.dupX1 d3_38 (pc' := 39) rfl rfl rfl ?_
            refine K.iconst d3_39 (pc' := 40) rfl (z := 1) rfl ?_
            refine K.iadd d3_40 (pc' := 41) rfl (z := (2 : Int32)) (by decide) ?_
            refine K.putf d3_41 (pc' := 44) rfl (host := "") (Or.inl (hw _ (List.mem_of_getElem? (i := 19) rfl))) Via.refl f_6 f_3 (Or.inl (hw _ (List.mem_of_getElem? (i := 20) rfl))) (hw _ (List.mem_of_getElem? (i := 2) rfl)) (ty := .int) (by decide) rfl rfl P6 (fun h_9 W_10 => ?_)
            have f_11 : Exa Z h_9 a "com/example/woodlark/woodlark/io/NumberBuffer$Reader" := f_3.wr W_10
            have f_12 : Fld Z h_9 a "com/example/woodlark/woodlark/io/NumberBuffer$Reader" "bytes" "[B" (.ref b) := f_4.other W_10 (Or.inr (slot_ne (Or.inr (hw _ (List.mem_of_getElem? (i := 11) rfl))) (Or.inl (hw _ (List.mem_of_getElem? (i := 20) rfl))) (by decide) (t := (.array .byte)) (t' := .int) (by decide) (by decide)))
            have f_13 : Fld Z h_9 a "com/example/woodlark/woodlark/io/NumberBuffer$Reader" "end" "I" (.int n) := f_5.other W_10 (Or.inr (slot_ne (Or.inr (hw _ (List.mem_of_getElem? (i := 13) rfl))) (Or.inl (hw _ (List.mem_of_getElem? (i := 20) rfl))) (by decide) (t := .int) (t' := .int) (by decide) (by decide)))
            have f_14 : Fld Z h_9 a "com/example/woodlark/woodlark/io/NumberBuffer$Reader" "position" "I" (.int (2 : Int32)) := f_6.same W_10
            have f_15 : Ary Z h_9 b .byte [(.int x0), (.int x1), (.int x2), (.int x3), (.int x4), (.int x5)] := f_7.other W_10 P7
            have kp_16 : Keep h h_9 [a] := kp_8.wr W_10 (Or.inl (by simp))
            refine K.bald d3_44 (pc' := 45) rfl f_15 (i := 1) rfl rfl ?_
            refine K.istore d3_45 (pc' := 47) rfl (L' := #[.val (.ref a), .val (.long z56), .second, .val (.int (7 : Int32)), .val (.int x1)]) rfl ?_
            refine K.lloadN d3_47 (pc' := 48) rfl rfl ?_
            refine K.iload d3_48 (pc' := 50) rfl rfl ?_
            refine K.bipush d3_50 (pc' := 52) rfl (z := 127) rfl ?_
            obtain ⟨z52_1, e_z52_1⟩ : ∃ z, x1 &&& (127 : Int32) = z := ⟨_, rfl⟩
            have r_z52_1 : z52_1.toInt = x1.toInt % 128 := by have q := c_mask x1 (127 : Int32) 7 (by decide) (by decide); rw [e_z52_1] at q; exact q
            refine K.iand d3_52 (pc' := 53) rfl e_z52_1 ?_
            obtain ⟨z53_1, e_z53_1⟩ : ∃ z, z52_1.toInt64 = z := ⟨_, rfl⟩
            have r_z53_1 : z53_1.toInt = z52_1.toInt := by have q := c_i2l z52_1; rw [e_z53_1] at q; exact q
            refine K.i2l d3_53 (pc' := 54) rfl e_z53_1 ?_
            refine K.iloadN d3_54 (pc' := 55) rfl rfl ?_
            obtain ⟨z55_1, e_z55_1⟩ : ∃ z, z53_1 <<< ((7 : Int32) &&& 0x3f).toInt64 = z := ⟨_, rfl⟩
            have r_z55_1 : (z55_1.toInt - z53_1.toInt * 128) % 18446744073709551616 = 0 := by have q := c_lshl z53_1 (7 : Int32) 7 (by decide); rw [e_z55_1] at q; exact q
            have g_z55_1 := rng64 z55_1
            have t_z55_1 : z55_1.toInt = z53_1.toInt * 128 := by omega
            clear r_z55_1
            clear g_z55_1
            refine K.lshl d3_55 (pc' := 56) rfl e_z55_1 ?_
            obtain ⟨z56_1, e_z56_1⟩ : ∃ z, z56 ||| z55_1 = z := ⟨_, rfl⟩
            have r_z56_1 := c_orL' z56 z55_1 7 (by decide) 128 (by decide) (by omega) (by omega) (by omega)
            rw [e_z56_1] at r_z56_1
            have g_z56_1 := rng64 z56_1
            have t_z56_1 : z56_1.toInt = z56.toInt + z55_1.toInt := by omega
            clear r_z56_1 g_z56_1
            refine K.lor d3_56 (pc' := 57) rfl e_z56_1 ?_
            refine K.lstoreN d3_57 (pc' := 58) rfl (L' := #[.val (.ref a), .val (.long z56_1), .second, .val (.int (7 : Int32)), .val (.int x1)]) rfl ?_
            refine K.iload d3_58 (pc' := 60) rfl rfl ?_
            refine K.if_lt d3_60 (pc1 := 63) rfl (by decide) (pc2 := 78) (by decide) (a := x1.toInt) rfl (fun c60_1 => ?_) (fun c60_1 => ?_)
            · refine K.iinc d3_78 (pc' := 81) rfl rfl (z := (14 : Int32)) rfl (L' := #[.val (.ref a), .val (.long z56_1), .second, .val (.int (14 : Int32)), .val (.int x1)]) rfl ?_
              refine K.goto d3_81 (by decide) (pc' := 4) (by decide) ?_
              refine K.iloadN d3_4 (pc' := 5) rfl rfl ?_
              refine K.bipush d3_5 (pc' := 7) rfl (z := 28) rfl ?_
              refine K.icmp_gt d3_7 (pc1 := 10) rfl (by decide) (pc2 := 84) (by decide) (a := 14) (b := 28) rfl rfl (fun c7_2 => ?_) (fun c7_2 => ?_)
              · exfalso; omega
              · refine K.aloadN d3_10 (pc' := 11) rfl rfl rfl ?_
                refine K.getf d3_11 (pc' := 14) rfl (host := "") (Or.inl (hw _ (List.mem_of_getElem? (i := 19) rfl))) Via.refl f_14 ?_
                refine K.aloadN d3_14 (pc' := 15) rfl rfl rfl ?_
                refine K.getf d3_15 (pc' := 18) rfl (host := "") (Or.inl (hw _ (List.mem_of_getElem? (i := 12) rfl))) Via.refl f_13 ?_
                refine K.icmp_ne d3_18 (pc1 := 21) rfl (by decide) (pc2 := 29) (by decide) (a := 2) (b := n.toInt) rfl rfl (fun c18_2 => ?_) (fun c18_2 => ?_)
                · refine K.aloadN d3_29 (pc' := 30) rfl rfl rfl ?_
                  refine K.getf d3_30 (pc' := 33) rfl (host := "") (Or.inl (hw _ (List.mem_of_getElem? (i := 10) rfl))) Via.refl f_12 ?_
                  refine K.aloadN d3_33 (pc' := 34) rfl rfl rfl ?_
                  refine K.dup d3_34 (pc' := 35) rfl rfl ?_
                  refine K.getf d3_35 (pc' := 38) rfl (host := "") (Or.inl (hw _ (List.mem_of_getElem? (i := 19) rfl))) Via.refl f_14 ?_
                  refine K.dupX1 d3_38 (pc' := 39) rfl rfl rfl ?_
                  refine K.iconst d3_39 (pc' := 40) rfl (z := 1) rfl ?_
                  refine K.iadd d3_40 (pc' := 41) rfl (z := (3 : Int32)) (by decide) ?_
                  refine K.putf d3_41 (pc' := 44) rfl (host := "") (Or.inl (hw _ (List.mem_of_getElem? (i := 19) rfl))) Via.refl f_14 f_11 (Or.inl (hw _ (List.mem_of_getElem? (i := 20) rfl))) (hw _ (List.mem_of_getElem? (i := 2) rfl)) (ty := .int) (by decide) rfl rfl P6 (fun h_17 W_18 => ?_)
                  have f_19 : Exa Z h_17 a "com/example/woodlark/woodlark/io/NumberBuffer$Reader" := f_11.wr W_18
                  have f_20 : Fld Z h_17 a "com/example/woodlark/woodlark/io/NumberBuffer$Reader" "bytes" "[B" (.ref b) := f_12.other W_18 (Or.inr (slot_ne (Or.inr (hw _ (List.mem_of_getElem? (i := 11) rfl))) (Or.inl (hw _ (List.mem_of_getElem? (i := 20) rfl))) (by decide) (t := (.array .byte)) (t' := .int) (by decide) (by decide)))
                  have f_21 : Fld Z h_17 a "com/example/woodlark/woodlark/io/NumberBuffer$Reader" "end" "I" (.int n) := f_13.other W_18 (Or.inr (slot_ne (Or.inr (hw _ (List.mem_of_getElem? (i := 13) rfl))) (Or.inl (hw _ (List.mem_of_getElem? (i := 20) rfl))) (by decide) (t := .int) (t' := .int) (by decide) (by decide)))
                  have f_22 : Fld Z h_17 a "com/example/woodlark/woodlark/io/NumberBuffer$Reader" "position" "I" (.int (3 : Int32)) := f_14.same W_18
                  have f_23 : Ary Z h_17 b .byte [(.int x0), (.int x1), (.int x2), (.int x3), (.int x4), (.int x5)] := f_15.other W_18 P7
                  have kp_24 : Keep h h_17 [a] := kp_16.wr W_18 (Or.inl (by simp))
                  refine K.bald d3_44 (pc' := 45) rfl f_23 (i := 2) rfl rfl ?_
                  refine K.istore d3_45 (pc' := 47) rfl (L' := #[.val (.ref a), .val (.long z56_1), .second, .val (.int (14 : Int32)), .val (.int x2)]) rfl ?_
                  refine K.lloadN d3_47 (pc' := 48) rfl rfl ?_
                  refine K.iload d3_48 (pc' := 50) rfl rfl ?_
                  refine K.bipush d3_50 (pc' := 52) rfl (z := 127) rfl ?_
                  obtain ⟨z52_2, e_z52_2⟩ : ∃ z, x2 &&& (127 : Int32) = z := ⟨_, rfl⟩
                  have r_z52_2 : z52_2.toInt = x2.toInt % 128 := by have q := c_mask x2 (127 : Int32) 7 (by decide) (by decide); rw [e_z52_2] at q; exact q
                  refine K.iand d3_52 (pc' := 53) rfl e_z52_2 ?_
                  obtain ⟨z53_2, e_z53_2⟩ : ∃ z, z52_2.toInt64 = z := ⟨_, rfl⟩
                  have r_z53_2 : z53_2.toInt = z52_2.toInt := by have q := c_i2l z52_2; rw [e_z53_2] at q; exact q
                  refine K.i2l d3_53 (pc' := 54) rfl e_z53_2 ?_
                  refine K.iloadN d3_54 (pc' := 55) rfl rfl ?_
                  obtain ⟨z55_2, e_z55_2⟩ : ∃ z, z53_2 <<< ((14 : Int32) &&& 0x3f).toInt64 = z := ⟨_, rfl⟩
                  have r_z55_2 : (z55_2.toInt - z53_2.toInt * 16384) % 18446744073709551616 = 0 := by have q := c_lshl z53_2 (14 : Int32) 14 (by decide); rw [e_z55_2] at q; exact q
                  have g_z55_2 := rng64 z55_2
                  have t_z55_2 : z55_2.toInt = z53_2.toInt * 16384 := by omega
                  clear r_z55_2
                  clear g_z55_2
                  refine K.lshl d3_55 (pc' := 56) rfl e_z55_2 ?_
                  obtain ⟨z56_2, e_z56_2⟩ : ∃ z, z56_1 ||| z55_2 = z := ⟨_, rfl⟩
                  have r_z56_2 := c_orL' z56_1 z55_2 14 (by decide) 16384 (by decide) (by omega) (by omega) (by omega)
                  rw [e_z56_2] at r_z56_2
                  have g_z56_2 := rng64 z56_2
                  have t_z56_2 : z56_2.toInt = z56_1.toInt + z55_2.toInt := by omega
                  clear r_z56_2 g_z56_2
                  refine K.lor d3_56 (pc' := 57) rfl e_z56_2 ?_
                  refine K.lstoreN d3_57 (pc' := 58) rfl (L' := #[.val (.ref a), .val (.long z56_2), .second, .val (.int (14 : Int32)), .val (.int x2)]) rfl ?_
                  refine K.iload d3_58 (pc' := 60) rfl rfl ?_
                  refine K.if_lt d3_60 (pc1 := 63) rfl (by decide) (pc2 := 78) (by decide) (a := x2.toInt) rfl (fun c60_2 => ?_) (fun c60_2 => ?_)
                  · refine K.iinc d3_78 (pc' := 81) rfl rfl (z := (21 : Int32)) rfl (L' := #[.val (.ref a), .val (.long z56_2), .second, .val (.int (21 : Int32)), .val (.int x2)]) rfl ?_
                    refine K.goto d3_81 (by decide) (pc' := 4) (by decide) ?_
                    refine K.iloadN d3_4 (pc' := 5) rfl rfl ?_
                    refine K.bipush d3_5 (pc' := 7) rfl (z := 28) rfl ?_
                    refine K.icmp_gt d3_7 (pc1 := 10) rfl (by decide) (pc2 := 84) (by decide) (a := 21) (b := 28) rfl rfl (fun c7_3 => ?_) (fun c7_3 => ?_)
                    · exfalso; omega
                    · refine K.aloadN d3_10 (pc' := 11) rfl rfl rfl ?_
                      refine K.getf d3_11 (pc' := 14) rfl (host := "") (Or.inl (hw _ (List.mem_of_getElem? (i := 19) rfl))) Via.refl f_22 ?_
                      refine K.aloadN d3_14 (pc' := 15) rfl rfl rfl ?_
                      refine K.getf d3_15 (pc' := 18) rfl (host := "") (Or.inl (hw _ (List.mem_of_getElem? (i := 12) rfl))) Via.refl f_21 ?_
                      refine K.icmp_ne d3_18 (pc1 := 21) rfl (by decide) (pc2 := 29) (by decide) (a := 3) (b := n.toInt) rfl rfl (fun c18_3 => ?_) (fun c18_3 => ?_)
                      · refine K.aloadN d3_29 (pc' := 30) rfl rfl rfl ?_
                        refine K.getf d3_30 (pc' := 33) rfl (host := "") (Or.inl (hw _ (List.mem_of_getElem? (i := 10) rfl))) Via.refl f_20 ?_
                        refine K.aloadN d3_33 (pc' := 34) rfl rfl rfl ?_
                        refine K.dup d3_34 (pc' := 35) rfl rfl ?_
                        refine K.getf d3_35 (pc' := 38) rfl (host := "") (Or.inl (hw _ (List.mem_of_getElem? (i := 19) rfl))) Via.refl f_22 ?_
                        refine K.dupX1 d3_38 (pc' := 39) rfl rfl rfl ?_
                        refine K.iconst d3_39 (pc' := 40) rfl (z := 1) rfl ?_
                        refine K.iadd d3_40 (pc' := 41) rfl (z := (4 : Int32)) (by decide) ?_
                        refine K.putf d3_41 (pc' := 44) rfl (host := "") (Or.inl (hw _ (List.mem_of_getElem? (i := 19) rfl))) Via.refl f_22 f_19 (Or.inl (hw _ (List.mem_of_getElem? (i := 20) rfl))) (hw _ (List.mem_of_getElem? (i := 2) rfl)) (ty := .int) (by decide) rfl rfl P6 (fun h_25 W_26 => ?_)
                        have f_27 : Exa Z h_25 a "com/example/woodlark/woodlark/io/NumberBuffer$Reader" := f_19.wr W_26
                        have f_28 : Fld Z h_25 a "com/example/woodlark/woodlark/io/NumberBuffer$Reader" "bytes" "[B" (.ref b) := f_20.other W_26 (Or.inr (slot_ne (Or.inr (hw _ (List.mem_of_getElem? (i := 11) rfl))) (Or.inl (hw _ (List.mem_of_getElem? (i := 20) rfl))) (by decide) (t := (.array .byte)) (t' := .int) (by decide) (by decide)))
                        have f_29 : Fld Z h_25 a "com/example/woodlark/woodlark/io/NumberBuffer$Reader" "end" "I" (.int n) := f_21.other W_26 (Or.inr (slot_ne (Or.inr (hw _ (List.mem_of_getElem? (i := 13) rfl))) (Or.inl (hw _ (List.mem_of_getElem? (i := 20) rfl))) (by decide) (t := .int) (t' := .int) (by decide) (by decide)))
                        have f_30 : Fld Z h_25 a "com/example/woodlark/woodlark/io/NumberBuffer$Reader" "position" "I" (.int (4 : Int32)) := f_22.same W_26
                        have f_31 : Ary Z h_25 b .byte [(.int x0), (.int x1), (.int x2), (.int x3), (.int x4), (.int x5)] := f_23.other W_26 P7
                        have kp_32 : Keep h h_25 [a] := kp_24.wr W_26 (Or.inl (by simp))
                        refine K.bald d3_44 (pc' := 45) rfl f_31 (i := 3) rfl rfl ?_
                        refine K.istore d3_45 (pc' := 47) rfl (L' := #[.val (.ref a), .val (.long z56_2), .second, .val (.int (21 : Int32)), .val (.int x3)]) rfl ?_
                        refine K.lloadN d3_47 (pc' := 48) rfl rfl ?_
                        refine K.iload d3_48 (pc' := 50) rfl rfl ?_
                        refine K.bipush d3_50 (pc' := 52) rfl (z := 127) rfl ?_
                        obtain ⟨z52_3, e_z52_3⟩ : ∃ z, x3 &&& (127 : Int32) = z := ⟨_, rfl⟩
                        have r_z52_3 : z52_3.toInt = x3.toInt % 128 := by have q := c_mask x3 (127 : Int32) 7 (by decide) (by decide); rw [e_z52_3] at q; exact q
                        refine K.iand d3_52 (pc' := 53) rfl e_z52_3 ?_
                        obtain ⟨z53_3, e_z53_3⟩ : ∃ z, z52_3.toInt64 = z := ⟨_, rfl⟩
                        have r_z53_3 : z53_3.toInt = z52_3.toInt := by have q := c_i2l z52_3; rw [e_z53_3] at q; exact q
                        refine K.i2l d3_53 (pc' := 54) rfl e_z53_3 ?_
                        refine K.iloadN d3_54 (pc' := 55) rfl rfl ?_
                        obtain ⟨z55_3, e_z55_3⟩ : ∃ z, z53_3 <<< ((21 : Int32) &&& 0x3f).toInt64 = z := ⟨_, rfl⟩
                        have r_z55_3 : (z55_3.toInt - z53_3.toInt * 2097152) % 18446744073709551616 = 0 := by have q := c_lshl z53_3 (21 : Int32) 21 (by decide); rw [e_z55_3] at q; exact q
                        have g_z55_3 := rng64 z55_3
                        have t_z55_3 : z55_3.toInt = z53_3.toInt * 2097152 := by omega
                        clear r_z55_3
                        clear g_z55_3
                        refine K.lshl d3_55 (pc' := 56) rfl e_z55_3 ?_
                        obtain ⟨z56_3, e_z56_3⟩ : ∃ z, z56_2 ||| z55_3 = z := ⟨_, rfl⟩
                        have r_z56_3 := c_orL' z56_2 z55_3 21 (by decide) 2097152 (by decide) (by omega) (by omega) (by omega)
                        rw [e_z56_3] at r_z56_3
                        have g_z56_3 := rng64 z56_3
                        have t_z56_3 : z56_3.toInt = z56_2.toInt + z55_3.toInt := by omega
                        clear r_z56_3 g_z56_3
                        refine K.lor d3_56 (pc' := 57) rfl e_z56_3 ?_
                        refine K.lstoreN d3_57 (pc' := 58) rfl (L' := #[.val (.ref a), .val (.long z56_3), .second, .val (.int (21 : Int32)), .val (.int x3)]) rfl ?_
                        refine K.iload d3_58 (pc' := 60) rfl rfl ?_
                        refine K.if_lt d3_60 (pc1 := 63) rfl (by decide) (pc2 := 78) (by decide) (a := x3.toInt) rfl (fun c60_3 => ?_) (fun c60_3 => ?_)
                        · refine K.iinc d3_78 (pc' := 81) rfl rfl (z := (28 : Int32)) rfl (L' := #[.val (.ref a), .val (.long z56_3), .second, .val (.int (28 : Int32)), .val (.int x3)]) rfl ?_
                          refine K.goto d3_81 (by decide) (pc' := 4) (by decide) ?_
                          refine K.iloadN d3_4 (pc' := 5) rfl rfl ?_
                          refine K.bipush d3_5 (pc' := 7) rfl (z := 28) rfl ?_
                          refine K.icmp_gt d3_7 (pc1 := 10) rfl (by decide) (pc2 := 84) (by decide) (a := 28) (b := 28) rfl rfl (fun c7_4 => ?_) (fun c7_4 => ?_)
                          · exfalso; omega
                          · refine K.aloadN d3_10 (pc' := 11) rfl rfl rfl ?_
                            refine K.getf d3_11 (pc' := 14) rfl (host := "") (Or.inl (hw _ (List.mem_of_getElem? (i := 19) rfl))) Via.refl f_30 ?_
                            refine K.aloadN d3_14 (pc' := 15) rfl rfl rfl ?_
                            refine K.getf d3_15 (pc' := 18) rfl (host := "") (Or.inl (hw _ (List.mem_of_getElem? (i := 12) rfl))) Via.refl f_29 ?_
                            refine K.icmp_ne d3_18 (pc1 := 21) rfl (by decide) (pc2 := 29) (by decide) (a := 4) (b := n.toInt) rfl rfl (fun c18_4 => ?_) (fun c18_4 => ?_)
                            · refine K.aloadN d3_29 (pc' := 30) rfl rfl rfl ?_
                              refine K.getf d3_30 (pc' := 33) rfl (host := "") (Or.inl (hw _ (List.mem_of_getElem? (i := 10) rfl))) Via.refl f_28 ?_
                              refine K.aloadN d3_33 (pc' := 34) rfl rfl rfl ?_
                              refine K.dup d3_34 (pc' := 35) rfl rfl ?_
                              refine K.getf d3_35 (pc' := 38) rfl (host := "") (Or.inl (hw _ (List.mem_of_getElem? (i := 19) rfl))) Via.refl f_30 ?_
                              refine K.dupX1 d3_38 (pc' := 39) rfl rfl rfl ?_
                              refine K.iconst d3_39 (pc' := 40) rfl (z := 1) rfl ?_
                              refine K.iadd d3_40 (pc' := 41) rfl (z := (5 : Int32)) (by decide) ?_
                              refine K.putf d3_41 (pc' := 44) rfl (host := "") (Or.inl (hw _ (List.mem_of_getElem? (i := 19) rfl))) Via.refl f_30 f_27 (Or.inl (hw _ (List.mem_of_getElem? (i := 20) rfl))) (hw _ (List.mem_of_getElem? (i := 2) rfl)) (ty := .int) (by decide) rfl rfl P6 (fun h_33 W_34 => ?_)
                              have f_35 : Exa Z h_33 a "com/example/woodlark/woodlark/io/NumberBuffer$Reader" := f_27.wr W_34
                              have f_36 : Fld Z h_33 a "com/example/woodlark/woodlark/io/NumberBuffer$Reader" "bytes" "[B" (.ref b) := f_28.other W_34 (Or.inr (slot_ne (Or.inr (hw _ (List.mem_of_getElem? (i := 11) rfl))) (Or.inl (hw _ (List.mem_of_getElem? (i := 20) rfl))) (by decide) (t := (.array .byte)) (t' := .int) (by decide) (by decide)))
                              have f_37 : Fld Z h_33 a "com/example/woodlark/woodlark/io/NumberBuffer$Reader" "end" "I" (.int n) := f_29.other W_34 (Or.inr (slot_ne (Or.inr (hw _ (List.mem_of_getElem? (i := 13) rfl))) (Or.inl (hw _ (List.mem_of_getElem? (i := 20) rfl))) (by decide) (t := .int) (t' := .int) (by decide) (by decide)))
                              have f_38 : Fld Z h_33 a "com/example/woodlark/woodlark/io/NumberBuffer$Reader" "position" "I" (.int (5 : Int32)) := f_30.same W_34
                              have f_39 : Ary Z h_33 b .byte [(.int x0), (.int x1), (.int x2), (.int x3), (.int x4), (.int x5)] := f_31.other W_34 P7
                              have kp_40 : Keep h h_33 [a] := kp_32.wr W_34 (Or.inl (by simp))
                              refine K.bald d3_44 (pc' := 45) rfl f_39 (i := 4) rfl rfl ?_
                              refine K.istore d3_45 (pc' := 47) rfl (L' := #[.val (.ref a), .val (.long z56_3), .second, .val (.int (28 : Int32)), .val (.int x4)]) rfl ?_
                              refine K.lloadN d3_47 (pc' := 48) rfl rfl ?_
                              refine K.iload d3_48 (pc' := 50) rfl rfl ?_
                              refine K.bipush d3_50 (pc' := 52) rfl (z := 127) rfl ?_
                              obtain ⟨z52_4, e_z52_4⟩ : ∃ z, x4 &&& (127 : Int32) = z := ⟨_, rfl⟩
                              have r_z52_4 : z52_4.toInt = x4.toInt % 128 := by have q := c_mask x4 (127 : Int32) 7 (by decide) (by decide); rw [e_z52_4] at q; exact q
                              refine K.iand d3_52 (pc' := 53) rfl e_z52_4 ?_
                              obtain ⟨z53_4, e_z53_4⟩ : ∃ z, z52_4.toInt64 = z := ⟨_, rfl⟩
                              have r_z53_4 : z53_4.toInt = z52_4.toInt := by have q := c_i2l z52_4; rw [e_z53_4] at q; exact q
                              refine K.i2l d3_53 (pc' := 54) rfl e_z53_4 ?_
                              refine K.iloadN d3_54 (pc' := 55) rfl rfl ?_
                              obtain ⟨z55_4, e_z55_4⟩ : ∃ z, z53_4 <<< ((28 : Int32) &&& 0x3f).toInt64 = z := ⟨_, rfl⟩
                              have r_z55_4 : (z55_4.toInt - z53_4.toInt * 268435456) % 18446744073709551616 = 0 := by have q := c_lshl z53_4 (28 : Int32) 28 (by decide); rw [e_z55_4] at q; exact q
                              have g_z55_4 := rng64 z55_4
                              have t_z55_4 : z55_4.toInt = z53_4.toInt * 268435456 := by omega
                              clear r_z55_4
                              clear g_z55_4
                              refine K.lshl d3_55 (pc' := 56) rfl e_z55_4 ?_
                              obtain ⟨z56_4, e_z56_4⟩ : ∃ z, z56_3 ||| z55_4 = z := ⟨_, rfl⟩
                              have r_z56_4 := c_orL' z56_3 z55_4 28 (by decide) 268435456 (by decide) (by omega) (by omega) (by omega)
                              rw [e_z56_4] at r_z56_4
                              have g_z56_4 := rng64 z56_4
                              have t_z56_4 : z56_4.toInt = z56_3.toInt + z55_4.toInt := by omega
                              clear r_z56_4 g_z56_4
                              refine K.lor d3_56 (pc' := 57) rfl e_z56_4 ?_
                              refine K.lstoreN d3_57 (pc' := 58) rfl (L' := #[.val (.ref a), .val (.long z56_4), .second, .val (.int (28 : Int32)), .val (.int x4)]) rfl ?_
                              refine K.iload d3_58 (pc' := 60) rfl rfl ?_
                              refine K.if_lt d3_60 (pc1 := 63) rfl (by decide) (pc2 := 78) (by decide) (a := x4.toInt) rfl (fun c60_4 => ?_) (fun c60_4 => ?_)
                              · refine K.iinc d3_78 (pc' := 81) rfl rfl (z := (35 : Int32)) rfl (L' := #[.val (.ref a), .val (.long z56_4), .second, .val (.int (35 : Int32)), .val (.int x4)]) rfl ?_
                                refine K.goto d3_81 (by decide) (pc' := 4) (by decide) ?_
                                refine K.iloadN d3_4 (pc' := 5) rfl rfl ?_
                                refine K.bipush d3_5 (pc' := 7) rfl (z := 28) rfl ?_
                                refine K.icmp_gt d3_7 (pc1 := 10) rfl (by decide) (pc2 := 84) (by decide) (a := 35) (b := 28) rfl rfl (fun c7_5 => ?_) (fun c7_5 => ?_)
                                · refine K.iconst d3_84 (pc' := 85) rfl (z := 0) rfl ?_
                                  exact K.reti d3_85 (by decide) (by decide) ⟨(0 : Int32), (5 : Int32), rfl, by have ev : (0 : Int32).toInt = 0 := rfl; first | omega | ((refine ⟨?_, ?_, ?_⟩ <;> (try simp only [ct, vl]) <;> (repeat' split) <;> first | omega | (simp only [Int32.reduceToInt] <;> omega))), kp_40, f_38, f_36, f_37⟩
                                · exfalso; omega
                              · refine K.lloadN d3_63 (pc' := 64) rfl rfl ?_
                                refine K.ldc2J d3_64 (pc' := 67) rfl (hw _ (List.mem_of_getElem? (i := 21) rfl)) ?_
                                refine K.lcmp_gt d3_67 d3_68 (pc1 := 71) rfl (by decide) (pc2 := 76) (by decide) (a := z56_4.toInt) (b := 2147483647) rfl rfl (fun c67 => ?_) (fun c67 => ?_)
                                · refine K.iconst d3_76 (pc' := 77) rfl (z := 0) rfl ?_
                                  exact K.reti d3_77 (by decide) (by decide) ⟨(0 : Int32), (5 : Int32), rfl, by have ev : (0 : Int32).toInt = 0 := rfl; first | omega | ((refine ⟨?_, ?_, ?_⟩ <;> (try simp only [ct, vl]) <;> (repeat' split) <;> first | omega | (simp only [Int32.reduceToInt] <;> omega))), kp_40, f_38, f_36, f_37⟩
                                · refine K.lloadN d3_71 (pc' := 72) rfl rfl ?_
                                  obtain ⟨z72, e_z72⟩ : ∃ z, z56_4.toInt32 = z := ⟨_, rfl⟩
                                  have r_z72 : (z72.toInt - z56_4.toInt) % 4294967296 = 0 := by have q := c_l2i z56_4; rw [e_z72] at q; exact q
                                  have g_z72 := rng32 z72
                                  refine K.l2i d3_72 (pc' := 73) rfl e_z72 ?_
                                  refine K.goto d3_73 (by decide) (pc' := 77) (by decide) ?_
                                  exact K.reti d3_77 (by decide) (by decide) ⟨z72, (5 : Int32), rfl, by (refine ⟨?_, ?_, ?_⟩ <;> (try simp only [ct, vl]) <;> (repeat' split) <;> first | omega | (simp only [Int32.reduceToInt] <;> omega)), kp_40, f_38, f_36, f_37⟩
                            · exfalso; omega
                        · refine K.lloadN d3_63 (pc' := 64) rfl rfl ?_
                          refine K.ldc2J d3_64 (pc' := 67) rfl (hw _ (List.mem_of_getElem? (i := 21) rfl)) ?_
                          refine K.lcmp_gt d3_67 d3_68 (pc1 := 71) rfl (by decide) (pc2 := 76) (by decide) (a := z56_3.toInt) (b := 2147483647) rfl rfl (fun c67 => ?_) (fun c67 => ?_)
                          · exfalso; omega
                          · refine K.lloadN d3_71 (pc' := 72) rfl rfl ?_
                            obtain ⟨z72, e_z72⟩ : ∃ z, z56_3.toInt32 = z := ⟨_, rfl⟩
                            have r_z72 : (z72.toInt - z56_3.toInt) % 4294967296 = 0 := by have q := c_l2i z56_3; rw [e_z72] at q; exact q
                            have g_z72 := rng32 z72
                            refine K.l2i d3_72 (pc' := 73) rfl e_z72 ?_
                            refine K.goto d3_73 (by decide) (pc' := 77) (by decide) ?_
                            exact K.reti d3_77 (by decide) (by decide) ⟨z72, (4 : Int32), rfl, by (refine ⟨?_, ?_, ?_⟩ <;> (try simp only [ct, vl]) <;> (repeat' split) <;> first | omega | (simp only [Int32.reduceToInt] <;> omega)), kp_32, f_30, f_28, f_29⟩
                      · exfalso; omega
                  · refine K.lloadN d3_63 (pc' := 64) rfl rfl ?_
                    refine K.ldc2J d3_64 (pc' := 67) rfl (hw _ (List.mem_of_getElem? (i := 21) rfl)) ?_
                    refine K.lcmp_gt d3_67 d3_68 (pc1 := 71) rfl (by decide) (pc2 := 76) (by decide) (a := z56_2.toInt) (b := 2147483647) rfl rfl (fun c67 => ?_) (fun c67 => ?_)
                    · exfalso; omega
                    · refine K.lloadN d3_71 (pc' := 72) rfl rfl ?_
                      obtain ⟨z72, e_z72⟩ : ∃ z, z56_2.toInt32 = z := ⟨_, rfl⟩
                      have r_z72 : (z72.toInt - z56_2.toInt) % 4294967296 = 0 := by have q := c_l2i z56_2; rw [e_z72] at q; exact q
                      have g_z72 := rng32 z72
                      refine K.l2i d3_72 (pc' := 73) rfl e_z72 ?_
                      refine K.goto d3_73 (by decide) (pc' := 77) (by decide) ?_
                      exact K.reti d3_77 (by decide) (by decide) ⟨z72, (3 : Int32), rfl, by (refine ⟨?_, ?_, ?_⟩ <;> (try simp only [ct, vl]) <;> (repeat' split) <;> first | omega | (simp only [Int32.reduceToInt] <;> omega)), kp_24, f_22, f_20, f_21⟩
                · exfalso; omega
            · refine K.lloadN d3_63 (pc' := 64) rfl rfl ?_
              refine K.ldc2J d3_64 (pc' := 67) rfl (hw _ (List.mem_of_getElem? (i := 21) rfl)) ?_
              refine K.lcmp_gt d3_67 d3_68 (pc1 := 71) rfl (by decide) (pc2 := 76) (by decide) (a := z56_1.toInt) (b := 2147483647) rfl rfl (fun c67 => ?_) (fun c67 => ?_)
              · exfalso; omega
              · refine K.lloadN d3_71 (pc' := 72) rfl rfl ?_
                obtain ⟨z72, e_z72⟩ : ∃ z, z56_1.toInt32 = z := ⟨_, rfl⟩
                have r_z72 : (z72.toInt - z56_1.toInt) % 4294967296 = 0 := by have q := c_l2i z56_1; rw [e_z72] at q; exact q
                have g_z72 := rng32 z72
                refine K.l2i d3_72 (pc' := 73) rfl e_z72 ?_
                refine K.goto d3_73 (by decide) (pc' := 77) (by decide) ?_
                exact K.reti d3_77 (by decide) (by decide) ⟨z72, (2 : Int32), rfl, by (refine ⟨?_, ?_, ?_⟩ <;> (try simp only [ct, vl]) <;> (repeat' split) <;> first | omega | (simp only [Int32.reduceToInt] <;> omega)), kp_16, f_14, f_12, f_13⟩
          · exfalso; omega
      · refine K.lloadN d3_63 (pc' := 64) rfl rfl ?_
        refine K.ldc2J d3_64 (pc' := 67) rfl (hw _ (List.mem_of_getElem? (i := 21) rfl)) ?_
        refine K.lcmp_gt d3_67 d3_68 (pc1 := 71) rfl (by decide) (pc2 := 76) (by decide) (a := z56.toInt) (b := 2147483647) rfl rfl (fun c67 => ?_) (fun c67 => ?_)
        · exfalso; omega
        · refine K.lloadN d3_71 (pc' := 72) rfl rfl ?_
          obtain ⟨z72, e_z72⟩ : ∃ z, z56.toInt32 = z := ⟨_, rfl⟩
          have r_z72 : (z72.toInt - z56.toInt) % 4294967296 = 0 := by have q := c_l2i z56; rw [e_z72] at q; exact q
          have g_z72 := rng32 z72
          refine K.l2i d3_72 (pc' := 73) rfl e_z72 ?_
          refine K.goto d3_73 (by decide) (pc' := 77) (by decide) ?_
          exact K.reti d3_77 (by decide) (by decide) ⟨z72, (1 : Int32), rfl, by (refine ⟨?_, ?_, ?_⟩ <;> (try simp only [ct, vl]) <;> (repeat' split) <;> first | omega | (simp only [Int32.reduceToInt] <;> omega)), kp_8, f_6, f_4, f_5⟩
    · exfalso; omega
theorem pd_0 : parseMethodDescriptor "([BI)V" = some ⟨[(.array .byte), .int], none⟩ := by decide +kernel
theorem pd_1 : parseMethodDescriptor "()I" = some ⟨[], some .int⟩ := by decide +kernel
theorem pd_2 : parseMethodDescriptor "()Z" = some ⟨[], some .boolean⟩ := by decide +kernel
theorem pn_com_example_woodlark_woodlark_io_ReaderNextPinLaw : plainName "com/example/woodlark/woodlark/io/ReaderNextPinLaw" = true := by first | (simp [plainName, overriddenIn]; done) | decide +kernel
set_option maxRecDepth 65536 in
set_option maxHeartbeats 40000000 in
theorem c_law (l : Launch) (Z : State) (a0 : Array Value) (hw : ∀ d ∈ tables_1, d.before a0 Z = true) (n0 : Nat) (h : Heap) (q0 : Int64) (e0 : Int32) (Z0 : n0 ≤ h.size) : MeetsW l Z n0 x code maxLocals ret room_1 #[(.long q0), (.int e0)] h (fun v h' => v = some (.int 1)) := by
  refine MeetsW.intro (plainFor_of_name pn_com_example_woodlark_woodlark_io_ReaderNextPinLaw) (L0 := #[.val (.long q0), .second, .val (.int e0), .unset, .unset, .unset, .unset, .unset, .unset, .unset, .unset, .unset, .unset, .unset]) (fun m => by first | (simp [entryFrame, mkF, argsToLocals, Value.category, maxLocals]; done) | rfl) ?_
  intro m G K0
  have K : Cx l room_1 Z n0 _ "com/example/woodlark/woodlark/io/ReaderNextPinLaw" "law" code 14 (some .boolean) m G := K0
  refine K.bipush at_0 (pc' := 2) rfl (z := 6) rfl ?_
  refine K.newa at_2 (pc' := 4) rfl (hw _ (List.mem_of_getElem? (i := 0) rfl)) (k := 6) (cap := 6) rfl (by decide) (by decide) (by decide) (by decide) (ad := "[B") (by decide) (fun h_2 a_1 g_a_1 E_3 A_4 x_a_1 => ?_)
  have ge_a_1 : n0 ≤ a_1 := g_a_1 ▸ Z0
  have sz_5 : n0 ≤ h_2.size := Nat.le_trans Z0 E_3.1
  have A_6 : Ary Z h_2 a_1 .byte [(.int (0 : Int32)), (.int (0 : Int32)), (.int (0 : Int32)), (.int (0 : Int32)), (.int (0 : Int32)), (.int (0 : Int32))] := A_4
  refine K.astoreN at_4 (pc' := 5) rfl rfl (L' := #[.val (.long q0), .second, .val (.int e0), .val (.ref a_1), .unset, .unset, .unset, .unset, .unset, .unset, .unset, .unset, .unset, .unset]) rfl ?_
  refine K.aloadN at_5 (pc' := 6) rfl rfl rfl ?_
  refine K.iconst at_6 (pc' := 7) rfl (z := 0) rfl ?_
  refine K.lloadN at_7 (pc' := 8) rfl rfl ?_
  obtain ⟨z8, e_z8⟩ : ∃ z, q0.toInt32 = z := ⟨_, rfl⟩
  refine K.l2i at_8 (pc' := 9) rfl e_z8 ?_
  obtain ⟨x0, e_x0⟩ : ∃ z, z8.toInt8.toInt32 = z := ⟨_, rfl⟩
  have r_x0 : (x0.toInt - z8.toInt) % 256 = 0 ∧ -128 ≤ x0.toInt ∧ x0.toInt < 128 := by have q := c_i2b z8; rw [e_x0] at q; exact q
  refine K.i2b at_9 (pc' := 10) rfl e_x0 ?_
  refine K.bast at_10 (pc' := 11) rfl A_6 (i := 0) rfl (show 0 < 6 by decide) ge_a_1 (fun h_7 W_8 A_9 => ?_)
  rw [show nar .byte x0 = x0 from nar_byte_of (by omega)] at W_8 A_9
  have sz_11 : n0 ≤ h_7.size := Nat.le_trans sz_5 (Keep.of_wr W_8).1
  have A_12 : Ary Z h_7 a_1 .byte [(.int x0), (.int (0 : Int32)), (.int (0 : Int32)), (.int (0 : Int32)), (.int (0 : Int32)), (.int (0 : Int32))] := A_9
  refine K.aloadN at_11 (pc' := 12) rfl rfl rfl ?_
  refine K.iconst at_12 (pc' := 13) rfl (z := 1) rfl ?_
  refine K.lloadN at_13 (pc' := 14) rfl rfl ?_
  refine K.bipush at_14 (pc' := 16) rfl (z := 8) rfl ?_
  obtain ⟨z16, e_z16⟩ : ∃ z, (q0.toUInt64 >>> ((8 : Int32) &&& 0x3f).toInt64.toUInt64).toInt64 = z := ⟨_, rfl⟩
  refine K.lushr at_16 (pc' := 17) rfl e_z16 ?_
  obtain ⟨z17, e_z17⟩ : ∃ z, z16.toInt32 = z := ⟨_, rfl⟩
  refine K.l2i at_17 (pc' := 18) rfl e_z17 ?_
  obtain ⟨x1, e_x1⟩ : ∃ z, z17.toInt8.toInt32 = z := ⟨_, rfl⟩
  have r_x1 : (x1.toInt - z17.toInt) % 256 = 0 ∧ -128 ≤ x1.toInt ∧ x1.toInt < 128 := by have q := c_i2b z17; rw [e_x1] at q; exact q
  refine K.i2b at_18 (pc' := 19) rfl e_x1 ?_
  refine K.bast at_19 (pc' := 20) rfl A_12 (i := 1) rfl (show 1 < 6 by decide) ge_a_1 (fun h_13 W_14 A_15 => ?_)
  rw [show nar .byte x1 = x1 from nar_byte_of (by omega)] at W_14 A_15
  have sz_17 : n0 ≤ h_13.size := Nat.le_trans sz_11 (Keep.of_wr W_14).1
  have A_18 : Ary Z h_13 a_1 .byte [(.int x0), (.int x1), (.int (0 : Int32)), (.int (0 : Int32)), (.int (0 : Int32)), (.int (0 : Int32))] := A_15
  refine K.aloadN at_20 (pc' := 21) rfl rfl rfl ?_
  refine K.iconst at_21 (pc' := 22) rfl (z := 2) rfl ?_
  refine K.lloadN at_22 (pc' := 23) rfl rfl ?_
  refine K.bipush at_23 (pc' := 25) rfl (z := 16) rfl ?_
  obtain ⟨z25, e_z25⟩ : ∃ z, (q0.toUInt64 >>> ((16 : Int32) &&& 0x3f).toInt64.toUInt64).toInt64 = z := ⟨_, rfl⟩
  refine K.lushr at_25 (pc' := 26) rfl e_z25 ?_
  obtain ⟨z26, e_z26⟩ : ∃ z, z25.toInt32 = z := ⟨_, rfl⟩
  refine K.l2i at_26 (pc' := 27) rfl e_z26 ?_
  obtain ⟨x2, e_x2⟩ : ∃ z, z26.toInt8.toInt32 = z := ⟨_, rfl⟩
  have r_x2 : (x2.toInt - z26.toInt) % 256 = 0 ∧ -128 ≤ x2.toInt ∧ x2.toInt < 128 := by have q := c_i2b z26; rw [e_x2] at q; exact q
  refine K.i2b at_27 (pc' := 28) rfl e_x2 ?_
  refine K.bast at_28 (pc' := 29) rfl A_18 (i := 2) rfl (show 2 < 6 by decide) ge_a_1 (fun h_19 W_20 A_21 => ?_)
  rw [show nar .byte x2 = x2 from nar_byte_of (by omega)] at W_20 A_21
  have sz_23 : n0 ≤ h_19.size := Nat.le_trans sz_17 (Keep.of_wr W_20).1
  have A_24 : Ary Z h_19 a_1 .byte [(.int x0), (.int x1), (.int x2), (.int (0 : Int32)), (.int (0 : Int32)), (.int (0 : Int32))] := A_21
  refine K.aloadN at_29 (pc' := 30) rfl rfl rfl ?_
  refine K.iconst at_30 (pc' := 31) rfl (z := 3) rfl ?_
  refine K.lloadN at_31 (pc' := 32) rfl rfl ?_
  refine K.bipush at_32 (pc' := 34) rfl (z := 24) rfl ?_
  obtain ⟨z34, e_z34⟩ : ∃ z, (q0.toUInt64 >>> ((24 : Int32) &&& 0x3f).toInt64.toUInt64).toInt64 = z := ⟨_, rfl⟩
  refine K.lushr at_34 (pc' := 35) rfl e_z34 ?_
  obtain ⟨z35, e_z35⟩ : ∃ z, z34.toInt32 = z := ⟨_, rfl⟩
  refine K.l2i at_35 (pc' := 36) rfl e_z35 ?_
  obtain ⟨x3, e_x3⟩ : ∃ z, z35.toInt8.toInt32 = z := ⟨_, rfl⟩
  have r_x3 : (x3.toInt - z35.toInt) % 256 = 0 ∧ -128 ≤ x3.toInt ∧ x3.toInt < 128 := by have q := c_i2b z35; rw [e_x3] at q; exact q
  refine K.i2b at_36 (pc' := 37) rfl e_x3 ?_
  refine K.bast at_37 (pc' := 38) rfl A_24 (i := 3) rfl (show 3 < 6 by decide) ge_a_1 (fun h_25 W_26 A_27 => ?_)
  rw [show nar .byte x3 = x3 from nar_byte_of (by omega)] at W_26 A_27
  have sz_29 : n0 ≤ h_25.size := Nat.le_trans sz_23 (Keep.of_wr W_26).1
  have A_30 : Ary Z h_25 a_1 .byte [(.int x0), (.int x1), (.int x2), (.int x3), (.int (0 : Int32)), (.int (0 : Int32))] := A_27
  refine K.aloadN at_38 (pc' := 39) rfl rfl rfl ?_
  refine K.iconst at_39 (pc' := 40) rfl (z := 4) rfl ?_
  refine K.lloadN at_40 (pc' := 41) rfl rfl ?_
  refine K.bipush at_41 (pc' := 43) rfl (z := 32) rfl ?_
  obtain ⟨z43, e_z43⟩ : ∃ z, (q0.toUInt64 >>> ((32 : Int32) &&& 0x3f).toInt64.toUInt64).toInt64 = z := ⟨_, rfl⟩
  refine K.lushr at_43 (pc' := 44) rfl e_z43 ?_
  obtain ⟨z44, e_z44⟩ : ∃ z, z43.toInt32 = z := ⟨_, rfl⟩
  refine K.l2i at_44 (pc' := 45) rfl e_z44 ?_
  obtain ⟨x4, e_x4⟩ : ∃ z, z44.toInt8.toInt32 = z := ⟨_, rfl⟩
  have r_x4 : (x4.toInt - z44.toInt) % 256 = 0 ∧ -128 ≤ x4.toInt ∧ x4.toInt < 128 := by have q := c_i2b z44; rw [e_x4] at q; exact q
  refine K.i2b at_45 (pc' := 46) rfl e_x4 ?_
  refine K.bast at_46 (pc' := 47) rfl A_30 (i := 4) rfl (show 4 < 6 by decide) ge_a_1 (fun h_31 W_32 A_33 => ?_)
  rw [show nar .byte x4 = x4 from nar_byte_of (by omega)] at W_32 A_33
  have sz_35 : n0 ≤ h_31.size := Nat.le_trans sz_29 (Keep.of_wr W_32).1
  have A_36 : Ary Z h_31 a_1 .byte [(.int x0), (.int x1), (.int x2), (.int x3), (.int x4), (.int (0 : Int32))] := A_33
  refine K.aloadN at_47 (pc' := 48) rfl rfl rfl ?_
  refine K.iconst at_48 (pc' := 49) rfl (z := 5) rfl ?_
  refine K.iloadN at_49 (pc' := 50) rfl rfl ?_
  refine K.bipush at_50 (pc' := 52) rfl (z := 8) rfl ?_
  obtain ⟨z52, e_z52⟩ : ∃ z, (e0.toUInt32 >>> ((8 : Int32) &&& 31).toUInt32).toInt32 = z := ⟨_, rfl⟩
  refine K.iushr at_52 (pc' := 53) rfl e_z52 ?_
  obtain ⟨x5, e_x5⟩ : ∃ z, z52.toInt8.toInt32 = z := ⟨_, rfl⟩
  have r_x5 : (x5.toInt - z52.toInt) % 256 = 0 ∧ -128 ≤ x5.toInt ∧ x5.toInt < 128 := by have q := c_i2b z52; rw [e_x5] at q; exact q
  refine K.i2b at_53 (pc' := 54) rfl e_x5 ?_
  refine K.bast at_54 (pc' := 55) rfl A_36 (i := 5) rfl (show 5 < 6 by decide) ge_a_1 (fun h_37 W_38 A_39 => ?_)
  rw [show nar .byte x5 = x5 from nar_byte_of (by omega)] at W_38 A_39
  have sz_41 : n0 ≤ h_37.size := Nat.le_trans sz_35 (Keep.of_wr W_38).1
  have A_42 : Ary Z h_37 a_1 .byte [(.int x0), (.int x1), (.int x2), (.int x3), (.int x4), (.int x5)] := A_39
  refine K.aloadN at_55 (pc' := 56) rfl rfl rfl ?_
  refine K.iconst at_56 (pc' := 57) rfl (z := 0) rfl ?_
  refine K.bald at_57 (pc' := 58) rfl A_42 (i := 0) rfl rfl ?_
  refine K.bipush at_58 (pc' := 60) rfl (z := 127) rfl ?_
  obtain ⟨d0, e_d0⟩ : ∃ z, x0 &&& (127 : Int32) = z := ⟨_, rfl⟩
  have r_d0 : d0.toInt = x0.toInt % 128 := by have q := c_mask x0 (127 : Int32) 7 (by decide) (by decide); rw [e_d0] at q; exact q
  refine K.iand at_60 (pc' := 61) rfl e_d0 ?_
  refine K.istore at_61 (pc' := 63) rfl (L' := #[.val (.long q0), .second, .val (.int e0), .val (.ref a_1), .val (.int d0), .unset, .unset, .unset, .unset, .unset, .unset, .unset, .unset, .unset]) rfl ?_
  refine K.aloadN at_63 (pc' := 64) rfl rfl rfl ?_
  refine K.iconst at_64 (pc' := 65) rfl (z := 1) rfl ?_
  refine K.bald at_65 (pc' := 66) rfl A_42 (i := 1) rfl rfl ?_
  refine K.bipush at_66 (pc' := 68) rfl (z := 127) rfl ?_
  obtain ⟨d1, e_d1⟩ : ∃ z, x1 &&& (127 : Int32) = z := ⟨_, rfl⟩
  have r_d1 : d1.toInt = x1.toInt % 128 := by have q := c_mask x1 (127 : Int32) 7 (by decide) (by decide); rw [e_d1] at q; exact q
  refine K.iand at_68 (pc' := 69) rfl e_d1 ?_
  refine K.istore at_69 (pc' := 71) rfl (L' := #[.val (.long q0), .second, .val (.int e0), .val (.ref a_1), .val (.int d0), .val (.int d1), .unset, .unset, .unset, .unset, .unset, .unset, .unset, .unset]) rfl ?_
  refine K.aloadN at_71 (pc' := 72) rfl rfl rfl ?_
  refine K.iconst at_72 (pc' := 73) rfl (z := 2) rfl ?_
  refine K.bald at_73 (pc' := 74) rfl A_42 (i := 2) rfl rfl ?_
  refine K.bipush at_74 (pc' := 76) rfl (z := 127) rfl ?_
  obtain ⟨d2, e_d2⟩ : ∃ z, x2 &&& (127 : Int32) = z := ⟨_, rfl⟩
  have r_d2 : d2.toInt = x2.toInt % 128 := by have q := c_mask x2 (127 : Int32) 7 (by decide) (by decide); rw [e_d2] at q; exact q
  refine K.iand at_76 (pc' := 77) rfl e_d2 ?_
  refine K.istore at_77 (pc' := 79) rfl (L' := #[.val (.long q0), .second, .val (.int e0), .val (.ref a_1), .val (.int d0), .val (.int d1), .val (.int d2), .unset, .unset, .unset, .unset, .unset, .unset, .unset]) rfl ?_
  refine K.aloadN at_79 (pc' := 80) rfl rfl rfl ?_
  refine K.iconst at_80 (pc' := 81) rfl (z := 3) rfl ?_
  refine K.bald at_81 (pc' := 82) rfl A_42 (i := 3) rfl rfl ?_
  refine K.bipush at_82 (pc' := 84) rfl (z := 127) rfl ?_
  obtain ⟨d3, e_d3⟩ : ∃ z, x3 &&& (127 : Int32) = z := ⟨_, rfl⟩
  have r_d3 : d3.toInt = x3.toInt % 128 := by have q := c_mask x3 (127 : Int32) 7 (by decide) (by decide); rw [e_d3] at q; exact q
  refine K.iand at_84 (pc' := 85) rfl e_d3 ?_
  refine K.istore at_85 (pc' := 87) rfl (L' := #[.val (.long q0), .second, .val (.int e0), .val (.ref a_1), .val (.int d0), .val (.int d1), .val (.int d2), .val (.int d3), .unset, .unset, .unset, .unset, .unset, .unset]) rfl ?_
  refine K.aloadN at_87 (pc' := 88) rfl rfl rfl ?_
  refine K.iconst at_88 (pc' := 89) rfl (z := 4) rfl ?_
  refine K.bald at_89 (pc' := 90) rfl A_42 (i := 4) rfl rfl ?_
  refine K.bipush at_90 (pc' := 92) rfl (z := 127) rfl ?_
  obtain ⟨d4, e_d4⟩ : ∃ z, x4 &&& (127 : Int32) = z := ⟨_, rfl⟩
  have r_d4 : d4.toInt = x4.toInt % 128 := by have q := c_mask x4 (127 : Int32) 7 (by decide) (by decide); rw [e_d4] at q; exact q
  refine K.iand at_92 (pc' := 93) rfl e_d4 ?_
  refine K.istore at_93 (pc' := 95) rfl (L' := #[.val (.long q0), .second, .val (.int e0), .val (.ref a_1), .val (.int d0), .val (.int d1), .val (.int d2), .val (.int d3), .val (.int d4), .unset, .unset, .unset, .unset, .unset]) rfl ?_
  have J261 : ∀ (cs : Int32) (w : Int32), (cs.toInt = ct x0 x1 x2 x3 x4 ∧ w.toInt = vl x0 x1 x2 x3 x4 ∧ (1 ≤ cs.toInt ∧ cs.toInt ≤ 5)) → G h_37 1 6 (mkF m 261 #[.val (.long q0), .second, .val (.int e0), .val (.ref a_1), .val (.int d0), .val (.int d1), .val (.int d2), .val (.int d3), .val (.int d4), .val (.int cs), .val (.int w), .unset, .unset, .unset] []) := by
    intro cs w hw1
    refine K.iloadN at_261 (pc' := 262) rfl rfl ?_
    refine K.iconst at_262 (pc' := 263) rfl (z := 1) rfl ?_
    obtain ⟨xt, e_xt⟩ : ∃ z, e0 &&& (1 : Int32) = z := ⟨_, rfl⟩
    have r_xt : xt.toInt = e0.toInt % 2 := by have q := c_mask e0 (1 : Int32) 1 (by decide) (by decide); rw [e_xt] at q; exact q
    refine K.iand at_263 (pc' := 264) rfl e_xt ?_
    refine K.istore at_264 (pc' := 266) rfl (L' := #[.val (.long q0), .second, .val (.int e0), .val (.ref a_1), .val (.int d0), .val (.int d1), .val (.int d2), .val (.int d3), .val (.int d4), .val (.int cs), .val (.int w), .val (.int xt), .unset, .unset]) rfl ?_
    refine K.newo at_266 (pc' := 269) rfl (hw _ (List.mem_of_getElem? (i := 1) rfl)) (hw _ (List.mem_of_getElem? (i := 2) rfl)) (hw _ (List.mem_of_getElem? (i := 3) rfl)) (by decide) (by decide) (fun h_44 o_43 g_o_43 E_45 x_o_43 D_o_43 => ?_)
    have ne_a_1_o_43 : a_1 ≠ o_43 := Nat.ne_of_lt (g_o_43 ▸ A_42.lt)
    have ge_o_43 : n0 ≤ o_43 := g_o_43 ▸ sz_41
    have f_46 : Ary Z h_44 a_1 .byte [(.int x0), (.int x1), (.int x2), (.int x3), (.int x4), (.int x5)] := A_42.ext E_45
    have sz_47 : n0 ≤ h_44.size := Nat.le_trans sz_41 E_45.1
    have f_48 : Fld Z h_44 o_43 "com/example/woodlark/woodlark/io/NumberBuffer$Reader" "bytes" "[B" .null := D_o_43 (Or.inr (hw _ (List.mem_of_getElem? (i := 11) rfl))) (ty := (.array .byte)) (by decide)
    have f_49 : Fld Z h_44 o_43 "com/example/woodlark/woodlark/io/NumberBuffer$Reader" "end" "I" (.int (0 : Int32)) := D_o_43 (Or.inr (hw _ (List.mem_of_getElem? (i := 13) rfl))) (ty := .int) (by decide)
    have f_50 : Fld Z h_44 o_43 "com/example/woodlark/woodlark/io/NumberBuffer$Reader" "position" "I" (.int (0 : Int32)) := D_o_43 (Or.inl (hw _ (List.mem_of_getElem? (i := 20) rfl))) (ty := .int) (by decide)
    refine K.dup at_269 (pc' := 270) rfl rfl ?_
    refine K.aloadN at_270 (pc' := 271) rfl rfl rfl ?_
    refine K.iload at_271 (pc' := 273) rfl rfl ?_
    refine K.iload at_273 (pc' := 275) rfl rfl ?_
    obtain ⟨z275, e_z275⟩ : ∃ z, cs + xt = z := ⟨_, rfl⟩
    have r_z275 : (z275.toInt - (cs.toInt + xt.toInt)) % 4294967296 = 0 := by have q := c_iadd cs xt; rw [e_z275] at q; exact q
    have g_z275 := rng32 z275
    have t_z275 : z275.toInt = cs.toInt + xt.toInt := by omega
    clear r_z275
    clear g_z275
    refine K.iadd at_275 (pc' := 276) rfl e_z275 ?_
    refine K.callc (argsL := [(.ref a_1), (.int z275)]) (rest := [(.ref o_43)]) at_276 (pc' := 279) rfl rfl (c_new l Z a0 hw n0 h_44 (a := o_43) (b := a_1) (n := z275) x_o_43 f_48 f_49 f_50 ge_o_43) (hw _ (List.mem_of_getElem? (i := 4) rfl)) (hw _ (List.mem_of_getElem? (i := 5) rfl)) (hw _ (List.mem_of_getElem? (i := 3) rfl)) (hw _ (List.mem_of_getElem? (i := 6) rfl)) (by decide) pd_0 rfl rfl (W := 1) (by simp [Value.category]) (by decide) (by decide) (by decide) (by decide) (fun v_53 h_51 q_52 => ?_)
    obtain ⟨rfl, K_55, f_56, f_57, f_58⟩ := q_52
    have f_59 : Ary Z h_51 a_1 .byte [(.int x0), (.int x1), (.int x2), (.int x3), (.int x4), (.int x5)] := f_46.keep K_55 (ninS ne_a_1_o_43 nin0)
    have f_60 : Exa Z h_51 o_43 "com/example/woodlark/woodlark/io/NumberBuffer$Reader" := x_o_43.keep K_55
    have sz_64 : n0 ≤ h_51.size := Nat.le_trans sz_47 K_55.1
    show G h_51 2 9 (mkF m 279 #[.val (.long q0), .second, .val (.int e0), .val (.ref a_1), .val (.int d0), .val (.int d1), .val (.int d2), .val (.int d3), .val (.int d4), .val (.int cs), .val (.int w), .val (.int xt), .unset, .unset] [(.ref o_43)])
    refine K.astore at_279 (pc' := 281) rfl rfl (L' := #[.val (.long q0), .second, .val (.int e0), .val (.ref a_1), .val (.int d0), .val (.int d1), .val (.int d2), .val (.int d3), .val (.int d4), .val (.int cs), .val (.int w), .val (.int xt), .val (.ref o_43), .unset]) rfl ?_
    refine K.aload at_281 (pc' := 283) rfl rfl rfl ?_
    refine K.callv (z := (⟨"com/example/woodlark/woodlark/io/NumberBuffer$Reader", "next", "()I"⟩ : MethodName)) (argsL := []) (rest := []) at_283 (pc' := 286) rfl (c_next l Z a0 hw n0 h_51 (a := o_43) (b := a_1) (n := z275) (x0 := x0) (x1 := x1) (x2 := x2) (x3 := x3) (x4 := x4) (x5 := x5) f_60 f_56 f_57 f_58 f_59 ge_o_43 ne_a_1_o_43 (by omega)) f_60 (hw _ (List.mem_of_getElem? (i := 14) rfl)) (hw _ (List.mem_of_getElem? (i := 15) rfl)) (nf_sel (hw _ (List.mem_of_getElem? (i := 17) rfl)) rfl) (hw _ (List.mem_of_getElem? (i := 17) rfl)) (hw _ (List.mem_of_getElem? (i := 16) rfl)) (hw _ (List.mem_of_getElem? (i := 3) rfl)) (hw _ (List.mem_of_getElem? (i := 18) rfl)) (by decide) pd_1 rfl rfl (W := 0) (by simp [Value.category]) (by decide) (by decide) (by decide) (by decide) (fun v_67 h_65 q_66 => ?_)
    obtain ⟨got, ps, rfl, t_got, K_68, f_69, f_70, f_71⟩ := q_66
    have f_72 : Ary Z h_65 a_1 .byte [(.int x0), (.int x1), (.int x2), (.int x3), (.int x4), (.int x5)] := f_59.keep K_68 (ninS ne_a_1_o_43 nin0)
    have f_73 : Exa Z h_65 o_43 "com/example/woodlark/woodlark/io/NumberBuffer$Reader" := f_60.keep K_68
    have sz_77 : n0 ≤ h_65.size := Nat.le_trans sz_64 K_68.1
    show G h_65 2 9 (mkF m 286 #[.val (.long q0), .second, .val (.int e0), .val (.ref a_1), .val (.int d0), .val (.int d1), .val (.int d2), .val (.int d3), .val (.int d4), .val (.int cs), .val (.int w), .val (.int xt), .val (.ref o_43), .unset] [(.int got)])
    refine K.istore at_286 (pc' := 288) rfl (L' := #[.val (.long q0), .second, .val (.int e0), .val (.ref a_1), .val (.int d0), .val (.int d1), .val (.int d2), .val (.int d3), .val (.int d4), .val (.int cs), .val (.int w), .val (.int xt), .val (.ref o_43), .val (.int got)]) rfl ?_
    refine K.iload at_288 (pc' := 290) rfl rfl ?_
    refine K.iload at_290 (pc' := 292) rfl rfl ?_
    refine K.icmp_ne at_292 (pc1 := 295) rfl (by decide) (pc2 := 318) (by decide) (a := got.toInt) (b := w.toInt) rfl rfl (fun c292 => ?_) (fun c292 => ?_)
    · exfalso; omega
    · refine K.aload at_295 (pc' := 297) rfl rfl rfl ?_
      refine K.callv (z := (⟨"com/example/woodlark/woodlark/io/NumberBuffer$Reader", "hasRemaining", "()Z"⟩ : MethodName)) (argsL := []) (rest := []) at_297 (pc' := 300) rfl (c_has l Z a0 hw n0 h_65 (a := o_43) (w1 := ps) (w2 := z275) f_73 f_69 f_71) f_73 (hw _ (List.mem_of_getElem? (i := 22) rfl)) (hw _ (List.mem_of_getElem? (i := 23) rfl)) (nf_sel (hw _ (List.mem_of_getElem? (i := 25) rfl)) rfl) (hw _ (List.mem_of_getElem? (i := 25) rfl)) (hw _ (List.mem_of_getElem? (i := 24) rfl)) (hw _ (List.mem_of_getElem? (i := 3) rfl)) (hw _ (List.mem_of_getElem? (i := 26) rfl)) (by decide) pd_2 rfl rfl (W := 0) (by simp [Value.category]) (by decide) (by decide) (by decide) (by decide) (fun v_80 h_78 q_79 => ?_)
      obtain ⟨rfl, rfl⟩ := q_79
      show G h_65 2 9 (mkF m 300 #[.val (.long q0), .second, .val (.int e0), .val (.ref a_1), .val (.int d0), .val (.int d1), .val (.int d2), .val (.int d3), .val (.int d4), .val (.int cs), .val (.int w), .val (.int xt), .val (.ref o_43), .val (.int got)] [(.int (b2 (ps.toInt < z275.toInt)))])
      have J311 : ∀ jb : Int32, jb = b2 (xt.toInt = 1) → G h_65 2 9 (mkF m 311 #[.val (.long q0), .second, .val (.int e0), .val (.ref a_1), .val (.int d0), .val (.int d1), .val (.int d2), .val (.int d3), .val (.int d4), .val (.int cs), .val (.int w), .val (.int xt), .val (.ref o_43), .val (.int got)] [(.int jb), (.int (b2 (ps.toInt < z275.toInt)))]) := by
        intro jb hjb; subst hjb
        refine K.icmpneB at_311 (pc1 := 314) rfl (by decide) (pc2 := 318) (by decide) (fun c311 => ?_) (fun c311 => ?_)
        · exfalso; omega
        · refine K.iconst at_314 (pc' := 315) rfl (z := 1) rfl ?_
          refine K.goto at_315 (by decide) (pc' := 319) (by decide) ?_
          exact K.retz at_319 (Or.inr rfl) (by decide) (by decide) rfl
      refine K.iload at_300 (pc' := 302) rfl rfl ?_
      refine K.iconst at_302 (pc' := 303) rfl (z := 1) rfl ?_
      refine K.icmp_ne at_303 (pc1 := 306) rfl (by decide) (pc2 := 310) (by decide) (a := xt.toInt) (b := 1) rfl rfl (fun c303 => ?_) (fun c303 => ?_)
      · refine K.iconst at_310 (pc' := 311) rfl (z := 0) rfl ?_
        exact J311 _ (b2_f (by omega)).symm
      · refine K.iconst at_306 (pc' := 307) rfl (z := 1) rfl ?_
        refine K.goto at_307 (by decide) (pc' := 311) (by decide) ?_
        exact J311 _ (b2_t (by omega)).symm
  refine K.aloadN at_95 (pc' := 96) rfl rfl rfl ?_
  refine K.iconst at_96 (pc' := 97) rfl (z := 0) rfl ?_
  refine K.bald at_97 (pc' := 98) rfl A_42 (i := 0) rfl rfl ?_
  refine K.if_lt at_98 (pc1 := 101) rfl (by decide) (pc2 := 111) (by decide) (a := x0.toInt) rfl (fun c98 => ?_) (fun c98 => ?_)
  · refine K.aloadN at_111 (pc' := 112) rfl rfl rfl ?_
    refine K.iconst at_112 (pc' := 113) rfl (z := 1) rfl ?_
    refine K.bald at_113 (pc' := 114) rfl A_42 (i := 1) rfl rfl ?_
    refine K.if_lt at_114 (pc1 := 117) rfl (by decide) (pc2 := 134) (by decide) (a := x1.toInt) rfl (fun c114 => ?_) (fun c114 => ?_)
    · refine K.aloadN at_134 (pc' := 135) rfl rfl rfl ?_
      refine K.iconst at_135 (pc' := 136) rfl (z := 2) rfl ?_
      refine K.bald at_136 (pc' := 137) rfl A_42 (i := 2) rfl rfl ?_
      refine K.if_lt at_137 (pc1 := 140) rfl (by decide) (pc2 := 164) (by decide) (a := x2.toInt) rfl (fun c137 => ?_) (fun c137 => ?_)
      · refine K.aloadN at_164 (pc' := 165) rfl rfl rfl ?_
        refine K.iconst at_165 (pc' := 166) rfl (z := 3) rfl ?_
        refine K.bald at_166 (pc' := 167) rfl A_42 (i := 3) rfl rfl ?_
        refine K.if_lt at_167 (pc1 := 170) rfl (by decide) (pc2 := 200) (by decide) (a := x3.toInt) rfl (fun c167 => ?_) (fun c167 => ?_)
        · refine K.aloadN at_200 (pc' := 201) rfl rfl rfl ?_
          refine K.iconst at_201 (pc' := 202) rfl (z := 4) rfl ?_
          refine K.bald at_202 (pc' := 203) rfl A_42 (i := 4) rfl rfl ?_
          refine K.if_lt at_203 (pc1 := 206) rfl (by decide) (pc2 := 255) (by decide) (a := x4.toInt) rfl (fun c203 => ?_) (fun c203 => ?_)
          · refine K.iconst at_255 (pc' := 256) rfl (z := 5) rfl ?_
            refine K.istore at_256 (pc' := 258) rfl (L' := #[.val (.long q0), .second, .val (.int e0), .val (.ref a_1), .val (.int d0), .val (.int d1), .val (.int d2), .val (.int d3), .val (.int d4), .val (.int (5 : Int32)), .unset, .unset, .unset, .unset]) rfl ?_
            refine K.iconst at_258 (pc' := 259) rfl (z := 0) rfl ?_
            refine K.istore at_259 (pc' := 261) rfl (L' := #[.val (.long q0), .second, .val (.int e0), .val (.ref a_1), .val (.int d0), .val (.int d1), .val (.int d2), .val (.int d3), .val (.int d4), .val (.int (5 : Int32)), .val (.int (0 : Int32)), .unset, .unset, .unset]) rfl ?_
            exact J261 _ _ (by (refine ⟨?_, ?_, ?_⟩ <;> (try simp only [ct, vl]) <;> (repeat' split) <;> first | omega | (simp only [Int32.reduceToInt] <;> omega)))
          · refine K.iconst at_206 (pc' := 207) rfl (z := 5) rfl ?_
            refine K.istore at_207 (pc' := 209) rfl (L' := #[.val (.long q0), .second, .val (.int e0), .val (.ref a_1), .val (.int d0), .val (.int d1), .val (.int d2), .val (.int d3), .val (.int d4), .val (.int (5 : Int32)), .unset, .unset, .unset, .unset]) rfl ?_
            refine K.iload at_209 (pc' := 211) rfl rfl ?_
            refine K.bipush at_211 (pc' := 213) rfl (z := 8) rfl ?_
            refine K.icmp_ge at_213 (pc1 := 216) rfl (by decide) (pc2 := 249) (by decide) (a := d4.toInt) (b := 8) rfl rfl (fun c213 => ?_) (fun c213 => ?_)
            · refine K.iconst at_249 (pc' := 250) rfl (z := 0) rfl ?_
              refine K.istore at_250 (pc' := 252) rfl (L' := #[.val (.long q0), .second, .val (.int e0), .val (.ref a_1), .val (.int d0), .val (.int d1), .val (.int d2), .val (.int d3), .val (.int d4), .val (.int (5 : Int32)), .val (.int (0 : Int32)), .unset, .unset, .unset]) rfl ?_
              refine K.goto at_252 (by decide) (pc' := 261) (by decide) ?_
              exact J261 _ _ (by (refine ⟨?_, ?_, ?_⟩ <;> (try simp only [ct, vl]) <;> (repeat' split) <;> first | omega | (simp only [Int32.reduceToInt] <;> omega)))
            · refine K.iload at_216 (pc' := 218) rfl rfl ?_
              refine K.sipush at_218 (pc' := 221) rfl (z := 128) rfl ?_
              refine K.iload at_221 (pc' := 223) rfl rfl ?_
              obtain ⟨z223, e_z223⟩ : ∃ z, (128 : Int32) * d1 = z := ⟨_, rfl⟩
              have r_z223 : (z223.toInt - (128 * d1.toInt)) % 4294967296 = 0 := by have q := c_imul (128 : Int32) d1; rw [e_z223] at q; exact q
              have g_z223 := rng32 z223
              have t_z223 : z223.toInt = 128 * d1.toInt := by omega
              clear r_z223
              clear g_z223
              refine K.imul at_223 (pc' := 224) rfl e_z223 ?_
              obtain ⟨z224, e_z224⟩ : ∃ z, d0 + z223 = z := ⟨_, rfl⟩
              have r_z224 : (z224.toInt - (d0.toInt + z223.toInt)) % 4294967296 = 0 := by have q := c_iadd d0 z223; rw [e_z224] at q; exact q
              have g_z224 := rng32 z224
              have t_z224 : z224.toInt = d0.toInt + z223.toInt := by omega
              clear r_z224
              clear g_z224
              refine K.iadd at_224 (pc' := 225) rfl e_z224 ?_
              refine K.sipush at_225 (pc' := 228) rfl (z := 16384) rfl ?_
              refine K.iload at_228 (pc' := 230) rfl rfl ?_
              obtain ⟨z230, e_z230⟩ : ∃ z, (16384 : Int32) * d2 = z := ⟨_, rfl⟩
              have r_z230 : (z230.toInt - (16384 * d2.toInt)) % 4294967296 = 0 := by have q := c_imul (16384 : Int32) d2; rw [e_z230] at q; exact q
              have g_z230 := rng32 z230
              have t_z230 : z230.toInt = 16384 * d2.toInt := by omega
              clear r_z230
              clear g_z230
              refine K.imul at_230 (pc' := 231) rfl e_z230 ?_
              obtain ⟨z231, e_z231⟩ : ∃ z, z224 + z230 = z := ⟨_, rfl⟩
              have r_z231 : (z231.toInt - (z224.toInt + z230.toInt)) % 4294967296 = 0 := by have q := c_iadd z224 z230; rw [e_z231] at q; exact q
              have g_z231 := rng32 z231
              have t_z231 : z231.toInt = z224.toInt + z230.toInt := by omega
              clear r_z231
              clear g_z231
              refine K.iadd at_231 (pc' := 232) rfl e_z231 ?_
              refine K.ldcI at_232 (pc' := 234) rfl (hw _ (List.mem_of_getElem? (i := 27) rfl)) ?_
              refine K.iload at_234 (pc' := 236) rfl rfl ?_
              obtain ⟨z236, e_z236⟩ : ∃ z, (2097152 : Int32) * d3 = z := ⟨_, rfl⟩
              have r_z236 : (z236.toInt - (2097152 * d3.toInt)) % 4294967296 = 0 := by have q := c_imul (2097152 : Int32) d3; rw [e_z236] at q; exact q
              have g_z236 := rng32 z236
              have t_z236 : z236.toInt = 2097152 * d3.toInt := by omega
              clear r_z236
              clear g_z236
              refine K.imul at_236 (pc' := 237) rfl e_z236 ?_
              obtain ⟨z237, e_z237⟩ : ∃ z, z231 + z236 = z := ⟨_, rfl⟩
              have r_z237 : (z237.toInt - (z231.toInt + z236.toInt)) % 4294967296 = 0 := by have q := c_iadd z231 z236; rw [e_z237] at q; exact q
              have g_z237 := rng32 z237
              have t_z237 : z237.toInt = z231.toInt + z236.toInt := by omega
              clear r_z237
              clear g_z237
              refine K.iadd at_237 (pc' := 238) rfl e_z237 ?_
              refine K.ldcI at_238 (pc' := 240) rfl (hw _ (List.mem_of_getElem? (i := 28) rfl)) ?_
              refine K.iload at_240 (pc' := 242) rfl rfl ?_
              obtain ⟨z242, e_z242⟩ : ∃ z, (268435456 : Int32) * d4 = z := ⟨_, rfl⟩
              have r_z242 : (z242.toInt - (268435456 * d4.toInt)) % 4294967296 = 0 := by have q := c_imul (268435456 : Int32) d4; rw [e_z242] at q; exact q
              have g_z242 := rng32 z242
              have t_z242 : z242.toInt = 268435456 * d4.toInt := by omega
              clear r_z242
              clear g_z242
              refine K.imul at_242 (pc' := 243) rfl e_z242 ?_
              obtain ⟨z243, e_z243⟩ : ∃ z, z237 + z242 = z := ⟨_, rfl⟩
              have r_z243 : (z243.toInt - (z237.toInt + z242.toInt)) % 4294967296 = 0 := by have q := c_iadd z237 z242; rw [e_z243] at q; exact q
              have g_z243 := rng32 z243
              have t_z243 : z243.toInt = z237.toInt + z242.toInt := by omega
              clear r_z243
              clear g_z243
              refine K.iadd at_243 (pc' := 244) rfl e_z243 ?_
              refine K.istore at_244 (pc' := 246) rfl (L' := #[.val (.long q0), .second, .val (.int e0), .val (.ref a_1), .val (.int d0), .val (.int d1), .val (.int d2), .val (.int d3), .val (.int d4), .val (.int (5 : Int32)), .val (.int z243), .unset, .unset, .unset]) rfl ?_
              refine K.goto at_246 (by decide) (pc' := 261) (by decide) ?_
              exact J261 _ _ (by (refine ⟨?_, ?_, ?_⟩ <;> (try simp only [ct, vl]) <;> (repeat' split) <;> first | omega | (simp only [Int32.reduceToInt] <;> omega)))
        · refine K.iconst at_170 (pc' := 171) rfl (z := 4) rfl ?_
          refine K.istore at_171 (pc' := 173) rfl (L' := #[.val (.long q0), .second, .val (.int e0), .val (.ref a_1), .val (.int d0), .val (.int d1), .val (.int d2), .val (.int d3), .val (.int d4), .val (.int (4 : Int32)), .unset, .unset, .unset, .unset]) rfl ?_
          refine K.iload at_173 (pc' := 175) rfl rfl ?_
          refine K.sipush at_175 (pc' := 178) rfl (z := 128) rfl ?_
          refine K.iload at_178 (pc' := 180) rfl rfl ?_
          obtain ⟨z180, e_z180⟩ : ∃ z, (128 : Int32) * d1 = z := ⟨_, rfl⟩
          have r_z180 : (z180.toInt - (128 * d1.toInt)) % 4294967296 = 0 := by have q := c_imul (128 : Int32) d1; rw [e_z180] at q; exact q
          have g_z180 := rng32 z180
          have t_z180 : z180.toInt = 128 * d1.toInt := by omega
          clear r_z180
          clear g_z180
          refine K.imul at_180 (pc' := 181) rfl e_z180 ?_
          obtain ⟨z181, e_z181⟩ : ∃ z, d0 + z180 = z := ⟨_, rfl⟩
          have r_z181 : (z181.toInt - (d0.toInt + z180.toInt)) % 4294967296 = 0 := by have q := c_iadd d0 z180; rw [e_z181] at q; exact q
          have g_z181 := rng32 z181
          have t_z181 : z181.toInt = d0.toInt + z180.toInt := by omega
          clear r_z181
          clear g_z181
          refine K.iadd at_181 (pc' := 182) rfl e_z181 ?_
          refine K.sipush at_182 (pc' := 185) rfl (z := 16384) rfl ?_
          refine K.iload at_185 (pc' := 187) rfl rfl ?_
          obtain ⟨z187, e_z187⟩ : ∃ z, (16384 : Int32) * d2 = z := ⟨_, rfl⟩
          have r_z187 : (z187.toInt - (16384 * d2.toInt)) % 4294967296 = 0 := by have q := c_imul (16384 : Int32) d2; rw [e_z187] at q; exact q
          have g_z187 := rng32 z187
          have t_z187 : z187.toInt = 16384 * d2.toInt := by omega
          clear r_z187
          clear g_z187
          refine K.imul at_187 (pc' := 188) rfl e_z187 ?_
          obtain ⟨z188, e_z188⟩ : ∃ z, z181 + z187 = z := ⟨_, rfl⟩
          have r_z188 : (z188.toInt - (z181.toInt + z187.toInt)) % 4294967296 = 0 := by have q := c_iadd z181 z187; rw [e_z188] at q; exact q
          have g_z188 := rng32 z188
          have t_z188 : z188.toInt = z181.toInt + z187.toInt := by omega
          clear r_z188
          clear g_z188
          refine K.iadd at_188 (pc' := 189) rfl e_z188 ?_
          refine K.ldcI at_189 (pc' := 191) rfl (hw _ (List.mem_of_getElem? (i := 27) rfl)) ?_
          refine K.iload at_191 (pc' := 193) rfl rfl ?_
          obtain ⟨z193, e_z193⟩ : ∃ z, (2097152 : Int32) * d3 = z := ⟨_, rfl⟩
          have r_z193 : (z193.toInt - (2097152 * d3.toInt)) % 4294967296 = 0 := by have q := c_imul (2097152 : Int32) d3; rw [e_z193] at q; exact q
          have g_z193 := rng32 z193
          have t_z193 : z193.toInt = 2097152 * d3.toInt := by omega
          clear r_z193
          clear g_z193
          refine K.imul at_193 (pc' := 194) rfl e_z193 ?_
          obtain ⟨z194, e_z194⟩ : ∃ z, z188 + z193 = z := ⟨_, rfl⟩
          have r_z194 : (z194.toInt - (z188.toInt + z193.toInt)) % 4294967296 = 0 := by have q := c_iadd z188 z193; rw [e_z194] at q; exact q
          have g_z194 := rng32 z194
          have t_z194 : z194.toInt = z188.toInt + z193.toInt := by omega
          clear r_z194
          clear g_z194
          refine K.iadd at_194 (pc' := 195) rfl e_z194 ?_
          refine K.istore at_195 (pc' := 197) rfl (L' := #[.val (.long q0), .second, .val (.int e0), .val (.ref a_1), .val (.int d0), .val (.int d1), .val (.int d2), .val (.int d3), .val (.int d4), .val (.int (4 : Int32)), .val (.int z194), .unset, .unset, .unset]) rfl ?_
          refine K.goto at_197 (by decide) (pc' := 261) (by decide) ?_
          exact J261 _ _ (by (refine ⟨?_, ?_, ?_⟩ <;> (try simp only [ct, vl]) <;> (repeat' split) <;> first | omega | (simp only [Int32.reduceToInt] <;> omega)))
      · refine K.iconst at_140 (pc' := 141) rfl (z := 3) rfl ?_
        refine K.istore at_141 (pc' := 143) rfl (L' := #[.val (.long q0), .second, .val (.int e0), .val (.ref a_1), .val (.int d0), .val (.int d1), .val (.int d2), .val (.int d3), .val (.int d4), .val (.int (3 : Int32)), .unset, .unset, .unset, .unset]) rfl ?_
        refine K.iload at_143 (pc' := 145) rfl rfl ?_
        refine K.sipush at_145 (pc' := 148) rfl (z := 128) rfl ?_
        refine K.iload at_148 (pc' := 150) rfl rfl ?_
        obtain ⟨z150, e_z150⟩ : ∃ z, (128 : Int32) * d1 = z := ⟨_, rfl⟩
        have r_z150 : (z150.toInt - (128 * d1.toInt)) % 4294967296 = 0 := by have q := c_imul (128 : Int32) d1; rw [e_z150] at q; exact q
        have g_z150 := rng32 z150
        have t_z150 : z150.toInt = 128 * d1.toInt := by omega
        clear r_z150
        clear g_z150
        refine K.imul at_150 (pc' := 151) rfl e_z150 ?_
        obtain ⟨z151, e_z151⟩ : ∃ z, d0 + z150 = z := ⟨_, rfl⟩
        have r_z151 : (z151.toInt - (d0.toInt + z150.toInt)) % 4294967296 = 0 := by have q := c_iadd d0 z150; rw [e_z151] at q; exact q
        have g_z151 := rng32 z151
        have t_z151 : z151.toInt = d0.toInt + z150.toInt := by omega
        clear r_z151
        clear g_z151
        refine K.iadd at_151 (pc' := 152) rfl e_z151 ?_
        refine K.sipush at_152 (pc' := 155) rfl (z := 16384) rfl ?_
        refine K.iload at_155 (pc' := 157) rfl rfl ?_
        obtain ⟨z157, e_z157⟩ : ∃ z, (16384 : Int32) * d2 = z := ⟨_, rfl⟩
        have r_z157 : (z157.toInt - (16384 * d2.toInt)) % 4294967296 = 0 := by have q := c_imul (16384 : Int32) d2; rw [e_z157] at q; exact q
        have g_z157 := rng32 z157
        have t_z157 : z157.toInt = 16384 * d2.toInt := by omega
        clear r_z157
        clear g_z157
        refine K.imul at_157 (pc' := 158) rfl e_z157 ?_
        obtain ⟨z158, e_z158⟩ : ∃ z, z151 + z157 = z := ⟨_, rfl⟩
        have r_z158 : (z158.toInt - (z151.toInt + z157.toInt)) % 4294967296 = 0 := by have q := c_iadd z151 z157; rw [e_z158] at q; exact q
        have g_z158 := rng32 z158
        have t_z158 : z158.toInt = z151.toInt + z157.toInt := by omega
        clear r_z158
        clear g_z158
        refine K.iadd at_158 (pc' := 159) rfl e_z158 ?_
        refine K.istore at_159 (pc' := 161) rfl (L' := #[.val (.long q0), .second, .val (.int e0), .val (.ref a_1), .val (.int d0), .val (.int d1), .val (.int d2), .val (.int d3), .val (.int d4), .val (.int (3 : Int32)), .val (.int z158), .unset, .unset, .unset]) rfl ?_
        refine K.goto at_161 (by decide) (pc' := 261) (by decide) ?_
        exact J261 _ _ (by (refine ⟨?_, ?_, ?_⟩ <;> (try simp only [ct, vl]) <;> (repeat' split) <;> first | omega | (simp only [Int32.reduceToInt] <;> omega)))
    · refine K.iconst at_117 (pc' := 118) rfl (z := 2) rfl ?_
      refine K.istore at_118 (pc' := 120) rfl (L' := #[.val (.long q0), .second, .val (.int e0), .val (.ref a_1), .val (.int d0), .val (.int d1), .val (.int d2), .val (.int d3), .val (.int d4), .val (.int (2 : Int32)), .unset, .unset, .unset, .unset]) rfl ?_
      refine K.iload at_120 (pc' := 122) rfl rfl ?_
      refine K.sipush at_122 (pc' := 125) rfl (z := 128) rfl ?_
      refine K.iload at_125 (pc' := 127) rfl rfl ?_
      obtain ⟨z127, e_z127⟩ : ∃ z, (128 : Int32) * d1 = z := ⟨_, rfl⟩
      have r_z127 : (z127.toInt - (128 * d1.toInt)) % 4294967296 = 0 := by have q := c_imul (128 : Int32) d1; rw [e_z127] at q; exact q
      have g_z127 := rng32 z127
      have t_z127 : z127.toInt = 128 * d1.toInt := by omega
      clear r_z127
      clear g_z127
      refine K.imul at_127 (pc' := 128) rfl e_z127 ?_
      obtain ⟨z128, e_z128⟩ : ∃ z, d0 + z127 = z := ⟨_, rfl⟩
      have r_z128 : (z128.toInt - (d0.toInt + z127.toInt)) % 4294967296 = 0 := by have q := c_iadd d0 z127; rw [e_z128] at q; exact q
      have g_z128 := rng32 z128
      have t_z128 : z128.toInt = d0.toInt + z127.toInt := by omega
      clear r_z128
      clear g_z128
      refine K.iadd at_128 (pc' := 129) rfl e_z128 ?_
      refine K.istore at_129 (pc' := 131) rfl (L' := #[.val (.long q0), .second, .val (.int e0), .val (.ref a_1), .val (.int d0), .val (.int d1), .val (.int d2), .val (.int d3), .val (.int d4), .val (.int (2 : Int32)), .val (.int z128), .unset, .unset, .unset]) rfl ?_
      refine K.goto at_131 (by decide) (pc' := 261) (by decide) ?_
      exact J261 _ _ (by (refine ⟨?_, ?_, ?_⟩ <;> (try simp only [ct, vl]) <;> (repeat' split) <;> first | omega | (simp only [Int32.reduceToInt] <;> omega)))
  · refine K.iconst at_101 (pc' := 102) rfl (z := 1) rfl ?_
    refine K.istore at_102 (pc' := 104) rfl (L' := #[.val (.long q0), .second, .val (.int e0), .val (.ref a_1), .val (.int d0), .val (.int d1), .val (.int d2), .val (.int d3), .val (.int d4), .val (.int (1 : Int32)), .unset, .unset, .unset, .unset]) rfl ?_
    refine K.iload at_104 (pc' := 106) rfl rfl ?_
    refine K.istore at_106 (pc' := 108) rfl (L' := #[.val (.long q0), .second, .val (.int e0), .val (.ref a_1), .val (.int d0), .val (.int d1), .val (.int d2), .val (.int d3), .val (.int d4), .val (.int (1 : Int32)), .val (.int d0), .unset, .unset, .unset]) rfl ?_
    refine K.goto at_108 (by decide) (pc' := 261) (by decide) ?_
    exact J261 _ _ (by (refine ⟨?_, ?_, ?_⟩ <;> (try simp only [ct, vl]) <;> (repeat' split) <;> first | omega | (simp only [Int32.reduceToInt] <;> omega)))
set_option maxRecDepth 65536 in
set_option maxHeartbeats 40000000 in
theorem comes_1 {Post : Tables → Env → Array Value → State → Outcome → State → Prop} (hpost : ∀ tb e args s v u, (limb_1_1.after args s (.returned v) u = true ∧ limb_1_2.after args s (.returned v) u = true ∧ True) → FrameEnd s (.returned v) u (Jvm.fieldLocs frame_1_writes args s ++ Jvm.arrayLocs frame_1_arrays args s ++ Jvm.staticLocs frame_1_statics s) 16 128 → Post tb e args s (.returned v) u) :
    ArmFor flags0 classFile x code maxLocals ret World_1 tables_1 room_1 Calls_1 rest_1 Pre_1 Post := by
  intro l hfl _ _ p e ha hc hk s m args below hf hA hF happ hP
  obtain ⟨hcalls, hrest, hpre⟩ := hP
  obtain ⟨-, -, -, hnamed, -, -, -, hat⟩ := (Spec.applies_iff hf).mp happ
  obtain ⟨hg, hn⟩ := and_e (Cond.before_iff.mp (show (Jvm.Cond.and given_1 narrow_1).before args s = true from hpre))
  obtain ⟨k0, j0⟩ := and_e hg
  obtain ⟨k1, j1⟩ := and_e j0
  obtain ⟨w0, w1, rfl⟩ : ∃ w0 w1 : Value, args = #[w0, w1] := by
    have hs : args.size = 2 := by simpa [Cond.value, given_1] using k0
    obtain ⟨L⟩ := args
    match L, hs with
    | [w0, w1], _ => exact ⟨w0, w1, rfl⟩
  have hw := fun d (hd : d ∈ tables_1) => atoms_spec (ws := Jvm.Cond.code x code maxLocals ret :: tables_1) hat d (List.mem_cons_of_mem _ hd)
  have hfit : Fit s := fun {y c} hc i hi => by
    obtain ⟨ha, rfl⟩ := Array.getElem?_eq_some_iff.mp hc
    have q := List.all_eq_true.mp ((Array.all_eq_true_iff_forall_mem.mp hF) _ (Array.getElem_mem ha)) i (List.mem_range.mpr hi)
    simpa [Array.getElem?_eq_getElem hi] using q
  obtain ⟨i0, ei0⟩ := isL_v k1
  obtain rfl : w0 = (.long i0) := Option.some.inj ei0
  obtain ⟨i1, ei1⟩ := is_v j1
  obtain rfl : w1 = (.int i1) := Option.some.inj ei1
  obtain ⟨n, o, h1, h2, h3, _, L, rfl, ⟨rfl, N⟩, hq⟩ := c_law l s _ hw s.heap.size s.heap i0 i1 (Nat.le_refl _)  tables_1 p e ha hc hk s m _ below hf ((Spec.applies_iff_loose hf).mp happ).1 ⟨rfl, State.Warmed39.refl s, rfl⟩ trivial
  refine ⟨n, _, h1, h2, h3, hpost _ _ _ _ _ _ ⟨Cond.after_iff.mpr rfl, Cond.after_iff.mpr (eq_i res_at (Term.int_eval (1)) rfl), trivial⟩ ⟨hq.1, hq.2.1, (hq.2.2.sift fun y hy => Or.inr (N y hy)).mono (by decide) (by decide)⟩⟩
theorem main_1_1 : Claimed_1_1 := comes_1 fun _ _ _ _ _ _ h hF => ⟨h.1, hF⟩
theorem main_1_2 : Claimed_1_2 := comes_1 fun _ _ _ _ _ _ h hF => ⟨h.2.1, hF⟩
end Jvm.Pilot.@@N@@
namespace Jvm.Pilot.@@N@@
open Jvm Jvm.ClassFile Sem Op Lib Jvm.Free Jvm.Stand Jvm.Pilot.@@N@@.Jvm.D
/-! MADE BY PROGRAM (witnessworld.py) out of the Statement's table words and the real class files: 9 classes; the members and pool entries that the words name. The judged class is class 1, her method 1. -/
namespace start1
open Jvm.ClassFile
def u (s : String) : CpInfo := .utf8 (stringToUtf16 s)
/-- a pool by its gaps: so many unusable entries, then the entry; so many at the end -/
def gap : Nat → List CpInfo → List CpInfo
  | 0, r => r
  | n + 1, r => .unusable :: gap n r
def poolList (es : List (Nat × CpInfo)) (last : Nat) : List CpInfo := es.foldr (fun e r => gap e.1 (e.2 :: r)) (gap last [])
def pool (es : List (Nat × CpInfo)) (last : Nat) : Array CpInfo := ⟨poolList es last⟩
def fileOf (pool : Array CpInfo) (this : Nat) (attrs : Array Attribute := #[]) (ms : Array MethodInfo := #[]) (fl : Nat := 33) (sup : Nat := 0) (ifs : Array Nat := #[]) (fds : Array FieldInfo := #[]) : ClassFile where
  minorVersion := 0
  majorVersion := 65
  constantPool := pool
  accessFlags := fl
  thisClass := this
  superClass := sup
  interfaces := ifs
  fields := fds
  methods := ms
  attributes := attrs
def plain (name : String) (sup : Option ClassId) : Class where
  name := name
  kind := .ordinary
  loader := none
  accessFlags := 33
  super := sup
  interfaces := #[]
  cf := none
  fields := #[]
  methods := #[]
  instanceTypes := #[]
  staticTypes := #[]
  resolved := #[]
  callSites := []
  init := .initialized
  statics := none
  mirror := none

def pool0 : Array CpInfo := pool [(5, u "<init>"), (0, u "()V"), (1, .class_ 10), (1, u "java/lang/Object")] 113

def k0c0 : Code := { maxStack := 0, maxLocals := 1, code := object_method_1_code, exceptionTable := #[], attributes := #[] }
def k0m0 : Method := { name := "<init>", desc := "()V", sig := { parameters := [], returnType := none }, accessFlags := 1, code := some k0c0 }
/-- java/lang/Object -/
def k0 : Class := { plain "java/lang/Object" none with
  accessFlags := 33
  interfaces := #[]
  cf := some (fileOf pool0 8 #[] #[{ accessFlags := 1, nameIndex := 5, descriptorIndex := 6, attributes := #[] }] 33 0 #[] #[])
  fields := #[]
  methods := #[k0m0]
  instanceTypes := #[]
  staticTypes := #[]
  resolved := Array.replicate 124 none
  statics := none }

def pool1 : Array CpInfo := pool [(2, .class_ 4), (1, u "java/lang/Object"), (0, u "<init>"), (0, u "()V"), (0, .integer 2097152), (0, .integer 268435456), (0, .class_ 10), (0, u "com/example/woodlark/woodlark/io/NumberBuffer$Reader"), (0, .methodref 9 12), (0, .nameAndType 5 13), (0, u "([BI)V"), (0, .methodref 9 15), (0, .nameAndType 16 17), (0, u "next"), (0, u "()I"), (0, .methodref 9 19), (0, .nameAndType 20 21), (0, u "hasRemaining"), (0, u "()Z"), (0, .class_ 23), (0, u "com/example/woodlark/woodlark/io/ReaderNextPinLaw"), (2, u "law"), (0, u "(JI)Z")] 9

def k1m0 : Method := { name := "<init>", desc := "()V", sig := { parameters := [], returnType := none }, accessFlags := 1, code := none }
def k1c1 : Code := { maxStack := 5, maxLocals := 14, code := code, exceptionTable := #[], attributes := #[] }
def k1m1 : Method := { name := "law", desc := "(JI)Z", sig := { parameters := [.long, .int], returnType := some .boolean }, accessFlags := 9, code := some k1c1 }
/-- com/example/woodlark/woodlark/io/ReaderNextPinLaw -/
def k1 : Class := { plain "com/example/woodlark/woodlark/io/ReaderNextPinLaw" (some 0) with
  accessFlags := 49
  interfaces := #[]
  cf := some (fileOf pool1 22 #[] #[{ accessFlags := 1, nameIndex := 5, descriptorIndex := 6, attributes := #[] }, { accessFlags := 9, nameIndex := 26, descriptorIndex := 27, attributes := #[] }] 49 2 #[] #[])
  fields := #[]
  methods := #[k1m0, k1m1]
  instanceTypes := #[]
  staticTypes := #[]
  resolved := Array.replicate 37 none
  statics := none }

def pool2 : Array CpInfo := pool [(1, .methodref 2 3), (0, .class_ 4), (0, .nameAndType 5 6), (0, u "java/lang/Object"), (0, u "<init>"), (0, u "()V"), (0, .fieldref 8 9), (0, .class_ 10), (0, .nameAndType 11 12), (0, u "com/example/woodlark/woodlark/io/NumberBuffer$Reader"), (0, u "bytes"), (0, u "[B"), (0, .fieldref 8 14), (0, .nameAndType 15 16), (0, u "end"), (0, u "I"), (0, .fieldref 8 18), (0, .nameAndType 19 16), (0, u "position"), (1, .class_ 23), (1, u "com/example/woodlark/woodlark/io/NumberBuffer"), (7, .long 2147483647), (1, u "([BI)V"), (2, u "hasRemaining"), (0, u "()Z"), (1, u "()I"), (0, u "next")] 5

def k2c0 : Code := { maxStack := 2, maxLocals := 3, code := prog_29_method_1_code, exceptionTable := #[], attributes := #[] }
def k2m0 : Method := { name := "<init>", desc := "([BI)V", sig := { parameters := [(.array .byte), .int], returnType := none }, accessFlags := 0, code := some k2c0 }
def k2c1 : Code := { maxStack := 2, maxLocals := 1, code := prog_29_method_2_code, exceptionTable := #[], attributes := #[] }
def k2m1 : Method := { name := "hasRemaining", desc := "()Z", sig := { parameters := [], returnType := some .boolean }, accessFlags := 0, code := some k2c1 }
def k2c2 : Code := { maxStack := 5, maxLocals := 5, code := prog_29_method_4_code, exceptionTable := #[], attributes := #[] }
def k2m2 : Method := { name := "next", desc := "()I", sig := { parameters := [], returnType := some .int }, accessFlags := 0, code := some k2c2 }
/-- com/example/woodlark/woodlark/io/NumberBuffer$Reader -/
def k2 : Class := { plain "com/example/woodlark/woodlark/io/NumberBuffer$Reader" (some 0) with
  accessFlags := 32
  interfaces := #[]
  cf := some (fileOf pool2 8 #[.nestHost 21] #[{ accessFlags := 0, nameIndex := 5, descriptorIndex := 33, attributes := #[] }, { accessFlags := 0, nameIndex := 36, descriptorIndex := 37, attributes := #[] }, { accessFlags := 0, nameIndex := 40, descriptorIndex := 39, attributes := #[] }] 32 2 #[] #[{ accessFlags := 18, nameIndex := 11, descriptorIndex := 12, attributes := #[] }, { accessFlags := 18, nameIndex := 15, descriptorIndex := 16, attributes := #[] }, { accessFlags := 2, nameIndex := 19, descriptorIndex := 16, attributes := #[] }])
  fields := #[{ name := "bytes", type := (.array .byte), accessFlags := 18, slot := 0, constantValue := 0 }, { name := "end", type := .int, accessFlags := 18, slot := 1, constantValue := 0 }, { name := "position", type := .int, accessFlags := 2, slot := 2, constantValue := 0 }]
  methods := #[k2m0, k2m1, k2m2]
  instanceTypes := #[(.array .byte), .int, .int]
  staticTypes := #[]
  resolved := Array.replicate 46 none
  statics := none }

def pool3 : Array CpInfo := pool [(1, u "java/lang/Cloneable"), (0, .class_ 1), (0, u "java/lang/Object"), (0, .class_ 3)] 3

/-- java/lang/Cloneable -/
def k3 : Class := { plain "java/lang/Cloneable" (some 0) with
  accessFlags := 1537
  interfaces := #[]
  cf := some (fileOf pool3 2 #[] #[] 1537 4 #[] #[])
  fields := #[]
  methods := #[]
  instanceTypes := #[]
  staticTypes := #[]
  resolved := Array.replicate 8 none
  statics := none }

def pool4 : Array CpInfo := pool [(1, u "java/io/Serializable"), (0, .class_ 1), (0, u "java/lang/Object"), (0, .class_ 3)] 3

/-- java/io/Serializable -/
def k4 : Class := { plain "java/io/Serializable" (some 0) with
  accessFlags := 1537
  interfaces := #[]
  cf := some (fileOf pool4 2 #[] #[] 1537 4 #[] #[])
  fields := #[]
  methods := #[]
  instanceTypes := #[]
  staticTypes := #[]
  resolved := Array.replicate 8 none
  statics := none }

/-- the primitive byte -/
def k5 : Class := { plain "byte" none with kind := .primitive 'B', accessFlags := 0x411 }
/-- [B -/
def k6 : Class := { plain "[B" (some 0) with kind := .array 5 .byte, interfaces := #[3, 4], accessFlags := 1041 }

/-- the primitive int -/
def k7 : Class := { plain "int" none with kind := .primitive 'I', accessFlags := 0x411 }
/-- [I -/
def k8 : Class := { plain "[I" (some 0) with kind := .array 7 .int, interfaces := #[3, 4], accessFlags := 1041 }

def heap : Heap := #[]
def classes : Array Class := #[k0, k1, k2, k3, k4, k5, k6, k7, k8]
def interned : List (Array UInt16 × Addr) := []
def slotsUsed : Nat := 0
def theMethod : MethodId := ⟨1, 1⟩
def args0 : Array Value := #[.long 5, .int 7]
def aboutOver (below : List Frame) : State where
  vm := { classes := classes, interned := interned.toArray }
  heap := heap
  slotsUsed := slotsUsed
  threads := #[{ frames := .invoking theMethod args0 :: below }]
def below0 : List Frame := [.native { method := ⟨0, 0⟩, args := #[] }]
def about1 : State := aboutOver below0
def p0 : Program := .bare "" "" ""
def e0 : Env := launch0.env 0 0 0
theorem w_frames : about1.frames = Frame.invoking theMethod args0 :: below0 := rfl
set_option maxRecDepth 65536 in
theorem w_args : argsFit about1.vm theMethod args0 = true := by decide +kernel
set_option maxRecDepth 65536 in
theorem w_heap : heapFits about1 = true := by decide +kernel
set_option maxRecDepth 65536 in
theorem w_runnable : about1.curStatus? = some .runnable := by decide +kernel
set_option maxRecDepth 65536 in
theorem w_alone : about1.alone = true := by decide +kernel
set_option maxRecDepth 65536 in
theorem w_named : about1.methodNamed? x = some theMethod := by decide +kernel
set_option maxRecDepth 65536 in
theorem w_hears : about1.hears theMethod below0 = true := by decide +kernel
set_option maxRecDepth 65536 in
theorem w_ripe : about1.ripe theMethod args0 below0 = true := by decide +kernel
theorem w_running : about1.status = .running := rfl
set_option maxRecDepth 65536 in
theorem w_room : about1.hasRoom e0.platform room_1 = true :=
  launch0.hasRoom_least _ room_1 (by decide +kernel) (by decide +kernel) (by decide +kernel) (by decide +kernel) (by decide +kernel) (by decide +kernel)
theorem allAtoms_all (ts : List Jvm.Cond) (a : Array Jvm.Value) (st : Jvm.State) : (allAtoms ts).before a st = ts.all (fun c => c.before a st) := by
  induction ts with
  | nil => rfl
  | cons c t ih =>
    show (Jvm.Cond.and c (allAtoms t)).before a st = _
    rw [Jvm.Cond.before_and, ih, List.all_cons]
def words1 : List Jvm.Cond := Jvm.Cond.code x code maxLocals ret :: tables_1
/-- a 'code' word, met by the world's own term for the bytes: nothing is compared byte by byte -/
theorem code_word {y : MethodName} {bytes : ByteArray} {mx : Nat} {rt : Option FieldType} {a : Array Value} {s : State} {m : MethodId} {meth : Method} {c : Code} (h1 : s.methodNamed? y = some m) (h2 : s.vm.method? m = some meth) (h3 : meth.code = some c) (h4 : c.code = bytes)
    (h5 : (c.maxLocals == mx && c.exceptionTable.isEmpty && decide (c.maxStack ≤ mostOperands) && decide (meth.sig.returnType = rt) && !meth.locks && decide (parseMethodDescriptor y.desc = some meth.sig)) = true) : (Jvm.Cond.code y bytes mx rt).before a s = true := by
  simp only [Bool.and_eq_true, beq_iff_eq, Bool.not_eq_true', decide_eq_true_eq] at h5
  obtain ⟨⟨⟨⟨⟨g1, g2⟩, g3⟩, g4⟩, g5⟩, g6⟩ := h5
  simp [Cond.before, Cond.holds, Cond.value, h1, h2, h3, h4, g1, g2, g3, g4, g5, g6]
def isCode : Jvm.Cond → Bool
  | .code _ _ _ _ => true
  | _ => false
theorem all_split {L : List Jvm.Cond} {P : Jvm.Cond → Bool} (h1 : L.all (fun c => isCode c || P c) = true) (h2 : ∀ c ∈ L.filter isCode, P c = true) : L.all P = true := by
  refine List.all_eq_true.mpr fun c hc => ?_
  have h := List.all_eq_true.mp h1 c hc
  rcases Bool.eq_false_or_eq_true (isCode c) with hi | hi
  · exact h2 c (List.mem_filter.mpr ⟨hc, hi⟩)
  · simpa [hi] using h
set_option maxRecDepth 65536 in
theorem w_c0 : (Jvm.Cond.code x code maxLocals ret).before args0 about1 = true := code_word (m := ⟨1, 1⟩) (meth := k1m1) (c := k1c1) (by decide +kernel) rfl rfl rfl (by decide +kernel)
set_option maxRecDepth 65536 in
theorem w_c1 : (Jvm.Cond.code ({ cls := "com/example/woodlark/woodlark/io/NumberBuffer$Reader", name := "<init>", desc := "([BI)V" } : Jvm.MethodName) prog_29_method_1_code (3 : Nat) (Option.none : Option Jvm.ClassFile.FieldType)).before args0 about1 = true := code_word (m := ⟨2, 0⟩) (meth := k2m0) (c := k2c0) (by decide +kernel) rfl rfl rfl (by decide +kernel)
set_option maxRecDepth 65536 in
theorem w_c2 : (Jvm.Cond.code ({ cls := "java/lang/Object", name := "<init>", desc := "()V" } : Jvm.MethodName) object_method_1_code (1 : Nat) (Option.none : Option Jvm.ClassFile.FieldType)).before args0 about1 = true := code_word (m := ⟨0, 0⟩) (meth := k0m0) (c := k0c0) (by decide +kernel) rfl rfl rfl (by decide +kernel)
set_option maxRecDepth 65536 in
theorem w_c3 : (Jvm.Cond.code ({ cls := "com/example/woodlark/woodlark/io/NumberBuffer$Reader", name := "next", desc := "()I" } : Jvm.MethodName) prog_29_method_4_code (5 : Nat) (Option.some Jvm.ClassFile.FieldType.int)).before args0 about1 = true := code_word (m := ⟨2, 2⟩) (meth := k2m2) (c := k2c2) (by decide +kernel) rfl rfl rfl (by decide +kernel)
set_option maxRecDepth 65536 in
theorem w_c4 : (Jvm.Cond.code ({ cls := "com/example/woodlark/woodlark/io/NumberBuffer$Reader", name := "hasRemaining", desc := "()Z" } : Jvm.MethodName) prog_29_method_2_code (1 : Nat) (Option.some Jvm.ClassFile.FieldType.boolean)).before args0 about1 = true := code_word (m := ⟨2, 1⟩) (meth := k2m1) (c := k2c1) (by decide +kernel) rfl rfl rfl (by decide +kernel)
def codes1 : List Jvm.Cond := [Jvm.Cond.code x code maxLocals ret, Jvm.Cond.code ({ cls := "com/example/woodlark/woodlark/io/NumberBuffer$Reader", name := "<init>", desc := "([BI)V" } : Jvm.MethodName) prog_29_method_1_code (3 : Nat) (Option.none : Option Jvm.ClassFile.FieldType), Jvm.Cond.code ({ cls := "java/lang/Object", name := "<init>", desc := "()V" } : Jvm.MethodName) object_method_1_code (1 : Nat) (Option.none : Option Jvm.ClassFile.FieldType), Jvm.Cond.code ({ cls := "com/example/woodlark/woodlark/io/NumberBuffer$Reader", name := "next", desc := "()I" } : Jvm.MethodName) prog_29_method_4_code (5 : Nat) (Option.some Jvm.ClassFile.FieldType.int), Jvm.Cond.code ({ cls := "com/example/woodlark/woodlark/io/NumberBuffer$Reader", name := "hasRemaining", desc := "()Z" } : Jvm.MethodName) prog_29_method_2_code (1 : Nat) (Option.some Jvm.ClassFile.FieldType.boolean)]
set_option maxRecDepth 65536 in
theorem codes_eq : words1.filter isCode = codes1 := rfl
theorem w_codes : ∀ c ∈ words1.filter isCode, c.before args0 about1 = true := by
  rw [codes_eq]
  intro c hc
  simp only [codes1, List.mem_cons, List.not_mem_nil, or_false] at hc
  rcases hc with rfl | rfl | rfl | rfl | rfl
  · exact w_c0
  · exact w_c1
  · exact w_c2
  · exact w_c3
  · exact w_c4
set_option maxRecDepth 65536 in
theorem w_t1 : (words1.take 24).all (fun c => isCode c || c.before args0 about1) = true := by decide +kernel
set_option maxRecDepth 65536 in
theorem w_t2 : (words1.drop 24).all (fun c => isCode c || c.before args0 about1) = true := by decide +kernel
theorem w_tables : (allAtoms (Jvm.Cond.code x code maxLocals ret :: tables_1)).before args0 about1 = true := by
  rw [allAtoms_all]
  show words1.all (fun c => c.before args0 about1) = true
  refine all_split ?_ w_codes
  rw [← List.take_append_drop 24 words1, List.all_append, w_t1, w_t2]
  rfl
set_option maxRecDepth 65536 in
theorem w_case : (Jvm.Cond.and given_1 narrow_1).before args0 about1 = true := by decide +kernel
theorem w_applies : (headSpec (Jvm.Cond.code x code maxLocals ret :: tables_1) room_1).applies x e0.platform about1 = true :=
  (Spec.applies_iff w_frames).mpr ⟨w_running, w_runnable, w_alone, w_named, w_hears, w_ripe, w_room, w_tables⟩
theorem atStart : AtStart classFile x code maxLocals ret World_1 tables_1 room_1 Calls_1 rest_1 Pre_1 launch0 p0 e0 about1 theMethod args0 below0 :=
  ⟨lists_1, trivial, launch0.admits_env _ _ _, launch0.least_env, fairChoices_fair.cas, fairChoices_fair.clock, w_frames, w_args, w_heap, w_applies, trivial, trivial, w_case⟩
end start1
theorem witness_1 : WitnessClaimed_1 := ⟨start1.p0, start1.e0, start1.about1, start1.theMethod, start1.args0, start1.below0, start1.atStart⟩
end Jvm.Pilot.@@N@@
