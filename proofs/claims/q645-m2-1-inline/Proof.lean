import JvmDerived
import JvmDerived.Pilot.@@N@@Statement
import JvmDerived.Pilot.@@N@@Code
set_option linter.unusedVariables false
set_option linter.unusedSimpArgs false
@@BLOCK:TracedD.lean.txt@@

namespace Jvm.Pilot.@@N@@
namespace Own
open Jvm Jvm.ClassFile Sem Op Lib Bundle Jvm.Free Jvm.Stand Jvm.LawKit Jvm.RoadKit
section Own
variable {l : Launch} {Z : State} {EL : List (String × Nat)} {y : MethodName} {bytes : ByteArray} {maxL : Nat} {ret : Option FieldType} {R : Room} {B0 : Addr → Prop} {Q : Option Value → Heap → (Addr → Prop) → Prop} {p : Program} {e : Env} {s : State} {m : MethodId} {args : Array Value} {below : List Frame} {meth : Method} {c : Code} {B : Addr → Prop} {T : State} {h h' : Heap} {k n : Nat} {a0 : Array Value} {pc pc' : Nat} {ls ls' : Array Slot} {st : List Value} {a b : Addr} {ws : List Addr} {ty : FieldType} {vs : List Value}
/-! facts on arrays and Strings -/
def Ar (Z : State) (h : Heap) (a : Addr) (ty : FieldType) (vs : List Value) : Prop := ∃ c : Cell, Arr Z h a c ty ∧ c.slots.toList = vs ∧ vs.length < 2 ^ 31 ∧ ∀ v ∈ vs, fits ty v = true
theorem Ar.keep (F : Ar Z h a ty vs) (K : Keep h h' ws) (q : a ∉ ws) : Ar Z h' a ty vs := by
  obtain ⟨c, A, r⟩ := F; exact ⟨c, ⟨K.2.1 a c A.1 q, A.2⟩, r⟩
theorem Ar.lt (F : Ar Z h a ty vs) : a < h.size := by obtain ⟨c, A, -⟩ := F; exact A.lt
theorem Ar.new {kc : ClassId} {z : Int32} (A : Arr Z h a (newA kc ty z) ty) (q : ¬ z < 0) : Ar Z h a ty (List.replicate z.toNatClampNeg (defaultValue ty)) :=
  ⟨_, A, by simp [newA], by simpa using (back32 q).2, fun v hv => by rw [List.eq_of_mem_replicate hv]; cases ty <;> rfl⟩
theorem len32 {n : Nat} (h : n < 2 ^ 31) : ¬ n.toInt32 < 0 ∧ n.toInt32.toNatClampNeg = n ∧ n.toInt32.toInt = n := by
  have e3 : n.toInt32.toInt = n := len_toInt h
  have e0 : (0 : Int32).toInt = 0 := rfl
  refine ⟨by rw [Int32.lt_iff_toInt_lt, e3, e0]; omega, by simp only [Int32.toNatClampNeg, e3]; omega, e3⟩
theorem Ar.toArv {z : Int32} (F : Ar Z h a ty vs) (hz : vs.length.toInt32 = z) (d : Value) : ∃ k, Arv Z h a k ty z vs d := by
  obtain ⟨c, A, e, hl, hf⟩ := F
  subst hz
  obtain ⟨q1, q2, -⟩ := len32 hl
  have e2 : c.slots.size = vs.length := by rw [← e]; simp
  refine ⟨c.cls, c, A, rfl, by rw [e2, q2], q1, fun i hi => ?_, fun i hi => ?_⟩
  · have hi' : i < vs.length := by omega
    rw [← Array.getElem?_toList, e, List.getD_eq_getElem?_getD, List.getElem?_eq_getElem hi']; rfl
  · have hi' : i < vs.length := by omega
    rw [List.getD_eq_getElem?_getD, List.getElem?_eq_getElem hi']; exact hf _ (List.getElem_mem _)
theorem Ar.ofArv {kc : ClassId} {z : Int32} {d : Value} (F : Arv Z h a kc ty z vs d) (hl : z.toNatClampNeg = vs.length) : Ar Z h a ty vs := by
  obtain ⟨c, A, -, S, q, H, G⟩ := F
  have e2 : c.slots.size = vs.length := by rw [S, hl]
  have e3 : c.slots.toList = vs := by
    apply List.ext_getElem?
    intro i
    by_cases hi : i < vs.length
    · rw [Array.getElem?_toList, H i (by omega), List.getD_eq_getElem?_getD, List.getElem?_eq_getElem hi]; rfl
    · rw [List.getElem?_eq_none (by rw [Array.length_toList]; omega), List.getElem?_eq_none (by omega)]
  refine ⟨c, A, e3, by rw [← hl]; exact (back32 q).2, fun v hv => ?_⟩
  obtain ⟨i, hi, rfl⟩ := List.getElem_of_mem hv
  have := G i (by omega)
  rwa [List.getD_eq_getElem?_getD, List.getElem?_eq_getElem hi] at this
theorem Ar.len_lt (F : Ar Z h a ty vs) : vs.length < 2 ^ 31 := by obtain ⟨c, A, e, hl, hf⟩ := F; exact hl
theorem Ar.fit (F : Ar Z h a ty vs) : ∀ v ∈ vs, fits ty v = true := by obtain ⟨c, A, e, hl, hf⟩ := F; exact hf
abbrev ST : String := "java/lang/String"
/-- bytes of Latin-1 chars -/
abbrev by8 (cs : List Int32) : List Value := cs.map fun c => Value.int c.toInt8.toInt32
def Lat (cs : List Int32) : Prop := ∀ c ∈ cs, 0 ≤ c.toInt ∧ c.toInt ≤ 255
/-- a is a String of the Latin-1 chars cs, its bytes in b -/
def Str (Z : State) (h : Heap) (a b : Addr) (cs : List Int32) : Prop := Exa Z h a ST ∧ Fld Z h a ST "coder" "B" (.int 0) ∧ Fld Z h a ST "value" "[B" (.ref b) ∧ Ar Z h b .byte (by8 cs) ∧ Lat cs
theorem Str.keep {cs : List Int32} (F : Str Z h a b cs) (K : Keep h h' ws) (q : a ∉ ws) (q' : b ∉ ws) : Str Z h' a b cs := ⟨F.1.keep K, F.2.1.keep K q, F.2.2.1.keep K q, F.2.2.2.1.keep K q', F.2.2.2.2⟩
theorem Str.exa {cs : List Int32} (F : Str Z h a b cs) : Exa Z h a ST := F.1
theorem Str.cod {cs : List Int32} (F : Str Z h a b cs) : Fld Z h a ST "coder" "B" (.int 0) := F.2.1
theorem Str.val {cs : List Int32} (F : Str Z h a b cs) : Fld Z h a ST "value" "[B" (.ref b) := F.2.2.1
theorem Str.arr {cs : List Int32} (F : Str Z h a b cs) : Ar Z h b .byte (by8 cs) := F.2.2.2.1
theorem Str.lat {cs : List Int32} (F : Str Z h a b cs) : Lat cs := F.2.2.2.2
theorem Str.lt {cs : List Int32} (F : Str Z h a b cs) : a < h.size := F.1.lt
theorem Str.ltb {cs : List Int32} (F : Str Z h a b cs) : b < h.size := F.arr.lt
theorem Str.len_lt {cs : List Int32} (F : Str Z h a b cs) : cs.length < 2 ^ 31 := by simpa using F.arr.len_lt
theorem strc {cs ds : List Int32} (F : Str Z h a b cs) (q : cs = ds) : Str Z h a b ds := q ▸ F
theorem Ar.ext (E : Ext h h') (F : Ar Z h a ty vs) : Ar Z h' a ty vs := by obtain ⟨c, A, r⟩ := F; exact ⟨c, A.ext E, r⟩
theorem Str.ext {cs : List Int32} (E : Ext h h') (F : Str Z h a b cs) : Str Z h' a b cs := ⟨F.1.ext E, F.2.1.ext E, F.2.2.1.ext E, F.2.2.2.1.ext E, F.2.2.2.2⟩
abbrev ASB : String := "java/lang/AbstractStringBuilder"
/-- a is a StringBuilder that holds the Latin-1 chars cs, in the array v of length cap -/
def Sb (Z : State) (h : Heap) (a v : Addr) (cs : List Int32) (cap : Nat) : Prop := Exa Z h a "java/lang/StringBuilder" ∧ Fld Z h a ASB "value" "[B" (.ref v) ∧ Fld Z h a ASB "coder" "B" (.int 0) ∧ Fld Z h a ASB "count" "I" (.int cs.length.toInt32) ∧ Lat cs ∧ cs.length ≤ cap ∧ ∃ vs, Ar Z h v .byte vs ∧ vs.length = cap ∧ vs.take cs.length = by8 cs
theorem Sb.keep {v : Addr} {cs : List Int32} {cap : Nat} (F : Sb Z h a v cs cap) (K : Keep h h' ws) (q : a ∉ ws) (q' : v ∉ ws) : Sb Z h' a v cs cap := by
  obtain ⟨h1, h2, h3, h4, h5, h6, vs, h7, h8⟩ := F
  exact ⟨h1.keep K, h2.keep K q, h3.keep K q, h4.keep K q, h5, h6, vs, h7.keep K q', h8⟩
theorem Sb.exa {v : Addr} {cs : List Int32} {cap : Nat} (F : Sb Z h a v cs cap) : Exa Z h a "java/lang/StringBuilder" := F.1
theorem Sb.val {v : Addr} {cs : List Int32} {cap : Nat} (F : Sb Z h a v cs cap) : Fld Z h a ASB "value" "[B" (.ref v) := F.2.1
theorem Sb.cod {v : Addr} {cs : List Int32} {cap : Nat} (F : Sb Z h a v cs cap) : Fld Z h a ASB "coder" "B" (.int 0) := F.2.2.1
theorem Sb.cnt {v : Addr} {cs : List Int32} {cap : Nat} (F : Sb Z h a v cs cap) : Fld Z h a ASB "count" "I" (.int cs.length.toInt32) := F.2.2.2.1
theorem Sb.lat {v : Addr} {cs : List Int32} {cap : Nat} (F : Sb Z h a v cs cap) : Lat cs := F.2.2.2.2.1
theorem Sb.lt {v : Addr} {cs : List Int32} {cap : Nat} (F : Sb Z h a v cs cap) : a < h.size := F.1.lt
theorem Sb.ltb {v : Addr} {cs : List Int32} {cap : Nat} (F : Sb Z h a v cs cap) : v < h.size := by obtain ⟨h1, h2, h3, h4, h5, h6, vs, h7, h8⟩ := F; exact h7.lt
/-- the array at a takes objects of class C -/
def Tk (Z : State) (h : Heap) (a : Addr) (C : String) : Prop := ∃ (c : Cell) (ty : FieldType), Arr Z h a c ty ∧ Ovr Z c.cls C
theorem Tk.keep {C : String} (F : Tk Z h a C) (K : Keep h h' ws) : Tk Z h' a C := by
  obtain ⟨c, ty, ⟨h1, ⟨s1, k1, s2, comp, s3⟩, h3⟩, O⟩ := F
  obtain ⟨c', q1, q2, q3, q4⟩ := K.2.2 a c h1
  exact ⟨c', ty, ⟨q1, ⟨by rw [q3]; exact s1, k1, by rw [q2]; exact s2, comp, s3⟩, by rw [q3]; exact h3⟩, by rw [q2]; exact O⟩
theorem exa_ne_ar {C : String} {kI : Nat} (E : Exa Z h a C) (wi : (Jvm.Cond.instantiable C kI).before a0 Z = true) (A : Ar Z h b ty vs) : a ≠ b := by obtain ⟨c, A, -⟩ := A; exact ne_arr E wi A
theorem ar_ne {ty' : FieldType} {vs' : List Value} (A : Ar Z h a ty vs) (A' : Ar Z h b ty' vs') (ht : ty ≠ ty') : a ≠ b := fun q => by
  subst q
  obtain ⟨c, ⟨h1, ⟨-, k1, h2, c1, h3⟩, -⟩, -⟩ := A
  obtain ⟨c', ⟨g1, ⟨-, k2, g2, c2, g3⟩, -⟩, -⟩ := A'
  cases h1.symm.trans g1
  cases h2.symm.trans g2
  have := h3.symm.trans g3
  injection this with _ e
  exact ht e
theorem ltb {a b : Nat} (q : Nat.ble (a + 1) b = true) : a < b := Nat.le_of_ble_eq_true q
theorem leb {a b : Nat} (q : Nat.ble a b = true) : a ≤ b := Nat.le_of_ble_eq_true q
/-! where the walk stands -/
def En (Z : State) (B : Addr → Prop) (h : Heap) : Prop := Ext Z.heap h ∧ ∀ x, B x → x < h.size
def Wk (l : Launch) (Z : State) (EL : List (String × Nat)) (y : MethodName) (bytes : ByteArray) (maxL : Nat) (ret : Option FieldType) (R : Room) (B0 : Addr → Prop) (p : Program) (e : Env) (s : State) (m : MethodId) (args : Array Value) (below : List Frame) (meth : Method) (c : Code) (B : Addr → Prop) (T : State) (h : Heap) (k n : Nat) : Prop :=
  (p.tables.exec = Jvm.exec ∧ c.code = bytes ∧ c.maxLocals = maxL ∧ meth.sig.returnType = ret ∧ meth.locks = false ∧ meth.name = y.name ∧ ∃ a1, EW Z a1 EL) ∧
  En Z B h ∧ s.heap.size ≤ h.size ∧ (∀ x, B x → B0 x ∨ s.heap.size ≤ x) ∧
  ∃ (V : Vm) (locs : List Loc) (q : Nat), Stand p l e R (s.setVm V) m args below meth c T locs k n ∧ T.heap = h ∧ Z.Warmed39 V ∧ V.findClass y.cls = some m.cls ∧ s.Since V q ∧ q ≤ h.size ∧ Fr Z.heap.size locs ∧ CHv Z EL V h ∧ (∀ x, Bk Z EL V h x → B x)
def Go (l : Launch) (Z : State) (EL : List (String × Nat)) (R : Room) (B0 : Addr → Prop) (Q : Option Value → Heap → (Addr → Prop) → Prop) (p : Program) (e : Env) (s : State) (m : MethodId) (below : List Frame) (T : State) (pc : Nat) (ls : Array Slot) (st : List Value) : Prop :=
  ∃ s₂ o, Steps p.tables e below (T.setTop (mkF m pc ls st)) s₂ ∧ s₂.status = .running ∧ Ended s₂ below o ∧ ∃ v L B', o = .returned v ∧ Fr Z.heap.size L ∧ CHv Z EL s₂.vm s₂.heap ∧ (∀ x, Bk Z EL s₂.vm s₂.heap x → B' x) ∧ (∀ x, B' x → B0 x ∨ s.heap.size ≤ x) ∧ En Z B' s₂.heap ∧ s.heap.size ≤ s₂.heap.size ∧ Q v s₂.heap B' ∧ ReturnedEndW s o s₂ L R.cells R.slots
def Con (l : Launch) (Z : State) (EL : List (String × Nat)) (wl : List Jvm.Cond) (y : MethodName) (bytes : ByteArray) (maxL : Nat) (ret : Option FieldType) (rm : Room) (B : Addr → Prop) (h : Heap) (as' : Array Value) (Q : Option Value → Heap → (Addr → Prop) → Prop) : Prop :=
  MetFree l y (head1 (Jvm.Cond.code y bytes maxL ret :: wl) rm) (fun a U => a = as' ∧ Z.Warmed39 U.vm ∧ U.heap = h ∧ CHv Z EL U.vm h ∧ ∀ x, Bk Z EL U.vm h x → B x) (fun _ _ _ _ _ => True)
    (fun _ U o U' => ∃ v L B', o = .returned v ∧ Fr Z.heap.size L ∧ CHv Z EL U'.vm U'.heap ∧ (∀ x, Bk Z EL U'.vm U'.heap x → B' x) ∧ (∀ x, B' x → B x ∨ h.size ≤ x) ∧ En Z B' U'.heap ∧ h.size ≤ U'.heap.size ∧ Q v U'.heap B' ∧ ReturnedEndW U o U' L rm.cells rm.slots)
theorem Wk.hx (X : Wk l Z EL y bytes maxL ret R B0 p e s m args below meth c B T h k n) : p.tables.exec = Jvm.exec := X.1.1
theorem Wk.dec (X : Wk l Z EL y bytes maxL ret R B0 p e s m args below meth c B T h k n) {r : Except DecodeError (Instr × Nat)} (hd : decode bytes pc = r) : decode c.code pc = r := X.1.2.1 ▸ hd
theorem Wk.en (X : Wk l Z EL y bytes maxL ret R B0 p e s m args below meth c B T h k n) : En Z B h := X.2.1
theorem Wk.old (X : Wk l Z EL y bytes maxL ret R B0 p e s m args below meth c B T h k n) : Ext Z.heap h := X.2.1.1
theorem Wk.z0 (X : Wk l Z EL y bytes maxL ret R B0 p e s m args below meth c B T h k n) : Z.heap.size ≤ h.size := X.2.1.1.1
theorem Wk.zs (X : Wk l Z EL y bytes maxL ret R B0 p e s m args below meth c B T h k n) : s.heap.size ≤ h.size := X.2.2.1
theorem Wk.nb (X : Wk l Z EL y bytes maxL ret R B0 p e s m args below meth c B T h k n) (q : h.size ≤ a) : ¬ B a := fun r => absurd (X.2.1.2 a r) (Nat.not_lt.mpr q)
theorem Wk.here (X : Wk l Z EL y bytes maxL ret R B0 p e s m args below meth c B T h k n) : At T m c below := by obtain ⟨-, -, -, -, V, locs, q, X1, -⟩ := X; exact X1.here
theorem Wk.mono (X : Wk l Z EL y bytes maxL ret R B0 p e s m args below meth c B T h k n) {k' n' : Nat} (q : k ≤ k') (r : n ≤ n') : Wk l Z EL y bytes maxL ret R B0 p e s m args below meth c B T h k' n' := by
  obtain ⟨i, hE, hz, hB, V, locs, q0, X1, rest⟩ := X; exact ⟨i, hE, hz, hB, V, locs, q0, X1.mono q r, rest⟩
theorem Go.step {T' : State} {st' : List Value} (hst : ∀ t, Steps p.tables e below (T'.setTop (mkF m pc' ls' st')) t → Steps p.tables e below (T.setTop (mkF m pc ls st)) t) (g : Go l Z EL R B0 Q p e s m below T' pc' ls' st') : Go l Z EL R B0 Q p e s m below T pc ls st := by
  obtain ⟨s₂, o, h1, r⟩ := g
  exact ⟨s₂, o, hst _ h1, r⟩
theorem Go.via {T' : State} {st' : List Value} (hst : Steps p.tables e below (T.setTop (mkF m pc ls st)) (T'.setTop (mkF m pc' ls' st'))) (g : Go l Z EL R B0 Q p e s m below T' pc' ls' st') : Go l Z EL R B0 Q p e s m below T pc ls st := Go.step (fun _ r => hst.trans r) g
theorem gh (e1 : Go l Z EL R B0 Q p e s m below T pc ls st) (e2 : st = vs) : Go l Z EL R B0 Q p e s m below T pc ls vs := e2 ▸ e1

theorem W.iload (X : Wk l Z EL y bytes maxL ret R B0 p e s m args below meth c B T h k n) {j : Nat} {v : Int32} (hd : decode bytes pc = .ok (.iload j, 2)) (hl : ls[j]? = some (.val (.int v))) (hp : pc + 2 = pc') (g : Go l Z EL R B0 Q p e s m below T pc' ls (.int v :: st)) : Go l Z EL R B0 Q p e s m below T pc ls st := by
  subst hp; exact Go.step (fun t hr => XS.iload X.here X.hx rfl (X.dec hd) hl hr) g
theorem W.iloadN (X : Wk l Z EL y bytes maxL ret R B0 p e s m args below meth c B T h k n) {j : Fin 4} {v : Int32} (hd : decode bytes pc = .ok (.iload_n j, 1)) (hl : ls[j.val]? = some (.val (.int v))) (hp : pc + 1 = pc') (g : Go l Z EL R B0 Q p e s m below T pc' ls (.int v :: st)) : Go l Z EL R B0 Q p e s m below T pc ls st := by
  subst hp; exact Go.step (fun t hr => XS.iloadN X.here X.hx rfl (X.dec hd) hl hr) g
theorem W.istore (X : Wk l Z EL y bytes maxL ret R B0 p e s m args below meth c B T h k n) {j : Nat} {v : Int32} (hd : decode bytes pc = .ok (.istore j, 2)) (hl : storeLocals ls j (.int v) = some ls') (hp : pc + 2 = pc') (g : Go l Z EL R B0 Q p e s m below T pc' ls' st) : Go l Z EL R B0 Q p e s m below T pc ls (.int v :: st) := by
  subst hp; exact Go.step (fun t hr => XS.istore X.here X.hx rfl (X.dec hd) rfl hl hr) g
theorem W.istoreN (X : Wk l Z EL y bytes maxL ret R B0 p e s m args below meth c B T h k n) {j : Fin 4} {v : Int32} (hd : decode bytes pc = .ok (.istore_n j, 1)) (hl : storeLocals ls j.val (.int v) = some ls') (hp : pc + 1 = pc') (g : Go l Z EL R B0 Q p e s m below T pc' ls' st) : Go l Z EL R B0 Q p e s m below T pc ls (.int v :: st) := by
  subst hp; exact Go.step (fun t hr => XS.istoreN X.here X.hx rfl (X.dec hd) rfl hl hr) g
theorem W.lload (X : Wk l Z EL y bytes maxL ret R B0 p e s m args below meth c B T h k n) {j : Nat} {v : Int64} (hd : decode bytes pc = .ok (.lload j, 2)) (hl : ls[j]? = some (.val (.long v))) (hp : pc + 2 = pc') (g : Go l Z EL R B0 Q p e s m below T pc' ls (.long v :: st)) : Go l Z EL R B0 Q p e s m below T pc ls st := by
  subst hp; exact Go.step (fun t hr => XT.lload X.here X.hx rfl (X.dec hd) hl hr) g
theorem W.lloadN (X : Wk l Z EL y bytes maxL ret R B0 p e s m args below meth c B T h k n) {j : Fin 4} {v : Int64} (hd : decode bytes pc = .ok (.lload_n j, 1)) (hl : ls[j.val]? = some (.val (.long v))) (hp : pc + 1 = pc') (g : Go l Z EL R B0 Q p e s m below T pc' ls (.long v :: st)) : Go l Z EL R B0 Q p e s m below T pc ls st := by
  subst hp; exact Go.step (fun t hr => XT.lloadN X.here X.hx rfl (X.dec hd) hl hr) g
theorem W.lstore (X : Wk l Z EL y bytes maxL ret R B0 p e s m args below meth c B T h k n) {j : Nat} {v : Int64} (hd : decode bytes pc = .ok (.lstore j, 2)) (hl : storeLocals ls j (.long v) = some ls') (hp : pc + 2 = pc') (g : Go l Z EL R B0 Q p e s m below T pc' ls' st) : Go l Z EL R B0 Q p e s m below T pc ls (.long v :: st) := by
  subst hp; exact Go.step (fun t hr => XT.lstore X.here X.hx rfl (X.dec hd) rfl hl hr) g
theorem W.lstoreN (X : Wk l Z EL y bytes maxL ret R B0 p e s m args below meth c B T h k n) {j : Fin 4} {v : Int64} (hd : decode bytes pc = .ok (.lstore_n j, 1)) (hl : storeLocals ls j.val (.long v) = some ls') (hp : pc + 1 = pc') (g : Go l Z EL R B0 Q p e s m below T pc' ls' st) : Go l Z EL R B0 Q p e s m below T pc ls (.long v :: st) := by
  subst hp; exact Go.step (fun t hr => XT.lstoreN X.here X.hx rfl (X.dec hd) rfl hl hr) g
theorem W.aload (X : Wk l Z EL y bytes maxL ret R B0 p e s m args below meth c B T h k n) {j : Nat} {v : Value} (hd : decode bytes pc = .ok (.aload j, 2)) (hl : ls[j]? = some (.val v)) (hv : v.isRef = true) (hp : pc + 2 = pc') (g : Go l Z EL R B0 Q p e s m below T pc' ls (v :: st)) : Go l Z EL R B0 Q p e s m below T pc ls st := by
  subst hp; exact Go.step (fun t hr => XS.aload X.here X.hx rfl (X.dec hd) hl hv hr) g
theorem W.aloadN (X : Wk l Z EL y bytes maxL ret R B0 p e s m args below meth c B T h k n) {j : Fin 4} {v : Value} (hd : decode bytes pc = .ok (.aload_n j, 1)) (hl : ls[j.val]? = some (.val v)) (hv : v.isRef = true) (hp : pc + 1 = pc') (g : Go l Z EL R B0 Q p e s m below T pc' ls (v :: st)) : Go l Z EL R B0 Q p e s m below T pc ls st := by
  subst hp; exact Go.step (fun t hr => XS.aloadN X.here X.hx rfl (X.dec hd) hl hv hr) g
theorem W.astore (X : Wk l Z EL y bytes maxL ret R B0 p e s m args below meth c B T h k n) {j : Nat} {v : Value} (hd : decode bytes pc = .ok (.astore j, 2)) (hv : v.isRef = true) (hl : storeLocals ls j v = some ls') (hp : pc + 2 = pc') (g : Go l Z EL R B0 Q p e s m below T pc' ls' st) : Go l Z EL R B0 Q p e s m below T pc ls (v :: st) := by
  subst hp; exact Go.step (fun t hr => XS.astore X.here X.hx rfl (X.dec hd) rfl hv hl hr) g
theorem W.astoreN (X : Wk l Z EL y bytes maxL ret R B0 p e s m args below meth c B T h k n) {j : Fin 4} {v : Value} (hd : decode bytes pc = .ok (.astore_n j, 1)) (hv : v.isRef = true) (hl : storeLocals ls j.val v = some ls') (hp : pc + 1 = pc') (g : Go l Z EL R B0 Q p e s m below T pc' ls' st) : Go l Z EL R B0 Q p e s m below T pc ls (v :: st) := by
  subst hp; exact Go.step (fun t hr => XS.astoreN X.here X.hx rfl (X.dec hd) rfl hv hl hr) g
theorem W.iconst (X : Wk l Z EL y bytes maxL ret R B0 p e s m args below meth c B T h k n) {i : Int} (v : Int32) (hd : decode bytes pc = .ok (.iconst i, 1)) (hv : Int32.ofInt i = v) (hp : pc + 1 = pc') (g : Go l Z EL R B0 Q p e s m below T pc' ls (.int v :: st)) : Go l Z EL R B0 Q p e s m below T pc ls st := by
  subst hp; exact Go.step (fun t hr => XT.iconstV X.here X.hx rfl v (X.dec hd) hv hr) g
theorem W.bipush (X : Wk l Z EL y bytes maxL ret R B0 p e s m args below meth c B T h k n) {i : Int} (v : Int32) (hd : decode bytes pc = .ok (.bipush i, 2)) (hv : (Int8.ofInt i).toInt32 = v) (hp : pc + 2 = pc') (g : Go l Z EL R B0 Q p e s m below T pc' ls (.int v :: st)) : Go l Z EL R B0 Q p e s m below T pc ls st := by
  subst hp; exact Go.step (fun t hr => XT.bipushV X.here X.hx rfl v (X.dec hd) hv hr) g
theorem W.sipush (X : Wk l Z EL y bytes maxL ret R B0 p e s m args below meth c B T h k n) {i : Int} (v : Int32) (hd : decode bytes pc = .ok (.sipush i, 3)) (hv : (Int16.ofInt i).toInt32 = v) (hp : pc + 3 = pc') (g : Go l Z EL R B0 Q p e s m below T pc' ls (.int v :: st)) : Go l Z EL R B0 Q p e s m below T pc ls st := by
  subst hp; exact Go.step (fun t hr => XT.sipushV X.here X.hx rfl v (X.dec hd) hv hr) g
theorem W.lconst (X : Wk l Z EL y bytes maxL ret R B0 p e s m args below meth c B T h k n) {i : Fin 2} (v : Int64) (hd : decode bytes pc = .ok (.lconst i, 1)) (hv : Int64.ofNat i = v) (hp : pc + 1 = pc') (g : Go l Z EL R B0 Q p e s m below T pc' ls (.long v :: st)) : Go l Z EL R B0 Q p e s m below T pc ls st := by
  subst hp; exact Go.step (fun t hr => XT.lconstV X.here X.hx rfl v (X.dec hd) hv hr) g
theorem W.aconst_null (X : Wk l Z EL y bytes maxL ret R B0 p e s m args below meth c B T h k n)  (hd : decode bytes pc = .ok (.aconst_null, 1))  (hp : pc + 1 = pc') (g : Go l Z EL R B0 Q p e s m below T pc' ls (.null :: st)) : Go l Z EL R B0 Q p e s m below T pc ls st := by
  subst hp; exact Go.step (fun t hr => XS.aconstNull X.here X.hx rfl (X.dec hd) hr) g
theorem W.iadd (X : Wk l Z EL y bytes maxL ret R B0 p e s m args below meth c B T h k n) {x z : Int32} {w : Int32} (hd : decode bytes pc = .ok (.iadd, 1)) (hw : x + z = w) (hp : pc + 1 = pc') (g : Go l Z EL R B0 Q p e s m below T pc' ls (.int w :: st)) : Go l Z EL R B0 Q p e s m below T pc ls (.int z :: .int x :: st) := by
  subst hp; exact Go.step (fun t hr => by subst hw; exact XS.iadd X.here X.hx rfl (X.dec hd) rfl hr) g
theorem W.isub (X : Wk l Z EL y bytes maxL ret R B0 p e s m args below meth c B T h k n) {x z : Int32} {w : Int32} (hd : decode bytes pc = .ok (.isub, 1)) (hw : x - z = w) (hp : pc + 1 = pc') (g : Go l Z EL R B0 Q p e s m below T pc' ls (.int w :: st)) : Go l Z EL R B0 Q p e s m below T pc ls (.int z :: .int x :: st) := by
  subst hp; exact Go.step (fun t hr => by subst hw; exact XS.isub X.here X.hx rfl (X.dec hd) rfl hr) g
theorem W.iand (X : Wk l Z EL y bytes maxL ret R B0 p e s m args below meth c B T h k n) {x z : Int32} {w : Int32} (hd : decode bytes pc = .ok (.iand, 1)) (hw : x &&& z = w) (hp : pc + 1 = pc') (g : Go l Z EL R B0 Q p e s m below T pc' ls (.int w :: st)) : Go l Z EL R B0 Q p e s m below T pc ls (.int z :: .int x :: st) := by
  subst hp; exact Go.step (fun t hr => by subst hw; exact XS.iand X.here X.hx rfl (X.dec hd) rfl hr) g
theorem W.imul (X : Wk l Z EL y bytes maxL ret R B0 p e s m args below meth c B T h k n) {x z : Int32} {w : Int32} (hd : decode bytes pc = .ok (.imul, 1)) (hw : x * z = w) (hp : pc + 1 = pc') (g : Go l Z EL R B0 Q p e s m below T pc' ls (.int w :: st)) : Go l Z EL R B0 Q p e s m below T pc ls (.int z :: .int x :: st) := by
  subst hp; exact Go.step (fun t hr => by subst hw; exact XS.imul X.here X.hx rfl (X.dec hd) rfl hr) g
theorem W.ixor (X : Wk l Z EL y bytes maxL ret R B0 p e s m args below meth c B T h k n) {x z : Int32} {w : Int32} (hd : decode bytes pc = .ok (.ixor, 1)) (hw : x ^^^ z = w) (hp : pc + 1 = pc') (g : Go l Z EL R B0 Q p e s m below T pc' ls (.int w :: st)) : Go l Z EL R B0 Q p e s m below T pc ls (.int z :: .int x :: st) := by
  subst hp; exact Go.step (fun t hr => by subst hw; exact XT.ixor X.here X.hx rfl (X.dec hd) rfl hr) g
theorem W.ior (X : Wk l Z EL y bytes maxL ret R B0 p e s m args below meth c B T h k n) {x z : Int32} {w : Int32} (hd : decode bytes pc = .ok (.ior, 1)) (hw : x ||| z = w) (hp : pc + 1 = pc') (g : Go l Z EL R B0 Q p e s m below T pc' ls (.int w :: st)) : Go l Z EL R B0 Q p e s m below T pc ls (.int z :: .int x :: st) := by
  subst hp; exact Go.step (fun t hr => by subst hw; exact XT.ior X.here X.hx rfl (X.dec hd) rfl hr) g
theorem W.ishl (X : Wk l Z EL y bytes maxL ret R B0 p e s m args below meth c B T h k n) {x z : Int32} {w : Int32} (hd : decode bytes pc = .ok (.ishl, 1)) (hw : x <<< (z &&& 31) = w) (hp : pc + 1 = pc') (g : Go l Z EL R B0 Q p e s m below T pc' ls (.int w :: st)) : Go l Z EL R B0 Q p e s m below T pc ls (.int z :: .int x :: st) := by
  subst hp; exact Go.step (fun t hr => by subst hw; exact XT.ishl X.here X.hx rfl (X.dec hd) rfl hr) g
theorem W.ishr (X : Wk l Z EL y bytes maxL ret R B0 p e s m args below meth c B T h k n) {x z : Int32} {w : Int32} (hd : decode bytes pc = .ok (.ishr, 1)) (hw : x >>> (z &&& 31) = w) (hp : pc + 1 = pc') (g : Go l Z EL R B0 Q p e s m below T pc' ls (.int w :: st)) : Go l Z EL R B0 Q p e s m below T pc ls (.int z :: .int x :: st) := by
  subst hp; exact Go.step (fun t hr => by subst hw; exact XT.ishr X.here X.hx rfl (X.dec hd) rfl hr) g
theorem W.iushr (X : Wk l Z EL y bytes maxL ret R B0 p e s m args below meth c B T h k n) {x z : Int32} {w : Int32} (hd : decode bytes pc = .ok (.iushr, 1)) (hw : XT.ushr x z = w) (hp : pc + 1 = pc') (g : Go l Z EL R B0 Q p e s m below T pc' ls (.int w :: st)) : Go l Z EL R B0 Q p e s m below T pc ls (.int z :: .int x :: st) := by
  subst hp; exact Go.step (fun t hr => by subst hw; exact XT.iushr X.here X.hx rfl (X.dec hd) rfl hr) g
theorem W.idiv (X : Wk l Z EL y bytes maxL ret R B0 p e s m args below meth c B T h k n) {x z : Int32} {w : Int32} (hd : decode bytes pc = .ok (.idiv, 1)) (hz : z ≠ 0) (hw : x / z = w) (hp : pc + 1 = pc') (g : Go l Z EL R B0 Q p e s m below T pc' ls (.int w :: st)) : Go l Z EL R B0 Q p e s m below T pc ls (.int z :: .int x :: st) := by
  subst hp; exact Go.step (fun t hr => by subst hw; exact XS.idiv X.here X.hx rfl (X.dec hd) rfl hz hr) g
theorem W.irem (X : Wk l Z EL y bytes maxL ret R B0 p e s m args below meth c B T h k n) {x z : Int32} {w : Int32} (hd : decode bytes pc = .ok (.irem, 1)) (hz : z ≠ 0) (hw : x % z = w) (hp : pc + 1 = pc') (g : Go l Z EL R B0 Q p e s m below T pc' ls (.int w :: st)) : Go l Z EL R B0 Q p e s m below T pc ls (.int z :: .int x :: st) := by
  subst hp; exact Go.step (fun t hr => by subst hw; exact XS.irem X.here X.hx rfl (X.dec hd) rfl hz (by rw [Jvm.irem_eq_mod]; exact hr)) g
theorem W.ineg (X : Wk l Z EL y bytes maxL ret R B0 p e s m args below meth c B T h k n) {x : Int32} {w : Int32} (hd : decode bytes pc = .ok (.ineg, 1)) (hw : -x = w) (hp : pc + 1 = pc') (g : Go l Z EL R B0 Q p e s m below T pc' ls (.int w :: st)) : Go l Z EL R B0 Q p e s m below T pc ls (.int x :: st) := by
  subst hp; exact Go.step (fun t hr => by subst hw; exact XS.ineg X.here X.hx rfl (X.dec hd) rfl hr) g
theorem W.ladd (X : Wk l Z EL y bytes maxL ret R B0 p e s m args below meth c B T h k n) {x z : Int64} {w : Int64} (hd : decode bytes pc = .ok (.ladd, 1)) (hw : x + z = w) (hp : pc + 1 = pc') (g : Go l Z EL R B0 Q p e s m below T pc' ls (.long w :: st)) : Go l Z EL R B0 Q p e s m below T pc ls (.long z :: .long x :: st) := by
  subst hp; exact Go.step (fun t hr => by subst hw; exact XT.ladd X.here X.hx rfl (X.dec hd) rfl hr) g
theorem W.lsub (X : Wk l Z EL y bytes maxL ret R B0 p e s m args below meth c B T h k n) {x z : Int64} {w : Int64} (hd : decode bytes pc = .ok (.lsub, 1)) (hw : x - z = w) (hp : pc + 1 = pc') (g : Go l Z EL R B0 Q p e s m below T pc' ls (.long w :: st)) : Go l Z EL R B0 Q p e s m below T pc ls (.long z :: .long x :: st) := by
  subst hp; exact Go.step (fun t hr => by subst hw; exact XT.lsub X.here X.hx rfl (X.dec hd) rfl hr) g
theorem W.land (X : Wk l Z EL y bytes maxL ret R B0 p e s m args below meth c B T h k n) {x z : Int64} {w : Int64} (hd : decode bytes pc = .ok (.land, 1)) (hw : x &&& z = w) (hp : pc + 1 = pc') (g : Go l Z EL R B0 Q p e s m below T pc' ls (.long w :: st)) : Go l Z EL R B0 Q p e s m below T pc ls (.long z :: .long x :: st) := by
  subst hp; exact Go.step (fun t hr => by subst hw; exact XT.land X.here X.hx rfl (X.dec hd) rfl hr) g
theorem W.lmul (X : Wk l Z EL y bytes maxL ret R B0 p e s m args below meth c B T h k n) {x z : Int64} {w : Int64} (hd : decode bytes pc = .ok (.lmul, 1)) (hw : x * z = w) (hp : pc + 1 = pc') (g : Go l Z EL R B0 Q p e s m below T pc' ls (.long w :: st)) : Go l Z EL R B0 Q p e s m below T pc ls (.long z :: .long x :: st) := by
  subst hp; exact Go.step (fun t hr => by subst hw; exact XT.lmul X.here X.hx rfl (X.dec hd) rfl hr) g
theorem W.lor (X : Wk l Z EL y bytes maxL ret R B0 p e s m args below meth c B T h k n) {x z : Int64} {w : Int64} (hd : decode bytes pc = .ok (.lor, 1)) (hw : x ||| z = w) (hp : pc + 1 = pc') (g : Go l Z EL R B0 Q p e s m below T pc' ls (.long w :: st)) : Go l Z EL R B0 Q p e s m below T pc ls (.long z :: .long x :: st) := by
  subst hp; exact Go.step (fun t hr => by subst hw; exact XT.lor X.here X.hx rfl (X.dec hd) rfl hr) g
theorem W.ldiv (X : Wk l Z EL y bytes maxL ret R B0 p e s m args below meth c B T h k n) {x z : Int64} {w : Int64} (hd : decode bytes pc = .ok (.ldiv, 1)) (hz : z ≠ 0) (hw : x / z = w) (hp : pc + 1 = pc') (g : Go l Z EL R B0 Q p e s m below T pc' ls (.long w :: st)) : Go l Z EL R B0 Q p e s m below T pc ls (.long z :: .long x :: st) := by
  subst hp; exact Go.step (fun t hr => by subst hw; exact XT.ldiv X.here X.hx rfl (X.dec hd) rfl hz hr) g
theorem W.lrem (X : Wk l Z EL y bytes maxL ret R B0 p e s m args below meth c B T h k n) {x z : Int64} {w : Int64} (hd : decode bytes pc = .ok (.lrem, 1)) (hz : z ≠ 0) (hw : x - (x / z) * z = w) (hp : pc + 1 = pc') (g : Go l Z EL R B0 Q p e s m below T pc' ls (.long w :: st)) : Go l Z EL R B0 Q p e s m below T pc ls (.long z :: .long x :: st) := by
  subst hp; exact Go.step (fun t hr => by subst hw; exact XT.lrem X.here X.hx rfl (X.dec hd) rfl hz hr) g
theorem W.lneg (X : Wk l Z EL y bytes maxL ret R B0 p e s m args below meth c B T h k n) {x : Int64} {w : Int64} (hd : decode bytes pc = .ok (.lneg, 1)) (hw : -x = w) (hp : pc + 1 = pc') (g : Go l Z EL R B0 Q p e s m below T pc' ls (.long w :: st)) : Go l Z EL R B0 Q p e s m below T pc ls (.long x :: st) := by
  subst hp; exact Go.step (fun t hr => by subst hw; exact XT.lneg X.here X.hx rfl (X.dec hd) rfl hr) g
theorem W.lushr (X : Wk l Z EL y bytes maxL ret R B0 p e s m args below meth c B T h k n) {x : Int64} {z : Int32} {w : Int64} (hd : decode bytes pc = .ok (.lushr, 1)) (hw : XT.ushrL x z = w) (hp : pc + 1 = pc') (g : Go l Z EL R B0 Q p e s m below T pc' ls (.long w :: st)) : Go l Z EL R B0 Q p e s m below T pc ls (.int z :: .long x :: st) := by
  subst hp; exact Go.step (fun t hr => by subst hw; exact XT.lushr X.here X.hx rfl (X.dec hd) rfl hr) g
theorem W.lcmp (X : Wk l Z EL y bytes maxL ret R B0 p e s m args below meth c B T h k n) {x z : Int64} {w : Int32} (hd : decode bytes pc = .ok (.lcmp, 1)) (hw : XT.cmpL x z = w) (hp : pc + 1 = pc') (g : Go l Z EL R B0 Q p e s m below T pc' ls (.int w :: st)) : Go l Z EL R B0 Q p e s m below T pc ls (.long z :: .long x :: st) := by
  subst hp; exact Go.step (fun t hr => by subst hw; exact XT.lcmp X.here X.hx rfl (X.dec hd) rfl hr) g
theorem W.i2l (X : Wk l Z EL y bytes maxL ret R B0 p e s m args below meth c B T h k n) {x : Int32} {w : Int64} (hd : decode bytes pc = .ok (.i2l, 1)) (hw : x.toInt64 = w) (hp : pc + 1 = pc') (g : Go l Z EL R B0 Q p e s m below T pc' ls (.long w :: st)) : Go l Z EL R B0 Q p e s m below T pc ls (.int x :: st) := by
  subst hp; exact Go.step (fun t hr => by subst hw; exact XT.i2l X.here X.hx rfl (X.dec hd) rfl hr) g
theorem W.l2i (X : Wk l Z EL y bytes maxL ret R B0 p e s m args below meth c B T h k n) {x : Int64} {w : Int32} (hd : decode bytes pc = .ok (.l2i, 1)) (hw : x.toInt32 = w) (hp : pc + 1 = pc') (g : Go l Z EL R B0 Q p e s m below T pc' ls (.int w :: st)) : Go l Z EL R B0 Q p e s m below T pc ls (.long x :: st) := by
  subst hp; exact Go.step (fun t hr => by subst hw; exact XT.l2i X.here X.hx rfl (X.dec hd) rfl hr) g
theorem W.i2b (X : Wk l Z EL y bytes maxL ret R B0 p e s m args below meth c B T h k n) {x : Int32} {w : Int32} (hd : decode bytes pc = .ok (.i2b, 1)) (hw : x.toInt8.toInt32 = w) (hp : pc + 1 = pc') (g : Go l Z EL R B0 Q p e s m below T pc' ls (.int w :: st)) : Go l Z EL R B0 Q p e s m below T pc ls (.int x :: st) := by
  subst hp; exact Go.step (fun t hr => by subst hw; exact XT.i2b X.here X.hx rfl (X.dec hd) rfl hr) g
theorem W.i2c (X : Wk l Z EL y bytes maxL ret R B0 p e s m args below meth c B T h k n) {x : Int32} {w : Int32} (hd : decode bytes pc = .ok (.i2c, 1)) (hw : x.toUInt32.toUInt16.toUInt32.toInt32 = w) (hp : pc + 1 = pc') (g : Go l Z EL R B0 Q p e s m below T pc' ls (.int w :: st)) : Go l Z EL R B0 Q p e s m below T pc ls (.int x :: st) := by
  subst hp; exact Go.step (fun t hr => by subst hw; exact XT.i2c X.here X.hx rfl (X.dec hd) rfl hr) g
theorem W.iinc (X : Wk l Z EL y bytes maxL ret R B0 p e s m args below meth c B T h k n) {j : Nat} {cst : Int} {x : Int32} (v : Int32) {w : Int32} (hd : decode bytes pc = .ok (.iinc j cst, 3)) (hv : Int32.ofInt cst = v) (hl : ls[j]? = some (.val (.int x))) (hw : x + v = w) (hl' : storeLocals ls j (.int w) = some ls') (hp : pc + 3 = pc') (g : Go l Z EL R B0 Q p e s m below T pc' ls' st) : Go l Z EL R B0 Q p e s m below T pc ls st := by
  subst hp; exact Go.step (fun t hr => by subst hw; exact XT.iincV X.here X.hx rfl v (X.dec hd) hv hl hl' hr) g
theorem W.popV (X : Wk l Z EL y bytes maxL ret R B0 p e s m args below meth c B T h k n) {v : Value} (hd : decode bytes pc = .ok (.pop, 1)) (hc : v.category = 1) (hp : pc + 1 = pc') (g : Go l Z EL R B0 Q p e s m below T pc' ls st) : Go l Z EL R B0 Q p e s m below T pc ls (v :: st) := by
  subst hp; exact Go.step (fun t hr => XT.pop X.here X.hx rfl (X.dec hd) rfl hc hr) g
theorem W.dup (X : Wk l Z EL y bytes maxL ret R B0 p e s m args below meth c B T h k n) {v : Value} (hd : decode bytes pc = .ok (.dup, 1)) (hc : v.category = 1) (hp : pc + 1 = pc') (g : Go l Z EL R B0 Q p e s m below T pc' ls (v :: v :: st)) : Go l Z EL R B0 Q p e s m below T pc ls (v :: st) := by
  subst hp; exact Go.step (fun t hr => XS.dup X.here X.hx rfl (X.dec hd) rfl hc hr) g
theorem W.dup_x1 (X : Wk l Z EL y bytes maxL ret R B0 p e s m args below meth c B T h k n) {v w : Value} (hd : decode bytes pc = .ok (.dup_x1, 1)) (hc : v.category = 1) (hc' : w.category = 1) (hp : pc + 1 = pc') (g : Go l Z EL R B0 Q p e s m below T pc' ls (v :: w :: v :: st)) : Go l Z EL R B0 Q p e s m below T pc ls (v :: w :: st) := by
  subst hp; exact Go.step (fun t hr => XT.dupX1 X.here X.hx rfl (X.dec hd) rfl hc hc' hr) g
theorem W.dup2 (X : Wk l Z EL y bytes maxL ret R B0 p e s m args below meth c B T h k n) {v w : Value} (hd : decode bytes pc = .ok (.dup2, 1)) (hc : v.category = 1) (hc' : w.category = 1) (hp : pc + 1 = pc') (g : Go l Z EL R B0 Q p e s m below T pc' ls (v :: w :: v :: w :: st)) : Go l Z EL R B0 Q p e s m below T pc ls (v :: w :: st) := by
  subst hp; exact Go.step (fun t hr => XT.dup2 X.here X.hx rfl (X.dec hd) rfl hc hc' hr) g
theorem W.dup2L (X : Wk l Z EL y bytes maxL ret R B0 p e s m args below meth c B T h k n) {v : Int64} (hd : decode bytes pc = .ok (.dup2, 1))  (hp : pc + 1 = pc') (g : Go l Z EL R B0 Q p e s m below T pc' ls (.long v :: .long v :: st)) : Go l Z EL R B0 Q p e s m below T pc ls (.long v :: st) := by
  subst hp; exact Go.step (fun t hr => XT.dup2L X.here X.hx rfl (X.dec hd) rfl hr) g
theorem W.goto (X : Wk l Z EL y bytes maxL ret R B0 p e s m args below meth c B T h k n)  {o : Int} (hd : decode bytes pc = .ok (.goto o, 3))  (ho : 0 ≤ (pc : Int) + o) (hp : ((pc : Int) + o).toNat = pc') (g : Go l Z EL R B0 Q p e s m below T pc' ls st) : Go l Z EL R B0 Q p e s m below T pc ls st :=
  Go.step (fun t hr => XS.goto X.here X.hx rfl rfl (X.dec hd) ho hp hr) g
theorem W.ifT (X : Wk l Z EL y bytes maxL ret R B0 p e s m args below meth c B T h k n) {cd : ClassFile.Cond} {x : Int32} {o : Int} (hd : decode bytes pc = .ok (.ifCond cd o, 3)) (hc : ifCond.holds cd x = true) (ho : 0 ≤ (pc : Int) + o) (hp : ((pc : Int) + o).toNat = pc') (g : Go l Z EL R B0 Q p e s m below T pc' ls st) : Go l Z EL R B0 Q p e s m below T pc ls (.int x :: st) :=
  Go.step (fun t hr => XS.ifYes X.here X.hx rfl rfl (X.dec hd) rfl hc ho hp hr) g
theorem W.ifF (X : Wk l Z EL y bytes maxL ret R B0 p e s m args below meth c B T h k n) {cd : ClassFile.Cond} {o : Int} {x : Int32} (hd : decode bytes pc = .ok (.ifCond cd o, 3)) (hc : ifCond.holds cd x = false) (hp : pc + 3 = pc') (g : Go l Z EL R B0 Q p e s m below T pc' ls st) : Go l Z EL R B0 Q p e s m below T pc ls (.int x :: st) := by
  subst hp; exact Go.step (fun t hr => XS.ifNo X.here X.hx rfl (X.dec hd) rfl hc hr) g
theorem W.icT (X : Wk l Z EL y bytes maxL ret R B0 p e s m args below meth c B T h k n) {cd : ClassFile.Cond} {x z : Int32} {o : Int} (hd : decode bytes pc = .ok (.if_icmp cd o, 3)) (hc : if_icmp.holds cd x z = true) (ho : 0 ≤ (pc : Int) + o) (hp : ((pc : Int) + o).toNat = pc') (g : Go l Z EL R B0 Q p e s m below T pc' ls st) : Go l Z EL R B0 Q p e s m below T pc ls (.int z :: .int x :: st) :=
  Go.step (fun t hr => XS.icmpYes X.here X.hx rfl rfl (X.dec hd) rfl hc ho hp hr) g
theorem W.icF (X : Wk l Z EL y bytes maxL ret R B0 p e s m args below meth c B T h k n) {cd : ClassFile.Cond} {o : Int} {x z : Int32} (hd : decode bytes pc = .ok (.if_icmp cd o, 3)) (hc : if_icmp.holds cd x z = false) (hp : pc + 3 = pc') (g : Go l Z EL R B0 Q p e s m below T pc' ls st) : Go l Z EL R B0 Q p e s m below T pc ls (.int z :: .int x :: st) := by
  subst hp; exact Go.step (fun t hr => XS.icmpNo X.here X.hx rfl (X.dec hd) rfl hc hr) g
theorem W.acT (X : Wk l Z EL y bytes maxL ret R B0 p e s m args below meth c B T h k n) {cd : ClassFile.ACond} {x z : Value} {o : Int} (hd : decode bytes pc = .ok (.if_acmp cd o, 3)) (h1 : x.isRef = true) (h2 : z.isRef = true) (hc : XT.acmp cd x z = true) (ho : 0 ≤ (pc : Int) + o) (hp : ((pc : Int) + o).toNat = pc') (g : Go l Z EL R B0 Q p e s m below T pc' ls st) : Go l Z EL R B0 Q p e s m below T pc ls (z :: x :: st) :=
  Go.step (fun t hr => XT.acmpYes X.here X.hx rfl rfl (X.dec hd) rfl h1 h2 hc ho hp hr) g
theorem W.acF (X : Wk l Z EL y bytes maxL ret R B0 p e s m args below meth c B T h k n) {cd : ClassFile.ACond} {o : Int} {x z : Value} (hd : decode bytes pc = .ok (.if_acmp cd o, 3)) (h1 : x.isRef = true) (h2 : z.isRef = true) (hc : XT.acmp cd x z = false) (hp : pc + 3 = pc') (g : Go l Z EL R B0 Q p e s m below T pc' ls st) : Go l Z EL R B0 Q p e s m below T pc ls (z :: x :: st) := by
  subst hp; exact Go.step (fun t hr => XT.acmpNo X.here X.hx rfl (X.dec hd) rfl h1 h2 hc hr) g
theorem W.nullT (X : Wk l Z EL y bytes maxL ret R B0 p e s m args below meth c B T h k n)  {o : Int} (hd : decode bytes pc = .ok (.ifnull o, 3))  (ho : 0 ≤ (pc : Int) + o) (hp : ((pc : Int) + o).toNat = pc') (g : Go l Z EL R B0 Q p e s m below T pc' ls st) : Go l Z EL R B0 Q p e s m below T pc ls (.null :: st) :=
  Go.step (fun t hr => XS.ifnullYes X.here X.hx rfl rfl (X.dec hd) rfl ho hp hr) g
theorem W.nullF (X : Wk l Z EL y bytes maxL ret R B0 p e s m args below meth c B T h k n) {o : Int} {r : Addr} (hd : decode bytes pc = .ok (.ifnull o, 3))  (hp : pc + 3 = pc') (g : Go l Z EL R B0 Q p e s m below T pc' ls st) : Go l Z EL R B0 Q p e s m below T pc ls (.ref r :: st) := by
  subst hp; exact Go.step (fun t hr => XS.ifnullNo X.here X.hx rfl (X.dec hd) rfl hr) g
theorem W.nonnullT (X : Wk l Z EL y bytes maxL ret R B0 p e s m args below meth c B T h k n) {r : Addr} {o : Int} (hd : decode bytes pc = .ok (.ifnonnull o, 3))  (ho : 0 ≤ (pc : Int) + o) (hp : ((pc : Int) + o).toNat = pc') (g : Go l Z EL R B0 Q p e s m below T pc' ls st) : Go l Z EL R B0 Q p e s m below T pc ls (.ref r :: st) :=
  Go.step (fun t hr => XT.ifnonnullYes X.here X.hx rfl rfl (X.dec hd) rfl ho hp hr) g
theorem W.nonnullF (X : Wk l Z EL y bytes maxL ret R B0 p e s m args below meth c B T h k n) {o : Int} (hd : decode bytes pc = .ok (.ifnonnull o, 3))  (hp : pc + 3 = pc') (g : Go l Z EL R B0 Q p e s m below T pc' ls st) : Go l Z EL R B0 Q p e s m below T pc ls (.null :: st) := by
  subst hp; exact Go.step (fun t hr => XT.ifnonnullNo X.here X.hx rfl (X.dec hd) rfl hr) g
theorem W.tsw (X : Wk l Z EL y bytes maxL ret R B0 p e s m args below meth c B T h k n) {dflt low high : Int} {offs : Array Int} {len : Nat} {o : Int} {i : Int32} (hd : decode bytes pc = .ok (.tableswitch dflt low high offs, len)) (hin : ¬ (i.toInt < low ∨ i.toInt > high)) (hoff : offs[(i.toInt - low).toNat]? = some o) (ho : 0 ≤ (pc : Int) + o) (hp : ((pc : Int) + o).toNat = pc') (g : Go l Z EL R B0 Q p e s m below T pc' ls st) : Go l Z EL R B0 Q p e s m below T pc ls (.int i :: st) :=
  Go.step (fun t hr => XS.tswIn X.here X.hx rfl rfl (X.dec hd) rfl hin hoff ho hp hr) g
theorem W.ldcI (X : Wk l Z EL y bytes maxL ret R B0 p e s m args below meth c B T h k n) {index : Nat} {v : Int32} (w : (Jvm.Cond.constant y.cls index v).before a0 Z = true) (hd : decode bytes pc = .ok (.ldc index, 2)) (hp : pc + 2 = pc') (g : Go l Z EL R B0 Q p e s m below T pc' ls (.int v :: st)) : Go l Z EL R B0 Q p e s m below T pc ls st := by
  obtain ⟨i0, hE, hz, hB, V, locs, q0, X1, eT, hZ, hown, hS, hq, hF, hC, hK⟩ := X
  subst hp
  exact Go.step (fun t hr => Jvm.Stand.ldcI (g := mkF m pc ls st) X1 i0.1 hown (mv (s := s.setVm V) hZ w) rfl (i0.2.1 ▸ hd) hr) g
theorem W.ldcJ (X : Wk l Z EL y bytes maxL ret R B0 p e s m args below meth c B T h k n) {index : Nat} {v : Int64} (w : (Jvm.Cond.constantLong y.cls index v).before a0 Z = true) (hd : decode bytes pc = .ok (.ldc2_w index, 3)) (hp : pc + 3 = pc') (g : Go l Z EL R B0 Q p e s m below T pc' ls (.long v :: st)) : Go l Z EL R B0 Q p e s m below T pc ls st := by
  obtain ⟨i0, hE, hz, hB, V, locs, q0, X1, eT, hZ, hown, hS, hq, hF, hC, hK⟩ := X
  subst hp
  exact Go.step (fun t hr => Jvm.Stand.ldc2J (g := mkF m pc ls st) X1 i0.1 hown (mv (s := s.setVm V) hZ w) rfl (i0.2.1 ▸ hd) hr) g
theorem W.getF (X : Wk l Z EL y bytes maxL ret R B0 p e s m args below meth c B T h k n) {index : Nat} {R0 O nm d : String} {v : Value} (w : (Jvm.Cond.fieldLink y.cls index R0 nm d).before a0 Z = true) (via : Via Z R0 O nm d) (F : Fld Z h a O nm d v) (hd : decode bytes pc = .ok (.getfield index, 3)) (hp : pc + 3 = pc') (g : ∀ T', Wk l Z EL y bytes maxL ret R B0 p e s m args below meth c B T' h k n → Go l Z EL R B0 Q p e s m below T' pc' ls (v :: st)) : Go l Z EL R B0 Q p e s m below T pc ls (.ref a :: st) := by
  obtain ⟨i0, hE, hz, hB, V, locs, q0, X1, eT, hZ, hown, hS, hq, hF, hC, hK⟩ := X
  obtain ⟨T', X', e', st'⟩ := RoadKit.getF X1 i0.1 hZ hown (host := "") (Or.inl w) via eT F (g := mkF m pc ls (.ref a :: st)) rfl rfl (i0.2.1 ▸ hd)
  subst hp
  exact Go.step st' (g T' ⟨i0, hE, hz, hB, V, locs, q0, X', e', hZ, hown, hS, hq, hF, hC, hK⟩)
theorem W.getS (X : Wk l Z EL y bytes maxL ret R B0 p e s m args below meth c B T h k n) {index : Nat} {R0 O nm d host : String} {v : Value} (w : (Jvm.Cond.fieldLink y.cls index R0 nm d).before a0 Z = true ∨ (Jvm.Cond.fieldLinkNest y.cls index R0 nm d host).before a0 Z = true) (via : Via Z R0 O nm d) (F : Sta Z Z.heap O nm d v) (hd : decode bytes pc = .ok (.getstatic index, 3)) (hp : pc + 3 = pc') (g : ∀ T', Wk l Z EL y bytes maxL ret R B0 p e s m args below meth c B T' h k n → Go l Z EL R B0 Q p e s m below T' pc' ls (v :: st)) : Go l Z EL R B0 Q p e s m below T pc ls st := by
  obtain ⟨i0, hE, hz, hB, V, locs, q0, X1, eT, hZ, hown, hS, hq, hF, hC, hK⟩ := X
  obtain ⟨T', X', e', st'⟩ := RoadKit.getS2 X1 i0.1 hZ hown w via eT (F.ext hE.1) (g := mkF m pc ls st) rfl (i0.2.1 ▸ hd)
  subst hp
  exact Go.step st' (g T' ⟨i0, hE, hz, hB, V, locs, q0, X', e', hZ, hown, hS, hq, hF, hC, hK⟩)
theorem En.wr {sl : Nat} {v : Value} (E : En Z B h) (W : Wr h h' a sl v) (q : Z.heap.size ≤ a) : En Z B h' := ⟨(Old.wr (n0 := Z.heap.size) ⟨rfl, E.1⟩ W q).2, fun x r => by rw [W.size]; exact E.2 x r⟩
theorem W.putF (X : Wk l Z EL y bytes maxL ret R B0 p e s m args below meth c B T h k n) {index kk : Nat} {R0 O nm d C : String} {v old : Value} {ty : FieldType} (w : (Jvm.Cond.fieldLink y.cls index R0 nm d).before a0 Z = true) (via : Via Z R0 O nm d) (F : Fld Z h a O nm d old) (E : Exa Z h a C) (L : (Jvm.Cond.lays C O nm d).before a0 Z = true ∨ ((Jvm.Cond.laysFinal C O nm d).before a0 Z = true ∧ y.cls = O ∧ y.name = "<init>")) (wi : (Jvm.Cond.instantiable C kk).before a0 Z = true)
    (hty : parseFieldDescriptor d = some ty) (hn : narrow ty v = v) (hf : fits ty v = true) (ha : Z.heap.size ≤ a) (hnb : ¬ B a) (hd : decode bytes pc = .ok (.putfield index, 3)) (hp : pc + 3 = pc') (g : ∀ T' h', Wk l Z EL y bytes maxL ret R B0 p e s m args below meth c B T' h' k n → Wr h h' a (RoadKit.slotOf Z O nm d) v → Go l Z EL R B0 Q p e s m below T' pc' ls st) : Go l Z EL R B0 Q p e s m below T pc ls (v :: .ref a :: st) := by
  obtain ⟨i0, hE, hz, hB, V, locs, q0, X1, eT, hZ, hown, hS, hq, hF, hC, hK⟩ := X
  obtain ⟨T', h', X', e', W, st'⟩ := RoadKit.putF X1 i0.1 hZ hown (host := "") (Or.inl w) via eT F E (L.imp id fun q => ⟨q.1, q.2.1, i0.2.2.2.2.2.1.trans q.2.2⟩) wi hty hn hf (g := mkF m pc ls (v :: .ref a :: st)) rfl rfl (i0.2.1 ▸ hd)
  subst hp
  have S : Safe Z EL V h a := fun r => hnb (hK a r)
  exact Go.step st' (g T' h' ⟨i0, hE.wr W ha, by rw [W.size]; exact hz, hB, V, _, q0, X', e', hZ, hown, hS, by rw [W.size]; exact hq, Fr.snoc X' hF ha, hC.wr W S, fun x r => hK x ((hC.wrStep W S).2 x r)⟩ W)
theorem W.cast (X : Wk l Z EL y bytes maxL ret R B0 p e s m args below meth c B T h k n) {index : Nat} {K : String} (w : (Jvm.Cond.classLink y.cls index K).before a0 Z = true) (F : Ins Z h a K true) (hd : decode bytes pc = .ok (.checkcast index, 3)) (hp : pc + 3 = pc') (g : ∀ T', Wk l Z EL y bytes maxL ret R B0 p e s m args below meth c B T' h k n → Go l Z EL R B0 Q p e s m below T' pc' ls (.ref a :: st)) : Go l Z EL R B0 Q p e s m below T pc ls (.ref a :: st) := by
  obtain ⟨i0, hE, hz, hB, V, locs, q0, X1, eT, hZ, hown, hS, hq, hF, hC, hK⟩ := X
  obtain ⟨T', X', e', st'⟩ := RoadKit.castY X1 i0.1 hZ hown w eT F (g := mkF m pc ls (.ref a :: st)) rfl rfl (i0.2.1 ▸ hd)
  subst hp
  exact Go.step st' (g T' ⟨i0, hE, hz, hB, V, locs, q0, X', e', hZ, hown, hS, hq, hF, hC, hK⟩)
theorem W.instY (X : Wk l Z EL y bytes maxL ret R B0 p e s m args below meth c B T h k n) {index : Nat} {K : String} (w : (Jvm.Cond.classLink y.cls index K).before a0 Z = true) (F : Ins Z h a K true) (hd : decode bytes pc = .ok (.instanceof index, 3)) (hp : pc + 3 = pc') (g : ∀ T', Wk l Z EL y bytes maxL ret R B0 p e s m args below meth c B T' h k n → Go l Z EL R B0 Q p e s m below T' pc' ls (.int 1 :: st)) : Go l Z EL R B0 Q p e s m below T pc ls (.ref a :: st) := by
  obtain ⟨i0, hE, hz, hB, V, locs, q0, X1, eT, hZ, hown, hS, hq, hF, hC, hK⟩ := X
  obtain ⟨T', X', e', st'⟩ := RoadKit.instY X1 i0.1 hZ hown w eT F (g := mkF m pc ls (.ref a :: st)) rfl rfl (i0.2.1 ▸ hd)
  subst hp
  exact Go.step st' (g T' ⟨i0, hE, hz, hB, V, locs, q0, X', e', hZ, hown, hS, hq, hF, hC, hK⟩)
theorem W.instN (X : Wk l Z EL y bytes maxL ret R B0 p e s m args below meth c B T h k n) {index : Nat} {K C : String} (w : (Jvm.Cond.classLink y.cls index K).before a0 Z = true) (E : Exa Z h a C) (F : ∃ c t, Z.vm.findClass C = some c ∧ Z.vm.findClass K = some t ∧ Z.vm.assignable c t = false) (hd : decode bytes pc = .ok (.instanceof index, 3)) (hp : pc + 3 = pc') (g : ∀ T', Wk l Z EL y bytes maxL ret R B0 p e s m args below meth c B T' h k n → Go l Z EL R B0 Q p e s m below T' pc' ls (.int 0 :: st)) : Go l Z EL R B0 Q p e s m below T pc ls (.ref a :: st) := by
  obtain ⟨i0, hE, hz, hB, V, locs, q0, X1, eT, hZ, hown, hS, hq, hF, hC, hK⟩ := X
  obtain ⟨T', X', e', st'⟩ := RoadKit.instNo X1 i0.1 hZ hown w eT E F (g := mkF m pc ls (.ref a :: st)) rfl rfl (i0.2.1 ▸ hd)
  subst hp
  exact Go.step st' (g T' ⟨i0, hE, hz, hB, V, locs, q0, X', e', hZ, hown, hS, hq, hF, hC, hK⟩)
theorem W.instNull (X : Wk l Z EL y bytes maxL ret R B0 p e s m args below meth c B T h k n) {index : Nat} (hd : decode bytes pc = .ok (.instanceof index, 3)) (hp : pc + 3 = pc') (g : Go l Z EL R B0 Q p e s m below T pc' ls (.int 0 :: st)) : Go l Z EL R B0 Q p e s m below T pc ls (.null :: st) := by
  obtain ⟨i0, hE, hz, hB, V, locs, q0, X1, eT, hZ, hown, hS, hq, hF, hC, hK⟩ := X
  subst hp
  exact Go.step (fun t hr => Jvm.Stand.instanceofNull X1 i0.1 (g := mkF m pc ls (.null :: st)) rfl rfl (i0.2.1 ▸ hd) t hr) g
theorem inst_ord {K : String} {n : Nat} (w : (Jvm.Cond.instantiable K n).before a0 Z = true) : ∃ t k, Z.vm.findClass K = some t ∧ Z.vm.classes[t]? = some k ∧ k.kind = .ordinary ∧ k.isInterface = false := by
  simp only [Cond.before, Cond.holds, Cond.value] at w
  cases ht : Z.vm.findClass K with
  | none => simp [ht] at w
  | some t =>
    cases hk : Z.vm.classes[t]? with
    | none => simp [ht, hk] at w
    | some k =>
      simp [ht, hk] at w
      exact ⟨t, k, rfl, hk, w.1.1.1, w.1.1.2.1⟩
theorem nsRoot {O K : String} {n : Nat} (wo : (Jvm.Cond.noSuperclass O).before a0 Z = true) (wk : (Jvm.Cond.instantiable K n).before a0 Z = true) (hn' : O ≠ K) : NS Z O K := by
  obtain ⟨t, kt, g0, g2, g5, g7⟩ := inst_ord wk
  obtain ⟨c, k, h1, h2, h3, -, -⟩ := Cond.noSuperclass_spec wo
  have ne := ids_ne h1 g0 hn'
  refine ⟨c, t, h1, g0, fun fuel => ?_⟩
  cases fuel with
  | zero => rfl
  | succ f => simp [Vm.isSubclassAux, ne, h2, h3]
theorem nsNo {C S K : String} {n : Nat} (w : (Jvm.Cond.superclass C S).before a0 Z = true) (wk : (Jvm.Cond.instantiable K n).before a0 Z = true) (N : NS Z S K) (hn : C ≠ K) : ∃ c t, Z.vm.findClass C = some c ∧ Z.vm.findClass K = some t ∧ Z.vm.assignable c t = false := by
  obtain ⟨t, kt, g0, g2, g5, g7⟩ := inst_ord wk
  obtain ⟨c, t', h0, g0', n3⟩ := NS.step w N hn
  cases g0.symm.trans g0'
  obtain ⟨p, k, kp, h1, h2, h3, h4, h5, -, h7⟩ := Cond.superclass_spec h0 w
  have ne := ids_ne h0 g0 hn
  refine ⟨c, t, h0, g0, ?_⟩
  show Z.vm.assignableAux (255 + 1) c t = false
  simp [Vm.assignableAux, ne, h2, g2, h5, g5, g7, Vm.isSubclass, n3]
theorem En.ext (E : En Z B h) (W : Ext h h') : En Z B h' := ⟨⟨Nat.le_trans E.1.1 W.1, fun x c q => W.2 x c (E.1.2 x c q)⟩, fun x r => Nat.lt_of_lt_of_le (E.2 x r) W.1⟩
theorem keepE (E : Ext h h') : Keep h h' [] := (Keep.refl h []).ext E
theorem W.new (X : Wk l Z EL y bytes maxL ret R B0 p e s m args below meth c B T h k n) {index sz : Nat} {C : String} (w : (Jvm.Cond.classLink y.cls index C).before a0 Z = true) (wi : (Jvm.Cond.instantiable C sz).before a0 Z = true) (wz : (Jvm.Cond.initialized C).before a0 Z = true) (hd : decode bytes pc = .ok (.new index, 3)) (hp : pc + 3 = pc') {k' n' : Nat} (hk : k + 1 ≤ k') (hn : n + sz ≤ n') (hk' : k' ≤ R.cells) (hn' : n' ≤ R.slots)
    (g : ∀ T' h' a, Wk l Z EL y bytes maxL ret R B0 p e s m args below meth c B T' h' k' n' → Keep h h' [] → h.size ≤ a → Z.heap.size ≤ a → ¬ B a → Exa Z h' a C → (∀ {O nm d : String} {ty : FieldType}, Laid Z a0 C O nm d → parseFieldDescriptor d = some ty → Fld Z h' a O nm d (defaultValue ty)) → Go l Z EL R B0 Q p e s m below T' pc' ls (.ref a :: st)) : Go l Z EL R B0 Q p e s m below T pc ls st := by
  have X0 := X
  obtain ⟨i0, hE, hz, hB, V, locs, q0, X1, eT, hZ, hown, hS, hq, hF, hC, hK⟩ := X
  obtain ⟨T', h', X', e', E, A, D, -, st'⟩ := RoadKit.newO X1 i0.1 hZ hown w wi wz eT (g := mkF m pc ls st) rfl (i0.2.1 ▸ hd) (Nat.le_trans hk hk') (Nat.le_trans hn hn')
  subst hp
  exact Go.step st' (g T' h' h.size ⟨i0, hE.ext E, Nat.le_trans hz E.1, hB, V, locs, q0, X'.mono hk hn, e', hZ, hown, hS, Nat.le_trans hq E.1, hF, hC.ext E, fun x r => hK x ((hC.step fun _ _ _ q => E.2 _ _ q).2 x r)⟩ (keepE E) (Nat.le_refl _) X0.z0 (X0.nb (Nat.le_refl _)) A D)
theorem W.newA (X : Wk l Z EL y bytes maxL ret R B0 p e s m args below meth c B T h k n) {aty : ArrayType} {z : Int32} {cap : Nat} (w : (Jvm.Cond.arrayClass (newarray.typeOf aty)).before a0 Z = true) (hd : decode bytes pc = .ok (.newarray aty, 2)) (hz0 : ¬ z < 0) (hcap : z.toNatClampNeg ≤ cap) (hcb : cap * 8 ≤ 536870912) (hp : pc + 2 = pc') {k' n' : Nat} (hk : k + 1 ≤ k') (hn : n + cap ≤ n') (hk' : k' ≤ R.cells) (hn' : n' ≤ R.slots)
    (g : ∀ T' h' a, Wk l Z EL y bytes maxL ret R B0 p e s m args below meth c B T' h' k' n' → Keep h h' [] → h.size ≤ a → Z.heap.size ≤ a → ¬ B a → Ar Z h' a (newarray.typeOf aty) (List.replicate z.toNatClampNeg (defaultValue (newarray.typeOf aty))) → Go l Z EL R B0 Q p e s m below T' pc' ls (.ref a :: st)) : Go l Z EL R B0 Q p e s m below T pc ls (.int z :: st) := by
  have X0 := X
  obtain ⟨i0, hE, hz, hB, V, locs, q0, X1, eT, hZ, hown, hS, hq, hF, hC, hK⟩ := X
  obtain ⟨T', h', cA, X', e', E, A, st'⟩ := RoadKit.newP X1 i0.1 hZ w eT (g := mkF m pc ls (.int z :: st)) rfl (i0.2.1 ▸ hd) rfl hz0 hcap hcb (Nat.le_trans hk hk') (Nat.le_trans hn hn')
  subst hp
  exact Go.step st' (g T' h' h.size ⟨i0, hE.ext E, Nat.le_trans hz E.1, hB, V, locs, q0, X'.mono hk hn, e', hZ, hown, hS, Nat.le_trans hq E.1, hF, hC.ext E, fun x r => hK x ((hC.step fun _ _ _ q => E.2 _ _ q).2 x r)⟩ (keepE E) (Nat.le_refl _) X0.z0 (X0.nb (Nat.le_refl _)) (Ar.new A hz0))
theorem W.newR (X : Wk l Z EL y bytes maxL ret R B0 p e s m args below meth c B T h k n) {index : Nat} {C : String} {z : Int32} {cap : Nat} (w1 : (Jvm.Cond.classLink y.cls index C).before a0 Z = true) (w2 : (Jvm.Cond.arrayOver (.object C)).before a0 Z = true) (hd : decode bytes pc = .ok (.anewarray index, 3)) (hz0 : ¬ z < 0) (hcap : z.toNatClampNeg ≤ cap) (hcb : cap * 8 ≤ 536870912) (hp : pc + 3 = pc') {k' n' : Nat} (hk : k + 1 ≤ k') (hn : n + cap ≤ n') (hk' : k' ≤ R.cells) (hn' : n' ≤ R.slots)
    (g : ∀ T' h' a, Wk l Z EL y bytes maxL ret R B0 p e s m args below meth c B T' h' k' n' → Keep h h' [] → h.size ≤ a → Z.heap.size ≤ a → ¬ B a → Ar Z h' a (.object C) (List.replicate z.toNatClampNeg .null) → Tk Z h' a C → Go l Z EL R B0 Q p e s m below T' pc' ls (.ref a :: st)) : Go l Z EL R B0 Q p e s m below T pc ls (.int z :: st) := by
  have X0 := X
  obtain ⟨i0, hE, hz, hB, V, locs, q0, X1, eT, hZ, hown, hS, hq, hF, hC, hK⟩ := X
  obtain ⟨T', h', cA, X', e', E, A, O, st'⟩ := RoadKit.newR X1 i0.1 hZ hown w1 w2 eT (g := mkF m pc ls (.int z :: st)) rfl (i0.2.1 ▸ hd) rfl hz0 hcap hcb (Nat.le_trans hk hk') (Nat.le_trans hn hn')
  subst hp
  exact Go.step st' (g T' h' h.size ⟨i0, hE.ext E, Nat.le_trans hz E.1, hB, V, locs, q0, X'.mono hk hn, e', hZ, hown, hS, Nat.le_trans hq E.1, hF, hC.ext E, fun x r => hK x ((hC.step fun _ _ _ q => E.2 _ _ q).2 x r)⟩ (keepE E) (Nat.le_refl _) X0.z0 (X0.nb (Nat.le_refl _)) (Ar.new A hz0) ⟨_, _, A, O⟩)
theorem W.alen (X : Wk l Z EL y bytes maxL ret R B0 p e s m args below meth c B T h k n) {z : Int32} (A : Ar Z h a ty vs) (hv : vs.length.toInt32 = z) (hd : decode bytes pc = .ok (.arraylength, 1)) (hp : pc + 1 = pc') (g : Go l Z EL R B0 Q p e s m below T pc' ls (.int z :: st)) : Go l Z EL R B0 Q p e s m below T pc ls (.ref a :: st) := by
  obtain ⟨i0, hE, hz, hB, V, locs, q0, X1, eT, hZ, hown, hS, hq, hF, hC, hK⟩ := X
  obtain ⟨cl, A, e1, -, -⟩ := A
  have e2 : cl.slots.size = vs.length := by rw [← e1]; simp
  subst hp hv
  rw [← e2] at g
  exact Go.step (fun t hr => X1.arraylength i0.1 (by rw [eT]; exact A.1) (State.isArrayOf_alike hZ.alike A.2.1) (g := mkF m pc ls (.ref a :: st)) rfl rfl (i0.2.1 ▸ hd) t hr) g
theorem W.caload (X : Wk l Z EL y bytes maxL ret R B0 p e s m args below meth c B T h k n) {j : Int32} {v : Value} (A : Ar Z h a .char vs) (hj : ¬ j < 0) (hv : vs[j.toNatClampNeg]? = some v) (hd : decode bytes pc = .ok (.caload, 1)) (hp : pc + 1 = pc') (g : Go l Z EL R B0 Q p e s m below T pc' ls (v :: st)) : Go l Z EL R B0 Q p e s m below T pc ls (.int j :: .ref a :: st) := by
  obtain ⟨i0, hE, hz, hB, V, locs, q0, X1, eT, hZ, hown, hS, hq, hF, hC, hK⟩ := X
  obtain ⟨cl, A, e1, -, -⟩ := A
  have e2 : cl.slots.size = vs.length := by rw [← e1]; simp
  have hlt : j.toNatClampNeg < vs.length := (List.getElem?_eq_some_iff.mp hv).1
  subst hp
  exact Go.step (fun t hr => X1.caload i0.1 (by rw [eT]; exact A.1) (State.isArrayOf_alike hZ.alike A.2.1) A.2.2 (fun r => r.elim hj fun z => by omega) (by rw [← Array.getElem?_toList, e1]; exact hv) (g := mkF m pc ls (.int j :: .ref a :: st)) rfl rfl (i0.2.1 ▸ hd) t hr) g
theorem W.baload (X : Wk l Z EL y bytes maxL ret R B0 p e s m args below meth c B T h k n) {j : Int32} {v : Value} (A : Ar Z h a .byte vs) (hj : ¬ j < 0) (hv : vs[j.toNatClampNeg]? = some v) (hd : decode bytes pc = .ok (.baload, 1)) (hp : pc + 1 = pc') (g : Go l Z EL R B0 Q p e s m below T pc' ls (v :: st)) : Go l Z EL R B0 Q p e s m below T pc ls (.int j :: .ref a :: st) := by
  obtain ⟨i0, hE, hz, hB, V, locs, q0, X1, eT, hZ, hown, hS, hq, hF, hC, hK⟩ := X
  obtain ⟨cl, A, e1, -, -⟩ := A
  have e2 : cl.slots.size = vs.length := by rw [← e1]; simp
  have hlt : j.toNatClampNeg < vs.length := (List.getElem?_eq_some_iff.mp hv).1
  subst hp
  exact Go.step (fun t hr => X1.baloadBytes i0.1 (by rw [eT]; exact A.1) (State.isArrayOf_alike hZ.alike A.2.1) A.2.2 (fun r => r.elim hj fun z => by omega) (by rw [← Array.getElem?_toList, e1]; exact hv) (g := mkF m pc ls (.int j :: .ref a :: st)) rfl rfl (i0.2.1 ▸ hd) t hr) g
theorem W.iaload (X : Wk l Z EL y bytes maxL ret R B0 p e s m args below meth c B T h k n) {j : Int32} {v : Value} (A : Ar Z h a .int vs) (hj : ¬ j < 0) (hv : vs[j.toNatClampNeg]? = some v) (hd : decode bytes pc = .ok (.iaload, 1)) (hp : pc + 1 = pc') (g : Go l Z EL R B0 Q p e s m below T pc' ls (v :: st)) : Go l Z EL R B0 Q p e s m below T pc ls (.int j :: .ref a :: st) := by
  obtain ⟨i0, hE, hz, hB, V, locs, q0, X1, eT, hZ, hown, hS, hq, hF, hC, hK⟩ := X
  obtain ⟨cl, A, e1, -, -⟩ := A
  have e2 : cl.slots.size = vs.length := by rw [← e1]; simp
  have hlt : j.toNatClampNeg < vs.length := (List.getElem?_eq_some_iff.mp hv).1
  subst hp
  exact Go.step (fun t hr => X1.iaload i0.1 (by rw [eT]; exact A.1) (State.isArrayOf_alike hZ.alike A.2.1) A.2.2 (fun r => r.elim hj fun z => by omega) (by rw [← Array.getElem?_toList, e1]; exact hv) (g := mkF m pc ls (.int j :: .ref a :: st)) rfl rfl (i0.2.1 ▸ hd) t hr) g
theorem W.laload (X : Wk l Z EL y bytes maxL ret R B0 p e s m args below meth c B T h k n) {j : Int32} {v : Value} (A : Ar Z h a .long vs) (hj : ¬ j < 0) (hv : vs[j.toNatClampNeg]? = some v) (hd : decode bytes pc = .ok (.laload, 1)) (hp : pc + 1 = pc') (g : Go l Z EL R B0 Q p e s m below T pc' ls (v :: st)) : Go l Z EL R B0 Q p e s m below T pc ls (.int j :: .ref a :: st) := by
  obtain ⟨i0, hE, hz, hB, V, locs, q0, X1, eT, hZ, hown, hS, hq, hF, hC, hK⟩ := X
  obtain ⟨cl, A, e1, -, -⟩ := A
  have e2 : cl.slots.size = vs.length := by rw [← e1]; simp
  have hlt : j.toNatClampNeg < vs.length := (List.getElem?_eq_some_iff.mp hv).1
  subst hp
  exact Go.step (fun t hr => X1.laload i0.1 (by rw [eT]; exact A.1) (State.isArrayOf_alike hZ.alike A.2.1) A.2.2 (fun r => r.elim hj fun z => by omega) (by rw [← Array.getElem?_toList, e1]; exact hv) (g := mkF m pc ls (.int j :: .ref a :: st)) rfl rfl (i0.2.1 ▸ hd) t hr) g
theorem W.zaload (X : Wk l Z EL y bytes maxL ret R B0 p e s m args below meth c B T h k n) {j : Int32} {v : Value} (A : Ar Z h a .boolean vs) (hj : ¬ j < 0) (hv : vs[j.toNatClampNeg]? = some v) (hd : decode bytes pc = .ok (.baload, 1)) (hp : pc + 1 = pc') (g : Go l Z EL R B0 Q p e s m below T pc' ls (v :: st)) : Go l Z EL R B0 Q p e s m below T pc ls (.int j :: .ref a :: st) := by
  obtain ⟨i0, hE, hz, hB, V, locs, q0, X1, eT, hZ, hown, hS, hq, hF, hC, hK⟩ := X
  obtain ⟨cl, A, e1, -, -⟩ := A
  have e2 : cl.slots.size = vs.length := by rw [← e1]; simp
  have hlt : j.toNatClampNeg < vs.length := (List.getElem?_eq_some_iff.mp hv).1
  subst hp
  exact Go.step (fun t hr => X1.baloadBooleans i0.1 (by rw [eT]; exact A.1) (State.isArrayOf_alike hZ.alike A.2.1) A.2.2 (fun r => r.elim hj fun z => by omega) (by rw [← Array.getElem?_toList, e1]; exact hv) (g := mkF m pc ls (.int j :: .ref a :: st)) rfl rfl (i0.2.1 ▸ hd) t hr) g
theorem W.aaload (X : Wk l Z EL y bytes maxL ret R B0 p e s m args below meth c B T h k n) {j : Int32} {v : Value} (A : Ar Z h a ty vs) (hty : ty.isReference = true) (hj : ¬ j < 0) (hv : vs[j.toNatClampNeg]? = some v) (hd : decode bytes pc = .ok (.aaload, 1)) (hp : pc + 1 = pc') (g : Go l Z EL R B0 Q p e s m below T pc' ls (v :: st)) : Go l Z EL R B0 Q p e s m below T pc ls (.int j :: .ref a :: st) := by
  obtain ⟨i0, hE, hz, hB, V, locs, q0, X1, eT, hZ, hown, hS, hq, hF, hC, hK⟩ := X
  obtain ⟨cl, A, e1, -, -⟩ := A
  have e2 : cl.slots.size = vs.length := by rw [← e1]; simp
  have hlt : j.toNatClampNeg < vs.length := (List.getElem?_eq_some_iff.mp hv).1
  subst hp
  exact Go.step (fun t hr => X1.aaload i0.1 (by rw [eT]; exact A.1) (State.isArrayOf_alike hZ.alike A.2.1) hty A.2.2 (fun r => r.elim hj fun z => by omega) (by rw [← Array.getElem?_toList, e1]; exact hv) (g := mkF m pc ls (.int j :: .ref a :: st)) rfl rfl (i0.2.1 ▸ hd) t hr) g
theorem Ar.set {cl : Cell} {i : Nat} {v : Value} (A : Arr Z h a cl ty) (e1 : cl.slots.toList = vs) (hl : vs.length < 2 ^ 31) (hf : ∀ v ∈ vs, fits ty v = true) (hv : fits ty v = true) (W : Wr h h' a i v) : Ar Z h' a ty (vs.set i v) :=
  ⟨_, A.same W, by simp [Cell.setSlot, ← e1], by simpa using hl, fun w hw => (List.mem_or_eq_of_mem_set hw).elim (hf w) fun q => q ▸ hv⟩
theorem W.castore (X : Wk l Z EL y bytes maxL ret R B0 p e s m args below meth c B T h k n) {j : Int32} {x x' : Int32} {i : Nat} (A : Ar Z h a .char vs) (hj : ¬ j < 0) (hi : j.toNatClampNeg = i) (hl : i < vs.length) (hx : nar .char x = x') (ha : Z.heap.size ≤ a) (hnb : ¬ B a) (hd : decode bytes pc = .ok (.castore, 1)) (hp : pc + 1 = pc') (g : ∀ T' h', Wk l Z EL y bytes maxL ret R B0 p e s m args below meth c B T' h' k n → Keep h h' [a] → Ar Z h' a .char (vs.set i (.int x')) → Go l Z EL R B0 Q p e s m below T' pc' ls st) : Go l Z EL R B0 Q p e s m below T pc ls (.int x :: .int j :: .ref a :: st) := by
  obtain ⟨i0, hE, hz, hB, V, locs, q0, X1, eT, hZ, hown, hS, hq, hF, hC, hK⟩ := X
  obtain ⟨cl, A, e1, hl31, hfit⟩ := A
  have e2 : cl.slots.size = vs.length := by rw [← e1]; simp
  subst hi hx
  obtain ⟨T', h', X', e', W, st'⟩ := RoadKit.stC X1 i0.1 hZ eT A (fun r => r.elim hj fun z => by omega) (g := mkF m pc ls (.int x :: .int j :: .ref a :: st)) rfl rfl (i0.2.1 ▸ hd)
  subst hp
  have S : Safe Z EL V h a := fun r => hnb (hK a r)
  exact Go.step st' (g T' h' ⟨i0, hE.wr W ha, by rw [W.size]; exact hz, hB, V, _, q0, X', e', hZ, hown, hS, by rw [W.size]; exact hq, Fr.snoc X' hF ha, hC.wr W S, fun x r => hK x ((hC.wrStep W S).2 x r)⟩ (Keep.of_wr W) (Ar.set A e1 hl31 hfit (fits_nar_char x) W))
theorem W.bastore (X : Wk l Z EL y bytes maxL ret R B0 p e s m args below meth c B T h k n) {j : Int32} {x x' : Int32} {i : Nat} (A : Ar Z h a .byte vs) (hj : ¬ j < 0) (hi : j.toNatClampNeg = i) (hl : i < vs.length) (hx : nar .byte x = x') (ha : Z.heap.size ≤ a) (hnb : ¬ B a) (hd : decode bytes pc = .ok (.bastore, 1)) (hp : pc + 1 = pc') (g : ∀ T' h', Wk l Z EL y bytes maxL ret R B0 p e s m args below meth c B T' h' k n → Keep h h' [a] → Ar Z h' a .byte (vs.set i (.int x')) → Go l Z EL R B0 Q p e s m below T' pc' ls st) : Go l Z EL R B0 Q p e s m below T pc ls (.int x :: .int j :: .ref a :: st) := by
  obtain ⟨i0, hE, hz, hB, V, locs, q0, X1, eT, hZ, hown, hS, hq, hF, hC, hK⟩ := X
  obtain ⟨cl, A, e1, hl31, hfit⟩ := A
  have e2 : cl.slots.size = vs.length := by rw [← e1]; simp
  subst hi hx
  obtain ⟨T', h', X', e', W, st'⟩ := RoadKit.stB X1 i0.1 hZ eT A (fun r => r.elim hj fun z => by omega) (g := mkF m pc ls (.int x :: .int j :: .ref a :: st)) rfl rfl (i0.2.1 ▸ hd)
  subst hp
  have S : Safe Z EL V h a := fun r => hnb (hK a r)
  exact Go.step st' (g T' h' ⟨i0, hE.wr W ha, by rw [W.size]; exact hz, hB, V, _, q0, X', e', hZ, hown, hS, by rw [W.size]; exact hq, Fr.snoc X' hF ha, hC.wr W S, fun x r => hK x ((hC.wrStep W S).2 x r)⟩ (Keep.of_wr W) (Ar.set A e1 hl31 hfit (fits_nar_byte x) W))
theorem W.iastore (X : Wk l Z EL y bytes maxL ret R B0 p e s m args below meth c B T h k n) {j : Int32} {x x' : Int32} {i : Nat} (A : Ar Z h a .int vs) (hj : ¬ j < 0) (hi : j.toNatClampNeg = i) (hl : i < vs.length) (hx : x = x') (ha : Z.heap.size ≤ a) (hnb : ¬ B a) (hd : decode bytes pc = .ok (.iastore, 1)) (hp : pc + 1 = pc') (g : ∀ T' h', Wk l Z EL y bytes maxL ret R B0 p e s m args below meth c B T' h' k n → Keep h h' [a] → Ar Z h' a .int (vs.set i (.int x')) → Go l Z EL R B0 Q p e s m below T' pc' ls st) : Go l Z EL R B0 Q p e s m below T pc ls (.int x :: .int j :: .ref a :: st) := by
  obtain ⟨i0, hE, hz, hB, V, locs, q0, X1, eT, hZ, hown, hS, hq, hF, hC, hK⟩ := X
  obtain ⟨cl, A, e1, hl31, hfit⟩ := A
  have e2 : cl.slots.size = vs.length := by rw [← e1]; simp
  subst hi hx
  obtain ⟨T', h', X', e', W, st'⟩ := RoadKit.stI X1 i0.1 hZ eT A (fun r => r.elim hj fun z => by omega) (g := mkF m pc ls (.int x :: .int j :: .ref a :: st)) rfl rfl (i0.2.1 ▸ hd)
  subst hp
  have S : Safe Z EL V h a := fun r => hnb (hK a r)
  exact Go.step st' (g T' h' ⟨i0, hE.wr W ha, by rw [W.size]; exact hz, hB, V, _, q0, X', e', hZ, hown, hS, by rw [W.size]; exact hq, Fr.snoc X' hF ha, hC.wr W S, fun x r => hK x ((hC.wrStep W S).2 x r)⟩ (Keep.of_wr W) (Ar.set A e1 hl31 hfit (rfl) W))
theorem W.lastore (X : Wk l Z EL y bytes maxL ret R B0 p e s m args below meth c B T h k n) {j : Int32} {x x' : Int64} {i : Nat} (A : Ar Z h a .long vs) (hj : ¬ j < 0) (hi : j.toNatClampNeg = i) (hl : i < vs.length) (hx : x = x') (ha : Z.heap.size ≤ a) (hnb : ¬ B a) (hd : decode bytes pc = .ok (.lastore, 1)) (hp : pc + 1 = pc') (g : ∀ T' h', Wk l Z EL y bytes maxL ret R B0 p e s m args below meth c B T' h' k n → Keep h h' [a] → Ar Z h' a .long (vs.set i (.long x')) → Go l Z EL R B0 Q p e s m below T' pc' ls st) : Go l Z EL R B0 Q p e s m below T pc ls (.long x :: .int j :: .ref a :: st) := by
  obtain ⟨i0, hE, hz, hB, V, locs, q0, X1, eT, hZ, hown, hS, hq, hF, hC, hK⟩ := X
  obtain ⟨cl, A, e1, hl31, hfit⟩ := A
  have e2 : cl.slots.size = vs.length := by rw [← e1]; simp
  subst hi hx
  obtain ⟨T', h', X', e', W, st'⟩ := RoadKit.stJ X1 i0.1 hZ eT A (fun r => r.elim hj fun z => by omega) (g := mkF m pc ls (.long x :: .int j :: .ref a :: st)) rfl rfl (i0.2.1 ▸ hd)
  subst hp
  have S : Safe Z EL V h a := fun r => hnb (hK a r)
  exact Go.step st' (g T' h' ⟨i0, hE.wr W ha, by rw [W.size]; exact hz, hB, V, _, q0, X', e', hZ, hown, hS, by rw [W.size]; exact hq, Fr.snoc X' hF ha, hC.wr W S, fun x r => hK x ((hC.wrStep W S).2 x r)⟩ (Keep.of_wr W) (Ar.set A e1 hl31 hfit (rfl) W))
theorem W.aastore (X : Wk l Z EL y bytes maxL ret R B0 p e s m args below meth c B T h k n) {j : Int32} {v : Value} {i : Nat} (A : Ar Z h a ty vs) (hj : ¬ j < 0) (hi : j.toNatClampNeg = i) (hl : i < vs.length) (hty : ty.isReference = true) (F : Sto Z h a v) (hvf : fits ty v = true) (ha : Z.heap.size ≤ a) (hnb : ¬ B a) (hd : decode bytes pc = .ok (.aastore, 1)) (hp : pc + 1 = pc') (g : ∀ T' h', Wk l Z EL y bytes maxL ret R B0 p e s m args below meth c B T' h' k n → Keep h h' [a] → Ar Z h' a ty (vs.set i v) → Go l Z EL R B0 Q p e s m below T' pc' ls st) : Go l Z EL R B0 Q p e s m below T pc ls (v :: .int j :: .ref a :: st) := by
  obtain ⟨i0, hE, hz, hB, V, locs, q0, X1, eT, hZ, hown, hS, hq, hF, hC, hK⟩ := X
  obtain ⟨cl, A, e1, hl31, hfit⟩ := A
  have e2 : cl.slots.size = vs.length := by rw [← e1]; simp
  subst hi
  obtain ⟨T', h', X', e', W, st'⟩ := RoadKit.stR X1 i0.1 hZ eT A (fun r => r.elim hj fun z => by omega) hty F (g := mkF m pc ls (v :: .int j :: .ref a :: st)) rfl rfl (i0.2.1 ▸ hd)
  subst hp
  have S : Safe Z EL V h a := fun r => hnb (hK a r)
  exact Go.step st' (g T' h' ⟨i0, hE.wr W ha, by rw [W.size]; exact hz, hB, V, _, q0, X', e', hZ, hown, hS, by rw [W.size]; exact hq, Fr.snoc X' hF ha, hC.wr W S, fun x r => hK x ((hC.wrStep W S).2 x r)⟩ (Keep.of_wr W) (Ar.set A e1 hl31 hfit hvf W))
theorem Sto.tk {C : String} (F : Tk Z h a C) (I : Ins Z h b C true) : Sto Z h a (.ref b) := by obtain ⟨c, ty, A, O⟩ := F; exact Sto.of A O I
/-! Object.<init> -/
theorem W.initO (X : Wk l Z EL y bytes maxL ret R B0 p e s m args below meth c B T h k n) {idx W : Nat} (w1 : (Jvm.Cond.methodLink y.cls idx Lib.objectInit).before a0 Z = true) (w2 : (Jvm.Cond.instanceMethod Lib.objectInit).before a0 Z = true) (w3 : (Jvm.Cond.code Lib.objectInit ⟨#[0xb1]⟩ 1 none).before a0 Z = true) (hd : decode bytes pc = .ok (.invokespecial idx, 3)) (hsize : ls.size = maxL) (hf : 1 ≤ R.frames) (hW : (st.map fun v => v.category).sum ≤ W) (hl : W + 12 ≤ R.locals) (hp : pc + 3 = pc') (g : ∀ T', Wk l Z EL y bytes maxL ret R B0 p e s m args below meth c B T' h k n → Go l Z EL R B0 Q p e s m below T' pc' ls st) : Go l Z EL R B0 Q p e s m below T pc ls (.ref a :: st) := by
  obtain ⟨i0, hE, hz, hB, V, locs, q0, X1, eT, hZ, hown, hS, hq, hF, hC, hK⟩ := X
  obtain ⟨T', X', e', st'⟩ := RoadKit.initO X1 i0.1 hZ hown w1 w2 w3 eT (g := mkF m pc ls (.ref a :: st)) rfl (hsize.trans i0.2.2.1.symm) rfl (i0.2.1 ▸ hd) hf (W := W) (by show 2 * 0 + _ ≤ _; omega) hl
  subst hp
  exact Go.step st' (g T' ⟨i0, hE, hz, hB, V, locs, q0, X', e', hZ, hown, hS, hq, hF, hC, hK⟩)
theorem sameM {C : String} {z z' : MethodName} (hc : z.cls = z'.cls) (hy : z.cls ≠ "java/lang/invoke/MethodHandle" ∧ z.cls ≠ "java/lang/invoke/VarHandle") (wi : (Jvm.Cond.instanceMethod z).before a0 Z = true) (ws : (Jvm.Cond.selects C z' z').before a0 Z = true) : (Jvm.Cond.sameMethod z.cls z.cls z.name z.desc).before a0 Z = true := by
  obtain ⟨mk, methM, hnamed, -, -, -⟩ := Cond.instanceMethod_spec wi
  obtain ⟨c2, r2, m2, q1, q2, q3, q4, kP, hkP, hkPi⟩ := Cond.selects_spec ws
  have f1 := findClass_of_methodNamed hnamed
  have f2 := findClass_of_methodNamed q3
  rw [← hc, f1] at f2
  have e : mk.cls = m2.cls := Option.some.inj f2
  have hf : Z.methodFound? z.cls z.name z.desc = some mk := State.methodFound?_of_named hnamed hy
  have hn' : Z.methodNamed? ⟨z.cls, z.name, z.desc⟩ = some mk := hnamed
  simp [Cond.before, Cond.holds, Cond.value, f1, hf, hn', e, hkP, hkPi]
theorem nfM {C : String} {z z' : MethodName} (hc : z.cls = z'.cls) (ws : (Jvm.Cond.selects C z' z').before a0 Z = true) : NotFace Z z := fun r0 h0 => by
  obtain ⟨c2, r2, m2, q1, q2, q3, q4, kP, hkP, hkPi⟩ := Cond.selects_spec ws
  have f1 := findClass_of_methodNamed h0
  have f2 := findClass_of_methodNamed q3
  rw [← hc, f1] at f2
  have e : r0.cls = m2.cls := Option.some.inj f2
  exact ⟨kP, by rw [e]; exact hkP, hkPi⟩
/-! calls -/
theorem BackS.con {z : MethodName} {zb : ByteArray} {zl len W : Nat} {zr : Option FieldType} {rm : Room} {as' : Array Value} {Qc : Option Value → Heap → (Addr → Prop) → Prop} {V : Vm} (K : Con l Z EL [] z zb zl zr rm B h as' Qc) (hZ : Z.Warmed39 V) (wc : (Jvm.Cond.code z zb zl zr).before a0 Z = true) (wz : (Jvm.Cond.initialized z.cls).before a0 Z = true) (hf : rm.frames + 1 ≤ R.frames) (hl : W + (zl + 11) + rm.locals ≤ R.locals) {a1 : Array Value} (hEL : EW Z a1 EL) (H : CHv Z EL V h) (hK : ∀ x, Bk Z EL V h x → B x) :
    BackS l R p e below (s.setVm V) args z len W (fun A a => a = as' ∧ A.U.heap = h ∧ A.cells + rm.cells ≤ R.cells ∧ A.slots + rm.slots ≤ R.slots)
      (fun A _ v B1 => ∃ L B', B1.locs = A.locs ++ L ∧ B1.cells = A.cells + rm.cells ∧ B1.slots = A.slots + rm.slots ∧ Fr Z.heap.size L ∧ CHv Z EL B1.U.vm B1.U.heap ∧ (∀ x, Bk Z EL B1.U.vm B1.U.heap x → B' x) ∧ (∀ x, B' x → B x ∨ h.size ≤ x) ∧ En Z B' B1.U.heap ∧ h.size ≤ B1.U.heap.size ∧ Qc v B1.U.heap B') :=
  BackS.of_freeW (bytes := zb) (maxL := zl) (ret := zr) (E := fun _ first o t L k n => k = rm.cells ∧ n = rm.slots ∧ ∃ v B', o = .returned v ∧ Fr Z.heap.size L ∧ CHv Z EL t.vm t.heap ∧ (∀ x, Bk Z EL t.vm t.heap x → B' x) ∧ (∀ x, B' x → B x ∨ h.size ≤ x) ∧ En Z B' t.heap ∧ h.size ≤ t.heap.size ∧ Qc v t.heap B') K hf hl
    (fun m meth c A a Y hp => have hU : Z.Warmed39 A.U.vm := wtrans (s := s.setVm V) hZ Y.warmed
      ⟨by show (Jvm.Cond.and _ .tt).before a A.U = true; rw [Cond.before_and, mv hU wc]; rfl, mv hU wc, mv hU wz, hp.2.2.1, hp.2.2.2⟩)
    (fun m meth c A a g mk Y hp => ⟨hp.1, wtrans (s := s.setVm V) hZ Y.warmed, hp.2.1, (CHv.at Y hZ hEL H).1, fun x r => by
      rcases (CHv.at Y hZ hEL H).2.2 x r with q | q
      · exact hK x q
      · obtain ⟨cell, q2⟩ := r.there
        exact absurd (Array.getElem?_eq_some_iff.mp q2).1 (Nat.not_lt.mpr q)⟩) (fun _ _ _ _ _ _ _ _ _ => trivial)
    (fun _ _ _ _ ⟨v, L, B', h1, h2, h3, h4, h5, h6, h7, h8, h9⟩ => ⟨L, _, _, h9, rfl, rfl, v, B', h1, h2, h3, h4, h5, h6, h7, h8⟩)
    (fun m meth c A a g mk v t L k n Y hp _ _ ⟨e1, e2, v', B', e3, e4, e5, e6, e7, e8, e9, e10⟩ => by
      cases e3; subst e1 e2
      exact ⟨L, B', rfl, rfl, rfl, e4, e5, e6, e7, e8, e9, e10⟩)
/-- behind a call -/
theorem Wk.after {V : Vm} {q0 : Nat} {locs : List Loc} {U : State} {L : List Loc} {B' : Addr → Prop} {k1 n1 : Nat} (i0 : p.tables.exec = Jvm.exec ∧ c.code = bytes ∧ c.maxLocals = maxL ∧ meth.sig.returnType = ret ∧ meth.locks = false ∧ meth.name = y.name ∧ ∃ a1, EW Z a1 EL) (hz : s.heap.size ≤ h.size) (hB : ∀ x, B x → B0 x ∨ s.heap.size ≤ x) (hZ : Z.Warmed39 V) (hown : V.findClass y.cls = some m.cls) (hS : s.Since V q0) (hq : q0 ≤ h.size) (hF : Fr Z.heap.size locs)
    (X2 : Stand p l e R ((s.setVm V).setVm U.vm) m args below meth c U (locs ++ L) k1 n1) (hS2 : (s.setVm V).Since U.vm U.heap.size) (r1 : Fr Z.heap.size L) (r2 : CHv Z EL U.vm U.heap) (r3 : ∀ x, Bk Z EL U.vm U.heap x → B' x) (r4 : ∀ x, B' x → B x ∨ h.size ≤ x) (r5 : En Z B' U.heap) (r6 : h.size ≤ U.heap.size) : Wk l Z EL y bytes maxL ret R B0 p e s m args below meth c B' U U.heap k1 n1 :=
  ⟨i0, r5, Nat.le_trans hz r6, fun x r => (r4 x r).elim (hB x) fun q => Or.inr (Nat.le_trans hz q), U.vm, locs ++ L, U.heap.size, X2, rfl, State.Warmed39.trans (t := s.setVm V) hZ hS2.1, (hS2.1.alike.findClass _ _).trans hown, hS.trans hS2 (Nat.le_trans hq r6), Nat.le_refl _, hF.app r1, r2, r3⟩
theorem W.callS (X : Wk l Z EL y bytes maxL ret R B0 p e s m args below meth c B T h k n) {index : Nat} {z : MethodName} {zb : ByteArray} {zl W : Nat} {zr : Option FieldType} {rm : Room} {as' : Array Value} {Qc : Option Value → Heap → (Addr → Prop) → Prop} {argsL stk : List Value} (K : Con l Z EL [] z zb zl zr rm B h as' Qc) (w1 : (Jvm.Cond.methodLink y.cls index z).before a0 Z = true) (w2 : (Jvm.Cond.static z).before a0 Z = true) (wc : (Jvm.Cond.code z zb zl zr).before a0 Z = true) (wz : (Jvm.Cond.initialized z.cls).before a0 Z = true) (hy : z.cls ≠ "java/lang/invoke/MethodHandle" ∧ z.cls ≠ "java/lang/invoke/VarHandle") (hf : rm.frames + 1 ≤ R.frames) (hl : W + (zl + 11) + rm.locals ≤ R.locals) (hsize : ls.size = maxL)
    (hlen : ∀ sig, parseMethodDescriptor z.desc = some sig → argsL.length = sig.parameters.length) (has : argsL.toArray = as') (hstk : stk = argsL.reverse ++ st) (hW : (st.map fun v => v.category).sum ≤ W) (hd : decode bytes pc = .ok (.invokestatic index, 3)) (hp : pc + 3 = pc') {k' n' : Nat} (hk1 : k + rm.cells ≤ k') (hn1 : n + rm.slots ≤ n') (hk2 : k' ≤ R.cells) (hn2 : n' ≤ R.slots)
    (g : ∀ T' h' B' v, Wk l Z EL y bytes maxL ret R B0 p e s m args below meth c B' T' h' k' n' → h.size ≤ h'.size → (∀ x, B' x → B x ∨ h.size ≤ x) → Qc v h' B' → Go l Z EL R B0 Q p e s m below T' pc' ls (v.toList ++ st)) : Go l Z EL R B0 Q p e s m below T pc ls stk := by
  obtain ⟨i0, hE, hz, hB, V, locs, q0, X1, eT, hZ, hown, hS, hq, hF, hC, hK⟩ := X
  obtain ⟨a1, hEL⟩ := i0.2.2.2.2.2.2
  obtain ⟨v, vm₁, ⟨U, Lu, ku, nu⟩, hWv, X2, hS2, hgr, ⟨L, B', e1, e2, e3, r1, r2, r3, r4, r5, r6, r7⟩, st'⟩ := Jvm.RoadKit.callSS X1 i0.1 (y := z) hown (mv (s := s.setVm V) hZ w1) (mv (s := s.setVm V) hZ w2) (mv (s := s.setVm V) hZ wz) (mv (s := s.setVm V) hZ wc) hy (BackS.con K hZ wc wz hf hl hEL hC hK) (g := mkF m pc ls stk) rfl (hsize.trans i0.2.2.1.symm) (argsL := argsL) (rest := st) hlen hstk (by show 2 * 0 + _ ≤ _; omega) (i0.2.1 ▸ hd) (fun _ _ => ⟨has, eT, by show k + _ ≤ _; omega, by show n + _ ≤ _; omega⟩)
  dsimp only [Pt.U, Pt.locs, Pt.cells, Pt.slots] at X2 hS2 hgr e1 e2 e3 r2 r3 r5 r6 r7 st'
  subst e1 e2 e3 hp
  exact Go.via st' (g U U.heap B' v ((Wk.after i0 hz hB hZ hown hS hq hF X2 hS2 r1 r2 r3 r4 r5 r6).mono hk1 hn1) r6 r4 r7)
theorem W.callV (X : Wk l Z EL y bytes maxL ret R B0 p e s m args below meth c B T h k n) {index : Nat} {z : MethodName} {zi : MethodName} {C : String} {zb : ByteArray} {zl W : Nat} {zr : Option FieldType} {rm : Room} {as' : Array Value} {Qc : Option Value → Heap → (Addr → Prop) → Prop} {argsL stk : List Value} (K : Con l Z EL [] z zb zl zr rm B h as' Qc) (w1 : (Jvm.Cond.methodLink y.cls index zi).before a0 Z = true) (w2 : (Jvm.Cond.declares zi).before a0 Z = true) (w3 : NotFace Z zi) (w4 : (Jvm.Cond.selects C zi z).before a0 Z = true) (w5 : (Jvm.Cond.instanceMethod z).before a0 Z = true) (E : Exa Z h a C) (wc : (Jvm.Cond.code z zb zl zr).before a0 Z = true) (wz : (Jvm.Cond.initialized z.cls).before a0 Z = true) (hy : zi.cls ≠ "java/lang/invoke/MethodHandle" ∧ zi.cls ≠ "java/lang/invoke/VarHandle") (hf : rm.frames + 1 ≤ R.frames) (hl : W + (zl + 11) + rm.locals ≤ R.locals) (hsize : ls.size = maxL)
    (hlen : ∀ sig, parseMethodDescriptor zi.desc = some sig → argsL.length = sig.parameters.length) (has : (.ref a :: argsL).toArray = as') (hstk : stk = argsL.reverse ++ .ref a :: st) (hW : (st.map fun v => v.category).sum ≤ W) (hd : decode bytes pc = .ok (.invokevirtual index, 3)) (hp : pc + 3 = pc') {k' n' : Nat} (hk1 : k + rm.cells ≤ k') (hn1 : n + rm.slots ≤ n') (hk2 : k' ≤ R.cells) (hn2 : n' ≤ R.slots)
    (g : ∀ T' h' B' v, Wk l Z EL y bytes maxL ret R B0 p e s m args below meth c B' T' h' k' n' → h.size ≤ h'.size → (∀ x, B' x → B x ∨ h.size ≤ x) → Qc v h' B' → Go l Z EL R B0 Q p e s m below T' pc' ls (v.toList ++ st)) : Go l Z EL R B0 Q p e s m below T pc ls stk := by
  obtain ⟨i0, hE, hz, hB, V, locs, q0, X1, eT, hZ, hown, hS, hq, hF, hC, hK⟩ := X
  obtain ⟨a1, hEL⟩ := i0.2.2.2.2.2.2
  obtain ⟨cB, kB, j1, j2, j3⟩ := isOf (s := s.setVm V) hZ eT E
  have w3' : NotFace (s.setVm V) zi := fun r0 h0 => by
    have h0' : (Z.setVm V).methodNamed? zi = some r0 := h0
    rw [State.methodNamed?_setVm hZ.alike] at h0'
    obtain ⟨kr, q1, q2⟩ := w3 r0 h0'
    obtain ⟨k2, q3, q4⟩ := hZ.alike.2.2 _ _ q1
    exact ⟨k2, q3, by rw [q4]; exact q2⟩
  obtain ⟨v, vm₁, ⟨U, Lu, ku, nu⟩, hWv, X2, hS2, hgr, ⟨L, B', e1, e2, e3, r1, r2, r3, r4, r5, r6, r7⟩, st'⟩ := X1.virtualBackS i0.1 (y := zi) (z := z) hown (mv (s := s.setVm V) hZ w1) (mv (s := s.setVm V) hZ w2) w3' (mv (s := s.setVm V) hZ w4) (mv (s := s.setVm V) hZ w5) hy (BackS.con K hZ wc wz hf hl hEL hC hK) j1 j3 (g := mkF m pc ls stk) rfl (hsize.trans i0.2.2.1.symm) (Steps.refl _) (argsL := argsL) (rest := st) hlen hstk (by show 2 * 0 + _ ≤ _; omega) (i0.2.1 ▸ hd) (fun _ _ => ⟨has, eT, by show k + _ ≤ _; omega, by show n + _ ≤ _; omega⟩)
  dsimp only [Pt.U, Pt.locs, Pt.cells, Pt.slots] at X2 hS2 hgr e1 e2 e3 r2 r3 r5 r6 r7 st'
  subst e1 e2 e3 hp
  exact Go.via st' (g U U.heap B' v ((Wk.after i0 hz hB hZ hown hS hq hF X2 hS2 r1 r2 r3 r4 r5 r6).mono hk1 hn1) r6 r4 r7)
theorem W.callI (X : Wk l Z EL y bytes maxL ret R B0 p e s m args below meth c B T h k n) {index : Nat} {count : Nat} {z : MethodName} {zi : MethodName} {C : String} {zb : ByteArray} {zl W : Nat} {zr : Option FieldType} {rm : Room} {as' : Array Value} {Qc : Option Value → Heap → (Addr → Prop) → Prop} {argsL stk : List Value} (K : Con l Z EL [] z zb zl zr rm B h as' Qc) (w1 : (Jvm.Cond.methodLink y.cls index zi).before a0 Z = true) (w2 : (Jvm.Cond.declares zi).before a0 Z = true) (w3 : (Jvm.Cond.interfaceMethod zi.cls zi.cls zi.name zi.desc).before a0 Z = true) (w4 : (Jvm.Cond.selects C zi z).before a0 Z = true) (w5 : (Jvm.Cond.instanceMethod z).before a0 Z = true) (w6 : (Jvm.Cond.publicMethod z).before a0 Z = true) (w7 : (Jvm.Cond.unhidden C zi.name zi.desc).before a0 Z = true) (w8 : (Jvm.Cond.castable C zi.cls).before a0 Z = true) (E : Exa Z h a C) (wc : (Jvm.Cond.code z zb zl zr).before a0 Z = true) (wz : (Jvm.Cond.initialized z.cls).before a0 Z = true) (hy : zi.cls ≠ "java/lang/invoke/MethodHandle" ∧ zi.cls ≠ "java/lang/invoke/VarHandle") (hf : rm.frames + 1 ≤ R.frames) (hl : W + (zl + 11) + rm.locals ≤ R.locals) (hsize : ls.size = maxL)
    (hlen : ∀ sig, parseMethodDescriptor zi.desc = some sig → argsL.length = sig.parameters.length) (has : (.ref a :: argsL).toArray = as') (hstk : stk = argsL.reverse ++ .ref a :: st) (hW : (st.map fun v => v.category).sum ≤ W) (hd : decode bytes pc = .ok (.invokeinterface index count, 5)) (hp : pc + 5 = pc') {k' n' : Nat} (hk1 : k + rm.cells ≤ k') (hn1 : n + rm.slots ≤ n') (hk2 : k' ≤ R.cells) (hn2 : n' ≤ R.slots)
    (g : ∀ T' h' B' v, Wk l Z EL y bytes maxL ret R B0 p e s m args below meth c B' T' h' k' n' → h.size ≤ h'.size → (∀ x, B' x → B x ∨ h.size ≤ x) → Qc v h' B' → Go l Z EL R B0 Q p e s m below T' pc' ls (v.toList ++ st)) : Go l Z EL R B0 Q p e s m below T pc ls stk := by
  obtain ⟨i0, hE, hz, hB, V, locs, q0, X1, eT, hZ, hown, hS, hq, hF, hC, hK⟩ := X
  obtain ⟨a1, hEL⟩ := i0.2.2.2.2.2.2
  obtain ⟨cB, kB, j1, j2, j3⟩ := isOf (s := s.setVm V) hZ eT E
  obtain ⟨v, vm₁, ⟨U, Lu, ku, nu⟩, hWv, X2, hS2, hgr, ⟨L, B', e1, e2, e3, r1, r2, r3, r4, r5, r6, r7⟩, st'⟩ := X1.interfaceBackS i0.1 (xi := zi) (y := z) hown (mv (s := s.setVm V) hZ w1) (mv (s := s.setVm V) hZ w2) (mv (s := s.setVm V) hZ w3 (by simp [Cond.onTables, Cond.keepsFace, Cond.keeps, Cond.steady, Cond.faceAtom, hy.1, hy.2])) (mv (s := s.setVm V) hZ w4) (mv (s := s.setVm V) hZ w5) (mv (s := s.setVm V) hZ w6) (mv (s := s.setVm V) hZ w7) (mv (s := s.setVm V) hZ w8) hy (BackS.con K hZ wc wz hf hl hEL hC hK) j1 j2 j3 (g := mkF m pc ls stk) rfl (hsize.trans i0.2.2.1.symm) (Steps.refl _) (argsL := argsL) (rest := st) hlen hstk (by show 2 * 0 + _ ≤ _; omega) (i0.2.1 ▸ hd) (fun _ _ => ⟨has, eT, by show k + _ ≤ _; omega, by show n + _ ≤ _; omega⟩)
  dsimp only [Pt.U, Pt.locs, Pt.cells, Pt.slots] at X2 hS2 hgr e1 e2 e3 r2 r3 r5 r6 r7 st'
  subst e1 e2 e3 hp
  exact Go.via st' (g U U.heap B' v ((Wk.after i0 hz hB hZ hown hS hq hF X2 hS2 r1 r2 r3 r4 r5 r6).mono hk1 hn1) r6 r4 r7)
theorem W.callN (X : Wk l Z EL y bytes maxL ret R B0 p e s m args below meth c B T h k n) {index : Nat} {z : MethodName} {zb : ByteArray} {zl W : Nat} {rm : Room} {as' : Array Value} {Qc : Option Value → Heap → (Addr → Prop) → Prop} {argsL stk : List Value} (K : Con l Z EL [] z zb zl none rm B h as' Qc) (hn : z.name = "<init>") (w1 : (Jvm.Cond.methodLink y.cls index z).before a0 Z = true) (w2 : (Jvm.Cond.instanceMethod z).before a0 Z = true) (wc : (Jvm.Cond.code z zb zl none).before a0 Z = true) (wz : (Jvm.Cond.initialized z.cls).before a0 Z = true) (hy : z.cls ≠ "java/lang/invoke/MethodHandle" ∧ z.cls ≠ "java/lang/invoke/VarHandle") (hf : rm.frames + 1 ≤ R.frames) (hl : W + (zl + 11) + rm.locals ≤ R.locals) (hsize : ls.size = maxL)
    (hlen : ∀ sig, parseMethodDescriptor z.desc = some sig → argsL.length = sig.parameters.length) (has : (.ref a :: argsL).toArray = as') (hstk : stk = argsL.reverse ++ .ref a :: st) (hW : (st.map fun v => v.category).sum ≤ W) (hd : decode bytes pc = .ok (.invokespecial index, 3)) (hp : pc + 3 = pc') {k' n' : Nat} (hk1 : k + rm.cells ≤ k') (hn1 : n + rm.slots ≤ n') (hk2 : k' ≤ R.cells) (hn2 : n' ≤ R.slots)
    (g : ∀ T' h' B' v, Wk l Z EL y bytes maxL ret R B0 p e s m args below meth c B' T' h' k' n' → h.size ≤ h'.size → (∀ x, B' x → B x ∨ h.size ≤ x) → Qc v h' B' → Go l Z EL R B0 Q p e s m below T' pc' ls (v.toList ++ st)) : Go l Z EL R B0 Q p e s m below T pc ls stk := by
  obtain ⟨i0, hE, hz, hB, V, locs, q0, X1, eT, hZ, hown, hS, hq, hF, hC, hK⟩ := X
  obtain ⟨a1, hEL⟩ := i0.2.2.2.2.2.2
  obtain ⟨v, vm₁, ⟨U, Lu, ku, nu⟩, hWv, X2, hS2, hgr, ⟨L, B', e1, e2, e3, r1, r2, r3, r4, r5, r6, r7⟩, st'⟩ := X1.specialBackS i0.1 (y := z) hn hown (mv (s := s.setVm V) hZ w1) (mv (s := s.setVm V) hZ w2) (mv (s := s.setVm V) hZ wc) hy (BackS.con K hZ wc wz hf hl hEL hC hK) (g := mkF m pc ls stk) rfl (hsize.trans i0.2.2.1.symm) (Steps.refl _) (a := a) (argsL := argsL) (rest := st) hlen hstk (by show 2 * 0 + _ ≤ _; omega) (i0.2.1 ▸ hd) (fun _ _ => ⟨has, eT, by show k + _ ≤ _; omega, by show n + _ ≤ _; omega⟩)
  dsimp only [Pt.U, Pt.locs, Pt.cells, Pt.slots] at X2 hS2 hgr e1 e2 e3 r2 r3 r5 r6 r7 st'
  subst e1 e2 e3 hp
  exact Go.via st' (g U U.heap B' v ((Wk.after i0 hz hB hZ hown hS hq hF X2 hS2 r1 r2 r3 r4 r5 r6).mono hk1 hn1) r6 r4 r7)
theorem W.callU (X : Wk l Z EL y bytes maxL ret R B0 p e s m args below meth c B T h k n) {index : Nat} {z : MethodName} {zi : MethodName} {C : String} {owner : String} {zb : ByteArray} {zl W : Nat} {zr : Option FieldType} {rm : Room} {as' : Array Value} {Qc : Option Value → Heap → (Addr → Prop) → Prop} {argsL stk : List Value} (K : Con l Z EL [] z zb zl zr rm B h as' Qc) (w1 : (Jvm.Cond.methodLink y.cls index zi).before a0 Z = true) (w2 : (Jvm.Cond.sameMethod zi.cls owner zi.name zi.desc).before a0 Z = true) (w3 : (Jvm.Cond.declares ⟨owner, zi.name, zi.desc⟩).before a0 Z = true) (ho : owner ≠ "java/lang/invoke/MethodHandle" ∧ owner ≠ "java/lang/invoke/VarHandle") (w4 : (Jvm.Cond.selects C zi z).before a0 Z = true) (w5 : (Jvm.Cond.instanceMethod z).before a0 Z = true) (E : Exa Z h a C) (wc : (Jvm.Cond.code z zb zl zr).before a0 Z = true) (wz : (Jvm.Cond.initialized z.cls).before a0 Z = true)  (hf : rm.frames + 1 ≤ R.frames) (hl : W + (zl + 11) + rm.locals ≤ R.locals) (hsize : ls.size = maxL)
    (hlen : ∀ sig, parseMethodDescriptor zi.desc = some sig → argsL.length = sig.parameters.length) (has : (.ref a :: argsL).toArray = as') (hstk : stk = argsL.reverse ++ .ref a :: st) (hW : (st.map fun v => v.category).sum ≤ W) (hd : decode bytes pc = .ok (.invokevirtual index, 3)) (hp : pc + 3 = pc') {k' n' : Nat} (hk1 : k + rm.cells ≤ k') (hn1 : n + rm.slots ≤ n') (hk2 : k' ≤ R.cells) (hn2 : n' ≤ R.slots)
    (g : ∀ T' h' B' v, Wk l Z EL y bytes maxL ret R B0 p e s m args below meth c B' T' h' k' n' → h.size ≤ h'.size → (∀ x, B' x → B x ∨ h.size ≤ x) → Qc v h' B' → Go l Z EL R B0 Q p e s m below T' pc' ls (v.toList ++ st)) : Go l Z EL R B0 Q p e s m below T pc ls stk := by
  obtain ⟨i0, hE, hz, hB, V, locs, q0, X1, eT, hZ, hown, hS, hq, hF, hC, hK⟩ := X
  obtain ⟨a1, hEL⟩ := i0.2.2.2.2.2.2
  obtain ⟨cB, kB, j1, j2, j3⟩ := isOf (s := s.setVm V) hZ eT E
  obtain ⟨v, vm₁, ⟨U, Lu, ku, nu⟩, hWv, X2, hS2, hgr, ⟨L, B', e1, e2, e3, r1, r2, r3, r4, r5, r6, r7⟩, st'⟩ := X1.virtualBackUpS i0.1 (x := zi) (y := z) (owner := owner) hown (mv (s := s.setVm V) hZ w1) (mv (s := s.setVm V) hZ w2) (mv (s := s.setVm V) hZ w3) ho (mv (s := s.setVm V) hZ w4) (mv (s := s.setVm V) hZ w5) (BackS.con K hZ wc wz hf hl hEL hC hK) j1 j3 (g := mkF m pc ls stk) rfl (hsize.trans i0.2.2.1.symm) (Steps.refl _) (argsL := argsL) (rest := st) hlen hstk (by show 2 * 0 + _ ≤ _; omega) (i0.2.1 ▸ hd) (fun _ _ => ⟨has, eT, by show k + _ ≤ _; omega, by show n + _ ≤ _; omega⟩)
  dsimp only [Pt.U, Pt.locs, Pt.cells, Pt.slots] at X2 hS2 hgr e1 e2 e3 r2 r3 r5 r6 r7 st'
  subst e1 e2 e3 hp
  exact Go.via st' (g U U.heap B' v ((Wk.after i0 hz hB hZ hown hS hq hF X2 hS2 r1 r2 r3 r4 r5 r6).mono hk1 hn1) r6 r4 r7)
theorem privAt {s : State} {z : MethodName} (hZ : Z.Warmed39 s.vm) (w : (Jvm.Cond.privateMethod z).before a0 Z = true) : s.PrivateAt z := Cond.privateMethod_at (mvP (args := #[]) hZ w)
theorem W.callP (X : Wk l Z EL y bytes maxL ret R B0 p e s m args below meth c B T h k n) {index : Nat} {z : MethodName} {C : String} {zb : ByteArray} {zl W : Nat} {zr : Option FieldType} {rm : Room} {as' : Array Value} {Qc : Option Value → Heap → (Addr → Prop) → Prop} {argsL stk : List Value} (K : Con l Z EL [] z zb zl zr rm B h as' Qc) (w1 : (Jvm.Cond.methodLink y.cls index z).before a0 Z = true) (w2 : (Jvm.Cond.instanceMethod z).before a0 Z = true) (w3 : NotFace Z z) (w4 : (Jvm.Cond.privateMethod z).before a0 Z = true) (E : Exa Z h a C) (wc : (Jvm.Cond.code z zb zl zr).before a0 Z = true) (wz : (Jvm.Cond.initialized z.cls).before a0 Z = true) (hy : z.cls ≠ "java/lang/invoke/MethodHandle" ∧ z.cls ≠ "java/lang/invoke/VarHandle") (hf : rm.frames + 1 ≤ R.frames) (hl : W + (zl + 11) + rm.locals ≤ R.locals) (hsize : ls.size = maxL)
    (hlen : ∀ sig, parseMethodDescriptor z.desc = some sig → argsL.length = sig.parameters.length) (has : (.ref a :: argsL).toArray = as') (hstk : stk = argsL.reverse ++ .ref a :: st) (hW : (st.map fun v => v.category).sum ≤ W) (hd : decode bytes pc = .ok (.invokevirtual index, 3)) (hp : pc + 3 = pc') {k' n' : Nat} (hk1 : k + rm.cells ≤ k') (hn1 : n + rm.slots ≤ n') (hk2 : k' ≤ R.cells) (hn2 : n' ≤ R.slots)
    (g : ∀ T' h' B' v, Wk l Z EL y bytes maxL ret R B0 p e s m args below meth c B' T' h' k' n' → h.size ≤ h'.size → (∀ x, B' x → B x ∨ h.size ≤ x) → Qc v h' B' → Go l Z EL R B0 Q p e s m below T' pc' ls (v.toList ++ st)) : Go l Z EL R B0 Q p e s m below T pc ls stk := by
  obtain ⟨i0, hE, hz, hB, V, locs, q0, X1, eT, hZ, hown, hS, hq, hF, hC, hK⟩ := X
  obtain ⟨a1, hEL⟩ := i0.2.2.2.2.2.2
  have w3' : NotFace (s.setVm V) z := fun r0 h0 => by
    have h0' : (Z.setVm V).methodNamed? z = some r0 := h0
    rw [State.methodNamed?_setVm hZ.alike] at h0'
    obtain ⟨kr, q1, q2⟩ := w3 r0 h0'
    obtain ⟨k2, q3, q4⟩ := hZ.alike.2.2 _ _ q1
    exact ⟨k2, q3, by rw [q4]; exact q2⟩
  obtain ⟨cellP, hcP, hobj⟩ := Exa.cell E
  have hcell : T.heap[a]? = some cellP := by rw [eT]; exact hcP
  obtain ⟨mkP, methP, hnP, -⟩ := Cond.instanceMethod_spec (mv (args := args) (s := s.setVm V) hZ w2)
  obtain ⟨kP, hkP, hkPi⟩ := w3' mkP hnP
  have hsel : (Jvm.Cond.selects z.cls z z).before args (s.setVm V) = true := Jvm.Stand.selects_self_of_private (findClass_of_methodNamed hnP) hkP hkPi (privAt (s := s.setVm V) hZ w4) (mv (s := s.setVm V) hZ w2) hy
  obtain ⟨v, vm₁, ⟨U, Lu, ku, nu⟩, hWv, X2, hS2, hgr, ⟨L, B', e1, e2, e3, r1, r2, r3, r4, r5, r6, r7⟩, st'⟩ := X1.privateBackS i0.1 (y := z) hown (mv (s := s.setVm V) hZ w1) (mv (s := s.setVm V) hZ w2) hsel (privAt (s := s.setVm V) hZ w4) (mv (s := s.setVm V) hZ wc) hy (BackS.con K hZ wc wz hf hl hEL hC hK) (g := mkF m pc ls stk) rfl (hsize.trans i0.2.2.1.symm) (Steps.refl _) hcell hobj (argsL := argsL) (rest := st) hlen hstk (by show 2 * 0 + _ ≤ _; omega) (i0.2.1 ▸ hd) (fun _ _ => ⟨has, eT, by show k + _ ≤ _; omega, by show n + _ ≤ _; omega⟩)
  dsimp only [Pt.U, Pt.locs, Pt.cells, Pt.slots] at X2 hS2 hgr e1 e2 e3 r2 r3 r5 r6 r7 st'
  subst e1 e2 e3 hp
  exact Go.via st' (g U U.heap B' v ((Wk.after i0 hz hB hZ hown hS hq hF X2 hS2 r1 r2 r3 r4 r5 r6).mono hk1 hn1) r6 r4 r7)
theorem W.callX (X : Wk l Z EL y bytes maxL ret R B0 p e s m args below meth c B T h k n) {index : Nat} {z : MethodName} {C : String} {zb : ByteArray} {zl W : Nat} {zr : Option FieldType} {rm : Room} {as' : Array Value} {Qc : Option Value → Heap → (Addr → Prop) → Prop} {argsL stk : List Value} (K : Con l Z EL [] z zb zl zr rm B h as' Qc) (w1 : (Jvm.Cond.methodLink y.cls index z).before a0 Z = true) (w2 : (Jvm.Cond.sameMethod z.cls z.cls z.name z.desc).before a0 Z = true) (w3 : (Jvm.Cond.instanceMethod z).before a0 Z = true) (w4 : (Jvm.Cond.superclass y.cls z.cls).before a0 Z = true) (hn : z.name ≠ "<init>") (E : Exa Z h a C) (wc : (Jvm.Cond.code z zb zl zr).before a0 Z = true) (wz : (Jvm.Cond.initialized z.cls).before a0 Z = true)  (hf : rm.frames + 1 ≤ R.frames) (hl : W + (zl + 11) + rm.locals ≤ R.locals) (hsize : ls.size = maxL)
    (hlen : ∀ sig, parseMethodDescriptor z.desc = some sig → argsL.length = sig.parameters.length) (has : (.ref a :: argsL).toArray = as') (hstk : stk = argsL.reverse ++ .ref a :: st) (hW : (st.map fun v => v.category).sum ≤ W) (hd : decode bytes pc = .ok (.invokespecial index, 3)) (hp : pc + 3 = pc') {k' n' : Nat} (hk1 : k + rm.cells ≤ k') (hn1 : n + rm.slots ≤ n') (hk2 : k' ≤ R.cells) (hn2 : n' ≤ R.slots)
    (g : ∀ T' h' B' v, Wk l Z EL y bytes maxL ret R B0 p e s m args below meth c B' T' h' k' n' → h.size ≤ h'.size → (∀ x, B' x → B x ∨ h.size ≤ x) → Qc v h' B' → Go l Z EL R B0 Q p e s m below T' pc' ls (v.toList ++ st)) : Go l Z EL R B0 Q p e s m below T pc ls stk := by
  obtain ⟨i0, hE, hz, hB, V, locs, q0, X1, eT, hZ, hown, hS, hq, hF, hC, hK⟩ := X
  obtain ⟨a1, hEL⟩ := i0.2.2.2.2.2.2
  obtain ⟨v, vm₁, ⟨U, Lu, ku, nu⟩, hWv, X2, hS2, hgr, ⟨L, B', e1, e2, e3, r1, r2, r3, r4, r5, r6, r7⟩, st'⟩ := Jvm.RoadKit.superBackS X1 i0.1 hZ hown w1 w2 w3 w4 hn (BackS.con K hZ wc wz hf hl hEL hC hK) eT (Ins.self E) (g := mkF m pc ls stk) rfl (hsize.trans i0.2.2.1.symm) wc (argsL := argsL) (rest := st) hlen hstk (by show 2 * 0 + _ ≤ _; omega) (i0.2.1 ▸ hd) (fun _ _ => ⟨has, eT, by show k + _ ≤ _; omega, by show n + _ ≤ _; omega⟩)
  dsimp only [Pt.U, Pt.locs, Pt.cells, Pt.slots] at X2 hS2 hgr e1 e2 e3 r2 r3 r5 r6 r7 st'
  subst e1 e2 e3 hp
  exact Go.via st' (g U U.heap B' v ((Wk.after i0 hz hB hZ hown hS hq hF X2 hS2 r1 r2 r3 r4 r5 r6).mono hk1 hn1) r6 r4 r7)
theorem kp {xv : Value} (g : ∀ T', Wk l Z EL y bytes maxL ret R B0 p e s m args below meth c B T' h k n → Go l Z EL R B0 Q p e s m below T' pc' ls (xv :: st)) : ∀ T' h' B' v, Wk l Z EL y bytes maxL ret R B0 p e s m args below meth c B' T' h' k n → h.size ≤ h'.size → (∀ x, B' x → B x ∨ h.size ≤ x) → (v = some xv ∧ h' = h ∧ B' = B) → Go l Z EL R B0 Q p e s m below T' pc' ls (v.toList ++ st) := by
  rintro T' h' B' v X - - ⟨rfl, rfl, rfl⟩; exact g T' X
theorem kpv (g : ∀ T', Wk l Z EL y bytes maxL ret R B0 p e s m args below meth c B T' h k n → Go l Z EL R B0 Q p e s m below T' pc' ls st) : ∀ T' h' B' v, Wk l Z EL y bytes maxL ret R B0 p e s m args below meth c B' T' h' k n → h.size ≤ h'.size → (∀ x, B' x → B x ∨ h.size ≤ x) → (v = none ∧ h' = h ∧ B' = B) → Go l Z EL R B0 Q p e s m below T' pc' ls (v.toList ++ st) := by
  rintro T' h' B' v X - - ⟨rfl, rfl, rfl⟩; exact g T' X
theorem kr {Qc : Value → Heap → Prop} (g : ∀ T' h' x, Wk l Z EL y bytes maxL ret R B0 p e s m args below meth c B T' h' k n → h.size ≤ h'.size → Qc x h' → Go l Z EL R B0 Q p e s m below T' pc' ls (x :: st)) : ∀ T' h' B' v, Wk l Z EL y bytes maxL ret R B0 p e s m args below meth c B' T' h' k n → h.size ≤ h'.size → (∀ x, B' x → B x ∨ h.size ≤ x) → (∃ x, v = some x ∧ B' = B ∧ Qc x h') → Go l Z EL R B0 Q p e s m below T' pc' ls (v.toList ++ st) := by
  rintro T' h' B' v X z - ⟨x, rfl, rfl, q⟩; exact g T' h' x X z q
theorem kv {Qc : Heap → Prop} (g : ∀ T' h', Wk l Z EL y bytes maxL ret R B0 p e s m args below meth c B T' h' k n → h.size ≤ h'.size → Qc h' → Go l Z EL R B0 Q p e s m below T' pc' ls st) : ∀ T' h' B' v, Wk l Z EL y bytes maxL ret R B0 p e s m args below meth c B' T' h' k n → h.size ≤ h'.size → (∀ x, B' x → B x ∨ h.size ≤ x) → (v = none ∧ B' = B ∧ Qc h') → Go l Z EL R B0 Q p e s m below T' pc' ls (v.toList ++ st) := by
  rintro T' h' B' v X z - ⟨rfl, rfl, q⟩; exact g T' h' X z q
theorem kri {Qc : Value → Heap → (Addr → Prop) → Prop} (g : ∀ T' h' B' x, Wk l Z EL y bytes maxL ret R B0 p e s m args below meth c B' T' h' k n → h.size ≤ h'.size → (∀ x, B' x → B x ∨ h.size ≤ x) → Qc x h' B' → Go l Z EL R B0 Q p e s m below T' pc' ls (x :: st)) : ∀ T' h' B' v, Wk l Z EL y bytes maxL ret R B0 p e s m args below meth c B' T' h' k n → h.size ≤ h'.size → (∀ x, B' x → B x ∨ h.size ≤ x) → (∃ x, v = some x ∧ Qc x h' B') → Go l Z EL R B0 Q p e s m below T' pc' ls (v.toList ++ st) := by
  rintro T' h' B' v X z zb ⟨x, rfl, q⟩; exact g T' h' B' x X z zb q
theorem kvi {Qc : Heap → (Addr → Prop) → Prop} (g : ∀ T' h' B', Wk l Z EL y bytes maxL ret R B0 p e s m args below meth c B' T' h' k n → h.size ≤ h'.size → (∀ x, B' x → B x ∨ h.size ≤ x) → Qc h' B' → Go l Z EL R B0 Q p e s m below T' pc' ls st) : ∀ T' h' B' v, Wk l Z EL y bytes maxL ret R B0 p e s m args below meth c B' T' h' k n → h.size ≤ h'.size → (∀ x, B' x → B x ∨ h.size ≤ x) → (v = none ∧ Qc h' B') → Go l Z EL R B0 Q p e s m below T' pc' ls (v.toList ++ st) := by
  rintro T' h' B' v X z zb ⟨rfl, q⟩; exact g T' h' B' X z zb q
/-! System.arraycopy -/
theorem range_getD {vs : List Value} {i len : Nat} (d : Value) (hl : i + len ≤ vs.length) : (List.range len).map (fun q => vs.getD (i + q) d) = (vs.drop i).take len := by
  apply List.ext_getElem?
  intro j
  by_cases hj : j < len
  · rw [List.getElem?_map, List.getElem?_range hj, List.getElem?_take_of_lt hj, List.getElem?_drop]
    simp only [Option.map_some, List.getD_eq_getElem?_getD]
    rw [List.getElem?_eq_getElem (by omega : i + j < vs.length)]; rfl
  · rw [List.getElem?_eq_none (by simpa using hj), List.getElem?_eq_none (by simp; omega)]
theorem W.acopy (X : Wk l Z EL y bytes maxL ret R B0 p e s m args below meth c B T h k n) {index W : Nat} {sp dp nn : Int32} {i j len : Nat} {us : List Value} (A : Ar Z h a ty vs) (D : Ar Z h b ty us) (w1 : (Jvm.Cond.methodLink y.cls index Jvm.Stand.acN).before a0 Z = true) (w2 : (Jvm.Cond.native Jvm.Stand.acN).before a0 Z = true) (w3 : (Jvm.Cond.static Jvm.Stand.acN).before a0 Z = true) (w4 : (Jvm.Cond.initialized "java/lang/System").before a0 Z = true) (hty : refKind ty = false)
    (h1 : i.toInt32 = sp) (h2 : j.toInt32 = dp) (h3 : len.toInt32 = nn) (h4 : i + len ≤ vs.length) (h5 : j + len ≤ us.length) (ha : Z.heap.size ≤ b) (hnb : ¬ B b) (hsize : ls.size = maxL) (hf : 1 ≤ R.frames) (hW : (st.map fun v => v.category).sum ≤ W) (hlo : W + (nativeFrameWords "java/lang/System" "arraycopy" 5 + 11) ≤ R.locals) (hd : decode bytes pc = .ok (.invokestatic index, 3)) (hp : pc + 3 = pc')
    (g : ∀ T' h', Wk l Z EL y bytes maxL ret R B0 p e s m args below meth c B T' h' k n → Keep h h' [b] → Ar Z h' b ty (us.take j ++ (vs.drop i).take len ++ us.drop (j + len)) → Go l Z EL R B0 Q p e s m below T' pc' ls st) : Go l Z EL R B0 Q p e s m below T pc ls (.int nn :: .int dp :: .ref b :: .int sp :: .ref a :: st) := by
  obtain ⟨i0, hE, hz, hB, V, locs, q0, X1, eT, hZ, hown, hS, hq, hF, hC, hK⟩ := X
  have hv := A.len_lt
  have hu := D.len_lt
  subst h1 h2 h3 hp
  obtain ⟨n1, e1, -⟩ := len32 (show i < 2 ^ 31 by omega)
  obtain ⟨n2, e2, -⟩ := len32 (show j < 2 ^ 31 by omega)
  obtain ⟨n3, e3, -⟩ := len32 (show len < 2 ^ 31 by omega)
  obtain ⟨n4, e4, -⟩ := len32 hv
  obtain ⟨n5, e5, -⟩ := len32 hu
  obtain ⟨ka, A'⟩ := A.toArv rfl (.int 0)
  obtain ⟨kb, D'⟩ := D.toArv rfl (.int 0)
  obtain ⟨T', h', L, X', e', N', K', R', st'⟩ := RoadKit.cpA X1 i0.1 hZ hown w1 w2 w3 w4 eT A' D' (us := (List.range len).map fun q => vs.getD (i + q) (.int 0)) (Or.inl ⟨rfl, hty⟩) n1 n2 n3 (by rw [e1, e3, e4]; exact h4) (by rw [e2, e3, e5]; exact h5) (by rw [e1, e3]) (by rw [e2, e3]; exact h5) hF ha (g := mkF m pc ls (.int len.toInt32 :: .int j.toInt32 :: .ref b :: .int i.toInt32 :: .ref a :: st)) rfl (hsize.trans i0.2.2.1.symm) rfl (i0.2.1 ▸ hd) hf (W := W) (by show 2 * 0 + _ ≤ _; omega) hlo
  rw [range_getD _ h4, e2, e3] at R'
  have S : ∀ x ∈ [b], Safe Z EL V h x := fun x hx => by cases List.mem_singleton.mp hx; exact fun r => hnb (hK b r)
  have hO := (Old.keep (n0 := Z.heap.size) ⟨rfl, hE.1⟩ K' (allS ha all0)).2
  exact Go.step st' (g T' h' ⟨i0, ⟨hO, fun x r => Nat.lt_of_lt_of_le (hE.2 x r) K'.1⟩, Nat.le_trans hz K'.1, hB, V, L, q0, X', e', hZ, hown, hS, Nat.le_trans hq K'.1, N', hC.keep K' S, fun x r => hK x ((hC.keepStep K' S).2 x r)⟩ K' (Ar.ofArv R' (by rw [e5]; simp; omega)))
/-! the end -/
theorem W.fin (X : Wk l Z EL y bytes maxL ret R B0 p e s m args below meth c B T h k n) {v : Option Value} (hv : ret = none → v = none) (hk : k ≤ R.cells) (hn : n ≤ R.slots) (q : Q v h B) (run : ∀ fs, (∀ (f : JFrame) (acts : List Action), f.method = m → f.locked = none → f.entered = [] → (doReturn e (T.setTop f) acts v).1 = T.setFrames fs) → Steps p.tables e below (T.setTop (mkF m pc ls st)) (T.setFrames fs)) : Go l Z EL R B0 Q p e s m below T pc ls st := by
  obtain ⟨i0, hE, hz, hB, V, locs, q0, X1, eT, hZ, hown, hS, hq, hF, hC, hK⟩ := X
  obtain ⟨a1, hEL⟩ := i0.2.2.2.2.2.2
  obtain ⟨fs, hr, hrun, hend, hW⟩ := X1.leaveW hS (by rw [eT]; exact hq) (v := v) (fun z => hv (i0.2.2.2.1.symm.trans z)) i0.2.2.2.2.1
  have eh : (T.setFrames fs).heap = h := eT
  have q1 := CHv.at X1 hZ hEL hC
  refine ⟨T.setFrames fs, _, run fs hr, hrun, hend, v, locs, B, rfl, hF, by rw [eh]; exact q1.1, fun x r => ?_, hB, by rw [eh]; exact hE, by rw [eh]; exact hz, by rw [eh]; exact q, hW.1, hW.2.1, hW.2.2.1, hW.2.2.2.mono hk hn⟩
  rw [eh] at r
  rcases q1.2.2 x r with z | z
  · exact hK x z
  · obtain ⟨cell, q2⟩ := r.there
    exact absurd (Array.getElem?_eq_some_iff.mp q2).1 (Nat.not_lt.mpr z)
theorem W.ireturn (X : Wk l Z EL y bytes maxL ret R B0 p e s m args below meth c B T h k n) {t : FieldType} {x : Int32} (hd : decode bytes pc = .ok (.ireturn, 1)) (hret : ret = some t) (ht : t = .int ∨ t = .boolean ∨ t = .byte ∨ t = .char ∨ t = .short) (hnw : narrow t (.int x) = .int x) (hk : k ≤ R.cells) (hn : n ≤ R.slots) (q : Q (some (.int x)) h B) : Go l Z EL R B0 Q p e s m below T pc ls (.int x :: st) := by
  have X0 := X
  obtain ⟨i0, hE, hz, hB, V, locs, q0, X1, eT, hZ, hown, hS, hq, hF, hC, hK⟩ := X
  exact W.fin X0 (fun z => by rw [hret] at z; cases z) hk hn q fun fs hl => RoadKit.retOut (i := .ireturn) X1 i0.1 (i0.2.2.2.1.trans hret) hnw (Or.inl ⟨rfl, ht, x, rfl⟩) (i0.2.1 ▸ hd) hl
theorem W.lreturn (X : Wk l Z EL y bytes maxL ret R B0 p e s m args below meth c B T h k n) {x : Int64} (hd : decode bytes pc = .ok (.lreturn, 1)) (hret : ret = some .long) (hk : k ≤ R.cells) (hn : n ≤ R.slots) (q : Q (some (.long x)) h B) : Go l Z EL R B0 Q p e s m below T pc ls (.long x :: st) := by
  have X0 := X
  obtain ⟨i0, hE, hz, hB, V, locs, q0, X1, eT, hZ, hown, hS, hq, hF, hC, hK⟩ := X
  exact W.fin X0 (fun z => by rw [hret] at z; cases z) hk hn q fun fs hl => RoadKit.retOut (i := .lreturn) X1 i0.1 (i0.2.2.2.1.trans hret) rfl (Or.inr (Or.inl ⟨rfl, rfl, x, rfl⟩)) (i0.2.1 ▸ hd) hl
theorem W.areturn (X : Wk l Z EL y bytes maxL ret R B0 p e s m args below meth c B T h k n) {t : FieldType} {v : Value} (hd : decode bytes pc = .ok (.areturn, 1)) (hret : ret = some t) (ht : t.isReference = true) (hv : v.isRef = true) (hnw : narrow t v = v) (hk : k ≤ R.cells) (hn : n ≤ R.slots) (q : Q (some v) h B) : Go l Z EL R B0 Q p e s m below T pc ls (v :: st) := by
  have X0 := X
  obtain ⟨i0, hE, hz, hB, V, locs, q0, X1, eT, hZ, hown, hS, hq, hF, hC, hK⟩ := X
  exact W.fin X0 (fun z => by rw [hret] at z; cases z) hk hn q fun fs hl => RoadKit.retOut (i := .areturn) X1 i0.1 (i0.2.2.2.1.trans hret) hnw (Or.inr (Or.inr (Or.inr (Or.inr ⟨rfl, ht, hv⟩)))) (i0.2.1 ▸ hd) hl
theorem W.vreturn (X : Wk l Z EL y bytes maxL ret R B0 p e s m args below meth c B T h k n) (hd : decode bytes pc = .ok (.return_, 1)) (hret : ret = none) (hk : k ≤ R.cells) (hn : n ≤ R.slots) (q : Q none h B) : Go l Z EL R B0 Q p e s m below T pc ls [] := by
  have X0 := X
  obtain ⟨i0, hE, hz, hB, V, locs, q0, X1, eT, hZ, hown, hS, hq, hF, hC, hK⟩ := X
  exact W.fin X0 (fun _ => rfl) hk hn q fun fs hl => X1.returnOut i0.1 (i0.2.2.2.1.trans hret) (i0.2.1 ▸ hd) hl
/-! the entry -/
theorem Con.intro {wl : List Jvm.Cond} {rm : Room} {as' : Array Value} (hpl : plainFor y = true) (hEW : EW Z a0 EL) (hE : En Z B h) (hef : ∀ m, entryFrame m as' maxL = mkF m 0 ls [])
    (body : ∀ p e s m below meth c T, s.heap = h → Wk l Z EL y bytes maxL ret rm B p e s m as' below meth c B T h 0 0 → Go l Z EL rm B Q p e s m below T 0 ls []) : Con l Z EL wl y bytes maxL ret rm B h as' Q := by
  refine MetFree.of_bodySF hpl hisR ?_
  intro p e s m args below meth c s₁ Bd hml0 hP hK
  obtain ⟨rfl, hZ, hh, hC, hBk⟩ := hP
  have X0 : Stand p l e rm s m args below meth c s₁ [] 0 0 := Stand.of_body Bd
  have e0 : s₁.heap = h := by rw [← hh, Bd.state]; rfl
  have hg : Go l Z EL rm B Q p e s m below s₁ 0 ls [] := body p e s m below meth c s₁ hh ⟨⟨Bd.exec, Bd.bytes, hml0, Bd.returns, Bd.notSynchronized, (name_of_methodNamed Bd.named Bd.method).1, a0, hEW⟩, hE, by rw [hh]; exact Nat.le_refl _, fun x r => Or.inl r, s.vm, [], s.heap.size, X0, e0, hZ, findClass_of_methodNamed Bd.named, (State.WarmedH.refl s).since _, by rw [hh]; exact Nat.le_refl _, Fr.nil _, hC, hBk⟩
  obtain ⟨s₂, o, h1, h2, h3, v, L, B', g1, g2, g3, g4, g5, g6, g7, g8, g9⟩ := hg
  rw [hh] at g5 g7
  exact ⟨s₂, o, castTop (hef m) h1, h2, h3, v, L, B', g1, g2, g3, g4, g5, g6, g7, g8, g9⟩
/-! String constants -/
theorem W.ldcO (X : Wk l Z EL y bytes maxL ret R B0 p e s m args below meth c B T h k n) {index cap : Nat} {text : String} (hEW : EW Z a0 EL) (w : (Jvm.Cond.stringLink y.cls index text).before a0 Z = true) (wS : ∀ a ∈ Bundle.stringAtoms, a.before a0 Z = true) (hd : decode bytes pc = .ok (.ldc index, 2)) (hcap : 4 * text.toList.length ≤ cap) (hbig : cap ≤ 536870912) (hp : pc + 2 = pc') {k' n' : Nat} (hk : k + 2 ≤ k') (hn : n + (cap + 4) ≤ n') (hk' : k' ≤ R.cells) (hn' : n' ≤ R.slots)
    (g : ∀ T' h' B' a, Wk l Z EL y bytes maxL ret R B0 p e s m args below meth c B' T' h' k' n' → Keep h h' [] → (∀ x, B' x → B x ∨ h.size ≤ x) → Go l Z EL R B0 Q p e s m below T' pc' ls (.ref a :: st)) : Go l Z EL R B0 Q p e s m below T pc ls st := by
  obtain ⟨i0, hE, hz, hB, V, locs, q0, X1, eT, hZ, hown, hS, hq, hF, hC, hK⟩ := X
  obtain ⟨a1, hEL⟩ := i0.2.2.2.2.2.2
  obtain ⟨a, T', h', k1, X', e', E, hS', hk1, hZ', hown', hr, -, st'⟩ := ldcOH X1 i0.1 hZ hown w wS eT hS hq hEW hC (g := mkF m pc ls st) rfl (i0.2.1 ▸ hd) hcap hbig (Nat.le_trans hk hk') (Nat.le_trans hn hn')
  subst hp
  let B' : Addr → Prop := fun x => B x ∨ (h.size ≤ x ∧ x < h'.size)
  have hB' : ∀ x, Bk Z EL T'.vm h' x → B' x := fun x r => (hr.2.2 x r).elim (fun z => Or.inl (hK x z)) fun z => by
    obtain ⟨cell, q⟩ := r.there
    exact Or.inr ⟨z, (Array.getElem?_eq_some_iff.mp q).1⟩
  refine Go.step st' (g T' h' B' a ⟨i0, ⟨(hE.ext E).1, fun x r => r.elim (fun z => Nat.lt_of_lt_of_le (hE.2 x z) E.1) fun z => z.2⟩, Nat.le_trans hz E.1, fun x r => r.elim (hB x) fun z => Or.inr (Nat.le_trans hz z.1), T'.vm, locs, k1, X'.mono hk hn, e', hZ', hown', hS', hk1, hF, hr.1, hB'⟩ (keepE E) (fun x r => r.imp id fun z => z.1))
theorem W.ldcR (X : Wk l Z EL y bytes maxL ret R B0 p e s m args below meth c B T h k n) {index cap : Nat} {text : String} {cs : List Int32} (hmem : (y.cls, index) ∈ EL) (w : (Jvm.Cond.stringLink y.cls index text).before a0 Z = true) (wS : ∀ a ∈ Bundle.stringAtoms, a.before a0 Z = true) (hEW : EW Z a0 EL) (ht : (∀ c ∈ text.toList, c.toNat < 256) ∧ text.toList.map (fun c => Value.int (Jvm.Lit.byteI c.toNat.toUInt16)) = by8 cs) (hlat : Lat cs) (hlen : cs.length < 2 ^ 31) (hd : decode bytes pc = .ok (.ldc index, 2)) (hcap : 4 * text.toList.length ≤ cap) (hbig : cap ≤ 536870912) (hp : pc + 2 = pc') {k' n' : Nat} (hk : k + 2 ≤ k') (hn : n + (cap + 4) ≤ n') (hk' : k' ≤ R.cells) (hn' : n' ≤ R.slots)
    (g : ∀ T' h' B' a b, Wk l Z EL y bytes maxL ret R B0 p e s m args below meth c B' T' h' k' n' → Keep h h' [] → (∀ x, B' x → B x ∨ h.size ≤ x) → Str Z h' a b cs → (∀ x, ¬ B' x → x ≠ a ∧ x ≠ b) → Go l Z EL R B0 Q p e s m below T' pc' ls (.ref a :: st)) : Go l Z EL R B0 Q p e s m below T pc ls st := by
  obtain ⟨i0, hE, hz, hB, V, locs, q0, X1, eT, hZ, hown, hS, hq, hF, hC, hK⟩ := X
  obtain ⟨q1, q2, q3⟩ := len32 hlen
  obtain ⟨a, T', h', k1, b, kb, X', e', E, hS', hk1, hZ', hown', f1, f2, f3, f4, la, lb, hr, -, hne, st'⟩ := ldcCH X1 i0.1 hZ hown w wS eT hS hq hEW hmem hC ht q1 (by rw [q2]; simp) (g := mkF m pc ls st) rfl (i0.2.1 ▸ hd) hcap hbig (Nat.le_trans hk hk') (Nat.le_trans hn hn')
  subst hp
  let B' : Addr → Prop := fun x => B x ∨ (h.size ≤ x ∧ x < h'.size)
  have hB' : ∀ x, Bk Z EL T'.vm h' x → B' x := fun x r => (hr.2.2 x r).elim (fun z => Or.inl (hK x z)) fun z => by
    obtain ⟨cell, q⟩ := r.there
    exact Or.inr ⟨z, (Array.getElem?_eq_some_iff.mp q).1⟩
  refine Go.step st' (g T' h' B' a b ⟨i0, ⟨(hE.ext E).1, fun x r => r.elim (fun z => Nat.lt_of_lt_of_le (hE.2 x z) E.1) fun z => z.2⟩, Nat.le_trans hz E.1, fun x r => r.elim (hB x) fun z => Or.inr (Nat.le_trans hz z.1), T'.vm, locs, k1, X'.mono hk hn, e', hZ', hown', hS', hk1, hF, hr.1, hB'⟩ (keepE E) (fun x r => r.imp id fun z => z.1) ⟨f1, f2, f3, Ar.ofArv f4 (by rw [q2]; simp), hlat⟩ fun x r => hne x fun z => r (hB' x z))

end Own
section More
open Jvm.Free.Exc
variable {l : Launch} {Z : State} {EL : List (String × Nat)} {y : MethodName} {bytes : ByteArray} {maxL : Nat} {ret : Option FieldType} {R : Room} {B0 : Addr → Prop} {Q : Option Value → Heap → (Addr → Prop) → Prop} {p : Program} {e : Env} {s : State} {m : MethodId} {args : Array Value} {below : List Frame} {meth : Method} {c : Code} {B : Addr → Prop} {T : State} {h h' : Heap} {k n : Nat} {a0 : Array Value} {pc pc' : Nat} {ls ls' : Array Slot} {st : List Value} {a b : Addr} {ws : List Addr} {ty : FieldType} {vs : List Value}
/-! a Throwable made by the walk: what is known of the frames; fillInStackTrace -/
def KN (e : Env) (below : List Frame) (s : State) : Prop := e.platform.stackTraces = true ∧ s.vm.MethodsKnown ∧ s.vm.FramesKnown below
def ConK (l : Launch) (Z : State) (EL : List (String × Nat)) (wl : List Jvm.Cond) (y : MethodName) (bytes : ByteArray) (maxL : Nat) (ret : Option FieldType) (rm : Room) (B : Addr → Prop) (h : Heap) (as' : Array Value) (Q : Option Value → Heap → (Addr → Prop) → Prop) : Prop :=
  MetFree l y (head1 (Jvm.Cond.code y bytes maxL ret :: wl) rm) (fun a U => a = as' ∧ Z.Warmed39 U.vm ∧ U.heap = h ∧ CHv Z EL U.vm h ∧ ∀ x, Bk Z EL U.vm h x → B x) (fun _ e below s _ => KN e below s)
    (fun _ U o U' => ∃ v L B', o = .returned v ∧ Fr Z.heap.size L ∧ CHv Z EL U'.vm U'.heap ∧ (∀ x, Bk Z EL U'.vm U'.heap x → B' x) ∧ (∀ x, B' x → B x ∨ h.size ≤ x) ∧ En Z B' U'.heap ∧ h.size ≤ U'.heap.size ∧ Q v U'.heap B' ∧ ReturnedEndW U o U' L rm.cells rm.slots)
theorem ConK.intro {wl : List Jvm.Cond} {rm : Room} {as' : Array Value} (hpl : plainFor y = true) (hEW : EW Z a0 EL) (hE : En Z B h) (hef : ∀ m, entryFrame m as' maxL = mkF m 0 ls [])
    (body : ∀ p e s m below meth c T, s.heap = h → KN e below s → Wk l Z EL y bytes maxL ret rm B p e s m as' below meth c B T h 0 0 → Go l Z EL rm B Q p e s m below T 0 ls []) : ConK l Z EL wl y bytes maxL ret rm B h as' Q := by
  refine MetFree.of_bodySF hpl hisR ?_
  intro p e s m args below meth c s₁ Bd hml0 hP hKN
  obtain ⟨rfl, hZ, hh, hC, hBk⟩ := hP
  have X0 : Stand p l e rm s m args below meth c s₁ [] 0 0 := Stand.of_body Bd
  have e0 : s₁.heap = h := by rw [← hh, Bd.state]; rfl
  have hg : Go l Z EL rm B Q p e s m below s₁ 0 ls [] := body p e s m below meth c s₁ hh hKN ⟨⟨Bd.exec, Bd.bytes, hml0, Bd.returns, Bd.notSynchronized, (name_of_methodNamed Bd.named Bd.method).1, a0, hEW⟩, hE, by rw [hh]; exact Nat.le_refl _, fun x r => Or.inl r, s.vm, [], s.heap.size, X0, e0, hZ, findClass_of_methodNamed Bd.named, (State.WarmedH.refl s).since _, by rw [hh]; exact Nat.le_refl _, Fr.nil _, hC, hBk⟩
  obtain ⟨s₂, o, h1, h2, h3, v, L, B', g1, g2, g3, g4, g5, g6, g7, g8, g9⟩ := hg
  rw [hh] at g5 g7
  exact ⟨s₂, o, castTop (hef m) h1, h2, h3, v, L, B', g1, g2, g3, g4, g5, g6, g7, g8, g9⟩
theorem KN.at {V : Vm} {q0 : Nat} (K : KN e below s) (hS : s.Since V q0) : V.MethodsKnown ∧ V.FramesKnown below := ⟨Vm.MethodsKnown.alikeC hS.1.alike K.2.1, Vm.FramesKnown.alikeC hS.1.alike K.2.2⟩
theorem BackS.conK {z : MethodName} {zb : ByteArray} {zl len W : Nat} {zr : Option FieldType} {rm : Room} {as' : Array Value} {Qc : Option Value → Heap → (Addr → Prop) → Prop} {V : Vm} {q0 : Nat} (hkn : KN e below s) (hS : s.Since V q0) (K : ConK l Z EL [] z zb zl zr rm B h as' Qc) (hZ : Z.Warmed39 V) (wc : (Jvm.Cond.code z zb zl zr).before a0 Z = true) (wz : (Jvm.Cond.initialized z.cls).before a0 Z = true) (hf : rm.frames + 1 ≤ R.frames) (hl : W + (zl + 11) + rm.locals ≤ R.locals) {a1 : Array Value} (hEL : EW Z a1 EL) (H : CHv Z EL V h) (hK : ∀ x, Bk Z EL V h x → B x) :
    BackS l R p e below (s.setVm V) args z len W (fun A a => a = as' ∧ A.U.heap = h ∧ A.cells + rm.cells ≤ R.cells ∧ A.slots + rm.slots ≤ R.slots)
      (fun A _ v B1 => ∃ L B', B1.locs = A.locs ++ L ∧ B1.cells = A.cells + rm.cells ∧ B1.slots = A.slots + rm.slots ∧ Fr Z.heap.size L ∧ CHv Z EL B1.U.vm B1.U.heap ∧ (∀ x, Bk Z EL B1.U.vm B1.U.heap x → B' x) ∧ (∀ x, B' x → B x ∨ h.size ≤ x) ∧ En Z B' B1.U.heap ∧ h.size ≤ B1.U.heap.size ∧ Qc v B1.U.heap B') :=
  BackS.of_freeWG (bytes := zb) (maxL := zl) (ret := zr) (E := fun _ first o t L k n => k = rm.cells ∧ n = rm.slots ∧ ∃ v B', o = .returned v ∧ Fr Z.heap.size L ∧ CHv Z EL t.vm t.heap ∧ (∀ x, Bk Z EL t.vm t.heap x → B' x) ∧ (∀ x, B' x → B x ∨ h.size ≤ x) ∧ En Z B' t.heap ∧ h.size ≤ t.heap.size ∧ Qc v t.heap B') K hf hl
    (fun m meth c A a Y hp => have hU : Z.Warmed39 A.U.vm := wtrans (s := s.setVm V) hZ Y.warmed
      ⟨by show (Jvm.Cond.and _ .tt).before a A.U = true; rw [Cond.before_and, mv hU wc]; rfl, mv hU wc, mv hU wz, hp.2.2.1, hp.2.2.2⟩)
    (fun m meth c A a g mk Y hp => ⟨hp.1, wtrans (s := s.setVm V) hZ Y.warmed, hp.2.1, (CHv.at Y hZ hEL H).1, fun x r => by
      rcases (CHv.at Y hZ hEL H).2.2 x r with q | q
      · exact hK x q
      · obtain ⟨cell, q2⟩ := r.there
        exact absurd (Array.getElem?_eq_some_iff.mp q2).1 (Nat.not_lt.mpr q)⟩)
    (fun m meth c A a g mk Y hp hg => ⟨hkn.1, known_frames Y hg (hkn.at hS).1 (hkn.at hS).2⟩)
    (fun _ _ _ _ ⟨v, L, B', h1, h2, h3, h4, h5, h6, h7, h8, h9⟩ => ⟨L, _, _, h9, rfl, rfl, v, B', h1, h2, h3, h4, h5, h6, h7, h8⟩)
    (fun m meth c A a g mk v t L k n Y hp _ _ ⟨e1, e2, v', B', e3, e4, e5, e6, e7, e8, e9, e10⟩ => by
      cases e3; subst e1 e2
      exact ⟨L, B', rfl, rfl, rfl, e4, e5, e6, e7, e8, e9, e10⟩)
theorem W.newU (X : Wk l Z EL y bytes maxL ret R B0 p e s m args below meth c B T h k n) {index sz : Nat} {C : String} (w : (Jvm.Cond.classLink y.cls index C).before a0 Z = true) (wi : (Jvm.Cond.instantiable C sz).before a0 Z = true) (wz : (Jvm.Cond.initialized C).before a0 Z = true) (hd : decode bytes pc = .ok (.new index, 3)) (hp : pc + 3 = pc') {k' n' : Nat} (hk : k + 1 ≤ k') (hn : n + sz ≤ n') (hk' : k' ≤ R.cells) (hn' : n' ≤ R.slots)
    (g : ∀ T' h' a, Wk l Z EL y bytes maxL ret R B0 p e s m args below meth c B T' h' k' n' → Keep h h' [] → h.size ≤ a → Z.heap.size ≤ a → ¬ B a → Exa Z h' a C → (∀ {O nm d : String} {ty : FieldType}, Laid Z a0 C O nm d → parseFieldDescriptor d = some ty → Fld Z h' a O nm d (defaultValue ty)) → Unt h' a → Go l Z EL R B0 Q p e s m below T' pc' ls (.ref a :: st)) : Go l Z EL R B0 Q p e s m below T pc ls st := by
  have X0 := X
  obtain ⟨i0, hE, hz, hB, V, locs, q0, X1, eT, hZ, hown, hS, hq, hF, hC, hK⟩ := X
  obtain ⟨T', h', X', e', E, A, D, N, st'⟩ := RoadKit.newO X1 i0.1 hZ hown w wi wz eT (g := mkF m pc ls st) rfl (i0.2.1 ▸ hd) (Nat.le_trans hk hk') (Nat.le_trans hn hn')
  subst hp
  exact Go.step st' (g T' h' h.size ⟨i0, hE.ext E, Nat.le_trans hz E.1, hB, V, locs, q0, X'.mono hk hn, e', hZ, hown, hS, Nat.le_trans hq E.1, hF, hC.ext E, fun x r => hK x ((hC.step fun _ _ _ q => E.2 _ _ q).2 x r)⟩ (keepE E) (Nat.le_refl _) X0.z0 (X0.nb (Nat.le_refl _)) A D N)
/-- the words that fillInStackTrace() asks of Throwable and of the made object's class -/
def fillWords (rc : String) : List Jvm.Cond := [.initialized tN, .superclass tN "java/lang/Object", .instanceMethod tFill, .codeSync tFill LibCode.Throwable.Fill.code 1 (some (.object tN)), .instanceMethod tFill0, .native tFill0, .instanceMethod tInit0, .code tInit0 LibCode.Throwable.Init0.code 1 none, .instanceMethod oInit, .code oInit ⟨#[0xb1]⟩ 1 none,
  .methodLink tN 1 oInit, .methodLink tN 27 tFill, .methodLink tN 202 tFill0, .fieldLink tN 7 tN "cause" thD, .fieldLink tN 13 tN "UNASSIGNED_STACK" steD, .fieldLink tN 17 tN "stackTrace" steD, .fieldLink tN 20 tN "SUPPRESSED_SENTINEL" listD, .fieldLink tN 24 tN "suppressedExceptions" listD, .fieldLink tN 198 tN "backtrace" obD,
  .laysStatic tN "UNASSIGNED_STACK" steD, .laysStatic tN "SUPPRESSED_SENTINEL" listD, .lays rc tN "cause" thD, .lays rc tN "stackTrace" steD, .lays rc tN "suppressedExceptions" listD, .lays rc tN "detailMessage" msgD, .lays rc tN "backtrace" obD, .lays rc tN "depth" "I",
  .declares tFill, .selects rc tFill0 tFill0, .selects rc tFill tFill, .arrayOver (.object "java/lang/Object"), .soleField tN "backtrace", .soleField tN "depth"]
theorem fill_ok {rc : String} : (fillWords rc).all xOk = true := rfl
theorem params_of {x : MethodName} {sg : MethodDescriptor} (h : parseMethodDescriptor x.desc = some sg) {ps : List FieldType} (q : (parseMethodDescriptor x.desc).map (·.parameters) = some ps) : sg.parameters = ps := by rw [h] at q; exact Option.some.inj q
theorem own_links {S : State} {pl : Platform} {rc : String} {cR : ClassId} {kR : Class} (h1 : pl.frameOwnsMonitors = true) (h2 : pl.finalization = false) (h3 : pl.magicAccessors = ({} : Platform).magicAccessors) (w : ∀ d ∈ fillWords rc, d.before a0 S = true) (hR : S.vm.findClass rc = some cR) (hkR : S.vm.classes[cR]? = some kR) :
    ∃ Th : ThrowableC, Th.Links pl S ∧ S.vm.findClass tN = some Th.cT ∧ S.methodNamed? tFill = some Th.fill ∧ S.methodNamed? tFill0 = some Th.fill0 ∧ S.fieldFound? tN "stackTrace" steD = some (Th.cT, Th.kT, Th.i17, Th.fStack) ∧ Th.fStack.type = .array (.object "java/lang/StackTraceElement") ∧ S.fieldFound? tN "UNASSIGNED_STACK" steD = some (Th.cT, Th.kT, Th.i13, Th.fUnassigned) := by
  have q : ∀ (i : Nat) {d : Jvm.Cond}, (fillWords rc)[i]? = some d → d.holds a0 S none S [] = true := fun i d e => w d (List.mem_of_getElem? e)
  obtain ⟨⟨c, i0⟩, m0, hn0, hm0, nat0, cd0, lk0, sg0⟩ := Cond.native_spec (q 5 rfl)
  have hc : S.vm.findClass tN = some c := findClass_of_methodNamed hn0
  obtain ⟨k, hk, nm⟩ := Vm.findClass_spec hc
  have ini := Cond.initialized_spec hc hk (q 0 rfl)
  obtain ⟨-, k1, -, -, hk1, -, -, hord, -, hni⟩ := Cond.superclass_spec hc (q 1 rfl)
  obtain rfl : k = k1 := Option.some.inj (hk.symm.trans hk1)
  -- the methods
  obtain ⟨iF, mF, hnF, hmF, atF, stF, abF, -, -⟩ := Cond.ownMethod (x := tFill) hc hk (q 2 rfl)
  obtain ⟨mF', cF, hmF', cdF, byF, lcF, rtF, lkF, -, sgF⟩ := Cond.codeSync_spec hnF (q 3 rfl)
  obtain rfl : mF = mF' := Option.some.inj (hmF.symm.trans hmF')
  obtain ⟨j0, m0', hn0', hm0', at0, st0, ab0, nm0, ds0⟩ := Cond.ownMethod (x := tFill0) hc hk (q 4 rfl)
  cases Option.some.inj (hn0.symm.trans hn0')
  obtain rfl : m0 = m0' := Option.some.inj (hm0.symm.trans hm0')
  obtain ⟨iZ, mZ, hnZ, hmZ, -, -, -, -, -⟩ := Cond.ownMethod (x := tInit0) hc hk (q 6 rfl)
  obtain ⟨-, cZ, -⟩ := Cond.code_spec hnZ (q 7 rfl)
  obtain ⟨mO, xO, hnO, hmO, stO, abO⟩ := Cond.instanceMethod_spec (q 8 rfl)
  obtain ⟨xO', cO, hmO', cdO, byO, -, -, lkO, -, sgO⟩ := Cond.code_spec hnO (q 9 rfl)
  obtain rfl : xO = xO' := Option.some.inj (hmO.symm.trans hmO')
  obtain ⟨kO, hkO, nmkO⟩ := className_of_methodNamed hnO
  obtain ⟨nmO, dsO⟩ := name_of_methodNamed hnO hmO
  obtain ⟨ci1, n1, cf, l1, r1, hcf, p1⟩ := Cond.linkedMethod hc hk hnO (q 10 rfl) pl h3
  obtain ⟨ci27, n27, cf1, l27, r27, hcf1, p27⟩ := Cond.linkedMethod hc hk hnF (q 11 rfl) pl h3
  obtain ⟨ci202, n202, cf2, l202, r202, hcf2, p202⟩ := Cond.linkedMethod hc hk hn0 (q 12 rfl) pl h3
  cases hcf.symm.trans hcf1
  cases hcf.symm.trans hcf2
  -- the fields
  obtain ⟨ci7, i7, f7, l7, r7, a7, s7, n7, nm7, ty7, g7⟩ := Cond.ownField (t := .object tN) hc hk (by decide +kernel) (q 13 rfl) (q 21 rfl) pl h3
  obtain ⟨ci17, i17, f17, l17, r17, a17, s17, n17, nm17, ty17, g17⟩ := Cond.ownField (t := .array (.object "java/lang/StackTraceElement")) hc hk (by decide +kernel) (q 15 rfl) (q 22 rfl) pl h3
  obtain ⟨ci24, i24, f24, l24, r24, a24, s24, n24, nm24, ty24, g24⟩ := Cond.ownField (t := .object "java/util/List") hc hk (by decide +kernel) (q 17 rfl) (q 23 rfl) pl h3
  obtain ⟨ci13, i13, f13, aS, cS, l13, r13, a13, s13, -, -, sta, -, -, -, -, g13⟩ := Cond.ownStatic (t := .array (.object "java/lang/StackTraceElement")) hc hk (by decide +kernel) (q 14 rfl) (q 19 rfl) pl h3
  obtain ⟨ci20, i20, f20, -, -, l20, r20, a20, s20, -, -, -, -, -, -, -, g20⟩ := Cond.ownStatic (t := .object "java/util/List") hc hk (by decide +kernel) (q 16 rfl) (q 20 rfl) pl h3
  obtain ⟨-, -, -, -, -, fM, -, -, -, sM, nM, -⟩ := Cond.lays_spec (q 24 rfl)
  obtain ⟨-, d17, e17, z17⟩ := Cond.laysAt hR hkR g17 (q 22 rfl)
  obtain ⟨-, d24, e24, z24⟩ := Cond.laysAt hR hkR g24 (q 23 rfl)
  exact ⟨{ cT := c, kT := k, cO := c, aS := aS, fillIdx := iF, fill0Idx := i0, initSIdx := iZ, obj := mO, kObj := kO, methFill := mF, methFill0 := m0, methInitS := mZ, methObj := xO, codeFill := cF, codeInitS := cZ, codeObj := cO, fBack := f7, fDepth := f7, fStack := f17, fCause := f7, fSupp := f24, fMsg := fM, fUnassigned := f13, fSentinel := f20, cfT := cf, ci1 := ci1, n1 := n1, ci27 := ci27, n27 := n27, ci202 := ci202, n202 := n202, ci7 := ci7, i7 := i7, ci13 := ci13, i13 := i13, ci17 := ci17, i17 := i17, ci20 := ci20, i20 := i20, ci24 := ci24, i24 := i24 },
    ⟨h1, h2, hk, nm, Vm.findClass_boot hc hk, hni, ini, sta, atF, cdF, byF, lcF, lkF, stF, abF, rtF, params_of sgF (by decide +kernel), at0, nm0, ds0, params_of sg0 (by decide +kernel), st0, nat0, cd0, lk0, ab0, s17, n17, s13, hkO, nmkO, hmO, nmO, stO, abO, by rw [dsO]; exact lookupSpecial_of_named hnO hmO stO, by rw [params_of sgO (ps := []) (by decide +kernel)]; rfl, cdO, byO, lkO, s7, n7, s20, s24, n24, sM, nM,
      Cond.laysApart e17 e24 z17 z24 (by rw [nm17, nm24]; decide), hcf, l1, r1, p1, l27, r27, p27, l202, r202, p202, l7, r7, a7, l13, r13, a13, l17, r17, a17, l20, r20, a20, l24, r24, a24⟩, hc, hnF, hn0, g17, ty17, g13⟩
theorem takes_at {S : State} {kX : Class} {cell C : Cell} {f : Field} {v : Value} (hk : S.vm.classes[cell.cls]? = some kX) (hord : kX.kind = .ordinary) (hsz : cell.slots.size = kX.instanceTypes.size) (hv0 : cell.vm = .none) (h1 : kX.instanceTypes[f.slot]? = some f.type) (h2 : fits f.type v = true) : Jvm.Takes S cell f v := by
  obtain ⟨q1, q2⟩ := Takes.of_laid (v := v) hk hord h1 h2
  exact ⟨by rw [hsz]; simpa using q1, by rw [hv0]; exact q2⟩
set_option maxHeartbeats 4000000 in
/-- invokevirtual of fillInStackTrace(), inside a constructor of Throwable -/
theorem W.fill (X : Wk l Z EL y bytes maxL ret R B0 p e s m args below meth c B T h k n) {rc : String} {kk W : Nat} {u : Addr} (hcls : y.cls = tN) (K : KN e below s) (hs0 : Ext Z.heap s.heap) (w : ∀ d ∈ fillWords rc, d.before a0 Z = true) (wi : (Jvm.Cond.instantiable rc kk).before a0 Z = true) (E : Exa Z h a rc) (N : Unt h a) (FS : Fld Z h a tN "stackTrace" steD (.ref u)) (FB : Fld Z h a tN "backtrace" obD .null) (SU : Sta Z Z.heap tN "UNASSIGNED_STACK" steD (.ref u))
    (ha : Z.heap.size ≤ a) (hnb : ¬ B a) (hsize : ls.size = maxL) (hf : 3 ≤ R.frames) (hW : (st.map fun v => v.category).sum ≤ W) (hlo : W + 42 ≤ R.locals) (hd : decode bytes pc = .ok (.invokevirtual 27, 3)) (hp : pc + 3 = pc') {k' n' : Nat} (hk : k + 1 ≤ k') (hn : n + 2752 ≤ n') (hk' : k' ≤ R.cells) (hn' : n' ≤ R.slots)
    (g : ∀ T' h' v, Wk l Z EL y bytes maxL ret R B0 p e s m args below meth c B T' h' k' n' → Keep h h' [a] → Fld Z h' a tN "detailMessage" msgD v → Go l Z EL R B0 Q p e s m below T' pc' ls (.ref a :: st)) : Go l Z EL R B0 Q p e s m below T pc ls (.ref a :: st) := by
  obtain ⟨i0, hE, hz, hB, V, locs, q0, X1, eT, hZ, hown, hS, hq, hF, hC, hK⟩ := X
  subst hp eT
  have E0 := E
  have hd' : decode c.code (mkF m pc ls (.ref a :: st)).pc = .ok (.invokevirtual 27, 3) := i0.2.1 ▸ hd
  have hTh : ThS Z (s.setVm V).heap := ThS.start.ext hs0
  have wS : ∀ d ∈ fillWords rc, d.before args (s.setVm V) = true := fun d hd => mvX hTh hZ (List.all_eq_true.mp fill_ok d hd) (w d hd)
  have q : ∀ (i : Nat) {d : Jvm.Cond}, (fillWords rc)[i]? = some d → d.holds args (s.setVm V) none (s.setVm V) [] = true := fun i d e => wS d (List.mem_of_getElem? e)
  have h3 : e.platform.magicAccessors = ({} : Platform).magicAccessors := by rw [X1.admits.platform]
  obtain ⟨cell, kc, e1, e2, e3, -, e5⟩ := E
  obtain ⟨c2, u1, u2, u3⟩ := N
  obtain rfl : cell = c2 := Option.some.inj (e1.symm.trans u1)
  have hR : (s.setVm V).vm.findClass rc = some cell.cls := by show V.findClass rc = _; rw [hZ.alike.findClass]; exact e2
  obtain ⟨kR, hkR, ekR⟩ := hZ.alike.2.2 _ _ e3
  obtain ⟨c4, k4, i1, i2, hord, -, -, -⟩ := Cond.instantiable_spec wi
  obtain rfl : cell.cls = c4 := Option.some.inj (e2.symm.trans i1)
  obtain rfl : kc = k4 := Option.some.inj (e3.symm.trans i2)
  have hordR : kR.kind = .ordinary := by rw [ekR]; exact hord
  have hszR : cell.slots.size = kR.instanceTypes.size := by rw [ekR]; exact e5 hord
  obtain ⟨Th, L, hfT, hfF, hfF0, hSt, hStT, hUn⟩ := own_links (S := s.setVm V) (pl := e.platform) (by rw [X1.admits.platform]) (by rw [X1.admits.platform]) h3 wS hR hkR
  -- the fields' places
  obtain ⟨cs, cf, kf, i, f, b1, b2, -, -, -, -, b7⟩ := FS
  obtain rfl : cell = cs := Option.some.inj (e1.symm.trans b1)
  obtain ⟨kf', b3, -⟩ := State.fieldFound?_setVm (s := Z) hZ.alike b2
  have b4 : (s.setVm V).fieldFound? tN "stackTrace" steD = some (cf, kf', i, f) := b3
  cases hSt.symm.trans b4
  obtain ⟨ci198, i198, fB, l198, r198, a198, sB, -, nmB, tyB, gB⟩ := Cond.ownField (t := .object "java/lang/Object") hfT L.cls (by decide +kernel) (q 18 rfl) (q 25 rfl) e.platform h3
  obtain ⟨cs, cg, kg, j, f2, d1, d2, -, -, -, -, d7⟩ := FB
  obtain rfl : cell = cs := Option.some.inj (e1.symm.trans d1)
  obtain ⟨kg', d3, -⟩ := State.fieldFound?_setVm (s := Z) hZ.alike d2
  have d4 : (s.setVm V).fieldFound? tN "backtrace" obD = some (cg, kg', j, f2) := d3
  cases gB.symm.trans d4
  obtain ⟨-, -, cD, kD, iD, fD, -, -, gD, sD, -, -, -, -⟩ := Cond.lays_spec (q 26 rfl)
  cases Option.some.inj ((Cond.lays_declared (q 26 rfl) gD).symm.trans hfT)
  obtain ⟨hkD, atD⟩ := State.fieldFound?_spec gD
  cases Option.some.inj (hkD.symm.trans L.cls)
  obtain ⟨nmD, tyD⟩ := State.fieldFound?_type gD (t := .int) (by decide +kernel)
  have hfb := Cond.soleField_find hfT L.cls (q 31 rfl) a198 nmB sB
  have hfd := Cond.soleField_find hfT L.cls (q 32 rfl) atD nmD sD
  obtain ⟨comp, cO, kO, -, -, hkO, hkindO, hO⟩ := Cond.arrayOver_spec (q 30 rfl)
  obtain ⟨tS, -⟩ := Cond.laysAt hR hkR hSt (q 22 rfl)
  obtain ⟨tB, -⟩ := Cond.laysAt hR hkR gB (q 25 rfl)
  obtain ⟨tD, -⟩ := Cond.laysAt hR hkR gD (q 26 rfl)
  -- the statics
  obtain ⟨cu, iu, ku, fu, su, cellU, v1, v2, v3, v4, v5, v6, v7⟩ := SU.ext hE.1
  obtain ⟨ku', v8, eku⟩ := State.fieldFound?_setVm (s := Z) hZ.alike v1
  have v9 : (s.setVm V).fieldFound? tN "UNASSIGNED_STACK" steD = some (cu, ku', iu, fu) := v8
  cases hUn.symm.trans v9
  obtain rfl : Th.aS = su := Option.some.inj (L.statics.symm.trans (by rw [eku]; exact v4))
  have hneS : Th.aS ≠ a := fun z => by
    rw [z, e1] at v5
    rw [← Option.some.inj v5, u2] at v6
    cases v6
  have hsel0 : selectMethod e.platform (s.setVm V).vm cell.cls Th.fill0 = .method Th.fill0 := by
    obtain ⟨c2, r2, m2, q1, q2, q3, q4, -⟩ := Cond.selects_spec (q 28 rfl)
    cases Option.some.inj (q1.symm.trans hR)
    cases Option.some.inj (q2.symm.trans (State.methodFound?_of_named hfF0 (by decide)))
    cases Option.some.inj (q3.symm.trans hfF0)
    rw [Launch.admits_selectMethod X1.admits]; exact q4
  have hTK := K.at hS
  have fp := Jvm.Free.Str.fillPays (l := l) (R := R) (p := p) (e := e) (below := below) (s := s.setVm V) (sargs := args) (len := 3) (W := W) i0.1 K.1 Th L hfF (u0 := ⟨.ref u, rfl⟩) (by simp) (self := a) (cell := cell) (cellS := cellU) (fun z => by rw [u2]; simp) (by rw [u2]; simp) (by rw [u3]) (by rw [u3]) b7 hsel0 hneS (fun z => by rw [z] at v6; cases v6) v7 (takes_at (C := cell) hkR hordR hszR u2 tS (by rw [hStT]; rfl))
    ⟨{ ci198 := ci198, i198 := i198, fBack := fB }, ⟨l198, r198, a198, sB⟩, d7⟩ hTK.1 hTK.2 hfT hO hkO hkindO hfb hfd (fun x => takes_at (C := cell) hkR hordR hszR u2 tB (by rw [tyB]; rfl)) (fun x => takes_at (C := cell) hkR hordR hszR u2 tD (by rw [tyD]; rfl)) (by omega) hlo
  obtain ⟨v, vm1, ⟨U, Lu, ku2, nu⟩, hW1, X2, ⟨hv, vm', lines, hlines, hW', hU, hL, hc, hnu⟩, come⟩ := X1.virtualBack i0.1 (own := y.cls) (C := rc) (index := 27) (y := tFill) (z := tFill) hown (by rw [hcls]; exact q 11 rfl) (q 27 rfl) (notFace_of_selects (q 29 rfl)) (q 29 rfl) (q 2 rfl) (by decide) fp (b := a) (cB := cell.cls) hR ⟨cell, e1, rfl, by rw [u2]; rfl⟩ (g := mkF m pc ls (.ref a :: st)) rfl (hsize.trans i0.2.2.1.symm) (Steps.refl _) (argsL := []) (rest := st)
    (fun sig h => by rw [show parseMethodDescriptor tFill.desc = some ⟨[], some (.object tN)⟩ from by decide +kernel] at h; rw [← Option.some.inj h]; rfl) rfl (by show 2 * 0 + (st.map fun v => v.category).sum ≤ W; omega) hd' (fun vmx hWx => ⟨rfl, by show k + 1 ≤ R.cells; omega, by show n + 2752 ≤ R.slots; omega, e1, v5⟩)
  dsimp only [Pt.U, Pt.locs, Pt.cells, Pt.slots] at X2 hU hL hc hnu come
  subst hv hL hc hnu
  have hnl := traceHolder_size_le cO hlines
  have alt : a < T.heap.size := (Array.getElem?_eq_some_iff.mp e1).1
  have hUh : U.heap = (T.heap.push (traceHolder cO lines)).setIfInBounds a (Jvm.Free.Str.filledOn Th.toThrowableT fB fD cell ⟨.ref u, rfl⟩ T.heap.size lines.length.toInt32) := by rw [hU]; rfl
  have atx : ∀ (x : Addr) (cx : Cell), T.heap[x]? = some cx → x ≠ a → U.heap[x]? = some cx := fun x cx hx hne => by
    have hlt := (Array.getElem?_eq_some_iff.mp hx).1
    rw [hUh, Array.getElem?_setIfInBounds_ne (Ne.symm hne), Array.getElem?_push, if_neg (by omega)]; exact hx
  have ata : U.heap[a]? = some (Jvm.Free.Str.filledOn Th.toThrowableT fB fD cell ⟨.ref u, rfl⟩ T.heap.size lines.length.toInt32) := by
    rw [hUh, Array.getElem?_setIfInBounds_self, if_pos (by rw [Array.size_push]; exact Nat.lt_succ_of_lt alt)]
  have KP : Keep T.heap U.heap [a] := by
    refine ⟨by rw [hUh]; simp, fun x cx hx hne => atx x cx hx fun z => hne (by simp [z]), fun x cx hx => ?_⟩
    by_cases z : x = a
    · subst z
      obtain rfl : cell = cx := Option.some.inj (e1.symm.trans hx)
      exact ⟨_, ata, rfl, rfl, by simp [Jvm.Free.Str.filledOn, Cell.setSlot]⟩
    · exact ⟨cx, atx x cx hx z, rfl, rfl, rfl⟩
  obtain ⟨dv, FD⟩ := fld_laid (O := tN) (n := "detailMessage") (d := msgD) (E0.keep KP) ⟨_, ata, fun z => by have z' : cell.vm = .unknown := z; rw [u2] at z'; cases z'⟩ wi (Or.inl (w _ (List.mem_of_getElem? (i := 24) rfl)))
  have S : ∀ x ∈ [a], Safe Z EL V T.heap x := fun x hx => by cases List.mem_singleton.mp hx; exact fun r => hnb (hK a r)
  have hO' := (Old.keep (n0 := Z.heap.size) ⟨rfl, hE.1⟩ KP (allS ha all0)).2
  have F3 : Fr Z.heap.size (locs ++ [⟨a, fB.slot⟩, ⟨a, fD.slot⟩, ⟨a, Th.fStack.slot⟩]) := hF.app fun x hx => by
    simp only [List.mem_cons, List.not_mem_nil, or_false] at hx
    rcases hx with rfl | rfl | rfl <;> exact ha
  exact Go.via come (g U U.heap dv ⟨i0, ⟨hO', fun x r => Nat.lt_of_lt_of_le (hE.2 x r) KP.1⟩, Nat.le_trans hz KP.1, hB, V, _, q0, X2.mono hk (by omega), rfl, hZ, hown, hS, Nat.le_trans hq KP.1, F3, hC.keep KP S, fun x r => hK x ((hC.keepStep KP S).2 x r)⟩ KP FD)

theorem W.callSK (X : Wk l Z EL y bytes maxL ret R B0 p e s m args below meth c B T h k n) {index : Nat} {z : MethodName} {zb : ByteArray} {zl W : Nat} {zr : Option FieldType} {rm : Room} {as' : Array Value} {Qc : Option Value → Heap → (Addr → Prop) → Prop} {argsL stk : List Value} (hkn : KN e below s) (K : ConK l Z EL [] z zb zl zr rm B h as' Qc) (w1 : (Jvm.Cond.methodLink y.cls index z).before a0 Z = true) (w2 : (Jvm.Cond.static z).before a0 Z = true) (wc : (Jvm.Cond.code z zb zl zr).before a0 Z = true) (wz : (Jvm.Cond.initialized z.cls).before a0 Z = true) (hy : z.cls ≠ "java/lang/invoke/MethodHandle" ∧ z.cls ≠ "java/lang/invoke/VarHandle") (hf : rm.frames + 1 ≤ R.frames) (hl : W + (zl + 11) + rm.locals ≤ R.locals) (hsize : ls.size = maxL)
    (hlen : ∀ sig, parseMethodDescriptor z.desc = some sig → argsL.length = sig.parameters.length) (has : argsL.toArray = as') (hstk : stk = argsL.reverse ++ st) (hW : (st.map fun v => v.category).sum ≤ W) (hd : decode bytes pc = .ok (.invokestatic index, 3)) (hp : pc + 3 = pc') {k' n' : Nat} (hk1 : k + rm.cells ≤ k') (hn1 : n + rm.slots ≤ n') (hk2 : k' ≤ R.cells) (hn2 : n' ≤ R.slots)
    (g : ∀ T' h' B' v, Wk l Z EL y bytes maxL ret R B0 p e s m args below meth c B' T' h' k' n' → h.size ≤ h'.size → (∀ x, B' x → B x ∨ h.size ≤ x) → Qc v h' B' → Go l Z EL R B0 Q p e s m below T' pc' ls (v.toList ++ st)) : Go l Z EL R B0 Q p e s m below T pc ls stk := by
  obtain ⟨i0, hE, hz, hB, V, locs, q0, X1, eT, hZ, hown, hS, hq, hF, hC, hK⟩ := X
  obtain ⟨a1, hEL⟩ := i0.2.2.2.2.2.2
  obtain ⟨v, vm₁, ⟨U, Lu, ku, nu⟩, hWv, X2, hS2, hgr, ⟨L, B', e1, e2, e3, r1, r2, r3, r4, r5, r6, r7⟩, st'⟩ := Jvm.RoadKit.callSS X1 i0.1 (y := z) hown (mv (s := s.setVm V) hZ w1) (mv (s := s.setVm V) hZ w2) (mv (s := s.setVm V) hZ wz) (mv (s := s.setVm V) hZ wc) hy (BackS.conK hkn hS K hZ wc wz hf hl hEL hC hK) (g := mkF m pc ls stk) rfl (hsize.trans i0.2.2.1.symm) (argsL := argsL) (rest := st) hlen hstk (by show 2 * 0 + _ ≤ _; omega) (i0.2.1 ▸ hd) (fun _ _ => ⟨has, eT, by show k + _ ≤ _; omega, by show n + _ ≤ _; omega⟩)
  dsimp only [Pt.U, Pt.locs, Pt.cells, Pt.slots] at X2 hS2 hgr e1 e2 e3 r2 r3 r5 r6 r7 st'
  subst e1 e2 e3 hp
  exact Go.via st' (g U U.heap B' v ((Wk.after i0 hz hB hZ hown hS hq hF X2 hS2 r1 r2 r3 r4 r5 r6).mono hk1 hn1) r6 r4 r7)
theorem W.callNK (X : Wk l Z EL y bytes maxL ret R B0 p e s m args below meth c B T h k n) {index : Nat} {z : MethodName} {zb : ByteArray} {zl W : Nat} {rm : Room} {as' : Array Value} {Qc : Option Value → Heap → (Addr → Prop) → Prop} {argsL stk : List Value} (hkn : KN e below s) (K : ConK l Z EL [] z zb zl none rm B h as' Qc) (hn : z.name = "<init>") (w1 : (Jvm.Cond.methodLink y.cls index z).before a0 Z = true) (w2 : (Jvm.Cond.instanceMethod z).before a0 Z = true) (wc : (Jvm.Cond.code z zb zl none).before a0 Z = true) (wz : (Jvm.Cond.initialized z.cls).before a0 Z = true) (hy : z.cls ≠ "java/lang/invoke/MethodHandle" ∧ z.cls ≠ "java/lang/invoke/VarHandle") (hf : rm.frames + 1 ≤ R.frames) (hl : W + (zl + 11) + rm.locals ≤ R.locals) (hsize : ls.size = maxL)
    (hlen : ∀ sig, parseMethodDescriptor z.desc = some sig → argsL.length = sig.parameters.length) (has : (.ref a :: argsL).toArray = as') (hstk : stk = argsL.reverse ++ .ref a :: st) (hW : (st.map fun v => v.category).sum ≤ W) (hd : decode bytes pc = .ok (.invokespecial index, 3)) (hp : pc + 3 = pc') {k' n' : Nat} (hk1 : k + rm.cells ≤ k') (hn1 : n + rm.slots ≤ n') (hk2 : k' ≤ R.cells) (hn2 : n' ≤ R.slots)
    (g : ∀ T' h' B' v, Wk l Z EL y bytes maxL ret R B0 p e s m args below meth c B' T' h' k' n' → h.size ≤ h'.size → (∀ x, B' x → B x ∨ h.size ≤ x) → Qc v h' B' → Go l Z EL R B0 Q p e s m below T' pc' ls (v.toList ++ st)) : Go l Z EL R B0 Q p e s m below T pc ls stk := by
  obtain ⟨i0, hE, hz, hB, V, locs, q0, X1, eT, hZ, hown, hS, hq, hF, hC, hK⟩ := X
  obtain ⟨a1, hEL⟩ := i0.2.2.2.2.2.2
  obtain ⟨v, vm₁, ⟨U, Lu, ku, nu⟩, hWv, X2, hS2, hgr, ⟨L, B', e1, e2, e3, r1, r2, r3, r4, r5, r6, r7⟩, st'⟩ := X1.specialBackS i0.1 (y := z) hn hown (mv (s := s.setVm V) hZ w1) (mv (s := s.setVm V) hZ w2) (mv (s := s.setVm V) hZ wc) hy (BackS.conK hkn hS K hZ wc wz hf hl hEL hC hK) (g := mkF m pc ls stk) rfl (hsize.trans i0.2.2.1.symm) (Steps.refl _) (a := a) (argsL := argsL) (rest := st) hlen hstk (by show 2 * 0 + _ ≤ _; omega) (i0.2.1 ▸ hd) (fun _ _ => ⟨has, eT, by show k + _ ≤ _; omega, by show n + _ ≤ _; omega⟩)
  dsimp only [Pt.U, Pt.locs, Pt.cells, Pt.slots] at X2 hS2 hgr e1 e2 e3 r2 r3 r5 r6 r7 st'
  subst e1 e2 e3 hp
  exact Go.via st' (g U U.heap B' v ((Wk.after i0 hz hB hZ hown hS hq hF X2 hS2 r1 r2 r3 r4 r5 r6).mono hk1 hn1) r6 r4 r7)
end More
end Own
end Jvm.Pilot.@@N@@

namespace Jvm.Pilot.@@N@@
open Jvm Jvm.ClassFile Sem Op Lib Jvm.Free Jvm.Stand Jvm.LawKit Jvm.RoadKit Bundle Jvm.Pilot.@@N@@.Jvm.D Own Jvm.Free.XT

def Gl (Z : State) (a0 : Array Value) (zC : Int32) (uT : Addr) (sT : Addr) : Prop := (∀ d ∈ tables_1, d.before a0 Z = true) ∧ EW Z a0 consts_1 ∧ Sta Z Z.heap "java/lang/String" "COMPACT_STRINGS" "Z" (.int zC) ∧ ¬ zC = 0 ∧ Sta Z Z.heap "java/lang/Throwable" "UNASSIGNED_STACK" "[Ljava/lang/StackTraceElement;" (.ref uT) ∧ Sta Z Z.heap "java/lang/Throwable" "SUPPRESSED_SENTINEL" "Ljava/util/List;" (.ref sT) ∧ True
theorem w0 {Z : State} {a0 : Array Value} {zC : Int32} {uT : Addr} {sT : Addr} (G : Gl Z a0 zC uT sT) : (Jvm.Cond.classLink "com/example/dutiful_pruner/dutifulpruner/prune/PruningRequestExceptionLogOfAnotherIndexPinLaw" (7 : Nat) "java/lang/String").before a0 Z = true := G.1 _ (List.mem_of_getElem? (i := 0) rfl)
theorem w1 {Z : State} {a0 : Array Value} {zC : Int32} {uT : Addr} {sT : Addr} (G : Gl Z a0 zC uT sT) : (Jvm.Cond.instantiable "java/lang/String" (4 : Nat)).before a0 Z = true := G.1 _ (List.mem_of_getElem? (i := 1) rfl)
theorem w2 {Z : State} {a0 : Array Value} {zC : Int32} {uT : Addr} {sT : Addr} (G : Gl Z a0 zC uT sT) : (Jvm.Cond.initialized "java/lang/String").before a0 Z = true := G.1 _ (List.mem_of_getElem? (i := 2) rfl)
theorem w3 {Z : State} {a0 : Array Value} {zC : Int32} {uT : Addr} {sT : Addr} (G : Gl Z a0 zC uT sT) : (Jvm.Cond.arrayClass Jvm.ClassFile.FieldType.char).before a0 Z = true := G.1 _ (List.mem_of_getElem? (i := 3) rfl)
theorem w4 {Z : State} {a0 : Array Value} {zC : Int32} {uT : Addr} {sT : Addr} (G : Gl Z a0 zC uT sT) : (Jvm.Cond.methodLink "com/example/dutiful_pruner/dutifulpruner/prune/PruningRequestExceptionLogOfAnotherIndexPinLaw" (9 : Nat) ({ cls := "java/lang/String", name := "<init>", desc := "([C)V" } : Jvm.MethodName)).before a0 Z = true := G.1 _ (List.mem_of_getElem? (i := 4) rfl)
theorem w5 {Z : State} {a0 : Array Value} {zC : Int32} {uT : Addr} {sT : Addr} (G : Gl Z a0 zC uT sT) : (Jvm.Cond.instanceMethod ({ cls := "java/lang/String", name := "<init>", desc := "([C)V" } : Jvm.MethodName)).before a0 Z = true := G.1 _ (List.mem_of_getElem? (i := 5) rfl)
theorem w6 {Z : State} {a0 : Array Value} {zC : Int32} {uT : Addr} {sT : Addr} (G : Gl Z a0 zC uT sT) : (Jvm.Cond.code ({ cls := "java/lang/String", name := "<init>", desc := "([C)V" } : Jvm.MethodName) jdk_42_method_3_code (2 : Nat) (Option.none : Option Jvm.ClassFile.FieldType)).before a0 Z = true := G.1 _ (List.mem_of_getElem? (i := 6) rfl)
theorem w7 {Z : State} {a0 : Array Value} {zC : Int32} {uT : Addr} {sT : Addr} (G : Gl Z a0 zC uT sT) : (Jvm.Cond.methodLink "java/lang/String" (27 : Nat) ({ cls := "java/lang/String", name := "<init>", desc := "([CIILjava/lang/Void;)V" } : Jvm.MethodName)).before a0 Z = true := G.1 _ (List.mem_of_getElem? (i := 7) rfl)
theorem w8 {Z : State} {a0 : Array Value} {zC : Int32} {uT : Addr} {sT : Addr} (G : Gl Z a0 zC uT sT) : (Jvm.Cond.instanceMethod ({ cls := "java/lang/String", name := "<init>", desc := "([CIILjava/lang/Void;)V" } : Jvm.MethodName)).before a0 Z = true := G.1 _ (List.mem_of_getElem? (i := 8) rfl)
theorem w10 {Z : State} {a0 : Array Value} {zC : Int32} {uT : Addr} {sT : Addr} (G : Gl Z a0 zC uT sT) : (Jvm.Cond.code ({ cls := "java/lang/String", name := "<init>", desc := "([CIILjava/lang/Void;)V" } : Jvm.MethodName) jdk_42_method_149_code (6 : Nat) (Option.none : Option Jvm.ClassFile.FieldType)).before a0 Z = true := G.1 _ (List.mem_of_getElem? (i := 10) rfl)
theorem w11 {Z : State} {a0 : Array Value} {zC : Int32} {uT : Addr} {sT : Addr} (G : Gl Z a0 zC uT sT) : (Jvm.Cond.methodLink "java/lang/String" (1 : Nat) ({ cls := "java/lang/Object", name := "<init>", desc := "()V" } : Jvm.MethodName)).before a0 Z = true := G.1 _ (List.mem_of_getElem? (i := 11) rfl)
theorem w12 {Z : State} {a0 : Array Value} {zC : Int32} {uT : Addr} {sT : Addr} (G : Gl Z a0 zC uT sT) : (Jvm.Cond.instanceMethod ({ cls := "java/lang/Object", name := "<init>", desc := "()V" } : Jvm.MethodName)).before a0 Z = true := G.1 _ (List.mem_of_getElem? (i := 12) rfl)
theorem w13 {Z : State} {a0 : Array Value} {zC : Int32} {uT : Addr} {sT : Addr} (G : Gl Z a0 zC uT sT) : (Jvm.Cond.code ({ cls := "java/lang/Object", name := "<init>", desc := "()V" } : Jvm.MethodName) object_method_1_code (1 : Nat) (Option.none : Option Jvm.ClassFile.FieldType)).before a0 Z = true := G.1 _ (List.mem_of_getElem? (i := 13) rfl)
theorem w14 {Z : State} {a0 : Array Value} {zC : Int32} {uT : Addr} {sT : Addr} (G : Gl Z a0 zC uT sT) : (Jvm.Cond.fieldLink "java/lang/String" (38 : Nat) "java/lang/String" "COMPACT_STRINGS" "Z").before a0 Z = true := G.1 _ (List.mem_of_getElem? (i := 14) rfl)
theorem w15 {Z : State} {a0 : Array Value} {zC : Int32} {uT : Addr} {sT : Addr} (G : Gl Z a0 zC uT sT) : (Jvm.Cond.methodLink "java/lang/String" (177 : Nat) ({ cls := "java/lang/StringUTF16", name := "compress", desc := "([CII)[B" } : Jvm.MethodName)).before a0 Z = true := G.1 _ (List.mem_of_getElem? (i := 15) rfl)
theorem w16 {Z : State} {a0 : Array Value} {zC : Int32} {uT : Addr} {sT : Addr} (G : Gl Z a0 zC uT sT) : (Jvm.Cond.static ({ cls := "java/lang/StringUTF16", name := "compress", desc := "([CII)[B" } : Jvm.MethodName)).before a0 Z = true := G.1 _ (List.mem_of_getElem? (i := 16) rfl)
theorem w17 {Z : State} {a0 : Array Value} {zC : Int32} {uT : Addr} {sT : Addr} (G : Gl Z a0 zC uT sT) : (Jvm.Cond.initialized "java/lang/StringUTF16").before a0 Z = true := G.1 _ (List.mem_of_getElem? (i := 17) rfl)
theorem w18 {Z : State} {a0 : Array Value} {zC : Int32} {uT : Addr} {sT : Addr} (G : Gl Z a0 zC uT sT) : (Jvm.Cond.code ({ cls := "java/lang/StringUTF16", name := "compress", desc := "([CII)[B" } : Jvm.MethodName) jdk_52_method_16_code (6 : Nat) (Option.some (Jvm.ClassFile.FieldType.array Jvm.ClassFile.FieldType.byte))).before a0 Z = true := G.1 _ (List.mem_of_getElem? (i := 18) rfl)
theorem w19 {Z : State} {a0 : Array Value} {zC : Int32} {uT : Addr} {sT : Addr} (G : Gl Z a0 zC uT sT) : (Jvm.Cond.arrayClass Jvm.ClassFile.FieldType.byte).before a0 Z = true := G.1 _ (List.mem_of_getElem? (i := 19) rfl)
theorem w20 {Z : State} {a0 : Array Value} {zC : Int32} {uT : Addr} {sT : Addr} (G : Gl Z a0 zC uT sT) : (Jvm.Cond.methodLink "java/lang/StringUTF16" (115 : Nat) ({ cls := "java/lang/StringUTF16", name := "compress", desc := "([CI[BII)I" } : Jvm.MethodName)).before a0 Z = true := G.1 _ (List.mem_of_getElem? (i := 20) rfl)
theorem w21 {Z : State} {a0 : Array Value} {zC : Int32} {uT : Addr} {sT : Addr} (G : Gl Z a0 zC uT sT) : (Jvm.Cond.static ({ cls := "java/lang/StringUTF16", name := "compress", desc := "([CI[BII)I" } : Jvm.MethodName)).before a0 Z = true := G.1 _ (List.mem_of_getElem? (i := 21) rfl)
theorem w22 {Z : State} {a0 : Array Value} {zC : Int32} {uT : Addr} {sT : Addr} (G : Gl Z a0 zC uT sT) : (Jvm.Cond.code ({ cls := "java/lang/StringUTF16", name := "compress", desc := "([CI[BII)I" } : Jvm.MethodName) jdk_52_method_21_code (7 : Nat) (Option.some Jvm.ClassFile.FieldType.int)).before a0 Z = true := G.1 _ (List.mem_of_getElem? (i := 22) rfl)
theorem w23 {Z : State} {a0 : Array Value} {zC : Int32} {uT : Addr} {sT : Addr} (G : Gl Z a0 zC uT sT) : (Jvm.Cond.methodLink "java/lang/String" (47 : Nat) ({ cls := "java/lang/StringUTF16", name := "coderFromArrayLen", desc := "([BI)B" } : Jvm.MethodName)).before a0 Z = true := G.1 _ (List.mem_of_getElem? (i := 23) rfl)
theorem w24 {Z : State} {a0 : Array Value} {zC : Int32} {uT : Addr} {sT : Addr} (G : Gl Z a0 zC uT sT) : (Jvm.Cond.static ({ cls := "java/lang/StringUTF16", name := "coderFromArrayLen", desc := "([BI)B" } : Jvm.MethodName)).before a0 Z = true := G.1 _ (List.mem_of_getElem? (i := 24) rfl)
theorem w25 {Z : State} {a0 : Array Value} {zC : Int32} {uT : Addr} {sT : Addr} (G : Gl Z a0 zC uT sT) : (Jvm.Cond.code ({ cls := "java/lang/StringUTF16", name := "coderFromArrayLen", desc := "([BI)B" } : Jvm.MethodName) jdk_52_method_15_code (2 : Nat) (Option.some Jvm.ClassFile.FieldType.byte)).before a0 Z = true := G.1 _ (List.mem_of_getElem? (i := 25) rfl)
theorem w26 {Z : State} {a0 : Array Value} {zC : Int32} {uT : Addr} {sT : Addr} (G : Gl Z a0 zC uT sT) : (Jvm.Cond.fieldLink "java/lang/String" (15 : Nat) "java/lang/String" "coder" "B").before a0 Z = true := G.1 _ (List.mem_of_getElem? (i := 26) rfl)
theorem w27 {Z : State} {a0 : Array Value} {zC : Int32} {uT : Addr} {sT : Addr} (G : Gl Z a0 zC uT sT) : (Jvm.Cond.laysFinal "java/lang/String" "java/lang/String" "coder" "B").before a0 Z = true := G.1 _ (List.mem_of_getElem? (i := 27) rfl)
theorem w28 {Z : State} {a0 : Array Value} {zC : Int32} {uT : Addr} {sT : Addr} (G : Gl Z a0 zC uT sT) : (Jvm.Cond.fieldLink "java/lang/String" (9 : Nat) "java/lang/String" "value" "[B").before a0 Z = true := G.1 _ (List.mem_of_getElem? (i := 28) rfl)
theorem w29 {Z : State} {a0 : Array Value} {zC : Int32} {uT : Addr} {sT : Addr} (G : Gl Z a0 zC uT sT) : (Jvm.Cond.laysFinal "java/lang/String" "java/lang/String" "value" "[B").before a0 Z = true := G.1 _ (List.mem_of_getElem? (i := 29) rfl)
theorem w30 {Z : State} {a0 : Array Value} {zC : Int32} {uT : Addr} {sT : Addr} (G : Gl Z a0 zC uT sT) : (Jvm.Cond.methodLink "com/example/dutiful_pruner/dutifulpruner/prune/PruningRequestExceptionLogOfAnotherIndexPinLaw" (12 : Nat) ({ cls := "com/example/dutiful_pruner/dutifulpruner/prune/PruningRequestException", name := "logOfAnotherIndex", desc := "(Ljava/lang/String;Ljava/lang/String;)Lcom/example/dutiful_pruner/dutifulpruner/prune/PruningRequestException;" } : Jvm.MethodName)).before a0 Z = true := G.1 _ (List.mem_of_getElem? (i := 30) rfl)
theorem w31 {Z : State} {a0 : Array Value} {zC : Int32} {uT : Addr} {sT : Addr} (G : Gl Z a0 zC uT sT) : (Jvm.Cond.static ({ cls := "com/example/dutiful_pruner/dutifulpruner/prune/PruningRequestException", name := "logOfAnotherIndex", desc := "(Ljava/lang/String;Ljava/lang/String;)Lcom/example/dutiful_pruner/dutifulpruner/prune/PruningRequestException;" } : Jvm.MethodName)).before a0 Z = true := G.1 _ (List.mem_of_getElem? (i := 31) rfl)
theorem w32 {Z : State} {a0 : Array Value} {zC : Int32} {uT : Addr} {sT : Addr} (G : Gl Z a0 zC uT sT) : (Jvm.Cond.initialized "com/example/dutiful_pruner/dutifulpruner/prune/PruningRequestException").before a0 Z = true := G.1 _ (List.mem_of_getElem? (i := 32) rfl)
theorem w33 {Z : State} {a0 : Array Value} {zC : Int32} {uT : Addr} {sT : Addr} (G : Gl Z a0 zC uT sT) : (Jvm.Cond.code ({ cls := "com/example/dutiful_pruner/dutifulpruner/prune/PruningRequestException", name := "logOfAnotherIndex", desc := "(Ljava/lang/String;Ljava/lang/String;)Lcom/example/dutiful_pruner/dutifulpruner/prune/PruningRequestException;" } : Jvm.MethodName) prog_13_method_2_code (2 : Nat) (Option.some (Jvm.ClassFile.FieldType.object "com/example/dutiful_pruner/dutifulpruner/prune/PruningRequestException"))).before a0 Z = true := G.1 _ (List.mem_of_getElem? (i := 33) rfl)
theorem w34 {Z : State} {a0 : Array Value} {zC : Int32} {uT : Addr} {sT : Addr} (G : Gl Z a0 zC uT sT) : (Jvm.Cond.classLink "com/example/dutiful_pruner/dutifulpruner/prune/PruningRequestException" (7 : Nat) "com/example/dutiful_pruner/dutifulpruner/prune/PruningRequestException").before a0 Z = true := G.1 _ (List.mem_of_getElem? (i := 34) rfl)
theorem w35 {Z : State} {a0 : Array Value} {zC : Int32} {uT : Addr} {sT : Addr} (G : Gl Z a0 zC uT sT) : (Jvm.Cond.instantiable "com/example/dutiful_pruner/dutifulpruner/prune/PruningRequestException" (6 : Nat)).before a0 Z = true := G.1 _ (List.mem_of_getElem? (i := 35) rfl)
theorem w36 {Z : State} {a0 : Array Value} {zC : Int32} {uT : Addr} {sT : Addr} (G : Gl Z a0 zC uT sT) : (Jvm.Cond.classLink "com/example/dutiful_pruner/dutifulpruner/prune/PruningRequestException" (9 : Nat) "java/lang/StringBuilder").before a0 Z = true := G.1 _ (List.mem_of_getElem? (i := 36) rfl)
theorem w37 {Z : State} {a0 : Array Value} {zC : Int32} {uT : Addr} {sT : Addr} (G : Gl Z a0 zC uT sT) : (Jvm.Cond.instantiable "java/lang/StringBuilder" (4 : Nat)).before a0 Z = true := G.1 _ (List.mem_of_getElem? (i := 37) rfl)
theorem w38 {Z : State} {a0 : Array Value} {zC : Int32} {uT : Addr} {sT : Addr} (G : Gl Z a0 zC uT sT) : (Jvm.Cond.initialized "java/lang/StringBuilder").before a0 Z = true := G.1 _ (List.mem_of_getElem? (i := 38) rfl)
theorem w39 {Z : State} {a0 : Array Value} {zC : Int32} {uT : Addr} {sT : Addr} (G : Gl Z a0 zC uT sT) : (Jvm.Cond.methodLink "com/example/dutiful_pruner/dutifulpruner/prune/PruningRequestException" (11 : Nat) ({ cls := "java/lang/StringBuilder", name := "<init>", desc := "()V" } : Jvm.MethodName)).before a0 Z = true := G.1 _ (List.mem_of_getElem? (i := 39) rfl)
theorem w40 {Z : State} {a0 : Array Value} {zC : Int32} {uT : Addr} {sT : Addr} (G : Gl Z a0 zC uT sT) : (Jvm.Cond.instanceMethod ({ cls := "java/lang/StringBuilder", name := "<init>", desc := "()V" } : Jvm.MethodName)).before a0 Z = true := G.1 _ (List.mem_of_getElem? (i := 40) rfl)
theorem w41 {Z : State} {a0 : Array Value} {zC : Int32} {uT : Addr} {sT : Addr} (G : Gl Z a0 zC uT sT) : (Jvm.Cond.code ({ cls := "java/lang/StringBuilder", name := "<init>", desc := "()V" } : Jvm.MethodName) jdk_67_method_1_code (1 : Nat) (Option.none : Option Jvm.ClassFile.FieldType)).before a0 Z = true := G.1 _ (List.mem_of_getElem? (i := 41) rfl)
theorem w42 {Z : State} {a0 : Array Value} {zC : Int32} {uT : Addr} {sT : Addr} (G : Gl Z a0 zC uT sT) : (Jvm.Cond.methodLink "java/lang/StringBuilder" (1 : Nat) ({ cls := "java/lang/AbstractStringBuilder", name := "<init>", desc := "(I)V" } : Jvm.MethodName)).before a0 Z = true := G.1 _ (List.mem_of_getElem? (i := 42) rfl)
theorem w43 {Z : State} {a0 : Array Value} {zC : Int32} {uT : Addr} {sT : Addr} (G : Gl Z a0 zC uT sT) : (Jvm.Cond.instanceMethod ({ cls := "java/lang/AbstractStringBuilder", name := "<init>", desc := "(I)V" } : Jvm.MethodName)).before a0 Z = true := G.1 _ (List.mem_of_getElem? (i := 43) rfl)
theorem w46 {Z : State} {a0 : Array Value} {zC : Int32} {uT : Addr} {sT : Addr} (G : Gl Z a0 zC uT sT) : (Jvm.Cond.initialized "java/lang/AbstractStringBuilder").before a0 Z = true := G.1 _ (List.mem_of_getElem? (i := 46) rfl)
theorem w47 {Z : State} {a0 : Array Value} {zC : Int32} {uT : Addr} {sT : Addr} (G : Gl Z a0 zC uT sT) : (Jvm.Cond.code ({ cls := "java/lang/AbstractStringBuilder", name := "<init>", desc := "(I)V" } : Jvm.MethodName) jdk_68_method_2_code (2 : Nat) (Option.none : Option Jvm.ClassFile.FieldType)).before a0 Z = true := G.1 _ (List.mem_of_getElem? (i := 47) rfl)
theorem w48 {Z : State} {a0 : Array Value} {zC : Int32} {uT : Addr} {sT : Addr} (G : Gl Z a0 zC uT sT) : (Jvm.Cond.methodLink "java/lang/AbstractStringBuilder" (3 : Nat) ({ cls := "java/lang/Object", name := "<init>", desc := "()V" } : Jvm.MethodName)).before a0 Z = true := G.1 _ (List.mem_of_getElem? (i := 48) rfl)
theorem w49 {Z : State} {a0 : Array Value} {zC : Int32} {uT : Addr} {sT : Addr} (G : Gl Z a0 zC uT sT) : (Jvm.Cond.fieldLink "java/lang/AbstractStringBuilder" (18 : Nat) "java/lang/String" "COMPACT_STRINGS" "Z").before a0 Z = true := G.1 _ (List.mem_of_getElem? (i := 49) rfl)
theorem w50 {Z : State} {a0 : Array Value} {zC : Int32} {uT : Addr} {sT : Addr} (G : Gl Z a0 zC uT sT) : (Jvm.Cond.fieldLink "java/lang/AbstractStringBuilder" (15 : Nat) "java/lang/AbstractStringBuilder" "value" "[B").before a0 Z = true := G.1 _ (List.mem_of_getElem? (i := 50) rfl)
theorem w51 {Z : State} {a0 : Array Value} {zC : Int32} {uT : Addr} {sT : Addr} (G : Gl Z a0 zC uT sT) : (Jvm.Cond.lays "java/lang/StringBuilder" "java/lang/AbstractStringBuilder" "value" "[B").before a0 Z = true := G.1 _ (List.mem_of_getElem? (i := 51) rfl)
theorem w52 {Z : State} {a0 : Array Value} {zC : Int32} {uT : Addr} {sT : Addr} (G : Gl Z a0 zC uT sT) : (Jvm.Cond.fieldLink "java/lang/AbstractStringBuilder" (22 : Nat) "java/lang/AbstractStringBuilder" "coder" "B").before a0 Z = true := G.1 _ (List.mem_of_getElem? (i := 52) rfl)
theorem w53 {Z : State} {a0 : Array Value} {zC : Int32} {uT : Addr} {sT : Addr} (G : Gl Z a0 zC uT sT) : (Jvm.Cond.lays "java/lang/StringBuilder" "java/lang/AbstractStringBuilder" "coder" "B").before a0 Z = true := G.1 _ (List.mem_of_getElem? (i := 53) rfl)
theorem w54 {Z : State} {a0 : Array Value} {zC : Int32} {uT : Addr} {sT : Addr} (G : Gl Z a0 zC uT sT) : (Jvm.Cond.stringLink "com/example/dutiful_pruner/dutifulpruner/prune/PruningRequestException" (14 : Nat) "the training log names ").before a0 Z = true := G.1 _ (List.mem_of_getElem? (i := 54) rfl)
theorem w55 {Z : State} {a0 : Array Value} {zC : Int32} {uT : Addr} {sT : Addr} (G : Gl Z a0 zC uT sT) : (Jvm.Cond.soleField "java/lang/String" "value").before a0 Z = true := G.1 _ (List.mem_of_getElem? (i := 55) rfl)
theorem w56 {Z : State} {a0 : Array Value} {zC : Int32} {uT : Addr} {sT : Addr} (G : Gl Z a0 zC uT sT) : (Jvm.Cond.soleField "java/lang/String" "coder").before a0 Z = true := G.1 _ (List.mem_of_getElem? (i := 56) rfl)
theorem w57 {Z : State} {a0 : Array Value} {zC : Int32} {uT : Addr} {sT : Addr} (G : Gl Z a0 zC uT sT) : (Jvm.Cond.methodLink "com/example/dutiful_pruner/dutifulpruner/prune/PruningRequestException" (16 : Nat) ({ cls := "java/lang/StringBuilder", name := "append", desc := "(Ljava/lang/String;)Ljava/lang/StringBuilder;" } : Jvm.MethodName)).before a0 Z = true := G.1 _ (List.mem_of_getElem? (i := 57) rfl)
theorem w58 {Z : State} {a0 : Array Value} {zC : Int32} {uT : Addr} {sT : Addr} (G : Gl Z a0 zC uT sT) : (Jvm.Cond.declares ({ cls := "java/lang/StringBuilder", name := "append", desc := "(Ljava/lang/String;)Ljava/lang/StringBuilder;" } : Jvm.MethodName)).before a0 Z = true := G.1 _ (List.mem_of_getElem? (i := 58) rfl)
theorem w59 {Z : State} {a0 : Array Value} {zC : Int32} {uT : Addr} {sT : Addr} (G : Gl Z a0 zC uT sT) : (Jvm.Cond.instanceMethod ({ cls := "java/lang/StringBuilder", name := "append", desc := "(Ljava/lang/String;)Ljava/lang/StringBuilder;" } : Jvm.MethodName)).before a0 Z = true := G.1 _ (List.mem_of_getElem? (i := 59) rfl)
theorem w60 {Z : State} {a0 : Array Value} {zC : Int32} {uT : Addr} {sT : Addr} (G : Gl Z a0 zC uT sT) : (Jvm.Cond.selects "java/lang/StringBuilder" ({ cls := "java/lang/StringBuilder", name := "append", desc := "(Ljava/lang/String;)Ljava/lang/StringBuilder;" } : Jvm.MethodName) ({ cls := "java/lang/StringBuilder", name := "append", desc := "(Ljava/lang/String;)Ljava/lang/StringBuilder;" } : Jvm.MethodName)).before a0 Z = true := G.1 _ (List.mem_of_getElem? (i := 60) rfl)
theorem w61 {Z : State} {a0 : Array Value} {zC : Int32} {uT : Addr} {sT : Addr} (G : Gl Z a0 zC uT sT) : (Jvm.Cond.code ({ cls := "java/lang/StringBuilder", name := "append", desc := "(Ljava/lang/String;)Ljava/lang/StringBuilder;" } : Jvm.MethodName) jdk_67_method_7_code (2 : Nat) (Option.some (Jvm.ClassFile.FieldType.object "java/lang/StringBuilder"))).before a0 Z = true := G.1 _ (List.mem_of_getElem? (i := 61) rfl)
theorem w62 {Z : State} {a0 : Array Value} {zC : Int32} {uT : Addr} {sT : Addr} (G : Gl Z a0 zC uT sT) : (Jvm.Cond.methodLink "java/lang/StringBuilder" (29 : Nat) ({ cls := "java/lang/AbstractStringBuilder", name := "append", desc := "(Ljava/lang/String;)Ljava/lang/AbstractStringBuilder;" } : Jvm.MethodName)).before a0 Z = true := G.1 _ (List.mem_of_getElem? (i := 62) rfl)
theorem w63 {Z : State} {a0 : Array Value} {zC : Int32} {uT : Addr} {sT : Addr} (G : Gl Z a0 zC uT sT) : (Jvm.Cond.instanceMethod ({ cls := "java/lang/AbstractStringBuilder", name := "append", desc := "(Ljava/lang/String;)Ljava/lang/AbstractStringBuilder;" } : Jvm.MethodName)).before a0 Z = true := G.1 _ (List.mem_of_getElem? (i := 63) rfl)
theorem w64 {Z : State} {a0 : Array Value} {zC : Int32} {uT : Addr} {sT : Addr} (G : Gl Z a0 zC uT sT) : (Jvm.Cond.superclass "java/lang/StringBuilder" "java/lang/AbstractStringBuilder").before a0 Z = true := G.1 _ (List.mem_of_getElem? (i := 64) rfl)
theorem w66 {Z : State} {a0 : Array Value} {zC : Int32} {uT : Addr} {sT : Addr} (G : Gl Z a0 zC uT sT) : (Jvm.Cond.code ({ cls := "java/lang/AbstractStringBuilder", name := "append", desc := "(Ljava/lang/String;)Ljava/lang/AbstractStringBuilder;" } : Jvm.MethodName) jdk_68_method_22_code (3 : Nat) (Option.some (Jvm.ClassFile.FieldType.object "java/lang/AbstractStringBuilder"))).before a0 Z = true := G.1 _ (List.mem_of_getElem? (i := 66) rfl)
theorem w67 {Z : State} {a0 : Array Value} {zC : Int32} {uT : Addr} {sT : Addr} (G : Gl Z a0 zC uT sT) : (Jvm.Cond.methodLink "java/lang/AbstractStringBuilder" (32 : Nat) ({ cls := "java/lang/String", name := "length", desc := "()I" } : Jvm.MethodName)).before a0 Z = true := G.1 _ (List.mem_of_getElem? (i := 67) rfl)
theorem w68 {Z : State} {a0 : Array Value} {zC : Int32} {uT : Addr} {sT : Addr} (G : Gl Z a0 zC uT sT) : (Jvm.Cond.declares ({ cls := "java/lang/String", name := "length", desc := "()I" } : Jvm.MethodName)).before a0 Z = true := G.1 _ (List.mem_of_getElem? (i := 68) rfl)
theorem w69 {Z : State} {a0 : Array Value} {zC : Int32} {uT : Addr} {sT : Addr} (G : Gl Z a0 zC uT sT) : (Jvm.Cond.instanceMethod ({ cls := "java/lang/String", name := "length", desc := "()I" } : Jvm.MethodName)).before a0 Z = true := G.1 _ (List.mem_of_getElem? (i := 69) rfl)
theorem w70 {Z : State} {a0 : Array Value} {zC : Int32} {uT : Addr} {sT : Addr} (G : Gl Z a0 zC uT sT) : (Jvm.Cond.selects "java/lang/String" ({ cls := "java/lang/String", name := "length", desc := "()I" } : Jvm.MethodName) ({ cls := "java/lang/String", name := "length", desc := "()I" } : Jvm.MethodName)).before a0 Z = true := G.1 _ (List.mem_of_getElem? (i := 70) rfl)
theorem w71 {Z : State} {a0 : Array Value} {zC : Int32} {uT : Addr} {sT : Addr} (G : Gl Z a0 zC uT sT) : (Jvm.Cond.code ({ cls := "java/lang/String", name := "length", desc := "()I" } : Jvm.MethodName) jdk_42_method_54_code (1 : Nat) (Option.some Jvm.ClassFile.FieldType.int)).before a0 Z = true := G.1 _ (List.mem_of_getElem? (i := 71) rfl)
theorem w72 {Z : State} {a0 : Array Value} {zC : Int32} {uT : Addr} {sT : Addr} (G : Gl Z a0 zC uT sT) : (Jvm.Cond.methodLink "java/lang/String" (335 : Nat) ({ cls := "java/lang/String", name := "coder", desc := "()B" } : Jvm.MethodName)).before a0 Z = true := G.1 _ (List.mem_of_getElem? (i := 72) rfl)
theorem w73 {Z : State} {a0 : Array Value} {zC : Int32} {uT : Addr} {sT : Addr} (G : Gl Z a0 zC uT sT) : (Jvm.Cond.declares ({ cls := "java/lang/String", name := "coder", desc := "()B" } : Jvm.MethodName)).before a0 Z = true := G.1 _ (List.mem_of_getElem? (i := 73) rfl)
theorem w74 {Z : State} {a0 : Array Value} {zC : Int32} {uT : Addr} {sT : Addr} (G : Gl Z a0 zC uT sT) : (Jvm.Cond.instanceMethod ({ cls := "java/lang/String", name := "coder", desc := "()B" } : Jvm.MethodName)).before a0 Z = true := G.1 _ (List.mem_of_getElem? (i := 74) rfl)
theorem w75 {Z : State} {a0 : Array Value} {zC : Int32} {uT : Addr} {sT : Addr} (G : Gl Z a0 zC uT sT) : (Jvm.Cond.selects "java/lang/String" ({ cls := "java/lang/String", name := "coder", desc := "()B" } : Jvm.MethodName) ({ cls := "java/lang/String", name := "coder", desc := "()B" } : Jvm.MethodName)).before a0 Z = true := G.1 _ (List.mem_of_getElem? (i := 75) rfl)
theorem w76 {Z : State} {a0 : Array Value} {zC : Int32} {uT : Addr} {sT : Addr} (G : Gl Z a0 zC uT sT) : (Jvm.Cond.code ({ cls := "java/lang/String", name := "coder", desc := "()B" } : Jvm.MethodName) jdk_42_method_152_code (1 : Nat) (Option.some Jvm.ClassFile.FieldType.byte)).before a0 Z = true := G.1 _ (List.mem_of_getElem? (i := 76) rfl)
theorem w77 {Z : State} {a0 : Array Value} {zC : Int32} {uT : Addr} {sT : Addr} (G : Gl Z a0 zC uT sT) : (Jvm.Cond.fieldLink "java/lang/AbstractStringBuilder" (79 : Nat) "java/lang/AbstractStringBuilder" "count" "I").before a0 Z = true := G.1 _ (List.mem_of_getElem? (i := 77) rfl)
theorem w78 {Z : State} {a0 : Array Value} {zC : Int32} {uT : Addr} {sT : Addr} (G : Gl Z a0 zC uT sT) : (Jvm.Cond.lays "java/lang/StringBuilder" "java/lang/AbstractStringBuilder" "count" "I").before a0 Z = true := G.1 _ (List.mem_of_getElem? (i := 78) rfl)
theorem w79 {Z : State} {a0 : Array Value} {zC : Int32} {uT : Addr} {sT : Addr} (G : Gl Z a0 zC uT sT) : (Jvm.Cond.methodLink "java/lang/AbstractStringBuilder" (100 : Nat) ({ cls := "java/lang/AbstractStringBuilder", name := "ensureCapacityInternal", desc := "(I)V" } : Jvm.MethodName)).before a0 Z = true := G.1 _ (List.mem_of_getElem? (i := 79) rfl)
theorem w80 {Z : State} {a0 : Array Value} {zC : Int32} {uT : Addr} {sT : Addr} (G : Gl Z a0 zC uT sT) : (Jvm.Cond.instanceMethod ({ cls := "java/lang/AbstractStringBuilder", name := "ensureCapacityInternal", desc := "(I)V" } : Jvm.MethodName)).before a0 Z = true := G.1 _ (List.mem_of_getElem? (i := 80) rfl)
theorem w81 {Z : State} {a0 : Array Value} {zC : Int32} {uT : Addr} {sT : Addr} (G : Gl Z a0 zC uT sT) : (Jvm.Cond.privateMethod ({ cls := "java/lang/AbstractStringBuilder", name := "ensureCapacityInternal", desc := "(I)V" } : Jvm.MethodName)).before a0 Z = true := G.1 _ (List.mem_of_getElem? (i := 81) rfl)
theorem w82 {Z : State} {a0 : Array Value} {zC : Int32} {uT : Addr} {sT : Addr} (G : Gl Z a0 zC uT sT) : (Jvm.Cond.selects "java/lang/StringBuilder" ({ cls := "java/lang/AbstractStringBuilder", name := "ensureCapacityInternal", desc := "(I)V" } : Jvm.MethodName) ({ cls := "java/lang/AbstractStringBuilder", name := "ensureCapacityInternal", desc := "(I)V" } : Jvm.MethodName)).before a0 Z = true := G.1 _ (List.mem_of_getElem? (i := 82) rfl)
theorem w83 {Z : State} {a0 : Array Value} {zC : Int32} {uT : Addr} {sT : Addr} (G : Gl Z a0 zC uT sT) : (Jvm.Cond.code ({ cls := "java/lang/AbstractStringBuilder", name := "ensureCapacityInternal", desc := "(I)V" } : Jvm.MethodName) jdk_68_method_9_code (3 : Nat) (Option.none : Option Jvm.ClassFile.FieldType)).before a0 Z = true := G.1 _ (List.mem_of_getElem? (i := 83) rfl)
theorem w84 {Z : State} {a0 : Array Value} {zC : Int32} {uT : Addr} {sT : Addr} (G : Gl Z a0 zC uT sT) : (Jvm.Cond.methodLink "java/lang/AbstractStringBuilder" (104 : Nat) ({ cls := "java/lang/AbstractStringBuilder", name := "newCapacity", desc := "(I)I" } : Jvm.MethodName)).before a0 Z = true := G.1 _ (List.mem_of_getElem? (i := 84) rfl)
theorem w85 {Z : State} {a0 : Array Value} {zC : Int32} {uT : Addr} {sT : Addr} (G : Gl Z a0 zC uT sT) : (Jvm.Cond.instanceMethod ({ cls := "java/lang/AbstractStringBuilder", name := "newCapacity", desc := "(I)I" } : Jvm.MethodName)).before a0 Z = true := G.1 _ (List.mem_of_getElem? (i := 85) rfl)
theorem w86 {Z : State} {a0 : Array Value} {zC : Int32} {uT : Addr} {sT : Addr} (G : Gl Z a0 zC uT sT) : (Jvm.Cond.privateMethod ({ cls := "java/lang/AbstractStringBuilder", name := "newCapacity", desc := "(I)I" } : Jvm.MethodName)).before a0 Z = true := G.1 _ (List.mem_of_getElem? (i := 86) rfl)
theorem w88 {Z : State} {a0 : Array Value} {zC : Int32} {uT : Addr} {sT : Addr} (G : Gl Z a0 zC uT sT) : (Jvm.Cond.code ({ cls := "java/lang/AbstractStringBuilder", name := "newCapacity", desc := "(I)I" } : Jvm.MethodName) jdk_68_method_10_code (6 : Nat) (Option.some Jvm.ClassFile.FieldType.int)).before a0 Z = true := G.1 _ (List.mem_of_getElem? (i := 88) rfl)
theorem w89 {Z : State} {a0 : Array Value} {zC : Int32} {uT : Addr} {sT : Addr} (G : Gl Z a0 zC uT sT) : (Jvm.Cond.methodLink "java/lang/AbstractStringBuilder" (114 : Nat) ({ cls := "jdk/internal/util/ArraysSupport", name := "newLength", desc := "(III)I" } : Jvm.MethodName)).before a0 Z = true := G.1 _ (List.mem_of_getElem? (i := 89) rfl)
theorem w90 {Z : State} {a0 : Array Value} {zC : Int32} {uT : Addr} {sT : Addr} (G : Gl Z a0 zC uT sT) : (Jvm.Cond.static ({ cls := "jdk/internal/util/ArraysSupport", name := "newLength", desc := "(III)I" } : Jvm.MethodName)).before a0 Z = true := G.1 _ (List.mem_of_getElem? (i := 90) rfl)
theorem w91 {Z : State} {a0 : Array Value} {zC : Int32} {uT : Addr} {sT : Addr} (G : Gl Z a0 zC uT sT) : (Jvm.Cond.initialized "jdk/internal/util/ArraysSupport").before a0 Z = true := G.1 _ (List.mem_of_getElem? (i := 91) rfl)
theorem w92 {Z : State} {a0 : Array Value} {zC : Int32} {uT : Addr} {sT : Addr} (G : Gl Z a0 zC uT sT) : (Jvm.Cond.code ({ cls := "jdk/internal/util/ArraysSupport", name := "newLength", desc := "(III)I" } : Jvm.MethodName) jdk_48_method_27_code (4 : Nat) (Option.some Jvm.ClassFile.FieldType.int)).before a0 Z = true := G.1 _ (List.mem_of_getElem? (i := 92) rfl)
theorem w93 {Z : State} {a0 : Array Value} {zC : Int32} {uT : Addr} {sT : Addr} (G : Gl Z a0 zC uT sT) : (Jvm.Cond.methodLink "jdk/internal/util/ArraysSupport" (194 : Nat) ({ cls := "java/lang/Math", name := "max", desc := "(II)I" } : Jvm.MethodName)).before a0 Z = true := G.1 _ (List.mem_of_getElem? (i := 93) rfl)
theorem w94 {Z : State} {a0 : Array Value} {zC : Int32} {uT : Addr} {sT : Addr} (G : Gl Z a0 zC uT sT) : (Jvm.Cond.static ({ cls := "java/lang/Math", name := "max", desc := "(II)I" } : Jvm.MethodName)).before a0 Z = true := G.1 _ (List.mem_of_getElem? (i := 94) rfl)
theorem w95 {Z : State} {a0 : Array Value} {zC : Int32} {uT : Addr} {sT : Addr} (G : Gl Z a0 zC uT sT) : (Jvm.Cond.initialized "java/lang/Math").before a0 Z = true := G.1 _ (List.mem_of_getElem? (i := 95) rfl)
theorem w96 {Z : State} {a0 : Array Value} {zC : Int32} {uT : Addr} {sT : Addr} (G : Gl Z a0 zC uT sT) : (Jvm.Cond.code ({ cls := "java/lang/Math", name := "max", desc := "(II)I" } : Jvm.MethodName) jdk_29_method_65_code (2 : Nat) (Option.some Jvm.ClassFile.FieldType.int)).before a0 Z = true := G.1 _ (List.mem_of_getElem? (i := 96) rfl)
theorem w97 {Z : State} {a0 : Array Value} {zC : Int32} {uT : Addr} {sT : Addr} (G : Gl Z a0 zC uT sT) : (Jvm.Cond.constant "jdk/internal/util/ArraysSupport" (200 : Nat) (2147483639 : Int32)).before a0 Z = true := G.1 _ (List.mem_of_getElem? (i := 97) rfl)
theorem w98 {Z : State} {a0 : Array Value} {zC : Int32} {uT : Addr} {sT : Addr} (G : Gl Z a0 zC uT sT) : (Jvm.Cond.constant "java/lang/AbstractStringBuilder" (39 : Nat) (2147483647 : Int32)).before a0 Z = true := G.1 _ (List.mem_of_getElem? (i := 98) rfl)
theorem w99 {Z : State} {a0 : Array Value} {zC : Int32} {uT : Addr} {sT : Addr} (G : Gl Z a0 zC uT sT) : (Jvm.Cond.methodLink "java/lang/AbstractStringBuilder" (108 : Nat) ({ cls := "java/util/Arrays", name := "copyOf", desc := "([BI)[B" } : Jvm.MethodName)).before a0 Z = true := G.1 _ (List.mem_of_getElem? (i := 99) rfl)
theorem w100 {Z : State} {a0 : Array Value} {zC : Int32} {uT : Addr} {sT : Addr} (G : Gl Z a0 zC uT sT) : (Jvm.Cond.static ({ cls := "java/util/Arrays", name := "copyOf", desc := "([BI)[B" } : Jvm.MethodName)).before a0 Z = true := G.1 _ (List.mem_of_getElem? (i := 100) rfl)
theorem w101 {Z : State} {a0 : Array Value} {zC : Int32} {uT : Addr} {sT : Addr} (G : Gl Z a0 zC uT sT) : (Jvm.Cond.initialized "java/util/Arrays").before a0 Z = true := G.1 _ (List.mem_of_getElem? (i := 101) rfl)
theorem w102 {Z : State} {a0 : Array Value} {zC : Int32} {uT : Addr} {sT : Addr} (G : Gl Z a0 zC uT sT) : (Jvm.Cond.code ({ cls := "java/util/Arrays", name := "copyOf", desc := "([BI)[B" } : Jvm.MethodName) jdk_65_method_121_code (3 : Nat) (Option.some (Jvm.ClassFile.FieldType.array Jvm.ClassFile.FieldType.byte))).before a0 Z = true := G.1 _ (List.mem_of_getElem? (i := 102) rfl)
theorem w103 {Z : State} {a0 : Array Value} {zC : Int32} {uT : Addr} {sT : Addr} (G : Gl Z a0 zC uT sT) : (Jvm.Cond.methodLink "java/util/Arrays" (304 : Nat) ({ cls := "java/lang/Math", name := "min", desc := "(II)I" } : Jvm.MethodName)).before a0 Z = true := G.1 _ (List.mem_of_getElem? (i := 103) rfl)
theorem w104 {Z : State} {a0 : Array Value} {zC : Int32} {uT : Addr} {sT : Addr} (G : Gl Z a0 zC uT sT) : (Jvm.Cond.static ({ cls := "java/lang/Math", name := "min", desc := "(II)I" } : Jvm.MethodName)).before a0 Z = true := G.1 _ (List.mem_of_getElem? (i := 104) rfl)
theorem w105 {Z : State} {a0 : Array Value} {zC : Int32} {uT : Addr} {sT : Addr} (G : Gl Z a0 zC uT sT) : (Jvm.Cond.code ({ cls := "java/lang/Math", name := "min", desc := "(II)I" } : Jvm.MethodName) jdk_29_method_69_code (2 : Nat) (Option.some Jvm.ClassFile.FieldType.int)).before a0 Z = true := G.1 _ (List.mem_of_getElem? (i := 105) rfl)
theorem w106 {Z : State} {a0 : Array Value} {zC : Int32} {uT : Addr} {sT : Addr} (G : Gl Z a0 zC uT sT) : (Jvm.Cond.methodLink "java/util/Arrays" (150 : Nat) ({ cls := "java/lang/System", name := "arraycopy", desc := "(Ljava/lang/Object;ILjava/lang/Object;II)V" } : Jvm.MethodName)).before a0 Z = true := G.1 _ (List.mem_of_getElem? (i := 106) rfl)
theorem w107 {Z : State} {a0 : Array Value} {zC : Int32} {uT : Addr} {sT : Addr} (G : Gl Z a0 zC uT sT) : (Jvm.Cond.static ({ cls := "java/lang/System", name := "arraycopy", desc := "(Ljava/lang/Object;ILjava/lang/Object;II)V" } : Jvm.MethodName)).before a0 Z = true := G.1 _ (List.mem_of_getElem? (i := 107) rfl)
theorem w108 {Z : State} {a0 : Array Value} {zC : Int32} {uT : Addr} {sT : Addr} (G : Gl Z a0 zC uT sT) : (Jvm.Cond.initialized "java/lang/System").before a0 Z = true := G.1 _ (List.mem_of_getElem? (i := 108) rfl)
theorem w109 {Z : State} {a0 : Array Value} {zC : Int32} {uT : Addr} {sT : Addr} (G : Gl Z a0 zC uT sT) : (Jvm.Cond.native ({ cls := "java/lang/System", name := "arraycopy", desc := "(Ljava/lang/Object;ILjava/lang/Object;II)V" } : Jvm.MethodName)).before a0 Z = true := G.1 _ (List.mem_of_getElem? (i := 109) rfl)
theorem w110 {Z : State} {a0 : Array Value} {zC : Int32} {uT : Addr} {sT : Addr} (G : Gl Z a0 zC uT sT) : (Jvm.Cond.methodLink "java/lang/AbstractStringBuilder" (208 : Nat) ({ cls := "java/lang/AbstractStringBuilder", name := "putStringAt", desc := "(ILjava/lang/String;)V" } : Jvm.MethodName)).before a0 Z = true := G.1 _ (List.mem_of_getElem? (i := 110) rfl)
theorem w111 {Z : State} {a0 : Array Value} {zC : Int32} {uT : Addr} {sT : Addr} (G : Gl Z a0 zC uT sT) : (Jvm.Cond.instanceMethod ({ cls := "java/lang/AbstractStringBuilder", name := "putStringAt", desc := "(ILjava/lang/String;)V" } : Jvm.MethodName)).before a0 Z = true := G.1 _ (List.mem_of_getElem? (i := 111) rfl)
theorem w112 {Z : State} {a0 : Array Value} {zC : Int32} {uT : Addr} {sT : Addr} (G : Gl Z a0 zC uT sT) : (Jvm.Cond.privateMethod ({ cls := "java/lang/AbstractStringBuilder", name := "putStringAt", desc := "(ILjava/lang/String;)V" } : Jvm.MethodName)).before a0 Z = true := G.1 _ (List.mem_of_getElem? (i := 112) rfl)
theorem w114 {Z : State} {a0 : Array Value} {zC : Int32} {uT : Addr} {sT : Addr} (G : Gl Z a0 zC uT sT) : (Jvm.Cond.code ({ cls := "java/lang/AbstractStringBuilder", name := "putStringAt", desc := "(ILjava/lang/String;)V" } : Jvm.MethodName) jdk_68_method_73_code (3 : Nat) (Option.none : Option Jvm.ClassFile.FieldType)).before a0 Z = true := G.1 _ (List.mem_of_getElem? (i := 114) rfl)
theorem w115 {Z : State} {a0 : Array Value} {zC : Int32} {uT : Addr} {sT : Addr} (G : Gl Z a0 zC uT sT) : (Jvm.Cond.methodLink "java/lang/AbstractStringBuilder" (397 : Nat) ({ cls := "java/lang/AbstractStringBuilder", name := "inflateIfNeededFor", desc := "(Ljava/lang/String;)V" } : Jvm.MethodName)).before a0 Z = true := G.1 _ (List.mem_of_getElem? (i := 115) rfl)
theorem w116 {Z : State} {a0 : Array Value} {zC : Int32} {uT : Addr} {sT : Addr} (G : Gl Z a0 zC uT sT) : (Jvm.Cond.instanceMethod ({ cls := "java/lang/AbstractStringBuilder", name := "inflateIfNeededFor", desc := "(Ljava/lang/String;)V" } : Jvm.MethodName)).before a0 Z = true := G.1 _ (List.mem_of_getElem? (i := 116) rfl)
theorem w117 {Z : State} {a0 : Array Value} {zC : Int32} {uT : Addr} {sT : Addr} (G : Gl Z a0 zC uT sT) : (Jvm.Cond.privateMethod ({ cls := "java/lang/AbstractStringBuilder", name := "inflateIfNeededFor", desc := "(Ljava/lang/String;)V" } : Jvm.MethodName)).before a0 Z = true := G.1 _ (List.mem_of_getElem? (i := 117) rfl)
theorem w119 {Z : State} {a0 : Array Value} {zC : Int32} {uT : Addr} {sT : Addr} (G : Gl Z a0 zC uT sT) : (Jvm.Cond.code ({ cls := "java/lang/AbstractStringBuilder", name := "inflateIfNeededFor", desc := "(Ljava/lang/String;)V" } : Jvm.MethodName) jdk_68_method_71_code (2 : Nat) (Option.none : Option Jvm.ClassFile.FieldType)).before a0 Z = true := G.1 _ (List.mem_of_getElem? (i := 119) rfl)
theorem w120 {Z : State} {a0 : Array Value} {zC : Int32} {uT : Addr} {sT : Addr} (G : Gl Z a0 zC uT sT) : (Jvm.Cond.methodLink "java/lang/AbstractStringBuilder" (40 : Nat) ({ cls := "java/lang/String", name := "coder", desc := "()B" } : Jvm.MethodName)).before a0 Z = true := G.1 _ (List.mem_of_getElem? (i := 120) rfl)
theorem w121 {Z : State} {a0 : Array Value} {zC : Int32} {uT : Addr} {sT : Addr} (G : Gl Z a0 zC uT sT) : (Jvm.Cond.methodLink "java/lang/AbstractStringBuilder" (399 : Nat) ({ cls := "java/lang/String", name := "getBytes", desc := "([BIB)V" } : Jvm.MethodName)).before a0 Z = true := G.1 _ (List.mem_of_getElem? (i := 121) rfl)
theorem w122 {Z : State} {a0 : Array Value} {zC : Int32} {uT : Addr} {sT : Addr} (G : Gl Z a0 zC uT sT) : (Jvm.Cond.declares ({ cls := "java/lang/String", name := "getBytes", desc := "([BIB)V" } : Jvm.MethodName)).before a0 Z = true := G.1 _ (List.mem_of_getElem? (i := 122) rfl)
theorem w123 {Z : State} {a0 : Array Value} {zC : Int32} {uT : Addr} {sT : Addr} (G : Gl Z a0 zC uT sT) : (Jvm.Cond.instanceMethod ({ cls := "java/lang/String", name := "getBytes", desc := "([BIB)V" } : Jvm.MethodName)).before a0 Z = true := G.1 _ (List.mem_of_getElem? (i := 123) rfl)
theorem w124 {Z : State} {a0 : Array Value} {zC : Int32} {uT : Addr} {sT : Addr} (G : Gl Z a0 zC uT sT) : (Jvm.Cond.selects "java/lang/String" ({ cls := "java/lang/String", name := "getBytes", desc := "([BIB)V" } : Jvm.MethodName) ({ cls := "java/lang/String", name := "getBytes", desc := "([BIB)V" } : Jvm.MethodName)).before a0 Z = true := G.1 _ (List.mem_of_getElem? (i := 124) rfl)
theorem w125 {Z : State} {a0 : Array Value} {zC : Int32} {uT : Addr} {sT : Addr} (G : Gl Z a0 zC uT sT) : (Jvm.Cond.code ({ cls := "java/lang/String", name := "getBytes", desc := "([BIB)V" } : Jvm.MethodName) jdk_42_method_147_code (4 : Nat) (Option.none : Option Jvm.ClassFile.FieldType)).before a0 Z = true := G.1 _ (List.mem_of_getElem? (i := 125) rfl)
theorem w126 {Z : State} {a0 : Array Value} {zC : Int32} {uT : Addr} {sT : Addr} (G : Gl Z a0 zC uT sT) : (Jvm.Cond.methodLink "java/lang/String" (212 : Nat) ({ cls := "java/lang/System", name := "arraycopy", desc := "(Ljava/lang/Object;ILjava/lang/Object;II)V" } : Jvm.MethodName)).before a0 Z = true := G.1 _ (List.mem_of_getElem? (i := 126) rfl)
theorem w127 {Z : State} {a0 : Array Value} {zC : Int32} {uT : Addr} {sT : Addr} (G : Gl Z a0 zC uT sT) : (Jvm.Cond.stringLink "com/example/dutiful_pruner/dutifulpruner/prune/PruningRequestException" (20 : Nat) ", ").before a0 Z = true := G.1 _ (List.mem_of_getElem? (i := 127) rfl)
theorem w128 {Z : State} {a0 : Array Value} {zC : Int32} {uT : Addr} {sT : Addr} (G : Gl Z a0 zC uT sT) : (Jvm.Cond.stringLink "com/example/dutiful_pruner/dutifulpruner/prune/PruningRequestException" (22 : Nat) "; was it made on another index?").before a0 Z = true := G.1 _ (List.mem_of_getElem? (i := 128) rfl)
theorem w129 {Z : State} {a0 : Array Value} {zC : Int32} {uT : Addr} {sT : Addr} (G : Gl Z a0 zC uT sT) : (Jvm.Cond.methodLink "com/example/dutiful_pruner/dutifulpruner/prune/PruningRequestException" (24 : Nat) ({ cls := "java/lang/StringBuilder", name := "toString", desc := "()Ljava/lang/String;" } : Jvm.MethodName)).before a0 Z = true := G.1 _ (List.mem_of_getElem? (i := 129) rfl)
theorem w130 {Z : State} {a0 : Array Value} {zC : Int32} {uT : Addr} {sT : Addr} (G : Gl Z a0 zC uT sT) : (Jvm.Cond.declares ({ cls := "java/lang/StringBuilder", name := "toString", desc := "()Ljava/lang/String;" } : Jvm.MethodName)).before a0 Z = true := G.1 _ (List.mem_of_getElem? (i := 130) rfl)
theorem w131 {Z : State} {a0 : Array Value} {zC : Int32} {uT : Addr} {sT : Addr} (G : Gl Z a0 zC uT sT) : (Jvm.Cond.instanceMethod ({ cls := "java/lang/StringBuilder", name := "toString", desc := "()Ljava/lang/String;" } : Jvm.MethodName)).before a0 Z = true := G.1 _ (List.mem_of_getElem? (i := 131) rfl)
theorem w132 {Z : State} {a0 : Array Value} {zC : Int32} {uT : Addr} {sT : Addr} (G : Gl Z a0 zC uT sT) : (Jvm.Cond.selects "java/lang/StringBuilder" ({ cls := "java/lang/StringBuilder", name := "toString", desc := "()Ljava/lang/String;" } : Jvm.MethodName) ({ cls := "java/lang/StringBuilder", name := "toString", desc := "()Ljava/lang/String;" } : Jvm.MethodName)).before a0 Z = true := G.1 _ (List.mem_of_getElem? (i := 132) rfl)
theorem w133 {Z : State} {a0 : Array Value} {zC : Int32} {uT : Addr} {sT : Addr} (G : Gl Z a0 zC uT sT) : (Jvm.Cond.code ({ cls := "java/lang/StringBuilder", name := "toString", desc := "()Ljava/lang/String;" } : Jvm.MethodName) jdk_67_method_42_code (1 : Nat) (Option.some (Jvm.ClassFile.FieldType.object "java/lang/String"))).before a0 Z = true := G.1 _ (List.mem_of_getElem? (i := 133) rfl)
theorem w134 {Z : State} {a0 : Array Value} {zC : Int32} {uT : Addr} {sT : Addr} (G : Gl Z a0 zC uT sT) : (Jvm.Cond.classLink "java/lang/StringBuilder" (18 : Nat) "java/lang/String").before a0 Z = true := G.1 _ (List.mem_of_getElem? (i := 134) rfl)
theorem w135 {Z : State} {a0 : Array Value} {zC : Int32} {uT : Addr} {sT : Addr} (G : Gl Z a0 zC uT sT) : (Jvm.Cond.methodLink "java/lang/StringBuilder" (137 : Nat) ({ cls := "java/lang/String", name := "<init>", desc := "(Ljava/lang/StringBuilder;)V" } : Jvm.MethodName)).before a0 Z = true := G.1 _ (List.mem_of_getElem? (i := 135) rfl)
theorem w136 {Z : State} {a0 : Array Value} {zC : Int32} {uT : Addr} {sT : Addr} (G : Gl Z a0 zC uT sT) : (Jvm.Cond.instanceMethod ({ cls := "java/lang/String", name := "<init>", desc := "(Ljava/lang/StringBuilder;)V" } : Jvm.MethodName)).before a0 Z = true := G.1 _ (List.mem_of_getElem? (i := 136) rfl)
theorem w137 {Z : State} {a0 : Array Value} {zC : Int32} {uT : Addr} {sT : Addr} (G : Gl Z a0 zC uT sT) : (Jvm.Cond.code ({ cls := "java/lang/String", name := "<init>", desc := "(Ljava/lang/StringBuilder;)V" } : Jvm.MethodName) jdk_42_method_53_code (2 : Nat) (Option.none : Option Jvm.ClassFile.FieldType)).before a0 Z = true := G.1 _ (List.mem_of_getElem? (i := 137) rfl)
theorem w138 {Z : State} {a0 : Array Value} {zC : Int32} {uT : Addr} {sT : Addr} (G : Gl Z a0 zC uT sT) : (Jvm.Cond.methodLink "java/lang/String" (489 : Nat) ({ cls := "java/lang/String", name := "<init>", desc := "(Ljava/lang/AbstractStringBuilder;Ljava/lang/Void;)V" } : Jvm.MethodName)).before a0 Z = true := G.1 _ (List.mem_of_getElem? (i := 138) rfl)
theorem w139 {Z : State} {a0 : Array Value} {zC : Int32} {uT : Addr} {sT : Addr} (G : Gl Z a0 zC uT sT) : (Jvm.Cond.instanceMethod ({ cls := "java/lang/String", name := "<init>", desc := "(Ljava/lang/AbstractStringBuilder;Ljava/lang/Void;)V" } : Jvm.MethodName)).before a0 Z = true := G.1 _ (List.mem_of_getElem? (i := 139) rfl)
theorem w140 {Z : State} {a0 : Array Value} {zC : Int32} {uT : Addr} {sT : Addr} (G : Gl Z a0 zC uT sT) : (Jvm.Cond.code ({ cls := "java/lang/String", name := "<init>", desc := "(Ljava/lang/AbstractStringBuilder;Ljava/lang/Void;)V" } : Jvm.MethodName) jdk_42_method_150_code (5 : Nat) (Option.none : Option Jvm.ClassFile.FieldType)).before a0 Z = true := G.1 _ (List.mem_of_getElem? (i := 140) rfl)
theorem w141 {Z : State} {a0 : Array Value} {zC : Int32} {uT : Addr} {sT : Addr} (G : Gl Z a0 zC uT sT) : (Jvm.Cond.methodLink "java/lang/String" (552 : Nat) ({ cls := "java/lang/AbstractStringBuilder", name := "getValue", desc := "()[B" } : Jvm.MethodName)).before a0 Z = true := G.1 _ (List.mem_of_getElem? (i := 141) rfl)
theorem w142 {Z : State} {a0 : Array Value} {zC : Int32} {uT : Addr} {sT : Addr} (G : Gl Z a0 zC uT sT) : (Jvm.Cond.declares ({ cls := "java/lang/AbstractStringBuilder", name := "getValue", desc := "()[B" } : Jvm.MethodName)).before a0 Z = true := G.1 _ (List.mem_of_getElem? (i := 142) rfl)
theorem w143 {Z : State} {a0 : Array Value} {zC : Int32} {uT : Addr} {sT : Addr} (G : Gl Z a0 zC uT sT) : (Jvm.Cond.instanceMethod ({ cls := "java/lang/AbstractStringBuilder", name := "getValue", desc := "()[B" } : Jvm.MethodName)).before a0 Z = true := G.1 _ (List.mem_of_getElem? (i := 143) rfl)
theorem w144 {Z : State} {a0 : Array Value} {zC : Int32} {uT : Addr} {sT : Addr} (G : Gl Z a0 zC uT sT) : (Jvm.Cond.selects "java/lang/StringBuilder" ({ cls := "java/lang/AbstractStringBuilder", name := "getValue", desc := "()[B" } : Jvm.MethodName) ({ cls := "java/lang/AbstractStringBuilder", name := "getValue", desc := "()[B" } : Jvm.MethodName)).before a0 Z = true := G.1 _ (List.mem_of_getElem? (i := 144) rfl)
theorem w145 {Z : State} {a0 : Array Value} {zC : Int32} {uT : Addr} {sT : Addr} (G : Gl Z a0 zC uT sT) : (Jvm.Cond.code ({ cls := "java/lang/AbstractStringBuilder", name := "getValue", desc := "()[B" } : Jvm.MethodName) jdk_68_method_64_code (1 : Nat) (Option.some (Jvm.ClassFile.FieldType.array Jvm.ClassFile.FieldType.byte))).before a0 Z = true := G.1 _ (List.mem_of_getElem? (i := 145) rfl)
theorem w146 {Z : State} {a0 : Array Value} {zC : Int32} {uT : Addr} {sT : Addr} (G : Gl Z a0 zC uT sT) : (Jvm.Cond.methodLink "java/lang/String" (549 : Nat) ({ cls := "java/lang/AbstractStringBuilder", name := "length", desc := "()I" } : Jvm.MethodName)).before a0 Z = true := G.1 _ (List.mem_of_getElem? (i := 146) rfl)
theorem w147 {Z : State} {a0 : Array Value} {zC : Int32} {uT : Addr} {sT : Addr} (G : Gl Z a0 zC uT sT) : (Jvm.Cond.declares ({ cls := "java/lang/AbstractStringBuilder", name := "length", desc := "()I" } : Jvm.MethodName)).before a0 Z = true := G.1 _ (List.mem_of_getElem? (i := 147) rfl)
theorem w148 {Z : State} {a0 : Array Value} {zC : Int32} {uT : Addr} {sT : Addr} (G : Gl Z a0 zC uT sT) : (Jvm.Cond.instanceMethod ({ cls := "java/lang/AbstractStringBuilder", name := "length", desc := "()I" } : Jvm.MethodName)).before a0 Z = true := G.1 _ (List.mem_of_getElem? (i := 148) rfl)
theorem w149 {Z : State} {a0 : Array Value} {zC : Int32} {uT : Addr} {sT : Addr} (G : Gl Z a0 zC uT sT) : (Jvm.Cond.selects "java/lang/StringBuilder" ({ cls := "java/lang/AbstractStringBuilder", name := "length", desc := "()I" } : Jvm.MethodName) ({ cls := "java/lang/StringBuilder", name := "length", desc := "()I" } : Jvm.MethodName)).before a0 Z = true := G.1 _ (List.mem_of_getElem? (i := 149) rfl)
theorem w150 {Z : State} {a0 : Array Value} {zC : Int32} {uT : Addr} {sT : Addr} (G : Gl Z a0 zC uT sT) : (Jvm.Cond.instanceMethod ({ cls := "java/lang/StringBuilder", name := "length", desc := "()I" } : Jvm.MethodName)).before a0 Z = true := G.1 _ (List.mem_of_getElem? (i := 150) rfl)
theorem w151 {Z : State} {a0 : Array Value} {zC : Int32} {uT : Addr} {sT : Addr} (G : Gl Z a0 zC uT sT) : (Jvm.Cond.code ({ cls := "java/lang/StringBuilder", name := "length", desc := "()I" } : Jvm.MethodName) jdk_67_method_93_code (1 : Nat) (Option.some Jvm.ClassFile.FieldType.int)).before a0 Z = true := G.1 _ (List.mem_of_getElem? (i := 151) rfl)
theorem w152 {Z : State} {a0 : Array Value} {zC : Int32} {uT : Addr} {sT : Addr} (G : Gl Z a0 zC uT sT) : (Jvm.Cond.methodLink "java/lang/StringBuilder" (343 : Nat) ({ cls := "java/lang/AbstractStringBuilder", name := "length", desc := "()I" } : Jvm.MethodName)).before a0 Z = true := G.1 _ (List.mem_of_getElem? (i := 152) rfl)
theorem w153 {Z : State} {a0 : Array Value} {zC : Int32} {uT : Addr} {sT : Addr} (G : Gl Z a0 zC uT sT) : (Jvm.Cond.code ({ cls := "java/lang/AbstractStringBuilder", name := "length", desc := "()I" } : Jvm.MethodName) jdk_68_method_6_code (1 : Nat) (Option.some Jvm.ClassFile.FieldType.int)).before a0 Z = true := G.1 _ (List.mem_of_getElem? (i := 153) rfl)
theorem w154 {Z : State} {a0 : Array Value} {zC : Int32} {uT : Addr} {sT : Addr} (G : Gl Z a0 zC uT sT) : (Jvm.Cond.methodLink "java/lang/String" (1047 : Nat) ({ cls := "java/lang/AbstractStringBuilder", name := "isLatin1", desc := "()Z" } : Jvm.MethodName)).before a0 Z = true := G.1 _ (List.mem_of_getElem? (i := 154) rfl)
theorem w155 {Z : State} {a0 : Array Value} {zC : Int32} {uT : Addr} {sT : Addr} (G : Gl Z a0 zC uT sT) : (Jvm.Cond.declares ({ cls := "java/lang/AbstractStringBuilder", name := "isLatin1", desc := "()Z" } : Jvm.MethodName)).before a0 Z = true := G.1 _ (List.mem_of_getElem? (i := 155) rfl)
theorem w156 {Z : State} {a0 : Array Value} {zC : Int32} {uT : Addr} {sT : Addr} (G : Gl Z a0 zC uT sT) : (Jvm.Cond.instanceMethod ({ cls := "java/lang/AbstractStringBuilder", name := "isLatin1", desc := "()Z" } : Jvm.MethodName)).before a0 Z = true := G.1 _ (List.mem_of_getElem? (i := 156) rfl)
theorem w157 {Z : State} {a0 : Array Value} {zC : Int32} {uT : Addr} {sT : Addr} (G : Gl Z a0 zC uT sT) : (Jvm.Cond.selects "java/lang/StringBuilder" ({ cls := "java/lang/AbstractStringBuilder", name := "isLatin1", desc := "()Z" } : Jvm.MethodName) ({ cls := "java/lang/AbstractStringBuilder", name := "isLatin1", desc := "()Z" } : Jvm.MethodName)).before a0 Z = true := G.1 _ (List.mem_of_getElem? (i := 157) rfl)
theorem w158 {Z : State} {a0 : Array Value} {zC : Int32} {uT : Addr} {sT : Addr} (G : Gl Z a0 zC uT sT) : (Jvm.Cond.code ({ cls := "java/lang/AbstractStringBuilder", name := "isLatin1", desc := "()Z" } : Jvm.MethodName) jdk_68_method_68_code (1 : Nat) (Option.some Jvm.ClassFile.FieldType.boolean)).before a0 Z = true := G.1 _ (List.mem_of_getElem? (i := 158) rfl)
theorem w159 {Z : State} {a0 : Array Value} {zC : Int32} {uT : Addr} {sT : Addr} (G : Gl Z a0 zC uT sT) : (Jvm.Cond.methodLink "java/lang/String" (54 : Nat) ({ cls := "java/util/Arrays", name := "copyOfRange", desc := "([BII)[B" } : Jvm.MethodName)).before a0 Z = true := G.1 _ (List.mem_of_getElem? (i := 159) rfl)
theorem w160 {Z : State} {a0 : Array Value} {zC : Int32} {uT : Addr} {sT : Addr} (G : Gl Z a0 zC uT sT) : (Jvm.Cond.static ({ cls := "java/util/Arrays", name := "copyOfRange", desc := "([BII)[B" } : Jvm.MethodName)).before a0 Z = true := G.1 _ (List.mem_of_getElem? (i := 160) rfl)
theorem w161 {Z : State} {a0 : Array Value} {zC : Int32} {uT : Addr} {sT : Addr} (G : Gl Z a0 zC uT sT) : (Jvm.Cond.code ({ cls := "java/util/Arrays", name := "copyOfRange", desc := "([BII)[B" } : Jvm.MethodName) jdk_65_method_132_code (3 : Nat) (Option.some (Jvm.ClassFile.FieldType.array Jvm.ClassFile.FieldType.byte))).before a0 Z = true := G.1 _ (List.mem_of_getElem? (i := 161) rfl)
theorem w162 {Z : State} {a0 : Array Value} {zC : Int32} {uT : Addr} {sT : Addr} (G : Gl Z a0 zC uT sT) : (Jvm.Cond.methodLink "java/util/Arrays" (339 : Nat) ({ cls := "java/util/Arrays", name := "copyOfRangeByte", desc := "([BII)[B" } : Jvm.MethodName)).before a0 Z = true := G.1 _ (List.mem_of_getElem? (i := 162) rfl)
theorem w163 {Z : State} {a0 : Array Value} {zC : Int32} {uT : Addr} {sT : Addr} (G : Gl Z a0 zC uT sT) : (Jvm.Cond.static ({ cls := "java/util/Arrays", name := "copyOfRangeByte", desc := "([BII)[B" } : Jvm.MethodName)).before a0 Z = true := G.1 _ (List.mem_of_getElem? (i := 163) rfl)
theorem w164 {Z : State} {a0 : Array Value} {zC : Int32} {uT : Addr} {sT : Addr} (G : Gl Z a0 zC uT sT) : (Jvm.Cond.code ({ cls := "java/util/Arrays", name := "copyOfRangeByte", desc := "([BII)[B" } : Jvm.MethodName) jdk_65_method_133_code (5 : Nat) (Option.some (Jvm.ClassFile.FieldType.array Jvm.ClassFile.FieldType.byte))).before a0 Z = true := G.1 _ (List.mem_of_getElem? (i := 164) rfl)
theorem w165 {Z : State} {a0 : Array Value} {zC : Int32} {uT : Addr} {sT : Addr} (G : Gl Z a0 zC uT sT) : (Jvm.Cond.methodLink "java/util/Arrays" (343 : Nat) ({ cls := "java/util/Arrays", name := "checkLength", desc := "(II)V" } : Jvm.MethodName)).before a0 Z = true := G.1 _ (List.mem_of_getElem? (i := 165) rfl)
theorem w166 {Z : State} {a0 : Array Value} {zC : Int32} {uT : Addr} {sT : Addr} (G : Gl Z a0 zC uT sT) : (Jvm.Cond.static ({ cls := "java/util/Arrays", name := "checkLength", desc := "(II)V" } : Jvm.MethodName)).before a0 Z = true := G.1 _ (List.mem_of_getElem? (i := 166) rfl)
theorem w167 {Z : State} {a0 : Array Value} {zC : Int32} {uT : Addr} {sT : Addr} (G : Gl Z a0 zC uT sT) : (Jvm.Cond.code ({ cls := "java/util/Arrays", name := "checkLength", desc := "(II)V" } : Jvm.MethodName) jdk_65_method_131_code (2 : Nat) (Option.none : Option Jvm.ClassFile.FieldType)).before a0 Z = true := G.1 _ (List.mem_of_getElem? (i := 167) rfl)
theorem w168 {Z : State} {a0 : Array Value} {zC : Int32} {uT : Addr} {sT : Addr} (G : Gl Z a0 zC uT sT) : (Jvm.Cond.methodLink "com/example/dutiful_pruner/dutifulpruner/prune/PruningRequestException" (28 : Nat) ({ cls := "com/example/dutiful_pruner/dutifulpruner/prune/PruningRequestException", name := "<init>", desc := "(Ljava/lang/String;)V" } : Jvm.MethodName)).before a0 Z = true := G.1 _ (List.mem_of_getElem? (i := 168) rfl)
theorem w169 {Z : State} {a0 : Array Value} {zC : Int32} {uT : Addr} {sT : Addr} (G : Gl Z a0 zC uT sT) : (Jvm.Cond.instanceMethod ({ cls := "com/example/dutiful_pruner/dutifulpruner/prune/PruningRequestException", name := "<init>", desc := "(Ljava/lang/String;)V" } : Jvm.MethodName)).before a0 Z = true := G.1 _ (List.mem_of_getElem? (i := 169) rfl)
theorem w170 {Z : State} {a0 : Array Value} {zC : Int32} {uT : Addr} {sT : Addr} (G : Gl Z a0 zC uT sT) : (Jvm.Cond.code ({ cls := "com/example/dutiful_pruner/dutifulpruner/prune/PruningRequestException", name := "<init>", desc := "(Ljava/lang/String;)V" } : Jvm.MethodName) prog_13_method_1_code (2 : Nat) (Option.none : Option Jvm.ClassFile.FieldType)).before a0 Z = true := G.1 _ (List.mem_of_getElem? (i := 170) rfl)
theorem w171 {Z : State} {a0 : Array Value} {zC : Int32} {uT : Addr} {sT : Addr} (G : Gl Z a0 zC uT sT) : (Jvm.Cond.methodLink "com/example/dutiful_pruner/dutifulpruner/prune/PruningRequestException" (1 : Nat) ({ cls := "java/lang/Exception", name := "<init>", desc := "(Ljava/lang/String;)V" } : Jvm.MethodName)).before a0 Z = true := G.1 _ (List.mem_of_getElem? (i := 171) rfl)
theorem w172 {Z : State} {a0 : Array Value} {zC : Int32} {uT : Addr} {sT : Addr} (G : Gl Z a0 zC uT sT) : (Jvm.Cond.instanceMethod ({ cls := "java/lang/Exception", name := "<init>", desc := "(Ljava/lang/String;)V" } : Jvm.MethodName)).before a0 Z = true := G.1 _ (List.mem_of_getElem? (i := 172) rfl)
theorem w174 {Z : State} {a0 : Array Value} {zC : Int32} {uT : Addr} {sT : Addr} (G : Gl Z a0 zC uT sT) : (Jvm.Cond.initialized "java/lang/Exception").before a0 Z = true := G.1 _ (List.mem_of_getElem? (i := 174) rfl)
theorem w175 {Z : State} {a0 : Array Value} {zC : Int32} {uT : Addr} {sT : Addr} (G : Gl Z a0 zC uT sT) : (Jvm.Cond.code ({ cls := "java/lang/Exception", name := "<init>", desc := "(Ljava/lang/String;)V" } : Jvm.MethodName) jdk_59_method_2_code (2 : Nat) (Option.none : Option Jvm.ClassFile.FieldType)).before a0 Z = true := G.1 _ (List.mem_of_getElem? (i := 175) rfl)
theorem w176 {Z : State} {a0 : Array Value} {zC : Int32} {uT : Addr} {sT : Addr} (G : Gl Z a0 zC uT sT) : (Jvm.Cond.methodLink "java/lang/Exception" (7 : Nat) ({ cls := "java/lang/Throwable", name := "<init>", desc := "(Ljava/lang/String;)V" } : Jvm.MethodName)).before a0 Z = true := G.1 _ (List.mem_of_getElem? (i := 176) rfl)
theorem w177 {Z : State} {a0 : Array Value} {zC : Int32} {uT : Addr} {sT : Addr} (G : Gl Z a0 zC uT sT) : (Jvm.Cond.instanceMethod ({ cls := "java/lang/Throwable", name := "<init>", desc := "(Ljava/lang/String;)V" } : Jvm.MethodName)).before a0 Z = true := G.1 _ (List.mem_of_getElem? (i := 177) rfl)
theorem w180 {Z : State} {a0 : Array Value} {zC : Int32} {uT : Addr} {sT : Addr} (G : Gl Z a0 zC uT sT) : (Jvm.Cond.initialized "java/lang/Throwable").before a0 Z = true := G.1 _ (List.mem_of_getElem? (i := 180) rfl)
theorem w181 {Z : State} {a0 : Array Value} {zC : Int32} {uT : Addr} {sT : Addr} (G : Gl Z a0 zC uT sT) : (Jvm.Cond.code ({ cls := "java/lang/Throwable", name := "<init>", desc := "(Ljava/lang/String;)V" } : Jvm.MethodName) jdk_78_method_2_code (2 : Nat) (Option.none : Option Jvm.ClassFile.FieldType)).before a0 Z = true := G.1 _ (List.mem_of_getElem? (i := 181) rfl)
theorem w182 {Z : State} {a0 : Array Value} {zC : Int32} {uT : Addr} {sT : Addr} (G : Gl Z a0 zC uT sT) : (Jvm.Cond.methodLink "java/lang/Throwable" (1 : Nat) ({ cls := "java/lang/Object", name := "<init>", desc := "()V" } : Jvm.MethodName)).before a0 Z = true := G.1 _ (List.mem_of_getElem? (i := 182) rfl)
theorem w183 {Z : State} {a0 : Array Value} {zC : Int32} {uT : Addr} {sT : Addr} (G : Gl Z a0 zC uT sT) : (Jvm.Cond.fieldLink "java/lang/Throwable" (7 : Nat) "java/lang/Throwable" "cause" "Ljava/lang/Throwable;").before a0 Z = true := G.1 _ (List.mem_of_getElem? (i := 183) rfl)
theorem w184 {Z : State} {a0 : Array Value} {zC : Int32} {uT : Addr} {sT : Addr} (G : Gl Z a0 zC uT sT) : (Jvm.Cond.lays "com/example/dutiful_pruner/dutifulpruner/prune/PruningRequestException" "java/lang/Throwable" "cause" "Ljava/lang/Throwable;").before a0 Z = true := G.1 _ (List.mem_of_getElem? (i := 184) rfl)
theorem w185 {Z : State} {a0 : Array Value} {zC : Int32} {uT : Addr} {sT : Addr} (G : Gl Z a0 zC uT sT) : (Jvm.Cond.fieldLink "java/lang/Throwable" (13 : Nat) "java/lang/Throwable" "UNASSIGNED_STACK" "[Ljava/lang/StackTraceElement;").before a0 Z = true := G.1 _ (List.mem_of_getElem? (i := 185) rfl)
theorem w186 {Z : State} {a0 : Array Value} {zC : Int32} {uT : Addr} {sT : Addr} (G : Gl Z a0 zC uT sT) : (Jvm.Cond.fieldLink "java/lang/Throwable" (17 : Nat) "java/lang/Throwable" "stackTrace" "[Ljava/lang/StackTraceElement;").before a0 Z = true := G.1 _ (List.mem_of_getElem? (i := 186) rfl)
theorem w187 {Z : State} {a0 : Array Value} {zC : Int32} {uT : Addr} {sT : Addr} (G : Gl Z a0 zC uT sT) : (Jvm.Cond.lays "com/example/dutiful_pruner/dutifulpruner/prune/PruningRequestException" "java/lang/Throwable" "stackTrace" "[Ljava/lang/StackTraceElement;").before a0 Z = true := G.1 _ (List.mem_of_getElem? (i := 187) rfl)
theorem w188 {Z : State} {a0 : Array Value} {zC : Int32} {uT : Addr} {sT : Addr} (G : Gl Z a0 zC uT sT) : (Jvm.Cond.fieldLink "java/lang/Throwable" (20 : Nat) "java/lang/Throwable" "SUPPRESSED_SENTINEL" "Ljava/util/List;").before a0 Z = true := G.1 _ (List.mem_of_getElem? (i := 188) rfl)
theorem w189 {Z : State} {a0 : Array Value} {zC : Int32} {uT : Addr} {sT : Addr} (G : Gl Z a0 zC uT sT) : (Jvm.Cond.fieldLink "java/lang/Throwable" (24 : Nat) "java/lang/Throwable" "suppressedExceptions" "Ljava/util/List;").before a0 Z = true := G.1 _ (List.mem_of_getElem? (i := 189) rfl)
theorem w190 {Z : State} {a0 : Array Value} {zC : Int32} {uT : Addr} {sT : Addr} (G : Gl Z a0 zC uT sT) : (Jvm.Cond.lays "com/example/dutiful_pruner/dutifulpruner/prune/PruningRequestException" "java/lang/Throwable" "suppressedExceptions" "Ljava/util/List;").before a0 Z = true := G.1 _ (List.mem_of_getElem? (i := 190) rfl)
theorem w191 {Z : State} {a0 : Array Value} {zC : Int32} {uT : Addr} {sT : Addr} (G : Gl Z a0 zC uT sT) : (Jvm.Cond.methodLink "java/lang/Throwable" (27 : Nat) ({ cls := "java/lang/Throwable", name := "fillInStackTrace", desc := "()Ljava/lang/Throwable;" } : Jvm.MethodName)).before a0 Z = true := G.1 _ (List.mem_of_getElem? (i := 191) rfl)
theorem w192 {Z : State} {a0 : Array Value} {zC : Int32} {uT : Addr} {sT : Addr} (G : Gl Z a0 zC uT sT) : (Jvm.Cond.declares ({ cls := "java/lang/Throwable", name := "fillInStackTrace", desc := "()Ljava/lang/Throwable;" } : Jvm.MethodName)).before a0 Z = true := G.1 _ (List.mem_of_getElem? (i := 192) rfl)
theorem w193 {Z : State} {a0 : Array Value} {zC : Int32} {uT : Addr} {sT : Addr} (G : Gl Z a0 zC uT sT) : (Jvm.Cond.instanceMethod ({ cls := "java/lang/Throwable", name := "fillInStackTrace", desc := "()Ljava/lang/Throwable;" } : Jvm.MethodName)).before a0 Z = true := G.1 _ (List.mem_of_getElem? (i := 193) rfl)
theorem w194 {Z : State} {a0 : Array Value} {zC : Int32} {uT : Addr} {sT : Addr} (G : Gl Z a0 zC uT sT) : (Jvm.Cond.selects "com/example/dutiful_pruner/dutifulpruner/prune/PruningRequestException" ({ cls := "java/lang/Throwable", name := "fillInStackTrace", desc := "()Ljava/lang/Throwable;" } : Jvm.MethodName) ({ cls := "java/lang/Throwable", name := "fillInStackTrace", desc := "()Ljava/lang/Throwable;" } : Jvm.MethodName)).before a0 Z = true := G.1 _ (List.mem_of_getElem? (i := 194) rfl)
theorem w195 {Z : State} {a0 : Array Value} {zC : Int32} {uT : Addr} {sT : Addr} (G : Gl Z a0 zC uT sT) : (Jvm.Cond.arrayOver (Jvm.ClassFile.FieldType.object "java/lang/Object")).before a0 Z = true := G.1 _ (List.mem_of_getElem? (i := 195) rfl)
theorem w196 {Z : State} {a0 : Array Value} {zC : Int32} {uT : Addr} {sT : Addr} (G : Gl Z a0 zC uT sT) : (Jvm.Cond.soleField "java/lang/Throwable" "backtrace").before a0 Z = true := G.1 _ (List.mem_of_getElem? (i := 196) rfl)
theorem w197 {Z : State} {a0 : Array Value} {zC : Int32} {uT : Addr} {sT : Addr} (G : Gl Z a0 zC uT sT) : (Jvm.Cond.soleField "java/lang/Throwable" "depth").before a0 Z = true := G.1 _ (List.mem_of_getElem? (i := 197) rfl)
theorem w198 {Z : State} {a0 : Array Value} {zC : Int32} {uT : Addr} {sT : Addr} (G : Gl Z a0 zC uT sT) : (Jvm.Cond.superclass "java/lang/Throwable" "java/lang/Object").before a0 Z = true := G.1 _ (List.mem_of_getElem? (i := 198) rfl)
theorem w199 {Z : State} {a0 : Array Value} {zC : Int32} {uT : Addr} {sT : Addr} (G : Gl Z a0 zC uT sT) : (Jvm.Cond.codeSync ({ cls := "java/lang/Throwable", name := "fillInStackTrace", desc := "()Ljava/lang/Throwable;" } : Jvm.MethodName) jdk_78_method_18_code (1 : Nat) (Option.some (Jvm.ClassFile.FieldType.object "java/lang/Throwable"))).before a0 Z = true := G.1 _ (List.mem_of_getElem? (i := 199) rfl)
theorem w200 {Z : State} {a0 : Array Value} {zC : Int32} {uT : Addr} {sT : Addr} (G : Gl Z a0 zC uT sT) : (Jvm.Cond.instanceMethod ({ cls := "java/lang/Throwable", name := "fillInStackTrace", desc := "(I)Ljava/lang/Throwable;" } : Jvm.MethodName)).before a0 Z = true := G.1 _ (List.mem_of_getElem? (i := 200) rfl)
theorem w201 {Z : State} {a0 : Array Value} {zC : Int32} {uT : Addr} {sT : Addr} (G : Gl Z a0 zC uT sT) : (Jvm.Cond.native ({ cls := "java/lang/Throwable", name := "fillInStackTrace", desc := "(I)Ljava/lang/Throwable;" } : Jvm.MethodName)).before a0 Z = true := G.1 _ (List.mem_of_getElem? (i := 201) rfl)
theorem w202 {Z : State} {a0 : Array Value} {zC : Int32} {uT : Addr} {sT : Addr} (G : Gl Z a0 zC uT sT) : (Jvm.Cond.instanceMethod ({ cls := "java/lang/Throwable", name := "<init>", desc := "()V" } : Jvm.MethodName)).before a0 Z = true := G.1 _ (List.mem_of_getElem? (i := 202) rfl)
theorem w203 {Z : State} {a0 : Array Value} {zC : Int32} {uT : Addr} {sT : Addr} (G : Gl Z a0 zC uT sT) : (Jvm.Cond.code ({ cls := "java/lang/Throwable", name := "<init>", desc := "()V" } : Jvm.MethodName) jdk_78_method_1_code (1 : Nat) (Option.none : Option Jvm.ClassFile.FieldType)).before a0 Z = true := G.1 _ (List.mem_of_getElem? (i := 203) rfl)
theorem w204 {Z : State} {a0 : Array Value} {zC : Int32} {uT : Addr} {sT : Addr} (G : Gl Z a0 zC uT sT) : (Jvm.Cond.methodLink "java/lang/Throwable" (202 : Nat) ({ cls := "java/lang/Throwable", name := "fillInStackTrace", desc := "(I)Ljava/lang/Throwable;" } : Jvm.MethodName)).before a0 Z = true := G.1 _ (List.mem_of_getElem? (i := 204) rfl)
theorem w209 {Z : State} {a0 : Array Value} {zC : Int32} {uT : Addr} {sT : Addr} (G : Gl Z a0 zC uT sT) : (Jvm.Cond.fieldLink "java/lang/Throwable" (198 : Nat) "java/lang/Throwable" "backtrace" "Ljava/lang/Object;").before a0 Z = true := G.1 _ (List.mem_of_getElem? (i := 209) rfl)
theorem w211 {Z : State} {a0 : Array Value} {zC : Int32} {uT : Addr} {sT : Addr} (G : Gl Z a0 zC uT sT) : (Jvm.Cond.laysStatic "java/lang/Throwable" "UNASSIGNED_STACK" "[Ljava/lang/StackTraceElement;").before a0 Z = true := G.1 _ (List.mem_of_getElem? (i := 211) rfl)
theorem w212 {Z : State} {a0 : Array Value} {zC : Int32} {uT : Addr} {sT : Addr} (G : Gl Z a0 zC uT sT) : (Jvm.Cond.laysStatic "java/lang/Throwable" "SUPPRESSED_SENTINEL" "Ljava/util/List;").before a0 Z = true := G.1 _ (List.mem_of_getElem? (i := 212) rfl)
theorem w213 {Z : State} {a0 : Array Value} {zC : Int32} {uT : Addr} {sT : Addr} (G : Gl Z a0 zC uT sT) : (Jvm.Cond.selects "com/example/dutiful_pruner/dutifulpruner/prune/PruningRequestException" ({ cls := "java/lang/Throwable", name := "fillInStackTrace", desc := "(I)Ljava/lang/Throwable;" } : Jvm.MethodName) ({ cls := "java/lang/Throwable", name := "fillInStackTrace", desc := "(I)Ljava/lang/Throwable;" } : Jvm.MethodName)).before a0 Z = true := G.1 _ (List.mem_of_getElem? (i := 213) rfl)
theorem w214 {Z : State} {a0 : Array Value} {zC : Int32} {uT : Addr} {sT : Addr} (G : Gl Z a0 zC uT sT) : (Jvm.Cond.lays "com/example/dutiful_pruner/dutifulpruner/prune/PruningRequestException" "java/lang/Throwable" "detailMessage" "Ljava/lang/String;").before a0 Z = true := G.1 _ (List.mem_of_getElem? (i := 214) rfl)
theorem w215 {Z : State} {a0 : Array Value} {zC : Int32} {uT : Addr} {sT : Addr} (G : Gl Z a0 zC uT sT) : (Jvm.Cond.lays "com/example/dutiful_pruner/dutifulpruner/prune/PruningRequestException" "java/lang/Throwable" "backtrace" "Ljava/lang/Object;").before a0 Z = true := G.1 _ (List.mem_of_getElem? (i := 215) rfl)
theorem w216 {Z : State} {a0 : Array Value} {zC : Int32} {uT : Addr} {sT : Addr} (G : Gl Z a0 zC uT sT) : (Jvm.Cond.lays "com/example/dutiful_pruner/dutifulpruner/prune/PruningRequestException" "java/lang/Throwable" "depth" "I").before a0 Z = true := G.1 _ (List.mem_of_getElem? (i := 216) rfl)
theorem w218 {Z : State} {a0 : Array Value} {zC : Int32} {uT : Addr} {sT : Addr} (G : Gl Z a0 zC uT sT) : (Jvm.Cond.fieldLink "java/lang/Throwable" (31 : Nat) "java/lang/Throwable" "detailMessage" "Ljava/lang/String;").before a0 Z = true := G.1 _ (List.mem_of_getElem? (i := 218) rfl)
theorem w219 {Z : State} {a0 : Array Value} {zC : Int32} {uT : Addr} {sT : Addr} (G : Gl Z a0 zC uT sT) : (Jvm.Cond.methodLink "com/example/dutiful_pruner/dutifulpruner/prune/PruningRequestExceptionLogOfAnotherIndexPinLaw" (18 : Nat) ({ cls := "com/example/dutiful_pruner/dutifulpruner/prune/PruningRequestException", name := "getMessage", desc := "()Ljava/lang/String;" } : Jvm.MethodName)).before a0 Z = true := G.1 _ (List.mem_of_getElem? (i := 219) rfl)
theorem w220 {Z : State} {a0 : Array Value} {zC : Int32} {uT : Addr} {sT : Addr} (G : Gl Z a0 zC uT sT) : (Jvm.Cond.sameMethod "com/example/dutiful_pruner/dutifulpruner/prune/PruningRequestException" "java/lang/Throwable" "getMessage" "()Ljava/lang/String;").before a0 Z = true := G.1 _ (List.mem_of_getElem? (i := 220) rfl)
theorem w221 {Z : State} {a0 : Array Value} {zC : Int32} {uT : Addr} {sT : Addr} (G : Gl Z a0 zC uT sT) : (Jvm.Cond.declares ({ cls := "java/lang/Throwable", name := "getMessage", desc := "()Ljava/lang/String;" } : Jvm.MethodName)).before a0 Z = true := G.1 _ (List.mem_of_getElem? (i := 221) rfl)
theorem w222 {Z : State} {a0 : Array Value} {zC : Int32} {uT : Addr} {sT : Addr} (G : Gl Z a0 zC uT sT) : (Jvm.Cond.instanceMethod ({ cls := "java/lang/Throwable", name := "getMessage", desc := "()Ljava/lang/String;" } : Jvm.MethodName)).before a0 Z = true := G.1 _ (List.mem_of_getElem? (i := 222) rfl)
theorem w223 {Z : State} {a0 : Array Value} {zC : Int32} {uT : Addr} {sT : Addr} (G : Gl Z a0 zC uT sT) : (Jvm.Cond.selects "com/example/dutiful_pruner/dutifulpruner/prune/PruningRequestException" ({ cls := "com/example/dutiful_pruner/dutifulpruner/prune/PruningRequestException", name := "getMessage", desc := "()Ljava/lang/String;" } : Jvm.MethodName) ({ cls := "java/lang/Throwable", name := "getMessage", desc := "()Ljava/lang/String;" } : Jvm.MethodName)).before a0 Z = true := G.1 _ (List.mem_of_getElem? (i := 223) rfl)
theorem w224 {Z : State} {a0 : Array Value} {zC : Int32} {uT : Addr} {sT : Addr} (G : Gl Z a0 zC uT sT) : (Jvm.Cond.code ({ cls := "java/lang/Throwable", name := "getMessage", desc := "()Ljava/lang/String;" } : Jvm.MethodName) jdk_78_method_6_code (1 : Nat) (Option.some (Jvm.ClassFile.FieldType.object "java/lang/String"))).before a0 Z = true := G.1 _ (List.mem_of_getElem? (i := 224) rfl)
theorem w225 {Z : State} {a0 : Array Value} {zC : Int32} {uT : Addr} {sT : Addr} (G : Gl Z a0 zC uT sT) : (Jvm.Cond.methodLink "com/example/dutiful_pruner/dutifulpruner/prune/PruningRequestExceptionLogOfAnotherIndexPinLaw" (22 : Nat) ({ cls := "java/lang/String", name := "equals", desc := "(Ljava/lang/Object;)Z" } : Jvm.MethodName)).before a0 Z = true := G.1 _ (List.mem_of_getElem? (i := 225) rfl)
theorem w226 {Z : State} {a0 : Array Value} {zC : Int32} {uT : Addr} {sT : Addr} (G : Gl Z a0 zC uT sT) : (Jvm.Cond.declares ({ cls := "java/lang/String", name := "equals", desc := "(Ljava/lang/Object;)Z" } : Jvm.MethodName)).before a0 Z = true := G.1 _ (List.mem_of_getElem? (i := 226) rfl)
theorem w227 {Z : State} {a0 : Array Value} {zC : Int32} {uT : Addr} {sT : Addr} (G : Gl Z a0 zC uT sT) : (Jvm.Cond.instanceMethod ({ cls := "java/lang/String", name := "equals", desc := "(Ljava/lang/Object;)Z" } : Jvm.MethodName)).before a0 Z = true := G.1 _ (List.mem_of_getElem? (i := 227) rfl)
theorem w228 {Z : State} {a0 : Array Value} {zC : Int32} {uT : Addr} {sT : Addr} (G : Gl Z a0 zC uT sT) : (Jvm.Cond.selects "java/lang/String" ({ cls := "java/lang/String", name := "equals", desc := "(Ljava/lang/Object;)Z" } : Jvm.MethodName) ({ cls := "java/lang/String", name := "equals", desc := "(Ljava/lang/Object;)Z" } : Jvm.MethodName)).before a0 Z = true := G.1 _ (List.mem_of_getElem? (i := 228) rfl)
theorem w229 {Z : State} {a0 : Array Value} {zC : Int32} {uT : Addr} {sT : Addr} (G : Gl Z a0 zC uT sT) : (Jvm.Cond.code ({ cls := "java/lang/String", name := "equals", desc := "(Ljava/lang/Object;)Z" } : Jvm.MethodName) jdk_42_method_66_code (3 : Nat) (Option.some Jvm.ClassFile.FieldType.boolean)).before a0 Z = true := G.1 _ (List.mem_of_getElem? (i := 229) rfl)
theorem w230 {Z : State} {a0 : Array Value} {zC : Int32} {uT : Addr} {sT : Addr} (G : Gl Z a0 zC uT sT) : (Jvm.Cond.classLink "java/lang/String" (10 : Nat) "java/lang/String").before a0 Z = true := G.1 _ (List.mem_of_getElem? (i := 230) rfl)
theorem w231 {Z : State} {a0 : Array Value} {zC : Int32} {uT : Addr} {sT : Addr} (G : Gl Z a0 zC uT sT) : (Jvm.Cond.methodLink "java/lang/String" (541 : Nat) ({ cls := "java/lang/StringLatin1", name := "equals", desc := "([B[B)Z" } : Jvm.MethodName)).before a0 Z = true := G.1 _ (List.mem_of_getElem? (i := 231) rfl)
theorem w232 {Z : State} {a0 : Array Value} {zC : Int32} {uT : Addr} {sT : Addr} (G : Gl Z a0 zC uT sT) : (Jvm.Cond.static ({ cls := "java/lang/StringLatin1", name := "equals", desc := "([B[B)Z" } : Jvm.MethodName)).before a0 Z = true := G.1 _ (List.mem_of_getElem? (i := 232) rfl)
theorem w233 {Z : State} {a0 : Array Value} {zC : Int32} {uT : Addr} {sT : Addr} (G : Gl Z a0 zC uT sT) : (Jvm.Cond.initialized "java/lang/StringLatin1").before a0 Z = true := G.1 _ (List.mem_of_getElem? (i := 233) rfl)
theorem w234 {Z : State} {a0 : Array Value} {zC : Int32} {uT : Addr} {sT : Addr} (G : Gl Z a0 zC uT sT) : (Jvm.Cond.code ({ cls := "java/lang/StringLatin1", name := "equals", desc := "([B[B)Z" } : Jvm.MethodName) jdk_43_method_13_code (3 : Nat) (Option.some Jvm.ClassFile.FieldType.boolean)).before a0 Z = true := G.1 _ (List.mem_of_getElem? (i := 234) rfl)
theorem watoms {Z : State} {a0 : Array Value} {zC : Int32} {uT : Addr} {sT : Addr} (G : Gl Z a0 zC uT sT) : ∀ a ∈ Bundle.stringAtoms, a.before a0 Z = true := fun d hd => by
  simp only [Bundle.stringAtoms, List.mem_cons, List.not_mem_nil, or_false] at hd
  rcases hd with rfl | rfl | rfl | rfl | rfl | rfl | rfl
  · exact (w2 G)
  · exact (w1 G)
  · exact (w19 G)
  · exact (w29 G)
  · exact (w27 G)
  · exact (w55 G)
  · exact (w56 G)
theorem d_jdk_52_m21_3 : decode jdk_52_method_21_code 3 = .ok (.iload 5, 2) := by decide +kernel
theorem d_jdk_52_m21_5 : decode jdk_52_method_21_code 5 = .ok (.iload 4, 2) := by decide +kernel
theorem d_jdk_52_m21_7 : decode jdk_52_method_21_code 7 = .ok (.if_icmp .ge 37, 3) := by decide +kernel
theorem d_jdk_52_m21_44 : decode jdk_52_method_21_code 44 = .ok (.iload 4, 2) := by decide +kernel
theorem d_jdk_52_m21_46 : decode jdk_52_method_21_code 46 = .ok (.ireturn, 1) := by decide +kernel
theorem d_jdk_52_m21_10 : decode jdk_52_method_21_code 10 = .ok (.aload_n 0, 1) := by decide +kernel
theorem d_jdk_52_m21_11 : decode jdk_52_method_21_code 11 = .ok (.iload_n 1, 1) := by decide +kernel
theorem d_jdk_52_m21_12 : decode jdk_52_method_21_code 12 = .ok (.caload, 1) := by decide +kernel
theorem d_jdk_52_m21_13 : decode jdk_52_method_21_code 13 = .ok (.istore 6, 2) := by decide +kernel
theorem d_jdk_52_m21_15 : decode jdk_52_method_21_code 15 = .ok (.iload 6, 2) := by decide +kernel
theorem d_jdk_52_m21_17 : decode jdk_52_method_21_code 17 = .ok (.sipush 255, 3) := by decide +kernel
theorem d_jdk_52_m21_20 : decode jdk_52_method_21_code 20 = .ok (.if_icmp .le 6, 3) := by decide +kernel
theorem d_jdk_52_m21_26 : decode jdk_52_method_21_code 26 = .ok (.aload_n 2, 1) := by decide +kernel
theorem d_jdk_52_m21_27 : decode jdk_52_method_21_code 27 = .ok (.iload_n 3, 1) := by decide +kernel
theorem d_jdk_52_m21_28 : decode jdk_52_method_21_code 28 = .ok (.iload 6, 2) := by decide +kernel
theorem d_jdk_52_m21_30 : decode jdk_52_method_21_code 30 = .ok (.i2b, 1) := by decide +kernel
theorem d_jdk_52_m21_31 : decode jdk_52_method_21_code 31 = .ok (.bastore, 1) := by decide +kernel
theorem d_jdk_52_m21_32 : decode jdk_52_method_21_code 32 = .ok (.iinc 1 1, 3) := by decide +kernel
theorem d_jdk_52_m21_35 : decode jdk_52_method_21_code 35 = .ok (.iinc 3 1, 3) := by decide +kernel
theorem d_jdk_52_m21_38 : decode jdk_52_method_21_code 38 = .ok (.iinc 5 1, 3) := by decide +kernel
theorem d_jdk_52_m21_41 : decode jdk_52_method_21_code 41 = .ok (.goto (-38), 3) := by decide +kernel
theorem d_jdk_52_m21_0 : decode jdk_52_method_21_code 0 = .ok (.iconst 0, 1) := by decide +kernel
theorem d_jdk_52_m21_1 : decode jdk_52_method_21_code 1 = .ok (.istore 5, 2) := by decide +kernel
theorem pn0 : plainName "java/lang/StringUTF16" = true := by first | (simp [plainName, overriddenIn]; done) | decide +kernel
theorem d_jdk_52_m15_0 : decode jdk_52_method_15_code 0 = .ok (.iload_n 1, 1) := by decide +kernel
theorem d_jdk_52_m15_1 : decode jdk_52_method_15_code 1 = .ok (.aload_n 0, 1) := by decide +kernel
theorem d_jdk_52_m15_2 : decode jdk_52_method_15_code 2 = .ok (.arraylength, 1) := by decide +kernel
theorem d_jdk_52_m15_3 : decode jdk_52_method_15_code 3 = .ok (.isub, 1) := by decide +kernel
theorem d_jdk_52_m15_4 : decode jdk_52_method_15_code 4 = .ok (.bipush 31, 2) := by decide +kernel
theorem d_jdk_52_m15_6 : decode jdk_52_method_15_code 6 = .ok (.iushr, 1) := by decide +kernel
theorem d_jdk_52_m15_7 : decode jdk_52_method_15_code 7 = .ok (.i2b, 1) := by decide +kernel
theorem d_jdk_52_m15_8 : decode jdk_52_method_15_code 8 = .ok (.ireturn, 1) := by decide +kernel
theorem d_jdk_52_m16_0 : decode jdk_52_method_16_code 0 = .ok (.iload_n 2, 1) := by decide +kernel
theorem d_jdk_52_m16_1 : decode jdk_52_method_16_code 1 = .ok (.newarray .byte, 2) := by decide +kernel
theorem d_jdk_52_m16_3 : decode jdk_52_method_16_code 3 = .ok (.astore_n 3, 1) := by decide +kernel
theorem d_jdk_52_m16_4 : decode jdk_52_method_16_code 4 = .ok (.aload_n 0, 1) := by decide +kernel
theorem d_jdk_52_m16_5 : decode jdk_52_method_16_code 5 = .ok (.iload_n 1, 1) := by decide +kernel
theorem d_jdk_52_m16_6 : decode jdk_52_method_16_code 6 = .ok (.aload_n 3, 1) := by decide +kernel
theorem d_jdk_52_m16_7 : decode jdk_52_method_16_code 7 = .ok (.iconst 0, 1) := by decide +kernel
theorem d_jdk_52_m16_8 : decode jdk_52_method_16_code 8 = .ok (.iload_n 2, 1) := by decide +kernel
theorem d_jdk_52_m16_9 : decode jdk_52_method_16_code 9 = .ok (.invokestatic 115, 3) := by decide +kernel
theorem pd1 : parseMethodDescriptor "([CI[BII)I" = some ⟨[(.array .char), .int, (.array .byte), .int, .int], some .int⟩ := by decide +kernel
theorem d_jdk_52_m16_12 : decode jdk_52_method_16_code 12 = .ok (.istore 4, 2) := by decide +kernel
theorem d_jdk_52_m16_14 : decode jdk_52_method_16_code 14 = .ok (.iload 4, 2) := by decide +kernel
theorem d_jdk_52_m16_16 : decode jdk_52_method_16_code 16 = .ok (.iload_n 2, 1) := by decide +kernel
theorem d_jdk_52_m16_17 : decode jdk_52_method_16_code 17 = .ok (.if_icmp .eq 40, 3) := by decide +kernel
theorem d_jdk_52_m16_57 : decode jdk_52_method_16_code 57 = .ok (.aload_n 3, 1) := by decide +kernel
theorem d_jdk_52_m16_58 : decode jdk_52_method_16_code 58 = .ok (.areturn, 1) := by decide +kernel
theorem d_jdk_42_m149_0 : decode jdk_42_method_149_code 0 = .ok (.aload_n 0, 1) := by decide +kernel
theorem d_jdk_42_m149_1 : decode jdk_42_method_149_code 1 = .ok (.invokespecial 1, 3) := by decide +kernel
theorem d_jdk_42_m149_4 : decode jdk_42_method_149_code 4 = .ok (.iload_n 3, 1) := by decide +kernel
theorem d_jdk_42_m149_5 : decode jdk_42_method_149_code 5 = .ok (.ifCond .ne 22, 3) := by decide +kernel
theorem d_jdk_42_m149_27 : decode jdk_42_method_149_code 27 = .ok (.getstatic 38, 3) := by decide +kernel
theorem d_jdk_42_m149_30 : decode jdk_42_method_149_code 30 = .ok (.ifCond .eq 28, 3) := by decide +kernel
theorem d_jdk_42_m149_33 : decode jdk_42_method_149_code 33 = .ok (.aload_n 1, 1) := by decide +kernel
theorem d_jdk_42_m149_34 : decode jdk_42_method_149_code 34 = .ok (.iload_n 2, 1) := by decide +kernel
theorem d_jdk_42_m149_35 : decode jdk_42_method_149_code 35 = .ok (.iload_n 3, 1) := by decide +kernel
theorem d_jdk_42_m149_36 : decode jdk_42_method_149_code 36 = .ok (.invokestatic 177, 3) := by decide +kernel
theorem pd2 : parseMethodDescriptor "([CII)[B" = some ⟨[(.array .char), .int, .int], some (.array .byte)⟩ := by decide +kernel
theorem d_jdk_42_m149_39 : decode jdk_42_method_149_code 39 = .ok (.astore 5, 2) := by decide +kernel
theorem d_jdk_42_m149_41 : decode jdk_42_method_149_code 41 = .ok (.aload_n 0, 1) := by decide +kernel
theorem d_jdk_42_m149_42 : decode jdk_42_method_149_code 42 = .ok (.aload 5, 2) := by decide +kernel
theorem d_jdk_42_m149_44 : decode jdk_42_method_149_code 44 = .ok (.iload_n 3, 1) := by decide +kernel
theorem d_jdk_42_m149_45 : decode jdk_42_method_149_code 45 = .ok (.invokestatic 47, 3) := by decide +kernel
theorem pd3 : parseMethodDescriptor "([BI)B" = some ⟨[(.array .byte), .int], some .byte⟩ := by decide +kernel
theorem d_jdk_42_m149_48 : decode jdk_42_method_149_code 48 = .ok (.putfield 15, 3) := by decide +kernel
theorem d_jdk_42_m149_51 : decode jdk_42_method_149_code 51 = .ok (.aload_n 0, 1) := by decide +kernel
theorem d_jdk_42_m149_52 : decode jdk_42_method_149_code 52 = .ok (.aload 5, 2) := by decide +kernel
theorem d_jdk_42_m149_54 : decode jdk_42_method_149_code 54 = .ok (.putfield 9, 3) := by decide +kernel
theorem d_jdk_42_m149_57 : decode jdk_42_method_149_code 57 = .ok (.return_, 1) := by decide +kernel
theorem pn4 : plainName "java/lang/String" = true := by first | (simp [plainName, overriddenIn]; done) | decide +kernel
theorem d_jdk_42_m3_0 : decode jdk_42_method_3_code 0 = .ok (.aload_n 0, 1) := by decide +kernel
theorem d_jdk_42_m3_1 : decode jdk_42_method_3_code 1 = .ok (.aload_n 1, 1) := by decide +kernel
theorem d_jdk_42_m3_2 : decode jdk_42_method_3_code 2 = .ok (.iconst 0, 1) := by decide +kernel
theorem d_jdk_42_m3_3 : decode jdk_42_method_3_code 3 = .ok (.aload_n 1, 1) := by decide +kernel
theorem d_jdk_42_m3_4 : decode jdk_42_method_3_code 4 = .ok (.arraylength, 1) := by decide +kernel
theorem d_jdk_42_m3_5 : decode jdk_42_method_3_code 5 = .ok (.aconst_null, 1) := by decide +kernel
theorem d_jdk_42_m3_6 : decode jdk_42_method_3_code 6 = .ok (.invokespecial 27, 3) := by decide +kernel
theorem pd5 : parseMethodDescriptor "([CIILjava/lang/Void;)V" = some ⟨[(.array .char), .int, .int, (.object "java/lang/Void")], none⟩ := by decide +kernel
theorem d_jdk_42_m3_9 : decode jdk_42_method_3_code 9 = .ok (.return_, 1) := by decide +kernel
theorem d_jdk_42_m152_0 : decode jdk_42_method_152_code 0 = .ok (.getstatic 38, 3) := by decide +kernel
theorem d_jdk_42_m152_3 : decode jdk_42_method_152_code 3 = .ok (.ifCond .eq 10, 3) := by decide +kernel
theorem d_jdk_42_m152_6 : decode jdk_42_method_152_code 6 = .ok (.aload_n 0, 1) := by decide +kernel
theorem d_jdk_42_m152_7 : decode jdk_42_method_152_code 7 = .ok (.getfield 15, 3) := by decide +kernel
theorem d_jdk_42_m152_10 : decode jdk_42_method_152_code 10 = .ok (.goto 4, 3) := by decide +kernel
theorem d_jdk_42_m152_14 : decode jdk_42_method_152_code 14 = .ok (.ireturn, 1) := by decide +kernel
theorem d_jdk_42_m54_0 : decode jdk_42_method_54_code 0 = .ok (.aload_n 0, 1) := by decide +kernel
theorem d_jdk_42_m54_1 : decode jdk_42_method_54_code 1 = .ok (.getfield 9, 3) := by decide +kernel
theorem d_jdk_42_m54_4 : decode jdk_42_method_54_code 4 = .ok (.arraylength, 1) := by decide +kernel
theorem d_jdk_42_m54_5 : decode jdk_42_method_54_code 5 = .ok (.aload_n 0, 1) := by decide +kernel
theorem d_jdk_42_m54_6 : decode jdk_42_method_54_code 6 = .ok (.invokevirtual 335, 3) := by decide +kernel
theorem pd6 : parseMethodDescriptor "()B" = some ⟨[], some .byte⟩ := by decide +kernel
theorem d_jdk_42_m54_9 : decode jdk_42_method_54_code 9 = .ok (.ishr, 1) := by decide +kernel
theorem d_jdk_42_m54_10 : decode jdk_42_method_54_code 10 = .ok (.ireturn, 1) := by decide +kernel
theorem d_jdk_43_m13_0 : decode jdk_43_method_13_code 0 = .ok (.aload_n 0, 1) := by decide +kernel
theorem d_jdk_43_m13_1 : decode jdk_43_method_13_code 1 = .ok (.arraylength, 1) := by decide +kernel
theorem d_jdk_43_m13_2 : decode jdk_43_method_13_code 2 = .ok (.aload_n 1, 1) := by decide +kernel
theorem d_jdk_43_m13_3 : decode jdk_43_method_13_code 3 = .ok (.arraylength, 1) := by decide +kernel
theorem d_jdk_43_m13_4 : decode jdk_43_method_13_code 4 = .ok (.if_icmp .ne 30, 3) := by decide +kernel
theorem d_jdk_43_m13_7 : decode jdk_43_method_13_code 7 = .ok (.iconst 0, 1) := by decide +kernel
theorem d_jdk_43_m13_8 : decode jdk_43_method_13_code 8 = .ok (.istore_n 2, 1) := by decide +kernel
theorem d_jdk_43_m13_9 : decode jdk_43_method_13_code 9 = .ok (.iload_n 2, 1) := by decide +kernel
theorem d_jdk_43_m13_10 : decode jdk_43_method_13_code 10 = .ok (.aload_n 0, 1) := by decide +kernel
theorem d_jdk_43_m13_11 : decode jdk_43_method_13_code 11 = .ok (.arraylength, 1) := by decide +kernel
theorem d_jdk_43_m13_12 : decode jdk_43_method_13_code 12 = .ok (.if_icmp .ge 20, 3) := by decide +kernel
theorem d_jdk_43_m13_32 : decode jdk_43_method_13_code 32 = .ok (.iconst 1, 1) := by decide +kernel
theorem d_jdk_43_m13_33 : decode jdk_43_method_13_code 33 = .ok (.ireturn, 1) := by decide +kernel
theorem d_jdk_43_m13_15 : decode jdk_43_method_13_code 15 = .ok (.aload_n 0, 1) := by decide +kernel
theorem d_jdk_43_m13_16 : decode jdk_43_method_13_code 16 = .ok (.iload_n 2, 1) := by decide +kernel
theorem d_jdk_43_m13_17 : decode jdk_43_method_13_code 17 = .ok (.baload, 1) := by decide +kernel
theorem d_jdk_43_m13_18 : decode jdk_43_method_13_code 18 = .ok (.aload_n 1, 1) := by decide +kernel
theorem d_jdk_43_m13_19 : decode jdk_43_method_13_code 19 = .ok (.iload_n 2, 1) := by decide +kernel
theorem d_jdk_43_m13_20 : decode jdk_43_method_13_code 20 = .ok (.baload, 1) := by decide +kernel
theorem d_jdk_43_m13_21 : decode jdk_43_method_13_code 21 = .ok (.if_icmp .eq 5, 3) := by decide +kernel
theorem d_jdk_43_m13_26 : decode jdk_43_method_13_code 26 = .ok (.iinc 2 1, 3) := by decide +kernel
theorem d_jdk_43_m13_29 : decode jdk_43_method_13_code 29 = .ok (.goto (-20), 3) := by decide +kernel
theorem d_jdk_43_m13_24 : decode jdk_43_method_13_code 24 = .ok (.iconst 0, 1) := by decide +kernel
theorem d_jdk_43_m13_25 : decode jdk_43_method_13_code 25 = .ok (.ireturn, 1) := by decide +kernel
theorem d_jdk_43_m13_34 : decode jdk_43_method_13_code 34 = .ok (.iconst 0, 1) := by decide +kernel
theorem d_jdk_43_m13_35 : decode jdk_43_method_13_code 35 = .ok (.ireturn, 1) := by decide +kernel
theorem pn7 : plainName "java/lang/StringLatin1" = true := by first | (simp [plainName, overriddenIn]; done) | decide +kernel
theorem d_jdk_42_m66_0 : decode jdk_42_method_66_code 0 = .ok (.aload_n 0, 1) := by decide +kernel
theorem d_jdk_42_m66_1 : decode jdk_42_method_66_code 1 = .ok (.aload_n 1, 1) := by decide +kernel
theorem d_jdk_42_m66_2 : decode jdk_42_method_66_code 2 = .ok (.if_acmp .ne 5, 3) := by decide +kernel
theorem d_jdk_42_m66_7 : decode jdk_42_method_66_code 7 = .ok (.aload_n 1, 1) := by decide +kernel
theorem d_jdk_42_m66_8 : decode jdk_42_method_66_code 8 = .ok (.instanceof 10, 3) := by decide +kernel
theorem d_jdk_42_m66_11 : decode jdk_42_method_66_code 11 = .ok (.ifCond .eq 43, 3) := by decide +kernel
theorem d_jdk_42_m66_14 : decode jdk_42_method_66_code 14 = .ok (.aload_n 1, 1) := by decide +kernel
theorem d_jdk_42_m66_15 : decode jdk_42_method_66_code 15 = .ok (.checkcast 10, 3) := by decide +kernel
theorem d_jdk_42_m66_18 : decode jdk_42_method_66_code 18 = .ok (.astore_n 2, 1) := by decide +kernel
theorem d_jdk_42_m66_19 : decode jdk_42_method_66_code 19 = .ok (.getstatic 38, 3) := by decide +kernel
theorem d_jdk_42_m66_22 : decode jdk_42_method_66_code 22 = .ok (.ifCond .eq 14, 3) := by decide +kernel
theorem d_jdk_42_m66_25 : decode jdk_42_method_66_code 25 = .ok (.aload_n 0, 1) := by decide +kernel
theorem d_jdk_42_m66_26 : decode jdk_42_method_66_code 26 = .ok (.getfield 15, 3) := by decide +kernel
theorem d_jdk_42_m66_29 : decode jdk_42_method_66_code 29 = .ok (.aload_n 2, 1) := by decide +kernel
theorem d_jdk_42_m66_30 : decode jdk_42_method_66_code 30 = .ok (.getfield 15, 3) := by decide +kernel
theorem d_jdk_42_m66_33 : decode jdk_42_method_66_code 33 = .ok (.if_icmp .ne 21, 3) := by decide +kernel
theorem d_jdk_42_m66_36 : decode jdk_42_method_66_code 36 = .ok (.aload_n 0, 1) := by decide +kernel
theorem d_jdk_42_m66_37 : decode jdk_42_method_66_code 37 = .ok (.getfield 9, 3) := by decide +kernel
theorem d_jdk_42_m66_40 : decode jdk_42_method_66_code 40 = .ok (.aload_n 2, 1) := by decide +kernel
theorem d_jdk_42_m66_41 : decode jdk_42_method_66_code 41 = .ok (.getfield 9, 3) := by decide +kernel
theorem d_jdk_42_m66_44 : decode jdk_42_method_66_code 44 = .ok (.invokestatic 541, 3) := by decide +kernel
theorem pd8 : parseMethodDescriptor "([B[B)Z" = some ⟨[(.array .byte), (.array .byte)], some .boolean⟩ := by decide +kernel
theorem d_jdk_42_m66_47 : decode jdk_42_method_66_code 47 = .ok (.ifCond .eq 7, 3) := by decide +kernel
theorem d_jdk_42_m66_54 : decode jdk_42_method_66_code 54 = .ok (.iconst 0, 1) := by decide +kernel
theorem d_jdk_42_m66_55 : decode jdk_42_method_66_code 55 = .ok (.ireturn, 1) := by decide +kernel
theorem d_jdk_42_m66_50 : decode jdk_42_method_66_code 50 = .ok (.iconst 1, 1) := by decide +kernel
theorem d_jdk_42_m66_51 : decode jdk_42_method_66_code 51 = .ok (.goto 4, 3) := by decide +kernel
theorem d_jdk_29_m65_0 : decode jdk_29_method_65_code 0 = .ok (.iload_n 0, 1) := by decide +kernel
theorem d_jdk_29_m65_1 : decode jdk_29_method_65_code 1 = .ok (.iload_n 1, 1) := by decide +kernel
theorem d_jdk_29_m65_2 : decode jdk_29_method_65_code 2 = .ok (.if_icmp .lt 7, 3) := by decide +kernel
theorem d_jdk_29_m65_9 : decode jdk_29_method_65_code 9 = .ok (.iload_n 1, 1) := by decide +kernel
theorem d_jdk_29_m65_10 : decode jdk_29_method_65_code 10 = .ok (.ireturn, 1) := by decide +kernel
theorem d_jdk_29_m65_5 : decode jdk_29_method_65_code 5 = .ok (.iload_n 0, 1) := by decide +kernel
theorem d_jdk_29_m65_6 : decode jdk_29_method_65_code 6 = .ok (.goto 4, 3) := by decide +kernel
theorem pn9 : plainFor (⟨"java/lang/Math", "max", "(II)I"⟩ : MethodName) = true := by decide +kernel
theorem d_jdk_29_m69_0 : decode jdk_29_method_69_code 0 = .ok (.iload_n 0, 1) := by decide +kernel
theorem d_jdk_29_m69_1 : decode jdk_29_method_69_code 1 = .ok (.iload_n 1, 1) := by decide +kernel
theorem d_jdk_29_m69_2 : decode jdk_29_method_69_code 2 = .ok (.if_icmp .gt 7, 3) := by decide +kernel
theorem d_jdk_29_m69_9 : decode jdk_29_method_69_code 9 = .ok (.iload_n 1, 1) := by decide +kernel
theorem d_jdk_29_m69_10 : decode jdk_29_method_69_code 10 = .ok (.ireturn, 1) := by decide +kernel
theorem d_jdk_29_m69_5 : decode jdk_29_method_69_code 5 = .ok (.iload_n 0, 1) := by decide +kernel
theorem d_jdk_29_m69_6 : decode jdk_29_method_69_code 6 = .ok (.goto 4, 3) := by decide +kernel
theorem pn10 : plainFor (⟨"java/lang/Math", "min", "(II)I"⟩ : MethodName) = true := by decide +kernel
theorem d_jdk_65_m121_0 : decode jdk_65_method_121_code 0 = .ok (.iload_n 1, 1) := by decide +kernel
theorem d_jdk_65_m121_1 : decode jdk_65_method_121_code 1 = .ok (.aload_n 0, 1) := by decide +kernel
theorem d_jdk_65_m121_2 : decode jdk_65_method_121_code 2 = .ok (.arraylength, 1) := by decide +kernel
theorem d_jdk_65_m121_3 : decode jdk_65_method_121_code 3 = .ok (.if_icmp .ne 11, 3) := by decide +kernel
theorem d_jdk_65_m121_14 : decode jdk_65_method_121_code 14 = .ok (.iload_n 1, 1) := by decide +kernel
theorem d_jdk_65_m121_15 : decode jdk_65_method_121_code 15 = .ok (.newarray .byte, 2) := by decide +kernel
theorem d_jdk_65_m121_17 : decode jdk_65_method_121_code 17 = .ok (.astore_n 2, 1) := by decide +kernel
theorem d_jdk_65_m121_18 : decode jdk_65_method_121_code 18 = .ok (.aload_n 0, 1) := by decide +kernel
theorem d_jdk_65_m121_19 : decode jdk_65_method_121_code 19 = .ok (.iconst 0, 1) := by decide +kernel
theorem d_jdk_65_m121_20 : decode jdk_65_method_121_code 20 = .ok (.aload_n 2, 1) := by decide +kernel
theorem d_jdk_65_m121_21 : decode jdk_65_method_121_code 21 = .ok (.iconst 0, 1) := by decide +kernel
theorem d_jdk_65_m121_22 : decode jdk_65_method_121_code 22 = .ok (.aload_n 0, 1) := by decide +kernel
theorem d_jdk_65_m121_23 : decode jdk_65_method_121_code 23 = .ok (.arraylength, 1) := by decide +kernel
theorem d_jdk_65_m121_24 : decode jdk_65_method_121_code 24 = .ok (.iload_n 1, 1) := by decide +kernel
theorem d_jdk_65_m121_25 : decode jdk_65_method_121_code 25 = .ok (.invokestatic 304, 3) := by decide +kernel
theorem pd11 : parseMethodDescriptor "(II)I" = some ⟨[.int, .int], some .int⟩ := by decide +kernel
theorem d_jdk_65_m121_28 : decode jdk_65_method_121_code 28 = .ok (.invokestatic 150, 3) := by decide +kernel
theorem d_jdk_65_m121_31 : decode jdk_65_method_121_code 31 = .ok (.aload_n 2, 1) := by decide +kernel
theorem d_jdk_65_m121_32 : decode jdk_65_method_121_code 32 = .ok (.areturn, 1) := by decide +kernel
theorem pn12 : plainName "java/util/Arrays" = true := by first | (simp [plainName, overriddenIn]; done) | decide +kernel
theorem d_jdk_48_m27_0 : decode jdk_48_method_27_code 0 = .ok (.iload_n 0, 1) := by decide +kernel
theorem d_jdk_48_m27_1 : decode jdk_48_method_27_code 1 = .ok (.iload_n 1, 1) := by decide +kernel
theorem d_jdk_48_m27_2 : decode jdk_48_method_27_code 2 = .ok (.iload_n 2, 1) := by decide +kernel
theorem d_jdk_48_m27_3 : decode jdk_48_method_27_code 3 = .ok (.invokestatic 194, 3) := by decide +kernel
theorem d_jdk_48_m27_6 : decode jdk_48_method_27_code 6 = .ok (.iadd, 1) := by decide +kernel
theorem d_jdk_48_m27_7 : decode jdk_48_method_27_code 7 = .ok (.istore_n 3, 1) := by decide +kernel
theorem d_jdk_48_m27_8 : decode jdk_48_method_27_code 8 = .ok (.iconst 0, 1) := by decide +kernel
theorem d_jdk_48_m27_9 : decode jdk_48_method_27_code 9 = .ok (.iload_n 3, 1) := by decide +kernel
theorem d_jdk_48_m27_10 : decode jdk_48_method_27_code 10 = .ok (.if_icmp .ge 11, 3) := by decide +kernel
theorem d_jdk_48_m27_13 : decode jdk_48_method_27_code 13 = .ok (.iload_n 3, 1) := by decide +kernel
theorem d_jdk_48_m27_14 : decode jdk_48_method_27_code 14 = .ok (.ldc 200, 2) := by decide +kernel
theorem d_jdk_48_m27_16 : decode jdk_48_method_27_code 16 = .ok (.if_icmp .gt 5, 3) := by decide +kernel
theorem d_jdk_48_m27_19 : decode jdk_48_method_27_code 19 = .ok (.iload_n 3, 1) := by decide +kernel
theorem d_jdk_48_m27_20 : decode jdk_48_method_27_code 20 = .ok (.ireturn, 1) := by decide +kernel
theorem pn13 : plainName "jdk/internal/util/ArraysSupport" = true := by first | (simp [plainName, overriddenIn]; done) | decide +kernel
theorem d_jdk_68_m10_0 : decode jdk_68_method_10_code 0 = .ok (.aload_n 0, 1) := by decide +kernel
theorem d_jdk_68_m10_1 : decode jdk_68_method_10_code 1 = .ok (.getfield 15, 3) := by decide +kernel
theorem d_jdk_68_m10_4 : decode jdk_68_method_10_code 4 = .ok (.arraylength, 1) := by decide +kernel
theorem d_jdk_68_m10_5 : decode jdk_68_method_10_code 5 = .ok (.istore_n 2, 1) := by decide +kernel
theorem d_jdk_68_m10_6 : decode jdk_68_method_10_code 6 = .ok (.iload_n 1, 1) := by decide +kernel
theorem d_jdk_68_m10_7 : decode jdk_68_method_10_code 7 = .ok (.aload_n 0, 1) := by decide +kernel
theorem d_jdk_68_m10_8 : decode jdk_68_method_10_code 8 = .ok (.getfield 22, 3) := by decide +kernel
theorem d_jdk_68_m10_11 : decode jdk_68_method_10_code 11 = .ok (.ishl, 1) := by decide +kernel
theorem d_jdk_68_m10_12 : decode jdk_68_method_10_code 12 = .ok (.istore_n 3, 1) := by decide +kernel
theorem d_jdk_68_m10_13 : decode jdk_68_method_10_code 13 = .ok (.iload_n 3, 1) := by decide +kernel
theorem d_jdk_68_m10_14 : decode jdk_68_method_10_code 14 = .ok (.iload_n 2, 1) := by decide +kernel
theorem d_jdk_68_m10_15 : decode jdk_68_method_10_code 15 = .ok (.isub, 1) := by decide +kernel
theorem d_jdk_68_m10_16 : decode jdk_68_method_10_code 16 = .ok (.istore 4, 2) := by decide +kernel
theorem d_jdk_68_m10_18 : decode jdk_68_method_10_code 18 = .ok (.iload_n 2, 1) := by decide +kernel
theorem d_jdk_68_m10_19 : decode jdk_68_method_10_code 19 = .ok (.iload 4, 2) := by decide +kernel
theorem d_jdk_68_m10_21 : decode jdk_68_method_10_code 21 = .ok (.iload_n 2, 1) := by decide +kernel
theorem d_jdk_68_m10_22 : decode jdk_68_method_10_code 22 = .ok (.iconst 2, 1) := by decide +kernel
theorem d_jdk_68_m10_23 : decode jdk_68_method_10_code 23 = .ok (.aload_n 0, 1) := by decide +kernel
theorem d_jdk_68_m10_24 : decode jdk_68_method_10_code 24 = .ok (.getfield 22, 3) := by decide +kernel
theorem d_jdk_68_m10_27 : decode jdk_68_method_10_code 27 = .ok (.ishl, 1) := by decide +kernel
theorem d_jdk_68_m10_28 : decode jdk_68_method_10_code 28 = .ok (.iadd, 1) := by decide +kernel
theorem d_jdk_68_m10_29 : decode jdk_68_method_10_code 29 = .ok (.invokestatic 114, 3) := by decide +kernel
theorem pd14 : parseMethodDescriptor "(III)I" = some ⟨[.int, .int, .int], some .int⟩ := by decide +kernel
theorem d_jdk_68_m10_32 : decode jdk_68_method_10_code 32 = .ok (.istore 5, 2) := by decide +kernel
theorem d_jdk_68_m10_34 : decode jdk_68_method_10_code 34 = .ok (.iload 5, 2) := by decide +kernel
theorem d_jdk_68_m10_36 : decode jdk_68_method_10_code 36 = .ok (.ldc 39, 2) := by decide +kernel
theorem d_jdk_68_m10_38 : decode jdk_68_method_10_code 38 = .ok (.if_icmp .ne 13, 3) := by decide +kernel
theorem d_jdk_68_m10_51 : decode jdk_68_method_10_code 51 = .ok (.iload 5, 2) := by decide +kernel
theorem d_jdk_68_m10_53 : decode jdk_68_method_10_code 53 = .ok (.aload_n 0, 1) := by decide +kernel
theorem d_jdk_68_m10_54 : decode jdk_68_method_10_code 54 = .ok (.getfield 22, 3) := by decide +kernel
theorem d_jdk_68_m10_57 : decode jdk_68_method_10_code 57 = .ok (.ishr, 1) := by decide +kernel
theorem d_jdk_68_m10_58 : decode jdk_68_method_10_code 58 = .ok (.ireturn, 1) := by decide +kernel
theorem pn15 : plainName "java/lang/AbstractStringBuilder" = true := by first | (simp [plainName, overriddenIn]; done) | decide +kernel
theorem d_jdk_68_m9_0 : decode jdk_68_method_9_code 0 = .ok (.aload_n 0, 1) := by decide +kernel
theorem d_jdk_68_m9_1 : decode jdk_68_method_9_code 1 = .ok (.getfield 15, 3) := by decide +kernel
theorem d_jdk_68_m9_4 : decode jdk_68_method_9_code 4 = .ok (.arraylength, 1) := by decide +kernel
theorem d_jdk_68_m9_5 : decode jdk_68_method_9_code 5 = .ok (.aload_n 0, 1) := by decide +kernel
theorem d_jdk_68_m9_6 : decode jdk_68_method_9_code 6 = .ok (.getfield 22, 3) := by decide +kernel
theorem d_jdk_68_m9_9 : decode jdk_68_method_9_code 9 = .ok (.ishr, 1) := by decide +kernel
theorem d_jdk_68_m9_10 : decode jdk_68_method_9_code 10 = .ok (.istore_n 2, 1) := by decide +kernel
theorem d_jdk_68_m9_11 : decode jdk_68_method_9_code 11 = .ok (.iload_n 1, 1) := by decide +kernel
theorem d_jdk_68_m9_12 : decode jdk_68_method_9_code 12 = .ok (.iload_n 2, 1) := by decide +kernel
theorem d_jdk_68_m9_13 : decode jdk_68_method_9_code 13 = .ok (.isub, 1) := by decide +kernel
theorem d_jdk_68_m9_14 : decode jdk_68_method_9_code 14 = .ok (.ifCond .le 24, 3) := by decide +kernel
theorem d_jdk_68_m9_38 : decode jdk_68_method_9_code 38 = .ok (.return_, 1) := by decide +kernel
theorem d_jdk_68_m9_17 : decode jdk_68_method_9_code 17 = .ok (.aload_n 0, 1) := by decide +kernel
theorem d_jdk_68_m9_18 : decode jdk_68_method_9_code 18 = .ok (.aload_n 0, 1) := by decide +kernel
theorem d_jdk_68_m9_19 : decode jdk_68_method_9_code 19 = .ok (.getfield 15, 3) := by decide +kernel
theorem d_jdk_68_m9_22 : decode jdk_68_method_9_code 22 = .ok (.aload_n 0, 1) := by decide +kernel
theorem d_jdk_68_m9_23 : decode jdk_68_method_9_code 23 = .ok (.iload_n 1, 1) := by decide +kernel
theorem d_jdk_68_m9_24 : decode jdk_68_method_9_code 24 = .ok (.invokevirtual 104, 3) := by decide +kernel
theorem pd16 : parseMethodDescriptor "(I)I" = some ⟨[.int], some .int⟩ := by decide +kernel
theorem d_jdk_68_m9_27 : decode jdk_68_method_9_code 27 = .ok (.aload_n 0, 1) := by decide +kernel
theorem d_jdk_68_m9_28 : decode jdk_68_method_9_code 28 = .ok (.getfield 22, 3) := by decide +kernel
theorem d_jdk_68_m9_31 : decode jdk_68_method_9_code 31 = .ok (.ishl, 1) := by decide +kernel
theorem d_jdk_68_m9_32 : decode jdk_68_method_9_code 32 = .ok (.invokestatic 108, 3) := by decide +kernel
theorem pd17 : parseMethodDescriptor "([BI)[B" = some ⟨[(.array .byte), .int], some (.array .byte)⟩ := by decide +kernel
theorem d_jdk_68_m9_35 : decode jdk_68_method_9_code 35 = .ok (.putfield 15, 3) := by decide +kernel
theorem d_jdk_68_m71_0 : decode jdk_68_method_71_code 0 = .ok (.getstatic 18, 3) := by decide +kernel
theorem d_jdk_68_m71_3 : decode jdk_68_method_71_code 3 = .ok (.ifCond .eq 18, 3) := by decide +kernel
theorem d_jdk_68_m71_6 : decode jdk_68_method_71_code 6 = .ok (.aload_n 0, 1) := by decide +kernel
theorem d_jdk_68_m71_7 : decode jdk_68_method_71_code 7 = .ok (.getfield 22, 3) := by decide +kernel
theorem d_jdk_68_m71_10 : decode jdk_68_method_71_code 10 = .ok (.aload_n 1, 1) := by decide +kernel
theorem d_jdk_68_m71_11 : decode jdk_68_method_71_code 11 = .ok (.invokevirtual 40, 3) := by decide +kernel
theorem d_jdk_68_m71_14 : decode jdk_68_method_71_code 14 = .ok (.if_icmp .eq 7, 3) := by decide +kernel
theorem d_jdk_68_m71_21 : decode jdk_68_method_71_code 21 = .ok (.return_, 1) := by decide +kernel
theorem d_jdk_42_m147_0 : decode jdk_42_method_147_code 0 = .ok (.aload_n 0, 1) := by decide +kernel
theorem d_jdk_42_m147_1 : decode jdk_42_method_147_code 1 = .ok (.invokevirtual 335, 3) := by decide +kernel
theorem d_jdk_42_m147_4 : decode jdk_42_method_147_code 4 = .ok (.iload_n 3, 1) := by decide +kernel
theorem d_jdk_42_m147_5 : decode jdk_42_method_147_code 5 = .ok (.if_icmp .ne 23, 3) := by decide +kernel
theorem d_jdk_42_m147_8 : decode jdk_42_method_147_code 8 = .ok (.aload_n 0, 1) := by decide +kernel
theorem d_jdk_42_m147_9 : decode jdk_42_method_147_code 9 = .ok (.getfield 9, 3) := by decide +kernel
theorem d_jdk_42_m147_12 : decode jdk_42_method_147_code 12 = .ok (.iconst 0, 1) := by decide +kernel
theorem d_jdk_42_m147_13 : decode jdk_42_method_147_code 13 = .ok (.aload_n 1, 1) := by decide +kernel
theorem d_jdk_42_m147_14 : decode jdk_42_method_147_code 14 = .ok (.iload_n 2, 1) := by decide +kernel
theorem d_jdk_42_m147_15 : decode jdk_42_method_147_code 15 = .ok (.iload_n 3, 1) := by decide +kernel
theorem d_jdk_42_m147_16 : decode jdk_42_method_147_code 16 = .ok (.ishl, 1) := by decide +kernel
theorem d_jdk_42_m147_17 : decode jdk_42_method_147_code 17 = .ok (.aload_n 0, 1) := by decide +kernel
theorem d_jdk_42_m147_18 : decode jdk_42_method_147_code 18 = .ok (.getfield 9, 3) := by decide +kernel
theorem d_jdk_42_m147_21 : decode jdk_42_method_147_code 21 = .ok (.arraylength, 1) := by decide +kernel
theorem d_jdk_42_m147_22 : decode jdk_42_method_147_code 22 = .ok (.invokestatic 212, 3) := by decide +kernel
theorem d_jdk_42_m147_25 : decode jdk_42_method_147_code 25 = .ok (.goto 18, 3) := by decide +kernel
theorem d_jdk_42_m147_43 : decode jdk_42_method_147_code 43 = .ok (.return_, 1) := by decide +kernel
theorem d_jdk_68_m73_0 : decode jdk_68_method_73_code 0 = .ok (.aload_n 0, 1) := by decide +kernel
theorem d_jdk_68_m73_1 : decode jdk_68_method_73_code 1 = .ok (.aload_n 2, 1) := by decide +kernel
theorem d_jdk_68_m73_2 : decode jdk_68_method_73_code 2 = .ok (.invokevirtual 397, 3) := by decide +kernel
theorem pd18 : parseMethodDescriptor "(Ljava/lang/String;)V" = some ⟨[(.object "java/lang/String")], none⟩ := by decide +kernel
theorem d_jdk_68_m73_5 : decode jdk_68_method_73_code 5 = .ok (.aload_n 2, 1) := by decide +kernel
theorem d_jdk_68_m73_6 : decode jdk_68_method_73_code 6 = .ok (.aload_n 0, 1) := by decide +kernel
theorem d_jdk_68_m73_7 : decode jdk_68_method_73_code 7 = .ok (.getfield 15, 3) := by decide +kernel
theorem d_jdk_68_m73_10 : decode jdk_68_method_73_code 10 = .ok (.iload_n 1, 1) := by decide +kernel
theorem d_jdk_68_m73_11 : decode jdk_68_method_73_code 11 = .ok (.aload_n 0, 1) := by decide +kernel
theorem d_jdk_68_m73_12 : decode jdk_68_method_73_code 12 = .ok (.getfield 22, 3) := by decide +kernel
theorem d_jdk_68_m73_15 : decode jdk_68_method_73_code 15 = .ok (.invokevirtual 399, 3) := by decide +kernel
theorem pd19 : parseMethodDescriptor "([BIB)V" = some ⟨[(.array .byte), .int, .byte], none⟩ := by decide +kernel
theorem d_jdk_68_m73_18 : decode jdk_68_method_73_code 18 = .ok (.return_, 1) := by decide +kernel
theorem d_jdk_68_m22_0 : decode jdk_68_method_22_code 0 = .ok (.aload_n 1, 1) := by decide +kernel
theorem d_jdk_68_m22_1 : decode jdk_68_method_22_code 1 = .ok (.ifnonnull 8, 3) := by decide +kernel
theorem d_jdk_68_m22_9 : decode jdk_68_method_22_code 9 = .ok (.aload_n 1, 1) := by decide +kernel
theorem d_jdk_68_m22_10 : decode jdk_68_method_22_code 10 = .ok (.invokevirtual 32, 3) := by decide +kernel
theorem pd20 : parseMethodDescriptor "()I" = some ⟨[], some .int⟩ := by decide +kernel
theorem d_jdk_68_m22_13 : decode jdk_68_method_22_code 13 = .ok (.istore_n 2, 1) := by decide +kernel
theorem d_jdk_68_m22_14 : decode jdk_68_method_22_code 14 = .ok (.aload_n 0, 1) := by decide +kernel
theorem d_jdk_68_m22_15 : decode jdk_68_method_22_code 15 = .ok (.aload_n 0, 1) := by decide +kernel
theorem d_jdk_68_m22_16 : decode jdk_68_method_22_code 16 = .ok (.getfield 79, 3) := by decide +kernel
theorem d_jdk_68_m22_19 : decode jdk_68_method_22_code 19 = .ok (.iload_n 2, 1) := by decide +kernel
theorem d_jdk_68_m22_20 : decode jdk_68_method_22_code 20 = .ok (.iadd, 1) := by decide +kernel
theorem d_jdk_68_m22_21 : decode jdk_68_method_22_code 21 = .ok (.invokevirtual 100, 3) := by decide +kernel
theorem pd21 : parseMethodDescriptor "(I)V" = some ⟨[.int], none⟩ := by decide +kernel
theorem d_jdk_68_m22_24 : decode jdk_68_method_22_code 24 = .ok (.aload_n 0, 1) := by decide +kernel
theorem d_jdk_68_m22_25 : decode jdk_68_method_22_code 25 = .ok (.aload_n 0, 1) := by decide +kernel
theorem d_jdk_68_m22_26 : decode jdk_68_method_22_code 26 = .ok (.getfield 79, 3) := by decide +kernel
theorem d_jdk_68_m22_29 : decode jdk_68_method_22_code 29 = .ok (.aload_n 1, 1) := by decide +kernel
theorem d_jdk_68_m22_30 : decode jdk_68_method_22_code 30 = .ok (.invokevirtual 208, 3) := by decide +kernel
theorem pd22 : parseMethodDescriptor "(ILjava/lang/String;)V" = some ⟨[.int, (.object "java/lang/String")], none⟩ := by decide +kernel
theorem d_jdk_68_m22_33 : decode jdk_68_method_22_code 33 = .ok (.aload_n 0, 1) := by decide +kernel
theorem d_jdk_68_m22_34 : decode jdk_68_method_22_code 34 = .ok (.dup, 1) := by decide +kernel
theorem d_jdk_68_m22_35 : decode jdk_68_method_22_code 35 = .ok (.getfield 79, 3) := by decide +kernel
theorem d_jdk_68_m22_38 : decode jdk_68_method_22_code 38 = .ok (.iload_n 2, 1) := by decide +kernel
theorem d_jdk_68_m22_39 : decode jdk_68_method_22_code 39 = .ok (.iadd, 1) := by decide +kernel
theorem d_jdk_68_m22_40 : decode jdk_68_method_22_code 40 = .ok (.putfield 79, 3) := by decide +kernel
theorem d_jdk_68_m22_43 : decode jdk_68_method_22_code 43 = .ok (.aload_n 0, 1) := by decide +kernel
theorem d_jdk_68_m22_44 : decode jdk_68_method_22_code 44 = .ok (.areturn, 1) := by decide +kernel
theorem d_jdk_67_m7_0 : decode jdk_67_method_7_code 0 = .ok (.aload_n 0, 1) := by decide +kernel
theorem d_jdk_67_m7_1 : decode jdk_67_method_7_code 1 = .ok (.aload_n 1, 1) := by decide +kernel
theorem d_jdk_67_m7_2 : decode jdk_67_method_7_code 2 = .ok (.invokespecial 29, 3) := by decide +kernel
theorem pd23 : parseMethodDescriptor "(Ljava/lang/String;)Ljava/lang/AbstractStringBuilder;" = some ⟨[(.object "java/lang/String")], some (.object "java/lang/AbstractStringBuilder")⟩ := by decide +kernel
theorem d_jdk_67_m7_5 : decode jdk_67_method_7_code 5 = .ok (.pop, 1) := by decide +kernel
theorem d_jdk_67_m7_6 : decode jdk_67_method_7_code 6 = .ok (.aload_n 0, 1) := by decide +kernel
theorem d_jdk_67_m7_7 : decode jdk_67_method_7_code 7 = .ok (.areturn, 1) := by decide +kernel
theorem pn24 : plainName "java/lang/StringBuilder" = true := by first | (simp [plainName, overriddenIn]; done) | decide +kernel
theorem d_jdk_68_m2_0 : decode jdk_68_method_2_code 0 = .ok (.aload_n 0, 1) := by decide +kernel
theorem d_jdk_68_m2_1 : decode jdk_68_method_2_code 1 = .ok (.invokespecial 3, 3) := by decide +kernel
theorem d_jdk_68_m2_4 : decode jdk_68_method_2_code 4 = .ok (.getstatic 18, 3) := by decide +kernel
theorem d_jdk_68_m2_7 : decode jdk_68_method_2_code 7 = .ok (.ifCond .eq 18, 3) := by decide +kernel
theorem d_jdk_68_m2_10 : decode jdk_68_method_2_code 10 = .ok (.aload_n 0, 1) := by decide +kernel
theorem d_jdk_68_m2_11 : decode jdk_68_method_2_code 11 = .ok (.iload_n 1, 1) := by decide +kernel
theorem d_jdk_68_m2_12 : decode jdk_68_method_2_code 12 = .ok (.newarray .byte, 2) := by decide +kernel
theorem d_jdk_68_m2_14 : decode jdk_68_method_2_code 14 = .ok (.putfield 15, 3) := by decide +kernel
theorem d_jdk_68_m2_17 : decode jdk_68_method_2_code 17 = .ok (.aload_n 0, 1) := by decide +kernel
theorem d_jdk_68_m2_18 : decode jdk_68_method_2_code 18 = .ok (.iconst 0, 1) := by decide +kernel
theorem d_jdk_68_m2_19 : decode jdk_68_method_2_code 19 = .ok (.putfield 22, 3) := by decide +kernel
theorem d_jdk_68_m2_22 : decode jdk_68_method_2_code 22 = .ok (.goto 16, 3) := by decide +kernel
theorem d_jdk_68_m2_38 : decode jdk_68_method_2_code 38 = .ok (.return_, 1) := by decide +kernel
theorem d_jdk_67_m1_0 : decode jdk_67_method_1_code 0 = .ok (.aload_n 0, 1) := by decide +kernel
theorem d_jdk_67_m1_1 : decode jdk_67_method_1_code 1 = .ok (.bipush 16, 2) := by decide +kernel
theorem d_jdk_67_m1_3 : decode jdk_67_method_1_code 3 = .ok (.invokespecial 1, 3) := by decide +kernel
theorem d_jdk_67_m1_6 : decode jdk_67_method_1_code 6 = .ok (.return_, 1) := by decide +kernel
theorem d_jdk_68_m64_0 : decode jdk_68_method_64_code 0 = .ok (.aload_n 0, 1) := by decide +kernel
theorem d_jdk_68_m64_1 : decode jdk_68_method_64_code 1 = .ok (.getfield 15, 3) := by decide +kernel
theorem d_jdk_68_m64_4 : decode jdk_68_method_64_code 4 = .ok (.areturn, 1) := by decide +kernel
theorem d_jdk_68_m6_0 : decode jdk_68_method_6_code 0 = .ok (.aload_n 0, 1) := by decide +kernel
theorem d_jdk_68_m6_1 : decode jdk_68_method_6_code 1 = .ok (.getfield 79, 3) := by decide +kernel
theorem d_jdk_68_m6_4 : decode jdk_68_method_6_code 4 = .ok (.ireturn, 1) := by decide +kernel
theorem d_jdk_67_m93_0 : decode jdk_67_method_93_code 0 = .ok (.aload_n 0, 1) := by decide +kernel
theorem d_jdk_67_m93_1 : decode jdk_67_method_93_code 1 = .ok (.invokespecial 343, 3) := by decide +kernel
theorem d_jdk_67_m93_4 : decode jdk_67_method_93_code 4 = .ok (.ireturn, 1) := by decide +kernel
theorem d_jdk_68_m68_0 : decode jdk_68_method_68_code 0 = .ok (.getstatic 18, 3) := by decide +kernel
theorem d_jdk_68_m68_3 : decode jdk_68_method_68_code 3 = .ok (.ifCond .eq 14, 3) := by decide +kernel
theorem d_jdk_68_m68_6 : decode jdk_68_method_68_code 6 = .ok (.aload_n 0, 1) := by decide +kernel
theorem d_jdk_68_m68_7 : decode jdk_68_method_68_code 7 = .ok (.getfield 22, 3) := by decide +kernel
theorem d_jdk_68_m68_10 : decode jdk_68_method_68_code 10 = .ok (.ifCond .ne 7, 3) := by decide +kernel
theorem d_jdk_68_m68_13 : decode jdk_68_method_68_code 13 = .ok (.iconst 1, 1) := by decide +kernel
theorem d_jdk_68_m68_14 : decode jdk_68_method_68_code 14 = .ok (.goto 4, 3) := by decide +kernel
theorem d_jdk_68_m68_18 : decode jdk_68_method_68_code 18 = .ok (.ireturn, 1) := by decide +kernel
theorem d_jdk_65_m131_0 : decode jdk_65_method_131_code 0 = .ok (.iload_n 1, 1) := by decide +kernel
theorem d_jdk_65_m131_1 : decode jdk_65_method_131_code 1 = .ok (.iload_n 0, 1) := by decide +kernel
theorem d_jdk_65_m131_2 : decode jdk_65_method_131_code 2 = .ok (.if_icmp .ge 35, 3) := by decide +kernel
theorem d_jdk_65_m131_37 : decode jdk_65_method_131_code 37 = .ok (.return_, 1) := by decide +kernel
theorem d_jdk_65_m133_0 : decode jdk_65_method_133_code 0 = .ok (.iload_n 1, 1) := by decide +kernel
theorem d_jdk_65_m133_1 : decode jdk_65_method_133_code 1 = .ok (.iload_n 2, 1) := by decide +kernel
theorem d_jdk_65_m133_2 : decode jdk_65_method_133_code 2 = .ok (.invokestatic 343, 3) := by decide +kernel
theorem pd25 : parseMethodDescriptor "(II)V" = some ⟨[.int, .int], none⟩ := by decide +kernel
theorem d_jdk_65_m133_5 : decode jdk_65_method_133_code 5 = .ok (.iload_n 2, 1) := by decide +kernel
theorem d_jdk_65_m133_6 : decode jdk_65_method_133_code 6 = .ok (.iload_n 1, 1) := by decide +kernel
theorem d_jdk_65_m133_7 : decode jdk_65_method_133_code 7 = .ok (.isub, 1) := by decide +kernel
theorem d_jdk_65_m133_8 : decode jdk_65_method_133_code 8 = .ok (.istore_n 3, 1) := by decide +kernel
theorem d_jdk_65_m133_9 : decode jdk_65_method_133_code 9 = .ok (.iload_n 3, 1) := by decide +kernel
theorem d_jdk_65_m133_10 : decode jdk_65_method_133_code 10 = .ok (.newarray .byte, 2) := by decide +kernel
theorem d_jdk_65_m133_12 : decode jdk_65_method_133_code 12 = .ok (.astore 4, 2) := by decide +kernel
theorem d_jdk_65_m133_14 : decode jdk_65_method_133_code 14 = .ok (.aload_n 0, 1) := by decide +kernel
theorem d_jdk_65_m133_15 : decode jdk_65_method_133_code 15 = .ok (.iload_n 1, 1) := by decide +kernel
theorem d_jdk_65_m133_16 : decode jdk_65_method_133_code 16 = .ok (.aload 4, 2) := by decide +kernel
theorem d_jdk_65_m133_18 : decode jdk_65_method_133_code 18 = .ok (.iconst 0, 1) := by decide +kernel
theorem d_jdk_65_m133_19 : decode jdk_65_method_133_code 19 = .ok (.aload_n 0, 1) := by decide +kernel
theorem d_jdk_65_m133_20 : decode jdk_65_method_133_code 20 = .ok (.arraylength, 1) := by decide +kernel
theorem d_jdk_65_m133_21 : decode jdk_65_method_133_code 21 = .ok (.iload_n 1, 1) := by decide +kernel
theorem d_jdk_65_m133_22 : decode jdk_65_method_133_code 22 = .ok (.isub, 1) := by decide +kernel
theorem d_jdk_65_m133_23 : decode jdk_65_method_133_code 23 = .ok (.iload_n 3, 1) := by decide +kernel
theorem d_jdk_65_m133_24 : decode jdk_65_method_133_code 24 = .ok (.invokestatic 304, 3) := by decide +kernel
theorem d_jdk_65_m133_27 : decode jdk_65_method_133_code 27 = .ok (.invokestatic 150, 3) := by decide +kernel
theorem d_jdk_65_m133_30 : decode jdk_65_method_133_code 30 = .ok (.aload 4, 2) := by decide +kernel
theorem d_jdk_65_m133_32 : decode jdk_65_method_133_code 32 = .ok (.areturn, 1) := by decide +kernel
theorem d_jdk_65_m132_0 : decode jdk_65_method_132_code 0 = .ok (.iload_n 1, 1) := by decide +kernel
theorem d_jdk_65_m132_1 : decode jdk_65_method_132_code 1 = .ok (.ifCond .ne 9, 3) := by decide +kernel
theorem d_jdk_65_m132_4 : decode jdk_65_method_132_code 4 = .ok (.iload_n 2, 1) := by decide +kernel
theorem d_jdk_65_m132_5 : decode jdk_65_method_132_code 5 = .ok (.aload_n 0, 1) := by decide +kernel
theorem d_jdk_65_m132_6 : decode jdk_65_method_132_code 6 = .ok (.arraylength, 1) := by decide +kernel
theorem d_jdk_65_m132_7 : decode jdk_65_method_132_code 7 = .ok (.if_icmp .eq 10, 3) := by decide +kernel
theorem d_jdk_65_m132_10 : decode jdk_65_method_132_code 10 = .ok (.aload_n 0, 1) := by decide +kernel
theorem d_jdk_65_m132_11 : decode jdk_65_method_132_code 11 = .ok (.iload_n 1, 1) := by decide +kernel
theorem d_jdk_65_m132_12 : decode jdk_65_method_132_code 12 = .ok (.iload_n 2, 1) := by decide +kernel
theorem d_jdk_65_m132_13 : decode jdk_65_method_132_code 13 = .ok (.invokestatic 339, 3) := by decide +kernel
theorem pd26 : parseMethodDescriptor "([BII)[B" = some ⟨[(.array .byte), .int, .int], some (.array .byte)⟩ := by decide +kernel
theorem d_jdk_65_m132_16 : decode jdk_65_method_132_code 16 = .ok (.areturn, 1) := by decide +kernel
theorem d_jdk_42_m150_0 : decode jdk_42_method_150_code 0 = .ok (.aload_n 0, 1) := by decide +kernel
theorem d_jdk_42_m150_1 : decode jdk_42_method_150_code 1 = .ok (.invokespecial 1, 3) := by decide +kernel
theorem d_jdk_42_m150_4 : decode jdk_42_method_150_code 4 = .ok (.aload_n 1, 1) := by decide +kernel
theorem d_jdk_42_m150_5 : decode jdk_42_method_150_code 5 = .ok (.invokevirtual 552, 3) := by decide +kernel
theorem pd27 : parseMethodDescriptor "()[B" = some ⟨[], some (.array .byte)⟩ := by decide +kernel
theorem d_jdk_42_m150_8 : decode jdk_42_method_150_code 8 = .ok (.astore_n 3, 1) := by decide +kernel
theorem d_jdk_42_m150_9 : decode jdk_42_method_150_code 9 = .ok (.aload_n 1, 1) := by decide +kernel
theorem d_jdk_42_m150_10 : decode jdk_42_method_150_code 10 = .ok (.invokevirtual 549, 3) := by decide +kernel
theorem d_jdk_42_m150_13 : decode jdk_42_method_150_code 13 = .ok (.istore 4, 2) := by decide +kernel
theorem d_jdk_42_m150_15 : decode jdk_42_method_150_code 15 = .ok (.aload_n 1, 1) := by decide +kernel
theorem d_jdk_42_m150_16 : decode jdk_42_method_150_code 16 = .ok (.invokevirtual 1047, 3) := by decide +kernel
theorem pd28 : parseMethodDescriptor "()Z" = some ⟨[], some .boolean⟩ := by decide +kernel
theorem d_jdk_42_m150_19 : decode jdk_42_method_150_code 19 = .ok (.ifCond .eq 22, 3) := by decide +kernel
theorem d_jdk_42_m150_22 : decode jdk_42_method_150_code 22 = .ok (.aload_n 0, 1) := by decide +kernel
theorem d_jdk_42_m150_23 : decode jdk_42_method_150_code 23 = .ok (.iconst 0, 1) := by decide +kernel
theorem d_jdk_42_m150_24 : decode jdk_42_method_150_code 24 = .ok (.putfield 15, 3) := by decide +kernel
theorem d_jdk_42_m150_27 : decode jdk_42_method_150_code 27 = .ok (.aload_n 0, 1) := by decide +kernel
theorem d_jdk_42_m150_28 : decode jdk_42_method_150_code 28 = .ok (.aload_n 3, 1) := by decide +kernel
theorem d_jdk_42_m150_29 : decode jdk_42_method_150_code 29 = .ok (.iconst 0, 1) := by decide +kernel
theorem d_jdk_42_m150_30 : decode jdk_42_method_150_code 30 = .ok (.iload 4, 2) := by decide +kernel
theorem d_jdk_42_m150_32 : decode jdk_42_method_150_code 32 = .ok (.invokestatic 54, 3) := by decide +kernel
theorem d_jdk_42_m150_35 : decode jdk_42_method_150_code 35 = .ok (.putfield 9, 3) := by decide +kernel
theorem d_jdk_42_m150_38 : decode jdk_42_method_150_code 38 = .ok (.goto 59, 3) := by decide +kernel
theorem d_jdk_42_m150_97 : decode jdk_42_method_150_code 97 = .ok (.return_, 1) := by decide +kernel
theorem d_jdk_42_m53_0 : decode jdk_42_method_53_code 0 = .ok (.aload_n 0, 1) := by decide +kernel
theorem d_jdk_42_m53_1 : decode jdk_42_method_53_code 1 = .ok (.aload_n 1, 1) := by decide +kernel
theorem d_jdk_42_m53_2 : decode jdk_42_method_53_code 2 = .ok (.aconst_null, 1) := by decide +kernel
theorem d_jdk_42_m53_3 : decode jdk_42_method_53_code 3 = .ok (.invokespecial 489, 3) := by decide +kernel
theorem pd29 : parseMethodDescriptor "(Ljava/lang/AbstractStringBuilder;Ljava/lang/Void;)V" = some ⟨[(.object "java/lang/AbstractStringBuilder"), (.object "java/lang/Void")], none⟩ := by decide +kernel
theorem d_jdk_42_m53_6 : decode jdk_42_method_53_code 6 = .ok (.return_, 1) := by decide +kernel
theorem d_jdk_67_m42_0 : decode jdk_67_method_42_code 0 = .ok (.new 18, 3) := by decide +kernel
theorem d_jdk_67_m42_3 : decode jdk_67_method_42_code 3 = .ok (.dup, 1) := by decide +kernel
theorem d_jdk_67_m42_4 : decode jdk_67_method_42_code 4 = .ok (.aload_n 0, 1) := by decide +kernel
theorem d_jdk_67_m42_5 : decode jdk_67_method_42_code 5 = .ok (.invokespecial 137, 3) := by decide +kernel
theorem pd30 : parseMethodDescriptor "(Ljava/lang/StringBuilder;)V" = some ⟨[(.object "java/lang/StringBuilder")], none⟩ := by decide +kernel
theorem d_jdk_67_m42_8 : decode jdk_67_method_42_code 8 = .ok (.areturn, 1) := by decide +kernel
theorem d_jdk_78_m2_0 : decode jdk_78_method_2_code 0 = .ok (.aload_n 0, 1) := by decide +kernel
theorem d_jdk_78_m2_1 : decode jdk_78_method_2_code 1 = .ok (.invokespecial 1, 3) := by decide +kernel
theorem d_jdk_78_m2_4 : decode jdk_78_method_2_code 4 = .ok (.aload_n 0, 1) := by decide +kernel
theorem d_jdk_78_m2_5 : decode jdk_78_method_2_code 5 = .ok (.aload_n 0, 1) := by decide +kernel
theorem d_jdk_78_m2_6 : decode jdk_78_method_2_code 6 = .ok (.putfield 7, 3) := by decide +kernel
theorem d_jdk_78_m2_9 : decode jdk_78_method_2_code 9 = .ok (.aload_n 0, 1) := by decide +kernel
theorem d_jdk_78_m2_10 : decode jdk_78_method_2_code 10 = .ok (.getstatic 13, 3) := by decide +kernel
theorem d_jdk_78_m2_13 : decode jdk_78_method_2_code 13 = .ok (.putfield 17, 3) := by decide +kernel
theorem d_jdk_78_m2_16 : decode jdk_78_method_2_code 16 = .ok (.aload_n 0, 1) := by decide +kernel
theorem d_jdk_78_m2_17 : decode jdk_78_method_2_code 17 = .ok (.getstatic 20, 3) := by decide +kernel
theorem d_jdk_78_m2_20 : decode jdk_78_method_2_code 20 = .ok (.putfield 24, 3) := by decide +kernel
theorem d_jdk_78_m2_23 : decode jdk_78_method_2_code 23 = .ok (.aload_n 0, 1) := by decide +kernel
theorem d_jdk_78_m2_24 : decode jdk_78_method_2_code 24 = .ok (.invokevirtual 27, 3) := by decide +kernel
theorem d_jdk_78_m2_27 : decode jdk_78_method_2_code 27 = .ok (.pop, 1) := by decide +kernel
theorem d_jdk_78_m2_28 : decode jdk_78_method_2_code 28 = .ok (.aload_n 0, 1) := by decide +kernel
theorem d_jdk_78_m2_29 : decode jdk_78_method_2_code 29 = .ok (.aload_n 1, 1) := by decide +kernel
theorem d_jdk_78_m2_30 : decode jdk_78_method_2_code 30 = .ok (.putfield 31, 3) := by decide +kernel
theorem d_jdk_78_m2_33 : decode jdk_78_method_2_code 33 = .ok (.return_, 1) := by decide +kernel
theorem pn31 : plainName "java/lang/Throwable" = true := by first | (simp [plainName, overriddenIn]; done) | decide +kernel
theorem d_jdk_59_m2_0 : decode jdk_59_method_2_code 0 = .ok (.aload_n 0, 1) := by decide +kernel
theorem d_jdk_59_m2_1 : decode jdk_59_method_2_code 1 = .ok (.aload_n 1, 1) := by decide +kernel
theorem d_jdk_59_m2_2 : decode jdk_59_method_2_code 2 = .ok (.invokespecial 7, 3) := by decide +kernel
theorem d_jdk_59_m2_5 : decode jdk_59_method_2_code 5 = .ok (.return_, 1) := by decide +kernel
theorem pn32 : plainName "java/lang/Exception" = true := by first | (simp [plainName, overriddenIn]; done) | decide +kernel
theorem d_prog_13_m1_0 : decode prog_13_method_1_code 0 = .ok (.aload_n 0, 1) := by decide +kernel
theorem d_prog_13_m1_1 : decode prog_13_method_1_code 1 = .ok (.aload_n 1, 1) := by decide +kernel
theorem d_prog_13_m1_2 : decode prog_13_method_1_code 2 = .ok (.invokespecial 1, 3) := by decide +kernel
theorem d_prog_13_m1_5 : decode prog_13_method_1_code 5 = .ok (.return_, 1) := by decide +kernel
theorem pn33 : plainName "com/example/dutiful_pruner/dutifulpruner/prune/PruningRequestException" = true := by first | (simp [plainName, overriddenIn]; done) | decide +kernel
theorem d_prog_13_m2_0 : decode prog_13_method_2_code 0 = .ok (.new 7, 3) := by decide +kernel
theorem d_prog_13_m2_3 : decode prog_13_method_2_code 3 = .ok (.dup, 1) := by decide +kernel
theorem d_prog_13_m2_4 : decode prog_13_method_2_code 4 = .ok (.new 9, 3) := by decide +kernel
theorem d_prog_13_m2_7 : decode prog_13_method_2_code 7 = .ok (.dup, 1) := by decide +kernel
theorem d_prog_13_m2_8 : decode prog_13_method_2_code 8 = .ok (.invokespecial 11, 3) := by decide +kernel
theorem pd34 : parseMethodDescriptor "()V" = some ⟨[], none⟩ := by decide +kernel
theorem d_prog_13_m2_11 : decode prog_13_method_2_code 11 = .ok (.ldc 14, 2) := by decide +kernel
theorem d_prog_13_m2_13 : decode prog_13_method_2_code 13 = .ok (.invokevirtual 16, 3) := by decide +kernel
theorem pd35 : parseMethodDescriptor "(Ljava/lang/String;)Ljava/lang/StringBuilder;" = some ⟨[(.object "java/lang/String")], some (.object "java/lang/StringBuilder")⟩ := by decide +kernel
theorem d_prog_13_m2_16 : decode prog_13_method_2_code 16 = .ok (.aload_n 0, 1) := by decide +kernel
theorem d_prog_13_m2_17 : decode prog_13_method_2_code 17 = .ok (.invokevirtual 16, 3) := by decide +kernel
theorem d_prog_13_m2_20 : decode prog_13_method_2_code 20 = .ok (.ldc 20, 2) := by decide +kernel
theorem d_prog_13_m2_22 : decode prog_13_method_2_code 22 = .ok (.invokevirtual 16, 3) := by decide +kernel
theorem d_prog_13_m2_25 : decode prog_13_method_2_code 25 = .ok (.aload_n 1, 1) := by decide +kernel
theorem d_prog_13_m2_26 : decode prog_13_method_2_code 26 = .ok (.invokevirtual 16, 3) := by decide +kernel
theorem d_prog_13_m2_29 : decode prog_13_method_2_code 29 = .ok (.ldc 22, 2) := by decide +kernel
theorem d_prog_13_m2_31 : decode prog_13_method_2_code 31 = .ok (.invokevirtual 16, 3) := by decide +kernel
theorem d_prog_13_m2_34 : decode prog_13_method_2_code 34 = .ok (.invokevirtual 24, 3) := by decide +kernel
theorem pd36 : parseMethodDescriptor "()Ljava/lang/String;" = some ⟨[], some (.object "java/lang/String")⟩ := by decide +kernel
theorem d_prog_13_m2_37 : decode prog_13_method_2_code 37 = .ok (.invokespecial 28, 3) := by decide +kernel
theorem d_prog_13_m2_40 : decode prog_13_method_2_code 40 = .ok (.areturn, 1) := by decide +kernel
theorem d_jdk_78_m6_0 : decode jdk_78_method_6_code 0 = .ok (.aload_n 0, 1) := by decide +kernel
theorem d_jdk_78_m6_1 : decode jdk_78_method_6_code 1 = .ok (.getfield 31, 3) := by decide +kernel
theorem d_jdk_78_m6_4 : decode jdk_78_method_6_code 4 = .ok (.areturn, 1) := by decide +kernel
theorem pd37 : parseMethodDescriptor "([C)V" = some ⟨[(.array .char)], none⟩ := by decide +kernel
theorem pd38 : parseMethodDescriptor "(Ljava/lang/String;Ljava/lang/String;)Lcom/example/dutiful_pruner/dutifulpruner/prune/PruningRequestException;" = some ⟨[(.object "java/lang/String"), (.object "java/lang/String")], some (.object "com/example/dutiful_pruner/dutifulpruner/prune/PruningRequestException")⟩ := by decide +kernel
theorem pd39 : parseMethodDescriptor "(Ljava/lang/Object;)Z" = some ⟨[(.object "java/lang/Object")], some .boolean⟩ := by decide +kernel
theorem pn40 : plainName "com/example/dutiful_pruner/dutifulpruner/prune/PruningRequestExceptionLogOfAnotherIndexPinLaw" = true := by first | (simp [plainName, overriddenIn]; done) | decide +kernel

theorem lat0 : Lat [] := fun _ q => nomatch q
theorem latS {c : Int32} {cs : List Int32} (h : 0 ≤ c.toInt ∧ c.toInt ≤ 255) (L : Lat cs) : Lat (c :: cs) := fun x q => (List.mem_cons.mp q).elim (fun z => z ▸ h) (L x)
theorem m255 (x : Int32) : 0 ≤ (x &&& (255 : Int32)).toInt ∧ (x &&& (255 : Int32)).toInt ≤ 255 := c_and x 255 (by decide)
theorem t32s (i : Nat) : i.toInt32 + 1 = (i + 1).toInt32 := by
  show Int32.ofNat i + 1 = Int32.ofNat (i + 1)
  rw [Int32.ofNat_add]; rfl
theorem lo8_lo8 (x : Int32) : nar .byte x.toInt8.toInt32 = x.toInt8.toInt32 := by simp [nar]
theorem ge255 {cs : List Int32} (L : Lat cs) {i : Nat} (hi : i < cs.length) : ¬ (255 : Int32) < cs[i] := by
  have := (L _ (List.getElem_mem hi)).2
  rw [Int32.lt_iff_toInt_lt]; have e : (255 : Int32).toInt = 255 := rfl; omega
theorem cmp_set {cs : List Int32} {vs : List Value} {i : Nat} (hi : i < cs.length) (hv : vs.length = cs.length) : (by8 (cs.take i) ++ vs.drop i).set i (.int cs[i].toInt8.toInt32) = by8 (cs.take (i + 1)) ++ vs.drop (i + 1) := by
  have h1 : (by8 (cs.take i)).length = i := by simp; omega
  rw [List.set_append_right _ _ (by omega), h1, Nat.sub_self, List.drop_eq_getElem_cons (by omega : i < vs.length), List.set_cons_zero, List.take_succ_eq_append_getElem hi]
  simp only [by8, List.map_append, List.map_cons, List.map_nil, List.append_assoc, List.cons_append, List.nil_append]
theorem lt32 {a b : Nat} (ha : a < 2 ^ 31) (hb : b < 2 ^ 31) : a.toInt32 < b.toInt32 ↔ a < b := by
  rw [Int32.lt_iff_toInt_lt, (len32 ha).2.2, (len32 hb).2.2]; omega
theorem eq32 {a b : Nat} (ha : a < 2 ^ 31) (hb : b < 2 ^ 31) : a.toInt32 = b.toInt32 ↔ a = b := by
  rw [← Int32.toInt_inj, (len32 ha).2.2, (len32 hb).2.2]; omega

theorem shr0 (x : Int32) : x >>> ((0 : Int32) &&& 31) = x := by
  have e : (0 : Int32) &&& 31 = 0 := by decide
  rw [e]; simp
theorem lo8m {x : Int32} (h : 0 ≤ x.toInt ∧ x.toInt ≤ 255) : x.toInt8.toInt32 &&& (255 : Int32) = x := by
  apply Int32.toInt_inj.mp
  have e1 := c_mask x.toInt8.toInt32 255 8 (by decide) (by decide)
  rw [e1]
  have e2 := c_i2b x
  omega
theorem i2cx {x : Int32} (h : 0 ≤ x.toInt ∧ x.toInt ≤ 65535) : x.toUInt32.toUInt16.toUInt32.toInt32 = x := by
  apply Int32.toInt_inj.mp
  have e2 := c_i2c x
  omega
theorem narc {x : Int32} (h : 0 ≤ x.toInt ∧ x.toInt ≤ 65535) : narrow .char (.int x) = .int x := by
  show Value.int _ = _
  rw [i2cx h]
theorem Own.Lat.at {cs : List Int32} (L : Lat cs) {i : Nat} (hi : i < cs.length) : 0 ≤ (cs.getD i 0).toInt ∧ (cs.getD i 0).toInt ≤ 255 := by
  rw [List.getD_eq_getElem?_getD, List.getElem?_eq_getElem hi]; exact L _ (List.getElem_mem hi)
theorem to16 {x : Int} (h : 0 ≤ x ∧ x ≤ 255) : 0 ≤ x ∧ x ≤ 65535 := by omega
theorem by8_at {cs : List Int32} {i : Nat} (hi : i < cs.length) : (by8 cs)[i.toInt32.toNatClampNeg]? = some (.int (cs.getD i 0).toInt8.toInt32) ↔ i.toInt32.toNatClampNeg = i ∨ (by8 cs)[i.toInt32.toNatClampNeg]? = some (.int (cs.getD i 0).toInt8.toInt32) := by
  constructor
  · exact Or.inr
  · rintro (h | h)
    · rw [h]; simp [hi]
    · exact h
theorem by8_get {cs : List Int32} {i : Nat} (hi : i < cs.length) (hl : cs.length < 2 ^ 31) : (by8 cs)[i.toInt32.toNatClampNeg]? = some (.int (cs.getD i 0).toInt8.toInt32) := (by8_at hi).mpr (Or.inl (len32 (by omega)).2.1)
theorem lo8_inj {x y : Int32} (h : 0 ≤ x.toInt ∧ x.toInt ≤ 255) (h' : 0 ≤ y.toInt ∧ y.toInt ≤ 255) (q : x.toInt8.toInt32 = y.toInt8.toInt32) : x = y := by
  rw [← lo8m h, ← lo8m h', q]
theorem take_step {cs ds : List Int32} {i : Nat} (h : cs.take i = ds.take i) (hi : i < cs.length) (hj : i < ds.length) (e : cs.getD i 0 = ds.getD i 0) : cs.take (i + 1) = ds.take (i + 1) := by
  rw [List.take_succ_eq_append_getElem hi, List.take_succ_eq_append_getElem hj, h]
  rw [List.getD_eq_getElem?_getD, List.getElem?_eq_getElem hi, List.getD_eq_getElem?_getD, List.getElem?_eq_getElem hj] at e
  have e' : cs[i] = ds[i] := e
  rw [e']
theorem ite1 {P : Prop} [Decidable P] (h : P) : (1 : Int32) = if P then 1 else 0 := (if_pos h).symm
theorem ite0 {P : Prop} [Decidable P] (h : ¬ P) : (0 : Int32) = if P then 1 else 0 := (if_neg h).symm
theorem narb {P : Prop} [Decidable P] : narrow .boolean (.int (if P then (1 : Int32) else 0)) = .int (if P then (1 : Int32) else 0) := by split <;> decide


theorem shl0 (x : Int32) : x <<< ((0 : Int32) &&& 31) = x := by
  have e : (0 : Int32) &&& 31 = 0 := by decide
  rw [e]; simp
theorem sub32 {a b : Nat} (h : b ≤ a) (ha : a < 2 ^ 31) : a.toInt32 - b.toInt32 = (a - b).toInt32 := by
  apply Int32.toInt_inj.mp
  have e1 := c_isub a.toInt32 b.toInt32
  have e2 := rng32 (a.toInt32 - b.toInt32)
  rw [(len32 (show a < 2 ^ 31 by omega)).2.2, (len32 (show b < 2 ^ 31 by omega)).2.2] at e1
  rw [(len32 (show a - b < 2 ^ 31 by omega)).2.2]; omega
theorem add32 {a b : Nat} (h : a + b < 2 ^ 31) : a.toInt32 + b.toInt32 = (a + b).toInt32 := by
  apply Int32.toInt_inj.mp
  have e1 := c_iadd a.toInt32 b.toInt32
  have e2 := rng32 (a.toInt32 + b.toInt32)
  rw [(len32 (show a < 2 ^ 31 by omega)).2.2, (len32 (show b < 2 ^ 31 by omega)).2.2] at e1
  rw [(len32 h).2.2]; omega
theorem sub32n {a b : Nat} (h : a ≤ b) (ha : a < 2 ^ 31) (hb : b < 2 ^ 31) : ¬ (0 : Int32) < a.toInt32 - b.toInt32 := by
  rw [Int32.lt_iff_toInt_lt]
  have e1 := c_isub a.toInt32 b.toInt32
  have e2 := rng32 (a.toInt32 - b.toInt32)
  rw [(len32 ha).2.2, (len32 hb).2.2] at e1
  have e0 : (0 : Int32).toInt = 0 := rfl
  omega
theorem pos32 {a : Nat} (h : 0 < a) (ha : a < 2 ^ 31) : (0 : Int32) < a.toInt32 := by
  rw [Int32.lt_iff_toInt_lt, (len32 ha).2.2]; have e0 : (0 : Int32).toInt = 0 := rfl; omega
theorem lat_app {cs ds : List Int32} (L : Lat cs) (M : Lat ds) : Lat (cs ++ ds) := fun c hc => (List.mem_append.mp hc).elim (L c) (M c)
theorem sbc {Z : State} {h : Heap} {a v : Addr} {cs cs' : List Int32} {cap cap' : Nat} (F : Sb Z h a v cs cap) (e : cs = cs') (e' : cap = cap') : Sb Z h a v cs' cap' := by subst e e'; exact F
/-- what a builder's array grows to -/
def grow (cap need : Nat) : Nat := if need ≤ cap then cap else cap + max (need - cap) (cap + 2)
theorem grow_le (cap need : Nat) : need ≤ grow cap need := by unfold grow; split <;> omega
theorem cap_le (cap need : Nat) : cap ≤ grow cap need := by unfold grow; split <;> omega
theorem sb_take {us : List Value} {cs ds : List Int32} (h1 : cs.length ≤ us.length) (h2 : cs.length + ds.length ≤ us.length) (h3 : us.take cs.length = by8 cs) : (us.take cs.length ++ ((by8 ds).drop 0).take ds.length ++ us.drop (cs.length + ds.length)).take (cs ++ ds).length = by8 (cs ++ ds) := by
  have e : ((by8 ds).drop 0).take ds.length = by8 ds := by rw [List.drop_zero, List.take_of_length_le (by simp)]
  rw [e, h3, List.take_append_of_le_length (by simp), List.take_of_length_le (by simp)]
  simp
theorem take_cop {us vs : List Value} {j n : Nat} (hn : n = vs.length) (hj : j + n ≤ us.length) {m : Nat} (hm : m = j + n) : (us.take j ++ (vs.drop 0).take n ++ us.drop m).take m = us.take j ++ vs := by
  subst hm hn
  rw [List.drop_zero, List.take_of_length_le (Nat.le_refl _), List.take_append_of_le_length (by simp; omega), List.take_of_length_le (by simp; omega)]
theorem fillW {Z : State} {a0 : Array Value} {zC : Int32} {uT : Addr} {sT : Addr} (G : Gl Z a0 zC uT sT) : ∀ d ∈ fillWords "com/example/dutiful_pruner/dutifulpruner/prune/PruningRequestException", d.before a0 Z = true := fun d hd => by
  simp only [fillWords, List.mem_cons, List.not_mem_nil, or_false] at hd
  rcases hd with rfl | rfl | rfl | rfl | rfl | rfl | rfl | rfl | rfl | rfl | rfl | rfl | rfl | rfl | rfl | rfl | rfl | rfl | rfl | rfl | rfl | rfl | rfl | rfl | rfl | rfl | rfl | rfl | rfl | rfl | rfl | rfl | rfl
  · exact (w180 G)
  · exact (w198 G)
  · exact (w193 G)
  · exact (w199 G)
  · exact (w200 G)
  · exact (w201 G)
  · exact (w202 G)
  · exact (w203 G)
  · exact (w12 G)
  · exact (w13 G)
  · exact (w182 G)
  · exact (w191 G)
  · exact (w204 G)
  · exact (w183 G)
  · exact (w185 G)
  · exact (w186 G)
  · exact (w188 G)
  · exact (w189 G)
  · exact (w209 G)
  · exact (w211 G)
  · exact (w212 G)
  · exact (w184 G)
  · exact (w187 G)
  · exact (w190 G)
  · exact (w214 G)
  · exact (w215 G)
  · exact (w216 G)
  · exact (w192 G)
  · exact (w213 G)
  · exact (w194 G)
  · exact (w195 G)
  · exact (w196 G)
  · exact (w197 G)

abbrev c_cmp5_q (Z : State) (zC : Int32) (uT : Addr) (sT : Addr) (h : Heap) (B : Addr → Prop) (a d : Addr) (cs : List Int32) (vs : List Value) (xR : Value) (h' : Heap) : Prop := xR = (.int cs.length.toInt32) ∧ Keep h h' [d] ∧ Ar Z h' d .byte (by8 cs)
def c_cmp5_rm : Room := { frames := 0, cells := 0, slots := 0, locals := 0 }
set_option maxRecDepth 65536 in
set_option maxHeartbeats 40000000 in
theorem c_cmp5 {l : Launch} {Z : State} {a0 : Array Value} {zC : Int32} {uT : Addr} {sT : Addr} {h : Heap} {B : Addr → Prop} {a d : Addr} {cs : List Int32} {vs : List Value} (G : Gl Z a0 zC uT sT) (hE : En Z B h) (P0 : Ar Z h a .char (cs.map Value.int)) (P1 : Ar Z h d .byte vs) (P2 : Lat cs) (P3 : vs.length = cs.length) (P4 : Z.heap.size ≤ d) (P5 : ¬ B d) : Con l Z consts_1 [] (⟨"java/lang/StringUTF16", "compress", "([CI[BII)I"⟩ : MethodName) jdk_52_method_21_code 7 (some .int) c_cmp5_rm B h #[(.ref a), (.int (0 : Int32)), (.ref d), (.int (0 : Int32)), (.int cs.length.toInt32)] (fun vR hR BR => ∃ xR, vR = some xR ∧ BR = B ∧ c_cmp5_q Z zC uT sT h B a d cs vs xR hR) := by
  have hz0 := hE.1.1
  refine Con.intro (ls := #[.val (.ref a), .val (.int (0 : Int32)), .val (.ref d), .val (.int (0 : Int32)), .val (.int cs.length.toInt32), .unset, .unset]) (plainFor_of_name pn0) G.2.1 hE (fun m => by first | rfl | (simp [entryFrame, mkF, argsToLocals, Value.category]; done) | rfl) ?_
  intro pP eE sS mM blw mth cC T hs X
  have hL := P0.len_lt; rw [List.length_map] at hL
  have hne : a ≠ d := ar_ne P0 P1 (by decide)
  have loop : ∀ (r i : Nat) (T : State) (h1 : Heap) (o : Slot), i + r = cs.length → (o = .unset ∨ ∃ x, o = .val (.int x)) → Wk l Z consts_1 (⟨"java/lang/StringUTF16", "compress", "([CI[BII)I"⟩ : MethodName) jdk_52_method_21_code 7 (some .int) c_cmp5_rm B pP eE sS mM #[(.ref a), (.int (0 : Int32)), (.ref d), (.int (0 : Int32)), (.int cs.length.toInt32)] blw mth cC B T h1 0 0 → Keep h h1 [d] → Ar Z h1 a .char (cs.map Value.int) → Ar Z h1 d .byte (by8 (cs.take i) ++ vs.drop i) → Go l Z consts_1 c_cmp5_rm B (fun vR hR BR => ∃ xR, vR = some xR ∧ BR = B ∧ c_cmp5_q Z zC uT sT h B a d cs vs xR hR) pP eE sS mM blw T 3 #[.val (.ref a), .val (.int i.toInt32), .val (.ref d), .val (.int i.toInt32), .val (.int cs.length.toInt32), .val (.int i.toInt32), o] [] := by
    intro r
    induction r with
    | zero =>
      intro i T h1 o hi ho X K A D
      obtain rfl : i = cs.length := by omega
      have D : Ar Z h1 d .byte (by8 cs) := by simpa [P3, List.drop_eq_nil_of_le] using D
      refine W.iload (pc' := 5) X d_jdk_52_m21_3 rfl rfl ?_
      refine W.iload (pc' := 7) X d_jdk_52_m21_5 rfl rfl ?_
      refine W.icT (pc' := 44) X d_jdk_52_m21_7 (XT.ii_ge_t (fun q => by rw [Int32.lt_iff_toInt_lt] at q; omega)) (by decide) (by decide) ?_
      refine W.iload (pc' := 46) X d_jdk_52_m21_44 rfl rfl ?_
      exact W.ireturn X d_jdk_52_m21_46 rfl (by decide) rfl (by decide) (by decide) ⟨_, rfl, rfl, ⟨rfl, (Keep.trans (Keep.refl h [d]) K (allS (Or.inl (List.mem_of_getElem? (i := 0) rfl)) all0)), D⟩⟩
    | succ r ih =>
      intro i T h1 o hi ho X K A D
      have hi' : i < cs.length := by omega
      rcases ho with rfl | ⟨x0, rfl⟩
      all_goals
        refine W.iload (pc' := 5) X d_jdk_52_m21_3 rfl rfl ?_
        refine W.iload (pc' := 7) X d_jdk_52_m21_5 rfl rfl ?_
        refine W.icF (pc' := 10) X d_jdk_52_m21_7 (XT.ii_ge_f ((lt32 (by omega) hL).mpr hi')) rfl ?_
        refine W.aloadN (pc' := 11) X d_jdk_52_m21_10 rfl rfl rfl ?_
        refine W.iloadN (pc' := 12) X d_jdk_52_m21_11 rfl rfl ?_
        refine W.caload (pc' := 13) (v := (.int cs[i])) X A (len32 (by omega)).1 (by rw [(len32 (by omega)).2.1]; simp [hi']) d_jdk_52_m21_12 rfl ?_
        refine W.istore (pc' := 15) (ls' := #[.val (.ref a), .val (.int i.toInt32), .val (.ref d), .val (.int i.toInt32), .val (.int cs.length.toInt32), .val (.int i.toInt32), .val (.int cs[i])]) X d_jdk_52_m21_13 rfl rfl ?_
        refine W.iload (pc' := 17) X d_jdk_52_m21_15 rfl rfl ?_
        refine W.sipush (pc' := 20) X (255 : Int32) d_jdk_52_m21_17 (by decide) rfl ?_
        refine W.icT (pc' := 26) X d_jdk_52_m21_20 (XT.ii_le_t (ge255 P2 hi')) (by decide) (by decide) ?_
        refine W.aloadN (pc' := 27) X d_jdk_52_m21_26 rfl rfl rfl ?_
        refine W.iloadN (pc' := 28) X d_jdk_52_m21_27 rfl rfl ?_
        refine W.iload (pc' := 30) X d_jdk_52_m21_28 rfl rfl ?_
        refine W.i2b (pc' := 31) (w := (cs[i]).toInt8.toInt32) X d_jdk_52_m21_30 rfl rfl ?_
        refine W.bastore (pc' := 32) (i := i) X D (len32 (by omega)).1 (len32 (by omega)).2.1 (by simp; omega) (lo8_lo8 _) P4 P5 d_jdk_52_m21_31 rfl fun T h1 X K2 A3 => ?_
        refine W.iinc (pc' := 35) (ls' := #[.val (.ref a), .val (.int (i + 1).toInt32), .val (.ref d), .val (.int i.toInt32), .val (.int cs.length.toInt32), .val (.int i.toInt32), .val (.int cs[i])]) X (1 : Int32) (w := (i + 1).toInt32) d_jdk_52_m21_32 (by decide) rfl (t32s i) rfl rfl ?_
        refine W.iinc (pc' := 38) (ls' := #[.val (.ref a), .val (.int (i + 1).toInt32), .val (.ref d), .val (.int (i + 1).toInt32), .val (.int cs.length.toInt32), .val (.int i.toInt32), .val (.int cs[i])]) X (1 : Int32) (w := (i + 1).toInt32) d_jdk_52_m21_35 (by decide) rfl (t32s i) rfl rfl ?_
        refine W.iinc (pc' := 41) (ls' := #[.val (.ref a), .val (.int (i + 1).toInt32), .val (.ref d), .val (.int (i + 1).toInt32), .val (.int cs.length.toInt32), .val (.int (i + 1).toInt32), .val (.int cs[i])]) X (1 : Int32) (w := (i + 1).toInt32) d_jdk_52_m21_38 (by decide) rfl (t32s i) rfl rfl ?_
        refine W.goto (pc' := 3) X d_jdk_52_m21_41 (by decide) (by decide) ?_
        have F4 := (A.keep K2 (ninS hne nin0))
        have D9 := A3; rw [cmp_set hi' P3] at D9
        exact ih (i + 1) T h1 _ (by omega) (Or.inr ⟨_, rfl⟩) X (K.trans K2 (allS (Or.inl (List.mem_of_getElem? (i := 0) rfl)) all0)) F4 D9
  refine W.iconst (pc' := 1) X (0 : Int32) d_jdk_52_m21_0 (by decide) rfl ?_
  refine W.istore (pc' := 3) (ls' := #[.val (.ref a), .val (.int (0 : Int32)), .val (.ref d), .val (.int (0 : Int32)), .val (.int cs.length.toInt32), .val (.int (0 : Int32)), .unset]) X d_jdk_52_m21_1 rfl rfl ?_
  exact loop cs.length 0 T h .unset (by omega) (Or.inl rfl) X (Keep.refl _ _) P0 (by simpa using P1)
def c_codl_rm : Room := { frames := 0, cells := 0, slots := 0, locals := 0 }
set_option maxRecDepth 65536 in
set_option maxHeartbeats 40000000 in
theorem c_codl {l : Launch} {Z : State} {a0 : Array Value} {zC : Int32} {uT : Addr} {sT : Addr} {h : Heap} {B : Addr → Prop} {d : Addr} {vs : List Value} {n : Int32} (G : Gl Z a0 zC uT sT) (hE : En Z B h) (P0 : Ar Z h d .byte vs) (P1 : vs.length.toInt32 = n) : Con l Z consts_1 [] (⟨"java/lang/StringUTF16", "coderFromArrayLen", "([BI)B"⟩ : MethodName) jdk_52_method_15_code 2 (some .byte) c_codl_rm B h #[(.ref d), (.int n)] (fun vR hR BR => vR = some (.int (0 : Int32)) ∧ hR = h ∧ BR = B) := by
  have hz0 := hE.1.1
  refine Con.intro (ls := #[.val (.ref d), .val (.int n)]) (plainFor_of_name pn0) G.2.1 hE (fun m => by first | rfl | (simp [entryFrame, mkF, argsToLocals, Value.category]; done) | rfl) ?_
  intro pP eE sS mM blw mth cC T hs X
  refine W.iloadN (pc' := 1) X d_jdk_52_m15_0 rfl rfl ?_
  refine W.aloadN (pc' := 2) X d_jdk_52_m15_1 rfl rfl rfl ?_
  refine W.alen (pc' := 3) (z := n) X P0 P1 d_jdk_52_m15_2 rfl ?_
  refine W.isub (pc' := 4) (w := (0 : Int32)) X d_jdk_52_m15_3 (Int32.sub_self _) rfl ?_
  refine W.bipush (pc' := 6) X (31 : Int32) d_jdk_52_m15_4 (by decide) rfl ?_
  refine W.iushr (pc' := 7) (w := (0 : Int32)) X d_jdk_52_m15_6 (by decide) rfl ?_
  refine W.i2b (pc' := 8) (w := (0 : Int32)) X d_jdk_52_m15_7 (by decide) rfl ?_
  exact W.ireturn X d_jdk_52_m15_8 rfl (by decide) (by decide) (by decide) (by decide) ⟨rfl, rfl, rfl⟩
abbrev c_cmp3_q (Z : State) (zC : Int32) (uT : Addr) (sT : Addr) (h : Heap) (B : Addr → Prop) (a : Addr) (cs : List Int32) (xR : Value) (h' : Heap) : Prop := ∃ (t : Addr), xR = (.ref t) ∧ Keep h h' [] ∧ h.size ≤ t ∧ Ar Z h' t .byte (by8 cs)
def c_cmp3_rm : Room := { frames := 1, cells := 1, slots := 60, locals := 18 }
set_option maxRecDepth 65536 in
set_option maxHeartbeats 40000000 in
theorem c_cmp3 {l : Launch} {Z : State} {a0 : Array Value} {zC : Int32} {uT : Addr} {sT : Addr} {h : Heap} {B : Addr → Prop} {a : Addr} {cs : List Int32} (G : Gl Z a0 zC uT sT) (hE : En Z B h) (P0 : Ar Z h a .char (cs.map Value.int)) (P1 : Lat cs) (P2 : cs.length ≤ 60) : Con l Z consts_1 [] (⟨"java/lang/StringUTF16", "compress", "([CII)[B"⟩ : MethodName) jdk_52_method_16_code 6 (some (.array .byte)) c_cmp3_rm B h #[(.ref a), (.int (0 : Int32)), (.int cs.length.toInt32)] (fun vR hR BR => ∃ xR, vR = some xR ∧ BR = B ∧ c_cmp3_q Z zC uT sT h B a cs xR hR) := by
  have hz0 := hE.1.1
  refine Con.intro (ls := #[.val (.ref a), .val (.int (0 : Int32)), .val (.int cs.length.toInt32), .unset, .unset, .unset]) (plainFor_of_name pn0) G.2.1 hE (fun m => by first | rfl | (simp [entryFrame, mkF, argsToLocals, Value.category]; done) | rfl) ?_
  intro pP eE sS mM blw mth cC T hs X
  refine W.iloadN (pc' := 1) X d_jdk_52_m16_0 rfl rfl ?_
  refine W.newA (aty := .byte) (pc' := 3) (k' := 1) (n' := 60) (cap := 60) X (w19 G) d_jdk_52_m16_1 (len32 (by omega)).1 (by rw [(len32 (by omega)).2.1]; exact P2) (by decide) rfl (by decide) (by decide) (by decide) (by decide) fun T h1 a2 X K3 g4 g5 nb6 A7 => ?_
  have A7 : Ar Z h1 a2 .byte (List.replicate cs.length (.int (0 : Int32))) := by have q := A7; rw [(len32 (by omega)).2.1] at q; exact q
  refine W.astoreN (pc' := 4) (ls' := #[.val (.ref a), .val (.int (0 : Int32)), .val (.int cs.length.toInt32), .val (.ref a2), .unset, .unset]) X d_jdk_52_m16_3 rfl rfl rfl ?_
  refine W.aloadN (pc' := 5) X d_jdk_52_m16_4 rfl rfl rfl ?_
  refine W.iloadN (pc' := 6) X d_jdk_52_m16_5 rfl rfl ?_
  refine W.aloadN (pc' := 7) X d_jdk_52_m16_6 rfl rfl rfl ?_
  refine W.iconst (pc' := 8) X (0 : Int32) d_jdk_52_m16_7 (by decide) rfl ?_
  refine W.iloadN (pc' := 9) X d_jdk_52_m16_8 rfl rfl ?_
  have F8 := (P0.keep K3 nin0)
  refine W.callS (pc' := 12) (W := 0) (argsL := [(.ref a), (.int (0 : Int32)), (.ref a2), (.int (0 : Int32)), (.int cs.length.toInt32)]) (st := []) (k' := 1) (n' := 60) X (c_cmp5 (a := a) (d := a2) (cs := cs) (vs := (List.replicate cs.length (.int (0 : Int32)))) G X.en F8 A7 P1 (by simp) g5 nb6) (w20 G) (w21 G) (w22 G) (w17 G) (by decide) (by decide) (by decide) rfl (lenOf pd1 rfl) rfl rfl (Nat.le_of_eq rfl) d_jdk_52_m16_9 rfl (by decide) (by decide) (by decide) (by decide) (kr fun T h9 xr X z10 q11 => ?_)
  obtain ⟨rfl, K12, F13⟩ := q11
  refine W.istore (pc' := 14) (ls' := #[.val (.ref a), .val (.int (0 : Int32)), .val (.int cs.length.toInt32), .val (.ref a2), .val (.int cs.length.toInt32), .unset]) X d_jdk_52_m16_12 rfl rfl ?_
  refine W.iload (pc' := 16) X d_jdk_52_m16_14 rfl rfl ?_
  refine W.iloadN (pc' := 17) X d_jdk_52_m16_16 rfl rfl ?_
  refine W.icT (pc' := 57) X d_jdk_52_m16_17 (XT.ii_eq_t rfl) (by decide) (by decide) ?_
  refine W.aloadN (pc' := 58) X d_jdk_52_m16_57 rfl rfl rfl ?_
  exact W.areturn X d_jdk_52_m16_58 rfl rfl rfl rfl (by decide) (by decide) ⟨_, rfl, rfl, ⟨a2, rfl, (Keep.trans (Keep.trans (Keep.refl h []) K3 all0) K12 (allS (Or.inr (Nat.le_trans (Nat.le_refl _) g4)) all0)), (Nat.le_trans (Nat.le_refl _) g4), F13⟩⟩
abbrev c_init4_q (Z : State) (zC : Int32) (uT : Addr) (sT : Addr) (h : Heap) (B : Addr → Prop) (x a : Addr) (cs : List Int32) (v0 c0 : Value) (h' : Heap) : Prop := ∃ (t : Addr), Keep h h' [x] ∧ h.size ≤ t ∧ Str Z h' x t cs
def c_init4_rm : Room := { frames := 2, cells := 1, slots := 60, locals := 35 }
set_option maxRecDepth 65536 in
set_option maxHeartbeats 40000000 in
theorem c_init4 {l : Launch} {Z : State} {a0 : Array Value} {zC : Int32} {uT : Addr} {sT : Addr} {h : Heap} {B : Addr → Prop} {x a : Addr} {cs : List Int32} {v0 c0 : Value} (G : Gl Z a0 zC uT sT) (hE : En Z B h) (P0 : Exa Z h x "java/lang/String") (P1 : Fld Z h x "java/lang/String" "value" "[B" v0) (P2 : Fld Z h x "java/lang/String" "coder" "B" c0) (P3 : Ar Z h a .char (cs.map Value.int)) (P4 : Lat cs) (P5 : 0 < cs.length) (P6 : cs.length ≤ 60) (P7 : Z.heap.size ≤ x) (P8 : ¬ B x) : Con l Z consts_1 [] (⟨"java/lang/String", "<init>", "([CIILjava/lang/Void;)V"⟩ : MethodName) jdk_42_method_149_code 6 none c_init4_rm B h #[(.ref x), (.ref a), (.int (0 : Int32)), (.int cs.length.toInt32), .null] (fun vR hR BR => vR = none ∧ BR = B ∧ c_init4_q Z zC uT sT h B x a cs v0 c0 hR) := by
  have hz0 := hE.1.1
  refine Con.intro (ls := #[.val (.ref x), .val (.ref a), .val (.int (0 : Int32)), .val (.int cs.length.toInt32), .val .null, .unset]) (plainFor_of_name pn4) G.2.1 hE (fun m => by first | rfl | (simp [entryFrame, mkF, argsToLocals, Value.category]; done) | rfl) ?_
  intro pP eE sS mM blw mth cC T hs X
  refine W.aloadN (pc' := 1) X d_jdk_42_m149_0 rfl rfl rfl ?_
  refine W.initO (pc' := 4) (W := 0) X (w11 G) (w12 G) (w13 G) d_jdk_42_m149_1 rfl (by decide) (Nat.le_of_eq rfl) (by decide) rfl fun T X => ?_
  refine W.iloadN (pc' := 5) X d_jdk_42_m149_4 rfl rfl ?_
  refine W.ifT (pc' := 27) X d_jdk_42_m149_5 (XT.i0_ne_t (fun q => absurd ((eq32 (b := 0) (by omega) (by decide)).mp q) (by omega))) (by decide) (by decide) ?_
  refine W.getS (pc' := 30) (host := "") X (Or.inl (w14 G)) Via.refl G.2.2.1 d_jdk_42_m149_27 rfl fun T X => ?_
  refine W.ifF (pc' := 33) X d_jdk_42_m149_30 (XT.i0_eq_f G.2.2.2.1) rfl ?_
  refine W.aloadN (pc' := 34) X d_jdk_42_m149_33 rfl rfl rfl ?_
  refine W.iloadN (pc' := 35) X d_jdk_42_m149_34 rfl rfl ?_
  refine W.iloadN (pc' := 36) X d_jdk_42_m149_35 rfl rfl ?_
  have en1 := X.en
  refine W.callS (pc' := 39) (W := 0) (argsL := [(.ref a), (.int (0 : Int32)), (.int cs.length.toInt32)]) (st := []) (k' := 1) (n' := 60) X (c_cmp3 (a := a) (cs := cs) G X.en P3 P4 P6) (w15 G) (w16 G) (w18 G) (w17 G) (by decide) (by decide) (by decide) rfl (lenOf pd2 rfl) rfl rfl (Nat.le_of_eq rfl) d_jdk_42_m149_36 rfl (by decide) (by decide) (by decide) (by decide) (kr fun T h2 xr X z3 q4 => ?_)
  obtain ⟨a5, rfl, K6, g7, F8⟩ := q4
  have g9 : Z.heap.size ≤ a5 := Nat.le_trans (Nat.le_trans hz0 (Nat.le_refl _)) g7
  have nb10 : ¬ B a5 := fun q => absurd (en1.2 _ q) (Nat.not_lt.mpr g7)
  refine W.astore (pc' := 41) (ls' := #[.val (.ref x), .val (.ref a), .val (.int (0 : Int32)), .val (.int cs.length.toInt32), .val .null, .val (.ref a5)]) X d_jdk_42_m149_39 rfl rfl rfl ?_
  refine W.aloadN (pc' := 42) X d_jdk_42_m149_41 rfl rfl rfl ?_
  refine W.aload (pc' := 44) X d_jdk_42_m149_42 rfl rfl rfl ?_
  refine W.iloadN (pc' := 45) X d_jdk_42_m149_44 rfl rfl ?_
  refine W.callS (pc' := 48) (W := 1) (argsL := [(.ref a5), (.int cs.length.toInt32)]) (st := [(.ref x)]) (k' := 1) (n' := 60) X (c_codl (d := a5) (vs := (by8 cs)) (n := cs.length.toInt32) G X.en F8 (by simp)) (w23 G) (w24 G) (w25 G) (w17 G) (by decide) (by decide) (by decide) rfl (lenOf pd3 rfl) rfl rfl (Nat.le_of_eq rfl) d_jdk_42_m149_45 rfl (by decide) (by decide) (by decide) (by decide) (kp fun T X => ?_)
  have F11 := (P2.keep K6 nin0)
  have F12 := (P0.keep K6)
  refine W.putF (pc' := 51) X (w26 G) Via.refl F11 F12 (Or.inr ⟨(w27 G), rfl, rfl⟩) (w1 G) (ty := .byte) (by decide) (by decide) (by decide) P7 P8 d_jdk_42_m149_48 rfl fun T h13 X W14 => ?_
  have F15 := F11.same W14
  refine W.aloadN (pc' := 52) X d_jdk_42_m149_51 rfl rfl rfl ?_
  refine W.aload (pc' := 54) X d_jdk_42_m149_52 rfl rfl rfl ?_
  have F16 := ((P1.keep K6 nin0).other W14 (Or.inr (slot_ne (Or.inr (w29 G)) (Or.inr (w27 G)) (by decide) (t := (.array .byte)) (t' := .byte) (by decide) (by decide))))
  have F17 := (F12.wr W14)
  refine W.putF (pc' := 57) X (w28 G) Via.refl F16 F17 (Or.inr ⟨(w29 G), rfl, rfl⟩) (w1 G) (ty := (.array .byte)) (by decide) rfl rfl P7 P8 d_jdk_42_m149_54 rfl fun T h18 X W19 => ?_
  have F20 := F16.same W19
  have F21 := (F17.wr W19)
  have F22 := (F15.other W19 (Or.inr (slot_ne (Or.inr (w27 G)) (Or.inr (w29 G)) (by decide) (t := .byte) (t' := (.array .byte)) (by decide) (by decide))))
  have F23 := ((F8.keep (Keep.of_wr W14) (ninS (Nat.ne_of_gt (Nat.lt_of_lt_of_le P0.lt (Nat.le_trans (Nat.le_refl _) g7))) nin0)).keep (Keep.of_wr W19) (ninS (Nat.ne_of_gt (Nat.lt_of_lt_of_le P0.lt (Nat.le_trans (Nat.le_refl _) g7))) nin0))
  exact W.vreturn X d_jdk_42_m149_57 rfl (by decide) (by decide) ⟨rfl, rfl, ⟨a5, (Keep.wr (Keep.wr (Keep.trans (Keep.refl h [x]) K6 all0) W14 (Or.inl (List.mem_of_getElem? (i := 0) rfl))) W19 (Or.inl (List.mem_of_getElem? (i := 0) rfl))), (Nat.le_trans (Nat.le_refl _) g7), ⟨F21, F22, F20, F23, P4⟩⟩⟩
abbrev c_init1_q (Z : State) (zC : Int32) (uT : Addr) (sT : Addr) (h : Heap) (B : Addr → Prop) (x a : Addr) (cs : List Int32) (v0 c0 : Value) (h' : Heap) : Prop := ∃ (t : Addr), Keep h h' [x] ∧ h.size ≤ t ∧ Str Z h' x t cs
def c_init1_rm : Room := { frames := 3, cells := 1, slots := 60, locals := 52 }
set_option maxRecDepth 65536 in
set_option maxHeartbeats 40000000 in
theorem c_init1 {l : Launch} {Z : State} {a0 : Array Value} {zC : Int32} {uT : Addr} {sT : Addr} {h : Heap} {B : Addr → Prop} {x a : Addr} {cs : List Int32} {v0 c0 : Value} (G : Gl Z a0 zC uT sT) (hE : En Z B h) (P0 : Exa Z h x "java/lang/String") (P1 : Fld Z h x "java/lang/String" "value" "[B" v0) (P2 : Fld Z h x "java/lang/String" "coder" "B" c0) (P3 : Ar Z h a .char (cs.map Value.int)) (P4 : Lat cs) (P5 : 0 < cs.length) (P6 : cs.length ≤ 60) (P7 : Z.heap.size ≤ x) (P8 : ¬ B x) : Con l Z consts_1 [] (⟨"java/lang/String", "<init>", "([C)V"⟩ : MethodName) jdk_42_method_3_code 2 none c_init1_rm B h #[(.ref x), (.ref a)] (fun vR hR BR => vR = none ∧ BR = B ∧ c_init1_q Z zC uT sT h B x a cs v0 c0 hR) := by
  have hz0 := hE.1.1
  refine Con.intro (ls := #[.val (.ref x), .val (.ref a)]) (plainFor_of_name pn4) G.2.1 hE (fun m => by first | rfl | (simp [entryFrame, mkF, argsToLocals, Value.category]; done) | rfl) ?_
  intro pP eE sS mM blw mth cC T hs X
  refine W.aloadN (pc' := 1) X d_jdk_42_m3_0 rfl rfl rfl ?_
  refine W.aloadN (pc' := 2) X d_jdk_42_m3_1 rfl rfl rfl ?_
  refine W.iconst (pc' := 3) X (0 : Int32) d_jdk_42_m3_2 (by decide) rfl ?_
  refine W.aloadN (pc' := 4) X d_jdk_42_m3_3 rfl rfl rfl ?_
  refine W.alen (pc' := 5) (z := cs.length.toInt32) X P3 (by simp) d_jdk_42_m3_4 rfl ?_
  refine W.aconst_null (pc' := 6) X d_jdk_42_m3_5 rfl ?_
  have en1 := X.en
  refine W.callN (pc' := 9) (W := 0) (argsL := [(.ref a), (.int (0 : Int32)), (.int cs.length.toInt32), .null]) (st := []) (k' := 1) (n' := 60) (a := x) X (c_init4 (x := x) (a := a) (cs := cs) (v0 := v0) (c0 := c0) G X.en P0 P1 P2 P3 P4 P5 P6 P7 P8) rfl (w7 G) (w8 G) (w10 G) (w2 G) (by decide) (by decide) (by decide) rfl (lenOf pd5 rfl) rfl rfl (Nat.le_of_eq rfl) d_jdk_42_m3_6 rfl (by decide) (by decide) (by decide) (by decide) (kv fun T h2 X z3 q4 => ?_)
  obtain ⟨a5, K6, g7, F8⟩ := q4
  have g9 : Z.heap.size ≤ a5 := Nat.le_trans (Nat.le_trans hz0 (Nat.le_refl _)) g7
  have nb10 : ¬ B a5 := fun q => absurd (en1.2 _ q) (Nat.not_lt.mpr g7)
  exact W.vreturn X d_jdk_42_m3_9 rfl (by decide) (by decide) ⟨rfl, rfl, ⟨a5, (Keep.trans (Keep.refl h [x]) K6 (allS (Or.inl (List.mem_of_getElem? (i := 0) rfl)) all0)), (Nat.le_trans (Nat.le_refl _) g7), F8⟩⟩
def c_coder_rm : Room := { frames := 0, cells := 0, slots := 0, locals := 0 }
set_option maxRecDepth 65536 in
set_option maxHeartbeats 40000000 in
theorem c_coder {l : Launch} {Z : State} {a0 : Array Value} {zC : Int32} {uT : Addr} {sT : Addr} {h : Heap} {B : Addr → Prop} {a b : Addr} {cs : List Int32} (G : Gl Z a0 zC uT sT) (hE : En Z B h) (P0 : Str Z h a b cs) : Con l Z consts_1 [] (⟨"java/lang/String", "coder", "()B"⟩ : MethodName) jdk_42_method_152_code 1 (some .byte) c_coder_rm B h #[(.ref a)] (fun vR hR BR => vR = some (.int (0 : Int32)) ∧ hR = h ∧ BR = B) := by
  have hz0 := hE.1.1
  refine Con.intro (ls := #[.val (.ref a)]) (plainFor_of_name pn4) G.2.1 hE (fun m => by first | rfl | (simp [entryFrame, mkF, argsToLocals, Value.category]; done) | rfl) ?_
  intro pP eE sS mM blw mth cC T hs X
  refine W.getS (pc' := 3) (host := "") X (Or.inl (w14 G)) Via.refl G.2.2.1 d_jdk_42_m152_0 rfl fun T X => ?_
  refine W.ifF (pc' := 6) X d_jdk_42_m152_3 (XT.i0_eq_f G.2.2.2.1) rfl ?_
  refine W.aloadN (pc' := 7) X d_jdk_42_m152_6 rfl rfl rfl ?_
  refine W.getF (pc' := 10) X (w26 G) Via.refl P0.cod d_jdk_42_m152_7 rfl fun T X => ?_
  refine W.goto (pc' := 14) X d_jdk_42_m152_10 (by decide) (by decide) ?_
  exact W.ireturn X d_jdk_42_m152_14 rfl (by decide) (by decide) (by decide) (by decide) ⟨rfl, rfl, rfl⟩
def c_len_rm : Room := { frames := 1, cells := 0, slots := 0, locals := 13 }
set_option maxRecDepth 65536 in
set_option maxHeartbeats 40000000 in
theorem c_len {l : Launch} {Z : State} {a0 : Array Value} {zC : Int32} {uT : Addr} {sT : Addr} {h : Heap} {B : Addr → Prop} {a b : Addr} {cs : List Int32} (G : Gl Z a0 zC uT sT) (hE : En Z B h) (P0 : Str Z h a b cs) : Con l Z consts_1 [] (⟨"java/lang/String", "length", "()I"⟩ : MethodName) jdk_42_method_54_code 1 (some .int) c_len_rm B h #[(.ref a)] (fun vR hR BR => vR = some (.int cs.length.toInt32) ∧ hR = h ∧ BR = B) := by
  have hz0 := hE.1.1
  refine Con.intro (ls := #[.val (.ref a)]) (plainFor_of_name pn4) G.2.1 hE (fun m => by first | rfl | (simp [entryFrame, mkF, argsToLocals, Value.category]; done) | rfl) ?_
  intro pP eE sS mM blw mth cC T hs X
  refine W.aloadN (pc' := 1) X d_jdk_42_m54_0 rfl rfl rfl ?_
  refine W.getF (pc' := 4) X (w28 G) Via.refl P0.val d_jdk_42_m54_1 rfl fun T X => ?_
  refine W.alen (pc' := 5) (z := (cs).length.toInt32) X P0.arr (by simp) d_jdk_42_m54_4 rfl ?_
  refine W.aloadN (pc' := 6) X d_jdk_42_m54_5 rfl rfl rfl ?_
  refine W.callV (pc' := 9) (W := 1) (argsL := []) (st := [(.int (cs).length.toInt32)]) (k' := 0) (n' := 0) (a := a) X (c_coder (a := a) (b := b) (cs := cs) G X.en P0) (w72 G) (w73 G) (nfM (z' := (⟨"java/lang/String", "length", "()I"⟩ : MethodName)) rfl (w70 G)) (w75 G) (w74 G) P0.exa (w76 G) (w2 G) (by decide) (by decide) (by decide) rfl (lenOf pd6 rfl) rfl rfl (Nat.le_of_eq rfl) d_jdk_42_m54_6 rfl (by decide) (by decide) (by decide) (by decide) (kp fun T X => ?_)
  refine W.ishr (pc' := 10) (w := cs.length.toInt32) X d_jdk_42_m54_9 (shr0 _) rfl ?_
  exact W.ireturn X d_jdk_42_m54_10 rfl (by decide) rfl (by decide) (by decide) ⟨rfl, rfl, rfl⟩
def c_l1eq_rm : Room := { frames := 0, cells := 0, slots := 0, locals := 0 }
set_option maxRecDepth 65536 in
set_option maxHeartbeats 40000000 in
theorem c_l1eq {l : Launch} {Z : State} {a0 : Array Value} {zC : Int32} {uT : Addr} {sT : Addr} {h : Heap} {B : Addr → Prop} {a b : Addr} {cs ds : List Int32} (G : Gl Z a0 zC uT sT) (hE : En Z B h) (P0 : Ar Z h a .byte (by8 cs)) (P1 : Ar Z h b .byte (by8 ds)) (P2 : Lat cs) (P3 : Lat ds) : Con l Z consts_1 [] (⟨"java/lang/StringLatin1", "equals", "([B[B)Z"⟩ : MethodName) jdk_43_method_13_code 3 (some .boolean) c_l1eq_rm B h #[(.ref a), (.ref b)] (fun vR hR BR => vR = some (.int (if cs = ds then (1 : Int32) else 0)) ∧ hR = h ∧ BR = B) := by
  have hz0 := hE.1.1
  refine Con.intro (ls := #[.val (.ref a), .val (.ref b), .unset]) (plainFor_of_name pn7) G.2.1 hE (fun m => by first | rfl | (simp [entryFrame, mkF, argsToLocals, Value.category]; done) | rfl) ?_
  intro pP eE sS mM blw mth cC T hs X
  have hc := P0.len_lt; rw [List.length_map] at hc
  have hd := P1.len_lt; rw [List.length_map] at hd
  refine W.aloadN (pc' := 1) X d_jdk_43_m13_0 rfl rfl rfl ?_
  refine W.alen (pc' := 2) (z := cs.length.toInt32) X P0 (by simp) d_jdk_43_m13_1 rfl ?_
  refine W.aloadN (pc' := 3) X d_jdk_43_m13_2 rfl rfl rfl ?_
  refine W.alen (pc' := 4) (z := ds.length.toInt32) X P1 (by simp) d_jdk_43_m13_3 rfl ?_
  by_cases hl : cs.length.toInt32 = ds.length.toInt32
  · skip
    refine W.icF (pc' := 7) X d_jdk_43_m13_4 (XT.ii_ne_f hl) rfl ?_
    refine W.iconst (pc' := 8) X (0 : Int32) d_jdk_43_m13_7 (by decide) rfl ?_
    refine W.istoreN (pc' := 9) (ls' := #[.val (.ref a), .val (.ref b), .val (.int (0 : Int32))]) X d_jdk_43_m13_8 rfl rfl ?_
    have hl' : cs.length = ds.length := (eq32 hc hd).mp hl
    have loop : ∀ (r i : Nat) (T : State), i + r = cs.length → cs.take i = ds.take i → Wk l Z consts_1 (⟨"java/lang/StringLatin1", "equals", "([B[B)Z"⟩ : MethodName) jdk_43_method_13_code 3 (some .boolean) c_l1eq_rm B pP eE sS mM #[(.ref a), (.ref b)] blw mth cC B T h 0 0 → Go l Z consts_1 c_l1eq_rm B (fun vR hR BR => vR = some (.int (if cs = ds then (1 : Int32) else 0)) ∧ hR = h ∧ BR = B) pP eE sS mM blw T 9 #[.val (.ref a), .val (.ref b), .val (.int i.toInt32)] [] := by
      intro r
      induction r with
      | zero =>
        intro i T hi ht X
        obtain rfl : i = cs.length := by omega
        have hcd : cs = ds := by rw [List.take_of_length_le (Nat.le_refl _), List.take_of_length_le (by omega)] at ht; exact ht
        refine W.iloadN (pc' := 10) X d_jdk_43_m13_9 rfl rfl ?_
        refine W.aloadN (pc' := 11) X d_jdk_43_m13_10 rfl rfl rfl ?_
        refine W.alen (pc' := 12) (z := cs.length.toInt32) X P0 (by simp) d_jdk_43_m13_11 rfl ?_
        refine W.icT (pc' := 32) X d_jdk_43_m13_12 (XT.ii_ge_t (fun q => by rw [Int32.lt_iff_toInt_lt] at q; omega)) (by decide) (by decide) ?_
        refine W.iconst (pc' := 33) X (1 : Int32) d_jdk_43_m13_32 (by decide) rfl ?_
        exact W.ireturn X d_jdk_43_m13_33 rfl (by decide) (by decide) (by decide) (by decide) ⟨(by rw [if_pos hcd]), rfl, rfl⟩
      | succ r ih =>
        intro i T hi ht X
        have hi' : i < cs.length := by omega
        have hj' : i < ds.length := by omega
        refine W.iloadN (pc' := 10) X d_jdk_43_m13_9 rfl rfl ?_
        refine W.aloadN (pc' := 11) X d_jdk_43_m13_10 rfl rfl rfl ?_
        refine W.alen (pc' := 12) (z := cs.length.toInt32) X P0 (by simp) d_jdk_43_m13_11 rfl ?_
        refine W.icF (pc' := 15) X d_jdk_43_m13_12 (XT.ii_ge_f ((lt32 (by omega) hc).mpr hi')) rfl ?_
        refine W.aloadN (pc' := 16) X d_jdk_43_m13_15 rfl rfl rfl ?_
        refine W.iloadN (pc' := 17) X d_jdk_43_m13_16 rfl rfl ?_
        refine W.baload (pc' := 18) (v := (.int (cs.getD i 0).toInt8.toInt32)) X P0 (len32 (by omega)).1 (by8_get hi' hc) d_jdk_43_m13_17 rfl ?_
        refine W.aloadN (pc' := 19) X d_jdk_43_m13_18 rfl rfl rfl ?_
        refine W.iloadN (pc' := 20) X d_jdk_43_m13_19 rfl rfl ?_
        refine W.baload (pc' := 21) (v := (.int (ds.getD i 0).toInt8.toInt32)) X P1 (len32 (by omega)).1 (by8_get hj' hd) d_jdk_43_m13_20 rfl ?_
        by_cases he : (cs.getD i 0).toInt8.toInt32 = (ds.getD i 0).toInt8.toInt32
        · skip
          refine W.icT (pc' := 26) X d_jdk_43_m13_21 (XT.ii_eq_t he) (by decide) (by decide) ?_
          refine W.iinc (pc' := 29) (ls' := #[.val (.ref a), .val (.ref b), .val (.int (i + 1).toInt32)]) X (1 : Int32) (w := (i + 1).toInt32) d_jdk_43_m13_26 (by decide) rfl (t32s i) rfl rfl ?_
          refine W.goto (pc' := 9) X d_jdk_43_m13_29 (by decide) (by decide) ?_
          exact ih (i + 1) T (by omega) (take_step ht hi' hj' (lo8_inj (P2.at hi') (P3.at hj') he)) X
        · skip
          refine W.icF (pc' := 24) X d_jdk_43_m13_21 (XT.ii_eq_f he) rfl ?_
          refine W.iconst (pc' := 25) X (0 : Int32) d_jdk_43_m13_24 (by decide) rfl ?_
          exact W.ireturn X d_jdk_43_m13_25 rfl (by decide) (by decide) (by decide) (by decide) ⟨(by rw [if_neg (fun q => he (by rw [q]))]), rfl, rfl⟩
    exact loop cs.length 0 T (by omega) rfl X
  · skip
    refine W.icT (pc' := 34) X d_jdk_43_m13_4 (XT.ii_ne_t hl) (by decide) (by decide) ?_
    refine W.iconst (pc' := 35) X (0 : Int32) d_jdk_43_m13_34 (by decide) rfl ?_
    exact W.ireturn X d_jdk_43_m13_35 rfl (by decide) (by decide) (by decide) (by decide) ⟨(by rw [if_neg (fun q => hl (by rw [q]))]), rfl, rfl⟩
def c_eq_rm : Room := { frames := 1, cells := 0, slots := 0, locals := 14 }
set_option maxRecDepth 65536 in
set_option maxHeartbeats 40000000 in
theorem c_eq {l : Launch} {Z : State} {a0 : Array Value} {zC : Int32} {uT : Addr} {sT : Addr} {h : Heap} {B : Addr → Prop} {a b a' b' : Addr} {cs ds : List Int32} (G : Gl Z a0 zC uT sT) (hE : En Z B h) (P0 : Str Z h a b cs) (P1 : Str Z h a' b' ds) (P2 : a ≠ a') : Con l Z consts_1 [] (⟨"java/lang/String", "equals", "(Ljava/lang/Object;)Z"⟩ : MethodName) jdk_42_method_66_code 3 (some .boolean) c_eq_rm B h #[(.ref a), (.ref a')] (fun vR hR BR => vR = some (.int (if cs = ds then (1 : Int32) else 0)) ∧ hR = h ∧ BR = B) := by
  have hz0 := hE.1.1
  refine Con.intro (ls := #[.val (.ref a), .val (.ref a'), .unset]) (plainFor_of_name pn4) G.2.1 hE (fun m => by first | rfl | (simp [entryFrame, mkF, argsToLocals, Value.category]; done) | rfl) ?_
  intro pP eE sS mM blw mth cC T hs X
  refine W.aloadN (pc' := 1) X d_jdk_42_m66_0 rfl rfl rfl ?_
  refine W.aloadN (pc' := 2) X d_jdk_42_m66_1 rfl rfl rfl ?_
  refine W.acT (pc' := 7) X d_jdk_42_m66_2 rfl rfl (XT.aa_ne_t (fun q => P2 (Value.ref.inj q))) (by decide) (by decide) ?_
  refine W.aloadN (pc' := 8) X d_jdk_42_m66_7 rfl rfl rfl ?_
  refine W.instY (pc' := 11) X (w230 G) (Ins.self P1.exa) d_jdk_42_m66_8 rfl fun T X => ?_
  refine W.ifF (pc' := 14) X d_jdk_42_m66_11 (by decide) rfl ?_
  refine W.aloadN (pc' := 15) X d_jdk_42_m66_14 rfl rfl rfl ?_
  refine W.cast (pc' := 18) X (w230 G) (Ins.self P1.exa) d_jdk_42_m66_15 rfl fun T X => ?_
  refine W.astoreN (pc' := 19) (ls' := #[.val (.ref a), .val (.ref a'), .val (.ref a')]) X d_jdk_42_m66_18 rfl rfl rfl ?_
  refine W.getS (pc' := 22) (host := "") X (Or.inl (w14 G)) Via.refl G.2.2.1 d_jdk_42_m66_19 rfl fun T X => ?_
  refine W.ifF (pc' := 25) X d_jdk_42_m66_22 (XT.i0_eq_f G.2.2.2.1) rfl ?_
  refine W.aloadN (pc' := 26) X d_jdk_42_m66_25 rfl rfl rfl ?_
  refine W.getF (pc' := 29) X (w26 G) Via.refl P0.cod d_jdk_42_m66_26 rfl fun T X => ?_
  refine W.aloadN (pc' := 30) X d_jdk_42_m66_29 rfl rfl rfl ?_
  refine W.getF (pc' := 33) X (w26 G) Via.refl P1.cod d_jdk_42_m66_30 rfl fun T X => ?_
  refine W.icF (pc' := 36) X d_jdk_42_m66_33 (by decide) rfl ?_
  refine W.aloadN (pc' := 37) X d_jdk_42_m66_36 rfl rfl rfl ?_
  refine W.getF (pc' := 40) X (w28 G) Via.refl P0.val d_jdk_42_m66_37 rfl fun T X => ?_
  refine W.aloadN (pc' := 41) X d_jdk_42_m66_40 rfl rfl rfl ?_
  refine W.getF (pc' := 44) X (w28 G) Via.refl P1.val d_jdk_42_m66_41 rfl fun T X => ?_
  refine W.callS (pc' := 47) (W := 0) (argsL := [(.ref b), (.ref b')]) (st := []) (k' := 0) (n' := 0) X (c_l1eq (a := b) (b := b') (cs := cs) (ds := ds) G X.en P0.arr P1.arr P0.lat P1.lat) (w231 G) (w232 G) (w234 G) (w233 G) (by decide) (by decide) (by decide) rfl (lenOf pd8 rfl) rfl rfl (Nat.le_of_eq rfl) d_jdk_42_m66_44 rfl (by decide) (by decide) (by decide) (by decide) (kp fun T X => ?_)
  by_cases hq : (if cs = ds then (1 : Int32) else 0) = (0 : Int32)
  · skip
    refine W.ifT (pc' := 54) X d_jdk_42_m66_47 (XT.i0_eq_t hq) (by decide) (by decide) ?_
    refine W.iconst (pc' := 55) X (0 : Int32) d_jdk_42_m66_54 (by decide) rfl ?_
    exact W.ireturn X d_jdk_42_m66_55 rfl (by decide) (by decide) (by decide) (by decide) ⟨(by rw [if_neg (fun n => by rw [if_pos n] at hq; exact absurd hq (by decide))]), rfl, rfl⟩
  · skip
    refine W.ifF (pc' := 50) X d_jdk_42_m66_47 (XT.i0_eq_f hq) rfl ?_
    refine W.iconst (pc' := 51) X (1 : Int32) d_jdk_42_m66_50 (by decide) rfl ?_
    refine W.goto (pc' := 55) X d_jdk_42_m66_51 (by decide) (by decide) ?_
    exact W.ireturn X d_jdk_42_m66_55 rfl (by decide) (by decide) (by decide) (by decide) ⟨(by rw [if_pos (Classical.byContradiction fun n => hq (if_neg n))]), rfl, rfl⟩
def c_max_rm : Room := { frames := 0, cells := 0, slots := 0, locals := 0 }
set_option maxRecDepth 65536 in
set_option maxHeartbeats 40000000 in
theorem c_max {l : Launch} {Z : State} {a0 : Array Value} {zC : Int32} {uT : Addr} {sT : Addr} {h : Heap} {B : Addr → Prop} {a b : Nat} (G : Gl Z a0 zC uT sT) (hE : En Z B h) (P0 : a < 2 ^ 31) (P1 : b < 2 ^ 31) : Con l Z consts_1 [] (⟨"java/lang/Math", "max", "(II)I"⟩ : MethodName) jdk_29_method_65_code 2 (some .int) c_max_rm B h #[(.int a.toInt32), (.int b.toInt32)] (fun vR hR BR => vR = some (.int (max a b).toInt32) ∧ hR = h ∧ BR = B) := by
  have hz0 := hE.1.1
  refine Con.intro (ls := #[.val (.int a.toInt32), .val (.int b.toInt32)]) pn9 G.2.1 hE (fun m => by first | rfl | (simp [entryFrame, mkF, argsToLocals, Value.category]; done) | rfl) ?_
  intro pP eE sS mM blw mth cC T hs X
  refine W.iloadN (pc' := 1) X d_jdk_29_m65_0 rfl rfl ?_
  refine W.iloadN (pc' := 2) X d_jdk_29_m65_1 rfl rfl ?_
  by_cases hq : a.toInt32 < b.toInt32
  · skip
    refine W.icT (pc' := 9) X d_jdk_29_m65_2 (XT.ii_lt_t hq) (by decide) (by decide) ?_
    refine W.iloadN (pc' := 10) X d_jdk_29_m65_9 rfl rfl ?_
    exact W.ireturn X d_jdk_29_m65_10 rfl (by decide) rfl (by decide) (by decide) ⟨(by rw [Nat.max_eq_right (Nat.le_of_lt ((lt32 P0 P1).mp hq))]), rfl, rfl⟩
  · skip
    refine W.icF (pc' := 5) X d_jdk_29_m65_2 (XT.ii_lt_f hq) rfl ?_
    refine W.iloadN (pc' := 6) X d_jdk_29_m65_5 rfl rfl ?_
    refine W.goto (pc' := 10) X d_jdk_29_m65_6 (by decide) (by decide) ?_
    exact W.ireturn X d_jdk_29_m65_10 rfl (by decide) rfl (by decide) (by decide) ⟨(by rw [Nat.max_eq_left (Nat.le_of_not_lt fun q => hq ((lt32 P0 P1).mpr q))]), rfl, rfl⟩
def c_min_rm : Room := { frames := 0, cells := 0, slots := 0, locals := 0 }
set_option maxRecDepth 65536 in
set_option maxHeartbeats 40000000 in
theorem c_min {l : Launch} {Z : State} {a0 : Array Value} {zC : Int32} {uT : Addr} {sT : Addr} {h : Heap} {B : Addr → Prop} {a b : Nat} (G : Gl Z a0 zC uT sT) (hE : En Z B h) (P0 : a < 2 ^ 31) (P1 : b < 2 ^ 31) : Con l Z consts_1 [] (⟨"java/lang/Math", "min", "(II)I"⟩ : MethodName) jdk_29_method_69_code 2 (some .int) c_min_rm B h #[(.int a.toInt32), (.int b.toInt32)] (fun vR hR BR => vR = some (.int (min a b).toInt32) ∧ hR = h ∧ BR = B) := by
  have hz0 := hE.1.1
  refine Con.intro (ls := #[.val (.int a.toInt32), .val (.int b.toInt32)]) pn10 G.2.1 hE (fun m => by first | rfl | (simp [entryFrame, mkF, argsToLocals, Value.category]; done) | rfl) ?_
  intro pP eE sS mM blw mth cC T hs X
  refine W.iloadN (pc' := 1) X d_jdk_29_m69_0 rfl rfl ?_
  refine W.iloadN (pc' := 2) X d_jdk_29_m69_1 rfl rfl ?_
  by_cases hq : b.toInt32 < a.toInt32
  · skip
    refine W.icT (pc' := 9) X d_jdk_29_m69_2 (XT.ii_gt_t hq) (by decide) (by decide) ?_
    refine W.iloadN (pc' := 10) X d_jdk_29_m69_9 rfl rfl ?_
    exact W.ireturn X d_jdk_29_m69_10 rfl (by decide) rfl (by decide) (by decide) ⟨(by rw [Nat.min_eq_right (Nat.le_of_lt ((lt32 P1 P0).mp hq))]), rfl, rfl⟩
  · skip
    refine W.icF (pc' := 5) X d_jdk_29_m69_2 (XT.ii_gt_f hq) rfl ?_
    refine W.iloadN (pc' := 6) X d_jdk_29_m69_5 rfl rfl ?_
    refine W.goto (pc' := 10) X d_jdk_29_m69_6 (by decide) (by decide) ?_
    exact W.ireturn X d_jdk_29_m69_10 rfl (by decide) rfl (by decide) (by decide) ⟨(by rw [Nat.min_eq_left (Nat.le_of_not_lt fun q => hq ((lt32 P1 P0).mpr q))]), rfl, rfl⟩
abbrev c_copyOf_q (Z : State) (zC : Int32) (uT : Addr) (sT : Addr) (h : Heap) (B : Addr → Prop) (a : Addr) (vs : List Value) (n : Nat) (xR : Value) (h' : Heap) : Prop := ∃ (t : Addr), xR = (.ref t) ∧ Keep h h' [] ∧ h.size ≤ t ∧ Ar Z h' t .byte (vs ++ List.replicate (n - vs.length) (.int (0 : Int32)))
def c_copyOf_rm : Room := { frames := 1, cells := 1, slots := 80, locals := 18 }
set_option maxRecDepth 65536 in
set_option maxHeartbeats 40000000 in
theorem c_copyOf {l : Launch} {Z : State} {a0 : Array Value} {zC : Int32} {uT : Addr} {sT : Addr} {h : Heap} {B : Addr → Prop} {a : Addr} {vs : List Value} {n : Nat} (G : Gl Z a0 zC uT sT) (hE : En Z B h) (P0 : Ar Z h a .byte vs) (P1 : vs.length < n) (P2 : n ≤ 80) : Con l Z consts_1 [] (⟨"java/util/Arrays", "copyOf", "([BI)[B"⟩ : MethodName) jdk_65_method_121_code 3 (some (.array .byte)) c_copyOf_rm B h #[(.ref a), (.int n.toInt32)] (fun vR hR BR => ∃ xR, vR = some xR ∧ BR = B ∧ c_copyOf_q Z zC uT sT h B a vs n xR hR) := by
  have hz0 := hE.1.1
  refine Con.intro (ls := #[.val (.ref a), .val (.int n.toInt32), .unset]) (plainFor_of_name pn12) G.2.1 hE (fun m => by first | rfl | (simp [entryFrame, mkF, argsToLocals, Value.category]; done) | rfl) ?_
  intro pP eE sS mM blw mth cC T hs X
  have hL := P0.len_lt
  refine W.iloadN (pc' := 1) X d_jdk_65_m121_0 rfl rfl ?_
  refine W.aloadN (pc' := 2) X d_jdk_65_m121_1 rfl rfl rfl ?_
  refine W.alen (pc' := 3) (z := (vs).length.toInt32) X P0 rfl d_jdk_65_m121_2 rfl ?_
  refine W.icT (pc' := 14) X d_jdk_65_m121_3 (XT.ii_ne_t (fun q => by have := (eq32 (by omega) P0.len_lt).mp q; omega)) (by decide) (by decide) ?_
  refine W.iloadN (pc' := 15) X d_jdk_65_m121_14 rfl rfl ?_
  refine W.newA (aty := .byte) (pc' := 17) (k' := 1) (n' := 80) (cap := 80) X (w19 G) d_jdk_65_m121_15 (len32 (by omega)).1 (by rw [(len32 (by omega)).2.1]; exact P2) (by decide) rfl (by decide) (by decide) (by decide) (by decide) fun T h1 a2 X K3 g4 g5 nb6 A7 => ?_
  have A7 : Ar Z h1 a2 .byte (List.replicate n (.int (0 : Int32))) := by have q := A7; rw [(len32 (by omega)).2.1] at q; exact q
  refine W.astoreN (pc' := 18) (ls' := #[.val (.ref a), .val (.int n.toInt32), .val (.ref a2)]) X d_jdk_65_m121_17 rfl rfl rfl ?_
  refine W.aloadN (pc' := 19) X d_jdk_65_m121_18 rfl rfl rfl ?_
  refine W.iconst (pc' := 20) X (0 : Int32) d_jdk_65_m121_19 (by decide) rfl ?_
  refine W.aloadN (pc' := 21) X d_jdk_65_m121_20 rfl rfl rfl ?_
  refine W.iconst (pc' := 22) X (0 : Int32) d_jdk_65_m121_21 (by decide) rfl ?_
  refine W.aloadN (pc' := 23) X d_jdk_65_m121_22 rfl rfl rfl ?_
  have F8 := (P0.keep K3 nin0)
  refine W.alen (pc' := 24) (z := (vs).length.toInt32) X F8 rfl d_jdk_65_m121_23 rfl ?_
  refine W.iloadN (pc' := 25) X d_jdk_65_m121_24 rfl rfl ?_
  refine W.callS (pc' := 28) (W := 4) (argsL := [(.int (vs).length.toInt32), (.int n.toInt32)]) (st := [(.int (0 : Int32)), (.ref a2), (.int (0 : Int32)), (.ref a)]) (k' := 1) (n' := 80) X (c_min (a := vs.length) (b := n) G X.en (by omega) (by omega)) (w103 G) (w104 G) (w105 G) (w95 G) (by decide) (by decide) (by decide) rfl (lenOf pd11 rfl) rfl rfl (Nat.le_of_eq rfl) d_jdk_65_m121_25 rfl (by decide) (by decide) (by decide) (by decide) (kp fun T X => ?_)
  refine W.acopy (pc' := 31) (W := 0) (i := 0) (j := 0) (len := vs.length) X F8 A7 (w106 G) (w109 G) (w107 G) (w108 G) rfl rfl rfl (by rw [Nat.min_eq_left (by omega)]) (by omega) (by simp; omega) g5 nb6 rfl (by decide) (Nat.le_of_eq rfl) (by decide) d_jdk_65_m121_28 rfl fun T h9 X K10 A11 => ?_
  have A11 : Ar Z h9 a2 .byte (vs ++ List.replicate (n - vs.length) (.int (0 : Int32))) := (by have q := A11; rw [List.drop_zero, List.take_of_length_le (Nat.le_refl _), List.take_zero, List.nil_append, Nat.zero_add, List.drop_replicate] at q; exact q)
  refine W.aloadN (pc' := 32) X d_jdk_65_m121_31 rfl rfl rfl ?_
  exact W.areturn X d_jdk_65_m121_32 rfl rfl rfl rfl (by decide) (by decide) ⟨_, rfl, rfl, ⟨a2, rfl, (Keep.trans (Keep.trans (Keep.refl h []) K3 all0) K10 (allS (Or.inr (Nat.le_trans (Nat.le_refl _) g4)) all0)), (Nat.le_trans (Nat.le_refl _) g4), A11⟩⟩
def c_newLen_rm : Room := { frames := 1, cells := 0, slots := 0, locals := 14 }
set_option maxRecDepth 65536 in
set_option maxHeartbeats 40000000 in
theorem c_newLen {l : Launch} {Z : State} {a0 : Array Value} {zC : Int32} {uT : Addr} {sT : Addr} {h : Heap} {B : Addr → Prop} {o g q : Nat} (G : Gl Z a0 zC uT sT) (hE : En Z B h) (P0 : 0 < o + max g q) (P1 : o + max g q ≤ 1000000) : Con l Z consts_1 [] (⟨"jdk/internal/util/ArraysSupport", "newLength", "(III)I"⟩ : MethodName) jdk_48_method_27_code 4 (some .int) c_newLen_rm B h #[(.int o.toInt32), (.int g.toInt32), (.int q.toInt32)] (fun vR hR BR => vR = some (.int (o + max g q).toInt32) ∧ hR = h ∧ BR = B) := by
  have hz0 := hE.1.1
  refine Con.intro (ls := #[.val (.int o.toInt32), .val (.int g.toInt32), .val (.int q.toInt32), .unset]) (plainFor_of_name pn13) G.2.1 hE (fun m => by first | rfl | (simp [entryFrame, mkF, argsToLocals, Value.category]; done) | rfl) ?_
  intro pP eE sS mM blw mth cC T hs X
  refine W.iloadN (pc' := 1) X d_jdk_48_m27_0 rfl rfl ?_
  refine W.iloadN (pc' := 2) X d_jdk_48_m27_1 rfl rfl ?_
  refine W.iloadN (pc' := 3) X d_jdk_48_m27_2 rfl rfl ?_
  refine W.callS (pc' := 6) (W := 1) (argsL := [(.int g.toInt32), (.int q.toInt32)]) (st := [(.int o.toInt32)]) (k' := 0) (n' := 0) X (c_max (a := g) (b := q) G X.en (by omega) (by omega)) (w93 G) (w94 G) (w96 G) (w95 G) (by decide) (by decide) (by decide) rfl (lenOf pd11 rfl) rfl rfl (Nat.le_of_eq rfl) d_jdk_48_m27_3 rfl (by decide) (by decide) (by decide) (by decide) (kp fun T X => ?_)
  refine W.iadd (pc' := 7) (w := (o + max g q).toInt32) X d_jdk_48_m27_6 (add32 (by omega)) rfl ?_
  refine W.istoreN (pc' := 8) (ls' := #[.val (.int o.toInt32), .val (.int g.toInt32), .val (.int q.toInt32), .val (.int (o + max g q).toInt32)]) X d_jdk_48_m27_7 rfl rfl ?_
  refine W.iconst (pc' := 9) X (0 : Int32) d_jdk_48_m27_8 (by decide) rfl ?_
  refine W.iloadN (pc' := 10) X d_jdk_48_m27_9 rfl rfl ?_
  refine W.icF (pc' := 13) X d_jdk_48_m27_10 (XT.ii_ge_f (pos32 P0 (by omega))) rfl ?_
  refine W.iloadN (pc' := 14) X d_jdk_48_m27_13 rfl rfl ?_
  refine W.ldcI (pc' := 16) X (w97 G) d_jdk_48_m27_14 rfl ?_
  refine W.icF (pc' := 19) X d_jdk_48_m27_16 (XT.ii_gt_f (fun z => by rw [Int32.lt_iff_toInt_lt, (len32 (by omega)).2.2] at z; have e : (2147483639 : Int32).toInt = 2147483639 := rfl; omega)) rfl ?_
  refine W.iloadN (pc' := 20) X d_jdk_48_m27_19 rfl rfl ?_
  exact W.ireturn X d_jdk_48_m27_20 rfl (by decide) rfl (by decide) (by decide) ⟨rfl, rfl, rfl⟩
def c_newCap_rm : Room := { frames := 2, cells := 0, slots := 0, locals := 29 }
set_option maxRecDepth 65536 in
set_option maxHeartbeats 40000000 in
theorem c_newCap {l : Launch} {Z : State} {a0 : Array Value} {zC : Int32} {uT : Addr} {sT : Addr} {h : Heap} {B : Addr → Prop} {a v : Addr} {vs : List Value} {n : Nat} (G : Gl Z a0 zC uT sT) (hE : En Z B h) (P0 : Fld Z h a "java/lang/AbstractStringBuilder" "value" "[B" (.ref v)) (P1 : Fld Z h a "java/lang/AbstractStringBuilder" "coder" "B" (.int (0 : Int32))) (P2 : Ar Z h v .byte vs) (P3 : vs.length < n) (P4 : grow vs.length n ≤ 80) : Con l Z consts_1 [] (⟨"java/lang/AbstractStringBuilder", "newCapacity", "(I)I"⟩ : MethodName) jdk_68_method_10_code 6 (some .int) c_newCap_rm B h #[(.ref a), (.int n.toInt32)] (fun vR hR BR => vR = some (.int (grow vs.length n).toInt32) ∧ hR = h ∧ BR = B) := by
  have hz0 := hE.1.1
  refine Con.intro (ls := #[.val (.ref a), .val (.int n.toInt32), .unset, .unset, .unset, .unset]) (plainFor_of_name pn15) G.2.1 hE (fun m => by first | rfl | (simp [entryFrame, mkF, argsToLocals, Value.category]; done) | rfl) ?_
  intro pP eE sS mM blw mth cC T hs X
  have hL := P2.len_lt
  have hg : grow vs.length n = vs.length + max (n - vs.length) (vs.length + 2) := by unfold grow; rw [if_neg (by omega)]
  have hb : vs.length + max (n - vs.length) (vs.length + 2) ≤ 80 := by omega
  refine W.aloadN (pc' := 1) X d_jdk_68_m10_0 rfl rfl rfl ?_
  refine W.getF (pc' := 4) X (w50 G) Via.refl P0 d_jdk_68_m10_1 rfl fun T X => ?_
  refine W.alen (pc' := 5) (z := (vs).length.toInt32) X P2 rfl d_jdk_68_m10_4 rfl ?_
  refine W.istoreN (pc' := 6) (ls' := #[.val (.ref a), .val (.int n.toInt32), .val (.int (vs).length.toInt32), .unset, .unset, .unset]) X d_jdk_68_m10_5 rfl rfl ?_
  refine W.iloadN (pc' := 7) X d_jdk_68_m10_6 rfl rfl ?_
  refine W.aloadN (pc' := 8) X d_jdk_68_m10_7 rfl rfl rfl ?_
  refine W.getF (pc' := 11) X (w52 G) Via.refl P1 d_jdk_68_m10_8 rfl fun T X => ?_
  refine W.ishl (pc' := 12) (w := n.toInt32) X d_jdk_68_m10_11 (shl0 _) rfl ?_
  refine W.istoreN (pc' := 13) (ls' := #[.val (.ref a), .val (.int n.toInt32), .val (.int (vs).length.toInt32), .val (.int n.toInt32), .unset, .unset]) X d_jdk_68_m10_12 rfl rfl ?_
  refine W.iloadN (pc' := 14) X d_jdk_68_m10_13 rfl rfl ?_
  refine W.iloadN (pc' := 15) X d_jdk_68_m10_14 rfl rfl ?_
  refine W.isub (pc' := 16) (w := (n - vs.length).toInt32) X d_jdk_68_m10_15 (sub32 (by omega) (by omega)) rfl ?_
  refine W.istore (pc' := 18) (ls' := #[.val (.ref a), .val (.int n.toInt32), .val (.int (vs).length.toInt32), .val (.int n.toInt32), .val (.int (n - vs.length).toInt32), .unset]) X d_jdk_68_m10_16 rfl rfl ?_
  refine W.iloadN (pc' := 19) X d_jdk_68_m10_18 rfl rfl ?_
  refine W.iload (pc' := 21) X d_jdk_68_m10_19 rfl rfl ?_
  refine W.iloadN (pc' := 22) X d_jdk_68_m10_21 rfl rfl ?_
  refine W.iconst (pc' := 23) X (2 : Int32) d_jdk_68_m10_22 (by decide) rfl ?_
  refine W.aloadN (pc' := 24) X d_jdk_68_m10_23 rfl rfl rfl ?_
  refine W.getF (pc' := 27) X (w52 G) Via.refl P1 d_jdk_68_m10_24 rfl fun T X => ?_
  refine W.ishl (pc' := 28) (w := (2 : Int32)) X d_jdk_68_m10_27 (by decide) rfl ?_
  refine W.iadd (pc' := 29) (w := (vs.length + 2).toInt32) X d_jdk_68_m10_28 (add32 (b := 2) (by omega)) rfl ?_
  refine W.callS (pc' := 32) (W := 0) (argsL := [(.int (vs).length.toInt32), (.int (n - vs.length).toInt32), (.int (vs.length + 2).toInt32)]) (st := []) (k' := 0) (n' := 0) X (c_newLen (o := vs.length) (g := (n - vs.length)) (q := (vs.length + 2)) G X.en (by omega) (by omega)) (w89 G) (w90 G) (w92 G) (w91 G) (by decide) (by decide) (by decide) rfl (lenOf pd14 rfl) rfl rfl (Nat.le_of_eq rfl) d_jdk_68_m10_29 rfl (by decide) (by decide) (by decide) (by decide) (kp fun T X => ?_)
  refine W.istore (pc' := 34) (ls' := #[.val (.ref a), .val (.int n.toInt32), .val (.int (vs).length.toInt32), .val (.int n.toInt32), .val (.int (n - vs.length).toInt32), .val (.int (vs.length + max (n - vs.length) (vs.length + 2)).toInt32)]) X d_jdk_68_m10_32 rfl rfl ?_
  refine W.iload (pc' := 36) X d_jdk_68_m10_34 rfl rfl ?_
  refine W.ldcI (pc' := 38) X (w98 G) d_jdk_68_m10_36 rfl ?_
  refine W.icT (pc' := 51) X d_jdk_68_m10_38 (XT.ii_ne_t (fun z => by have := congrArg Int32.toInt z; rw [(len32 (by omega)).2.2] at this; have e : (2147483647 : Int32).toInt = 2147483647 := rfl; omega)) (by decide) (by decide) ?_
  refine W.iload (pc' := 53) X d_jdk_68_m10_51 rfl rfl ?_
  refine W.aloadN (pc' := 54) X d_jdk_68_m10_53 rfl rfl rfl ?_
  refine W.getF (pc' := 57) X (w52 G) Via.refl P1 d_jdk_68_m10_54 rfl fun T X => ?_
  refine W.ishr (pc' := 58) (w := (vs.length + max (n - vs.length) (vs.length + 2)).toInt32) X d_jdk_68_m10_57 (shr0 _) rfl ?_
  exact W.ireturn X d_jdk_68_m10_58 rfl (by decide) rfl (by decide) (by decide) ⟨(by rw [hg]), rfl, rfl⟩
def c_ens0_rm : Room := { frames := 0, cells := 0, slots := 0, locals := 0 }
set_option maxRecDepth 65536 in
set_option maxHeartbeats 40000000 in
theorem c_ens0 {l : Launch} {Z : State} {a0 : Array Value} {zC : Int32} {uT : Addr} {sT : Addr} {h : Heap} {B : Addr → Prop} {a v : Addr} {vs : List Value} {n : Nat} (G : Gl Z a0 zC uT sT) (hE : En Z B h) (P0 : Fld Z h a "java/lang/AbstractStringBuilder" "value" "[B" (.ref v)) (P1 : Fld Z h a "java/lang/AbstractStringBuilder" "coder" "B" (.int (0 : Int32))) (P2 : Ar Z h v .byte vs) (P3 : n ≤ vs.length) : Con l Z consts_1 [] (⟨"java/lang/AbstractStringBuilder", "ensureCapacityInternal", "(I)V"⟩ : MethodName) jdk_68_method_9_code 3 none c_ens0_rm B h #[(.ref a), (.int n.toInt32)] (fun vR hR BR => vR = none ∧ hR = h ∧ BR = B) := by
  have hz0 := hE.1.1
  refine Con.intro (ls := #[.val (.ref a), .val (.int n.toInt32), .unset]) (plainFor_of_name pn15) G.2.1 hE (fun m => by first | rfl | (simp [entryFrame, mkF, argsToLocals, Value.category]; done) | rfl) ?_
  intro pP eE sS mM blw mth cC T hs X
  refine W.aloadN (pc' := 1) X d_jdk_68_m9_0 rfl rfl rfl ?_
  refine W.getF (pc' := 4) X (w50 G) Via.refl P0 d_jdk_68_m9_1 rfl fun T X => ?_
  refine W.alen (pc' := 5) (z := (vs).length.toInt32) X P2 rfl d_jdk_68_m9_4 rfl ?_
  refine W.aloadN (pc' := 6) X d_jdk_68_m9_5 rfl rfl rfl ?_
  refine W.getF (pc' := 9) X (w52 G) Via.refl P1 d_jdk_68_m9_6 rfl fun T X => ?_
  refine W.ishr (pc' := 10) (w := vs.length.toInt32) X d_jdk_68_m9_9 (shr0 _) rfl ?_
  refine W.istoreN (pc' := 11) (ls' := #[.val (.ref a), .val (.int n.toInt32), .val (.int vs.length.toInt32)]) X d_jdk_68_m9_10 rfl rfl ?_
  refine W.iloadN (pc' := 12) X d_jdk_68_m9_11 rfl rfl ?_
  refine W.iloadN (pc' := 13) X d_jdk_68_m9_12 rfl rfl ?_
  refine W.isub (pc' := 14) (w := (n.toInt32 - vs.length.toInt32)) X d_jdk_68_m9_13 rfl rfl ?_
  refine W.ifT (pc' := 38) X d_jdk_68_m9_14 (XT.i0_le_t (sub32n P3 (by have := P2.len_lt; omega) P2.len_lt)) (by decide) (by decide) ?_
  exact W.vreturn X d_jdk_68_m9_38 rfl (by decide) (by decide) ⟨rfl, rfl, rfl⟩
abbrev c_ens1_q (Z : State) (zC : Int32) (uT : Addr) (sT : Addr) (h : Heap) (B : Addr → Prop) (a v : Addr) (vs : List Value) (n : Nat) (cn : Value) (h' : Heap) : Prop := ∃ (t : Addr), Keep h h' [a] ∧ h.size ≤ t ∧ Fld Z h' a "java/lang/AbstractStringBuilder" "value" "[B" (.ref t) ∧ Fld Z h' a "java/lang/AbstractStringBuilder" "coder" "B" (.int (0 : Int32)) ∧ Fld Z h' a "java/lang/AbstractStringBuilder" "count" "I" cn ∧ Ar Z h' t .byte (vs ++ List.replicate (grow vs.length n - vs.length) (.int (0 : Int32)))
def c_ens1_rm : Room := { frames := 3, cells := 1, slots := 80, locals := 48 }
set_option maxRecDepth 65536 in
set_option maxHeartbeats 40000000 in
theorem c_ens1 {l : Launch} {Z : State} {a0 : Array Value} {zC : Int32} {uT : Addr} {sT : Addr} {h : Heap} {B : Addr → Prop} {a v : Addr} {vs : List Value} {n : Nat} {cn : Value} (G : Gl Z a0 zC uT sT) (hE : En Z B h) (P0 : Exa Z h a "java/lang/StringBuilder") (P1 : Fld Z h a "java/lang/AbstractStringBuilder" "value" "[B" (.ref v)) (P2 : Fld Z h a "java/lang/AbstractStringBuilder" "coder" "B" (.int (0 : Int32))) (P3 : Fld Z h a "java/lang/AbstractStringBuilder" "count" "I" cn) (P4 : Ar Z h v .byte vs) (P5 : vs.length < n) (P6 : grow vs.length n ≤ 80) (P7 : Z.heap.size ≤ a) (P8 : ¬ B a) : Con l Z consts_1 [] (⟨"java/lang/AbstractStringBuilder", "ensureCapacityInternal", "(I)V"⟩ : MethodName) jdk_68_method_9_code 3 none c_ens1_rm B h #[(.ref a), (.int n.toInt32)] (fun vR hR BR => vR = none ∧ BR = B ∧ c_ens1_q Z zC uT sT h B a v vs n cn hR) := by
  have hz0 := hE.1.1
  refine Con.intro (ls := #[.val (.ref a), .val (.int n.toInt32), .unset]) (plainFor_of_name pn15) G.2.1 hE (fun m => by first | rfl | (simp [entryFrame, mkF, argsToLocals, Value.category]; done) | rfl) ?_
  intro pP eE sS mM blw mth cC T hs X
  have hL := P4.len_lt
  have hgl := grow_le vs.length n
  refine W.aloadN (pc' := 1) X d_jdk_68_m9_0 rfl rfl rfl ?_
  refine W.getF (pc' := 4) X (w50 G) Via.refl P1 d_jdk_68_m9_1 rfl fun T X => ?_
  refine W.alen (pc' := 5) (z := (vs).length.toInt32) X P4 rfl d_jdk_68_m9_4 rfl ?_
  refine W.aloadN (pc' := 6) X d_jdk_68_m9_5 rfl rfl rfl ?_
  refine W.getF (pc' := 9) X (w52 G) Via.refl P2 d_jdk_68_m9_6 rfl fun T X => ?_
  refine W.ishr (pc' := 10) (w := vs.length.toInt32) X d_jdk_68_m9_9 (shr0 _) rfl ?_
  refine W.istoreN (pc' := 11) (ls' := #[.val (.ref a), .val (.int n.toInt32), .val (.int vs.length.toInt32)]) X d_jdk_68_m9_10 rfl rfl ?_
  refine W.iloadN (pc' := 12) X d_jdk_68_m9_11 rfl rfl ?_
  refine W.iloadN (pc' := 13) X d_jdk_68_m9_12 rfl rfl ?_
  refine W.isub (pc' := 14) (w := (n.toInt32 - vs.length.toInt32)) X d_jdk_68_m9_13 rfl rfl ?_
  refine W.ifF (pc' := 17) X d_jdk_68_m9_14 (XT.i0_le_f (by rw [sub32 (by omega) (by omega)]; exact pos32 (by omega) (by omega))) rfl ?_
  refine W.aloadN (pc' := 18) X d_jdk_68_m9_17 rfl rfl rfl ?_
  refine W.aloadN (pc' := 19) X d_jdk_68_m9_18 rfl rfl rfl ?_
  refine W.getF (pc' := 22) X (w50 G) Via.refl P1 d_jdk_68_m9_19 rfl fun T X => ?_
  refine W.aloadN (pc' := 23) X d_jdk_68_m9_22 rfl rfl rfl ?_
  refine W.iloadN (pc' := 24) X d_jdk_68_m9_23 rfl rfl ?_
  refine W.callP (pc' := 27) (W := 2) (argsL := [(.int n.toInt32)]) (st := [(.ref v), (.ref a)]) (k' := 0) (n' := 0) (a := a) X (c_newCap (a := a) (v := v) (vs := vs) (n := n) G X.en P1 P2 P4 P5 P6) (w84 G) (w85 G) (nfM (z' := (⟨"java/lang/AbstractStringBuilder", "ensureCapacityInternal", "(I)V"⟩ : MethodName)) rfl (w82 G)) (w86 G) P0 (w88 G) (w46 G) (by decide) (by decide) (by decide) rfl (lenOf pd16 rfl) rfl rfl (Nat.le_of_eq rfl) d_jdk_68_m9_24 rfl (by decide) (by decide) (by decide) (by decide) (kp fun T X => ?_)
  refine W.aloadN (pc' := 28) X d_jdk_68_m9_27 rfl rfl rfl ?_
  refine W.getF (pc' := 31) X (w52 G) Via.refl P2 d_jdk_68_m9_28 rfl fun T X => ?_
  refine W.ishl (pc' := 32) (w := (grow vs.length n).toInt32) X d_jdk_68_m9_31 (shl0 _) rfl ?_
  have en1 := X.en
  refine W.callS (pc' := 35) (W := 1) (argsL := [(.ref v), (.int (grow vs.length n).toInt32)]) (st := [(.ref a)]) (k' := 1) (n' := 80) X (c_copyOf (a := v) (vs := vs) (n := (grow vs.length n)) G X.en P4 (by omega) P6) (w99 G) (w100 G) (w102 G) (w101 G) (by decide) (by decide) (by decide) rfl (lenOf pd17 rfl) rfl rfl (Nat.le_of_eq rfl) d_jdk_68_m9_32 rfl (by decide) (by decide) (by decide) (by decide) (kr fun T h2 xr X z3 q4 => ?_)
  obtain ⟨a5, rfl, K6, g7, F8⟩ := q4
  have g9 : Z.heap.size ≤ a5 := Nat.le_trans (Nat.le_trans hz0 (Nat.le_refl _)) g7
  have nb10 : ¬ B a5 := fun q => absurd (en1.2 _ q) (Nat.not_lt.mpr g7)
  have F11 := (P1.keep K6 nin0)
  have F12 := (P0.keep K6)
  refine W.putF (pc' := 38) X (w50 G) Via.refl F11 F12 (Or.inl (w51 G)) (w37 G) (ty := (.array .byte)) (by decide) rfl rfl P7 P8 d_jdk_68_m9_35 rfl fun T h13 X W14 => ?_
  have F15 := F11.same W14
  have F16 := ((P2.keep K6 nin0).other W14 (Or.inr (slot_ne (Or.inl (w53 G)) (Or.inl (w51 G)) (by decide) (t := .byte) (t' := (.array .byte)) (by decide) (by decide))))
  have F17 := ((P3.keep K6 nin0).other W14 (Or.inr (slot_ne (Or.inl (w78 G)) (Or.inl (w51 G)) (by decide) (t := .int) (t' := (.array .byte)) (by decide) (by decide))))
  have F18 := (F8.keep (Keep.of_wr W14) (ninS (Nat.ne_of_gt (Nat.lt_of_lt_of_le P0.lt (Nat.le_trans (Nat.le_refl _) g7))) nin0))
  exact W.vreturn X d_jdk_68_m9_38 rfl (by decide) (by decide) ⟨rfl, rfl, ⟨a5, (Keep.wr (Keep.trans (Keep.refl h [a]) K6 all0) W14 (Or.inl (List.mem_of_getElem? (i := 0) rfl))), (Nat.le_trans (Nat.le_refl _) g7), F15, F16, F17, F18⟩⟩
def c_infl_rm : Room := { frames := 1, cells := 0, slots := 0, locals := 13 }
set_option maxRecDepth 65536 in
set_option maxHeartbeats 40000000 in
theorem c_infl {l : Launch} {Z : State} {a0 : Array Value} {zC : Int32} {uT : Addr} {sT : Addr} {h : Heap} {B : Addr → Prop} {a s t : Addr} {ds : List Int32} (G : Gl Z a0 zC uT sT) (hE : En Z B h) (P0 : Fld Z h a "java/lang/AbstractStringBuilder" "coder" "B" (.int (0 : Int32))) (P1 : Str Z h s t ds) : Con l Z consts_1 [] (⟨"java/lang/AbstractStringBuilder", "inflateIfNeededFor", "(Ljava/lang/String;)V"⟩ : MethodName) jdk_68_method_71_code 2 none c_infl_rm B h #[(.ref a), (.ref s)] (fun vR hR BR => vR = none ∧ hR = h ∧ BR = B) := by
  have hz0 := hE.1.1
  refine Con.intro (ls := #[.val (.ref a), .val (.ref s)]) (plainFor_of_name pn15) G.2.1 hE (fun m => by first | rfl | (simp [entryFrame, mkF, argsToLocals, Value.category]; done) | rfl) ?_
  intro pP eE sS mM blw mth cC T hs X
  refine W.getS (pc' := 3) (host := "") X (Or.inl (w49 G)) Via.refl G.2.2.1 d_jdk_68_m71_0 rfl fun T X => ?_
  refine W.ifF (pc' := 6) X d_jdk_68_m71_3 (XT.i0_eq_f G.2.2.2.1) rfl ?_
  refine W.aloadN (pc' := 7) X d_jdk_68_m71_6 rfl rfl rfl ?_
  refine W.getF (pc' := 10) X (w52 G) Via.refl P0 d_jdk_68_m71_7 rfl fun T X => ?_
  refine W.aloadN (pc' := 11) X d_jdk_68_m71_10 rfl rfl rfl ?_
  refine W.callV (pc' := 14) (W := 1) (argsL := []) (st := [(.int (0 : Int32))]) (k' := 0) (n' := 0) (a := s) X (c_coder (a := s) (b := t) (cs := ds) G X.en P1) (w120 G) (w73 G) (nfM (z' := (⟨"java/lang/String", "length", "()I"⟩ : MethodName)) rfl (w70 G)) (w75 G) (w74 G) P1.exa (w76 G) (w2 G) (by decide) (by decide) (by decide) rfl (lenOf pd6 rfl) rfl rfl (Nat.le_of_eq rfl) d_jdk_68_m71_11 rfl (by decide) (by decide) (by decide) (by decide) (kp fun T X => ?_)
  refine W.icT (pc' := 21) X d_jdk_68_m71_14 (by decide) (by decide) (by decide) ?_
  exact W.vreturn X d_jdk_68_m71_21 rfl (by decide) (by decide) ⟨rfl, rfl, rfl⟩
abbrev c_getB_q (Z : State) (zC : Int32) (uT : Addr) (sT : Addr) (h : Heap) (B : Addr → Prop) (s t v : Addr) (ds : List Int32) (us : List Value) (j : Nat) (h' : Heap) : Prop := Keep h h' [v] ∧ Ar Z h' v .byte (us.take j ++ ((by8 ds).drop 0).take ds.length ++ us.drop (j + ds.length))
def c_getB_rm : Room := { frames := 1, cells := 0, slots := 0, locals := 18 }
set_option maxRecDepth 65536 in
set_option maxHeartbeats 40000000 in
theorem c_getB {l : Launch} {Z : State} {a0 : Array Value} {zC : Int32} {uT : Addr} {sT : Addr} {h : Heap} {B : Addr → Prop} {s t v : Addr} {ds : List Int32} {us : List Value} {j : Nat} (G : Gl Z a0 zC uT sT) (hE : En Z B h) (P0 : Str Z h s t ds) (P1 : Ar Z h v .byte us) (P2 : j + ds.length ≤ us.length) (P3 : Z.heap.size ≤ v) (P4 : ¬ B v) : Con l Z consts_1 [] (⟨"java/lang/String", "getBytes", "([BIB)V"⟩ : MethodName) jdk_42_method_147_code 4 none c_getB_rm B h #[(.ref s), (.ref v), (.int j.toInt32), (.int (0 : Int32))] (fun vR hR BR => vR = none ∧ BR = B ∧ c_getB_q Z zC uT sT h B s t v ds us j hR) := by
  have hz0 := hE.1.1
  refine Con.intro (ls := #[.val (.ref s), .val (.ref v), .val (.int j.toInt32), .val (.int (0 : Int32))]) (plainFor_of_name pn4) G.2.1 hE (fun m => by first | rfl | (simp [entryFrame, mkF, argsToLocals, Value.category]; done) | rfl) ?_
  intro pP eE sS mM blw mth cC T hs X
  refine W.aloadN (pc' := 1) X d_jdk_42_m147_0 rfl rfl rfl ?_
  refine W.callV (pc' := 4) (W := 0) (argsL := []) (st := []) (k' := 0) (n' := 0) (a := s) X (c_coder (a := s) (b := t) (cs := ds) G X.en P0) (w72 G) (w73 G) (nfM (z' := (⟨"java/lang/String", "length", "()I"⟩ : MethodName)) rfl (w70 G)) (w75 G) (w74 G) P0.exa (w76 G) (w2 G) (by decide) (by decide) (by decide) rfl (lenOf pd6 rfl) rfl rfl (Nat.le_of_eq rfl) d_jdk_42_m147_1 rfl (by decide) (by decide) (by decide) (by decide) (kp fun T X => ?_)
  refine W.iloadN (pc' := 5) X d_jdk_42_m147_4 rfl rfl ?_
  refine W.icF (pc' := 8) X d_jdk_42_m147_5 (by decide) rfl ?_
  refine W.aloadN (pc' := 9) X d_jdk_42_m147_8 rfl rfl rfl ?_
  refine W.getF (pc' := 12) X (w28 G) Via.refl P0.val d_jdk_42_m147_9 rfl fun T X => ?_
  refine W.iconst (pc' := 13) X (0 : Int32) d_jdk_42_m147_12 (by decide) rfl ?_
  refine W.aloadN (pc' := 14) X d_jdk_42_m147_13 rfl rfl rfl ?_
  refine W.iloadN (pc' := 15) X d_jdk_42_m147_14 rfl rfl ?_
  refine W.iloadN (pc' := 16) X d_jdk_42_m147_15 rfl rfl ?_
  refine W.ishl (pc' := 17) (w := j.toInt32) X d_jdk_42_m147_16 (shl0 _) rfl ?_
  refine W.aloadN (pc' := 18) X d_jdk_42_m147_17 rfl rfl rfl ?_
  refine W.getF (pc' := 21) X (w28 G) Via.refl P0.val d_jdk_42_m147_18 rfl fun T X => ?_
  refine W.alen (pc' := 22) (z := ds.length.toInt32) X P0.arr (by simp) d_jdk_42_m147_21 rfl ?_
  refine W.acopy (pc' := 25) (W := 0) (i := 0) (j := j) (len := ds.length) X P0.arr P1 (w126 G) (w109 G) (w107 G) (w108 G) rfl rfl rfl rfl (by simp) P2 P3 P4 rfl (by decide) (Nat.le_of_eq rfl) (by decide) d_jdk_42_m147_22 rfl fun T h1 X K2 A3 => ?_
  have A3 : Ar Z h1 v .byte (us.take j ++ ((by8 ds).drop 0).take ds.length ++ us.drop (j + ds.length)) := A3
  refine W.goto (pc' := 43) X d_jdk_42_m147_25 (by decide) (by decide) ?_
  exact W.vreturn X d_jdk_42_m147_43 rfl (by decide) (by decide) ⟨rfl, rfl, ⟨(Keep.trans (Keep.refl h [v]) K2 (allS (Or.inl (List.mem_of_getElem? (i := 0) rfl)) all0)), A3⟩⟩
abbrev c_putS_q (Z : State) (zC : Int32) (uT : Addr) (sT : Addr) (h : Heap) (B : Addr → Prop) (a v s t : Addr) (ds : List Int32) (us : List Value) (j : Nat) (h' : Heap) : Prop := Keep h h' [v] ∧ Ar Z h' v .byte (us.take j ++ ((by8 ds).drop 0).take ds.length ++ us.drop (j + ds.length))
def c_putS_rm : Room := { frames := 2, cells := 0, slots := 0, locals := 33 }
set_option maxRecDepth 65536 in
set_option maxHeartbeats 40000000 in
theorem c_putS {l : Launch} {Z : State} {a0 : Array Value} {zC : Int32} {uT : Addr} {sT : Addr} {h : Heap} {B : Addr → Prop} {a v s t : Addr} {ds : List Int32} {us : List Value} {j : Nat} (G : Gl Z a0 zC uT sT) (hE : En Z B h) (P0 : Exa Z h a "java/lang/StringBuilder") (P1 : Fld Z h a "java/lang/AbstractStringBuilder" "value" "[B" (.ref v)) (P2 : Fld Z h a "java/lang/AbstractStringBuilder" "coder" "B" (.int (0 : Int32))) (P3 : Str Z h s t ds) (P4 : Ar Z h v .byte us) (P5 : j + ds.length ≤ us.length) (P6 : Z.heap.size ≤ v) (P7 : ¬ B v) : Con l Z consts_1 [] (⟨"java/lang/AbstractStringBuilder", "putStringAt", "(ILjava/lang/String;)V"⟩ : MethodName) jdk_68_method_73_code 3 none c_putS_rm B h #[(.ref a), (.int j.toInt32), (.ref s)] (fun vR hR BR => vR = none ∧ BR = B ∧ c_putS_q Z zC uT sT h B a v s t ds us j hR) := by
  have hz0 := hE.1.1
  refine Con.intro (ls := #[.val (.ref a), .val (.int j.toInt32), .val (.ref s)]) (plainFor_of_name pn15) G.2.1 hE (fun m => by first | rfl | (simp [entryFrame, mkF, argsToLocals, Value.category]; done) | rfl) ?_
  intro pP eE sS mM blw mth cC T hs X
  refine W.aloadN (pc' := 1) X d_jdk_68_m73_0 rfl rfl rfl ?_
  refine W.aloadN (pc' := 2) X d_jdk_68_m73_1 rfl rfl rfl ?_
  refine W.callP (pc' := 5) (W := 0) (argsL := [(.ref s)]) (st := []) (k' := 0) (n' := 0) (a := a) X (c_infl (a := a) (s := s) (t := t) (ds := ds) G X.en P2 P3) (w115 G) (w116 G) (nfM (z' := (⟨"java/lang/AbstractStringBuilder", "ensureCapacityInternal", "(I)V"⟩ : MethodName)) rfl (w82 G)) (w117 G) P0 (w119 G) (w46 G) (by decide) (by decide) (by decide) rfl (lenOf pd18 rfl) rfl rfl (Nat.le_of_eq rfl) d_jdk_68_m73_2 rfl (by decide) (by decide) (by decide) (by decide) (kpv fun T X => ?_)
  refine W.aloadN (pc' := 6) X d_jdk_68_m73_5 rfl rfl rfl ?_
  refine W.aloadN (pc' := 7) X d_jdk_68_m73_6 rfl rfl rfl ?_
  refine W.getF (pc' := 10) X (w50 G) Via.refl P1 d_jdk_68_m73_7 rfl fun T X => ?_
  refine W.iloadN (pc' := 11) X d_jdk_68_m73_10 rfl rfl ?_
  refine W.aloadN (pc' := 12) X d_jdk_68_m73_11 rfl rfl rfl ?_
  refine W.getF (pc' := 15) X (w52 G) Via.refl P2 d_jdk_68_m73_12 rfl fun T X => ?_
  refine W.callV (pc' := 18) (W := 0) (argsL := [(.ref v), (.int j.toInt32), (.int (0 : Int32))]) (st := []) (k' := 0) (n' := 0) (a := s) X (c_getB (s := s) (t := t) (v := v) (ds := ds) (us := us) (j := j) G X.en P3 P4 P5 P6 P7) (w121 G) (w122 G) (nfM (z' := (⟨"java/lang/String", "length", "()I"⟩ : MethodName)) rfl (w70 G)) (w124 G) (w123 G) P3.exa (w125 G) (w2 G) (by decide) (by decide) (by decide) rfl (lenOf pd19 rfl) rfl rfl (Nat.le_of_eq rfl) d_jdk_68_m73_15 rfl (by decide) (by decide) (by decide) (by decide) (kv fun T h1 X z2 q3 => ?_)
  obtain ⟨K4, F5⟩ := q3
  exact W.vreturn X d_jdk_68_m73_18 rfl (by decide) (by decide) ⟨rfl, rfl, ⟨(Keep.trans (Keep.refl h [v]) K4 (allS (Or.inl (List.mem_of_getElem? (i := 0) rfl)) all0)), F5⟩⟩
abbrev c_asbApp_q (Z : State) (zC : Int32) (uT : Addr) (sT : Addr) (h : Heap) (B : Addr → Prop) (a v s t : Addr) (cs ds : List Int32) (cap : Nat) (xR : Value) (h' : Heap) : Prop := ∃ (w : Addr), xR = (.ref a) ∧ Keep h h' [a, v] ∧ Sb Z h' a w (cs ++ ds) (grow cap (cs.length + ds.length)) ∧ Z.heap.size ≤ w ∧ ¬ B w ∧ (∀ x, x < h.size → x ≠ v → x ≠ w) ∧ (w = v ∨ h.size ≤ w)
def c_asbApp_rm : Room := { frames := 4, cells := 1, slots := 80, locals := 62 }
set_option maxRecDepth 65536 in
set_option maxHeartbeats 40000000 in
theorem c_asbApp {l : Launch} {Z : State} {a0 : Array Value} {zC : Int32} {uT : Addr} {sT : Addr} {h : Heap} {B : Addr → Prop} {a v s t : Addr} {cs ds : List Int32} {cap : Nat} (G : Gl Z a0 zC uT sT) (hE : En Z B h) (P0 : Sb Z h a v cs cap) (P1 : Str Z h s t ds) (P2 : grow cap (cs.length + ds.length) ≤ 80) (P3 : Z.heap.size ≤ a) (P4 : ¬ B a) (P5 : Z.heap.size ≤ v) (P6 : ¬ B v) : Con l Z consts_1 [] (⟨"java/lang/AbstractStringBuilder", "append", "(Ljava/lang/String;)Ljava/lang/AbstractStringBuilder;"⟩ : MethodName) jdk_68_method_22_code 3 (some (.object "java/lang/AbstractStringBuilder")) c_asbApp_rm B h #[(.ref a), (.ref s)] (fun vR hR BR => ∃ xR, vR = some xR ∧ BR = B ∧ c_asbApp_q Z zC uT sT h B a v s t cs ds cap xR hR) := by
  have hz0 := hE.1.1
  refine Con.intro (ls := #[.val (.ref a), .val (.ref s), .unset]) (plainFor_of_name pn15) G.2.1 hE (fun m => by first | rfl | (simp [entryFrame, mkF, argsToLocals, Value.category]; done) | rfl) ?_
  intro pP eE sS mM blw mth cC T hs X
  obtain ⟨hEx, hV, hCo, hN, hLat, hle, vs, hA, hvl, hvt⟩ := P0
  subst hvl
  have hL := hA.len_lt
  have hD := P1.len_lt
  have hgl := grow_le vs.length (cs.length + ds.length)
  have hcl := cap_le vs.length (cs.length + ds.length)
  refine W.aloadN (pc' := 1) X d_jdk_68_m22_0 rfl rfl rfl ?_
  refine W.nonnullT (pc' := 9) X d_jdk_68_m22_1 (by decide) (by decide) ?_
  refine W.aloadN (pc' := 10) X d_jdk_68_m22_9 rfl rfl rfl ?_
  refine W.callV (pc' := 13) (W := 0) (argsL := []) (st := []) (k' := 0) (n' := 0) (a := s) X (c_len (a := s) (b := t) (cs := ds) G X.en P1) (w67 G) (w68 G) (nfM (z' := (⟨"java/lang/String", "length", "()I"⟩ : MethodName)) rfl (w70 G)) (w70 G) (w69 G) P1.exa (w71 G) (w2 G) (by decide) (by decide) (by decide) rfl (lenOf pd20 rfl) rfl rfl (Nat.le_of_eq rfl) d_jdk_68_m22_10 rfl (by decide) (by decide) (by decide) (by decide) (kp fun T X => ?_)
  refine W.istoreN (pc' := 14) (ls' := #[.val (.ref a), .val (.ref s), .val (.int ds.length.toInt32)]) X d_jdk_68_m22_13 rfl rfl ?_
  refine W.aloadN (pc' := 15) X d_jdk_68_m22_14 rfl rfl rfl ?_
  refine W.aloadN (pc' := 16) X d_jdk_68_m22_15 rfl rfl rfl ?_
  refine W.getF (pc' := 19) X (w77 G) Via.refl hN d_jdk_68_m22_16 rfl fun T X => ?_
  refine W.iloadN (pc' := 20) X d_jdk_68_m22_19 rfl rfl ?_
  refine W.iadd (pc' := 21) (w := (cs.length + ds.length).toInt32) X d_jdk_68_m22_20 (add32 (by omega)) rfl ?_
  by_cases hn : cs.length + ds.length ≤ vs.length
  · have hg : grow vs.length (cs.length + ds.length) = vs.length := by unfold grow; rw [if_pos hn]
    refine W.callP (pc' := 24) (W := 0) (argsL := [(.int (cs.length + ds.length).toInt32)]) (st := []) (k' := 0) (n' := 0) (a := a) X (c_ens0 (a := a) (v := v) (vs := vs) (n := (cs.length + ds.length)) G X.en hV hCo hA hn) (w79 G) (w80 G) (nfM (z' := (⟨"java/lang/AbstractStringBuilder", "ensureCapacityInternal", "(I)V"⟩ : MethodName)) rfl (w82 G)) (w81 G) hEx (w83 G) (w46 G) (by decide) (by decide) (by decide) rfl (lenOf pd21 rfl) rfl rfl (Nat.le_of_eq rfl) d_jdk_68_m22_21 rfl (by decide) (by decide) (by decide) (by decide) (kpv fun T X => ?_)
    refine W.aloadN (pc' := 25) X d_jdk_68_m22_24 rfl rfl rfl ?_
    refine W.aloadN (pc' := 26) X d_jdk_68_m22_25 rfl rfl rfl ?_
    refine W.getF (pc' := 29) X (w77 G) Via.refl hN d_jdk_68_m22_26 rfl fun T X => ?_
    refine W.aloadN (pc' := 30) X d_jdk_68_m22_29 rfl rfl rfl ?_
    refine W.callP (pc' := 33) (W := 0) (argsL := [(.int cs.length.toInt32), (.ref s)]) (st := []) (k' := 0) (n' := 0) (a := a) X (c_putS (a := a) (v := v) (s := s) (t := t) (ds := ds) (us := vs) (j := cs.length) G X.en hEx hV hCo P1 hA hn P5 P6) (w110 G) (w111 G) (nfM (z' := (⟨"java/lang/AbstractStringBuilder", "ensureCapacityInternal", "(I)V"⟩ : MethodName)) rfl (w82 G)) (w112 G) hEx (w114 G) (w46 G) (by decide) (by decide) (by decide) rfl (lenOf pd22 rfl) rfl rfl (Nat.le_of_eq rfl) d_jdk_68_m22_30 rfl (by decide) (by decide) (by decide) (by decide) (kv fun T h1 X z2 q3 => ?_)
    obtain ⟨K4, F5⟩ := q3
    refine W.aloadN (pc' := 34) X d_jdk_68_m22_33 rfl rfl rfl ?_
    refine W.dup (pc' := 35) X d_jdk_68_m22_34 rfl rfl ?_
    have F6 := (hEx.keep K4)
    have F7 := (hN.keep K4 (ninS (exa_ne_ar F6 (w37 G) F5) nin0))
    refine W.getF (pc' := 38) X (w77 G) Via.refl F7 d_jdk_68_m22_35 rfl fun T X => ?_
    refine W.iloadN (pc' := 39) X d_jdk_68_m22_38 rfl rfl ?_
    refine W.iadd (pc' := 40) (w := (cs.length + ds.length).toInt32) X d_jdk_68_m22_39 (add32 (by omega)) rfl ?_
    refine W.putF (pc' := 43) X (w77 G) Via.refl F7 F6 (Or.inl (w78 G)) (w37 G) (ty := .int) (by decide) rfl rfl P3 P4 d_jdk_68_m22_40 rfl fun T h8 X W9 => ?_
    have F10 := F7.same W9
    refine W.aloadN (pc' := 44) X d_jdk_68_m22_43 rfl rfl rfl ?_
    have F11 := (F6.wr W9)
    have F12 := ((hV.keep K4 (ninS (exa_ne_ar F6 (w37 G) F5) nin0)).other W9 (Or.inr (slot_ne (Or.inl (w51 G)) (Or.inl (w78 G)) (by decide) (t := (.array .byte)) (t' := .int) (by decide) (by decide))))
    have F13 := ((hCo.keep K4 (ninS (exa_ne_ar F6 (w37 G) F5) nin0)).other W9 (Or.inr (slot_ne (Or.inl (w53 G)) (Or.inl (w78 G)) (by decide) (t := .byte) (t' := .int) (by decide) (by decide))))
    have F14 := (F5.keep (Keep.of_wr W9) (ninS (Ne.symm (exa_ne_ar F6 (w37 G) F5)) nin0))
    exact W.areturn X d_jdk_68_m22_44 rfl rfl rfl rfl (by decide) (by decide) ⟨_, rfl, rfl, ⟨v, rfl, (Keep.wr (Keep.trans (Keep.refl h [a, v]) K4 (allS (Or.inl (List.mem_of_getElem? (i := 1) rfl)) all0)) W9 (Or.inl (List.mem_of_getElem? (i := 0) rfl))), ⟨F11, F12, F13, (by rw [List.length_append]; exact F10), (lat_app hLat P1.lat), (by rw [List.length_append]; omega), _, F14, (by rw [hg]; simp; omega), (sb_take hle hn hvt)⟩, P5, P6, (fun x _ q => q), (Or.inl rfl)⟩⟩
  · have hg : grow vs.length (cs.length + ds.length) - vs.length + vs.length = grow vs.length (cs.length + ds.length) := by omega
    have en15 := X.en
    refine W.callP (pc' := 24) (W := 0) (argsL := [(.int (cs.length + ds.length).toInt32)]) (st := []) (k' := 1) (n' := 80) (a := a) X (c_ens1 (a := a) (v := v) (vs := vs) (n := (cs.length + ds.length)) (cn := (.int cs.length.toInt32)) G X.en hEx hV hCo hN hA (by omega) P2 P3 P4) (w79 G) (w80 G) (nfM (z' := (⟨"java/lang/AbstractStringBuilder", "ensureCapacityInternal", "(I)V"⟩ : MethodName)) rfl (w82 G)) (w81 G) hEx (w83 G) (w46 G) (by decide) (by decide) (by decide) rfl (lenOf pd21 rfl) rfl rfl (Nat.le_of_eq rfl) d_jdk_68_m22_21 rfl (by decide) (by decide) (by decide) (by decide) (kv fun T h16 X z17 q18 => ?_)
    obtain ⟨a19, K20, g21, F22, F23, F24, F25⟩ := q18
    have g26 : Z.heap.size ≤ a19 := Nat.le_trans (Nat.le_trans hz0 (Nat.le_refl _)) g21
    have nb27 : ¬ B a19 := fun q => absurd (en15.2 _ q) (Nat.not_lt.mpr g21)
    refine W.aloadN (pc' := 25) X d_jdk_68_m22_24 rfl rfl rfl ?_
    refine W.aloadN (pc' := 26) X d_jdk_68_m22_25 rfl rfl rfl ?_
    refine W.getF (pc' := 29) X (w77 G) Via.refl F24 d_jdk_68_m22_26 rfl fun T X => ?_
    refine W.aloadN (pc' := 30) X d_jdk_68_m22_29 rfl rfl rfl ?_
    have F28 := (hEx.keep K20)
    have F29 := (P1.keep K20 (ninS (ne_exa P1.exa hEx (by decide)) nin0) (ninS (Ne.symm (exa_ne_ar hEx (w37 G) P1.arr)) nin0))
    refine W.callP (pc' := 33) (W := 0) (argsL := [(.int cs.length.toInt32), (.ref s)]) (st := []) (k' := 1) (n' := 80) (a := a) X (c_putS (a := a) (v := a19) (s := s) (t := t) (ds := ds) (us := (vs ++ List.replicate (grow vs.length (cs.length + ds.length) - vs.length) (.int (0 : Int32)))) (j := cs.length) G X.en F28 F22 F23 F29 F25 (by simp; omega) g26 nb27) (w110 G) (w111 G) (nfM (z' := (⟨"java/lang/AbstractStringBuilder", "ensureCapacityInternal", "(I)V"⟩ : MethodName)) rfl (w82 G)) (w112 G) F28 (w114 G) (w46 G) (by decide) (by decide) (by decide) rfl (lenOf pd22 rfl) rfl rfl (Nat.le_of_eq rfl) d_jdk_68_m22_30 rfl (by decide) (by decide) (by decide) (by decide) (kv fun T h30 X z31 q32 => ?_)
    obtain ⟨K33, F34⟩ := q32
    refine W.aloadN (pc' := 34) X d_jdk_68_m22_33 rfl rfl rfl ?_
    refine W.dup (pc' := 35) X d_jdk_68_m22_34 rfl rfl ?_
    have F35 := (F24.keep K33 (ninS (Nat.ne_of_lt (Nat.lt_of_lt_of_le hEx.lt (Nat.le_trans (Nat.le_refl _) g21))) nin0))
    refine W.getF (pc' := 38) X (w77 G) Via.refl F35 d_jdk_68_m22_35 rfl fun T X => ?_
    refine W.iloadN (pc' := 39) X d_jdk_68_m22_38 rfl rfl ?_
    refine W.iadd (pc' := 40) (w := (cs.length + ds.length).toInt32) X d_jdk_68_m22_39 (add32 (by omega)) rfl ?_
    have F36 := (F28.keep K33)
    refine W.putF (pc' := 43) X (w77 G) Via.refl F35 F36 (Or.inl (w78 G)) (w37 G) (ty := .int) (by decide) rfl rfl P3 P4 d_jdk_68_m22_40 rfl fun T h37 X W38 => ?_
    have F39 := F35.same W38
    refine W.aloadN (pc' := 44) X d_jdk_68_m22_43 rfl rfl rfl ?_
    have F40 := (F36.wr W38)
    have F41 := ((F22.keep K33 (ninS (Nat.ne_of_lt (Nat.lt_of_lt_of_le hEx.lt (Nat.le_trans (Nat.le_refl _) g21))) nin0)).other W38 (Or.inr (slot_ne (Or.inl (w51 G)) (Or.inl (w78 G)) (by decide) (t := (.array .byte)) (t' := .int) (by decide) (by decide))))
    have F42 := ((F23.keep K33 (ninS (Nat.ne_of_lt (Nat.lt_of_lt_of_le hEx.lt (Nat.le_trans (Nat.le_refl _) g21))) nin0)).other W38 (Or.inr (slot_ne (Or.inl (w53 G)) (Or.inl (w78 G)) (by decide) (t := .byte) (t' := .int) (by decide) (by decide))))
    have F43 := (F34.keep (Keep.of_wr W38) (ninS (Nat.ne_of_gt (Nat.lt_of_lt_of_le hEx.lt (Nat.le_trans (Nat.le_refl _) g21))) nin0))
    exact W.areturn X d_jdk_68_m22_44 rfl rfl rfl rfl (by decide) (by decide) ⟨_, rfl, rfl, ⟨a19, rfl, (Keep.wr (Keep.trans (Keep.trans (Keep.refl h [a, v]) K20 (allS (Or.inl (List.mem_of_getElem? (i := 0) rfl)) all0)) K33 (allS (Or.inr (Nat.le_trans (Nat.le_refl _) g21)) all0)) W38 (Or.inl (List.mem_of_getElem? (i := 0) rfl))), ⟨F40, F41, F42, (by rw [List.length_append]; exact F39), (lat_app hLat P1.lat), (by rw [List.length_append]; omega), _, F43, (by simp; omega), (sb_take (by simp; omega) (by simp; omega) (by rw [List.take_append_of_le_length hle]; exact hvt))⟩, g26, nb27, (fun x q _ => Nat.ne_of_lt (Nat.lt_of_lt_of_le q (Nat.le_trans (Nat.le_refl _) g21))), (Or.inr (Nat.le_trans (Nat.le_refl _) g21))⟩⟩
abbrev c_app_q (Z : State) (zC : Int32) (uT : Addr) (sT : Addr) (h : Heap) (B : Addr → Prop) (a v s t : Addr) (cs ds : List Int32) (cap : Nat) (xR : Value) (h' : Heap) : Prop := ∃ (w : Addr), xR = (.ref a) ∧ Keep h h' [a, v] ∧ Sb Z h' a w (cs ++ ds) (grow cap (cs.length + ds.length)) ∧ Z.heap.size ≤ w ∧ ¬ B w ∧ (∀ x, x < h.size → x ≠ v → x ≠ w) ∧ (w = v ∨ h.size ≤ w)
def c_app_rm : Room := { frames := 5, cells := 1, slots := 80, locals := 76 }
set_option maxRecDepth 65536 in
set_option maxHeartbeats 40000000 in
theorem c_app {l : Launch} {Z : State} {a0 : Array Value} {zC : Int32} {uT : Addr} {sT : Addr} {h : Heap} {B : Addr → Prop} {a v s t : Addr} {cs ds : List Int32} {cap : Nat} (G : Gl Z a0 zC uT sT) (hE : En Z B h) (P0 : Sb Z h a v cs cap) (P1 : Str Z h s t ds) (P2 : grow cap (cs.length + ds.length) ≤ 80) (P3 : Z.heap.size ≤ a) (P4 : ¬ B a) (P5 : Z.heap.size ≤ v) (P6 : ¬ B v) : Con l Z consts_1 [] (⟨"java/lang/StringBuilder", "append", "(Ljava/lang/String;)Ljava/lang/StringBuilder;"⟩ : MethodName) jdk_67_method_7_code 2 (some (.object "java/lang/StringBuilder")) c_app_rm B h #[(.ref a), (.ref s)] (fun vR hR BR => ∃ xR, vR = some xR ∧ BR = B ∧ c_app_q Z zC uT sT h B a v s t cs ds cap xR hR) := by
  have hz0 := hE.1.1
  refine Con.intro (ls := #[.val (.ref a), .val (.ref s)]) (plainFor_of_name pn24) G.2.1 hE (fun m => by first | rfl | (simp [entryFrame, mkF, argsToLocals, Value.category]; done) | rfl) ?_
  intro pP eE sS mM blw mth cC T hs X
  refine W.aloadN (pc' := 1) X d_jdk_67_m7_0 rfl rfl rfl ?_
  refine W.aloadN (pc' := 2) X d_jdk_67_m7_1 rfl rfl rfl ?_
  refine W.callX (pc' := 5) (W := 0) (argsL := [(.ref s)]) (st := []) (k' := 1) (n' := 80) (a := a) X (c_asbApp (a := a) (v := v) (s := s) (t := t) (cs := cs) (ds := ds) (cap := cap) G X.en P0 P1 P2 P3 P4 P5 P6) (w62 G) (sameM (z := (⟨"java/lang/AbstractStringBuilder", "append", "(Ljava/lang/String;)Ljava/lang/AbstractStringBuilder;"⟩ : MethodName)) (z' := (⟨"java/lang/AbstractStringBuilder", "ensureCapacityInternal", "(I)V"⟩ : MethodName)) rfl (by decide) (w63 G) (w82 G)) (w63 G) (w64 G) (by decide) P0.exa (w66 G) (w46 G) (by decide) (by decide) rfl (lenOf pd23 rfl) rfl rfl (Nat.le_of_eq rfl) d_jdk_67_m7_2 rfl (by decide) (by decide) (by decide) (by decide) (kr fun T h1 xr X z2 q3 => ?_)
  obtain ⟨a4, rfl, K5, F6, F7, F8, F9, F10⟩ := q3
  refine W.popV (pc' := 6) X d_jdk_67_m7_5 rfl rfl ?_
  refine W.aloadN (pc' := 7) X d_jdk_67_m7_6 rfl rfl rfl ?_
  exact W.areturn X d_jdk_67_m7_7 rfl rfl rfl rfl (by decide) (by decide) ⟨_, rfl, rfl, ⟨a4, rfl, (Keep.trans (Keep.refl h [a, v]) K5 (allS (Or.inl (List.mem_of_getElem? (i := 0) rfl)) (allS (Or.inl (List.mem_of_getElem? (i := 1) rfl)) all0))), F6, F7, F8, F9, F10⟩⟩
abbrev c_asbNew_q (Z : State) (zC : Int32) (uT : Addr) (sT : Addr) (h : Heap) (B : Addr → Prop) (a : Addr) (v0 v1 : Value) (h' : Heap) : Prop := ∃ (v : Addr), Keep h h' [a] ∧ h.size ≤ v ∧ Sb Z h' a v ([] : List Int32) 16
def c_asbNew_rm : Room := { frames := 1, cells := 1, slots := 16, locals := 12 }
set_option maxRecDepth 65536 in
set_option maxHeartbeats 40000000 in
theorem c_asbNew {l : Launch} {Z : State} {a0 : Array Value} {zC : Int32} {uT : Addr} {sT : Addr} {h : Heap} {B : Addr → Prop} {a : Addr} {v0 v1 : Value} (G : Gl Z a0 zC uT sT) (hE : En Z B h) (P0 : Exa Z h a "java/lang/StringBuilder") (P1 : Fld Z h a "java/lang/AbstractStringBuilder" "value" "[B" v0) (P2 : Fld Z h a "java/lang/AbstractStringBuilder" "coder" "B" v1) (P3 : Fld Z h a "java/lang/AbstractStringBuilder" "count" "I" (.int (0 : Int32))) (P4 : Z.heap.size ≤ a) (P5 : ¬ B a) : Con l Z consts_1 [] (⟨"java/lang/AbstractStringBuilder", "<init>", "(I)V"⟩ : MethodName) jdk_68_method_2_code 2 none c_asbNew_rm B h #[(.ref a), (.int (16 : Int32))] (fun vR hR BR => vR = none ∧ BR = B ∧ c_asbNew_q Z zC uT sT h B a v0 v1 hR) := by
  have hz0 := hE.1.1
  refine Con.intro (ls := #[.val (.ref a), .val (.int (16 : Int32))]) (plainFor_of_name pn15) G.2.1 hE (fun m => by first | rfl | (simp [entryFrame, mkF, argsToLocals, Value.category]; done) | rfl) ?_
  intro pP eE sS mM blw mth cC T hs X
  refine W.aloadN (pc' := 1) X d_jdk_68_m2_0 rfl rfl rfl ?_
  refine W.initO (pc' := 4) (W := 0) X (w48 G) (w12 G) (w13 G) d_jdk_68_m2_1 rfl (by decide) (Nat.le_of_eq rfl) (by decide) rfl fun T X => ?_
  refine W.getS (pc' := 7) (host := "") X (Or.inl (w49 G)) Via.refl G.2.2.1 d_jdk_68_m2_4 rfl fun T X => ?_
  refine W.ifF (pc' := 10) X d_jdk_68_m2_7 (XT.i0_eq_f G.2.2.2.1) rfl ?_
  refine W.aloadN (pc' := 11) X d_jdk_68_m2_10 rfl rfl rfl ?_
  refine W.iloadN (pc' := 12) X d_jdk_68_m2_11 rfl rfl ?_
  refine W.newA (aty := .byte) (pc' := 14) (k' := 1) (n' := 16) (cap := 16) X (w19 G) d_jdk_68_m2_12 (by decide) (by decide) (by decide) rfl (by decide) (by decide) (by decide) (by decide) fun T h1 a2 X K3 g4 g5 nb6 A7 => ?_
  have A7 : Ar Z h1 a2 .byte [(.int (0 : Int32)), (.int (0 : Int32)), (.int (0 : Int32)), (.int (0 : Int32)), (.int (0 : Int32)), (.int (0 : Int32)), (.int (0 : Int32)), (.int (0 : Int32)), (.int (0 : Int32)), (.int (0 : Int32)), (.int (0 : Int32)), (.int (0 : Int32)), (.int (0 : Int32)), (.int (0 : Int32)), (.int (0 : Int32)), (.int (0 : Int32))] := A7
  have F8 := (P1.keep K3 nin0)
  have F9 := (P0.keep K3)
  refine W.putF (pc' := 17) X (w50 G) Via.refl F8 F9 (Or.inl (w51 G)) (w37 G) (ty := (.array .byte)) (by decide) rfl rfl P4 P5 d_jdk_68_m2_14 rfl fun T h10 X W11 => ?_
  have F12 := F8.same W11
  refine W.aloadN (pc' := 18) X d_jdk_68_m2_17 rfl rfl rfl ?_
  refine W.iconst (pc' := 19) X (0 : Int32) d_jdk_68_m2_18 (by decide) rfl ?_
  have F13 := ((P2.keep K3 nin0).other W11 (Or.inr (slot_ne (Or.inl (w53 G)) (Or.inl (w51 G)) (by decide) (t := .byte) (t' := (.array .byte)) (by decide) (by decide))))
  have F14 := (F9.wr W11)
  refine W.putF (pc' := 22) X (w52 G) Via.refl F13 F14 (Or.inl (w53 G)) (w37 G) (ty := .byte) (by decide) (by decide) (by decide) P4 P5 d_jdk_68_m2_19 rfl fun T h15 X W16 => ?_
  have F17 := F13.same W16
  refine W.goto (pc' := 38) X d_jdk_68_m2_22 (by decide) (by decide) ?_
  have F18 := (F14.wr W16)
  have F19 := (F12.other W16 (Or.inr (slot_ne (Or.inl (w51 G)) (Or.inl (w53 G)) (by decide) (t := (.array .byte)) (t' := .byte) (by decide) (by decide))))
  have F20 := (((P3.keep K3 nin0).other W11 (Or.inr (slot_ne (Or.inl (w78 G)) (Or.inl (w51 G)) (by decide) (t := .int) (t' := (.array .byte)) (by decide) (by decide)))).other W16 (Or.inr (slot_ne (Or.inl (w78 G)) (Or.inl (w53 G)) (by decide) (t := .int) (t' := .byte) (by decide) (by decide))))
  have F21 := ((A7.keep (Keep.of_wr W11) (ninS (Nat.ne_of_gt (Nat.lt_of_lt_of_le P0.lt (Nat.le_trans (Nat.le_refl _) g4))) nin0)).keep (Keep.of_wr W16) (ninS (Nat.ne_of_gt (Nat.lt_of_lt_of_le P0.lt (Nat.le_trans (Nat.le_refl _) g4))) nin0))
  exact W.vreturn X d_jdk_68_m2_38 rfl (by decide) (by decide) ⟨rfl, rfl, ⟨a2, (Keep.wr (Keep.wr (Keep.trans (Keep.refl h [a]) K3 all0) W11 (Or.inl (List.mem_of_getElem? (i := 0) rfl))) W16 (Or.inl (List.mem_of_getElem? (i := 0) rfl))), (Nat.le_trans (Nat.le_refl _) g4), ⟨F18, F19, F17, F20, lat0, (by decide), _, F21, (by simp), rfl⟩⟩⟩
abbrev c_sbNew_q (Z : State) (zC : Int32) (uT : Addr) (sT : Addr) (h : Heap) (B : Addr → Prop) (a : Addr) (v0 v1 : Value) (h' : Heap) : Prop := ∃ (v : Addr), Keep h h' [a] ∧ h.size ≤ v ∧ Sb Z h' a v ([] : List Int32) 16
def c_sbNew_rm : Room := { frames := 2, cells := 1, slots := 16, locals := 25 }
set_option maxRecDepth 65536 in
set_option maxHeartbeats 40000000 in
theorem c_sbNew {l : Launch} {Z : State} {a0 : Array Value} {zC : Int32} {uT : Addr} {sT : Addr} {h : Heap} {B : Addr → Prop} {a : Addr} {v0 v1 : Value} (G : Gl Z a0 zC uT sT) (hE : En Z B h) (P0 : Exa Z h a "java/lang/StringBuilder") (P1 : Fld Z h a "java/lang/AbstractStringBuilder" "value" "[B" v0) (P2 : Fld Z h a "java/lang/AbstractStringBuilder" "coder" "B" v1) (P3 : Fld Z h a "java/lang/AbstractStringBuilder" "count" "I" (.int (0 : Int32))) (P4 : Z.heap.size ≤ a) (P5 : ¬ B a) : Con l Z consts_1 [] (⟨"java/lang/StringBuilder", "<init>", "()V"⟩ : MethodName) jdk_67_method_1_code 1 none c_sbNew_rm B h #[(.ref a)] (fun vR hR BR => vR = none ∧ BR = B ∧ c_sbNew_q Z zC uT sT h B a v0 v1 hR) := by
  have hz0 := hE.1.1
  refine Con.intro (ls := #[.val (.ref a)]) (plainFor_of_name pn24) G.2.1 hE (fun m => by first | rfl | (simp [entryFrame, mkF, argsToLocals, Value.category]; done) | rfl) ?_
  intro pP eE sS mM blw mth cC T hs X
  refine W.aloadN (pc' := 1) X d_jdk_67_m1_0 rfl rfl rfl ?_
  refine W.bipush (pc' := 3) X (16 : Int32) d_jdk_67_m1_1 (by decide) rfl ?_
  have en1 := X.en
  refine W.callN (pc' := 6) (W := 0) (argsL := [(.int (16 : Int32))]) (st := []) (k' := 1) (n' := 16) (a := a) X (c_asbNew (a := a) (v0 := v0) (v1 := v1) G X.en P0 P1 P2 P3 P4 P5) rfl (w42 G) (w43 G) (w47 G) (w46 G) (by decide) (by decide) (by decide) rfl (lenOf pd21 rfl) rfl rfl (Nat.le_of_eq rfl) d_jdk_67_m1_3 rfl (by decide) (by decide) (by decide) (by decide) (kv fun T h2 X z3 q4 => ?_)
  obtain ⟨a5, K6, g7, F8⟩ := q4
  have g9 : Z.heap.size ≤ a5 := Nat.le_trans (Nat.le_trans hz0 (Nat.le_refl _)) g7
  have nb10 : ¬ B a5 := fun q => absurd (en1.2 _ q) (Nat.not_lt.mpr g7)
  exact W.vreturn X d_jdk_67_m1_6 rfl (by decide) (by decide) ⟨rfl, rfl, ⟨a5, (Keep.trans (Keep.refl h [a]) K6 (allS (Or.inl (List.mem_of_getElem? (i := 0) rfl)) all0)), (Nat.le_trans (Nat.le_refl _) g7), F8⟩⟩
def c_getV_rm : Room := { frames := 0, cells := 0, slots := 0, locals := 0 }
set_option maxRecDepth 65536 in
set_option maxHeartbeats 40000000 in
theorem c_getV {l : Launch} {Z : State} {a0 : Array Value} {zC : Int32} {uT : Addr} {sT : Addr} {h : Heap} {B : Addr → Prop} {a v : Addr} {cs : List Int32} {cap : Nat} (G : Gl Z a0 zC uT sT) (hE : En Z B h) (P0 : Sb Z h a v cs cap) : Con l Z consts_1 [] (⟨"java/lang/AbstractStringBuilder", "getValue", "()[B"⟩ : MethodName) jdk_68_method_64_code 1 (some (.array .byte)) c_getV_rm B h #[(.ref a)] (fun vR hR BR => vR = some (.ref v) ∧ hR = h ∧ BR = B) := by
  have hz0 := hE.1.1
  refine Con.intro (ls := #[.val (.ref a)]) (plainFor_of_name pn15) G.2.1 hE (fun m => by first | rfl | (simp [entryFrame, mkF, argsToLocals, Value.category]; done) | rfl) ?_
  intro pP eE sS mM blw mth cC T hs X
  obtain ⟨hEx, hV, hCo, hN, hLat, hle, vs, hA, hvl, hvt⟩ := P0
  refine W.aloadN (pc' := 1) X d_jdk_68_m64_0 rfl rfl rfl ?_
  refine W.getF (pc' := 4) X (w50 G) Via.refl hV d_jdk_68_m64_1 rfl fun T X => ?_
  exact W.areturn X d_jdk_68_m64_4 rfl rfl rfl rfl (by decide) (by decide) ⟨rfl, rfl, rfl⟩
def c_asbLen_rm : Room := { frames := 0, cells := 0, slots := 0, locals := 0 }
set_option maxRecDepth 65536 in
set_option maxHeartbeats 40000000 in
theorem c_asbLen {l : Launch} {Z : State} {a0 : Array Value} {zC : Int32} {uT : Addr} {sT : Addr} {h : Heap} {B : Addr → Prop} {a v : Addr} {cs : List Int32} {cap : Nat} (G : Gl Z a0 zC uT sT) (hE : En Z B h) (P0 : Sb Z h a v cs cap) : Con l Z consts_1 [] (⟨"java/lang/AbstractStringBuilder", "length", "()I"⟩ : MethodName) jdk_68_method_6_code 1 (some .int) c_asbLen_rm B h #[(.ref a)] (fun vR hR BR => vR = some (.int cs.length.toInt32) ∧ hR = h ∧ BR = B) := by
  have hz0 := hE.1.1
  refine Con.intro (ls := #[.val (.ref a)]) (plainFor_of_name pn15) G.2.1 hE (fun m => by first | rfl | (simp [entryFrame, mkF, argsToLocals, Value.category]; done) | rfl) ?_
  intro pP eE sS mM blw mth cC T hs X
  obtain ⟨hEx, hV, hCo, hN, hLat, hle, vs, hA, hvl, hvt⟩ := P0
  refine W.aloadN (pc' := 1) X d_jdk_68_m6_0 rfl rfl rfl ?_
  refine W.getF (pc' := 4) X (w77 G) Via.refl hN d_jdk_68_m6_1 rfl fun T X => ?_
  exact W.ireturn X d_jdk_68_m6_4 rfl (by decide) rfl (by decide) (by decide) ⟨rfl, rfl, rfl⟩
def c_sbLen_rm : Room := { frames := 1, cells := 0, slots := 0, locals := 12 }
set_option maxRecDepth 65536 in
set_option maxHeartbeats 40000000 in
theorem c_sbLen {l : Launch} {Z : State} {a0 : Array Value} {zC : Int32} {uT : Addr} {sT : Addr} {h : Heap} {B : Addr → Prop} {a v : Addr} {cs : List Int32} {cap : Nat} (G : Gl Z a0 zC uT sT) (hE : En Z B h) (P0 : Sb Z h a v cs cap) : Con l Z consts_1 [] (⟨"java/lang/StringBuilder", "length", "()I"⟩ : MethodName) jdk_67_method_93_code 1 (some .int) c_sbLen_rm B h #[(.ref a)] (fun vR hR BR => vR = some (.int cs.length.toInt32) ∧ hR = h ∧ BR = B) := by
  have hz0 := hE.1.1
  refine Con.intro (ls := #[.val (.ref a)]) (plainFor_of_name pn24) G.2.1 hE (fun m => by first | rfl | (simp [entryFrame, mkF, argsToLocals, Value.category]; done) | rfl) ?_
  intro pP eE sS mM blw mth cC T hs X
  refine W.aloadN (pc' := 1) X d_jdk_67_m93_0 rfl rfl rfl ?_
  refine W.callX (pc' := 4) (W := 0) (argsL := []) (st := []) (k' := 0) (n' := 0) (a := a) X (c_asbLen (a := a) (v := v) (cs := cs) (cap := cap) G X.en P0) (w152 G) (sameM (z := (⟨"java/lang/AbstractStringBuilder", "length", "()I"⟩ : MethodName)) (z' := (⟨"java/lang/AbstractStringBuilder", "ensureCapacityInternal", "(I)V"⟩ : MethodName)) rfl (by decide) (w148 G) (w82 G)) (w148 G) (w64 G) (by decide) P0.exa (w153 G) (w46 G) (by decide) (by decide) rfl (lenOf pd20 rfl) rfl rfl (Nat.le_of_eq rfl) d_jdk_67_m93_1 rfl (by decide) (by decide) (by decide) (by decide) (kp fun T X => ?_)
  exact W.ireturn X d_jdk_67_m93_4 rfl (by decide) rfl (by decide) (by decide) ⟨rfl, rfl, rfl⟩
def c_sbLat_rm : Room := { frames := 0, cells := 0, slots := 0, locals := 0 }
set_option maxRecDepth 65536 in
set_option maxHeartbeats 40000000 in
theorem c_sbLat {l : Launch} {Z : State} {a0 : Array Value} {zC : Int32} {uT : Addr} {sT : Addr} {h : Heap} {B : Addr → Prop} {a v : Addr} {cs : List Int32} {cap : Nat} (G : Gl Z a0 zC uT sT) (hE : En Z B h) (P0 : Sb Z h a v cs cap) : Con l Z consts_1 [] (⟨"java/lang/AbstractStringBuilder", "isLatin1", "()Z"⟩ : MethodName) jdk_68_method_68_code 1 (some .boolean) c_sbLat_rm B h #[(.ref a)] (fun vR hR BR => vR = some (.int (1 : Int32)) ∧ hR = h ∧ BR = B) := by
  have hz0 := hE.1.1
  refine Con.intro (ls := #[.val (.ref a)]) (plainFor_of_name pn15) G.2.1 hE (fun m => by first | rfl | (simp [entryFrame, mkF, argsToLocals, Value.category]; done) | rfl) ?_
  intro pP eE sS mM blw mth cC T hs X
  obtain ⟨hEx, hV, hCo, hN, hLat, hle, vs, hA, hvl, hvt⟩ := P0
  refine W.getS (pc' := 3) (host := "") X (Or.inl (w49 G)) Via.refl G.2.2.1 d_jdk_68_m68_0 rfl fun T X => ?_
  refine W.ifF (pc' := 6) X d_jdk_68_m68_3 (XT.i0_eq_f G.2.2.2.1) rfl ?_
  refine W.aloadN (pc' := 7) X d_jdk_68_m68_6 rfl rfl rfl ?_
  refine W.getF (pc' := 10) X (w52 G) Via.refl hCo d_jdk_68_m68_7 rfl fun T X => ?_
  refine W.ifF (pc' := 13) X d_jdk_68_m68_10 (by decide) rfl ?_
  refine W.iconst (pc' := 14) X (1 : Int32) d_jdk_68_m68_13 (by decide) rfl ?_
  refine W.goto (pc' := 18) X d_jdk_68_m68_14 (by decide) (by decide) ?_
  exact W.ireturn X d_jdk_68_m68_18 rfl (by decide) (by decide) (by decide) (by decide) ⟨rfl, rfl, rfl⟩
def c_ckl_rm : Room := { frames := 0, cells := 0, slots := 0, locals := 0 }
set_option maxRecDepth 65536 in
set_option maxHeartbeats 40000000 in
theorem c_ckl {l : Launch} {Z : State} {a0 : Array Value} {zC : Int32} {uT : Addr} {sT : Addr} {h : Heap} {B : Addr → Prop} {f e : Nat} (G : Gl Z a0 zC uT sT) (hE : En Z B h) (P0 : f ≤ e) (P1 : e < 2 ^ 31) : Con l Z consts_1 [] (⟨"java/util/Arrays", "checkLength", "(II)V"⟩ : MethodName) jdk_65_method_131_code 2 none c_ckl_rm B h #[(.int f.toInt32), (.int e.toInt32)] (fun vR hR BR => vR = none ∧ hR = h ∧ BR = B) := by
  have hz0 := hE.1.1
  refine Con.intro (ls := #[.val (.int f.toInt32), .val (.int e.toInt32)]) (plainFor_of_name pn12) G.2.1 hE (fun m => by first | rfl | (simp [entryFrame, mkF, argsToLocals, Value.category]; done) | rfl) ?_
  intro pP eE sS mM blw mth cC T hs X
  refine W.iloadN (pc' := 1) X d_jdk_65_m131_0 rfl rfl ?_
  refine W.iloadN (pc' := 2) X d_jdk_65_m131_1 rfl rfl ?_
  refine W.icT (pc' := 37) X d_jdk_65_m131_2 (XT.ii_ge_t (fun q => by have := (lt32 P1 (by omega)).mp q; omega)) (by decide) (by decide) ?_
  exact W.vreturn X d_jdk_65_m131_37 rfl (by decide) (by decide) ⟨rfl, rfl, rfl⟩
abbrev c_corb_q (Z : State) (zC : Int32) (uT : Addr) (sT : Addr) (h : Heap) (B : Addr → Prop) (a : Addr) (vs : List Value) (f e : Nat) (xR : Value) (h' : Heap) : Prop := ∃ (t : Addr), xR = (.ref t) ∧ Keep h h' [] ∧ h.size ≤ t ∧ Ar Z h' t .byte ((vs.drop f).take (e - f))
def c_corb_rm : Room := { frames := 1, cells := 1, slots := 80, locals := 18 }
set_option maxRecDepth 65536 in
set_option maxHeartbeats 40000000 in
theorem c_corb {l : Launch} {Z : State} {a0 : Array Value} {zC : Int32} {uT : Addr} {sT : Addr} {h : Heap} {B : Addr → Prop} {a : Addr} {vs : List Value} {f e : Nat} (G : Gl Z a0 zC uT sT) (hE : En Z B h) (P0 : Ar Z h a .byte vs) (P1 : f ≤ e) (P2 : e ≤ vs.length) (P3 : e - f ≤ 80) : Con l Z consts_1 [] (⟨"java/util/Arrays", "copyOfRangeByte", "([BII)[B"⟩ : MethodName) jdk_65_method_133_code 5 (some (.array .byte)) c_corb_rm B h #[(.ref a), (.int f.toInt32), (.int e.toInt32)] (fun vR hR BR => ∃ xR, vR = some xR ∧ BR = B ∧ c_corb_q Z zC uT sT h B a vs f e xR hR) := by
  have hz0 := hE.1.1
  refine Con.intro (ls := #[.val (.ref a), .val (.int f.toInt32), .val (.int e.toInt32), .unset, .unset]) (plainFor_of_name pn12) G.2.1 hE (fun m => by first | rfl | (simp [entryFrame, mkF, argsToLocals, Value.category]; done) | rfl) ?_
  intro pP eE sS mM blw mth cC T hs X
  have hL := P0.len_lt
  refine W.iloadN (pc' := 1) X d_jdk_65_m133_0 rfl rfl ?_
  refine W.iloadN (pc' := 2) X d_jdk_65_m133_1 rfl rfl ?_
  refine W.callS (pc' := 5) (W := 0) (argsL := [(.int f.toInt32), (.int e.toInt32)]) (st := []) (k' := 0) (n' := 0) X (c_ckl (f := f) (e := e) G X.en (by omega) (by omega)) (w165 G) (w166 G) (w167 G) (w101 G) (by decide) (by decide) (by decide) rfl (lenOf pd25 rfl) rfl rfl (Nat.le_of_eq rfl) d_jdk_65_m133_2 rfl (by decide) (by decide) (by decide) (by decide) (kpv fun T X => ?_)
  refine W.iloadN (pc' := 6) X d_jdk_65_m133_5 rfl rfl ?_
  refine W.iloadN (pc' := 7) X d_jdk_65_m133_6 rfl rfl ?_
  refine W.isub (pc' := 8) (w := (e - f).toInt32) X d_jdk_65_m133_7 (sub32 P1 (by omega)) rfl ?_
  refine W.istoreN (pc' := 9) (ls' := #[.val (.ref a), .val (.int f.toInt32), .val (.int e.toInt32), .val (.int (e - f).toInt32), .unset]) X d_jdk_65_m133_8 rfl rfl ?_
  refine W.iloadN (pc' := 10) X d_jdk_65_m133_9 rfl rfl ?_
  refine W.newA (aty := .byte) (pc' := 12) (k' := 1) (n' := 80) (cap := 80) X (w19 G) d_jdk_65_m133_10 (len32 (by omega)).1 (by rw [(len32 (by omega)).2.1]; exact P3) (by decide) rfl (by decide) (by decide) (by decide) (by decide) fun T h1 a2 X K3 g4 g5 nb6 A7 => ?_
  have A7 : Ar Z h1 a2 .byte (List.replicate (e - f) (.int (0 : Int32))) := by have q := A7; rw [(len32 (by omega)).2.1] at q; exact q
  refine W.astore (pc' := 14) (ls' := #[.val (.ref a), .val (.int f.toInt32), .val (.int e.toInt32), .val (.int (e - f).toInt32), .val (.ref a2)]) X d_jdk_65_m133_12 rfl rfl rfl ?_
  refine W.aloadN (pc' := 15) X d_jdk_65_m133_14 rfl rfl rfl ?_
  refine W.iloadN (pc' := 16) X d_jdk_65_m133_15 rfl rfl ?_
  refine W.aload (pc' := 18) X d_jdk_65_m133_16 rfl rfl rfl ?_
  refine W.iconst (pc' := 19) X (0 : Int32) d_jdk_65_m133_18 (by decide) rfl ?_
  refine W.aloadN (pc' := 20) X d_jdk_65_m133_19 rfl rfl rfl ?_
  have F8 := (P0.keep K3 nin0)
  refine W.alen (pc' := 21) (z := (vs).length.toInt32) X F8 rfl d_jdk_65_m133_20 rfl ?_
  refine W.iloadN (pc' := 22) X d_jdk_65_m133_21 rfl rfl ?_
  refine W.isub (pc' := 23) (w := (vs.length - f).toInt32) X d_jdk_65_m133_22 (sub32 (by omega) hL) rfl ?_
  refine W.iloadN (pc' := 24) X d_jdk_65_m133_23 rfl rfl ?_
  refine W.callS (pc' := 27) (W := 4) (argsL := [(.int (vs.length - f).toInt32), (.int (e - f).toInt32)]) (st := [(.int (0 : Int32)), (.ref a2), (.int f.toInt32), (.ref a)]) (k' := 1) (n' := 80) X (c_min (a := (vs.length - f)) (b := (e - f)) G X.en (by omega) (by omega)) (w103 G) (w104 G) (w105 G) (w95 G) (by decide) (by decide) (by decide) rfl (lenOf pd11 rfl) rfl rfl (Nat.le_of_eq rfl) d_jdk_65_m133_24 rfl (by decide) (by decide) (by decide) (by decide) (kp fun T X => ?_)
  refine W.acopy (pc' := 30) (W := 0) (i := f) (j := 0) (len := (e - f)) X F8 A7 (w106 G) (w109 G) (w107 G) (w108 G) rfl rfl rfl (by rw [Nat.min_eq_right (by omega)]) (by omega) (by simp) g5 nb6 rfl (by decide) (Nat.le_of_eq rfl) (by decide) d_jdk_65_m133_27 rfl fun T h9 X K10 A11 => ?_
  have A11 : Ar Z h9 a2 .byte ((vs.drop f).take (e - f)) := (by have q := A11; rw [List.take_zero, List.nil_append, Nat.zero_add, List.drop_replicate, Nat.sub_self, List.replicate_zero, List.append_nil] at q; exact q)
  refine W.aload (pc' := 32) X d_jdk_65_m133_30 rfl rfl rfl ?_
  exact W.areturn X d_jdk_65_m133_32 rfl rfl rfl rfl (by decide) (by decide) ⟨_, rfl, rfl, ⟨a2, rfl, (Keep.trans (Keep.trans (Keep.refl h []) K3 all0) K10 (allS (Or.inr (Nat.le_trans (Nat.le_refl _) g4)) all0)), (Nat.le_trans (Nat.le_refl _) g4), A11⟩⟩
abbrev c_cor_q (Z : State) (zC : Int32) (uT : Addr) (sT : Addr) (h : Heap) (B : Addr → Prop) (a : Addr) (vs : List Value) (f e : Nat) (xR : Value) (h' : Heap) : Prop := ∃ (t : Addr), xR = (.ref t) ∧ Keep h h' [] ∧ h.size ≤ t ∧ Ar Z h' t .byte ((vs.drop f).take (e - f))
def c_cor_rm : Room := { frames := 2, cells := 1, slots := 80, locals := 34 }
set_option maxRecDepth 65536 in
set_option maxHeartbeats 40000000 in
theorem c_cor {l : Launch} {Z : State} {a0 : Array Value} {zC : Int32} {uT : Addr} {sT : Addr} {h : Heap} {B : Addr → Prop} {a : Addr} {vs : List Value} {f e : Nat} (G : Gl Z a0 zC uT sT) (hE : En Z B h) (P0 : Ar Z h a .byte vs) (P1 : f ≤ e) (P2 : e ≤ vs.length) (P3 : e - f ≤ 80) (P4 : 0 < f ∨ e < vs.length) : Con l Z consts_1 [] (⟨"java/util/Arrays", "copyOfRange", "([BII)[B"⟩ : MethodName) jdk_65_method_132_code 3 (some (.array .byte)) c_cor_rm B h #[(.ref a), (.int f.toInt32), (.int e.toInt32)] (fun vR hR BR => ∃ xR, vR = some xR ∧ BR = B ∧ c_cor_q Z zC uT sT h B a vs f e xR hR) := by
  have hz0 := hE.1.1
  refine Con.intro (ls := #[.val (.ref a), .val (.int f.toInt32), .val (.int e.toInt32)]) (plainFor_of_name pn12) G.2.1 hE (fun m => by first | rfl | (simp [entryFrame, mkF, argsToLocals, Value.category]; done) | rfl) ?_
  intro pP eE sS mM blw mth cC T hs X
  have hL := P0.len_lt
  refine W.iloadN (pc' := 1) X d_jdk_65_m132_0 rfl rfl ?_
  by_cases h0 : f.toInt32 = (0 : Int32)
  · skip
    refine W.ifF (pc' := 4) X d_jdk_65_m132_1 (XT.i0_ne_f h0) rfl ?_
    refine W.iloadN (pc' := 5) X d_jdk_65_m132_4 rfl rfl ?_
    refine W.aloadN (pc' := 6) X d_jdk_65_m132_5 rfl rfl rfl ?_
    refine W.alen (pc' := 7) (z := (vs).length.toInt32) X P0 rfl d_jdk_65_m132_6 rfl ?_
    refine W.icF (pc' := 10) X d_jdk_65_m132_7 (XT.ii_eq_f (fun q => by have h1 := (eq32 (by omega) hL).mp q; have h2 := (eq32 (b := 0) (by omega) (by decide)).mp h0; omega)) rfl ?_
    refine W.aloadN (pc' := 11) X d_jdk_65_m132_10 rfl rfl rfl ?_
    refine W.iloadN (pc' := 12) X d_jdk_65_m132_11 rfl rfl ?_
    refine W.iloadN (pc' := 13) X d_jdk_65_m132_12 rfl rfl ?_
    have en1 := X.en
    refine W.callS (pc' := 16) (W := 0) (argsL := [(.ref a), (.int f.toInt32), (.int e.toInt32)]) (st := []) (k' := 1) (n' := 80) X (c_corb (a := a) (vs := vs) (f := f) (e := e) G X.en P0 P1 P2 P3) (w162 G) (w163 G) (w164 G) (w101 G) (by decide) (by decide) (by decide) rfl (lenOf pd26 rfl) rfl rfl (Nat.le_of_eq rfl) d_jdk_65_m132_13 rfl (by decide) (by decide) (by decide) (by decide) (kr fun T h2 xr X z3 q4 => ?_)
    obtain ⟨a5, rfl, K6, g7, F8⟩ := q4
    have g9 : Z.heap.size ≤ a5 := Nat.le_trans (Nat.le_trans hz0 (Nat.le_refl _)) g7
    have nb10 : ¬ B a5 := fun q => absurd (en1.2 _ q) (Nat.not_lt.mpr g7)
    exact W.areturn X d_jdk_65_m132_16 rfl rfl rfl rfl (by decide) (by decide) ⟨_, rfl, rfl, ⟨a5, rfl, (Keep.trans (Keep.refl h []) K6 all0), (Nat.le_trans (Nat.le_refl _) g7), F8⟩⟩
  · skip
    refine W.ifT (pc' := 10) X d_jdk_65_m132_1 (XT.i0_ne_t h0) (by decide) (by decide) ?_
    refine W.aloadN (pc' := 11) X d_jdk_65_m132_10 rfl rfl rfl ?_
    refine W.iloadN (pc' := 12) X d_jdk_65_m132_11 rfl rfl ?_
    refine W.iloadN (pc' := 13) X d_jdk_65_m132_12 rfl rfl ?_
    have en11 := X.en
    refine W.callS (pc' := 16) (W := 0) (argsL := [(.ref a), (.int f.toInt32), (.int e.toInt32)]) (st := []) (k' := 1) (n' := 80) X (c_corb (a := a) (vs := vs) (f := f) (e := e) G X.en P0 P1 P2 P3) (w162 G) (w163 G) (w164 G) (w101 G) (by decide) (by decide) (by decide) rfl (lenOf pd26 rfl) rfl rfl (Nat.le_of_eq rfl) d_jdk_65_m132_13 rfl (by decide) (by decide) (by decide) (by decide) (kr fun T h12 xr X z13 q14 => ?_)
    obtain ⟨a15, rfl, K16, g17, F18⟩ := q14
    have g19 : Z.heap.size ≤ a15 := Nat.le_trans (Nat.le_trans hz0 (Nat.le_refl _)) g17
    have nb20 : ¬ B a15 := fun q => absurd (en11.2 _ q) (Nat.not_lt.mpr g17)
    exact W.areturn X d_jdk_65_m132_16 rfl rfl rfl rfl (by decide) (by decide) ⟨_, rfl, rfl, ⟨a15, rfl, (Keep.trans (Keep.refl h []) K16 all0), (Nat.le_trans (Nat.le_refl _) g17), F18⟩⟩
abbrev c_strA_q (Z : State) (zC : Int32) (uT : Addr) (sT : Addr) (h : Heap) (B : Addr → Prop) (x a v : Addr) (cs : List Int32) (cap : Nat) (v0 c0 : Value) (h' : Heap) : Prop := ∃ (t : Addr), Keep h h' [x] ∧ h.size ≤ t ∧ Str Z h' x t cs
def c_strA_rm : Room := { frames := 3, cells := 1, slots := 80, locals := 49 }
set_option maxRecDepth 65536 in
set_option maxHeartbeats 40000000 in
theorem c_strA {l : Launch} {Z : State} {a0 : Array Value} {zC : Int32} {uT : Addr} {sT : Addr} {h : Heap} {B : Addr → Prop} {x a v : Addr} {cs : List Int32} {cap : Nat} {v0 c0 : Value} (G : Gl Z a0 zC uT sT) (hE : En Z B h) (P0 : Exa Z h x "java/lang/String") (P1 : Fld Z h x "java/lang/String" "value" "[B" v0) (P2 : Fld Z h x "java/lang/String" "coder" "B" c0) (P3 : Sb Z h a v cs cap) (P4 : cs.length < cap) (P5 : cs.length ≤ 80) (P6 : Z.heap.size ≤ x) (P7 : ¬ B x) : Con l Z consts_1 [] (⟨"java/lang/String", "<init>", "(Ljava/lang/AbstractStringBuilder;Ljava/lang/Void;)V"⟩ : MethodName) jdk_42_method_150_code 5 none c_strA_rm B h #[(.ref x), (.ref a), .null] (fun vR hR BR => vR = none ∧ BR = B ∧ c_strA_q Z zC uT sT h B x a v cs cap v0 c0 hR) := by
  have hz0 := hE.1.1
  refine Con.intro (ls := #[.val (.ref x), .val (.ref a), .val .null, .unset, .unset]) (plainFor_of_name pn4) G.2.1 hE (fun m => by first | rfl | (simp [entryFrame, mkF, argsToLocals, Value.category]; done) | rfl) ?_
  intro pP eE sS mM blw mth cC T hs X
  have hP := P3
  obtain ⟨hEx, hV, hCo, hN, hLat, hle, vs, hA, hvl, hvt⟩ := hP
  have hL := hA.len_lt
  refine W.aloadN (pc' := 1) X d_jdk_42_m150_0 rfl rfl rfl ?_
  refine W.initO (pc' := 4) (W := 0) X (w11 G) (w12 G) (w13 G) d_jdk_42_m150_1 rfl (by decide) (Nat.le_of_eq rfl) (by decide) rfl fun T X => ?_
  refine W.aloadN (pc' := 5) X d_jdk_42_m150_4 rfl rfl rfl ?_
  refine W.callV (pc' := 8) (W := 0) (argsL := []) (st := []) (k' := 0) (n' := 0) (a := a) X (c_getV (a := a) (v := v) (cs := cs) (cap := cap) G X.en P3) (w141 G) (w142 G) (nfM (z' := (⟨"java/lang/AbstractStringBuilder", "ensureCapacityInternal", "(I)V"⟩ : MethodName)) rfl (w82 G)) (w144 G) (w143 G) P3.exa (w145 G) (w46 G) (by decide) (by decide) (by decide) rfl (lenOf pd27 rfl) rfl rfl (Nat.le_of_eq rfl) d_jdk_42_m150_5 rfl (by decide) (by decide) (by decide) (by decide) (kp fun T X => ?_)
  refine W.astoreN (pc' := 9) (ls' := #[.val (.ref x), .val (.ref a), .val .null, .val (.ref v), .unset]) X d_jdk_42_m150_8 rfl rfl rfl ?_
  refine W.aloadN (pc' := 10) X d_jdk_42_m150_9 rfl rfl rfl ?_
  refine W.callV (pc' := 13) (W := 0) (argsL := []) (st := []) (k' := 0) (n' := 0) (a := a) X (c_sbLen (a := a) (v := v) (cs := cs) (cap := cap) G X.en P3) (w146 G) (w147 G) (nfM (z' := (⟨"java/lang/AbstractStringBuilder", "ensureCapacityInternal", "(I)V"⟩ : MethodName)) rfl (w82 G)) (w149 G) (w150 G) P3.exa (w151 G) (w38 G) (by decide) (by decide) (by decide) rfl (lenOf pd20 rfl) rfl rfl (Nat.le_of_eq rfl) d_jdk_42_m150_10 rfl (by decide) (by decide) (by decide) (by decide) (kp fun T X => ?_)
  refine W.istore (pc' := 15) (ls' := #[.val (.ref x), .val (.ref a), .val .null, .val (.ref v), .val (.int cs.length.toInt32)]) X d_jdk_42_m150_13 rfl rfl ?_
  refine W.aloadN (pc' := 16) X d_jdk_42_m150_15 rfl rfl rfl ?_
  refine W.callV (pc' := 19) (W := 0) (argsL := []) (st := []) (k' := 0) (n' := 0) (a := a) X (c_sbLat (a := a) (v := v) (cs := cs) (cap := cap) G X.en P3) (w154 G) (w155 G) (nfM (z' := (⟨"java/lang/AbstractStringBuilder", "ensureCapacityInternal", "(I)V"⟩ : MethodName)) rfl (w82 G)) (w157 G) (w156 G) P3.exa (w158 G) (w46 G) (by decide) (by decide) (by decide) rfl (lenOf pd28 rfl) rfl rfl (Nat.le_of_eq rfl) d_jdk_42_m150_16 rfl (by decide) (by decide) (by decide) (by decide) (kp fun T X => ?_)
  refine W.ifF (pc' := 22) X d_jdk_42_m150_19 (by decide) rfl ?_
  refine W.aloadN (pc' := 23) X d_jdk_42_m150_22 rfl rfl rfl ?_
  refine W.iconst (pc' := 24) X (0 : Int32) d_jdk_42_m150_23 (by decide) rfl ?_
  refine W.putF (pc' := 27) X (w26 G) Via.refl P2 P0 (Or.inr ⟨(w27 G), rfl, rfl⟩) (w1 G) (ty := .byte) (by decide) (by decide) (by decide) P6 P7 d_jdk_42_m150_24 rfl fun T h1 X W2 => ?_
  have F3 := P2.same W2
  refine W.aloadN (pc' := 28) X d_jdk_42_m150_27 rfl rfl rfl ?_
  refine W.aloadN (pc' := 29) X d_jdk_42_m150_28 rfl rfl rfl ?_
  refine W.iconst (pc' := 30) X (0 : Int32) d_jdk_42_m150_29 (by decide) rfl ?_
  refine W.iload (pc' := 32) X d_jdk_42_m150_30 rfl rfl ?_
  have F4 := (hA.keep (Keep.of_wr W2) (ninS (Ne.symm (exa_ne_ar P0 (w1 G) hA)) nin0))
  have en5 := X.en
  refine W.callS (pc' := 35) (W := 1) (argsL := [(.ref v), (.int (0 : Int32)), (.int cs.length.toInt32)]) (st := [(.ref x)]) (k' := 1) (n' := 80) X (c_cor (a := v) (vs := vs) (f := 0) (e := cs.length) G X.en F4 (by omega) (by omega) (by omega) (Or.inr (by omega))) (w159 G) (w160 G) (w161 G) (w101 G) (by decide) (by decide) (by decide) rfl (lenOf pd26 rfl) rfl rfl (Nat.le_of_eq rfl) d_jdk_42_m150_32 rfl (by decide) (by decide) (by decide) (by decide) (kr fun T h6 xr X z7 q8 => ?_)
  obtain ⟨a9, rfl, K10, g11, F12⟩ := q8
  have g13 : Z.heap.size ≤ a9 := Nat.le_trans (Nat.le_trans hz0 (Nat.le_of_eq (Wr.size W2).symm)) g11
  have nb14 : ¬ B a9 := fun q => absurd (en5.2 _ q) (Nat.not_lt.mpr g11)
  have F15 := ((P1.other W2 (Or.inr (slot_ne (Or.inr (w29 G)) (Or.inr (w27 G)) (by decide) (t := (.array .byte)) (t' := .byte) (by decide) (by decide)))).keep K10 nin0)
  have F16 := ((P0.wr W2).keep K10)
  refine W.putF (pc' := 38) X (w28 G) Via.refl F15 F16 (Or.inr ⟨(w29 G), rfl, rfl⟩) (w1 G) (ty := (.array .byte)) (by decide) rfl rfl P6 P7 d_jdk_42_m150_35 rfl fun T h17 X W18 => ?_
  have F19 := F15.same W18
  refine W.goto (pc' := 97) X d_jdk_42_m150_38 (by decide) (by decide) ?_
  have F20 := (F16.wr W18)
  have F21 := ((F3.keep K10 nin0).other W18 (Or.inr (slot_ne (Or.inr (w27 G)) (Or.inr (w29 G)) (by decide) (t := .byte) (t' := (.array .byte)) (by decide) (by decide))))
  have F22 := (F12.keep (Keep.of_wr W18) (ninS (Nat.ne_of_gt (Nat.lt_of_lt_of_le P0.lt (Nat.le_trans (Nat.le_of_eq (Wr.size W2).symm) g11))) nin0))
  exact W.vreturn X d_jdk_42_m150_97 rfl (by decide) (by decide) ⟨rfl, rfl, ⟨a9, (Keep.wr (Keep.trans (Keep.wr (Keep.refl h [x]) W2 (Or.inl (List.mem_of_getElem? (i := 0) rfl))) K10 all0) W18 (Or.inl (List.mem_of_getElem? (i := 0) rfl))), (Nat.le_trans (Nat.le_of_eq (Wr.size W2).symm) g11), ⟨F20, F21, F19, (by have q := F22; rw [List.drop_zero, Nat.sub_zero, hvt] at q; exact q), hLat⟩⟩⟩
abbrev c_strB_q (Z : State) (zC : Int32) (uT : Addr) (sT : Addr) (h : Heap) (B : Addr → Prop) (x a v : Addr) (cs : List Int32) (cap : Nat) (v0 c0 : Value) (h' : Heap) : Prop := ∃ (t : Addr), Keep h h' [x] ∧ h.size ≤ t ∧ Str Z h' x t cs
def c_strB_rm : Room := { frames := 4, cells := 1, slots := 80, locals := 65 }
set_option maxRecDepth 65536 in
set_option maxHeartbeats 40000000 in
theorem c_strB {l : Launch} {Z : State} {a0 : Array Value} {zC : Int32} {uT : Addr} {sT : Addr} {h : Heap} {B : Addr → Prop} {x a v : Addr} {cs : List Int32} {cap : Nat} {v0 c0 : Value} (G : Gl Z a0 zC uT sT) (hE : En Z B h) (P0 : Exa Z h x "java/lang/String") (P1 : Fld Z h x "java/lang/String" "value" "[B" v0) (P2 : Fld Z h x "java/lang/String" "coder" "B" c0) (P3 : Sb Z h a v cs cap) (P4 : cs.length < cap) (P5 : cs.length ≤ 80) (P6 : Z.heap.size ≤ x) (P7 : ¬ B x) : Con l Z consts_1 [] (⟨"java/lang/String", "<init>", "(Ljava/lang/StringBuilder;)V"⟩ : MethodName) jdk_42_method_53_code 2 none c_strB_rm B h #[(.ref x), (.ref a)] (fun vR hR BR => vR = none ∧ BR = B ∧ c_strB_q Z zC uT sT h B x a v cs cap v0 c0 hR) := by
  have hz0 := hE.1.1
  refine Con.intro (ls := #[.val (.ref x), .val (.ref a)]) (plainFor_of_name pn4) G.2.1 hE (fun m => by first | rfl | (simp [entryFrame, mkF, argsToLocals, Value.category]; done) | rfl) ?_
  intro pP eE sS mM blw mth cC T hs X
  refine W.aloadN (pc' := 1) X d_jdk_42_m53_0 rfl rfl rfl ?_
  refine W.aloadN (pc' := 2) X d_jdk_42_m53_1 rfl rfl rfl ?_
  refine W.aconst_null (pc' := 3) X d_jdk_42_m53_2 rfl ?_
  have en1 := X.en
  refine W.callN (pc' := 6) (W := 0) (argsL := [(.ref a), .null]) (st := []) (k' := 1) (n' := 80) (a := x) X (c_strA (x := x) (a := a) (v := v) (cs := cs) (cap := cap) (v0 := v0) (c0 := c0) G X.en P0 P1 P2 P3 P4 P5 P6 P7) rfl (w138 G) (w139 G) (w140 G) (w2 G) (by decide) (by decide) (by decide) rfl (lenOf pd29 rfl) rfl rfl (Nat.le_of_eq rfl) d_jdk_42_m53_3 rfl (by decide) (by decide) (by decide) (by decide) (kv fun T h2 X z3 q4 => ?_)
  obtain ⟨a5, K6, g7, F8⟩ := q4
  have g9 : Z.heap.size ≤ a5 := Nat.le_trans (Nat.le_trans hz0 (Nat.le_refl _)) g7
  have nb10 : ¬ B a5 := fun q => absurd (en1.2 _ q) (Nat.not_lt.mpr g7)
  exact W.vreturn X d_jdk_42_m53_6 rfl (by decide) (by decide) ⟨rfl, rfl, ⟨a5, (Keep.trans (Keep.refl h [x]) K6 (allS (Or.inl (List.mem_of_getElem? (i := 0) rfl)) all0)), (Nat.le_trans (Nat.le_refl _) g7), F8⟩⟩
abbrev c_toS_q (Z : State) (zC : Int32) (uT : Addr) (sT : Addr) (h : Heap) (B : Addr → Prop) (a v : Addr) (cs : List Int32) (cap : Nat) (xR : Value) (h' : Heap) : Prop := ∃ (x : Addr) (t : Addr), xR = (.ref x) ∧ Keep h h' [] ∧ h.size ≤ x ∧ h.size ≤ t ∧ Str Z h' x t cs
def c_toS_rm : Room := { frames := 5, cells := 2, slots := 84, locals := 79 }
set_option maxRecDepth 65536 in
set_option maxHeartbeats 40000000 in
theorem c_toS {l : Launch} {Z : State} {a0 : Array Value} {zC : Int32} {uT : Addr} {sT : Addr} {h : Heap} {B : Addr → Prop} {a v : Addr} {cs : List Int32} {cap : Nat} (G : Gl Z a0 zC uT sT) (hE : En Z B h) (P0 : Sb Z h a v cs cap) (P1 : cs.length < cap) (P2 : cs.length ≤ 80) : Con l Z consts_1 [] (⟨"java/lang/StringBuilder", "toString", "()Ljava/lang/String;"⟩ : MethodName) jdk_67_method_42_code 1 (some (.object "java/lang/String")) c_toS_rm B h #[(.ref a)] (fun vR hR BR => ∃ xR, vR = some xR ∧ BR = B ∧ c_toS_q Z zC uT sT h B a v cs cap xR hR) := by
  have hz0 := hE.1.1
  refine Con.intro (ls := #[.val (.ref a)]) (plainFor_of_name pn24) G.2.1 hE (fun m => by first | rfl | (simp [entryFrame, mkF, argsToLocals, Value.category]; done) | rfl) ?_
  intro pP eE sS mM blw mth cC T hs X
  refine W.new (pc' := 3) (k' := 1) (n' := 4) X (w134 G) (w1 G) (w2 G) d_jdk_67_m42_0 rfl (by decide) (by decide) (by decide) (by decide) fun T h1 a2 X K3 g4 g5 nb6 E7 D8  => ?_
  have F9 : Fld Z h1 a2 "java/lang/String" "coder" "B" (.int (0 : Int32)) := D8 (Or.inr (w27 G)) (ty := .byte) (by decide)
  have F10 : Fld Z h1 a2 "java/lang/String" "value" "[B" .null := D8 (Or.inr (w29 G)) (ty := (.array .byte)) (by decide)
  refine W.dup (pc' := 4) X d_jdk_67_m42_3 rfl rfl ?_
  refine W.aloadN (pc' := 5) X d_jdk_67_m42_4 rfl rfl rfl ?_
  have F11 := (P0.keep K3 nin0 nin0)
  have en12 := X.en
  refine W.callN (pc' := 8) (W := 1) (argsL := [(.ref a)]) (st := [(.ref a2)]) (k' := 2) (n' := 84) (a := a2) X (c_strB (x := a2) (a := a) (v := v) (cs := cs) (cap := cap) (v0 := .null) (c0 := (.int (0 : Int32))) G X.en E7 F10 F9 F11 P1 P2 g5 nb6) rfl (w135 G) (w136 G) (w137 G) (w2 G) (by decide) (by decide) (by decide) rfl (lenOf pd30 rfl) rfl rfl (Nat.le_of_eq rfl) d_jdk_67_m42_5 rfl (by decide) (by decide) (by decide) (by decide) (kv fun T h13 X z14 q15 => ?_)
  obtain ⟨a16, K17, g18, F19⟩ := q15
  have g20 : Z.heap.size ≤ a16 := Nat.le_trans (Nat.le_trans hz0 K3.1) g18
  have nb21 : ¬ B a16 := fun q => absurd (en12.2 _ q) (Nat.not_lt.mpr g18)
  exact W.areturn X d_jdk_67_m42_8 rfl rfl rfl rfl (by decide) (by decide) ⟨_, rfl, rfl, ⟨a2, a16, rfl, (Keep.trans (Keep.trans (Keep.refl h []) K3 all0) K17 (allS (Or.inr (Nat.le_trans (Nat.le_refl _) g4)) all0)), (Nat.le_trans (Nat.le_refl _) g4), (Nat.le_trans K3.1 g18), F19⟩⟩
def c_eqT_rm : Room := { frames := 1, cells := 0, slots := 0, locals := 14 }
set_option maxRecDepth 65536 in
set_option maxHeartbeats 40000000 in
theorem c_eqT {l : Launch} {Z : State} {a0 : Array Value} {zC : Int32} {uT : Addr} {sT : Addr} {h : Heap} {B : Addr → Prop} {a b a' b' : Addr} {cs : List Int32} (G : Gl Z a0 zC uT sT) (hE : En Z B h) (P0 : Str Z h a b cs) (P1 : Str Z h a' b' cs) (P2 : a ≠ a') : Con l Z consts_1 [] (⟨"java/lang/String", "equals", "(Ljava/lang/Object;)Z"⟩ : MethodName) jdk_42_method_66_code 3 (some .boolean) c_eqT_rm B h #[(.ref a), (.ref a')] (fun vR hR BR => vR = some (.int (1 : Int32)) ∧ hR = h ∧ BR = B) := by
  have hz0 := hE.1.1
  refine Con.intro (ls := #[.val (.ref a), .val (.ref a'), .unset]) (plainFor_of_name pn4) G.2.1 hE (fun m => by first | rfl | (simp [entryFrame, mkF, argsToLocals, Value.category]; done) | rfl) ?_
  intro pP eE sS mM blw mth cC T hs X
  refine W.aloadN (pc' := 1) X d_jdk_42_m66_0 rfl rfl rfl ?_
  refine W.aloadN (pc' := 2) X d_jdk_42_m66_1 rfl rfl rfl ?_
  refine W.acT (pc' := 7) X d_jdk_42_m66_2 rfl rfl (XT.aa_ne_t (fun q => P2 (Value.ref.inj q))) (by decide) (by decide) ?_
  refine W.aloadN (pc' := 8) X d_jdk_42_m66_7 rfl rfl rfl ?_
  refine W.instY (pc' := 11) X (w230 G) (Ins.self P1.exa) d_jdk_42_m66_8 rfl fun T X => ?_
  refine W.ifF (pc' := 14) X d_jdk_42_m66_11 (by decide) rfl ?_
  refine W.aloadN (pc' := 15) X d_jdk_42_m66_14 rfl rfl rfl ?_
  refine W.cast (pc' := 18) X (w230 G) (Ins.self P1.exa) d_jdk_42_m66_15 rfl fun T X => ?_
  refine W.astoreN (pc' := 19) (ls' := #[.val (.ref a), .val (.ref a'), .val (.ref a')]) X d_jdk_42_m66_18 rfl rfl rfl ?_
  refine W.getS (pc' := 22) (host := "") X (Or.inl (w14 G)) Via.refl G.2.2.1 d_jdk_42_m66_19 rfl fun T X => ?_
  refine W.ifF (pc' := 25) X d_jdk_42_m66_22 (XT.i0_eq_f G.2.2.2.1) rfl ?_
  refine W.aloadN (pc' := 26) X d_jdk_42_m66_25 rfl rfl rfl ?_
  refine W.getF (pc' := 29) X (w26 G) Via.refl P0.cod d_jdk_42_m66_26 rfl fun T X => ?_
  refine W.aloadN (pc' := 30) X d_jdk_42_m66_29 rfl rfl rfl ?_
  refine W.getF (pc' := 33) X (w26 G) Via.refl P1.cod d_jdk_42_m66_30 rfl fun T X => ?_
  refine W.icF (pc' := 36) X d_jdk_42_m66_33 (by decide) rfl ?_
  refine W.aloadN (pc' := 37) X d_jdk_42_m66_36 rfl rfl rfl ?_
  refine W.getF (pc' := 40) X (w28 G) Via.refl P0.val d_jdk_42_m66_37 rfl fun T X => ?_
  refine W.aloadN (pc' := 41) X d_jdk_42_m66_40 rfl rfl rfl ?_
  refine W.getF (pc' := 44) X (w28 G) Via.refl P1.val d_jdk_42_m66_41 rfl fun T X => ?_
  refine W.callS (pc' := 47) (W := 0) (argsL := [(.ref b), (.ref b')]) (st := []) (k' := 0) (n' := 0) X (c_l1eq (a := b) (b := b') (cs := cs) (ds := cs) G X.en P0.arr P1.arr P0.lat P1.lat) (w231 G) (w232 G) (w234 G) (w233 G) (by decide) (by decide) (by decide) rfl (lenOf pd8 rfl) rfl rfl (Nat.le_of_eq rfl) d_jdk_42_m66_44 rfl (by decide) (by decide) (by decide) (by decide) (kp fun T X => ?_)
  refine W.ifF (pc' := 50) X d_jdk_42_m66_47 (XT.i0_eq_f (fun q => by rw [if_pos rfl] at q; exact absurd q (by decide))) rfl ?_
  refine W.iconst (pc' := 51) X (1 : Int32) d_jdk_42_m66_50 (by decide) rfl ?_
  refine W.goto (pc' := 55) X d_jdk_42_m66_51 (by decide) (by decide) ?_
  exact W.ireturn X d_jdk_42_m66_55 rfl (by decide) (by decide) (by decide) (by decide) ⟨rfl, rfl, rfl⟩
abbrev c_thr_q (Z : State) (zC : Int32) (uT : Addr) (sT : Addr) (h : Heap) (B : Addr → Prop) (a x : Addr) (v0 v1 v2 : Value) (h' : Heap) : Prop := Keep h h' [a] ∧ Fld Z h' a "java/lang/Throwable" "detailMessage" "Ljava/lang/String;" (.ref x)
def c_thr_rm : Room := { frames := 3, cells := 1, slots := 2752, locals := 42 }
set_option maxRecDepth 65536 in
set_option maxHeartbeats 40000000 in
theorem c_thr {l : Launch} {Z : State} {a0 : Array Value} {zC : Int32} {uT : Addr} {sT : Addr} {h : Heap} {B : Addr → Prop} {a x : Addr} {v0 v1 v2 : Value} (G : Gl Z a0 zC uT sT) (hE : En Z B h) (P0 : Exa Z h a "com/example/dutiful_pruner/dutifulpruner/prune/PruningRequestException") (P1 : Fld Z h a "java/lang/Throwable" "cause" "Ljava/lang/Throwable;" v0) (P2 : Fld Z h a "java/lang/Throwable" "stackTrace" "[Ljava/lang/StackTraceElement;" v1) (P3 : Fld Z h a "java/lang/Throwable" "suppressedExceptions" "Ljava/util/List;" v2) (P4 : Fld Z h a "java/lang/Throwable" "backtrace" "Ljava/lang/Object;" .null) (P5 : Unt h a) (P6 : Z.heap.size ≤ a) (P7 : ¬ B a) : ConK l Z consts_1 [] (⟨"java/lang/Throwable", "<init>", "(Ljava/lang/String;)V"⟩ : MethodName) jdk_78_method_2_code 2 none c_thr_rm B h #[(.ref a), (.ref x)] (fun vR hR BR => vR = none ∧ BR = B ∧ c_thr_q Z zC uT sT h B a x v0 v1 v2 hR) := by
  have hz0 := hE.1.1
  refine ConK.intro (ls := #[.val (.ref a), .val (.ref x)]) (plainFor_of_name pn31) G.2.1 hE (fun m => by first | rfl | (simp [entryFrame, mkF, argsToLocals, Value.category]; done) | rfl) ?_
  intro pP eE sS mM blw mth cC T hs hkn X
  refine W.aloadN (pc' := 1) X d_jdk_78_m2_0 rfl rfl rfl ?_
  refine W.initO (pc' := 4) (W := 0) X (w182 G) (w12 G) (w13 G) d_jdk_78_m2_1 rfl (by decide) (Nat.le_of_eq rfl) (by decide) rfl fun T X => ?_
  refine W.aloadN (pc' := 5) X d_jdk_78_m2_4 rfl rfl rfl ?_
  refine W.aloadN (pc' := 6) X d_jdk_78_m2_5 rfl rfl rfl ?_
  refine W.putF (pc' := 9) X (w183 G) Via.refl P1 P0 (Or.inl (w184 G)) (w35 G) (ty := (.object "java/lang/Throwable")) (by decide) rfl rfl P6 P7 d_jdk_78_m2_6 rfl fun T h1 X W2 => ?_
  have F3 := P1.same W2
  refine W.aloadN (pc' := 10) X d_jdk_78_m2_9 rfl rfl rfl ?_
  refine W.getS (pc' := 13) (host := "") X (Or.inl (w185 G)) Via.refl G.2.2.2.2.1 d_jdk_78_m2_10 rfl fun T X => ?_
  have F4 := (P2.other W2 (Or.inr (slot_ne (Or.inl (w187 G)) (Or.inl (w184 G)) (by decide) (t := (.array (.object "java/lang/StackTraceElement"))) (t' := (.object "java/lang/Throwable")) (by decide) (by decide))))
  have F5 := (P0.wr W2)
  refine W.putF (pc' := 16) X (w186 G) Via.refl F4 F5 (Or.inl (w187 G)) (w35 G) (ty := (.array (.object "java/lang/StackTraceElement"))) (by decide) rfl rfl P6 P7 d_jdk_78_m2_13 rfl fun T h6 X W7 => ?_
  have F8 := F4.same W7
  refine W.aloadN (pc' := 17) X d_jdk_78_m2_16 rfl rfl rfl ?_
  refine W.getS (pc' := 20) (host := "") X (Or.inl (w188 G)) Via.refl G.2.2.2.2.2.1 d_jdk_78_m2_17 rfl fun T X => ?_
  have F9 := ((P3.other W2 (Or.inr (slot_ne (Or.inl (w190 G)) (Or.inl (w184 G)) (by decide) (t := (.object "java/util/List")) (t' := (.object "java/lang/Throwable")) (by decide) (by decide)))).other W7 (Or.inr (slot_ne (Or.inl (w190 G)) (Or.inl (w187 G)) (by decide) (t := (.object "java/util/List")) (t' := (.array (.object "java/lang/StackTraceElement"))) (by decide) (by decide))))
  have F10 := (F5.wr W7)
  refine W.putF (pc' := 23) X (w189 G) Via.refl F9 F10 (Or.inl (w190 G)) (w35 G) (ty := (.object "java/util/List")) (by decide) rfl rfl P6 P7 d_jdk_78_m2_20 rfl fun T h11 X W12 => ?_
  have F13 := F9.same W12
  refine W.aloadN (pc' := 24) X d_jdk_78_m2_23 rfl rfl rfl ?_
  have F14 := (F10.wr W12)
  have F15 := (Unt.wr W12 (Unt.wr W7 (Unt.wr W2 P5)))
  have F16 := (F8.other W12 (Or.inr (slot_ne (Or.inl (w187 G)) (Or.inl (w190 G)) (by decide) (t := (.array (.object "java/lang/StackTraceElement"))) (t' := (.object "java/util/List")) (by decide) (by decide))))
  have F17 := (((P4.other W2 (Or.inr (slot_ne (Or.inl (w215 G)) (Or.inl (w184 G)) (by decide) (t := (.object "java/lang/Object")) (t' := (.object "java/lang/Throwable")) (by decide) (by decide)))).other W7 (Or.inr (slot_ne (Or.inl (w215 G)) (Or.inl (w187 G)) (by decide) (t := (.object "java/lang/Object")) (t' := (.array (.object "java/lang/StackTraceElement"))) (by decide) (by decide)))).other W12 (Or.inr (slot_ne (Or.inl (w215 G)) (Or.inl (w190 G)) (by decide) (t := (.object "java/lang/Object")) (t' := (.object "java/util/List")) (by decide) (by decide))))
  refine W.fill (pc' := 27) (W := 0) (rc := "com/example/dutiful_pruner/dutifulpruner/prune/PruningRequestException") (k' := 1) (n' := 2752) X rfl hkn (hs ▸ hE.1) (fillW G) (w35 G) F14 F15 F16 F17 G.2.2.2.2.1 P6 P7 rfl (by decide) (Nat.le_of_eq rfl) (by decide) d_jdk_78_m2_24 rfl (by decide) (by decide) (by decide) (by decide) fun T h18 v21 X K19 F20 => ?_
  refine W.popV (pc' := 28) X d_jdk_78_m2_27 rfl rfl ?_
  refine W.aloadN (pc' := 29) X d_jdk_78_m2_28 rfl rfl rfl ?_
  refine W.aloadN (pc' := 30) X d_jdk_78_m2_29 rfl rfl rfl ?_
  have F22 := (F14.keep K19)
  refine W.putF (pc' := 33) X (w218 G) Via.refl F20 F22 (Or.inl (w214 G)) (w35 G) (ty := (.object "java/lang/String")) (by decide) rfl rfl P6 P7 d_jdk_78_m2_30 rfl fun T h23 X W24 => ?_
  have F25 := F20.same W24
  exact W.vreturn X d_jdk_78_m2_33 rfl (by decide) (by decide) ⟨rfl, rfl, ⟨(Keep.wr (Keep.trans (Keep.wr (Keep.wr (Keep.wr (Keep.refl h [a]) W2 (Or.inl (List.mem_of_getElem? (i := 0) rfl))) W7 (Or.inl (List.mem_of_getElem? (i := 0) rfl))) W12 (Or.inl (List.mem_of_getElem? (i := 0) rfl))) K19 (allS (Or.inl (List.mem_of_getElem? (i := 0) rfl)) all0)) W24 (Or.inl (List.mem_of_getElem? (i := 0) rfl))), F25⟩⟩
abbrev c_exc_q (Z : State) (zC : Int32) (uT : Addr) (sT : Addr) (h : Heap) (B : Addr → Prop) (a x : Addr) (v0 v1 v2 : Value) (h' : Heap) : Prop := Keep h h' [a] ∧ Fld Z h' a "java/lang/Throwable" "detailMessage" "Ljava/lang/String;" (.ref x)
def c_exc_rm : Room := { frames := 4, cells := 1, slots := 2752, locals := 55 }
set_option maxRecDepth 65536 in
set_option maxHeartbeats 40000000 in
theorem c_exc {l : Launch} {Z : State} {a0 : Array Value} {zC : Int32} {uT : Addr} {sT : Addr} {h : Heap} {B : Addr → Prop} {a x : Addr} {v0 v1 v2 : Value} (G : Gl Z a0 zC uT sT) (hE : En Z B h) (P0 : Exa Z h a "com/example/dutiful_pruner/dutifulpruner/prune/PruningRequestException") (P1 : Fld Z h a "java/lang/Throwable" "cause" "Ljava/lang/Throwable;" v0) (P2 : Fld Z h a "java/lang/Throwable" "stackTrace" "[Ljava/lang/StackTraceElement;" v1) (P3 : Fld Z h a "java/lang/Throwable" "suppressedExceptions" "Ljava/util/List;" v2) (P4 : Fld Z h a "java/lang/Throwable" "backtrace" "Ljava/lang/Object;" .null) (P5 : Unt h a) (P6 : Z.heap.size ≤ a) (P7 : ¬ B a) : ConK l Z consts_1 [] (⟨"java/lang/Exception", "<init>", "(Ljava/lang/String;)V"⟩ : MethodName) jdk_59_method_2_code 2 none c_exc_rm B h #[(.ref a), (.ref x)] (fun vR hR BR => vR = none ∧ BR = B ∧ c_exc_q Z zC uT sT h B a x v0 v1 v2 hR) := by
  have hz0 := hE.1.1
  refine ConK.intro (ls := #[.val (.ref a), .val (.ref x)]) (plainFor_of_name pn32) G.2.1 hE (fun m => by first | rfl | (simp [entryFrame, mkF, argsToLocals, Value.category]; done) | rfl) ?_
  intro pP eE sS mM blw mth cC T hs hkn X
  refine W.aloadN (pc' := 1) X d_jdk_59_m2_0 rfl rfl rfl ?_
  refine W.aloadN (pc' := 2) X d_jdk_59_m2_1 rfl rfl rfl ?_
  refine W.callNK (pc' := 5) (W := 0) (argsL := [(.ref x)]) (st := []) (k' := 1) (n' := 2752) (a := a) X hkn (c_thr (a := a) (x := x) (v0 := v0) (v1 := v1) (v2 := v2) G X.en P0 P1 P2 P3 P4 P5 P6 P7) rfl (w176 G) (w177 G) (w181 G) (w180 G) (by decide) (by decide) (by decide) rfl (lenOf pd18 rfl) rfl rfl (Nat.le_of_eq rfl) d_jdk_59_m2_2 rfl (by decide) (by decide) (by decide) (by decide) (kv fun T h1 X z2 q3 => ?_)
  obtain ⟨K4, F5⟩ := q3
  exact W.vreturn X d_jdk_59_m2_5 rfl (by decide) (by decide) ⟨rfl, rfl, ⟨(Keep.trans (Keep.refl h [a]) K4 (allS (Or.inl (List.mem_of_getElem? (i := 0) rfl)) all0)), F5⟩⟩
abbrev c_pre_q (Z : State) (zC : Int32) (uT : Addr) (sT : Addr) (h : Heap) (B : Addr → Prop) (a x : Addr) (v0 v1 v2 : Value) (h' : Heap) : Prop := Keep h h' [a] ∧ Fld Z h' a "java/lang/Throwable" "detailMessage" "Ljava/lang/String;" (.ref x)
def c_pre_rm : Room := { frames := 5, cells := 1, slots := 2752, locals := 68 }
set_option maxRecDepth 65536 in
set_option maxHeartbeats 40000000 in
theorem c_pre {l : Launch} {Z : State} {a0 : Array Value} {zC : Int32} {uT : Addr} {sT : Addr} {h : Heap} {B : Addr → Prop} {a x : Addr} {v0 v1 v2 : Value} (G : Gl Z a0 zC uT sT) (hE : En Z B h) (P0 : Exa Z h a "com/example/dutiful_pruner/dutifulpruner/prune/PruningRequestException") (P1 : Fld Z h a "java/lang/Throwable" "cause" "Ljava/lang/Throwable;" v0) (P2 : Fld Z h a "java/lang/Throwable" "stackTrace" "[Ljava/lang/StackTraceElement;" v1) (P3 : Fld Z h a "java/lang/Throwable" "suppressedExceptions" "Ljava/util/List;" v2) (P4 : Fld Z h a "java/lang/Throwable" "backtrace" "Ljava/lang/Object;" .null) (P5 : Unt h a) (P6 : Z.heap.size ≤ a) (P7 : ¬ B a) : ConK l Z consts_1 [] (⟨"com/example/dutiful_pruner/dutifulpruner/prune/PruningRequestException", "<init>", "(Ljava/lang/String;)V"⟩ : MethodName) prog_13_method_1_code 2 none c_pre_rm B h #[(.ref a), (.ref x)] (fun vR hR BR => vR = none ∧ BR = B ∧ c_pre_q Z zC uT sT h B a x v0 v1 v2 hR) := by
  have hz0 := hE.1.1
  refine ConK.intro (ls := #[.val (.ref a), .val (.ref x)]) (plainFor_of_name pn33) G.2.1 hE (fun m => by first | rfl | (simp [entryFrame, mkF, argsToLocals, Value.category]; done) | rfl) ?_
  intro pP eE sS mM blw mth cC T hs hkn X
  refine W.aloadN (pc' := 1) X d_prog_13_m1_0 rfl rfl rfl ?_
  refine W.aloadN (pc' := 2) X d_prog_13_m1_1 rfl rfl rfl ?_
  refine W.callNK (pc' := 5) (W := 0) (argsL := [(.ref x)]) (st := []) (k' := 1) (n' := 2752) (a := a) X hkn (c_exc (a := a) (x := x) (v0 := v0) (v1 := v1) (v2 := v2) G X.en P0 P1 P2 P3 P4 P5 P6 P7) rfl (w171 G) (w172 G) (w175 G) (w174 G) (by decide) (by decide) (by decide) rfl (lenOf pd18 rfl) rfl rfl (Nat.le_of_eq rfl) d_prog_13_m1_2 rfl (by decide) (by decide) (by decide) (by decide) (kv fun T h1 X z2 q3 => ?_)
  obtain ⟨K4, F5⟩ := q3
  exact W.vreturn X d_prog_13_m1_5 rfl (by decide) (by decide) ⟨rfl, rfl, ⟨(Keep.trans (Keep.refl h [a]) K4 (allS (Or.inl (List.mem_of_getElem? (i := 0) rfl)) all0)), F5⟩⟩
abbrev c_log_q (Z : State) (zC : Int32) (uT : Addr) (sT : Addr) (h : Heap) (B : Addr → Prop) (u ub o ob : Addr) (us os : List Int32) (xR : Value) (h' : Heap) (B' : Addr → Prop) : Prop := ∃ (t : Addr) (x : Addr) (xb : Addr), xR = (.ref t) ∧ Keep h h' [] ∧ h.size ≤ t ∧ h.size ≤ x ∧ h.size ≤ xb ∧ Exa Z h' t "com/example/dutiful_pruner/dutifulpruner/prune/PruningRequestException" ∧ Fld Z h' t "java/lang/Throwable" "detailMessage" "Ljava/lang/String;" (.ref x) ∧ Str Z h' x xb ((((([] ++ [(116 : Int32), (104 : Int32), (101 : Int32), (32 : Int32), (116 : Int32), (114 : Int32), (97 : Int32), (105 : Int32), (110 : Int32), (105 : Int32), (110 : Int32), (103 : Int32), (32 : Int32), (108 : Int32), (111 : Int32), (103 : Int32), (32 : Int32), (110 : Int32), (97 : Int32), (109 : Int32), (101 : Int32), (115 : Int32), (32 : Int32)]) ++ us) ++ [(44 : Int32), (32 : Int32)]) ++ os) ++ [(59 : Int32), (32 : Int32), (119 : Int32), (97 : Int32), (115 : Int32), (32 : Int32), (105 : Int32), (116 : Int32), (32 : Int32), (109 : Int32), (97 : Int32), (100 : Int32), (101 : Int32), (32 : Int32), (111 : Int32), (110 : Int32), (32 : Int32), (97 : Int32), (110 : Int32), (111 : Int32), (116 : Int32), (104 : Int32), (101 : Int32), (114 : Int32), (32 : Int32), (105 : Int32), (110 : Int32), (100 : Int32), (101 : Int32), (120 : Int32), (63 : Int32)])
def c_log_rm : Room := { frames := 6, cells := 17, slots := 3498, locals := 93 }
set_option maxRecDepth 65536 in
set_option maxHeartbeats 40000000 in
theorem c_log {l : Launch} {Z : State} {a0 : Array Value} {zC : Int32} {uT : Addr} {sT : Addr} {h : Heap} {B : Addr → Prop} {u ub o ob : Addr} {us os : List Int32} (G : Gl Z a0 zC uT sT) (hE : En Z B h) (P0 : Str Z h u ub us) (P1 : Str Z h o ob os) (P2 : us.length = 2) (P3 : os.length = 2) : ConK l Z consts_1 [] (⟨"com/example/dutiful_pruner/dutifulpruner/prune/PruningRequestException", "logOfAnotherIndex", "(Ljava/lang/String;Ljava/lang/String;)Lcom/example/dutiful_pruner/dutifulpruner/prune/PruningRequestException;"⟩ : MethodName) prog_13_method_2_code 2 (some (.object "com/example/dutiful_pruner/dutifulpruner/prune/PruningRequestException")) c_log_rm B h #[(.ref u), (.ref o)] (fun vR hR BR => ∃ xR, vR = some xR ∧ c_log_q Z zC uT sT h B u ub o ob us os xR hR BR) := by
  have hz0 := hE.1.1
  refine ConK.intro (ls := #[.val (.ref u), .val (.ref o)]) (plainFor_of_name pn33) G.2.1 hE (fun m => by first | rfl | (simp [entryFrame, mkF, argsToLocals, Value.category]; done) | rfl) ?_
  intro pP eE sS mM blw mth cC T hs hkn X
  refine W.newU (pc' := 3) (k' := 1) (n' := 6) X (w34 G) (w35 G) (w32 G) d_prog_13_m2_0 rfl (by decide) (by decide) (by decide) (by decide) fun T h1 a2 X K3 g4 g5 nb6 E7 D8 U9 => ?_
  have F10 : Fld Z h1 a2 "java/lang/Throwable" "cause" "Ljava/lang/Throwable;" .null := D8 (Or.inl (w184 G)) (ty := (.object "java/lang/Throwable")) (by decide)
  have F11 : Fld Z h1 a2 "java/lang/Throwable" "stackTrace" "[Ljava/lang/StackTraceElement;" .null := D8 (Or.inl (w187 G)) (ty := (.array (.object "java/lang/StackTraceElement"))) (by decide)
  have F12 : Fld Z h1 a2 "java/lang/Throwable" "suppressedExceptions" "Ljava/util/List;" .null := D8 (Or.inl (w190 G)) (ty := (.object "java/util/List")) (by decide)
  have F13 : Fld Z h1 a2 "java/lang/Throwable" "detailMessage" "Ljava/lang/String;" .null := D8 (Or.inl (w214 G)) (ty := (.object "java/lang/String")) (by decide)
  have F14 : Fld Z h1 a2 "java/lang/Throwable" "backtrace" "Ljava/lang/Object;" .null := D8 (Or.inl (w215 G)) (ty := (.object "java/lang/Object")) (by decide)
  have F15 : Fld Z h1 a2 "java/lang/Throwable" "depth" "I" (.int (0 : Int32)) := D8 (Or.inl (w216 G)) (ty := .int) (by decide)
  refine W.dup (pc' := 4) X d_prog_13_m2_3 rfl rfl ?_
  refine W.new (pc' := 7) (k' := 2) (n' := 10) X (w36 G) (w37 G) (w38 G) d_prog_13_m2_4 rfl (by decide) (by decide) (by decide) (by decide) fun T h16 a17 X K18 g19 g20 nb21 E22 D23  => ?_
  have F24 : Fld Z h16 a17 "java/lang/AbstractStringBuilder" "value" "[B" .null := D23 (Or.inl (w51 G)) (ty := (.array .byte)) (by decide)
  have F25 : Fld Z h16 a17 "java/lang/AbstractStringBuilder" "coder" "B" (.int (0 : Int32)) := D23 (Or.inl (w53 G)) (ty := .byte) (by decide)
  have F26 : Fld Z h16 a17 "java/lang/AbstractStringBuilder" "count" "I" (.int (0 : Int32)) := D23 (Or.inl (w78 G)) (ty := .int) (by decide)
  refine W.dup (pc' := 8) X d_prog_13_m2_7 rfl rfl ?_
  have en27 := X.en
  refine W.callN (pc' := 11) (W := 3) (argsL := []) (st := [(.ref a17), (.ref a2), (.ref a2)]) (k' := 3) (n' := 26) (a := a17) X (c_sbNew (a := a17) (v0 := .null) (v1 := (.int (0 : Int32))) G X.en E22 F24 F25 F26 g20 nb21) rfl (w39 G) (w40 G) (w41 G) (w38 G) (by decide) (by decide) (by decide) rfl (lenOf pd34 rfl) rfl rfl (Nat.le_of_eq rfl) d_prog_13_m2_8 rfl (by decide) (by decide) (by decide) (by decide) (kv fun T h28 X z29 q30 => ?_)
  obtain ⟨a31, K32, g33, F34⟩ := q30
  have g35 : Z.heap.size ≤ a31 := Nat.le_trans (Nat.le_trans hz0 (Nat.le_trans K3.1 K18.1)) g33
  have nb36 : ¬ B a31 := fun q => absurd (en27.2 _ q) (Nat.not_lt.mpr g33)
  refine W.ldcR (pc' := 13) (k' := 5) (n' := 122) (cap := 92) (cs := [(116 : Int32), (104 : Int32), (101 : Int32), (32 : Int32), (116 : Int32), (114 : Int32), (97 : Int32), (105 : Int32), (110 : Int32), (105 : Int32), (110 : Int32), (103 : Int32), (32 : Int32), (108 : Int32), (111 : Int32), (103 : Int32), (32 : Int32), (110 : Int32), (97 : Int32), (109 : Int32), (101 : Int32), (115 : Int32), (32 : Int32)]) X (by decide) (w54 G) (watoms G) G.2.1 ⟨by decide, by decide⟩ (by unfold Lat; decide) (by decide) d_prog_13_m2_11 (by decide) (by decide) rfl (by decide) (by decide) (by decide) (by decide) fun T h37 B41 a38 a42 X K39 zb40 S43 ne44 => ?_
  have nb45 : ¬ B41 a2 := fun q => (zb40 _ q).elim nb6 (fun r => absurd (Nat.lt_of_lt_of_le E7.lt (Nat.le_trans K18.1 K32.1)) (Nat.not_lt.mpr r))
  have ne46 := ne44 _ nb45
  have nb47 : ¬ B41 a17 := fun q => (zb40 _ q).elim nb21 (fun r => absurd (Nat.lt_of_lt_of_le E22.lt K32.1) (Nat.not_lt.mpr r))
  have ne48 := ne44 _ nb47
  have nb49 : ¬ B41 a31 := fun q => (zb40 _ q).elim nb36 (fun r => absurd (Nat.lt_of_lt_of_le F34.ltb (Nat.le_refl _)) (Nat.not_lt.mpr r))
  have ne50 := ne44 _ nb49
  have F51 := ((E22.keep K32).keep K39)
  have F52 := (F34.keep K39 nin0 nin0)
  refine W.callV (pc' := 16) (W := 2) (argsL := [(.ref a38)]) (st := [(.ref a2), (.ref a2)]) (k' := 6) (n' := 202) (a := a17) X (c_app (a := a17) (v := a31) (s := a38) (t := a42) (cs := ([] : List Int32)) (ds := [(116 : Int32), (104 : Int32), (101 : Int32), (32 : Int32), (116 : Int32), (114 : Int32), (97 : Int32), (105 : Int32), (110 : Int32), (105 : Int32), (110 : Int32), (103 : Int32), (32 : Int32), (108 : Int32), (111 : Int32), (103 : Int32), (32 : Int32), (110 : Int32), (97 : Int32), (109 : Int32), (101 : Int32), (115 : Int32), (32 : Int32)]) (cap := 16) G X.en F52 S43 (by unfold grow; simp only [List.length_append, List.length_cons, List.length_nil]; split <;> omega) g20 nb47 g35 nb49) (w57 G) (w58 G) (nfM (z' := (⟨"java/lang/StringBuilder", "append", "(Ljava/lang/String;)Ljava/lang/StringBuilder;"⟩ : MethodName)) rfl (w60 G)) (w60 G) (w59 G) F51 (w61 G) (w38 G) (by decide) (by decide) (by decide) rfl (lenOf pd35 rfl) rfl rfl (Nat.le_of_eq rfl) d_prog_13_m2_13 rfl (by decide) (by decide) (by decide) (by decide) (kr fun T h53 xr X z54 q55 => ?_)
  obtain ⟨a56, rfl, K57, F58, F59, F60, F61, F62⟩ := q55
  have F63 : Sb Z h53 a17 a56 (([] : List Int32) ++ [(116 : Int32), (104 : Int32), (101 : Int32), (32 : Int32), (116 : Int32), (114 : Int32), (97 : Int32), (105 : Int32), (110 : Int32), (105 : Int32), (110 : Int32), (103 : Int32), (32 : Int32), (108 : Int32), (111 : Int32), (103 : Int32), (32 : Int32), (110 : Int32), (97 : Int32), (109 : Int32), (101 : Int32), (115 : Int32), (32 : Int32)]) 34 := sbc F58 rfl (by unfold grow; simp only [List.length_append, List.length_cons, List.length_nil]; split <;> omega)
  refine W.aloadN (pc' := 17) X d_prog_13_m2_16 rfl rfl rfl ?_
  have F64 := (F51.keep K57)
  have F65 := (((((P0.keep K3 nin0 nin0).keep K18 nin0 nin0).keep K32 (ninS (Nat.ne_of_lt (Nat.lt_of_lt_of_le P0.lt (Nat.le_trans K3.1 g19))) nin0) (ninS (Nat.ne_of_lt (Nat.lt_of_lt_of_le P0.ltb (Nat.le_trans K3.1 g19))) nin0)).keep K39 nin0 nin0).keep K57 (ninS (Nat.ne_of_lt (Nat.lt_of_lt_of_le P0.lt (Nat.le_trans K3.1 g19))) (ninS (Nat.ne_of_lt (Nat.lt_of_lt_of_le P0.lt (Nat.le_trans (Nat.le_trans K3.1 K18.1) g33))) nin0)) (ninS (Nat.ne_of_lt (Nat.lt_of_lt_of_le P0.ltb (Nat.le_trans K3.1 g19))) (ninS (Nat.ne_of_lt (Nat.lt_of_lt_of_le P0.ltb (Nat.le_trans (Nat.le_trans K3.1 K18.1) g33))) nin0)))
  refine W.callV (pc' := 20) (W := 2) (argsL := [(.ref u)]) (st := [(.ref a2), (.ref a2)]) (k' := 7) (n' := 282) (a := a17) X (c_app (a := a17) (v := a56) (s := u) (t := ub) (cs := (([] : List Int32) ++ [(116 : Int32), (104 : Int32), (101 : Int32), (32 : Int32), (116 : Int32), (114 : Int32), (97 : Int32), (105 : Int32), (110 : Int32), (105 : Int32), (110 : Int32), (103 : Int32), (32 : Int32), (108 : Int32), (111 : Int32), (103 : Int32), (32 : Int32), (110 : Int32), (97 : Int32), (109 : Int32), (101 : Int32), (115 : Int32), (32 : Int32)])) (ds := us) (cap := 34) G X.en F63 F65 (by unfold grow; simp only [List.length_append, List.length_cons, List.length_nil]; split <;> omega) g20 nb47 F59 F60) (w57 G) (w58 G) (nfM (z' := (⟨"java/lang/StringBuilder", "append", "(Ljava/lang/String;)Ljava/lang/StringBuilder;"⟩ : MethodName)) rfl (w60 G)) (w60 G) (w59 G) F64 (w61 G) (w38 G) (by decide) (by decide) (by decide) rfl (lenOf pd35 rfl) rfl rfl (Nat.le_of_eq rfl) d_prog_13_m2_17 rfl (by decide) (by decide) (by decide) (by decide) (kr fun T h66 xr X z67 q68 => ?_)
  obtain ⟨a69, rfl, K70, F71, F72, F73, F74, F75⟩ := q68
  have F76 : Sb Z h66 a17 a69 ((([] : List Int32) ++ [(116 : Int32), (104 : Int32), (101 : Int32), (32 : Int32), (116 : Int32), (114 : Int32), (97 : Int32), (105 : Int32), (110 : Int32), (105 : Int32), (110 : Int32), (103 : Int32), (32 : Int32), (108 : Int32), (111 : Int32), (103 : Int32), (32 : Int32), (110 : Int32), (97 : Int32), (109 : Int32), (101 : Int32), (115 : Int32), (32 : Int32)]) ++ us) 34 := sbc F71 rfl (by unfold grow; simp only [List.length_append, List.length_cons, List.length_nil]; split <;> omega)
  refine W.ldcR (pc' := 22) (k' := 9) (n' := 294) (cap := 8) (cs := [(44 : Int32), (32 : Int32)]) X (by decide) (w127 G) (watoms G) G.2.1 ⟨by decide, by decide⟩ (by unfold Lat; decide) (by decide) d_prog_13_m2_20 (by decide) (by decide) rfl (by decide) (by decide) (by decide) (by decide) fun T h77 B81 a78 a82 X K79 zb80 S83 ne84 => ?_
  have nb85 : ¬ B81 a2 := fun q => (zb80 _ q).elim nb45 (fun r => absurd (Nat.lt_of_lt_of_le E7.lt (Nat.le_trans (Nat.le_trans (Nat.le_trans (Nat.le_trans K18.1 K32.1) K39.1) K57.1) K70.1)) (Nat.not_lt.mpr r))
  have ne86 := ne84 _ nb85
  have nb87 : ¬ B81 a17 := fun q => (zb80 _ q).elim nb47 (fun r => absurd (Nat.lt_of_lt_of_le E22.lt (Nat.le_trans (Nat.le_trans (Nat.le_trans K32.1 K39.1) K57.1) K70.1)) (Nat.not_lt.mpr r))
  have ne88 := ne84 _ nb87
  have nb89 : ¬ B81 a31 := fun q => (zb80 _ q).elim nb49 (fun r => absurd (Nat.lt_of_lt_of_le F34.ltb (Nat.le_trans (Nat.le_trans K39.1 K57.1) K70.1)) (Nat.not_lt.mpr r))
  have ne90 := ne84 _ nb89
  have nb91 : ¬ B81 a56 := fun q => (zb80 _ q).elim F60 (fun r => absurd (Nat.lt_of_lt_of_le F58.ltb K70.1) (Nat.not_lt.mpr r))
  have ne92 := ne84 _ nb91
  have nb93 : ¬ B81 a69 := fun q => (zb80 _ q).elim F73 (fun r => absurd (Nat.lt_of_lt_of_le F71.ltb (Nat.le_refl _)) (Nat.not_lt.mpr r))
  have ne94 := ne84 _ nb93
  have F95 := ((F64.keep K70).keep K79)
  have F96 := (F76.keep K79 nin0 nin0)
  refine W.callV (pc' := 25) (W := 2) (argsL := [(.ref a78)]) (st := [(.ref a2), (.ref a2)]) (k' := 10) (n' := 374) (a := a17) X (c_app (a := a17) (v := a69) (s := a78) (t := a82) (cs := ((([] : List Int32) ++ [(116 : Int32), (104 : Int32), (101 : Int32), (32 : Int32), (116 : Int32), (114 : Int32), (97 : Int32), (105 : Int32), (110 : Int32), (105 : Int32), (110 : Int32), (103 : Int32), (32 : Int32), (108 : Int32), (111 : Int32), (103 : Int32), (32 : Int32), (110 : Int32), (97 : Int32), (109 : Int32), (101 : Int32), (115 : Int32), (32 : Int32)]) ++ us)) (ds := [(44 : Int32), (32 : Int32)]) (cap := 34) G X.en F96 S83 (by unfold grow; simp only [List.length_append, List.length_cons, List.length_nil]; split <;> omega) g20 nb87 F72 nb93) (w57 G) (w58 G) (nfM (z' := (⟨"java/lang/StringBuilder", "append", "(Ljava/lang/String;)Ljava/lang/StringBuilder;"⟩ : MethodName)) rfl (w60 G)) (w60 G) (w59 G) F95 (w61 G) (w38 G) (by decide) (by decide) (by decide) rfl (lenOf pd35 rfl) rfl rfl (Nat.le_of_eq rfl) d_prog_13_m2_22 rfl (by decide) (by decide) (by decide) (by decide) (kr fun T h97 xr X z98 q99 => ?_)
  obtain ⟨a100, rfl, K101, F102, F103, F104, F105, F106⟩ := q99
  have F107 : Sb Z h97 a17 a100 (((([] : List Int32) ++ [(116 : Int32), (104 : Int32), (101 : Int32), (32 : Int32), (116 : Int32), (114 : Int32), (97 : Int32), (105 : Int32), (110 : Int32), (105 : Int32), (110 : Int32), (103 : Int32), (32 : Int32), (108 : Int32), (111 : Int32), (103 : Int32), (32 : Int32), (110 : Int32), (97 : Int32), (109 : Int32), (101 : Int32), (115 : Int32), (32 : Int32)]) ++ us) ++ [(44 : Int32), (32 : Int32)]) 34 := sbc F102 rfl (by unfold grow; simp only [List.length_append, List.length_cons, List.length_nil]; split <;> omega)
  refine W.aloadN (pc' := 26) X d_prog_13_m2_25 rfl rfl rfl ?_
  have F108 := (F95.keep K101)
  have F109 := ((((((((P1.keep K3 nin0 nin0).keep K18 nin0 nin0).keep K32 (ninS (Nat.ne_of_lt (Nat.lt_of_lt_of_le P1.lt (Nat.le_trans K3.1 g19))) nin0) (ninS (Nat.ne_of_lt (Nat.lt_of_lt_of_le P1.ltb (Nat.le_trans K3.1 g19))) nin0)).keep K39 nin0 nin0).keep K57 (ninS (Nat.ne_of_lt (Nat.lt_of_lt_of_le P1.lt (Nat.le_trans K3.1 g19))) (ninS (Nat.ne_of_lt (Nat.lt_of_lt_of_le P1.lt (Nat.le_trans (Nat.le_trans K3.1 K18.1) g33))) nin0)) (ninS (Nat.ne_of_lt (Nat.lt_of_lt_of_le P1.ltb (Nat.le_trans K3.1 g19))) (ninS (Nat.ne_of_lt (Nat.lt_of_lt_of_le P1.ltb (Nat.le_trans (Nat.le_trans K3.1 K18.1) g33))) nin0))).keep K70 (ninS (Nat.ne_of_lt (Nat.lt_of_lt_of_le P1.lt (Nat.le_trans K3.1 g19))) (ninS (F61 _ (Nat.lt_of_lt_of_le P1.lt (Nat.le_trans (Nat.le_trans (Nat.le_trans K3.1 K18.1) K32.1) K39.1)) (Nat.ne_of_lt (Nat.lt_of_lt_of_le P1.lt (Nat.le_trans (Nat.le_trans K3.1 K18.1) g33)))) nin0)) (ninS (Nat.ne_of_lt (Nat.lt_of_lt_of_le P1.ltb (Nat.le_trans K3.1 g19))) (ninS (F61 _ (Nat.lt_of_lt_of_le P1.ltb (Nat.le_trans (Nat.le_trans (Nat.le_trans K3.1 K18.1) K32.1) K39.1)) (Nat.ne_of_lt (Nat.lt_of_lt_of_le P1.ltb (Nat.le_trans (Nat.le_trans K3.1 K18.1) g33)))) nin0))).keep K79 nin0 nin0).keep K101 (ninS (Nat.ne_of_lt (Nat.lt_of_lt_of_le P1.lt (Nat.le_trans K3.1 g19))) (ninS (F74 _ (Nat.lt_of_lt_of_le P1.lt (Nat.le_trans (Nat.le_trans (Nat.le_trans (Nat.le_trans K3.1 K18.1) K32.1) K39.1) K57.1)) (F61 _ (Nat.lt_of_lt_of_le P1.lt (Nat.le_trans (Nat.le_trans (Nat.le_trans K3.1 K18.1) K32.1) K39.1)) (Nat.ne_of_lt (Nat.lt_of_lt_of_le P1.lt (Nat.le_trans (Nat.le_trans K3.1 K18.1) g33))))) nin0)) (ninS (Nat.ne_of_lt (Nat.lt_of_lt_of_le P1.ltb (Nat.le_trans K3.1 g19))) (ninS (F74 _ (Nat.lt_of_lt_of_le P1.ltb (Nat.le_trans (Nat.le_trans (Nat.le_trans (Nat.le_trans K3.1 K18.1) K32.1) K39.1) K57.1)) (F61 _ (Nat.lt_of_lt_of_le P1.ltb (Nat.le_trans (Nat.le_trans (Nat.le_trans K3.1 K18.1) K32.1) K39.1)) (Nat.ne_of_lt (Nat.lt_of_lt_of_le P1.ltb (Nat.le_trans (Nat.le_trans K3.1 K18.1) g33))))) nin0)))
  refine W.callV (pc' := 29) (W := 2) (argsL := [(.ref o)]) (st := [(.ref a2), (.ref a2)]) (k' := 11) (n' := 454) (a := a17) X (c_app (a := a17) (v := a100) (s := o) (t := ob) (cs := (((([] : List Int32) ++ [(116 : Int32), (104 : Int32), (101 : Int32), (32 : Int32), (116 : Int32), (114 : Int32), (97 : Int32), (105 : Int32), (110 : Int32), (105 : Int32), (110 : Int32), (103 : Int32), (32 : Int32), (108 : Int32), (111 : Int32), (103 : Int32), (32 : Int32), (110 : Int32), (97 : Int32), (109 : Int32), (101 : Int32), (115 : Int32), (32 : Int32)]) ++ us) ++ [(44 : Int32), (32 : Int32)])) (ds := os) (cap := 34) G X.en F107 F109 (by unfold grow; simp only [List.length_append, List.length_cons, List.length_nil]; split <;> omega) g20 nb87 F103 F104) (w57 G) (w58 G) (nfM (z' := (⟨"java/lang/StringBuilder", "append", "(Ljava/lang/String;)Ljava/lang/StringBuilder;"⟩ : MethodName)) rfl (w60 G)) (w60 G) (w59 G) F108 (w61 G) (w38 G) (by decide) (by decide) (by decide) rfl (lenOf pd35 rfl) rfl rfl (Nat.le_of_eq rfl) d_prog_13_m2_26 rfl (by decide) (by decide) (by decide) (by decide) (kr fun T h110 xr X z111 q112 => ?_)
  obtain ⟨a113, rfl, K114, F115, F116, F117, F118, F119⟩ := q112
  have F120 : Sb Z h110 a17 a113 ((((([] : List Int32) ++ [(116 : Int32), (104 : Int32), (101 : Int32), (32 : Int32), (116 : Int32), (114 : Int32), (97 : Int32), (105 : Int32), (110 : Int32), (105 : Int32), (110 : Int32), (103 : Int32), (32 : Int32), (108 : Int32), (111 : Int32), (103 : Int32), (32 : Int32), (110 : Int32), (97 : Int32), (109 : Int32), (101 : Int32), (115 : Int32), (32 : Int32)]) ++ us) ++ [(44 : Int32), (32 : Int32)]) ++ os) 34 := sbc F115 rfl (by unfold grow; simp only [List.length_append, List.length_cons, List.length_nil]; split <;> omega)
  refine W.ldcR (pc' := 31) (k' := 13) (n' := 582) (cap := 124) (cs := [(59 : Int32), (32 : Int32), (119 : Int32), (97 : Int32), (115 : Int32), (32 : Int32), (105 : Int32), (116 : Int32), (32 : Int32), (109 : Int32), (97 : Int32), (100 : Int32), (101 : Int32), (32 : Int32), (111 : Int32), (110 : Int32), (32 : Int32), (97 : Int32), (110 : Int32), (111 : Int32), (116 : Int32), (104 : Int32), (101 : Int32), (114 : Int32), (32 : Int32), (105 : Int32), (110 : Int32), (100 : Int32), (101 : Int32), (120 : Int32), (63 : Int32)]) X (by decide) (w128 G) (watoms G) G.2.1 ⟨by decide, by decide⟩ (by unfold Lat; decide) (by decide) d_prog_13_m2_29 (by decide) (by decide) rfl (by decide) (by decide) (by decide) (by decide) fun T h121 B125 a122 a126 X K123 zb124 S127 ne128 => ?_
  have nb129 : ¬ B125 a2 := fun q => (zb124 _ q).elim nb85 (fun r => absurd (Nat.lt_of_lt_of_le E7.lt (Nat.le_trans (Nat.le_trans (Nat.le_trans (Nat.le_trans (Nat.le_trans (Nat.le_trans (Nat.le_trans K18.1 K32.1) K39.1) K57.1) K70.1) K79.1) K101.1) K114.1)) (Nat.not_lt.mpr r))
  have ne130 := ne128 _ nb129
  have nb131 : ¬ B125 a17 := fun q => (zb124 _ q).elim nb87 (fun r => absurd (Nat.lt_of_lt_of_le E22.lt (Nat.le_trans (Nat.le_trans (Nat.le_trans (Nat.le_trans (Nat.le_trans (Nat.le_trans K32.1 K39.1) K57.1) K70.1) K79.1) K101.1) K114.1)) (Nat.not_lt.mpr r))
  have ne132 := ne128 _ nb131
  have nb133 : ¬ B125 a31 := fun q => (zb124 _ q).elim nb89 (fun r => absurd (Nat.lt_of_lt_of_le F34.ltb (Nat.le_trans (Nat.le_trans (Nat.le_trans (Nat.le_trans (Nat.le_trans K39.1 K57.1) K70.1) K79.1) K101.1) K114.1)) (Nat.not_lt.mpr r))
  have ne134 := ne128 _ nb133
  have nb135 : ¬ B125 a56 := fun q => (zb124 _ q).elim nb91 (fun r => absurd (Nat.lt_of_lt_of_le F58.ltb (Nat.le_trans (Nat.le_trans (Nat.le_trans K70.1 K79.1) K101.1) K114.1)) (Nat.not_lt.mpr r))
  have ne136 := ne128 _ nb135
  have nb137 : ¬ B125 a69 := fun q => (zb124 _ q).elim nb93 (fun r => absurd (Nat.lt_of_lt_of_le F71.ltb (Nat.le_trans (Nat.le_trans K79.1 K101.1) K114.1)) (Nat.not_lt.mpr r))
  have ne138 := ne128 _ nb137
  have nb139 : ¬ B125 a100 := fun q => (zb124 _ q).elim F104 (fun r => absurd (Nat.lt_of_lt_of_le F102.ltb K114.1) (Nat.not_lt.mpr r))
  have ne140 := ne128 _ nb139
  have nb141 : ¬ B125 a113 := fun q => (zb124 _ q).elim F117 (fun r => absurd (Nat.lt_of_lt_of_le F115.ltb (Nat.le_refl _)) (Nat.not_lt.mpr r))
  have ne142 := ne128 _ nb141
  have F143 := ((F108.keep K114).keep K123)
  have F144 := (F120.keep K123 nin0 nin0)
  refine W.callV (pc' := 34) (W := 2) (argsL := [(.ref a122)]) (st := [(.ref a2), (.ref a2)]) (k' := 14) (n' := 662) (a := a17) X (c_app (a := a17) (v := a113) (s := a122) (t := a126) (cs := ((((([] : List Int32) ++ [(116 : Int32), (104 : Int32), (101 : Int32), (32 : Int32), (116 : Int32), (114 : Int32), (97 : Int32), (105 : Int32), (110 : Int32), (105 : Int32), (110 : Int32), (103 : Int32), (32 : Int32), (108 : Int32), (111 : Int32), (103 : Int32), (32 : Int32), (110 : Int32), (97 : Int32), (109 : Int32), (101 : Int32), (115 : Int32), (32 : Int32)]) ++ us) ++ [(44 : Int32), (32 : Int32)]) ++ os)) (ds := [(59 : Int32), (32 : Int32), (119 : Int32), (97 : Int32), (115 : Int32), (32 : Int32), (105 : Int32), (116 : Int32), (32 : Int32), (109 : Int32), (97 : Int32), (100 : Int32), (101 : Int32), (32 : Int32), (111 : Int32), (110 : Int32), (32 : Int32), (97 : Int32), (110 : Int32), (111 : Int32), (116 : Int32), (104 : Int32), (101 : Int32), (114 : Int32), (32 : Int32), (105 : Int32), (110 : Int32), (100 : Int32), (101 : Int32), (120 : Int32), (63 : Int32)]) (cap := 34) G X.en F144 S127 (by unfold grow; simp only [List.length_append, List.length_cons, List.length_nil]; split <;> omega) g20 nb131 F116 nb141) (w57 G) (w58 G) (nfM (z' := (⟨"java/lang/StringBuilder", "append", "(Ljava/lang/String;)Ljava/lang/StringBuilder;"⟩ : MethodName)) rfl (w60 G)) (w60 G) (w59 G) F143 (w61 G) (w38 G) (by decide) (by decide) (by decide) rfl (lenOf pd35 rfl) rfl rfl (Nat.le_of_eq rfl) d_prog_13_m2_31 rfl (by decide) (by decide) (by decide) (by decide) (kr fun T h145 xr X z146 q147 => ?_)
  obtain ⟨a148, rfl, K149, F150, F151, F152, F153, F154⟩ := q147
  have F155 : Sb Z h145 a17 a148 (((((([] : List Int32) ++ [(116 : Int32), (104 : Int32), (101 : Int32), (32 : Int32), (116 : Int32), (114 : Int32), (97 : Int32), (105 : Int32), (110 : Int32), (105 : Int32), (110 : Int32), (103 : Int32), (32 : Int32), (108 : Int32), (111 : Int32), (103 : Int32), (32 : Int32), (110 : Int32), (97 : Int32), (109 : Int32), (101 : Int32), (115 : Int32), (32 : Int32)]) ++ us) ++ [(44 : Int32), (32 : Int32)]) ++ os) ++ [(59 : Int32), (32 : Int32), (119 : Int32), (97 : Int32), (115 : Int32), (32 : Int32), (105 : Int32), (116 : Int32), (32 : Int32), (109 : Int32), (97 : Int32), (100 : Int32), (101 : Int32), (32 : Int32), (111 : Int32), (110 : Int32), (32 : Int32), (97 : Int32), (110 : Int32), (111 : Int32), (116 : Int32), (104 : Int32), (101 : Int32), (114 : Int32), (32 : Int32), (105 : Int32), (110 : Int32), (100 : Int32), (101 : Int32), (120 : Int32), (63 : Int32)]) 70 := sbc F150 rfl (by unfold grow; simp only [List.length_append, List.length_cons, List.length_nil]; split <;> omega)
  have F156 := (F143.keep K149)
  have en157 := X.en
  refine W.callV (pc' := 37) (W := 2) (argsL := []) (st := [(.ref a2), (.ref a2)]) (k' := 16) (n' := 746) (a := a17) X (c_toS (a := a17) (v := a148) (cs := (((((([] : List Int32) ++ [(116 : Int32), (104 : Int32), (101 : Int32), (32 : Int32), (116 : Int32), (114 : Int32), (97 : Int32), (105 : Int32), (110 : Int32), (105 : Int32), (110 : Int32), (103 : Int32), (32 : Int32), (108 : Int32), (111 : Int32), (103 : Int32), (32 : Int32), (110 : Int32), (97 : Int32), (109 : Int32), (101 : Int32), (115 : Int32), (32 : Int32)]) ++ us) ++ [(44 : Int32), (32 : Int32)]) ++ os) ++ [(59 : Int32), (32 : Int32), (119 : Int32), (97 : Int32), (115 : Int32), (32 : Int32), (105 : Int32), (116 : Int32), (32 : Int32), (109 : Int32), (97 : Int32), (100 : Int32), (101 : Int32), (32 : Int32), (111 : Int32), (110 : Int32), (32 : Int32), (97 : Int32), (110 : Int32), (111 : Int32), (116 : Int32), (104 : Int32), (101 : Int32), (114 : Int32), (32 : Int32), (105 : Int32), (110 : Int32), (100 : Int32), (101 : Int32), (120 : Int32), (63 : Int32)])) (cap := 70) G X.en F155 (by simp only [List.length_append, List.length_cons, List.length_nil]; omega) (by simp only [List.length_append, List.length_cons, List.length_nil]; omega)) (w129 G) (w130 G) (nfM (z' := (⟨"java/lang/StringBuilder", "append", "(Ljava/lang/String;)Ljava/lang/StringBuilder;"⟩ : MethodName)) rfl (w60 G)) (w132 G) (w131 G) F156 (w133 G) (w38 G) (by decide) (by decide) (by decide) rfl (lenOf pd36 rfl) rfl rfl (Nat.le_of_eq rfl) d_prog_13_m2_34 rfl (by decide) (by decide) (by decide) (by decide) (kr fun T h158 xr X z159 q160 => ?_)
  obtain ⟨a161, a162, rfl, K163, g164, g165, F166⟩ := q160
  have g167 : Z.heap.size ≤ a161 := Nat.le_trans (Nat.le_trans hz0 (Nat.le_trans (Nat.le_trans (Nat.le_trans (Nat.le_trans (Nat.le_trans (Nat.le_trans (Nat.le_trans (Nat.le_trans (Nat.le_trans (Nat.le_trans K3.1 K18.1) K32.1) K39.1) K57.1) K70.1) K79.1) K101.1) K114.1) K123.1) K149.1)) g164
  have nb168 : ¬ B125 a161 := fun q => absurd (en157.2 _ q) (Nat.not_lt.mpr g164)
  have g169 : Z.heap.size ≤ a162 := Nat.le_trans (Nat.le_trans hz0 (Nat.le_trans (Nat.le_trans (Nat.le_trans (Nat.le_trans (Nat.le_trans (Nat.le_trans (Nat.le_trans (Nat.le_trans (Nat.le_trans (Nat.le_trans K3.1 K18.1) K32.1) K39.1) K57.1) K70.1) K79.1) K101.1) K114.1) K123.1) K149.1)) g165
  have nb170 : ¬ B125 a162 := fun q => absurd (en157.2 _ q) (Nat.not_lt.mpr g165)
  have F171 := (((((((((((E7.keep K18).keep K32).keep K39).keep K57).keep K70).keep K79).keep K101).keep K114).keep K123).keep K149).keep K163)
  have F172 := (((((((((((F10.keep K18 nin0).keep K32 (ninS (Nat.ne_of_lt (Nat.lt_of_lt_of_le E7.lt (Nat.le_trans (Nat.le_refl _) g19))) nin0)).keep K39 nin0).keep K57 (ninS (Nat.ne_of_lt (Nat.lt_of_lt_of_le E7.lt (Nat.le_trans (Nat.le_refl _) g19))) (ninS (Nat.ne_of_lt (Nat.lt_of_lt_of_le E7.lt (Nat.le_trans K18.1 g33))) nin0))).keep K70 (ninS (Nat.ne_of_lt (Nat.lt_of_lt_of_le E7.lt (Nat.le_trans (Nat.le_refl _) g19))) (ninS (F61 _ (Nat.lt_of_lt_of_le E7.lt (Nat.le_trans (Nat.le_trans K18.1 K32.1) K39.1)) (Nat.ne_of_lt (Nat.lt_of_lt_of_le E7.lt (Nat.le_trans K18.1 g33)))) nin0))).keep K79 nin0).keep K101 (ninS (Nat.ne_of_lt (Nat.lt_of_lt_of_le E7.lt (Nat.le_trans (Nat.le_refl _) g19))) (ninS (F74 _ (Nat.lt_of_lt_of_le E7.lt (Nat.le_trans (Nat.le_trans (Nat.le_trans K18.1 K32.1) K39.1) K57.1)) (F61 _ (Nat.lt_of_lt_of_le E7.lt (Nat.le_trans (Nat.le_trans K18.1 K32.1) K39.1)) (Nat.ne_of_lt (Nat.lt_of_lt_of_le E7.lt (Nat.le_trans K18.1 g33))))) nin0))).keep K114 (ninS (Nat.ne_of_lt (Nat.lt_of_lt_of_le E7.lt (Nat.le_trans (Nat.le_refl _) g19))) (ninS (F105 _ (Nat.lt_of_lt_of_le E7.lt (Nat.le_trans (Nat.le_trans (Nat.le_trans (Nat.le_trans (Nat.le_trans K18.1 K32.1) K39.1) K57.1) K70.1) K79.1)) (F74 _ (Nat.lt_of_lt_of_le E7.lt (Nat.le_trans (Nat.le_trans (Nat.le_trans K18.1 K32.1) K39.1) K57.1)) (F61 _ (Nat.lt_of_lt_of_le E7.lt (Nat.le_trans (Nat.le_trans K18.1 K32.1) K39.1)) (Nat.ne_of_lt (Nat.lt_of_lt_of_le E7.lt (Nat.le_trans K18.1 g33)))))) nin0))).keep K123 nin0).keep K149 (ninS (Nat.ne_of_lt (Nat.lt_of_lt_of_le E7.lt (Nat.le_trans (Nat.le_refl _) g19))) (ninS (F118 _ (Nat.lt_of_lt_of_le E7.lt (Nat.le_trans (Nat.le_trans (Nat.le_trans (Nat.le_trans (Nat.le_trans (Nat.le_trans K18.1 K32.1) K39.1) K57.1) K70.1) K79.1) K101.1)) (F105 _ (Nat.lt_of_lt_of_le E7.lt (Nat.le_trans (Nat.le_trans (Nat.le_trans (Nat.le_trans (Nat.le_trans K18.1 K32.1) K39.1) K57.1) K70.1) K79.1)) (F74 _ (Nat.lt_of_lt_of_le E7.lt (Nat.le_trans (Nat.le_trans (Nat.le_trans K18.1 K32.1) K39.1) K57.1)) (F61 _ (Nat.lt_of_lt_of_le E7.lt (Nat.le_trans (Nat.le_trans K18.1 K32.1) K39.1)) (Nat.ne_of_lt (Nat.lt_of_lt_of_le E7.lt (Nat.le_trans K18.1 g33))))))) nin0))).keep K163 nin0)
  have F173 := (((((((((((F11.keep K18 nin0).keep K32 (ninS (Nat.ne_of_lt (Nat.lt_of_lt_of_le E7.lt (Nat.le_trans (Nat.le_refl _) g19))) nin0)).keep K39 nin0).keep K57 (ninS (Nat.ne_of_lt (Nat.lt_of_lt_of_le E7.lt (Nat.le_trans (Nat.le_refl _) g19))) (ninS (Nat.ne_of_lt (Nat.lt_of_lt_of_le E7.lt (Nat.le_trans K18.1 g33))) nin0))).keep K70 (ninS (Nat.ne_of_lt (Nat.lt_of_lt_of_le E7.lt (Nat.le_trans (Nat.le_refl _) g19))) (ninS (F61 _ (Nat.lt_of_lt_of_le E7.lt (Nat.le_trans (Nat.le_trans K18.1 K32.1) K39.1)) (Nat.ne_of_lt (Nat.lt_of_lt_of_le E7.lt (Nat.le_trans K18.1 g33)))) nin0))).keep K79 nin0).keep K101 (ninS (Nat.ne_of_lt (Nat.lt_of_lt_of_le E7.lt (Nat.le_trans (Nat.le_refl _) g19))) (ninS (F74 _ (Nat.lt_of_lt_of_le E7.lt (Nat.le_trans (Nat.le_trans (Nat.le_trans K18.1 K32.1) K39.1) K57.1)) (F61 _ (Nat.lt_of_lt_of_le E7.lt (Nat.le_trans (Nat.le_trans K18.1 K32.1) K39.1)) (Nat.ne_of_lt (Nat.lt_of_lt_of_le E7.lt (Nat.le_trans K18.1 g33))))) nin0))).keep K114 (ninS (Nat.ne_of_lt (Nat.lt_of_lt_of_le E7.lt (Nat.le_trans (Nat.le_refl _) g19))) (ninS (F105 _ (Nat.lt_of_lt_of_le E7.lt (Nat.le_trans (Nat.le_trans (Nat.le_trans (Nat.le_trans (Nat.le_trans K18.1 K32.1) K39.1) K57.1) K70.1) K79.1)) (F74 _ (Nat.lt_of_lt_of_le E7.lt (Nat.le_trans (Nat.le_trans (Nat.le_trans K18.1 K32.1) K39.1) K57.1)) (F61 _ (Nat.lt_of_lt_of_le E7.lt (Nat.le_trans (Nat.le_trans K18.1 K32.1) K39.1)) (Nat.ne_of_lt (Nat.lt_of_lt_of_le E7.lt (Nat.le_trans K18.1 g33)))))) nin0))).keep K123 nin0).keep K149 (ninS (Nat.ne_of_lt (Nat.lt_of_lt_of_le E7.lt (Nat.le_trans (Nat.le_refl _) g19))) (ninS (F118 _ (Nat.lt_of_lt_of_le E7.lt (Nat.le_trans (Nat.le_trans (Nat.le_trans (Nat.le_trans (Nat.le_trans (Nat.le_trans K18.1 K32.1) K39.1) K57.1) K70.1) K79.1) K101.1)) (F105 _ (Nat.lt_of_lt_of_le E7.lt (Nat.le_trans (Nat.le_trans (Nat.le_trans (Nat.le_trans (Nat.le_trans K18.1 K32.1) K39.1) K57.1) K70.1) K79.1)) (F74 _ (Nat.lt_of_lt_of_le E7.lt (Nat.le_trans (Nat.le_trans (Nat.le_trans K18.1 K32.1) K39.1) K57.1)) (F61 _ (Nat.lt_of_lt_of_le E7.lt (Nat.le_trans (Nat.le_trans K18.1 K32.1) K39.1)) (Nat.ne_of_lt (Nat.lt_of_lt_of_le E7.lt (Nat.le_trans K18.1 g33))))))) nin0))).keep K163 nin0)
  have F174 := (((((((((((F12.keep K18 nin0).keep K32 (ninS (Nat.ne_of_lt (Nat.lt_of_lt_of_le E7.lt (Nat.le_trans (Nat.le_refl _) g19))) nin0)).keep K39 nin0).keep K57 (ninS (Nat.ne_of_lt (Nat.lt_of_lt_of_le E7.lt (Nat.le_trans (Nat.le_refl _) g19))) (ninS (Nat.ne_of_lt (Nat.lt_of_lt_of_le E7.lt (Nat.le_trans K18.1 g33))) nin0))).keep K70 (ninS (Nat.ne_of_lt (Nat.lt_of_lt_of_le E7.lt (Nat.le_trans (Nat.le_refl _) g19))) (ninS (F61 _ (Nat.lt_of_lt_of_le E7.lt (Nat.le_trans (Nat.le_trans K18.1 K32.1) K39.1)) (Nat.ne_of_lt (Nat.lt_of_lt_of_le E7.lt (Nat.le_trans K18.1 g33)))) nin0))).keep K79 nin0).keep K101 (ninS (Nat.ne_of_lt (Nat.lt_of_lt_of_le E7.lt (Nat.le_trans (Nat.le_refl _) g19))) (ninS (F74 _ (Nat.lt_of_lt_of_le E7.lt (Nat.le_trans (Nat.le_trans (Nat.le_trans K18.1 K32.1) K39.1) K57.1)) (F61 _ (Nat.lt_of_lt_of_le E7.lt (Nat.le_trans (Nat.le_trans K18.1 K32.1) K39.1)) (Nat.ne_of_lt (Nat.lt_of_lt_of_le E7.lt (Nat.le_trans K18.1 g33))))) nin0))).keep K114 (ninS (Nat.ne_of_lt (Nat.lt_of_lt_of_le E7.lt (Nat.le_trans (Nat.le_refl _) g19))) (ninS (F105 _ (Nat.lt_of_lt_of_le E7.lt (Nat.le_trans (Nat.le_trans (Nat.le_trans (Nat.le_trans (Nat.le_trans K18.1 K32.1) K39.1) K57.1) K70.1) K79.1)) (F74 _ (Nat.lt_of_lt_of_le E7.lt (Nat.le_trans (Nat.le_trans (Nat.le_trans K18.1 K32.1) K39.1) K57.1)) (F61 _ (Nat.lt_of_lt_of_le E7.lt (Nat.le_trans (Nat.le_trans K18.1 K32.1) K39.1)) (Nat.ne_of_lt (Nat.lt_of_lt_of_le E7.lt (Nat.le_trans K18.1 g33)))))) nin0))).keep K123 nin0).keep K149 (ninS (Nat.ne_of_lt (Nat.lt_of_lt_of_le E7.lt (Nat.le_trans (Nat.le_refl _) g19))) (ninS (F118 _ (Nat.lt_of_lt_of_le E7.lt (Nat.le_trans (Nat.le_trans (Nat.le_trans (Nat.le_trans (Nat.le_trans (Nat.le_trans K18.1 K32.1) K39.1) K57.1) K70.1) K79.1) K101.1)) (F105 _ (Nat.lt_of_lt_of_le E7.lt (Nat.le_trans (Nat.le_trans (Nat.le_trans (Nat.le_trans (Nat.le_trans K18.1 K32.1) K39.1) K57.1) K70.1) K79.1)) (F74 _ (Nat.lt_of_lt_of_le E7.lt (Nat.le_trans (Nat.le_trans (Nat.le_trans K18.1 K32.1) K39.1) K57.1)) (F61 _ (Nat.lt_of_lt_of_le E7.lt (Nat.le_trans (Nat.le_trans K18.1 K32.1) K39.1)) (Nat.ne_of_lt (Nat.lt_of_lt_of_le E7.lt (Nat.le_trans K18.1 g33))))))) nin0))).keep K163 nin0)
  have F175 := (((((((((((F14.keep K18 nin0).keep K32 (ninS (Nat.ne_of_lt (Nat.lt_of_lt_of_le E7.lt (Nat.le_trans (Nat.le_refl _) g19))) nin0)).keep K39 nin0).keep K57 (ninS (Nat.ne_of_lt (Nat.lt_of_lt_of_le E7.lt (Nat.le_trans (Nat.le_refl _) g19))) (ninS (Nat.ne_of_lt (Nat.lt_of_lt_of_le E7.lt (Nat.le_trans K18.1 g33))) nin0))).keep K70 (ninS (Nat.ne_of_lt (Nat.lt_of_lt_of_le E7.lt (Nat.le_trans (Nat.le_refl _) g19))) (ninS (F61 _ (Nat.lt_of_lt_of_le E7.lt (Nat.le_trans (Nat.le_trans K18.1 K32.1) K39.1)) (Nat.ne_of_lt (Nat.lt_of_lt_of_le E7.lt (Nat.le_trans K18.1 g33)))) nin0))).keep K79 nin0).keep K101 (ninS (Nat.ne_of_lt (Nat.lt_of_lt_of_le E7.lt (Nat.le_trans (Nat.le_refl _) g19))) (ninS (F74 _ (Nat.lt_of_lt_of_le E7.lt (Nat.le_trans (Nat.le_trans (Nat.le_trans K18.1 K32.1) K39.1) K57.1)) (F61 _ (Nat.lt_of_lt_of_le E7.lt (Nat.le_trans (Nat.le_trans K18.1 K32.1) K39.1)) (Nat.ne_of_lt (Nat.lt_of_lt_of_le E7.lt (Nat.le_trans K18.1 g33))))) nin0))).keep K114 (ninS (Nat.ne_of_lt (Nat.lt_of_lt_of_le E7.lt (Nat.le_trans (Nat.le_refl _) g19))) (ninS (F105 _ (Nat.lt_of_lt_of_le E7.lt (Nat.le_trans (Nat.le_trans (Nat.le_trans (Nat.le_trans (Nat.le_trans K18.1 K32.1) K39.1) K57.1) K70.1) K79.1)) (F74 _ (Nat.lt_of_lt_of_le E7.lt (Nat.le_trans (Nat.le_trans (Nat.le_trans K18.1 K32.1) K39.1) K57.1)) (F61 _ (Nat.lt_of_lt_of_le E7.lt (Nat.le_trans (Nat.le_trans K18.1 K32.1) K39.1)) (Nat.ne_of_lt (Nat.lt_of_lt_of_le E7.lt (Nat.le_trans K18.1 g33)))))) nin0))).keep K123 nin0).keep K149 (ninS (Nat.ne_of_lt (Nat.lt_of_lt_of_le E7.lt (Nat.le_trans (Nat.le_refl _) g19))) (ninS (F118 _ (Nat.lt_of_lt_of_le E7.lt (Nat.le_trans (Nat.le_trans (Nat.le_trans (Nat.le_trans (Nat.le_trans (Nat.le_trans K18.1 K32.1) K39.1) K57.1) K70.1) K79.1) K101.1)) (F105 _ (Nat.lt_of_lt_of_le E7.lt (Nat.le_trans (Nat.le_trans (Nat.le_trans (Nat.le_trans (Nat.le_trans K18.1 K32.1) K39.1) K57.1) K70.1) K79.1)) (F74 _ (Nat.lt_of_lt_of_le E7.lt (Nat.le_trans (Nat.le_trans (Nat.le_trans K18.1 K32.1) K39.1) K57.1)) (F61 _ (Nat.lt_of_lt_of_le E7.lt (Nat.le_trans (Nat.le_trans K18.1 K32.1) K39.1)) (Nat.ne_of_lt (Nat.lt_of_lt_of_le E7.lt (Nat.le_trans K18.1 g33))))))) nin0))).keep K163 nin0)
  have F176 := (Unt.keep K163 nin0 (Unt.keep K149 (ninS (Nat.ne_of_lt (Nat.lt_of_lt_of_le E7.lt (Nat.le_trans (Nat.le_refl _) g19))) (ninS (F118 _ (Nat.lt_of_lt_of_le E7.lt (Nat.le_trans (Nat.le_trans (Nat.le_trans (Nat.le_trans (Nat.le_trans (Nat.le_trans K18.1 K32.1) K39.1) K57.1) K70.1) K79.1) K101.1)) (F105 _ (Nat.lt_of_lt_of_le E7.lt (Nat.le_trans (Nat.le_trans (Nat.le_trans (Nat.le_trans (Nat.le_trans K18.1 K32.1) K39.1) K57.1) K70.1) K79.1)) (F74 _ (Nat.lt_of_lt_of_le E7.lt (Nat.le_trans (Nat.le_trans (Nat.le_trans K18.1 K32.1) K39.1) K57.1)) (F61 _ (Nat.lt_of_lt_of_le E7.lt (Nat.le_trans (Nat.le_trans K18.1 K32.1) K39.1)) (Nat.ne_of_lt (Nat.lt_of_lt_of_le E7.lt (Nat.le_trans K18.1 g33))))))) nin0)) (Unt.keep K123 nin0 (Unt.keep K114 (ninS (Nat.ne_of_lt (Nat.lt_of_lt_of_le E7.lt (Nat.le_trans (Nat.le_refl _) g19))) (ninS (F105 _ (Nat.lt_of_lt_of_le E7.lt (Nat.le_trans (Nat.le_trans (Nat.le_trans (Nat.le_trans (Nat.le_trans K18.1 K32.1) K39.1) K57.1) K70.1) K79.1)) (F74 _ (Nat.lt_of_lt_of_le E7.lt (Nat.le_trans (Nat.le_trans (Nat.le_trans K18.1 K32.1) K39.1) K57.1)) (F61 _ (Nat.lt_of_lt_of_le E7.lt (Nat.le_trans (Nat.le_trans K18.1 K32.1) K39.1)) (Nat.ne_of_lt (Nat.lt_of_lt_of_le E7.lt (Nat.le_trans K18.1 g33)))))) nin0)) (Unt.keep K101 (ninS (Nat.ne_of_lt (Nat.lt_of_lt_of_le E7.lt (Nat.le_trans (Nat.le_refl _) g19))) (ninS (F74 _ (Nat.lt_of_lt_of_le E7.lt (Nat.le_trans (Nat.le_trans (Nat.le_trans K18.1 K32.1) K39.1) K57.1)) (F61 _ (Nat.lt_of_lt_of_le E7.lt (Nat.le_trans (Nat.le_trans K18.1 K32.1) K39.1)) (Nat.ne_of_lt (Nat.lt_of_lt_of_le E7.lt (Nat.le_trans K18.1 g33))))) nin0)) (Unt.keep K79 nin0 (Unt.keep K70 (ninS (Nat.ne_of_lt (Nat.lt_of_lt_of_le E7.lt (Nat.le_trans (Nat.le_refl _) g19))) (ninS (F61 _ (Nat.lt_of_lt_of_le E7.lt (Nat.le_trans (Nat.le_trans K18.1 K32.1) K39.1)) (Nat.ne_of_lt (Nat.lt_of_lt_of_le E7.lt (Nat.le_trans K18.1 g33)))) nin0)) (Unt.keep K57 (ninS (Nat.ne_of_lt (Nat.lt_of_lt_of_le E7.lt (Nat.le_trans (Nat.le_refl _) g19))) (ninS (Nat.ne_of_lt (Nat.lt_of_lt_of_le E7.lt (Nat.le_trans K18.1 g33))) nin0)) (Unt.keep K39 nin0 (Unt.keep K32 (ninS (Nat.ne_of_lt (Nat.lt_of_lt_of_le E7.lt (Nat.le_trans (Nat.le_refl _) g19))) nin0) (Unt.keep K18 nin0 U9)))))))))))
  refine W.callNK (pc' := 40) (W := 1) (argsL := [(.ref a161)]) (st := [(.ref a2)]) (k' := 17) (n' := 3498) (a := a2) X hkn (c_pre (a := a2) (x := a161) (v0 := .null) (v1 := .null) (v2 := .null) G X.en F171 F172 F173 F174 F175 F176 g5 nb129) rfl (w168 G) (w169 G) (w170 G) (w32 G) (by decide) (by decide) (by decide) rfl (lenOf pd18 rfl) rfl rfl (Nat.le_of_eq rfl) d_prog_13_m2_37 rfl (by decide) (by decide) (by decide) (by decide) (kv fun T h177 X z178 q179 => ?_)
  obtain ⟨K180, F181⟩ := q179
  have F182 := (F171.keep K180)
  have F183 := (F166.keep K180 (ninS (Nat.ne_of_gt (Nat.lt_of_lt_of_le E7.lt (Nat.le_trans (Nat.le_trans (Nat.le_trans (Nat.le_trans (Nat.le_trans (Nat.le_trans (Nat.le_trans (Nat.le_trans (Nat.le_trans (Nat.le_trans K18.1 K32.1) K39.1) K57.1) K70.1) K79.1) K101.1) K114.1) K123.1) K149.1) g164))) nin0) (ninS (Nat.ne_of_gt (Nat.lt_of_lt_of_le E7.lt (Nat.le_trans (Nat.le_trans (Nat.le_trans (Nat.le_trans (Nat.le_trans (Nat.le_trans (Nat.le_trans (Nat.le_trans (Nat.le_trans (Nat.le_trans K18.1 K32.1) K39.1) K57.1) K70.1) K79.1) K101.1) K114.1) K123.1) K149.1) g165))) nin0))
  exact W.areturn X d_prog_13_m2_40 rfl rfl rfl rfl (by decide) (by decide) ⟨_, rfl, ⟨a2, a161, a162, rfl, (Keep.trans (Keep.trans (Keep.trans (Keep.trans (Keep.trans (Keep.trans (Keep.trans (Keep.trans (Keep.trans (Keep.trans (Keep.trans (Keep.trans (Keep.trans (Keep.refl h []) K3 all0) K18 all0) K32 (allS (Or.inr (Nat.le_trans K3.1 g19)) all0)) K39 all0) K57 (allS (Or.inr (Nat.le_trans K3.1 g19)) (allS (Or.inr (Nat.le_trans (Nat.le_trans K3.1 K18.1) g33)) all0))) K70 (allS (Or.inr (Nat.le_trans K3.1 g19)) (allS (F62.elim (fun q => by rw [q]; exact (Or.inr (Nat.le_trans (Nat.le_trans K3.1 K18.1) g33))) (fun q => Or.inr (Nat.le_trans (Nat.le_trans (Nat.le_trans (Nat.le_trans K3.1 K18.1) K32.1) K39.1) q))) all0))) K79 all0) K101 (allS (Or.inr (Nat.le_trans K3.1 g19)) (allS (F75.elim (fun q => by rw [q]; exact (F62.elim (fun q => by rw [q]; exact (Or.inr (Nat.le_trans (Nat.le_trans K3.1 K18.1) g33))) (fun q => Or.inr (Nat.le_trans (Nat.le_trans (Nat.le_trans (Nat.le_trans K3.1 K18.1) K32.1) K39.1) q)))) (fun q => Or.inr (Nat.le_trans (Nat.le_trans (Nat.le_trans (Nat.le_trans (Nat.le_trans K3.1 K18.1) K32.1) K39.1) K57.1) q))) all0))) K114 (allS (Or.inr (Nat.le_trans K3.1 g19)) (allS (F106.elim (fun q => by rw [q]; exact (F75.elim (fun q => by rw [q]; exact (F62.elim (fun q => by rw [q]; exact (Or.inr (Nat.le_trans (Nat.le_trans K3.1 K18.1) g33))) (fun q => Or.inr (Nat.le_trans (Nat.le_trans (Nat.le_trans (Nat.le_trans K3.1 K18.1) K32.1) K39.1) q)))) (fun q => Or.inr (Nat.le_trans (Nat.le_trans (Nat.le_trans (Nat.le_trans (Nat.le_trans K3.1 K18.1) K32.1) K39.1) K57.1) q)))) (fun q => Or.inr (Nat.le_trans (Nat.le_trans (Nat.le_trans (Nat.le_trans (Nat.le_trans (Nat.le_trans (Nat.le_trans K3.1 K18.1) K32.1) K39.1) K57.1) K70.1) K79.1) q))) all0))) K123 all0) K149 (allS (Or.inr (Nat.le_trans K3.1 g19)) (allS (F119.elim (fun q => by rw [q]; exact (F106.elim (fun q => by rw [q]; exact (F75.elim (fun q => by rw [q]; exact (F62.elim (fun q => by rw [q]; exact (Or.inr (Nat.le_trans (Nat.le_trans K3.1 K18.1) g33))) (fun q => Or.inr (Nat.le_trans (Nat.le_trans (Nat.le_trans (Nat.le_trans K3.1 K18.1) K32.1) K39.1) q)))) (fun q => Or.inr (Nat.le_trans (Nat.le_trans (Nat.le_trans (Nat.le_trans (Nat.le_trans K3.1 K18.1) K32.1) K39.1) K57.1) q)))) (fun q => Or.inr (Nat.le_trans (Nat.le_trans (Nat.le_trans (Nat.le_trans (Nat.le_trans (Nat.le_trans (Nat.le_trans K3.1 K18.1) K32.1) K39.1) K57.1) K70.1) K79.1) q)))) (fun q => Or.inr (Nat.le_trans (Nat.le_trans (Nat.le_trans (Nat.le_trans (Nat.le_trans (Nat.le_trans (Nat.le_trans (Nat.le_trans K3.1 K18.1) K32.1) K39.1) K57.1) K70.1) K79.1) K101.1) q))) all0))) K163 all0) K180 (allS (Or.inr (Nat.le_trans (Nat.le_refl _) g4)) all0)), (Nat.le_trans (Nat.le_refl _) g4), (Nat.le_trans (Nat.le_trans (Nat.le_trans (Nat.le_trans (Nat.le_trans (Nat.le_trans (Nat.le_trans (Nat.le_trans (Nat.le_trans (Nat.le_trans (Nat.le_trans K3.1 K18.1) K32.1) K39.1) K57.1) K70.1) K79.1) K101.1) K114.1) K123.1) K149.1) g164), (Nat.le_trans (Nat.le_trans (Nat.le_trans (Nat.le_trans (Nat.le_trans (Nat.le_trans (Nat.le_trans (Nat.le_trans (Nat.le_trans (Nat.le_trans (Nat.le_trans K3.1 K18.1) K32.1) K39.1) K57.1) K70.1) K79.1) K101.1) K114.1) K123.1) K149.1) g165), F182, F181, F183⟩⟩
def c_msg_rm : Room := { frames := 0, cells := 0, slots := 0, locals := 0 }
set_option maxRecDepth 65536 in
set_option maxHeartbeats 40000000 in
theorem c_msg {l : Launch} {Z : State} {a0 : Array Value} {zC : Int32} {uT : Addr} {sT : Addr} {h : Heap} {B : Addr → Prop} {a b : Addr} (G : Gl Z a0 zC uT sT) (hE : En Z B h) (P0 : Fld Z h a "java/lang/Throwable" "detailMessage" "Ljava/lang/String;" (.ref b)) : Con l Z consts_1 [] (⟨"java/lang/Throwable", "getMessage", "()Ljava/lang/String;"⟩ : MethodName) jdk_78_method_6_code 1 (some (.object "java/lang/String")) c_msg_rm B h #[(.ref a)] (fun vR hR BR => vR = some (.ref b) ∧ hR = h ∧ BR = B) := by
  have hz0 := hE.1.1
  refine Con.intro (ls := #[.val (.ref a)]) (plainFor_of_name pn31) G.2.1 hE (fun m => by first | rfl | (simp [entryFrame, mkF, argsToLocals, Value.category]; done) | rfl) ?_
  intro pP eE sS mM blw mth cC T hs X
  refine W.aloadN (pc' := 1) X d_jdk_78_m6_0 rfl rfl rfl ?_
  refine W.getF (pc' := 4) X (w218 G) Via.refl P0 d_jdk_78_m6_1 rfl fun T X => ?_
  exact W.areturn X d_jdk_78_m6_4 rfl rfl rfl rfl (by decide) (by decide) ⟨rfl, rfl, rfl⟩
set_option maxRecDepth 65536 in
set_option maxHeartbeats 40000000 in
theorem c_law {l : Launch} {Z : State} {a0 : Array Value} {zC : Int32} {uT : Addr} {sT : Addr} {h : Heap} {B : Addr → Prop} {p0 p1 p2 p3 : Int32} (G : Gl Z a0 zC uT sT) (hE : En Z B h)  : ConK l Z consts_1 tables_1 x code maxLocals ret room_1 B h #[(.int p0), (.int p1), (.int p2), (.int p3)] (fun vR hR BR => vR = some (.int (1 : Int32))) := by
  have hz0 := hE.1.1
  refine ConK.intro (ls := #[.val (.int p0), .val (.int p1), .val (.int p2), .val (.int p3), .unset, .unset, .unset, .unset, .unset, .unset, .unset, .unset, .unset, .unset]) (plainFor_of_name pn40) G.2.1 hE (fun m => by first | (simp [entryFrame, mkF, argsToLocals, Value.category, maxLocals]; done) | rfl) ?_
  intro pP eE sS mM blw mth cC T hs hkn X
  refine W.iloadN (pc' := 1) X at_0 rfl rfl ?_
  refine W.sipush (pc' := 4) X (255 : Int32) at_1 (by decide) rfl ?_
  refine W.iand (pc' := 5) (w := (p0 &&& (255 : Int32))) X at_4 rfl rfl ?_
  refine W.i2c (pc' := 6) (w := (p0 &&& (255 : Int32))) X at_5 (i2c_mask _) rfl ?_
  refine W.istore (pc' := 8) (ls' := #[.val (.int p0), .val (.int p1), .val (.int p2), .val (.int p3), .val (.int (p0 &&& (255 : Int32))), .unset, .unset, .unset, .unset, .unset, .unset, .unset, .unset, .unset]) X at_6 rfl rfl ?_
  refine W.iloadN (pc' := 9) X at_8 rfl rfl ?_
  refine W.sipush (pc' := 12) X (255 : Int32) at_9 (by decide) rfl ?_
  refine W.iand (pc' := 13) (w := (p1 &&& (255 : Int32))) X at_12 rfl rfl ?_
  refine W.i2c (pc' := 14) (w := (p1 &&& (255 : Int32))) X at_13 (i2c_mask _) rfl ?_
  refine W.istore (pc' := 16) (ls' := #[.val (.int p0), .val (.int p1), .val (.int p2), .val (.int p3), .val (.int (p0 &&& (255 : Int32))), .val (.int (p1 &&& (255 : Int32))), .unset, .unset, .unset, .unset, .unset, .unset, .unset, .unset]) X at_14 rfl rfl ?_
  refine W.iloadN (pc' := 17) X at_16 rfl rfl ?_
  refine W.sipush (pc' := 20) X (255 : Int32) at_17 (by decide) rfl ?_
  refine W.iand (pc' := 21) (w := (p2 &&& (255 : Int32))) X at_20 rfl rfl ?_
  refine W.i2c (pc' := 22) (w := (p2 &&& (255 : Int32))) X at_21 (i2c_mask _) rfl ?_
  refine W.istore (pc' := 24) (ls' := #[.val (.int p0), .val (.int p1), .val (.int p2), .val (.int p3), .val (.int (p0 &&& (255 : Int32))), .val (.int (p1 &&& (255 : Int32))), .val (.int (p2 &&& (255 : Int32))), .unset, .unset, .unset, .unset, .unset, .unset, .unset]) X at_22 rfl rfl ?_
  refine W.iloadN (pc' := 25) X at_24 rfl rfl ?_
  refine W.sipush (pc' := 28) X (255 : Int32) at_25 (by decide) rfl ?_
  refine W.iand (pc' := 29) (w := (p3 &&& (255 : Int32))) X at_28 rfl rfl ?_
  refine W.i2c (pc' := 30) (w := (p3 &&& (255 : Int32))) X at_29 (i2c_mask _) rfl ?_
  refine W.istore (pc' := 32) (ls' := #[.val (.int p0), .val (.int p1), .val (.int p2), .val (.int p3), .val (.int (p0 &&& (255 : Int32))), .val (.int (p1 &&& (255 : Int32))), .val (.int (p2 &&& (255 : Int32))), .val (.int (p3 &&& (255 : Int32))), .unset, .unset, .unset, .unset, .unset, .unset]) X at_30 rfl rfl ?_
  refine W.new (pc' := 35) (k' := 1) (n' := 4) X (w0 G) (w1 G) (w2 G) at_32 rfl (by decide) (by decide) (by decide) (by decide) fun T h1 a2 X K3 g4 g5 nb6 E7 D8  => ?_
  have F9 : Fld Z h1 a2 "java/lang/String" "coder" "B" (.int (0 : Int32)) := D8 (Or.inr (w27 G)) (ty := .byte) (by decide)
  have F10 : Fld Z h1 a2 "java/lang/String" "value" "[B" .null := D8 (Or.inr (w29 G)) (ty := (.array .byte)) (by decide)
  refine W.dup (pc' := 36) X at_35 rfl rfl ?_
  refine W.iconst (pc' := 37) X (2 : Int32) at_36 (by decide) rfl ?_
  refine W.newA (aty := .char) (pc' := 39) (k' := 2) (n' := 6) (cap := 2) X (w3 G) at_37 (by decide) (by decide) (by decide) rfl (by decide) (by decide) (by decide) (by decide) fun T h11 a12 X K13 g14 g15 nb16 A17 => ?_
  have A17 : Ar Z h11 a12 .char [(.int (0 : Int32)), (.int (0 : Int32))] := A17
  refine W.dup (pc' := 40) X at_39 rfl rfl ?_
  refine W.iconst (pc' := 41) X (0 : Int32) at_40 (by decide) rfl ?_
  refine W.iload (pc' := 43) X at_41 rfl rfl ?_
  refine W.castore (pc' := 44) (i := 0) X A17 (by decide) rfl (ltb rfl) (i2c_mask _) g15 nb16 at_43 rfl fun T h18 X K19 A20 => ?_
  have A20 : Ar Z h18 a12 .char [(.int (p0 &&& (255 : Int32))), (.int (0 : Int32))] := A20
  refine W.dup (pc' := 45) X at_44 rfl rfl ?_
  refine W.iconst (pc' := 46) X (1 : Int32) at_45 (by decide) rfl ?_
  refine W.iload (pc' := 48) X at_46 rfl rfl ?_
  refine W.castore (pc' := 49) (i := 1) X A20 (by decide) rfl (ltb rfl) (i2c_mask _) g15 nb16 at_48 rfl fun T h21 X K22 A23 => ?_
  have A23 : Ar Z h21 a12 .char [(.int (p0 &&& (255 : Int32))), (.int (p1 &&& (255 : Int32)))] := A23
  have F24 := (((E7.keep K13).keep K19).keep K22)
  have F25 := (((F10.keep K13 nin0).keep K19 (ninS (Nat.ne_of_lt (Nat.lt_of_lt_of_le E7.lt (Nat.le_trans (Nat.le_refl _) g14))) nin0)).keep K22 (ninS (Nat.ne_of_lt (Nat.lt_of_lt_of_le E7.lt (Nat.le_trans (Nat.le_refl _) g14))) nin0))
  have F26 := (((F9.keep K13 nin0).keep K19 (ninS (Nat.ne_of_lt (Nat.lt_of_lt_of_le E7.lt (Nat.le_trans (Nat.le_refl _) g14))) nin0)).keep K22 (ninS (Nat.ne_of_lt (Nat.lt_of_lt_of_le E7.lt (Nat.le_trans (Nat.le_refl _) g14))) nin0))
  have en27 := X.en
  refine W.callN (pc' := 52) (W := 1) (argsL := [(.ref a12)]) (st := [(.ref a2)]) (k' := 3) (n' := 66) (a := a2) X (c_init1 (x := a2) (a := a12) (cs := [(p0 &&& (255 : Int32)), (p1 &&& (255 : Int32))]) (v0 := .null) (c0 := (.int (0 : Int32))) G X.en F24 F25 F26 A23 (latS (m255 _) (latS (m255 _) lat0)) (ltb rfl) (leb rfl) g5 nb6) rfl (w4 G) (w5 G) (w6 G) (w2 G) (by decide) (by decide) (by decide) rfl (lenOf pd37 rfl) rfl rfl (Nat.le_of_eq rfl) at_49 rfl (by decide) (by decide) (by decide) (by decide) (kv fun T h28 X z29 q30 => ?_)
  obtain ⟨a31, K32, g33, F34⟩ := q30
  have g35 : Z.heap.size ≤ a31 := Nat.le_trans (Nat.le_trans hz0 (Nat.le_trans (Nat.le_trans (Nat.le_trans K3.1 K13.1) K19.1) K22.1)) g33
  have nb36 : ¬ B a31 := fun q => absurd (en27.2 _ q) (Nat.not_lt.mpr g33)
  refine W.astore (pc' := 54) (ls' := #[.val (.int p0), .val (.int p1), .val (.int p2), .val (.int p3), .val (.int (p0 &&& (255 : Int32))), .val (.int (p1 &&& (255 : Int32))), .val (.int (p2 &&& (255 : Int32))), .val (.int (p3 &&& (255 : Int32))), .val (.ref a2), .unset, .unset, .unset, .unset, .unset]) X at_52 rfl rfl rfl ?_
  refine W.new (pc' := 57) (k' := 4) (n' := 70) X (w0 G) (w1 G) (w2 G) at_54 rfl (by decide) (by decide) (by decide) (by decide) fun T h37 a38 X K39 g40 g41 nb42 E43 D44  => ?_
  have F45 : Fld Z h37 a38 "java/lang/String" "coder" "B" (.int (0 : Int32)) := D44 (Or.inr (w27 G)) (ty := .byte) (by decide)
  have F46 : Fld Z h37 a38 "java/lang/String" "value" "[B" .null := D44 (Or.inr (w29 G)) (ty := (.array .byte)) (by decide)
  refine W.dup (pc' := 58) X at_57 rfl rfl ?_
  refine W.iconst (pc' := 59) X (2 : Int32) at_58 (by decide) rfl ?_
  refine W.newA (aty := .char) (pc' := 61) (k' := 5) (n' := 72) (cap := 2) X (w3 G) at_59 (by decide) (by decide) (by decide) rfl (by decide) (by decide) (by decide) (by decide) fun T h47 a48 X K49 g50 g51 nb52 A53 => ?_
  have A53 : Ar Z h47 a48 .char [(.int (0 : Int32)), (.int (0 : Int32))] := A53
  refine W.dup (pc' := 62) X at_61 rfl rfl ?_
  refine W.iconst (pc' := 63) X (0 : Int32) at_62 (by decide) rfl ?_
  refine W.iload (pc' := 65) X at_63 rfl rfl ?_
  refine W.castore (pc' := 66) (i := 0) X A53 (by decide) rfl (ltb rfl) (i2c_mask _) g51 nb52 at_65 rfl fun T h54 X K55 A56 => ?_
  have A56 : Ar Z h54 a48 .char [(.int (p2 &&& (255 : Int32))), (.int (0 : Int32))] := A56
  refine W.dup (pc' := 67) X at_66 rfl rfl ?_
  refine W.iconst (pc' := 68) X (1 : Int32) at_67 (by decide) rfl ?_
  refine W.iload (pc' := 70) X at_68 rfl rfl ?_
  refine W.castore (pc' := 71) (i := 1) X A56 (by decide) rfl (ltb rfl) (i2c_mask _) g51 nb52 at_70 rfl fun T h57 X K58 A59 => ?_
  have A59 : Ar Z h57 a48 .char [(.int (p2 &&& (255 : Int32))), (.int (p3 &&& (255 : Int32)))] := A59
  have F60 := (((E43.keep K49).keep K55).keep K58)
  have F61 := (((F46.keep K49 nin0).keep K55 (ninS (Nat.ne_of_lt (Nat.lt_of_lt_of_le E43.lt (Nat.le_trans (Nat.le_refl _) g50))) nin0)).keep K58 (ninS (Nat.ne_of_lt (Nat.lt_of_lt_of_le E43.lt (Nat.le_trans (Nat.le_refl _) g50))) nin0))
  have F62 := (((F45.keep K49 nin0).keep K55 (ninS (Nat.ne_of_lt (Nat.lt_of_lt_of_le E43.lt (Nat.le_trans (Nat.le_refl _) g50))) nin0)).keep K58 (ninS (Nat.ne_of_lt (Nat.lt_of_lt_of_le E43.lt (Nat.le_trans (Nat.le_refl _) g50))) nin0))
  have en63 := X.en
  refine W.callN (pc' := 74) (W := 1) (argsL := [(.ref a48)]) (st := [(.ref a38)]) (k' := 6) (n' := 132) (a := a38) X (c_init1 (x := a38) (a := a48) (cs := [(p2 &&& (255 : Int32)), (p3 &&& (255 : Int32))]) (v0 := .null) (c0 := (.int (0 : Int32))) G X.en F60 F61 F62 A59 (latS (m255 _) (latS (m255 _) lat0)) (ltb rfl) (leb rfl) g41 nb42) rfl (w4 G) (w5 G) (w6 G) (w2 G) (by decide) (by decide) (by decide) rfl (lenOf pd37 rfl) rfl rfl (Nat.le_of_eq rfl) at_71 rfl (by decide) (by decide) (by decide) (by decide) (kv fun T h64 X z65 q66 => ?_)
  obtain ⟨a67, K68, g69, F70⟩ := q66
  have g71 : Z.heap.size ≤ a67 := Nat.le_trans (Nat.le_trans hz0 (Nat.le_trans (Nat.le_trans (Nat.le_trans (Nat.le_trans (Nat.le_trans (Nat.le_trans (Nat.le_trans (Nat.le_trans K3.1 K13.1) K19.1) K22.1) K32.1) K39.1) K49.1) K55.1) K58.1)) g69
  have nb72 : ¬ B a67 := fun q => absurd (en63.2 _ q) (Nat.not_lt.mpr g69)
  refine W.astore (pc' := 76) (ls' := #[.val (.int p0), .val (.int p1), .val (.int p2), .val (.int p3), .val (.int (p0 &&& (255 : Int32))), .val (.int (p1 &&& (255 : Int32))), .val (.int (p2 &&& (255 : Int32))), .val (.int (p3 &&& (255 : Int32))), .val (.ref a2), .val (.ref a38), .unset, .unset, .unset, .unset]) X at_74 rfl rfl rfl ?_
  refine W.bipush (pc' := 78) X (60 : Int32) at_76 (by decide) rfl ?_
  refine W.newA (aty := .char) (pc' := 80) (k' := 7) (n' := 192) (cap := 60) X (w3 G) at_78 (by decide) (by decide) (by decide) rfl (by decide) (by decide) (by decide) (by decide) fun T h73 a74 X K75 g76 g77 nb78 A79 => ?_
  have A79 : Ar Z h73 a74 .char [(.int (0 : Int32)), (.int (0 : Int32)), (.int (0 : Int32)), (.int (0 : Int32)), (.int (0 : Int32)), (.int (0 : Int32)), (.int (0 : Int32)), (.int (0 : Int32)), (.int (0 : Int32)), (.int (0 : Int32)), (.int (0 : Int32)), (.int (0 : Int32)), (.int (0 : Int32)), (.int (0 : Int32)), (.int (0 : Int32)), (.int (0 : Int32)), (.int (0 : Int32)), (.int (0 : Int32)), (.int (0 : Int32)), (.int (0 : Int32)), (.int (0 : Int32)), (.int (0 : Int32)), (.int (0 : Int32)), (.int (0 : Int32)), (.int (0 : Int32)), (.int (0 : Int32)), (.int (0 : Int32)), (.int (0 : Int32)), (.int (0 : Int32)), (.int (0 : Int32)), (.int (0 : Int32)), (.int (0 : Int32)), (.int (0 : Int32)), (.int (0 : Int32)), (.int (0 : Int32)), (.int (0 : Int32)), (.int (0 : Int32)), (.int (0 : Int32)), (.int (0 : Int32)), (.int (0 : Int32)), (.int (0 : Int32)), (.int (0 : Int32)), (.int (0 : Int32)), (.int (0 : Int32)), (.int (0 : Int32)), (.int (0 : Int32)), (.int (0 : Int32)), (.int (0 : Int32)), (.int (0 : Int32)), (.int (0 : Int32)), (.int (0 : Int32)), (.int (0 : Int32)), (.int (0 : Int32)), (.int (0 : Int32)), (.int (0 : Int32)), (.int (0 : Int32)), (.int (0 : Int32)), (.int (0 : Int32)), (.int (0 : Int32)), (.int (0 : Int32))] := A79
  refine W.dup (pc' := 81) X at_80 rfl rfl ?_
  refine W.iconst (pc' := 82) X (0 : Int32) at_81 (by decide) rfl ?_
  refine W.bipush (pc' := 84) X (116 : Int32) at_82 (by decide) rfl ?_
  refine W.castore (pc' := 85) (i := 0) X A79 (by decide) rfl (ltb rfl) (show nar .char (116 : Int32) = (116 : Int32) from by decide) g77 nb78 at_84 rfl fun T h80 X K81 A82 => ?_
  have A82 : Ar Z h80 a74 .char [(.int (116 : Int32)), (.int (0 : Int32)), (.int (0 : Int32)), (.int (0 : Int32)), (.int (0 : Int32)), (.int (0 : Int32)), (.int (0 : Int32)), (.int (0 : Int32)), (.int (0 : Int32)), (.int (0 : Int32)), (.int (0 : Int32)), (.int (0 : Int32)), (.int (0 : Int32)), (.int (0 : Int32)), (.int (0 : Int32)), (.int (0 : Int32)), (.int (0 : Int32)), (.int (0 : Int32)), (.int (0 : Int32)), (.int (0 : Int32)), (.int (0 : Int32)), (.int (0 : Int32)), (.int (0 : Int32)), (.int (0 : Int32)), (.int (0 : Int32)), (.int (0 : Int32)), (.int (0 : Int32)), (.int (0 : Int32)), (.int (0 : Int32)), (.int (0 : Int32)), (.int (0 : Int32)), (.int (0 : Int32)), (.int (0 : Int32)), (.int (0 : Int32)), (.int (0 : Int32)), (.int (0 : Int32)), (.int (0 : Int32)), (.int (0 : Int32)), (.int (0 : Int32)), (.int (0 : Int32)), (.int (0 : Int32)), (.int (0 : Int32)), (.int (0 : Int32)), (.int (0 : Int32)), (.int (0 : Int32)), (.int (0 : Int32)), (.int (0 : Int32)), (.int (0 : Int32)), (.int (0 : Int32)), (.int (0 : Int32)), (.int (0 : Int32)), (.int (0 : Int32)), (.int (0 : Int32)), (.int (0 : Int32)), (.int (0 : Int32)), (.int (0 : Int32)), (.int (0 : Int32)), (.int (0 : Int32)), (.int (0 : Int32)), (.int (0 : Int32))] := A82
  refine W.dup (pc' := 86) X at_85 rfl rfl ?_
  refine W.iconst (pc' := 87) X (1 : Int32) at_86 (by decide) rfl ?_
  refine W.bipush (pc' := 89) X (104 : Int32) at_87 (by decide) rfl ?_
  refine W.castore (pc' := 90) (i := 1) X A82 (by decide) rfl (ltb rfl) (show nar .char (104 : Int32) = (104 : Int32) from by decide) g77 nb78 at_89 rfl fun T h83 X K84 A85 => ?_
  have A85 : Ar Z h83 a74 .char [(.int (116 : Int32)), (.int (104 : Int32)), (.int (0 : Int32)), (.int (0 : Int32)), (.int (0 : Int32)), (.int (0 : Int32)), (.int (0 : Int32)), (.int (0 : Int32)), (.int (0 : Int32)), (.int (0 : Int32)), (.int (0 : Int32)), (.int (0 : Int32)), (.int (0 : Int32)), (.int (0 : Int32)), (.int (0 : Int32)), (.int (0 : Int32)), (.int (0 : Int32)), (.int (0 : Int32)), (.int (0 : Int32)), (.int (0 : Int32)), (.int (0 : Int32)), (.int (0 : Int32)), (.int (0 : Int32)), (.int (0 : Int32)), (.int (0 : Int32)), (.int (0 : Int32)), (.int (0 : Int32)), (.int (0 : Int32)), (.int (0 : Int32)), (.int (0 : Int32)), (.int (0 : Int32)), (.int (0 : Int32)), (.int (0 : Int32)), (.int (0 : Int32)), (.int (0 : Int32)), (.int (0 : Int32)), (.int (0 : Int32)), (.int (0 : Int32)), (.int (0 : Int32)), (.int (0 : Int32)), (.int (0 : Int32)), (.int (0 : Int32)), (.int (0 : Int32)), (.int (0 : Int32)), (.int (0 : Int32)), (.int (0 : Int32)), (.int (0 : Int32)), (.int (0 : Int32)), (.int (0 : Int32)), (.int (0 : Int32)), (.int (0 : Int32)), (.int (0 : Int32)), (.int (0 : Int32)), (.int (0 : Int32)), (.int (0 : Int32)), (.int (0 : Int32)), (.int (0 : Int32)), (.int (0 : Int32)), (.int (0 : Int32)), (.int (0 : Int32))] := A85
  refine W.dup (pc' := 91) X at_90 rfl rfl ?_
  refine W.iconst (pc' := 92) X (2 : Int32) at_91 (by decide) rfl ?_
  refine W.bipush (pc' := 94) X (101 : Int32) at_92 (by decide) rfl ?_
  refine W.castore (pc' := 95) (i := 2) X A85 (by decide) rfl (ltb rfl) (show nar .char (101 : Int32) = (101 : Int32) from by decide) g77 nb78 at_94 rfl fun T h86 X K87 A88 => ?_
  have A88 : Ar Z h86 a74 .char [(.int (116 : Int32)), (.int (104 : Int32)), (.int (101 : Int32)), (.int (0 : Int32)), (.int (0 : Int32)), (.int (0 : Int32)), (.int (0 : Int32)), (.int (0 : Int32)), (.int (0 : Int32)), (.int (0 : Int32)), (.int (0 : Int32)), (.int (0 : Int32)), (.int (0 : Int32)), (.int (0 : Int32)), (.int (0 : Int32)), (.int (0 : Int32)), (.int (0 : Int32)), (.int (0 : Int32)), (.int (0 : Int32)), (.int (0 : Int32)), (.int (0 : Int32)), (.int (0 : Int32)), (.int (0 : Int32)), (.int (0 : Int32)), (.int (0 : Int32)), (.int (0 : Int32)), (.int (0 : Int32)), (.int (0 : Int32)), (.int (0 : Int32)), (.int (0 : Int32)), (.int (0 : Int32)), (.int (0 : Int32)), (.int (0 : Int32)), (.int (0 : Int32)), (.int (0 : Int32)), (.int (0 : Int32)), (.int (0 : Int32)), (.int (0 : Int32)), (.int (0 : Int32)), (.int (0 : Int32)), (.int (0 : Int32)), (.int (0 : Int32)), (.int (0 : Int32)), (.int (0 : Int32)), (.int (0 : Int32)), (.int (0 : Int32)), (.int (0 : Int32)), (.int (0 : Int32)), (.int (0 : Int32)), (.int (0 : Int32)), (.int (0 : Int32)), (.int (0 : Int32)), (.int (0 : Int32)), (.int (0 : Int32)), (.int (0 : Int32)), (.int (0 : Int32)), (.int (0 : Int32)), (.int (0 : Int32)), (.int (0 : Int32)), (.int (0 : Int32))] := A88
  refine W.dup (pc' := 96) X at_95 rfl rfl ?_
  refine W.iconst (pc' := 97) X (3 : Int32) at_96 (by decide) rfl ?_
  refine W.bipush (pc' := 99) X (32 : Int32) at_97 (by decide) rfl ?_
  refine W.castore (pc' := 100) (i := 3) X A88 (by decide) rfl (ltb rfl) (show nar .char (32 : Int32) = (32 : Int32) from by decide) g77 nb78 at_99 rfl fun T h89 X K90 A91 => ?_
  have A91 : Ar Z h89 a74 .char [(.int (116 : Int32)), (.int (104 : Int32)), (.int (101 : Int32)), (.int (32 : Int32)), (.int (0 : Int32)), (.int (0 : Int32)), (.int (0 : Int32)), (.int (0 : Int32)), (.int (0 : Int32)), (.int (0 : Int32)), (.int (0 : Int32)), (.int (0 : Int32)), (.int (0 : Int32)), (.int (0 : Int32)), (.int (0 : Int32)), (.int (0 : Int32)), (.int (0 : Int32)), (.int (0 : Int32)), (.int (0 : Int32)), (.int (0 : Int32)), (.int (0 : Int32)), (.int (0 : Int32)), (.int (0 : Int32)), (.int (0 : Int32)), (.int (0 : Int32)), (.int (0 : Int32)), (.int (0 : Int32)), (.int (0 : Int32)), (.int (0 : Int32)), (.int (0 : Int32)), (.int (0 : Int32)), (.int (0 : Int32)), (.int (0 : Int32)), (.int (0 : Int32)), (.int (0 : Int32)), (.int (0 : Int32)), (.int (0 : Int32)), (.int (0 : Int32)), (.int (0 : Int32)), (.int (0 : Int32)), (.int (0 : Int32)), (.int (0 : Int32)), (.int (0 : Int32)), (.int (0 : Int32)), (.int (0 : Int32)), (.int (0 : Int32)), (.int (0 : Int32)), (.int (0 : Int32)), (.int (0 : Int32)), (.int (0 : Int32)), (.int (0 : Int32)), (.int (0 : Int32)), (.int (0 : Int32)), (.int (0 : Int32)), (.int (0 : Int32)), (.int (0 : Int32)), (.int (0 : Int32)), (.int (0 : Int32)), (.int (0 : Int32)), (.int (0 : Int32))] := A91
  refine W.dup (pc' := 101) X at_100 rfl rfl ?_
  refine W.iconst (pc' := 102) X (4 : Int32) at_101 (by decide) rfl ?_
  refine W.bipush (pc' := 104) X (116 : Int32) at_102 (by decide) rfl ?_
  refine W.castore (pc' := 105) (i := 4) X A91 (by decide) rfl (ltb rfl) (show nar .char (116 : Int32) = (116 : Int32) from by decide) g77 nb78 at_104 rfl fun T h92 X K93 A94 => ?_
  have A94 : Ar Z h92 a74 .char [(.int (116 : Int32)), (.int (104 : Int32)), (.int (101 : Int32)), (.int (32 : Int32)), (.int (116 : Int32)), (.int (0 : Int32)), (.int (0 : Int32)), (.int (0 : Int32)), (.int (0 : Int32)), (.int (0 : Int32)), (.int (0 : Int32)), (.int (0 : Int32)), (.int (0 : Int32)), (.int (0 : Int32)), (.int (0 : Int32)), (.int (0 : Int32)), (.int (0 : Int32)), (.int (0 : Int32)), (.int (0 : Int32)), (.int (0 : Int32)), (.int (0 : Int32)), (.int (0 : Int32)), (.int (0 : Int32)), (.int (0 : Int32)), (.int (0 : Int32)), (.int (0 : Int32)), (.int (0 : Int32)), (.int (0 : Int32)), (.int (0 : Int32)), (.int (0 : Int32)), (.int (0 : Int32)), (.int (0 : Int32)), (.int (0 : Int32)), (.int (0 : Int32)), (.int (0 : Int32)), (.int (0 : Int32)), (.int (0 : Int32)), (.int (0 : Int32)), (.int (0 : Int32)), (.int (0 : Int32)), (.int (0 : Int32)), (.int (0 : Int32)), (.int (0 : Int32)), (.int (0 : Int32)), (.int (0 : Int32)), (.int (0 : Int32)), (.int (0 : Int32)), (.int (0 : Int32)), (.int (0 : Int32)), (.int (0 : Int32)), (.int (0 : Int32)), (.int (0 : Int32)), (.int (0 : Int32)), (.int (0 : Int32)), (.int (0 : Int32)), (.int (0 : Int32)), (.int (0 : Int32)), (.int (0 : Int32)), (.int (0 : Int32)), (.int (0 : Int32))] := A94
  refine W.dup (pc' := 106) X at_105 rfl rfl ?_
  refine W.iconst (pc' := 107) X (5 : Int32) at_106 (by decide) rfl ?_
  refine W.bipush (pc' := 109) X (114 : Int32) at_107 (by decide) rfl ?_
  refine W.castore (pc' := 110) (i := 5) X A94 (by decide) rfl (ltb rfl) (show nar .char (114 : Int32) = (114 : Int32) from by decide) g77 nb78 at_109 rfl fun T h95 X K96 A97 => ?_
  have A97 : Ar Z h95 a74 .char [(.int (116 : Int32)), (.int (104 : Int32)), (.int (101 : Int32)), (.int (32 : Int32)), (.int (116 : Int32)), (.int (114 : Int32)), (.int (0 : Int32)), (.int (0 : Int32)), (.int (0 : Int32)), (.int (0 : Int32)), (.int (0 : Int32)), (.int (0 : Int32)), (.int (0 : Int32)), (.int (0 : Int32)), (.int (0 : Int32)), (.int (0 : Int32)), (.int (0 : Int32)), (.int (0 : Int32)), (.int (0 : Int32)), (.int (0 : Int32)), (.int (0 : Int32)), (.int (0 : Int32)), (.int (0 : Int32)), (.int (0 : Int32)), (.int (0 : Int32)), (.int (0 : Int32)), (.int (0 : Int32)), (.int (0 : Int32)), (.int (0 : Int32)), (.int (0 : Int32)), (.int (0 : Int32)), (.int (0 : Int32)), (.int (0 : Int32)), (.int (0 : Int32)), (.int (0 : Int32)), (.int (0 : Int32)), (.int (0 : Int32)), (.int (0 : Int32)), (.int (0 : Int32)), (.int (0 : Int32)), (.int (0 : Int32)), (.int (0 : Int32)), (.int (0 : Int32)), (.int (0 : Int32)), (.int (0 : Int32)), (.int (0 : Int32)), (.int (0 : Int32)), (.int (0 : Int32)), (.int (0 : Int32)), (.int (0 : Int32)), (.int (0 : Int32)), (.int (0 : Int32)), (.int (0 : Int32)), (.int (0 : Int32)), (.int (0 : Int32)), (.int (0 : Int32)), (.int (0 : Int32)), (.int (0 : Int32)), (.int (0 : Int32)), (.int (0 : Int32))] := A97
  refine W.dup (pc' := 111) X at_110 rfl rfl ?_
  refine W.bipush (pc' := 113) X (6 : Int32) at_111 (by decide) rfl ?_
  refine W.bipush (pc' := 115) X (97 : Int32) at_113 (by decide) rfl ?_
  refine W.castore (pc' := 116) (i := 6) X A97 (by decide) rfl (ltb rfl) (show nar .char (97 : Int32) = (97 : Int32) from by decide) g77 nb78 at_115 rfl fun T h98 X K99 A100 => ?_
  have A100 : Ar Z h98 a74 .char [(.int (116 : Int32)), (.int (104 : Int32)), (.int (101 : Int32)), (.int (32 : Int32)), (.int (116 : Int32)), (.int (114 : Int32)), (.int (97 : Int32)), (.int (0 : Int32)), (.int (0 : Int32)), (.int (0 : Int32)), (.int (0 : Int32)), (.int (0 : Int32)), (.int (0 : Int32)), (.int (0 : Int32)), (.int (0 : Int32)), (.int (0 : Int32)), (.int (0 : Int32)), (.int (0 : Int32)), (.int (0 : Int32)), (.int (0 : Int32)), (.int (0 : Int32)), (.int (0 : Int32)), (.int (0 : Int32)), (.int (0 : Int32)), (.int (0 : Int32)), (.int (0 : Int32)), (.int (0 : Int32)), (.int (0 : Int32)), (.int (0 : Int32)), (.int (0 : Int32)), (.int (0 : Int32)), (.int (0 : Int32)), (.int (0 : Int32)), (.int (0 : Int32)), (.int (0 : Int32)), (.int (0 : Int32)), (.int (0 : Int32)), (.int (0 : Int32)), (.int (0 : Int32)), (.int (0 : Int32)), (.int (0 : Int32)), (.int (0 : Int32)), (.int (0 : Int32)), (.int (0 : Int32)), (.int (0 : Int32)), (.int (0 : Int32)), (.int (0 : Int32)), (.int (0 : Int32)), (.int (0 : Int32)), (.int (0 : Int32)), (.int (0 : Int32)), (.int (0 : Int32)), (.int (0 : Int32)), (.int (0 : Int32)), (.int (0 : Int32)), (.int (0 : Int32)), (.int (0 : Int32)), (.int (0 : Int32)), (.int (0 : Int32)), (.int (0 : Int32))] := A100
  refine W.dup (pc' := 117) X at_116 rfl rfl ?_
  refine W.bipush (pc' := 119) X (7 : Int32) at_117 (by decide) rfl ?_
  refine W.bipush (pc' := 121) X (105 : Int32) at_119 (by decide) rfl ?_
  refine W.castore (pc' := 122) (i := 7) X A100 (by decide) rfl (ltb rfl) (show nar .char (105 : Int32) = (105 : Int32) from by decide) g77 nb78 at_121 rfl fun T h101 X K102 A103 => ?_
  have A103 : Ar Z h101 a74 .char [(.int (116 : Int32)), (.int (104 : Int32)), (.int (101 : Int32)), (.int (32 : Int32)), (.int (116 : Int32)), (.int (114 : Int32)), (.int (97 : Int32)), (.int (105 : Int32)), (.int (0 : Int32)), (.int (0 : Int32)), (.int (0 : Int32)), (.int (0 : Int32)), (.int (0 : Int32)), (.int (0 : Int32)), (.int (0 : Int32)), (.int (0 : Int32)), (.int (0 : Int32)), (.int (0 : Int32)), (.int (0 : Int32)), (.int (0 : Int32)), (.int (0 : Int32)), (.int (0 : Int32)), (.int (0 : Int32)), (.int (0 : Int32)), (.int (0 : Int32)), (.int (0 : Int32)), (.int (0 : Int32)), (.int (0 : Int32)), (.int (0 : Int32)), (.int (0 : Int32)), (.int (0 : Int32)), (.int (0 : Int32)), (.int (0 : Int32)), (.int (0 : Int32)), (.int (0 : Int32)), (.int (0 : Int32)), (.int (0 : Int32)), (.int (0 : Int32)), (.int (0 : Int32)), (.int (0 : Int32)), (.int (0 : Int32)), (.int (0 : Int32)), (.int (0 : Int32)), (.int (0 : Int32)), (.int (0 : Int32)), (.int (0 : Int32)), (.int (0 : Int32)), (.int (0 : Int32)), (.int (0 : Int32)), (.int (0 : Int32)), (.int (0 : Int32)), (.int (0 : Int32)), (.int (0 : Int32)), (.int (0 : Int32)), (.int (0 : Int32)), (.int (0 : Int32)), (.int (0 : Int32)), (.int (0 : Int32)), (.int (0 : Int32)), (.int (0 : Int32))] := A103
  refine W.dup (pc' := 123) X at_122 rfl rfl ?_
  refine W.bipush (pc' := 125) X (8 : Int32) at_123 (by decide) rfl ?_
  refine W.bipush (pc' := 127) X (110 : Int32) at_125 (by decide) rfl ?_
  refine W.castore (pc' := 128) (i := 8) X A103 (by decide) rfl (ltb rfl) (show nar .char (110 : Int32) = (110 : Int32) from by decide) g77 nb78 at_127 rfl fun T h104 X K105 A106 => ?_
  have A106 : Ar Z h104 a74 .char [(.int (116 : Int32)), (.int (104 : Int32)), (.int (101 : Int32)), (.int (32 : Int32)), (.int (116 : Int32)), (.int (114 : Int32)), (.int (97 : Int32)), (.int (105 : Int32)), (.int (110 : Int32)), (.int (0 : Int32)), (.int (0 : Int32)), (.int (0 : Int32)), (.int (0 : Int32)), (.int (0 : Int32)), (.int (0 : Int32)), (.int (0 : Int32)), (.int (0 : Int32)), (.int (0 : Int32)), (.int (0 : Int32)), (.int (0 : Int32)), (.int (0 : Int32)), (.int (0 : Int32)), (.int (0 : Int32)), (.int (0 : Int32)), (.int (0 : Int32)), (.int (0 : Int32)), (.int (0 : Int32)), (.int (0 : Int32)), (.int (0 : Int32)), (.int (0 : Int32)), (.int (0 : Int32)), (.int (0 : Int32)), (.int (0 : Int32)), (.int (0 : Int32)), (.int (0 : Int32)), (.int (0 : Int32)), (.int (0 : Int32)), (.int (0 : Int32)), (.int (0 : Int32)), (.int (0 : Int32)), (.int (0 : Int32)), (.int (0 : Int32)), (.int (0 : Int32)), (.int (0 : Int32)), (.int (0 : Int32)), (.int (0 : Int32)), (.int (0 : Int32)), (.int (0 : Int32)), (.int (0 : Int32)), (.int (0 : Int32)), (.int (0 : Int32)), (.int (0 : Int32)), (.int (0 : Int32)), (.int (0 : Int32)), (.int (0 : Int32)), (.int (0 : Int32)), (.int (0 : Int32)), (.int (0 : Int32)), (.int (0 : Int32)), (.int (0 : Int32))] := A106
  refine W.dup (pc' := 129) X at_128 rfl rfl ?_
  refine W.bipush (pc' := 131) X (9 : Int32) at_129 (by decide) rfl ?_
  refine W.bipush (pc' := 133) X (105 : Int32) at_131 (by decide) rfl ?_
  refine W.castore (pc' := 134) (i := 9) X A106 (by decide) rfl (ltb rfl) (show nar .char (105 : Int32) = (105 : Int32) from by decide) g77 nb78 at_133 rfl fun T h107 X K108 A109 => ?_
  have A109 : Ar Z h107 a74 .char [(.int (116 : Int32)), (.int (104 : Int32)), (.int (101 : Int32)), (.int (32 : Int32)), (.int (116 : Int32)), (.int (114 : Int32)), (.int (97 : Int32)), (.int (105 : Int32)), (.int (110 : Int32)), (.int (105 : Int32)), (.int (0 : Int32)), (.int (0 : Int32)), (.int (0 : Int32)), (.int (0 : Int32)), (.int (0 : Int32)), (.int (0 : Int32)), (.int (0 : Int32)), (.int (0 : Int32)), (.int (0 : Int32)), (.int (0 : Int32)), (.int (0 : Int32)), (.int (0 : Int32)), (.int (0 : Int32)), (.int (0 : Int32)), (.int (0 : Int32)), (.int (0 : Int32)), (.int (0 : Int32)), (.int (0 : Int32)), (.int (0 : Int32)), (.int (0 : Int32)), (.int (0 : Int32)), (.int (0 : Int32)), (.int (0 : Int32)), (.int (0 : Int32)), (.int (0 : Int32)), (.int (0 : Int32)), (.int (0 : Int32)), (.int (0 : Int32)), (.int (0 : Int32)), (.int (0 : Int32)), (.int (0 : Int32)), (.int (0 : Int32)), (.int (0 : Int32)), (.int (0 : Int32)), (.int (0 : Int32)), (.int (0 : Int32)), (.int (0 : Int32)), (.int (0 : Int32)), (.int (0 : Int32)), (.int (0 : Int32)), (.int (0 : Int32)), (.int (0 : Int32)), (.int (0 : Int32)), (.int (0 : Int32)), (.int (0 : Int32)), (.int (0 : Int32)), (.int (0 : Int32)), (.int (0 : Int32)), (.int (0 : Int32)), (.int (0 : Int32))] := A109
  refine W.dup (pc' := 135) X at_134 rfl rfl ?_
  refine W.bipush (pc' := 137) X (10 : Int32) at_135 (by decide) rfl ?_
  refine W.bipush (pc' := 139) X (110 : Int32) at_137 (by decide) rfl ?_
  refine W.castore (pc' := 140) (i := 10) X A109 (by decide) rfl (ltb rfl) (show nar .char (110 : Int32) = (110 : Int32) from by decide) g77 nb78 at_139 rfl fun T h110 X K111 A112 => ?_
  have A112 : Ar Z h110 a74 .char [(.int (116 : Int32)), (.int (104 : Int32)), (.int (101 : Int32)), (.int (32 : Int32)), (.int (116 : Int32)), (.int (114 : Int32)), (.int (97 : Int32)), (.int (105 : Int32)), (.int (110 : Int32)), (.int (105 : Int32)), (.int (110 : Int32)), (.int (0 : Int32)), (.int (0 : Int32)), (.int (0 : Int32)), (.int (0 : Int32)), (.int (0 : Int32)), (.int (0 : Int32)), (.int (0 : Int32)), (.int (0 : Int32)), (.int (0 : Int32)), (.int (0 : Int32)), (.int (0 : Int32)), (.int (0 : Int32)), (.int (0 : Int32)), (.int (0 : Int32)), (.int (0 : Int32)), (.int (0 : Int32)), (.int (0 : Int32)), (.int (0 : Int32)), (.int (0 : Int32)), (.int (0 : Int32)), (.int (0 : Int32)), (.int (0 : Int32)), (.int (0 : Int32)), (.int (0 : Int32)), (.int (0 : Int32)), (.int (0 : Int32)), (.int (0 : Int32)), (.int (0 : Int32)), (.int (0 : Int32)), (.int (0 : Int32)), (.int (0 : Int32)), (.int (0 : Int32)), (.int (0 : Int32)), (.int (0 : Int32)), (.int (0 : Int32)), (.int (0 : Int32)), (.int (0 : Int32)), (.int (0 : Int32)), (.int (0 : Int32)), (.int (0 : Int32)), (.int (0 : Int32)), (.int (0 : Int32)), (.int (0 : Int32)), (.int (0 : Int32)), (.int (0 : Int32)), (.int (0 : Int32)), (.int (0 : Int32)), (.int (0 : Int32)), (.int (0 : Int32))] := A112
  refine W.dup (pc' := 141) X at_140 rfl rfl ?_
  refine W.bipush (pc' := 143) X (11 : Int32) at_141 (by decide) rfl ?_
  refine W.bipush (pc' := 145) X (103 : Int32) at_143 (by decide) rfl ?_
  refine W.castore (pc' := 146) (i := 11) X A112 (by decide) rfl (ltb rfl) (show nar .char (103 : Int32) = (103 : Int32) from by decide) g77 nb78 at_145 rfl fun T h113 X K114 A115 => ?_
  have A115 : Ar Z h113 a74 .char [(.int (116 : Int32)), (.int (104 : Int32)), (.int (101 : Int32)), (.int (32 : Int32)), (.int (116 : Int32)), (.int (114 : Int32)), (.int (97 : Int32)), (.int (105 : Int32)), (.int (110 : Int32)), (.int (105 : Int32)), (.int (110 : Int32)), (.int (103 : Int32)), (.int (0 : Int32)), (.int (0 : Int32)), (.int (0 : Int32)), (.int (0 : Int32)), (.int (0 : Int32)), (.int (0 : Int32)), (.int (0 : Int32)), (.int (0 : Int32)), (.int (0 : Int32)), (.int (0 : Int32)), (.int (0 : Int32)), (.int (0 : Int32)), (.int (0 : Int32)), (.int (0 : Int32)), (.int (0 : Int32)), (.int (0 : Int32)), (.int (0 : Int32)), (.int (0 : Int32)), (.int (0 : Int32)), (.int (0 : Int32)), (.int (0 : Int32)), (.int (0 : Int32)), (.int (0 : Int32)), (.int (0 : Int32)), (.int (0 : Int32)), (.int (0 : Int32)), (.int (0 : Int32)), (.int (0 : Int32)), (.int (0 : Int32)), (.int (0 : Int32)), (.int (0 : Int32)), (.int (0 : Int32)), (.int (0 : Int32)), (.int (0 : Int32)), (.int (0 : Int32)), (.int (0 : Int32)), (.int (0 : Int32)), (.int (0 : Int32)), (.int (0 : Int32)), (.int (0 : Int32)), (.int (0 : Int32)), (.int (0 : Int32)), (.int (0 : Int32)), (.int (0 : Int32)), (.int (0 : Int32)), (.int (0 : Int32)), (.int (0 : Int32)), (.int (0 : Int32))] := A115
  refine W.dup (pc' := 147) X at_146 rfl rfl ?_
  refine W.bipush (pc' := 149) X (12 : Int32) at_147 (by decide) rfl ?_
  refine W.bipush (pc' := 151) X (32 : Int32) at_149 (by decide) rfl ?_
  refine W.castore (pc' := 152) (i := 12) X A115 (by decide) rfl (ltb rfl) (show nar .char (32 : Int32) = (32 : Int32) from by decide) g77 nb78 at_151 rfl fun T h116 X K117 A118 => ?_
  have A118 : Ar Z h116 a74 .char [(.int (116 : Int32)), (.int (104 : Int32)), (.int (101 : Int32)), (.int (32 : Int32)), (.int (116 : Int32)), (.int (114 : Int32)), (.int (97 : Int32)), (.int (105 : Int32)), (.int (110 : Int32)), (.int (105 : Int32)), (.int (110 : Int32)), (.int (103 : Int32)), (.int (32 : Int32)), (.int (0 : Int32)), (.int (0 : Int32)), (.int (0 : Int32)), (.int (0 : Int32)), (.int (0 : Int32)), (.int (0 : Int32)), (.int (0 : Int32)), (.int (0 : Int32)), (.int (0 : Int32)), (.int (0 : Int32)), (.int (0 : Int32)), (.int (0 : Int32)), (.int (0 : Int32)), (.int (0 : Int32)), (.int (0 : Int32)), (.int (0 : Int32)), (.int (0 : Int32)), (.int (0 : Int32)), (.int (0 : Int32)), (.int (0 : Int32)), (.int (0 : Int32)), (.int (0 : Int32)), (.int (0 : Int32)), (.int (0 : Int32)), (.int (0 : Int32)), (.int (0 : Int32)), (.int (0 : Int32)), (.int (0 : Int32)), (.int (0 : Int32)), (.int (0 : Int32)), (.int (0 : Int32)), (.int (0 : Int32)), (.int (0 : Int32)), (.int (0 : Int32)), (.int (0 : Int32)), (.int (0 : Int32)), (.int (0 : Int32)), (.int (0 : Int32)), (.int (0 : Int32)), (.int (0 : Int32)), (.int (0 : Int32)), (.int (0 : Int32)), (.int (0 : Int32)), (.int (0 : Int32)), (.int (0 : Int32)), (.int (0 : Int32)), (.int (0 : Int32))] := A118
  refine W.dup (pc' := 153) X at_152 rfl rfl ?_
  refine W.bipush (pc' := 155) X (13 : Int32) at_153 (by decide) rfl ?_
  refine W.bipush (pc' := 157) X (108 : Int32) at_155 (by decide) rfl ?_
  refine W.castore (pc' := 158) (i := 13) X A118 (by decide) rfl (ltb rfl) (show nar .char (108 : Int32) = (108 : Int32) from by decide) g77 nb78 at_157 rfl fun T h119 X K120 A121 => ?_
  have A121 : Ar Z h119 a74 .char [(.int (116 : Int32)), (.int (104 : Int32)), (.int (101 : Int32)), (.int (32 : Int32)), (.int (116 : Int32)), (.int (114 : Int32)), (.int (97 : Int32)), (.int (105 : Int32)), (.int (110 : Int32)), (.int (105 : Int32)), (.int (110 : Int32)), (.int (103 : Int32)), (.int (32 : Int32)), (.int (108 : Int32)), (.int (0 : Int32)), (.int (0 : Int32)), (.int (0 : Int32)), (.int (0 : Int32)), (.int (0 : Int32)), (.int (0 : Int32)), (.int (0 : Int32)), (.int (0 : Int32)), (.int (0 : Int32)), (.int (0 : Int32)), (.int (0 : Int32)), (.int (0 : Int32)), (.int (0 : Int32)), (.int (0 : Int32)), (.int (0 : Int32)), (.int (0 : Int32)), (.int (0 : Int32)), (.int (0 : Int32)), (.int (0 : Int32)), (.int (0 : Int32)), (.int (0 : Int32)), (.int (0 : Int32)), (.int (0 : Int32)), (.int (0 : Int32)), (.int (0 : Int32)), (.int (0 : Int32)), (.int (0 : Int32)), (.int (0 : Int32)), (.int (0 : Int32)), (.int (0 : Int32)), (.int (0 : Int32)), (.int (0 : Int32)), (.int (0 : Int32)), (.int (0 : Int32)), (.int (0 : Int32)), (.int (0 : Int32)), (.int (0 : Int32)), (.int (0 : Int32)), (.int (0 : Int32)), (.int (0 : Int32)), (.int (0 : Int32)), (.int (0 : Int32)), (.int (0 : Int32)), (.int (0 : Int32)), (.int (0 : Int32)), (.int (0 : Int32))] := A121
  refine W.dup (pc' := 159) X at_158 rfl rfl ?_
  refine W.bipush (pc' := 161) X (14 : Int32) at_159 (by decide) rfl ?_
  refine W.bipush (pc' := 163) X (111 : Int32) at_161 (by decide) rfl ?_
  refine W.castore (pc' := 164) (i := 14) X A121 (by decide) rfl (ltb rfl) (show nar .char (111 : Int32) = (111 : Int32) from by decide) g77 nb78 at_163 rfl fun T h122 X K123 A124 => ?_
  have A124 : Ar Z h122 a74 .char [(.int (116 : Int32)), (.int (104 : Int32)), (.int (101 : Int32)), (.int (32 : Int32)), (.int (116 : Int32)), (.int (114 : Int32)), (.int (97 : Int32)), (.int (105 : Int32)), (.int (110 : Int32)), (.int (105 : Int32)), (.int (110 : Int32)), (.int (103 : Int32)), (.int (32 : Int32)), (.int (108 : Int32)), (.int (111 : Int32)), (.int (0 : Int32)), (.int (0 : Int32)), (.int (0 : Int32)), (.int (0 : Int32)), (.int (0 : Int32)), (.int (0 : Int32)), (.int (0 : Int32)), (.int (0 : Int32)), (.int (0 : Int32)), (.int (0 : Int32)), (.int (0 : Int32)), (.int (0 : Int32)), (.int (0 : Int32)), (.int (0 : Int32)), (.int (0 : Int32)), (.int (0 : Int32)), (.int (0 : Int32)), (.int (0 : Int32)), (.int (0 : Int32)), (.int (0 : Int32)), (.int (0 : Int32)), (.int (0 : Int32)), (.int (0 : Int32)), (.int (0 : Int32)), (.int (0 : Int32)), (.int (0 : Int32)), (.int (0 : Int32)), (.int (0 : Int32)), (.int (0 : Int32)), (.int (0 : Int32)), (.int (0 : Int32)), (.int (0 : Int32)), (.int (0 : Int32)), (.int (0 : Int32)), (.int (0 : Int32)), (.int (0 : Int32)), (.int (0 : Int32)), (.int (0 : Int32)), (.int (0 : Int32)), (.int (0 : Int32)), (.int (0 : Int32)), (.int (0 : Int32)), (.int (0 : Int32)), (.int (0 : Int32)), (.int (0 : Int32))] := A124
  refine W.dup (pc' := 165) X at_164 rfl rfl ?_
  refine W.bipush (pc' := 167) X (15 : Int32) at_165 (by decide) rfl ?_
  refine W.bipush (pc' := 169) X (103 : Int32) at_167 (by decide) rfl ?_
  refine W.castore (pc' := 170) (i := 15) X A124 (by decide) rfl (ltb rfl) (show nar .char (103 : Int32) = (103 : Int32) from by decide) g77 nb78 at_169 rfl fun T h125 X K126 A127 => ?_
  have A127 : Ar Z h125 a74 .char [(.int (116 : Int32)), (.int (104 : Int32)), (.int (101 : Int32)), (.int (32 : Int32)), (.int (116 : Int32)), (.int (114 : Int32)), (.int (97 : Int32)), (.int (105 : Int32)), (.int (110 : Int32)), (.int (105 : Int32)), (.int (110 : Int32)), (.int (103 : Int32)), (.int (32 : Int32)), (.int (108 : Int32)), (.int (111 : Int32)), (.int (103 : Int32)), (.int (0 : Int32)), (.int (0 : Int32)), (.int (0 : Int32)), (.int (0 : Int32)), (.int (0 : Int32)), (.int (0 : Int32)), (.int (0 : Int32)), (.int (0 : Int32)), (.int (0 : Int32)), (.int (0 : Int32)), (.int (0 : Int32)), (.int (0 : Int32)), (.int (0 : Int32)), (.int (0 : Int32)), (.int (0 : Int32)), (.int (0 : Int32)), (.int (0 : Int32)), (.int (0 : Int32)), (.int (0 : Int32)), (.int (0 : Int32)), (.int (0 : Int32)), (.int (0 : Int32)), (.int (0 : Int32)), (.int (0 : Int32)), (.int (0 : Int32)), (.int (0 : Int32)), (.int (0 : Int32)), (.int (0 : Int32)), (.int (0 : Int32)), (.int (0 : Int32)), (.int (0 : Int32)), (.int (0 : Int32)), (.int (0 : Int32)), (.int (0 : Int32)), (.int (0 : Int32)), (.int (0 : Int32)), (.int (0 : Int32)), (.int (0 : Int32)), (.int (0 : Int32)), (.int (0 : Int32)), (.int (0 : Int32)), (.int (0 : Int32)), (.int (0 : Int32)), (.int (0 : Int32))] := A127
  refine W.dup (pc' := 171) X at_170 rfl rfl ?_
  refine W.bipush (pc' := 173) X (16 : Int32) at_171 (by decide) rfl ?_
  refine W.bipush (pc' := 175) X (32 : Int32) at_173 (by decide) rfl ?_
  refine W.castore (pc' := 176) (i := 16) X A127 (by decide) rfl (ltb rfl) (show nar .char (32 : Int32) = (32 : Int32) from by decide) g77 nb78 at_175 rfl fun T h128 X K129 A130 => ?_
  have A130 : Ar Z h128 a74 .char [(.int (116 : Int32)), (.int (104 : Int32)), (.int (101 : Int32)), (.int (32 : Int32)), (.int (116 : Int32)), (.int (114 : Int32)), (.int (97 : Int32)), (.int (105 : Int32)), (.int (110 : Int32)), (.int (105 : Int32)), (.int (110 : Int32)), (.int (103 : Int32)), (.int (32 : Int32)), (.int (108 : Int32)), (.int (111 : Int32)), (.int (103 : Int32)), (.int (32 : Int32)), (.int (0 : Int32)), (.int (0 : Int32)), (.int (0 : Int32)), (.int (0 : Int32)), (.int (0 : Int32)), (.int (0 : Int32)), (.int (0 : Int32)), (.int (0 : Int32)), (.int (0 : Int32)), (.int (0 : Int32)), (.int (0 : Int32)), (.int (0 : Int32)), (.int (0 : Int32)), (.int (0 : Int32)), (.int (0 : Int32)), (.int (0 : Int32)), (.int (0 : Int32)), (.int (0 : Int32)), (.int (0 : Int32)), (.int (0 : Int32)), (.int (0 : Int32)), (.int (0 : Int32)), (.int (0 : Int32)), (.int (0 : Int32)), (.int (0 : Int32)), (.int (0 : Int32)), (.int (0 : Int32)), (.int (0 : Int32)), (.int (0 : Int32)), (.int (0 : Int32)), (.int (0 : Int32)), (.int (0 : Int32)), (.int (0 : Int32)), (.int (0 : Int32)), (.int (0 : Int32)), (.int (0 : Int32)), (.int (0 : Int32)), (.int (0 : Int32)), (.int (0 : Int32)), (.int (0 : Int32)), (.int (0 : Int32)), (.int (0 : Int32)), (.int (0 : Int32))] := A130
  refine W.dup (pc' := 177) X at_176 rfl rfl ?_
  refine W.bipush (pc' := 179) X (17 : Int32) at_177 (by decide) rfl ?_
  refine W.bipush (pc' := 181) X (110 : Int32) at_179 (by decide) rfl ?_
  refine W.castore (pc' := 182) (i := 17) X A130 (by decide) rfl (ltb rfl) (show nar .char (110 : Int32) = (110 : Int32) from by decide) g77 nb78 at_181 rfl fun T h131 X K132 A133 => ?_
  have A133 : Ar Z h131 a74 .char [(.int (116 : Int32)), (.int (104 : Int32)), (.int (101 : Int32)), (.int (32 : Int32)), (.int (116 : Int32)), (.int (114 : Int32)), (.int (97 : Int32)), (.int (105 : Int32)), (.int (110 : Int32)), (.int (105 : Int32)), (.int (110 : Int32)), (.int (103 : Int32)), (.int (32 : Int32)), (.int (108 : Int32)), (.int (111 : Int32)), (.int (103 : Int32)), (.int (32 : Int32)), (.int (110 : Int32)), (.int (0 : Int32)), (.int (0 : Int32)), (.int (0 : Int32)), (.int (0 : Int32)), (.int (0 : Int32)), (.int (0 : Int32)), (.int (0 : Int32)), (.int (0 : Int32)), (.int (0 : Int32)), (.int (0 : Int32)), (.int (0 : Int32)), (.int (0 : Int32)), (.int (0 : Int32)), (.int (0 : Int32)), (.int (0 : Int32)), (.int (0 : Int32)), (.int (0 : Int32)), (.int (0 : Int32)), (.int (0 : Int32)), (.int (0 : Int32)), (.int (0 : Int32)), (.int (0 : Int32)), (.int (0 : Int32)), (.int (0 : Int32)), (.int (0 : Int32)), (.int (0 : Int32)), (.int (0 : Int32)), (.int (0 : Int32)), (.int (0 : Int32)), (.int (0 : Int32)), (.int (0 : Int32)), (.int (0 : Int32)), (.int (0 : Int32)), (.int (0 : Int32)), (.int (0 : Int32)), (.int (0 : Int32)), (.int (0 : Int32)), (.int (0 : Int32)), (.int (0 : Int32)), (.int (0 : Int32)), (.int (0 : Int32)), (.int (0 : Int32))] := A133
  refine W.dup (pc' := 183) X at_182 rfl rfl ?_
  refine W.bipush (pc' := 185) X (18 : Int32) at_183 (by decide) rfl ?_
  refine W.bipush (pc' := 187) X (97 : Int32) at_185 (by decide) rfl ?_
  refine W.castore (pc' := 188) (i := 18) X A133 (by decide) rfl (ltb rfl) (show nar .char (97 : Int32) = (97 : Int32) from by decide) g77 nb78 at_187 rfl fun T h134 X K135 A136 => ?_
  have A136 : Ar Z h134 a74 .char [(.int (116 : Int32)), (.int (104 : Int32)), (.int (101 : Int32)), (.int (32 : Int32)), (.int (116 : Int32)), (.int (114 : Int32)), (.int (97 : Int32)), (.int (105 : Int32)), (.int (110 : Int32)), (.int (105 : Int32)), (.int (110 : Int32)), (.int (103 : Int32)), (.int (32 : Int32)), (.int (108 : Int32)), (.int (111 : Int32)), (.int (103 : Int32)), (.int (32 : Int32)), (.int (110 : Int32)), (.int (97 : Int32)), (.int (0 : Int32)), (.int (0 : Int32)), (.int (0 : Int32)), (.int (0 : Int32)), (.int (0 : Int32)), (.int (0 : Int32)), (.int (0 : Int32)), (.int (0 : Int32)), (.int (0 : Int32)), (.int (0 : Int32)), (.int (0 : Int32)), (.int (0 : Int32)), (.int (0 : Int32)), (.int (0 : Int32)), (.int (0 : Int32)), (.int (0 : Int32)), (.int (0 : Int32)), (.int (0 : Int32)), (.int (0 : Int32)), (.int (0 : Int32)), (.int (0 : Int32)), (.int (0 : Int32)), (.int (0 : Int32)), (.int (0 : Int32)), (.int (0 : Int32)), (.int (0 : Int32)), (.int (0 : Int32)), (.int (0 : Int32)), (.int (0 : Int32)), (.int (0 : Int32)), (.int (0 : Int32)), (.int (0 : Int32)), (.int (0 : Int32)), (.int (0 : Int32)), (.int (0 : Int32)), (.int (0 : Int32)), (.int (0 : Int32)), (.int (0 : Int32)), (.int (0 : Int32)), (.int (0 : Int32)), (.int (0 : Int32))] := A136
  refine W.dup (pc' := 189) X at_188 rfl rfl ?_
  refine W.bipush (pc' := 191) X (19 : Int32) at_189 (by decide) rfl ?_
  refine W.bipush (pc' := 193) X (109 : Int32) at_191 (by decide) rfl ?_
  refine W.castore (pc' := 194) (i := 19) X A136 (by decide) rfl (ltb rfl) (show nar .char (109 : Int32) = (109 : Int32) from by decide) g77 nb78 at_193 rfl fun T h137 X K138 A139 => ?_
  have A139 : Ar Z h137 a74 .char [(.int (116 : Int32)), (.int (104 : Int32)), (.int (101 : Int32)), (.int (32 : Int32)), (.int (116 : Int32)), (.int (114 : Int32)), (.int (97 : Int32)), (.int (105 : Int32)), (.int (110 : Int32)), (.int (105 : Int32)), (.int (110 : Int32)), (.int (103 : Int32)), (.int (32 : Int32)), (.int (108 : Int32)), (.int (111 : Int32)), (.int (103 : Int32)), (.int (32 : Int32)), (.int (110 : Int32)), (.int (97 : Int32)), (.int (109 : Int32)), (.int (0 : Int32)), (.int (0 : Int32)), (.int (0 : Int32)), (.int (0 : Int32)), (.int (0 : Int32)), (.int (0 : Int32)), (.int (0 : Int32)), (.int (0 : Int32)), (.int (0 : Int32)), (.int (0 : Int32)), (.int (0 : Int32)), (.int (0 : Int32)), (.int (0 : Int32)), (.int (0 : Int32)), (.int (0 : Int32)), (.int (0 : Int32)), (.int (0 : Int32)), (.int (0 : Int32)), (.int (0 : Int32)), (.int (0 : Int32)), (.int (0 : Int32)), (.int (0 : Int32)), (.int (0 : Int32)), (.int (0 : Int32)), (.int (0 : Int32)), (.int (0 : Int32)), (.int (0 : Int32)), (.int (0 : Int32)), (.int (0 : Int32)), (.int (0 : Int32)), (.int (0 : Int32)), (.int (0 : Int32)), (.int (0 : Int32)), (.int (0 : Int32)), (.int (0 : Int32)), (.int (0 : Int32)), (.int (0 : Int32)), (.int (0 : Int32)), (.int (0 : Int32)), (.int (0 : Int32))] := A139
  refine W.dup (pc' := 195) X at_194 rfl rfl ?_
  refine W.bipush (pc' := 197) X (20 : Int32) at_195 (by decide) rfl ?_
  refine W.bipush (pc' := 199) X (101 : Int32) at_197 (by decide) rfl ?_
  refine W.castore (pc' := 200) (i := 20) X A139 (by decide) rfl (ltb rfl) (show nar .char (101 : Int32) = (101 : Int32) from by decide) g77 nb78 at_199 rfl fun T h140 X K141 A142 => ?_
  have A142 : Ar Z h140 a74 .char [(.int (116 : Int32)), (.int (104 : Int32)), (.int (101 : Int32)), (.int (32 : Int32)), (.int (116 : Int32)), (.int (114 : Int32)), (.int (97 : Int32)), (.int (105 : Int32)), (.int (110 : Int32)), (.int (105 : Int32)), (.int (110 : Int32)), (.int (103 : Int32)), (.int (32 : Int32)), (.int (108 : Int32)), (.int (111 : Int32)), (.int (103 : Int32)), (.int (32 : Int32)), (.int (110 : Int32)), (.int (97 : Int32)), (.int (109 : Int32)), (.int (101 : Int32)), (.int (0 : Int32)), (.int (0 : Int32)), (.int (0 : Int32)), (.int (0 : Int32)), (.int (0 : Int32)), (.int (0 : Int32)), (.int (0 : Int32)), (.int (0 : Int32)), (.int (0 : Int32)), (.int (0 : Int32)), (.int (0 : Int32)), (.int (0 : Int32)), (.int (0 : Int32)), (.int (0 : Int32)), (.int (0 : Int32)), (.int (0 : Int32)), (.int (0 : Int32)), (.int (0 : Int32)), (.int (0 : Int32)), (.int (0 : Int32)), (.int (0 : Int32)), (.int (0 : Int32)), (.int (0 : Int32)), (.int (0 : Int32)), (.int (0 : Int32)), (.int (0 : Int32)), (.int (0 : Int32)), (.int (0 : Int32)), (.int (0 : Int32)), (.int (0 : Int32)), (.int (0 : Int32)), (.int (0 : Int32)), (.int (0 : Int32)), (.int (0 : Int32)), (.int (0 : Int32)), (.int (0 : Int32)), (.int (0 : Int32)), (.int (0 : Int32)), (.int (0 : Int32))] := A142
  refine W.dup (pc' := 201) X at_200 rfl rfl ?_
  refine W.bipush (pc' := 203) X (21 : Int32) at_201 (by decide) rfl ?_
  refine W.bipush (pc' := 205) X (115 : Int32) at_203 (by decide) rfl ?_
  refine W.castore (pc' := 206) (i := 21) X A142 (by decide) rfl (ltb rfl) (show nar .char (115 : Int32) = (115 : Int32) from by decide) g77 nb78 at_205 rfl fun T h143 X K144 A145 => ?_
  have A145 : Ar Z h143 a74 .char [(.int (116 : Int32)), (.int (104 : Int32)), (.int (101 : Int32)), (.int (32 : Int32)), (.int (116 : Int32)), (.int (114 : Int32)), (.int (97 : Int32)), (.int (105 : Int32)), (.int (110 : Int32)), (.int (105 : Int32)), (.int (110 : Int32)), (.int (103 : Int32)), (.int (32 : Int32)), (.int (108 : Int32)), (.int (111 : Int32)), (.int (103 : Int32)), (.int (32 : Int32)), (.int (110 : Int32)), (.int (97 : Int32)), (.int (109 : Int32)), (.int (101 : Int32)), (.int (115 : Int32)), (.int (0 : Int32)), (.int (0 : Int32)), (.int (0 : Int32)), (.int (0 : Int32)), (.int (0 : Int32)), (.int (0 : Int32)), (.int (0 : Int32)), (.int (0 : Int32)), (.int (0 : Int32)), (.int (0 : Int32)), (.int (0 : Int32)), (.int (0 : Int32)), (.int (0 : Int32)), (.int (0 : Int32)), (.int (0 : Int32)), (.int (0 : Int32)), (.int (0 : Int32)), (.int (0 : Int32)), (.int (0 : Int32)), (.int (0 : Int32)), (.int (0 : Int32)), (.int (0 : Int32)), (.int (0 : Int32)), (.int (0 : Int32)), (.int (0 : Int32)), (.int (0 : Int32)), (.int (0 : Int32)), (.int (0 : Int32)), (.int (0 : Int32)), (.int (0 : Int32)), (.int (0 : Int32)), (.int (0 : Int32)), (.int (0 : Int32)), (.int (0 : Int32)), (.int (0 : Int32)), (.int (0 : Int32)), (.int (0 : Int32)), (.int (0 : Int32))] := A145
  refine W.dup (pc' := 207) X at_206 rfl rfl ?_
  refine W.bipush (pc' := 209) X (22 : Int32) at_207 (by decide) rfl ?_
  refine W.bipush (pc' := 211) X (32 : Int32) at_209 (by decide) rfl ?_
  refine W.castore (pc' := 212) (i := 22) X A145 (by decide) rfl (ltb rfl) (show nar .char (32 : Int32) = (32 : Int32) from by decide) g77 nb78 at_211 rfl fun T h146 X K147 A148 => ?_
  have A148 : Ar Z h146 a74 .char [(.int (116 : Int32)), (.int (104 : Int32)), (.int (101 : Int32)), (.int (32 : Int32)), (.int (116 : Int32)), (.int (114 : Int32)), (.int (97 : Int32)), (.int (105 : Int32)), (.int (110 : Int32)), (.int (105 : Int32)), (.int (110 : Int32)), (.int (103 : Int32)), (.int (32 : Int32)), (.int (108 : Int32)), (.int (111 : Int32)), (.int (103 : Int32)), (.int (32 : Int32)), (.int (110 : Int32)), (.int (97 : Int32)), (.int (109 : Int32)), (.int (101 : Int32)), (.int (115 : Int32)), (.int (32 : Int32)), (.int (0 : Int32)), (.int (0 : Int32)), (.int (0 : Int32)), (.int (0 : Int32)), (.int (0 : Int32)), (.int (0 : Int32)), (.int (0 : Int32)), (.int (0 : Int32)), (.int (0 : Int32)), (.int (0 : Int32)), (.int (0 : Int32)), (.int (0 : Int32)), (.int (0 : Int32)), (.int (0 : Int32)), (.int (0 : Int32)), (.int (0 : Int32)), (.int (0 : Int32)), (.int (0 : Int32)), (.int (0 : Int32)), (.int (0 : Int32)), (.int (0 : Int32)), (.int (0 : Int32)), (.int (0 : Int32)), (.int (0 : Int32)), (.int (0 : Int32)), (.int (0 : Int32)), (.int (0 : Int32)), (.int (0 : Int32)), (.int (0 : Int32)), (.int (0 : Int32)), (.int (0 : Int32)), (.int (0 : Int32)), (.int (0 : Int32)), (.int (0 : Int32)), (.int (0 : Int32)), (.int (0 : Int32)), (.int (0 : Int32))] := A148
  refine W.dup (pc' := 213) X at_212 rfl rfl ?_
  refine W.bipush (pc' := 215) X (23 : Int32) at_213 (by decide) rfl ?_
  refine W.iload (pc' := 217) X at_215 rfl rfl ?_
  refine W.castore (pc' := 218) (i := 23) X A148 (by decide) rfl (ltb rfl) (i2c_mask _) g77 nb78 at_217 rfl fun T h149 X K150 A151 => ?_
  have A151 : Ar Z h149 a74 .char [(.int (116 : Int32)), (.int (104 : Int32)), (.int (101 : Int32)), (.int (32 : Int32)), (.int (116 : Int32)), (.int (114 : Int32)), (.int (97 : Int32)), (.int (105 : Int32)), (.int (110 : Int32)), (.int (105 : Int32)), (.int (110 : Int32)), (.int (103 : Int32)), (.int (32 : Int32)), (.int (108 : Int32)), (.int (111 : Int32)), (.int (103 : Int32)), (.int (32 : Int32)), (.int (110 : Int32)), (.int (97 : Int32)), (.int (109 : Int32)), (.int (101 : Int32)), (.int (115 : Int32)), (.int (32 : Int32)), (.int (p0 &&& (255 : Int32))), (.int (0 : Int32)), (.int (0 : Int32)), (.int (0 : Int32)), (.int (0 : Int32)), (.int (0 : Int32)), (.int (0 : Int32)), (.int (0 : Int32)), (.int (0 : Int32)), (.int (0 : Int32)), (.int (0 : Int32)), (.int (0 : Int32)), (.int (0 : Int32)), (.int (0 : Int32)), (.int (0 : Int32)), (.int (0 : Int32)), (.int (0 : Int32)), (.int (0 : Int32)), (.int (0 : Int32)), (.int (0 : Int32)), (.int (0 : Int32)), (.int (0 : Int32)), (.int (0 : Int32)), (.int (0 : Int32)), (.int (0 : Int32)), (.int (0 : Int32)), (.int (0 : Int32)), (.int (0 : Int32)), (.int (0 : Int32)), (.int (0 : Int32)), (.int (0 : Int32)), (.int (0 : Int32)), (.int (0 : Int32)), (.int (0 : Int32)), (.int (0 : Int32)), (.int (0 : Int32)), (.int (0 : Int32))] := A151
  refine W.dup (pc' := 219) X at_218 rfl rfl ?_
  refine W.bipush (pc' := 221) X (24 : Int32) at_219 (by decide) rfl ?_
  refine W.iload (pc' := 223) X at_221 rfl rfl ?_
  refine W.castore (pc' := 224) (i := 24) X A151 (by decide) rfl (ltb rfl) (i2c_mask _) g77 nb78 at_223 rfl fun T h152 X K153 A154 => ?_
  have A154 : Ar Z h152 a74 .char [(.int (116 : Int32)), (.int (104 : Int32)), (.int (101 : Int32)), (.int (32 : Int32)), (.int (116 : Int32)), (.int (114 : Int32)), (.int (97 : Int32)), (.int (105 : Int32)), (.int (110 : Int32)), (.int (105 : Int32)), (.int (110 : Int32)), (.int (103 : Int32)), (.int (32 : Int32)), (.int (108 : Int32)), (.int (111 : Int32)), (.int (103 : Int32)), (.int (32 : Int32)), (.int (110 : Int32)), (.int (97 : Int32)), (.int (109 : Int32)), (.int (101 : Int32)), (.int (115 : Int32)), (.int (32 : Int32)), (.int (p0 &&& (255 : Int32))), (.int (p1 &&& (255 : Int32))), (.int (0 : Int32)), (.int (0 : Int32)), (.int (0 : Int32)), (.int (0 : Int32)), (.int (0 : Int32)), (.int (0 : Int32)), (.int (0 : Int32)), (.int (0 : Int32)), (.int (0 : Int32)), (.int (0 : Int32)), (.int (0 : Int32)), (.int (0 : Int32)), (.int (0 : Int32)), (.int (0 : Int32)), (.int (0 : Int32)), (.int (0 : Int32)), (.int (0 : Int32)), (.int (0 : Int32)), (.int (0 : Int32)), (.int (0 : Int32)), (.int (0 : Int32)), (.int (0 : Int32)), (.int (0 : Int32)), (.int (0 : Int32)), (.int (0 : Int32)), (.int (0 : Int32)), (.int (0 : Int32)), (.int (0 : Int32)), (.int (0 : Int32)), (.int (0 : Int32)), (.int (0 : Int32)), (.int (0 : Int32)), (.int (0 : Int32)), (.int (0 : Int32)), (.int (0 : Int32))] := A154
  refine W.dup (pc' := 225) X at_224 rfl rfl ?_
  refine W.bipush (pc' := 227) X (25 : Int32) at_225 (by decide) rfl ?_
  refine W.bipush (pc' := 229) X (44 : Int32) at_227 (by decide) rfl ?_
  refine W.castore (pc' := 230) (i := 25) X A154 (by decide) rfl (ltb rfl) (show nar .char (44 : Int32) = (44 : Int32) from by decide) g77 nb78 at_229 rfl fun T h155 X K156 A157 => ?_
  have A157 : Ar Z h155 a74 .char [(.int (116 : Int32)), (.int (104 : Int32)), (.int (101 : Int32)), (.int (32 : Int32)), (.int (116 : Int32)), (.int (114 : Int32)), (.int (97 : Int32)), (.int (105 : Int32)), (.int (110 : Int32)), (.int (105 : Int32)), (.int (110 : Int32)), (.int (103 : Int32)), (.int (32 : Int32)), (.int (108 : Int32)), (.int (111 : Int32)), (.int (103 : Int32)), (.int (32 : Int32)), (.int (110 : Int32)), (.int (97 : Int32)), (.int (109 : Int32)), (.int (101 : Int32)), (.int (115 : Int32)), (.int (32 : Int32)), (.int (p0 &&& (255 : Int32))), (.int (p1 &&& (255 : Int32))), (.int (44 : Int32)), (.int (0 : Int32)), (.int (0 : Int32)), (.int (0 : Int32)), (.int (0 : Int32)), (.int (0 : Int32)), (.int (0 : Int32)), (.int (0 : Int32)), (.int (0 : Int32)), (.int (0 : Int32)), (.int (0 : Int32)), (.int (0 : Int32)), (.int (0 : Int32)), (.int (0 : Int32)), (.int (0 : Int32)), (.int (0 : Int32)), (.int (0 : Int32)), (.int (0 : Int32)), (.int (0 : Int32)), (.int (0 : Int32)), (.int (0 : Int32)), (.int (0 : Int32)), (.int (0 : Int32)), (.int (0 : Int32)), (.int (0 : Int32)), (.int (0 : Int32)), (.int (0 : Int32)), (.int (0 : Int32)), (.int (0 : Int32)), (.int (0 : Int32)), (.int (0 : Int32)), (.int (0 : Int32)), (.int (0 : Int32)), (.int (0 : Int32)), (.int (0 : Int32))] := A157
  refine W.dup (pc' := 231) X at_230 rfl rfl ?_
  refine W.bipush (pc' := 233) X (26 : Int32) at_231 (by decide) rfl ?_
  refine W.bipush (pc' := 235) X (32 : Int32) at_233 (by decide) rfl ?_
  refine W.castore (pc' := 236) (i := 26) X A157 (by decide) rfl (ltb rfl) (show nar .char (32 : Int32) = (32 : Int32) from by decide) g77 nb78 at_235 rfl fun T h158 X K159 A160 => ?_
  have A160 : Ar Z h158 a74 .char [(.int (116 : Int32)), (.int (104 : Int32)), (.int (101 : Int32)), (.int (32 : Int32)), (.int (116 : Int32)), (.int (114 : Int32)), (.int (97 : Int32)), (.int (105 : Int32)), (.int (110 : Int32)), (.int (105 : Int32)), (.int (110 : Int32)), (.int (103 : Int32)), (.int (32 : Int32)), (.int (108 : Int32)), (.int (111 : Int32)), (.int (103 : Int32)), (.int (32 : Int32)), (.int (110 : Int32)), (.int (97 : Int32)), (.int (109 : Int32)), (.int (101 : Int32)), (.int (115 : Int32)), (.int (32 : Int32)), (.int (p0 &&& (255 : Int32))), (.int (p1 &&& (255 : Int32))), (.int (44 : Int32)), (.int (32 : Int32)), (.int (0 : Int32)), (.int (0 : Int32)), (.int (0 : Int32)), (.int (0 : Int32)), (.int (0 : Int32)), (.int (0 : Int32)), (.int (0 : Int32)), (.int (0 : Int32)), (.int (0 : Int32)), (.int (0 : Int32)), (.int (0 : Int32)), (.int (0 : Int32)), (.int (0 : Int32)), (.int (0 : Int32)), (.int (0 : Int32)), (.int (0 : Int32)), (.int (0 : Int32)), (.int (0 : Int32)), (.int (0 : Int32)), (.int (0 : Int32)), (.int (0 : Int32)), (.int (0 : Int32)), (.int (0 : Int32)), (.int (0 : Int32)), (.int (0 : Int32)), (.int (0 : Int32)), (.int (0 : Int32)), (.int (0 : Int32)), (.int (0 : Int32)), (.int (0 : Int32)), (.int (0 : Int32)), (.int (0 : Int32)), (.int (0 : Int32))] := A160
  refine W.dup (pc' := 237) X at_236 rfl rfl ?_
  refine W.bipush (pc' := 239) X (27 : Int32) at_237 (by decide) rfl ?_
  refine W.iload (pc' := 241) X at_239 rfl rfl ?_
  refine W.castore (pc' := 242) (i := 27) X A160 (by decide) rfl (ltb rfl) (i2c_mask _) g77 nb78 at_241 rfl fun T h161 X K162 A163 => ?_
  have A163 : Ar Z h161 a74 .char [(.int (116 : Int32)), (.int (104 : Int32)), (.int (101 : Int32)), (.int (32 : Int32)), (.int (116 : Int32)), (.int (114 : Int32)), (.int (97 : Int32)), (.int (105 : Int32)), (.int (110 : Int32)), (.int (105 : Int32)), (.int (110 : Int32)), (.int (103 : Int32)), (.int (32 : Int32)), (.int (108 : Int32)), (.int (111 : Int32)), (.int (103 : Int32)), (.int (32 : Int32)), (.int (110 : Int32)), (.int (97 : Int32)), (.int (109 : Int32)), (.int (101 : Int32)), (.int (115 : Int32)), (.int (32 : Int32)), (.int (p0 &&& (255 : Int32))), (.int (p1 &&& (255 : Int32))), (.int (44 : Int32)), (.int (32 : Int32)), (.int (p2 &&& (255 : Int32))), (.int (0 : Int32)), (.int (0 : Int32)), (.int (0 : Int32)), (.int (0 : Int32)), (.int (0 : Int32)), (.int (0 : Int32)), (.int (0 : Int32)), (.int (0 : Int32)), (.int (0 : Int32)), (.int (0 : Int32)), (.int (0 : Int32)), (.int (0 : Int32)), (.int (0 : Int32)), (.int (0 : Int32)), (.int (0 : Int32)), (.int (0 : Int32)), (.int (0 : Int32)), (.int (0 : Int32)), (.int (0 : Int32)), (.int (0 : Int32)), (.int (0 : Int32)), (.int (0 : Int32)), (.int (0 : Int32)), (.int (0 : Int32)), (.int (0 : Int32)), (.int (0 : Int32)), (.int (0 : Int32)), (.int (0 : Int32)), (.int (0 : Int32)), (.int (0 : Int32)), (.int (0 : Int32)), (.int (0 : Int32))] := A163
  refine W.dup (pc' := 243) X at_242 rfl rfl ?_
  refine W.bipush (pc' := 245) X (28 : Int32) at_243 (by decide) rfl ?_
  refine W.iload (pc' := 247) X at_245 rfl rfl ?_
  refine W.castore (pc' := 248) (i := 28) X A163 (by decide) rfl (ltb rfl) (i2c_mask _) g77 nb78 at_247 rfl fun T h164 X K165 A166 => ?_
  have A166 : Ar Z h164 a74 .char [(.int (116 : Int32)), (.int (104 : Int32)), (.int (101 : Int32)), (.int (32 : Int32)), (.int (116 : Int32)), (.int (114 : Int32)), (.int (97 : Int32)), (.int (105 : Int32)), (.int (110 : Int32)), (.int (105 : Int32)), (.int (110 : Int32)), (.int (103 : Int32)), (.int (32 : Int32)), (.int (108 : Int32)), (.int (111 : Int32)), (.int (103 : Int32)), (.int (32 : Int32)), (.int (110 : Int32)), (.int (97 : Int32)), (.int (109 : Int32)), (.int (101 : Int32)), (.int (115 : Int32)), (.int (32 : Int32)), (.int (p0 &&& (255 : Int32))), (.int (p1 &&& (255 : Int32))), (.int (44 : Int32)), (.int (32 : Int32)), (.int (p2 &&& (255 : Int32))), (.int (p3 &&& (255 : Int32))), (.int (0 : Int32)), (.int (0 : Int32)), (.int (0 : Int32)), (.int (0 : Int32)), (.int (0 : Int32)), (.int (0 : Int32)), (.int (0 : Int32)), (.int (0 : Int32)), (.int (0 : Int32)), (.int (0 : Int32)), (.int (0 : Int32)), (.int (0 : Int32)), (.int (0 : Int32)), (.int (0 : Int32)), (.int (0 : Int32)), (.int (0 : Int32)), (.int (0 : Int32)), (.int (0 : Int32)), (.int (0 : Int32)), (.int (0 : Int32)), (.int (0 : Int32)), (.int (0 : Int32)), (.int (0 : Int32)), (.int (0 : Int32)), (.int (0 : Int32)), (.int (0 : Int32)), (.int (0 : Int32)), (.int (0 : Int32)), (.int (0 : Int32)), (.int (0 : Int32)), (.int (0 : Int32))] := A166
  refine W.dup (pc' := 249) X at_248 rfl rfl ?_
  refine W.bipush (pc' := 251) X (29 : Int32) at_249 (by decide) rfl ?_
  refine W.bipush (pc' := 253) X (59 : Int32) at_251 (by decide) rfl ?_
  refine W.castore (pc' := 254) (i := 29) X A166 (by decide) rfl (ltb rfl) (show nar .char (59 : Int32) = (59 : Int32) from by decide) g77 nb78 at_253 rfl fun T h167 X K168 A169 => ?_
  have A169 : Ar Z h167 a74 .char [(.int (116 : Int32)), (.int (104 : Int32)), (.int (101 : Int32)), (.int (32 : Int32)), (.int (116 : Int32)), (.int (114 : Int32)), (.int (97 : Int32)), (.int (105 : Int32)), (.int (110 : Int32)), (.int (105 : Int32)), (.int (110 : Int32)), (.int (103 : Int32)), (.int (32 : Int32)), (.int (108 : Int32)), (.int (111 : Int32)), (.int (103 : Int32)), (.int (32 : Int32)), (.int (110 : Int32)), (.int (97 : Int32)), (.int (109 : Int32)), (.int (101 : Int32)), (.int (115 : Int32)), (.int (32 : Int32)), (.int (p0 &&& (255 : Int32))), (.int (p1 &&& (255 : Int32))), (.int (44 : Int32)), (.int (32 : Int32)), (.int (p2 &&& (255 : Int32))), (.int (p3 &&& (255 : Int32))), (.int (59 : Int32)), (.int (0 : Int32)), (.int (0 : Int32)), (.int (0 : Int32)), (.int (0 : Int32)), (.int (0 : Int32)), (.int (0 : Int32)), (.int (0 : Int32)), (.int (0 : Int32)), (.int (0 : Int32)), (.int (0 : Int32)), (.int (0 : Int32)), (.int (0 : Int32)), (.int (0 : Int32)), (.int (0 : Int32)), (.int (0 : Int32)), (.int (0 : Int32)), (.int (0 : Int32)), (.int (0 : Int32)), (.int (0 : Int32)), (.int (0 : Int32)), (.int (0 : Int32)), (.int (0 : Int32)), (.int (0 : Int32)), (.int (0 : Int32)), (.int (0 : Int32)), (.int (0 : Int32)), (.int (0 : Int32)), (.int (0 : Int32)), (.int (0 : Int32)), (.int (0 : Int32))] := A169
  refine W.dup (pc' := 255) X at_254 rfl rfl ?_
  refine W.bipush (pc' := 257) X (30 : Int32) at_255 (by decide) rfl ?_
  refine W.bipush (pc' := 259) X (32 : Int32) at_257 (by decide) rfl ?_
  refine W.castore (pc' := 260) (i := 30) X A169 (by decide) rfl (ltb rfl) (show nar .char (32 : Int32) = (32 : Int32) from by decide) g77 nb78 at_259 rfl fun T h170 X K171 A172 => ?_
  have A172 : Ar Z h170 a74 .char [(.int (116 : Int32)), (.int (104 : Int32)), (.int (101 : Int32)), (.int (32 : Int32)), (.int (116 : Int32)), (.int (114 : Int32)), (.int (97 : Int32)), (.int (105 : Int32)), (.int (110 : Int32)), (.int (105 : Int32)), (.int (110 : Int32)), (.int (103 : Int32)), (.int (32 : Int32)), (.int (108 : Int32)), (.int (111 : Int32)), (.int (103 : Int32)), (.int (32 : Int32)), (.int (110 : Int32)), (.int (97 : Int32)), (.int (109 : Int32)), (.int (101 : Int32)), (.int (115 : Int32)), (.int (32 : Int32)), (.int (p0 &&& (255 : Int32))), (.int (p1 &&& (255 : Int32))), (.int (44 : Int32)), (.int (32 : Int32)), (.int (p2 &&& (255 : Int32))), (.int (p3 &&& (255 : Int32))), (.int (59 : Int32)), (.int (32 : Int32)), (.int (0 : Int32)), (.int (0 : Int32)), (.int (0 : Int32)), (.int (0 : Int32)), (.int (0 : Int32)), (.int (0 : Int32)), (.int (0 : Int32)), (.int (0 : Int32)), (.int (0 : Int32)), (.int (0 : Int32)), (.int (0 : Int32)), (.int (0 : Int32)), (.int (0 : Int32)), (.int (0 : Int32)), (.int (0 : Int32)), (.int (0 : Int32)), (.int (0 : Int32)), (.int (0 : Int32)), (.int (0 : Int32)), (.int (0 : Int32)), (.int (0 : Int32)), (.int (0 : Int32)), (.int (0 : Int32)), (.int (0 : Int32)), (.int (0 : Int32)), (.int (0 : Int32)), (.int (0 : Int32)), (.int (0 : Int32)), (.int (0 : Int32))] := A172
  refine W.dup (pc' := 261) X at_260 rfl rfl ?_
  refine W.bipush (pc' := 263) X (31 : Int32) at_261 (by decide) rfl ?_
  refine W.bipush (pc' := 265) X (119 : Int32) at_263 (by decide) rfl ?_
  refine W.castore (pc' := 266) (i := 31) X A172 (by decide) rfl (ltb rfl) (show nar .char (119 : Int32) = (119 : Int32) from by decide) g77 nb78 at_265 rfl fun T h173 X K174 A175 => ?_
  have A175 : Ar Z h173 a74 .char [(.int (116 : Int32)), (.int (104 : Int32)), (.int (101 : Int32)), (.int (32 : Int32)), (.int (116 : Int32)), (.int (114 : Int32)), (.int (97 : Int32)), (.int (105 : Int32)), (.int (110 : Int32)), (.int (105 : Int32)), (.int (110 : Int32)), (.int (103 : Int32)), (.int (32 : Int32)), (.int (108 : Int32)), (.int (111 : Int32)), (.int (103 : Int32)), (.int (32 : Int32)), (.int (110 : Int32)), (.int (97 : Int32)), (.int (109 : Int32)), (.int (101 : Int32)), (.int (115 : Int32)), (.int (32 : Int32)), (.int (p0 &&& (255 : Int32))), (.int (p1 &&& (255 : Int32))), (.int (44 : Int32)), (.int (32 : Int32)), (.int (p2 &&& (255 : Int32))), (.int (p3 &&& (255 : Int32))), (.int (59 : Int32)), (.int (32 : Int32)), (.int (119 : Int32)), (.int (0 : Int32)), (.int (0 : Int32)), (.int (0 : Int32)), (.int (0 : Int32)), (.int (0 : Int32)), (.int (0 : Int32)), (.int (0 : Int32)), (.int (0 : Int32)), (.int (0 : Int32)), (.int (0 : Int32)), (.int (0 : Int32)), (.int (0 : Int32)), (.int (0 : Int32)), (.int (0 : Int32)), (.int (0 : Int32)), (.int (0 : Int32)), (.int (0 : Int32)), (.int (0 : Int32)), (.int (0 : Int32)), (.int (0 : Int32)), (.int (0 : Int32)), (.int (0 : Int32)), (.int (0 : Int32)), (.int (0 : Int32)), (.int (0 : Int32)), (.int (0 : Int32)), (.int (0 : Int32)), (.int (0 : Int32))] := A175
  refine W.dup (pc' := 267) X at_266 rfl rfl ?_
  refine W.bipush (pc' := 269) X (32 : Int32) at_267 (by decide) rfl ?_
  refine W.bipush (pc' := 271) X (97 : Int32) at_269 (by decide) rfl ?_
  refine W.castore (pc' := 272) (i := 32) X A175 (by decide) rfl (ltb rfl) (show nar .char (97 : Int32) = (97 : Int32) from by decide) g77 nb78 at_271 rfl fun T h176 X K177 A178 => ?_
  have A178 : Ar Z h176 a74 .char [(.int (116 : Int32)), (.int (104 : Int32)), (.int (101 : Int32)), (.int (32 : Int32)), (.int (116 : Int32)), (.int (114 : Int32)), (.int (97 : Int32)), (.int (105 : Int32)), (.int (110 : Int32)), (.int (105 : Int32)), (.int (110 : Int32)), (.int (103 : Int32)), (.int (32 : Int32)), (.int (108 : Int32)), (.int (111 : Int32)), (.int (103 : Int32)), (.int (32 : Int32)), (.int (110 : Int32)), (.int (97 : Int32)), (.int (109 : Int32)), (.int (101 : Int32)), (.int (115 : Int32)), (.int (32 : Int32)), (.int (p0 &&& (255 : Int32))), (.int (p1 &&& (255 : Int32))), (.int (44 : Int32)), (.int (32 : Int32)), (.int (p2 &&& (255 : Int32))), (.int (p3 &&& (255 : Int32))), (.int (59 : Int32)), (.int (32 : Int32)), (.int (119 : Int32)), (.int (97 : Int32)), (.int (0 : Int32)), (.int (0 : Int32)), (.int (0 : Int32)), (.int (0 : Int32)), (.int (0 : Int32)), (.int (0 : Int32)), (.int (0 : Int32)), (.int (0 : Int32)), (.int (0 : Int32)), (.int (0 : Int32)), (.int (0 : Int32)), (.int (0 : Int32)), (.int (0 : Int32)), (.int (0 : Int32)), (.int (0 : Int32)), (.int (0 : Int32)), (.int (0 : Int32)), (.int (0 : Int32)), (.int (0 : Int32)), (.int (0 : Int32)), (.int (0 : Int32)), (.int (0 : Int32)), (.int (0 : Int32)), (.int (0 : Int32)), (.int (0 : Int32)), (.int (0 : Int32)), (.int (0 : Int32))] := A178
  refine W.dup (pc' := 273) X at_272 rfl rfl ?_
  refine W.bipush (pc' := 275) X (33 : Int32) at_273 (by decide) rfl ?_
  refine W.bipush (pc' := 277) X (115 : Int32) at_275 (by decide) rfl ?_
  refine W.castore (pc' := 278) (i := 33) X A178 (by decide) rfl (ltb rfl) (show nar .char (115 : Int32) = (115 : Int32) from by decide) g77 nb78 at_277 rfl fun T h179 X K180 A181 => ?_
  have A181 : Ar Z h179 a74 .char [(.int (116 : Int32)), (.int (104 : Int32)), (.int (101 : Int32)), (.int (32 : Int32)), (.int (116 : Int32)), (.int (114 : Int32)), (.int (97 : Int32)), (.int (105 : Int32)), (.int (110 : Int32)), (.int (105 : Int32)), (.int (110 : Int32)), (.int (103 : Int32)), (.int (32 : Int32)), (.int (108 : Int32)), (.int (111 : Int32)), (.int (103 : Int32)), (.int (32 : Int32)), (.int (110 : Int32)), (.int (97 : Int32)), (.int (109 : Int32)), (.int (101 : Int32)), (.int (115 : Int32)), (.int (32 : Int32)), (.int (p0 &&& (255 : Int32))), (.int (p1 &&& (255 : Int32))), (.int (44 : Int32)), (.int (32 : Int32)), (.int (p2 &&& (255 : Int32))), (.int (p3 &&& (255 : Int32))), (.int (59 : Int32)), (.int (32 : Int32)), (.int (119 : Int32)), (.int (97 : Int32)), (.int (115 : Int32)), (.int (0 : Int32)), (.int (0 : Int32)), (.int (0 : Int32)), (.int (0 : Int32)), (.int (0 : Int32)), (.int (0 : Int32)), (.int (0 : Int32)), (.int (0 : Int32)), (.int (0 : Int32)), (.int (0 : Int32)), (.int (0 : Int32)), (.int (0 : Int32)), (.int (0 : Int32)), (.int (0 : Int32)), (.int (0 : Int32)), (.int (0 : Int32)), (.int (0 : Int32)), (.int (0 : Int32)), (.int (0 : Int32)), (.int (0 : Int32)), (.int (0 : Int32)), (.int (0 : Int32)), (.int (0 : Int32)), (.int (0 : Int32)), (.int (0 : Int32)), (.int (0 : Int32))] := A181
  refine W.dup (pc' := 279) X at_278 rfl rfl ?_
  refine W.bipush (pc' := 281) X (34 : Int32) at_279 (by decide) rfl ?_
  refine W.bipush (pc' := 283) X (32 : Int32) at_281 (by decide) rfl ?_
  refine W.castore (pc' := 284) (i := 34) X A181 (by decide) rfl (ltb rfl) (show nar .char (32 : Int32) = (32 : Int32) from by decide) g77 nb78 at_283 rfl fun T h182 X K183 A184 => ?_
  have A184 : Ar Z h182 a74 .char [(.int (116 : Int32)), (.int (104 : Int32)), (.int (101 : Int32)), (.int (32 : Int32)), (.int (116 : Int32)), (.int (114 : Int32)), (.int (97 : Int32)), (.int (105 : Int32)), (.int (110 : Int32)), (.int (105 : Int32)), (.int (110 : Int32)), (.int (103 : Int32)), (.int (32 : Int32)), (.int (108 : Int32)), (.int (111 : Int32)), (.int (103 : Int32)), (.int (32 : Int32)), (.int (110 : Int32)), (.int (97 : Int32)), (.int (109 : Int32)), (.int (101 : Int32)), (.int (115 : Int32)), (.int (32 : Int32)), (.int (p0 &&& (255 : Int32))), (.int (p1 &&& (255 : Int32))), (.int (44 : Int32)), (.int (32 : Int32)), (.int (p2 &&& (255 : Int32))), (.int (p3 &&& (255 : Int32))), (.int (59 : Int32)), (.int (32 : Int32)), (.int (119 : Int32)), (.int (97 : Int32)), (.int (115 : Int32)), (.int (32 : Int32)), (.int (0 : Int32)), (.int (0 : Int32)), (.int (0 : Int32)), (.int (0 : Int32)), (.int (0 : Int32)), (.int (0 : Int32)), (.int (0 : Int32)), (.int (0 : Int32)), (.int (0 : Int32)), (.int (0 : Int32)), (.int (0 : Int32)), (.int (0 : Int32)), (.int (0 : Int32)), (.int (0 : Int32)), (.int (0 : Int32)), (.int (0 : Int32)), (.int (0 : Int32)), (.int (0 : Int32)), (.int (0 : Int32)), (.int (0 : Int32)), (.int (0 : Int32)), (.int (0 : Int32)), (.int (0 : Int32)), (.int (0 : Int32)), (.int (0 : Int32))] := A184
  refine W.dup (pc' := 285) X at_284 rfl rfl ?_
  refine W.bipush (pc' := 287) X (35 : Int32) at_285 (by decide) rfl ?_
  refine W.bipush (pc' := 289) X (105 : Int32) at_287 (by decide) rfl ?_
  refine W.castore (pc' := 290) (i := 35) X A184 (by decide) rfl (ltb rfl) (show nar .char (105 : Int32) = (105 : Int32) from by decide) g77 nb78 at_289 rfl fun T h185 X K186 A187 => ?_
  have A187 : Ar Z h185 a74 .char [(.int (116 : Int32)), (.int (104 : Int32)), (.int (101 : Int32)), (.int (32 : Int32)), (.int (116 : Int32)), (.int (114 : Int32)), (.int (97 : Int32)), (.int (105 : Int32)), (.int (110 : Int32)), (.int (105 : Int32)), (.int (110 : Int32)), (.int (103 : Int32)), (.int (32 : Int32)), (.int (108 : Int32)), (.int (111 : Int32)), (.int (103 : Int32)), (.int (32 : Int32)), (.int (110 : Int32)), (.int (97 : Int32)), (.int (109 : Int32)), (.int (101 : Int32)), (.int (115 : Int32)), (.int (32 : Int32)), (.int (p0 &&& (255 : Int32))), (.int (p1 &&& (255 : Int32))), (.int (44 : Int32)), (.int (32 : Int32)), (.int (p2 &&& (255 : Int32))), (.int (p3 &&& (255 : Int32))), (.int (59 : Int32)), (.int (32 : Int32)), (.int (119 : Int32)), (.int (97 : Int32)), (.int (115 : Int32)), (.int (32 : Int32)), (.int (105 : Int32)), (.int (0 : Int32)), (.int (0 : Int32)), (.int (0 : Int32)), (.int (0 : Int32)), (.int (0 : Int32)), (.int (0 : Int32)), (.int (0 : Int32)), (.int (0 : Int32)), (.int (0 : Int32)), (.int (0 : Int32)), (.int (0 : Int32)), (.int (0 : Int32)), (.int (0 : Int32)), (.int (0 : Int32)), (.int (0 : Int32)), (.int (0 : Int32)), (.int (0 : Int32)), (.int (0 : Int32)), (.int (0 : Int32)), (.int (0 : Int32)), (.int (0 : Int32)), (.int (0 : Int32)), (.int (0 : Int32)), (.int (0 : Int32))] := A187
  refine W.dup (pc' := 291) X at_290 rfl rfl ?_
  refine W.bipush (pc' := 293) X (36 : Int32) at_291 (by decide) rfl ?_
  refine W.bipush (pc' := 295) X (116 : Int32) at_293 (by decide) rfl ?_
  refine W.castore (pc' := 296) (i := 36) X A187 (by decide) rfl (ltb rfl) (show nar .char (116 : Int32) = (116 : Int32) from by decide) g77 nb78 at_295 rfl fun T h188 X K189 A190 => ?_
  have A190 : Ar Z h188 a74 .char [(.int (116 : Int32)), (.int (104 : Int32)), (.int (101 : Int32)), (.int (32 : Int32)), (.int (116 : Int32)), (.int (114 : Int32)), (.int (97 : Int32)), (.int (105 : Int32)), (.int (110 : Int32)), (.int (105 : Int32)), (.int (110 : Int32)), (.int (103 : Int32)), (.int (32 : Int32)), (.int (108 : Int32)), (.int (111 : Int32)), (.int (103 : Int32)), (.int (32 : Int32)), (.int (110 : Int32)), (.int (97 : Int32)), (.int (109 : Int32)), (.int (101 : Int32)), (.int (115 : Int32)), (.int (32 : Int32)), (.int (p0 &&& (255 : Int32))), (.int (p1 &&& (255 : Int32))), (.int (44 : Int32)), (.int (32 : Int32)), (.int (p2 &&& (255 : Int32))), (.int (p3 &&& (255 : Int32))), (.int (59 : Int32)), (.int (32 : Int32)), (.int (119 : Int32)), (.int (97 : Int32)), (.int (115 : Int32)), (.int (32 : Int32)), (.int (105 : Int32)), (.int (116 : Int32)), (.int (0 : Int32)), (.int (0 : Int32)), (.int (0 : Int32)), (.int (0 : Int32)), (.int (0 : Int32)), (.int (0 : Int32)), (.int (0 : Int32)), (.int (0 : Int32)), (.int (0 : Int32)), (.int (0 : Int32)), (.int (0 : Int32)), (.int (0 : Int32)), (.int (0 : Int32)), (.int (0 : Int32)), (.int (0 : Int32)), (.int (0 : Int32)), (.int (0 : Int32)), (.int (0 : Int32)), (.int (0 : Int32)), (.int (0 : Int32)), (.int (0 : Int32)), (.int (0 : Int32)), (.int (0 : Int32))] := A190
  refine W.dup (pc' := 297) X at_296 rfl rfl ?_
  refine W.bipush (pc' := 299) X (37 : Int32) at_297 (by decide) rfl ?_
  refine W.bipush (pc' := 301) X (32 : Int32) at_299 (by decide) rfl ?_
  refine W.castore (pc' := 302) (i := 37) X A190 (by decide) rfl (ltb rfl) (show nar .char (32 : Int32) = (32 : Int32) from by decide) g77 nb78 at_301 rfl fun T h191 X K192 A193 => ?_
  have A193 : Ar Z h191 a74 .char [(.int (116 : Int32)), (.int (104 : Int32)), (.int (101 : Int32)), (.int (32 : Int32)), (.int (116 : Int32)), (.int (114 : Int32)), (.int (97 : Int32)), (.int (105 : Int32)), (.int (110 : Int32)), (.int (105 : Int32)), (.int (110 : Int32)), (.int (103 : Int32)), (.int (32 : Int32)), (.int (108 : Int32)), (.int (111 : Int32)), (.int (103 : Int32)), (.int (32 : Int32)), (.int (110 : Int32)), (.int (97 : Int32)), (.int (109 : Int32)), (.int (101 : Int32)), (.int (115 : Int32)), (.int (32 : Int32)), (.int (p0 &&& (255 : Int32))), (.int (p1 &&& (255 : Int32))), (.int (44 : Int32)), (.int (32 : Int32)), (.int (p2 &&& (255 : Int32))), (.int (p3 &&& (255 : Int32))), (.int (59 : Int32)), (.int (32 : Int32)), (.int (119 : Int32)), (.int (97 : Int32)), (.int (115 : Int32)), (.int (32 : Int32)), (.int (105 : Int32)), (.int (116 : Int32)), (.int (32 : Int32)), (.int (0 : Int32)), (.int (0 : Int32)), (.int (0 : Int32)), (.int (0 : Int32)), (.int (0 : Int32)), (.int (0 : Int32)), (.int (0 : Int32)), (.int (0 : Int32)), (.int (0 : Int32)), (.int (0 : Int32)), (.int (0 : Int32)), (.int (0 : Int32)), (.int (0 : Int32)), (.int (0 : Int32)), (.int (0 : Int32)), (.int (0 : Int32)), (.int (0 : Int32)), (.int (0 : Int32)), (.int (0 : Int32)), (.int (0 : Int32)), (.int (0 : Int32)), (.int (0 : Int32))] := A193
  refine W.dup (pc' := 303) X at_302 rfl rfl ?_
  refine W.bipush (pc' := 305) X (38 : Int32) at_303 (by decide) rfl ?_
  refine W.bipush (pc' := 307) X (109 : Int32) at_305 (by decide) rfl ?_
  refine W.castore (pc' := 308) (i := 38) X A193 (by decide) rfl (ltb rfl) (show nar .char (109 : Int32) = (109 : Int32) from by decide) g77 nb78 at_307 rfl fun T h194 X K195 A196 => ?_
  have A196 : Ar Z h194 a74 .char [(.int (116 : Int32)), (.int (104 : Int32)), (.int (101 : Int32)), (.int (32 : Int32)), (.int (116 : Int32)), (.int (114 : Int32)), (.int (97 : Int32)), (.int (105 : Int32)), (.int (110 : Int32)), (.int (105 : Int32)), (.int (110 : Int32)), (.int (103 : Int32)), (.int (32 : Int32)), (.int (108 : Int32)), (.int (111 : Int32)), (.int (103 : Int32)), (.int (32 : Int32)), (.int (110 : Int32)), (.int (97 : Int32)), (.int (109 : Int32)), (.int (101 : Int32)), (.int (115 : Int32)), (.int (32 : Int32)), (.int (p0 &&& (255 : Int32))), (.int (p1 &&& (255 : Int32))), (.int (44 : Int32)), (.int (32 : Int32)), (.int (p2 &&& (255 : Int32))), (.int (p3 &&& (255 : Int32))), (.int (59 : Int32)), (.int (32 : Int32)), (.int (119 : Int32)), (.int (97 : Int32)), (.int (115 : Int32)), (.int (32 : Int32)), (.int (105 : Int32)), (.int (116 : Int32)), (.int (32 : Int32)), (.int (109 : Int32)), (.int (0 : Int32)), (.int (0 : Int32)), (.int (0 : Int32)), (.int (0 : Int32)), (.int (0 : Int32)), (.int (0 : Int32)), (.int (0 : Int32)), (.int (0 : Int32)), (.int (0 : Int32)), (.int (0 : Int32)), (.int (0 : Int32)), (.int (0 : Int32)), (.int (0 : Int32)), (.int (0 : Int32)), (.int (0 : Int32)), (.int (0 : Int32)), (.int (0 : Int32)), (.int (0 : Int32)), (.int (0 : Int32)), (.int (0 : Int32)), (.int (0 : Int32))] := A196
  refine W.dup (pc' := 309) X at_308 rfl rfl ?_
  refine W.bipush (pc' := 311) X (39 : Int32) at_309 (by decide) rfl ?_
  refine W.bipush (pc' := 313) X (97 : Int32) at_311 (by decide) rfl ?_
  refine W.castore (pc' := 314) (i := 39) X A196 (by decide) rfl (ltb rfl) (show nar .char (97 : Int32) = (97 : Int32) from by decide) g77 nb78 at_313 rfl fun T h197 X K198 A199 => ?_
  have A199 : Ar Z h197 a74 .char [(.int (116 : Int32)), (.int (104 : Int32)), (.int (101 : Int32)), (.int (32 : Int32)), (.int (116 : Int32)), (.int (114 : Int32)), (.int (97 : Int32)), (.int (105 : Int32)), (.int (110 : Int32)), (.int (105 : Int32)), (.int (110 : Int32)), (.int (103 : Int32)), (.int (32 : Int32)), (.int (108 : Int32)), (.int (111 : Int32)), (.int (103 : Int32)), (.int (32 : Int32)), (.int (110 : Int32)), (.int (97 : Int32)), (.int (109 : Int32)), (.int (101 : Int32)), (.int (115 : Int32)), (.int (32 : Int32)), (.int (p0 &&& (255 : Int32))), (.int (p1 &&& (255 : Int32))), (.int (44 : Int32)), (.int (32 : Int32)), (.int (p2 &&& (255 : Int32))), (.int (p3 &&& (255 : Int32))), (.int (59 : Int32)), (.int (32 : Int32)), (.int (119 : Int32)), (.int (97 : Int32)), (.int (115 : Int32)), (.int (32 : Int32)), (.int (105 : Int32)), (.int (116 : Int32)), (.int (32 : Int32)), (.int (109 : Int32)), (.int (97 : Int32)), (.int (0 : Int32)), (.int (0 : Int32)), (.int (0 : Int32)), (.int (0 : Int32)), (.int (0 : Int32)), (.int (0 : Int32)), (.int (0 : Int32)), (.int (0 : Int32)), (.int (0 : Int32)), (.int (0 : Int32)), (.int (0 : Int32)), (.int (0 : Int32)), (.int (0 : Int32)), (.int (0 : Int32)), (.int (0 : Int32)), (.int (0 : Int32)), (.int (0 : Int32)), (.int (0 : Int32)), (.int (0 : Int32)), (.int (0 : Int32))] := A199
  refine W.dup (pc' := 315) X at_314 rfl rfl ?_
  refine W.bipush (pc' := 317) X (40 : Int32) at_315 (by decide) rfl ?_
  refine W.bipush (pc' := 319) X (100 : Int32) at_317 (by decide) rfl ?_
  refine W.castore (pc' := 320) (i := 40) X A199 (by decide) rfl (ltb rfl) (show nar .char (100 : Int32) = (100 : Int32) from by decide) g77 nb78 at_319 rfl fun T h200 X K201 A202 => ?_
  have A202 : Ar Z h200 a74 .char [(.int (116 : Int32)), (.int (104 : Int32)), (.int (101 : Int32)), (.int (32 : Int32)), (.int (116 : Int32)), (.int (114 : Int32)), (.int (97 : Int32)), (.int (105 : Int32)), (.int (110 : Int32)), (.int (105 : Int32)), (.int (110 : Int32)), (.int (103 : Int32)), (.int (32 : Int32)), (.int (108 : Int32)), (.int (111 : Int32)), (.int (103 : Int32)), (.int (32 : Int32)), (.int (110 : Int32)), (.int (97 : Int32)), (.int (109 : Int32)), (.int (101 : Int32)), (.int (115 : Int32)), (.int (32 : Int32)), (.int (p0 &&& (255 : Int32))), (.int (p1 &&& (255 : Int32))), (.int (44 : Int32)), (.int (32 : Int32)), (.int (p2 &&& (255 : Int32))), (.int (p3 &&& (255 : Int32))), (.int (59 : Int32)), (.int (32 : Int32)), (.int (119 : Int32)), (.int (97 : Int32)), (.int (115 : Int32)), (.int (32 : Int32)), (.int (105 : Int32)), (.int (116 : Int32)), (.int (32 : Int32)), (.int (109 : Int32)), (.int (97 : Int32)), (.int (100 : Int32)), (.int (0 : Int32)), (.int (0 : Int32)), (.int (0 : Int32)), (.int (0 : Int32)), (.int (0 : Int32)), (.int (0 : Int32)), (.int (0 : Int32)), (.int (0 : Int32)), (.int (0 : Int32)), (.int (0 : Int32)), (.int (0 : Int32)), (.int (0 : Int32)), (.int (0 : Int32)), (.int (0 : Int32)), (.int (0 : Int32)), (.int (0 : Int32)), (.int (0 : Int32)), (.int (0 : Int32)), (.int (0 : Int32))] := A202
  refine W.dup (pc' := 321) X at_320 rfl rfl ?_
  refine W.bipush (pc' := 323) X (41 : Int32) at_321 (by decide) rfl ?_
  refine W.bipush (pc' := 325) X (101 : Int32) at_323 (by decide) rfl ?_
  refine W.castore (pc' := 326) (i := 41) X A202 (by decide) rfl (ltb rfl) (show nar .char (101 : Int32) = (101 : Int32) from by decide) g77 nb78 at_325 rfl fun T h203 X K204 A205 => ?_
  have A205 : Ar Z h203 a74 .char [(.int (116 : Int32)), (.int (104 : Int32)), (.int (101 : Int32)), (.int (32 : Int32)), (.int (116 : Int32)), (.int (114 : Int32)), (.int (97 : Int32)), (.int (105 : Int32)), (.int (110 : Int32)), (.int (105 : Int32)), (.int (110 : Int32)), (.int (103 : Int32)), (.int (32 : Int32)), (.int (108 : Int32)), (.int (111 : Int32)), (.int (103 : Int32)), (.int (32 : Int32)), (.int (110 : Int32)), (.int (97 : Int32)), (.int (109 : Int32)), (.int (101 : Int32)), (.int (115 : Int32)), (.int (32 : Int32)), (.int (p0 &&& (255 : Int32))), (.int (p1 &&& (255 : Int32))), (.int (44 : Int32)), (.int (32 : Int32)), (.int (p2 &&& (255 : Int32))), (.int (p3 &&& (255 : Int32))), (.int (59 : Int32)), (.int (32 : Int32)), (.int (119 : Int32)), (.int (97 : Int32)), (.int (115 : Int32)), (.int (32 : Int32)), (.int (105 : Int32)), (.int (116 : Int32)), (.int (32 : Int32)), (.int (109 : Int32)), (.int (97 : Int32)), (.int (100 : Int32)), (.int (101 : Int32)), (.int (0 : Int32)), (.int (0 : Int32)), (.int (0 : Int32)), (.int (0 : Int32)), (.int (0 : Int32)), (.int (0 : Int32)), (.int (0 : Int32)), (.int (0 : Int32)), (.int (0 : Int32)), (.int (0 : Int32)), (.int (0 : Int32)), (.int (0 : Int32)), (.int (0 : Int32)), (.int (0 : Int32)), (.int (0 : Int32)), (.int (0 : Int32)), (.int (0 : Int32)), (.int (0 : Int32))] := A205
  refine W.dup (pc' := 327) X at_326 rfl rfl ?_
  refine W.bipush (pc' := 329) X (42 : Int32) at_327 (by decide) rfl ?_
  refine W.bipush (pc' := 331) X (32 : Int32) at_329 (by decide) rfl ?_
  refine W.castore (pc' := 332) (i := 42) X A205 (by decide) rfl (ltb rfl) (show nar .char (32 : Int32) = (32 : Int32) from by decide) g77 nb78 at_331 rfl fun T h206 X K207 A208 => ?_
  have A208 : Ar Z h206 a74 .char [(.int (116 : Int32)), (.int (104 : Int32)), (.int (101 : Int32)), (.int (32 : Int32)), (.int (116 : Int32)), (.int (114 : Int32)), (.int (97 : Int32)), (.int (105 : Int32)), (.int (110 : Int32)), (.int (105 : Int32)), (.int (110 : Int32)), (.int (103 : Int32)), (.int (32 : Int32)), (.int (108 : Int32)), (.int (111 : Int32)), (.int (103 : Int32)), (.int (32 : Int32)), (.int (110 : Int32)), (.int (97 : Int32)), (.int (109 : Int32)), (.int (101 : Int32)), (.int (115 : Int32)), (.int (32 : Int32)), (.int (p0 &&& (255 : Int32))), (.int (p1 &&& (255 : Int32))), (.int (44 : Int32)), (.int (32 : Int32)), (.int (p2 &&& (255 : Int32))), (.int (p3 &&& (255 : Int32))), (.int (59 : Int32)), (.int (32 : Int32)), (.int (119 : Int32)), (.int (97 : Int32)), (.int (115 : Int32)), (.int (32 : Int32)), (.int (105 : Int32)), (.int (116 : Int32)), (.int (32 : Int32)), (.int (109 : Int32)), (.int (97 : Int32)), (.int (100 : Int32)), (.int (101 : Int32)), (.int (32 : Int32)), (.int (0 : Int32)), (.int (0 : Int32)), (.int (0 : Int32)), (.int (0 : Int32)), (.int (0 : Int32)), (.int (0 : Int32)), (.int (0 : Int32)), (.int (0 : Int32)), (.int (0 : Int32)), (.int (0 : Int32)), (.int (0 : Int32)), (.int (0 : Int32)), (.int (0 : Int32)), (.int (0 : Int32)), (.int (0 : Int32)), (.int (0 : Int32)), (.int (0 : Int32))] := A208
  refine W.dup (pc' := 333) X at_332 rfl rfl ?_
  refine W.bipush (pc' := 335) X (43 : Int32) at_333 (by decide) rfl ?_
  refine W.bipush (pc' := 337) X (111 : Int32) at_335 (by decide) rfl ?_
  refine W.castore (pc' := 338) (i := 43) X A208 (by decide) rfl (ltb rfl) (show nar .char (111 : Int32) = (111 : Int32) from by decide) g77 nb78 at_337 rfl fun T h209 X K210 A211 => ?_
  have A211 : Ar Z h209 a74 .char [(.int (116 : Int32)), (.int (104 : Int32)), (.int (101 : Int32)), (.int (32 : Int32)), (.int (116 : Int32)), (.int (114 : Int32)), (.int (97 : Int32)), (.int (105 : Int32)), (.int (110 : Int32)), (.int (105 : Int32)), (.int (110 : Int32)), (.int (103 : Int32)), (.int (32 : Int32)), (.int (108 : Int32)), (.int (111 : Int32)), (.int (103 : Int32)), (.int (32 : Int32)), (.int (110 : Int32)), (.int (97 : Int32)), (.int (109 : Int32)), (.int (101 : Int32)), (.int (115 : Int32)), (.int (32 : Int32)), (.int (p0 &&& (255 : Int32))), (.int (p1 &&& (255 : Int32))), (.int (44 : Int32)), (.int (32 : Int32)), (.int (p2 &&& (255 : Int32))), (.int (p3 &&& (255 : Int32))), (.int (59 : Int32)), (.int (32 : Int32)), (.int (119 : Int32)), (.int (97 : Int32)), (.int (115 : Int32)), (.int (32 : Int32)), (.int (105 : Int32)), (.int (116 : Int32)), (.int (32 : Int32)), (.int (109 : Int32)), (.int (97 : Int32)), (.int (100 : Int32)), (.int (101 : Int32)), (.int (32 : Int32)), (.int (111 : Int32)), (.int (0 : Int32)), (.int (0 : Int32)), (.int (0 : Int32)), (.int (0 : Int32)), (.int (0 : Int32)), (.int (0 : Int32)), (.int (0 : Int32)), (.int (0 : Int32)), (.int (0 : Int32)), (.int (0 : Int32)), (.int (0 : Int32)), (.int (0 : Int32)), (.int (0 : Int32)), (.int (0 : Int32)), (.int (0 : Int32)), (.int (0 : Int32))] := A211
  refine W.dup (pc' := 339) X at_338 rfl rfl ?_
  refine W.bipush (pc' := 341) X (44 : Int32) at_339 (by decide) rfl ?_
  refine W.bipush (pc' := 343) X (110 : Int32) at_341 (by decide) rfl ?_
  refine W.castore (pc' := 344) (i := 44) X A211 (by decide) rfl (ltb rfl) (show nar .char (110 : Int32) = (110 : Int32) from by decide) g77 nb78 at_343 rfl fun T h212 X K213 A214 => ?_
  have A214 : Ar Z h212 a74 .char [(.int (116 : Int32)), (.int (104 : Int32)), (.int (101 : Int32)), (.int (32 : Int32)), (.int (116 : Int32)), (.int (114 : Int32)), (.int (97 : Int32)), (.int (105 : Int32)), (.int (110 : Int32)), (.int (105 : Int32)), (.int (110 : Int32)), (.int (103 : Int32)), (.int (32 : Int32)), (.int (108 : Int32)), (.int (111 : Int32)), (.int (103 : Int32)), (.int (32 : Int32)), (.int (110 : Int32)), (.int (97 : Int32)), (.int (109 : Int32)), (.int (101 : Int32)), (.int (115 : Int32)), (.int (32 : Int32)), (.int (p0 &&& (255 : Int32))), (.int (p1 &&& (255 : Int32))), (.int (44 : Int32)), (.int (32 : Int32)), (.int (p2 &&& (255 : Int32))), (.int (p3 &&& (255 : Int32))), (.int (59 : Int32)), (.int (32 : Int32)), (.int (119 : Int32)), (.int (97 : Int32)), (.int (115 : Int32)), (.int (32 : Int32)), (.int (105 : Int32)), (.int (116 : Int32)), (.int (32 : Int32)), (.int (109 : Int32)), (.int (97 : Int32)), (.int (100 : Int32)), (.int (101 : Int32)), (.int (32 : Int32)), (.int (111 : Int32)), (.int (110 : Int32)), (.int (0 : Int32)), (.int (0 : Int32)), (.int (0 : Int32)), (.int (0 : Int32)), (.int (0 : Int32)), (.int (0 : Int32)), (.int (0 : Int32)), (.int (0 : Int32)), (.int (0 : Int32)), (.int (0 : Int32)), (.int (0 : Int32)), (.int (0 : Int32)), (.int (0 : Int32)), (.int (0 : Int32)), (.int (0 : Int32))] := A214
  refine W.dup (pc' := 345) X at_344 rfl rfl ?_
  refine W.bipush (pc' := 347) X (45 : Int32) at_345 (by decide) rfl ?_
  refine W.bipush (pc' := 349) X (32 : Int32) at_347 (by decide) rfl ?_
  refine W.castore (pc' := 350) (i := 45) X A214 (by decide) rfl (ltb rfl) (show nar .char (32 : Int32) = (32 : Int32) from by decide) g77 nb78 at_349 rfl fun T h215 X K216 A217 => ?_
  have A217 : Ar Z h215 a74 .char [(.int (116 : Int32)), (.int (104 : Int32)), (.int (101 : Int32)), (.int (32 : Int32)), (.int (116 : Int32)), (.int (114 : Int32)), (.int (97 : Int32)), (.int (105 : Int32)), (.int (110 : Int32)), (.int (105 : Int32)), (.int (110 : Int32)), (.int (103 : Int32)), (.int (32 : Int32)), (.int (108 : Int32)), (.int (111 : Int32)), (.int (103 : Int32)), (.int (32 : Int32)), (.int (110 : Int32)), (.int (97 : Int32)), (.int (109 : Int32)), (.int (101 : Int32)), (.int (115 : Int32)), (.int (32 : Int32)), (.int (p0 &&& (255 : Int32))), (.int (p1 &&& (255 : Int32))), (.int (44 : Int32)), (.int (32 : Int32)), (.int (p2 &&& (255 : Int32))), (.int (p3 &&& (255 : Int32))), (.int (59 : Int32)), (.int (32 : Int32)), (.int (119 : Int32)), (.int (97 : Int32)), (.int (115 : Int32)), (.int (32 : Int32)), (.int (105 : Int32)), (.int (116 : Int32)), (.int (32 : Int32)), (.int (109 : Int32)), (.int (97 : Int32)), (.int (100 : Int32)), (.int (101 : Int32)), (.int (32 : Int32)), (.int (111 : Int32)), (.int (110 : Int32)), (.int (32 : Int32)), (.int (0 : Int32)), (.int (0 : Int32)), (.int (0 : Int32)), (.int (0 : Int32)), (.int (0 : Int32)), (.int (0 : Int32)), (.int (0 : Int32)), (.int (0 : Int32)), (.int (0 : Int32)), (.int (0 : Int32)), (.int (0 : Int32)), (.int (0 : Int32)), (.int (0 : Int32)), (.int (0 : Int32))] := A217
  refine W.dup (pc' := 351) X at_350 rfl rfl ?_
  refine W.bipush (pc' := 353) X (46 : Int32) at_351 (by decide) rfl ?_
  refine W.bipush (pc' := 355) X (97 : Int32) at_353 (by decide) rfl ?_
  refine W.castore (pc' := 356) (i := 46) X A217 (by decide) rfl (ltb rfl) (show nar .char (97 : Int32) = (97 : Int32) from by decide) g77 nb78 at_355 rfl fun T h218 X K219 A220 => ?_
  have A220 : Ar Z h218 a74 .char [(.int (116 : Int32)), (.int (104 : Int32)), (.int (101 : Int32)), (.int (32 : Int32)), (.int (116 : Int32)), (.int (114 : Int32)), (.int (97 : Int32)), (.int (105 : Int32)), (.int (110 : Int32)), (.int (105 : Int32)), (.int (110 : Int32)), (.int (103 : Int32)), (.int (32 : Int32)), (.int (108 : Int32)), (.int (111 : Int32)), (.int (103 : Int32)), (.int (32 : Int32)), (.int (110 : Int32)), (.int (97 : Int32)), (.int (109 : Int32)), (.int (101 : Int32)), (.int (115 : Int32)), (.int (32 : Int32)), (.int (p0 &&& (255 : Int32))), (.int (p1 &&& (255 : Int32))), (.int (44 : Int32)), (.int (32 : Int32)), (.int (p2 &&& (255 : Int32))), (.int (p3 &&& (255 : Int32))), (.int (59 : Int32)), (.int (32 : Int32)), (.int (119 : Int32)), (.int (97 : Int32)), (.int (115 : Int32)), (.int (32 : Int32)), (.int (105 : Int32)), (.int (116 : Int32)), (.int (32 : Int32)), (.int (109 : Int32)), (.int (97 : Int32)), (.int (100 : Int32)), (.int (101 : Int32)), (.int (32 : Int32)), (.int (111 : Int32)), (.int (110 : Int32)), (.int (32 : Int32)), (.int (97 : Int32)), (.int (0 : Int32)), (.int (0 : Int32)), (.int (0 : Int32)), (.int (0 : Int32)), (.int (0 : Int32)), (.int (0 : Int32)), (.int (0 : Int32)), (.int (0 : Int32)), (.int (0 : Int32)), (.int (0 : Int32)), (.int (0 : Int32)), (.int (0 : Int32)), (.int (0 : Int32))] := A220
  refine W.dup (pc' := 357) X at_356 rfl rfl ?_
  refine W.bipush (pc' := 359) X (47 : Int32) at_357 (by decide) rfl ?_
  refine W.bipush (pc' := 361) X (110 : Int32) at_359 (by decide) rfl ?_
  refine W.castore (pc' := 362) (i := 47) X A220 (by decide) rfl (ltb rfl) (show nar .char (110 : Int32) = (110 : Int32) from by decide) g77 nb78 at_361 rfl fun T h221 X K222 A223 => ?_
  have A223 : Ar Z h221 a74 .char [(.int (116 : Int32)), (.int (104 : Int32)), (.int (101 : Int32)), (.int (32 : Int32)), (.int (116 : Int32)), (.int (114 : Int32)), (.int (97 : Int32)), (.int (105 : Int32)), (.int (110 : Int32)), (.int (105 : Int32)), (.int (110 : Int32)), (.int (103 : Int32)), (.int (32 : Int32)), (.int (108 : Int32)), (.int (111 : Int32)), (.int (103 : Int32)), (.int (32 : Int32)), (.int (110 : Int32)), (.int (97 : Int32)), (.int (109 : Int32)), (.int (101 : Int32)), (.int (115 : Int32)), (.int (32 : Int32)), (.int (p0 &&& (255 : Int32))), (.int (p1 &&& (255 : Int32))), (.int (44 : Int32)), (.int (32 : Int32)), (.int (p2 &&& (255 : Int32))), (.int (p3 &&& (255 : Int32))), (.int (59 : Int32)), (.int (32 : Int32)), (.int (119 : Int32)), (.int (97 : Int32)), (.int (115 : Int32)), (.int (32 : Int32)), (.int (105 : Int32)), (.int (116 : Int32)), (.int (32 : Int32)), (.int (109 : Int32)), (.int (97 : Int32)), (.int (100 : Int32)), (.int (101 : Int32)), (.int (32 : Int32)), (.int (111 : Int32)), (.int (110 : Int32)), (.int (32 : Int32)), (.int (97 : Int32)), (.int (110 : Int32)), (.int (0 : Int32)), (.int (0 : Int32)), (.int (0 : Int32)), (.int (0 : Int32)), (.int (0 : Int32)), (.int (0 : Int32)), (.int (0 : Int32)), (.int (0 : Int32)), (.int (0 : Int32)), (.int (0 : Int32)), (.int (0 : Int32)), (.int (0 : Int32))] := A223
  refine W.dup (pc' := 363) X at_362 rfl rfl ?_
  refine W.bipush (pc' := 365) X (48 : Int32) at_363 (by decide) rfl ?_
  refine W.bipush (pc' := 367) X (111 : Int32) at_365 (by decide) rfl ?_
  refine W.castore (pc' := 368) (i := 48) X A223 (by decide) rfl (ltb rfl) (show nar .char (111 : Int32) = (111 : Int32) from by decide) g77 nb78 at_367 rfl fun T h224 X K225 A226 => ?_
  have A226 : Ar Z h224 a74 .char [(.int (116 : Int32)), (.int (104 : Int32)), (.int (101 : Int32)), (.int (32 : Int32)), (.int (116 : Int32)), (.int (114 : Int32)), (.int (97 : Int32)), (.int (105 : Int32)), (.int (110 : Int32)), (.int (105 : Int32)), (.int (110 : Int32)), (.int (103 : Int32)), (.int (32 : Int32)), (.int (108 : Int32)), (.int (111 : Int32)), (.int (103 : Int32)), (.int (32 : Int32)), (.int (110 : Int32)), (.int (97 : Int32)), (.int (109 : Int32)), (.int (101 : Int32)), (.int (115 : Int32)), (.int (32 : Int32)), (.int (p0 &&& (255 : Int32))), (.int (p1 &&& (255 : Int32))), (.int (44 : Int32)), (.int (32 : Int32)), (.int (p2 &&& (255 : Int32))), (.int (p3 &&& (255 : Int32))), (.int (59 : Int32)), (.int (32 : Int32)), (.int (119 : Int32)), (.int (97 : Int32)), (.int (115 : Int32)), (.int (32 : Int32)), (.int (105 : Int32)), (.int (116 : Int32)), (.int (32 : Int32)), (.int (109 : Int32)), (.int (97 : Int32)), (.int (100 : Int32)), (.int (101 : Int32)), (.int (32 : Int32)), (.int (111 : Int32)), (.int (110 : Int32)), (.int (32 : Int32)), (.int (97 : Int32)), (.int (110 : Int32)), (.int (111 : Int32)), (.int (0 : Int32)), (.int (0 : Int32)), (.int (0 : Int32)), (.int (0 : Int32)), (.int (0 : Int32)), (.int (0 : Int32)), (.int (0 : Int32)), (.int (0 : Int32)), (.int (0 : Int32)), (.int (0 : Int32)), (.int (0 : Int32))] := A226
  refine W.dup (pc' := 369) X at_368 rfl rfl ?_
  refine W.bipush (pc' := 371) X (49 : Int32) at_369 (by decide) rfl ?_
  refine W.bipush (pc' := 373) X (116 : Int32) at_371 (by decide) rfl ?_
  refine W.castore (pc' := 374) (i := 49) X A226 (by decide) rfl (ltb rfl) (show nar .char (116 : Int32) = (116 : Int32) from by decide) g77 nb78 at_373 rfl fun T h227 X K228 A229 => ?_
  have A229 : Ar Z h227 a74 .char [(.int (116 : Int32)), (.int (104 : Int32)), (.int (101 : Int32)), (.int (32 : Int32)), (.int (116 : Int32)), (.int (114 : Int32)), (.int (97 : Int32)), (.int (105 : Int32)), (.int (110 : Int32)), (.int (105 : Int32)), (.int (110 : Int32)), (.int (103 : Int32)), (.int (32 : Int32)), (.int (108 : Int32)), (.int (111 : Int32)), (.int (103 : Int32)), (.int (32 : Int32)), (.int (110 : Int32)), (.int (97 : Int32)), (.int (109 : Int32)), (.int (101 : Int32)), (.int (115 : Int32)), (.int (32 : Int32)), (.int (p0 &&& (255 : Int32))), (.int (p1 &&& (255 : Int32))), (.int (44 : Int32)), (.int (32 : Int32)), (.int (p2 &&& (255 : Int32))), (.int (p3 &&& (255 : Int32))), (.int (59 : Int32)), (.int (32 : Int32)), (.int (119 : Int32)), (.int (97 : Int32)), (.int (115 : Int32)), (.int (32 : Int32)), (.int (105 : Int32)), (.int (116 : Int32)), (.int (32 : Int32)), (.int (109 : Int32)), (.int (97 : Int32)), (.int (100 : Int32)), (.int (101 : Int32)), (.int (32 : Int32)), (.int (111 : Int32)), (.int (110 : Int32)), (.int (32 : Int32)), (.int (97 : Int32)), (.int (110 : Int32)), (.int (111 : Int32)), (.int (116 : Int32)), (.int (0 : Int32)), (.int (0 : Int32)), (.int (0 : Int32)), (.int (0 : Int32)), (.int (0 : Int32)), (.int (0 : Int32)), (.int (0 : Int32)), (.int (0 : Int32)), (.int (0 : Int32)), (.int (0 : Int32))] := A229
  refine W.dup (pc' := 375) X at_374 rfl rfl ?_
  refine W.bipush (pc' := 377) X (50 : Int32) at_375 (by decide) rfl ?_
  refine W.bipush (pc' := 379) X (104 : Int32) at_377 (by decide) rfl ?_
  refine W.castore (pc' := 380) (i := 50) X A229 (by decide) rfl (ltb rfl) (show nar .char (104 : Int32) = (104 : Int32) from by decide) g77 nb78 at_379 rfl fun T h230 X K231 A232 => ?_
  have A232 : Ar Z h230 a74 .char [(.int (116 : Int32)), (.int (104 : Int32)), (.int (101 : Int32)), (.int (32 : Int32)), (.int (116 : Int32)), (.int (114 : Int32)), (.int (97 : Int32)), (.int (105 : Int32)), (.int (110 : Int32)), (.int (105 : Int32)), (.int (110 : Int32)), (.int (103 : Int32)), (.int (32 : Int32)), (.int (108 : Int32)), (.int (111 : Int32)), (.int (103 : Int32)), (.int (32 : Int32)), (.int (110 : Int32)), (.int (97 : Int32)), (.int (109 : Int32)), (.int (101 : Int32)), (.int (115 : Int32)), (.int (32 : Int32)), (.int (p0 &&& (255 : Int32))), (.int (p1 &&& (255 : Int32))), (.int (44 : Int32)), (.int (32 : Int32)), (.int (p2 &&& (255 : Int32))), (.int (p3 &&& (255 : Int32))), (.int (59 : Int32)), (.int (32 : Int32)), (.int (119 : Int32)), (.int (97 : Int32)), (.int (115 : Int32)), (.int (32 : Int32)), (.int (105 : Int32)), (.int (116 : Int32)), (.int (32 : Int32)), (.int (109 : Int32)), (.int (97 : Int32)), (.int (100 : Int32)), (.int (101 : Int32)), (.int (32 : Int32)), (.int (111 : Int32)), (.int (110 : Int32)), (.int (32 : Int32)), (.int (97 : Int32)), (.int (110 : Int32)), (.int (111 : Int32)), (.int (116 : Int32)), (.int (104 : Int32)), (.int (0 : Int32)), (.int (0 : Int32)), (.int (0 : Int32)), (.int (0 : Int32)), (.int (0 : Int32)), (.int (0 : Int32)), (.int (0 : Int32)), (.int (0 : Int32)), (.int (0 : Int32))] := A232
  refine W.dup (pc' := 381) X at_380 rfl rfl ?_
  refine W.bipush (pc' := 383) X (51 : Int32) at_381 (by decide) rfl ?_
  refine W.bipush (pc' := 385) X (101 : Int32) at_383 (by decide) rfl ?_
  refine W.castore (pc' := 386) (i := 51) X A232 (by decide) rfl (ltb rfl) (show nar .char (101 : Int32) = (101 : Int32) from by decide) g77 nb78 at_385 rfl fun T h233 X K234 A235 => ?_
  have A235 : Ar Z h233 a74 .char [(.int (116 : Int32)), (.int (104 : Int32)), (.int (101 : Int32)), (.int (32 : Int32)), (.int (116 : Int32)), (.int (114 : Int32)), (.int (97 : Int32)), (.int (105 : Int32)), (.int (110 : Int32)), (.int (105 : Int32)), (.int (110 : Int32)), (.int (103 : Int32)), (.int (32 : Int32)), (.int (108 : Int32)), (.int (111 : Int32)), (.int (103 : Int32)), (.int (32 : Int32)), (.int (110 : Int32)), (.int (97 : Int32)), (.int (109 : Int32)), (.int (101 : Int32)), (.int (115 : Int32)), (.int (32 : Int32)), (.int (p0 &&& (255 : Int32))), (.int (p1 &&& (255 : Int32))), (.int (44 : Int32)), (.int (32 : Int32)), (.int (p2 &&& (255 : Int32))), (.int (p3 &&& (255 : Int32))), (.int (59 : Int32)), (.int (32 : Int32)), (.int (119 : Int32)), (.int (97 : Int32)), (.int (115 : Int32)), (.int (32 : Int32)), (.int (105 : Int32)), (.int (116 : Int32)), (.int (32 : Int32)), (.int (109 : Int32)), (.int (97 : Int32)), (.int (100 : Int32)), (.int (101 : Int32)), (.int (32 : Int32)), (.int (111 : Int32)), (.int (110 : Int32)), (.int (32 : Int32)), (.int (97 : Int32)), (.int (110 : Int32)), (.int (111 : Int32)), (.int (116 : Int32)), (.int (104 : Int32)), (.int (101 : Int32)), (.int (0 : Int32)), (.int (0 : Int32)), (.int (0 : Int32)), (.int (0 : Int32)), (.int (0 : Int32)), (.int (0 : Int32)), (.int (0 : Int32)), (.int (0 : Int32))] := A235
  refine W.dup (pc' := 387) X at_386 rfl rfl ?_
  refine W.bipush (pc' := 389) X (52 : Int32) at_387 (by decide) rfl ?_
  refine W.bipush (pc' := 391) X (114 : Int32) at_389 (by decide) rfl ?_
  refine W.castore (pc' := 392) (i := 52) X A235 (by decide) rfl (ltb rfl) (show nar .char (114 : Int32) = (114 : Int32) from by decide) g77 nb78 at_391 rfl fun T h236 X K237 A238 => ?_
  have A238 : Ar Z h236 a74 .char [(.int (116 : Int32)), (.int (104 : Int32)), (.int (101 : Int32)), (.int (32 : Int32)), (.int (116 : Int32)), (.int (114 : Int32)), (.int (97 : Int32)), (.int (105 : Int32)), (.int (110 : Int32)), (.int (105 : Int32)), (.int (110 : Int32)), (.int (103 : Int32)), (.int (32 : Int32)), (.int (108 : Int32)), (.int (111 : Int32)), (.int (103 : Int32)), (.int (32 : Int32)), (.int (110 : Int32)), (.int (97 : Int32)), (.int (109 : Int32)), (.int (101 : Int32)), (.int (115 : Int32)), (.int (32 : Int32)), (.int (p0 &&& (255 : Int32))), (.int (p1 &&& (255 : Int32))), (.int (44 : Int32)), (.int (32 : Int32)), (.int (p2 &&& (255 : Int32))), (.int (p3 &&& (255 : Int32))), (.int (59 : Int32)), (.int (32 : Int32)), (.int (119 : Int32)), (.int (97 : Int32)), (.int (115 : Int32)), (.int (32 : Int32)), (.int (105 : Int32)), (.int (116 : Int32)), (.int (32 : Int32)), (.int (109 : Int32)), (.int (97 : Int32)), (.int (100 : Int32)), (.int (101 : Int32)), (.int (32 : Int32)), (.int (111 : Int32)), (.int (110 : Int32)), (.int (32 : Int32)), (.int (97 : Int32)), (.int (110 : Int32)), (.int (111 : Int32)), (.int (116 : Int32)), (.int (104 : Int32)), (.int (101 : Int32)), (.int (114 : Int32)), (.int (0 : Int32)), (.int (0 : Int32)), (.int (0 : Int32)), (.int (0 : Int32)), (.int (0 : Int32)), (.int (0 : Int32)), (.int (0 : Int32))] := A238
  refine W.dup (pc' := 393) X at_392 rfl rfl ?_
  refine W.bipush (pc' := 395) X (53 : Int32) at_393 (by decide) rfl ?_
  refine W.bipush (pc' := 397) X (32 : Int32) at_395 (by decide) rfl ?_
  refine W.castore (pc' := 398) (i := 53) X A238 (by decide) rfl (ltb rfl) (show nar .char (32 : Int32) = (32 : Int32) from by decide) g77 nb78 at_397 rfl fun T h239 X K240 A241 => ?_
  have A241 : Ar Z h239 a74 .char [(.int (116 : Int32)), (.int (104 : Int32)), (.int (101 : Int32)), (.int (32 : Int32)), (.int (116 : Int32)), (.int (114 : Int32)), (.int (97 : Int32)), (.int (105 : Int32)), (.int (110 : Int32)), (.int (105 : Int32)), (.int (110 : Int32)), (.int (103 : Int32)), (.int (32 : Int32)), (.int (108 : Int32)), (.int (111 : Int32)), (.int (103 : Int32)), (.int (32 : Int32)), (.int (110 : Int32)), (.int (97 : Int32)), (.int (109 : Int32)), (.int (101 : Int32)), (.int (115 : Int32)), (.int (32 : Int32)), (.int (p0 &&& (255 : Int32))), (.int (p1 &&& (255 : Int32))), (.int (44 : Int32)), (.int (32 : Int32)), (.int (p2 &&& (255 : Int32))), (.int (p3 &&& (255 : Int32))), (.int (59 : Int32)), (.int (32 : Int32)), (.int (119 : Int32)), (.int (97 : Int32)), (.int (115 : Int32)), (.int (32 : Int32)), (.int (105 : Int32)), (.int (116 : Int32)), (.int (32 : Int32)), (.int (109 : Int32)), (.int (97 : Int32)), (.int (100 : Int32)), (.int (101 : Int32)), (.int (32 : Int32)), (.int (111 : Int32)), (.int (110 : Int32)), (.int (32 : Int32)), (.int (97 : Int32)), (.int (110 : Int32)), (.int (111 : Int32)), (.int (116 : Int32)), (.int (104 : Int32)), (.int (101 : Int32)), (.int (114 : Int32)), (.int (32 : Int32)), (.int (0 : Int32)), (.int (0 : Int32)), (.int (0 : Int32)), (.int (0 : Int32)), (.int (0 : Int32)), (.int (0 : Int32))] := A241
  refine W.dup (pc' := 399) X at_398 rfl rfl ?_
  refine W.bipush (pc' := 401) X (54 : Int32) at_399 (by decide) rfl ?_
  refine W.bipush (pc' := 403) X (105 : Int32) at_401 (by decide) rfl ?_
  refine W.castore (pc' := 404) (i := 54) X A241 (by decide) rfl (ltb rfl) (show nar .char (105 : Int32) = (105 : Int32) from by decide) g77 nb78 at_403 rfl fun T h242 X K243 A244 => ?_
  have A244 : Ar Z h242 a74 .char [(.int (116 : Int32)), (.int (104 : Int32)), (.int (101 : Int32)), (.int (32 : Int32)), (.int (116 : Int32)), (.int (114 : Int32)), (.int (97 : Int32)), (.int (105 : Int32)), (.int (110 : Int32)), (.int (105 : Int32)), (.int (110 : Int32)), (.int (103 : Int32)), (.int (32 : Int32)), (.int (108 : Int32)), (.int (111 : Int32)), (.int (103 : Int32)), (.int (32 : Int32)), (.int (110 : Int32)), (.int (97 : Int32)), (.int (109 : Int32)), (.int (101 : Int32)), (.int (115 : Int32)), (.int (32 : Int32)), (.int (p0 &&& (255 : Int32))), (.int (p1 &&& (255 : Int32))), (.int (44 : Int32)), (.int (32 : Int32)), (.int (p2 &&& (255 : Int32))), (.int (p3 &&& (255 : Int32))), (.int (59 : Int32)), (.int (32 : Int32)), (.int (119 : Int32)), (.int (97 : Int32)), (.int (115 : Int32)), (.int (32 : Int32)), (.int (105 : Int32)), (.int (116 : Int32)), (.int (32 : Int32)), (.int (109 : Int32)), (.int (97 : Int32)), (.int (100 : Int32)), (.int (101 : Int32)), (.int (32 : Int32)), (.int (111 : Int32)), (.int (110 : Int32)), (.int (32 : Int32)), (.int (97 : Int32)), (.int (110 : Int32)), (.int (111 : Int32)), (.int (116 : Int32)), (.int (104 : Int32)), (.int (101 : Int32)), (.int (114 : Int32)), (.int (32 : Int32)), (.int (105 : Int32)), (.int (0 : Int32)), (.int (0 : Int32)), (.int (0 : Int32)), (.int (0 : Int32)), (.int (0 : Int32))] := A244
  refine W.dup (pc' := 405) X at_404 rfl rfl ?_
  refine W.bipush (pc' := 407) X (55 : Int32) at_405 (by decide) rfl ?_
  refine W.bipush (pc' := 409) X (110 : Int32) at_407 (by decide) rfl ?_
  refine W.castore (pc' := 410) (i := 55) X A244 (by decide) rfl (ltb rfl) (show nar .char (110 : Int32) = (110 : Int32) from by decide) g77 nb78 at_409 rfl fun T h245 X K246 A247 => ?_
  have A247 : Ar Z h245 a74 .char [(.int (116 : Int32)), (.int (104 : Int32)), (.int (101 : Int32)), (.int (32 : Int32)), (.int (116 : Int32)), (.int (114 : Int32)), (.int (97 : Int32)), (.int (105 : Int32)), (.int (110 : Int32)), (.int (105 : Int32)), (.int (110 : Int32)), (.int (103 : Int32)), (.int (32 : Int32)), (.int (108 : Int32)), (.int (111 : Int32)), (.int (103 : Int32)), (.int (32 : Int32)), (.int (110 : Int32)), (.int (97 : Int32)), (.int (109 : Int32)), (.int (101 : Int32)), (.int (115 : Int32)), (.int (32 : Int32)), (.int (p0 &&& (255 : Int32))), (.int (p1 &&& (255 : Int32))), (.int (44 : Int32)), (.int (32 : Int32)), (.int (p2 &&& (255 : Int32))), (.int (p3 &&& (255 : Int32))), (.int (59 : Int32)), (.int (32 : Int32)), (.int (119 : Int32)), (.int (97 : Int32)), (.int (115 : Int32)), (.int (32 : Int32)), (.int (105 : Int32)), (.int (116 : Int32)), (.int (32 : Int32)), (.int (109 : Int32)), (.int (97 : Int32)), (.int (100 : Int32)), (.int (101 : Int32)), (.int (32 : Int32)), (.int (111 : Int32)), (.int (110 : Int32)), (.int (32 : Int32)), (.int (97 : Int32)), (.int (110 : Int32)), (.int (111 : Int32)), (.int (116 : Int32)), (.int (104 : Int32)), (.int (101 : Int32)), (.int (114 : Int32)), (.int (32 : Int32)), (.int (105 : Int32)), (.int (110 : Int32)), (.int (0 : Int32)), (.int (0 : Int32)), (.int (0 : Int32)), (.int (0 : Int32))] := A247
  refine W.dup (pc' := 411) X at_410 rfl rfl ?_
  refine W.bipush (pc' := 413) X (56 : Int32) at_411 (by decide) rfl ?_
  refine W.bipush (pc' := 415) X (100 : Int32) at_413 (by decide) rfl ?_
  refine W.castore (pc' := 416) (i := 56) X A247 (by decide) rfl (ltb rfl) (show nar .char (100 : Int32) = (100 : Int32) from by decide) g77 nb78 at_415 rfl fun T h248 X K249 A250 => ?_
  have A250 : Ar Z h248 a74 .char [(.int (116 : Int32)), (.int (104 : Int32)), (.int (101 : Int32)), (.int (32 : Int32)), (.int (116 : Int32)), (.int (114 : Int32)), (.int (97 : Int32)), (.int (105 : Int32)), (.int (110 : Int32)), (.int (105 : Int32)), (.int (110 : Int32)), (.int (103 : Int32)), (.int (32 : Int32)), (.int (108 : Int32)), (.int (111 : Int32)), (.int (103 : Int32)), (.int (32 : Int32)), (.int (110 : Int32)), (.int (97 : Int32)), (.int (109 : Int32)), (.int (101 : Int32)), (.int (115 : Int32)), (.int (32 : Int32)), (.int (p0 &&& (255 : Int32))), (.int (p1 &&& (255 : Int32))), (.int (44 : Int32)), (.int (32 : Int32)), (.int (p2 &&& (255 : Int32))), (.int (p3 &&& (255 : Int32))), (.int (59 : Int32)), (.int (32 : Int32)), (.int (119 : Int32)), (.int (97 : Int32)), (.int (115 : Int32)), (.int (32 : Int32)), (.int (105 : Int32)), (.int (116 : Int32)), (.int (32 : Int32)), (.int (109 : Int32)), (.int (97 : Int32)), (.int (100 : Int32)), (.int (101 : Int32)), (.int (32 : Int32)), (.int (111 : Int32)), (.int (110 : Int32)), (.int (32 : Int32)), (.int (97 : Int32)), (.int (110 : Int32)), (.int (111 : Int32)), (.int (116 : Int32)), (.int (104 : Int32)), (.int (101 : Int32)), (.int (114 : Int32)), (.int (32 : Int32)), (.int (105 : Int32)), (.int (110 : Int32)), (.int (100 : Int32)), (.int (0 : Int32)), (.int (0 : Int32)), (.int (0 : Int32))] := A250
  refine W.dup (pc' := 417) X at_416 rfl rfl ?_
  refine W.bipush (pc' := 419) X (57 : Int32) at_417 (by decide) rfl ?_
  refine W.bipush (pc' := 421) X (101 : Int32) at_419 (by decide) rfl ?_
  refine W.castore (pc' := 422) (i := 57) X A250 (by decide) rfl (ltb rfl) (show nar .char (101 : Int32) = (101 : Int32) from by decide) g77 nb78 at_421 rfl fun T h251 X K252 A253 => ?_
  have A253 : Ar Z h251 a74 .char [(.int (116 : Int32)), (.int (104 : Int32)), (.int (101 : Int32)), (.int (32 : Int32)), (.int (116 : Int32)), (.int (114 : Int32)), (.int (97 : Int32)), (.int (105 : Int32)), (.int (110 : Int32)), (.int (105 : Int32)), (.int (110 : Int32)), (.int (103 : Int32)), (.int (32 : Int32)), (.int (108 : Int32)), (.int (111 : Int32)), (.int (103 : Int32)), (.int (32 : Int32)), (.int (110 : Int32)), (.int (97 : Int32)), (.int (109 : Int32)), (.int (101 : Int32)), (.int (115 : Int32)), (.int (32 : Int32)), (.int (p0 &&& (255 : Int32))), (.int (p1 &&& (255 : Int32))), (.int (44 : Int32)), (.int (32 : Int32)), (.int (p2 &&& (255 : Int32))), (.int (p3 &&& (255 : Int32))), (.int (59 : Int32)), (.int (32 : Int32)), (.int (119 : Int32)), (.int (97 : Int32)), (.int (115 : Int32)), (.int (32 : Int32)), (.int (105 : Int32)), (.int (116 : Int32)), (.int (32 : Int32)), (.int (109 : Int32)), (.int (97 : Int32)), (.int (100 : Int32)), (.int (101 : Int32)), (.int (32 : Int32)), (.int (111 : Int32)), (.int (110 : Int32)), (.int (32 : Int32)), (.int (97 : Int32)), (.int (110 : Int32)), (.int (111 : Int32)), (.int (116 : Int32)), (.int (104 : Int32)), (.int (101 : Int32)), (.int (114 : Int32)), (.int (32 : Int32)), (.int (105 : Int32)), (.int (110 : Int32)), (.int (100 : Int32)), (.int (101 : Int32)), (.int (0 : Int32)), (.int (0 : Int32))] := A253
  refine W.dup (pc' := 423) X at_422 rfl rfl ?_
  refine W.bipush (pc' := 425) X (58 : Int32) at_423 (by decide) rfl ?_
  refine W.bipush (pc' := 427) X (120 : Int32) at_425 (by decide) rfl ?_
  refine W.castore (pc' := 428) (i := 58) X A253 (by decide) rfl (ltb rfl) (show nar .char (120 : Int32) = (120 : Int32) from by decide) g77 nb78 at_427 rfl fun T h254 X K255 A256 => ?_
  have A256 : Ar Z h254 a74 .char [(.int (116 : Int32)), (.int (104 : Int32)), (.int (101 : Int32)), (.int (32 : Int32)), (.int (116 : Int32)), (.int (114 : Int32)), (.int (97 : Int32)), (.int (105 : Int32)), (.int (110 : Int32)), (.int (105 : Int32)), (.int (110 : Int32)), (.int (103 : Int32)), (.int (32 : Int32)), (.int (108 : Int32)), (.int (111 : Int32)), (.int (103 : Int32)), (.int (32 : Int32)), (.int (110 : Int32)), (.int (97 : Int32)), (.int (109 : Int32)), (.int (101 : Int32)), (.int (115 : Int32)), (.int (32 : Int32)), (.int (p0 &&& (255 : Int32))), (.int (p1 &&& (255 : Int32))), (.int (44 : Int32)), (.int (32 : Int32)), (.int (p2 &&& (255 : Int32))), (.int (p3 &&& (255 : Int32))), (.int (59 : Int32)), (.int (32 : Int32)), (.int (119 : Int32)), (.int (97 : Int32)), (.int (115 : Int32)), (.int (32 : Int32)), (.int (105 : Int32)), (.int (116 : Int32)), (.int (32 : Int32)), (.int (109 : Int32)), (.int (97 : Int32)), (.int (100 : Int32)), (.int (101 : Int32)), (.int (32 : Int32)), (.int (111 : Int32)), (.int (110 : Int32)), (.int (32 : Int32)), (.int (97 : Int32)), (.int (110 : Int32)), (.int (111 : Int32)), (.int (116 : Int32)), (.int (104 : Int32)), (.int (101 : Int32)), (.int (114 : Int32)), (.int (32 : Int32)), (.int (105 : Int32)), (.int (110 : Int32)), (.int (100 : Int32)), (.int (101 : Int32)), (.int (120 : Int32)), (.int (0 : Int32))] := A256
  refine W.dup (pc' := 429) X at_428 rfl rfl ?_
  refine W.bipush (pc' := 431) X (59 : Int32) at_429 (by decide) rfl ?_
  refine W.bipush (pc' := 433) X (63 : Int32) at_431 (by decide) rfl ?_
  refine W.castore (pc' := 434) (i := 59) X A256 (by decide) rfl (ltb rfl) (show nar .char (63 : Int32) = (63 : Int32) from by decide) g77 nb78 at_433 rfl fun T h257 X K258 A259 => ?_
  have A259 : Ar Z h257 a74 .char [(.int (116 : Int32)), (.int (104 : Int32)), (.int (101 : Int32)), (.int (32 : Int32)), (.int (116 : Int32)), (.int (114 : Int32)), (.int (97 : Int32)), (.int (105 : Int32)), (.int (110 : Int32)), (.int (105 : Int32)), (.int (110 : Int32)), (.int (103 : Int32)), (.int (32 : Int32)), (.int (108 : Int32)), (.int (111 : Int32)), (.int (103 : Int32)), (.int (32 : Int32)), (.int (110 : Int32)), (.int (97 : Int32)), (.int (109 : Int32)), (.int (101 : Int32)), (.int (115 : Int32)), (.int (32 : Int32)), (.int (p0 &&& (255 : Int32))), (.int (p1 &&& (255 : Int32))), (.int (44 : Int32)), (.int (32 : Int32)), (.int (p2 &&& (255 : Int32))), (.int (p3 &&& (255 : Int32))), (.int (59 : Int32)), (.int (32 : Int32)), (.int (119 : Int32)), (.int (97 : Int32)), (.int (115 : Int32)), (.int (32 : Int32)), (.int (105 : Int32)), (.int (116 : Int32)), (.int (32 : Int32)), (.int (109 : Int32)), (.int (97 : Int32)), (.int (100 : Int32)), (.int (101 : Int32)), (.int (32 : Int32)), (.int (111 : Int32)), (.int (110 : Int32)), (.int (32 : Int32)), (.int (97 : Int32)), (.int (110 : Int32)), (.int (111 : Int32)), (.int (116 : Int32)), (.int (104 : Int32)), (.int (101 : Int32)), (.int (114 : Int32)), (.int (32 : Int32)), (.int (105 : Int32)), (.int (110 : Int32)), (.int (100 : Int32)), (.int (101 : Int32)), (.int (120 : Int32)), (.int (63 : Int32))] := A259
  refine W.astore (pc' := 436) (ls' := #[.val (.int p0), .val (.int p1), .val (.int p2), .val (.int p3), .val (.int (p0 &&& (255 : Int32))), .val (.int (p1 &&& (255 : Int32))), .val (.int (p2 &&& (255 : Int32))), .val (.int (p3 &&& (255 : Int32))), .val (.ref a2), .val (.ref a38), .val (.ref a74), .unset, .unset, .unset]) X at_434 rfl rfl rfl ?_
  refine W.new (pc' := 439) (k' := 8) (n' := 196) X (w0 G) (w1 G) (w2 G) at_436 rfl (by decide) (by decide) (by decide) (by decide) fun T h260 a261 X K262 g263 g264 nb265 E266 D267  => ?_
  have F268 : Fld Z h260 a261 "java/lang/String" "coder" "B" (.int (0 : Int32)) := D267 (Or.inr (w27 G)) (ty := .byte) (by decide)
  have F269 : Fld Z h260 a261 "java/lang/String" "value" "[B" .null := D267 (Or.inr (w29 G)) (ty := (.array .byte)) (by decide)
  refine W.dup (pc' := 440) X at_439 rfl rfl ?_
  refine W.aload (pc' := 442) X at_440 rfl rfl rfl ?_
  have F270 := (A259.keep K262 nin0)
  have en271 := X.en
  refine W.callN (pc' := 445) (W := 1) (argsL := [(.ref a74)]) (st := [(.ref a261)]) (k' := 9) (n' := 256) (a := a261) X (c_init1 (x := a261) (a := a74) (cs := [(116 : Int32), (104 : Int32), (101 : Int32), (32 : Int32), (116 : Int32), (114 : Int32), (97 : Int32), (105 : Int32), (110 : Int32), (105 : Int32), (110 : Int32), (103 : Int32), (32 : Int32), (108 : Int32), (111 : Int32), (103 : Int32), (32 : Int32), (110 : Int32), (97 : Int32), (109 : Int32), (101 : Int32), (115 : Int32), (32 : Int32), (p0 &&& (255 : Int32)), (p1 &&& (255 : Int32)), (44 : Int32), (32 : Int32), (p2 &&& (255 : Int32)), (p3 &&& (255 : Int32)), (59 : Int32), (32 : Int32), (119 : Int32), (97 : Int32), (115 : Int32), (32 : Int32), (105 : Int32), (116 : Int32), (32 : Int32), (109 : Int32), (97 : Int32), (100 : Int32), (101 : Int32), (32 : Int32), (111 : Int32), (110 : Int32), (32 : Int32), (97 : Int32), (110 : Int32), (111 : Int32), (116 : Int32), (104 : Int32), (101 : Int32), (114 : Int32), (32 : Int32), (105 : Int32), (110 : Int32), (100 : Int32), (101 : Int32), (120 : Int32), (63 : Int32)]) (v0 := .null) (c0 := (.int (0 : Int32))) G X.en E266 F269 F268 F270 (latS (by decide) (latS (by decide) (latS (by decide) (latS (by decide) (latS (by decide) (latS (by decide) (latS (by decide) (latS (by decide) (latS (by decide) (latS (by decide) (latS (by decide) (latS (by decide) (latS (by decide) (latS (by decide) (latS (by decide) (latS (by decide) (latS (by decide) (latS (by decide) (latS (by decide) (latS (by decide) (latS (by decide) (latS (by decide) (latS (by decide) (latS (m255 _) (latS (m255 _) (latS (by decide) (latS (by decide) (latS (m255 _) (latS (m255 _) (latS (by decide) (latS (by decide) (latS (by decide) (latS (by decide) (latS (by decide) (latS (by decide) (latS (by decide) (latS (by decide) (latS (by decide) (latS (by decide) (latS (by decide) (latS (by decide) (latS (by decide) (latS (by decide) (latS (by decide) (latS (by decide) (latS (by decide) (latS (by decide) (latS (by decide) (latS (by decide) (latS (by decide) (latS (by decide) (latS (by decide) (latS (by decide) (latS (by decide) (latS (by decide) (latS (by decide) (latS (by decide) (latS (by decide) (latS (by decide) (latS (by decide) lat0)))))))))))))))))))))))))))))))))))))))))))))))))))))))))))) (ltb rfl) (leb rfl) g264 nb265) rfl (w4 G) (w5 G) (w6 G) (w2 G) (by decide) (by decide) (by decide) rfl (lenOf pd37 rfl) rfl rfl (Nat.le_of_eq rfl) at_442 rfl (by decide) (by decide) (by decide) (by decide) (kv fun T h272 X z273 q274 => ?_)
  obtain ⟨a275, K276, g277, F278⟩ := q274
  have g279 : Z.heap.size ≤ a275 := Nat.le_trans (Nat.le_trans hz0 (Nat.le_trans (Nat.le_trans (Nat.le_trans (Nat.le_trans (Nat.le_trans (Nat.le_trans (Nat.le_trans (Nat.le_trans (Nat.le_trans (Nat.le_trans (Nat.le_trans (Nat.le_trans (Nat.le_trans (Nat.le_trans (Nat.le_trans (Nat.le_trans (Nat.le_trans (Nat.le_trans (Nat.le_trans (Nat.le_trans (Nat.le_trans (Nat.le_trans (Nat.le_trans (Nat.le_trans (Nat.le_trans (Nat.le_trans (Nat.le_trans (Nat.le_trans (Nat.le_trans (Nat.le_trans (Nat.le_trans (Nat.le_trans (Nat.le_trans (Nat.le_trans (Nat.le_trans (Nat.le_trans (Nat.le_trans (Nat.le_trans (Nat.le_trans (Nat.le_trans (Nat.le_trans (Nat.le_trans (Nat.le_trans (Nat.le_trans (Nat.le_trans (Nat.le_trans (Nat.le_trans (Nat.le_trans (Nat.le_trans (Nat.le_trans (Nat.le_trans (Nat.le_trans (Nat.le_trans (Nat.le_trans (Nat.le_trans (Nat.le_trans (Nat.le_trans (Nat.le_trans (Nat.le_trans (Nat.le_trans (Nat.le_trans (Nat.le_trans (Nat.le_trans (Nat.le_trans (Nat.le_trans (Nat.le_trans (Nat.le_trans (Nat.le_trans (Nat.le_trans (Nat.le_trans (Nat.le_trans K3.1 K13.1) K19.1) K22.1) K32.1) K39.1) K49.1) K55.1) K58.1) K68.1) K75.1) K81.1) K84.1) K87.1) K90.1) K93.1) K96.1) K99.1) K102.1) K105.1) K108.1) K111.1) K114.1) K117.1) K120.1) K123.1) K126.1) K129.1) K132.1) K135.1) K138.1) K141.1) K144.1) K147.1) K150.1) K153.1) K156.1) K159.1) K162.1) K165.1) K168.1) K171.1) K174.1) K177.1) K180.1) K183.1) K186.1) K189.1) K192.1) K195.1) K198.1) K201.1) K204.1) K207.1) K210.1) K213.1) K216.1) K219.1) K222.1) K225.1) K228.1) K231.1) K234.1) K237.1) K240.1) K243.1) K246.1) K249.1) K252.1) K255.1) K258.1) K262.1)) g277
  have nb280 : ¬ B a275 := fun q => absurd (en271.2 _ q) (Nat.not_lt.mpr g277)
  refine W.astore (pc' := 447) (ls' := #[.val (.int p0), .val (.int p1), .val (.int p2), .val (.int p3), .val (.int (p0 &&& (255 : Int32))), .val (.int (p1 &&& (255 : Int32))), .val (.int (p2 &&& (255 : Int32))), .val (.int (p3 &&& (255 : Int32))), .val (.ref a2), .val (.ref a38), .val (.ref a74), .val (.ref a261), .unset, .unset]) X at_445 rfl rfl rfl ?_
  refine W.aload (pc' := 449) X at_447 rfl rfl rfl ?_
  refine W.aload (pc' := 451) X at_449 rfl rfl rfl ?_
  have F281 := ((((((((((((((((((((((((((((((((((((((((((((((((((((((((((((((((((((F34.keep K39 nin0 nin0).keep K49 nin0 nin0).keep K55 (ninS (Nat.ne_of_lt (Nat.lt_of_lt_of_le E7.lt (Nat.le_trans (Nat.le_trans (Nat.le_trans (Nat.le_trans (Nat.le_trans K13.1 K19.1) K22.1) K32.1) K39.1) g50))) nin0) (ninS (Nat.ne_of_lt (Nat.lt_of_lt_of_le F34.ltb (Nat.le_trans K39.1 g50))) nin0)).keep K58 (ninS (Nat.ne_of_lt (Nat.lt_of_lt_of_le E7.lt (Nat.le_trans (Nat.le_trans (Nat.le_trans (Nat.le_trans (Nat.le_trans K13.1 K19.1) K22.1) K32.1) K39.1) g50))) nin0) (ninS (Nat.ne_of_lt (Nat.lt_of_lt_of_le F34.ltb (Nat.le_trans K39.1 g50))) nin0)).keep K68 (ninS (Nat.ne_of_lt (Nat.lt_of_lt_of_le E7.lt (Nat.le_trans (Nat.le_trans (Nat.le_trans (Nat.le_trans K13.1 K19.1) K22.1) K32.1) g40))) nin0) (ninS (Nat.ne_of_lt (Nat.lt_of_lt_of_le F34.ltb (Nat.le_trans (Nat.le_refl _) g40))) nin0)).keep K75 nin0 nin0).keep K81 (ninS (Nat.ne_of_lt (Nat.lt_of_lt_of_le E7.lt (Nat.le_trans (Nat.le_trans (Nat.le_trans (Nat.le_trans (Nat.le_trans (Nat.le_trans (Nat.le_trans (Nat.le_trans (Nat.le_trans K13.1 K19.1) K22.1) K32.1) K39.1) K49.1) K55.1) K58.1) K68.1) g76))) nin0) (ninS (Nat.ne_of_lt (Nat.lt_of_lt_of_le F34.ltb (Nat.le_trans (Nat.le_trans (Nat.le_trans (Nat.le_trans (Nat.le_trans K39.1 K49.1) K55.1) K58.1) K68.1) g76))) nin0)).keep K84 (ninS (Nat.ne_of_lt (Nat.lt_of_lt_of_le E7.lt (Nat.le_trans (Nat.le_trans (Nat.le_trans (Nat.le_trans (Nat.le_trans (Nat.le_trans (Nat.le_trans (Nat.le_trans (Nat.le_trans K13.1 K19.1) K22.1) K32.1) K39.1) K49.1) K55.1) K58.1) K68.1) g76))) nin0) (ninS (Nat.ne_of_lt (Nat.lt_of_lt_of_le F34.ltb (Nat.le_trans (Nat.le_trans (Nat.le_trans (Nat.le_trans (Nat.le_trans K39.1 K49.1) K55.1) K58.1) K68.1) g76))) nin0)).keep K87 (ninS (Nat.ne_of_lt (Nat.lt_of_lt_of_le E7.lt (Nat.le_trans (Nat.le_trans (Nat.le_trans (Nat.le_trans (Nat.le_trans (Nat.le_trans (Nat.le_trans (Nat.le_trans (Nat.le_trans K13.1 K19.1) K22.1) K32.1) K39.1) K49.1) K55.1) K58.1) K68.1) g76))) nin0) (ninS (Nat.ne_of_lt (Nat.lt_of_lt_of_le F34.ltb (Nat.le_trans (Nat.le_trans (Nat.le_trans (Nat.le_trans (Nat.le_trans K39.1 K49.1) K55.1) K58.1) K68.1) g76))) nin0)).keep K90 (ninS (Nat.ne_of_lt (Nat.lt_of_lt_of_le E7.lt (Nat.le_trans (Nat.le_trans (Nat.le_trans (Nat.le_trans (Nat.le_trans (Nat.le_trans (Nat.le_trans (Nat.le_trans (Nat.le_trans K13.1 K19.1) K22.1) K32.1) K39.1) K49.1) K55.1) K58.1) K68.1) g76))) nin0) (ninS (Nat.ne_of_lt (Nat.lt_of_lt_of_le F34.ltb (Nat.le_trans (Nat.le_trans (Nat.le_trans (Nat.le_trans (Nat.le_trans K39.1 K49.1) K55.1) K58.1) K68.1) g76))) nin0)).keep K93 (ninS (Nat.ne_of_lt (Nat.lt_of_lt_of_le E7.lt (Nat.le_trans (Nat.le_trans (Nat.le_trans (Nat.le_trans (Nat.le_trans (Nat.le_trans (Nat.le_trans (Nat.le_trans (Nat.le_trans K13.1 K19.1) K22.1) K32.1) K39.1) K49.1) K55.1) K58.1) K68.1) g76))) nin0) (ninS (Nat.ne_of_lt (Nat.lt_of_lt_of_le F34.ltb (Nat.le_trans (Nat.le_trans (Nat.le_trans (Nat.le_trans (Nat.le_trans K39.1 K49.1) K55.1) K58.1) K68.1) g76))) nin0)).keep K96 (ninS (Nat.ne_of_lt (Nat.lt_of_lt_of_le E7.lt (Nat.le_trans (Nat.le_trans (Nat.le_trans (Nat.le_trans (Nat.le_trans (Nat.le_trans (Nat.le_trans (Nat.le_trans (Nat.le_trans K13.1 K19.1) K22.1) K32.1) K39.1) K49.1) K55.1) K58.1) K68.1) g76))) nin0) (ninS (Nat.ne_of_lt (Nat.lt_of_lt_of_le F34.ltb (Nat.le_trans (Nat.le_trans (Nat.le_trans (Nat.le_trans (Nat.le_trans K39.1 K49.1) K55.1) K58.1) K68.1) g76))) nin0)).keep K99 (ninS (Nat.ne_of_lt (Nat.lt_of_lt_of_le E7.lt (Nat.le_trans (Nat.le_trans (Nat.le_trans (Nat.le_trans (Nat.le_trans (Nat.le_trans (Nat.le_trans (Nat.le_trans (Nat.le_trans K13.1 K19.1) K22.1) K32.1) K39.1) K49.1) K55.1) K58.1) K68.1) g76))) nin0) (ninS (Nat.ne_of_lt (Nat.lt_of_lt_of_le F34.ltb (Nat.le_trans (Nat.le_trans (Nat.le_trans (Nat.le_trans (Nat.le_trans K39.1 K49.1) K55.1) K58.1) K68.1) g76))) nin0)).keep K102 (ninS (Nat.ne_of_lt (Nat.lt_of_lt_of_le E7.lt (Nat.le_trans (Nat.le_trans (Nat.le_trans (Nat.le_trans (Nat.le_trans (Nat.le_trans (Nat.le_trans (Nat.le_trans (Nat.le_trans K13.1 K19.1) K22.1) K32.1) K39.1) K49.1) K55.1) K58.1) K68.1) g76))) nin0) (ninS (Nat.ne_of_lt (Nat.lt_of_lt_of_le F34.ltb (Nat.le_trans (Nat.le_trans (Nat.le_trans (Nat.le_trans (Nat.le_trans K39.1 K49.1) K55.1) K58.1) K68.1) g76))) nin0)).keep K105 (ninS (Nat.ne_of_lt (Nat.lt_of_lt_of_le E7.lt (Nat.le_trans (Nat.le_trans (Nat.le_trans (Nat.le_trans (Nat.le_trans (Nat.le_trans (Nat.le_trans (Nat.le_trans (Nat.le_trans K13.1 K19.1) K22.1) K32.1) K39.1) K49.1) K55.1) K58.1) K68.1) g76))) nin0) (ninS (Nat.ne_of_lt (Nat.lt_of_lt_of_le F34.ltb (Nat.le_trans (Nat.le_trans (Nat.le_trans (Nat.le_trans (Nat.le_trans K39.1 K49.1) K55.1) K58.1) K68.1) g76))) nin0)).keep K108 (ninS (Nat.ne_of_lt (Nat.lt_of_lt_of_le E7.lt (Nat.le_trans (Nat.le_trans (Nat.le_trans (Nat.le_trans (Nat.le_trans (Nat.le_trans (Nat.le_trans (Nat.le_trans (Nat.le_trans K13.1 K19.1) K22.1) K32.1) K39.1) K49.1) K55.1) K58.1) K68.1) g76))) nin0) (ninS (Nat.ne_of_lt (Nat.lt_of_lt_of_le F34.ltb (Nat.le_trans (Nat.le_trans (Nat.le_trans (Nat.le_trans (Nat.le_trans K39.1 K49.1) K55.1) K58.1) K68.1) g76))) nin0)).keep K111 (ninS (Nat.ne_of_lt (Nat.lt_of_lt_of_le E7.lt (Nat.le_trans (Nat.le_trans (Nat.le_trans (Nat.le_trans (Nat.le_trans (Nat.le_trans (Nat.le_trans (Nat.le_trans (Nat.le_trans K13.1 K19.1) K22.1) K32.1) K39.1) K49.1) K55.1) K58.1) K68.1) g76))) nin0) (ninS (Nat.ne_of_lt (Nat.lt_of_lt_of_le F34.ltb (Nat.le_trans (Nat.le_trans (Nat.le_trans (Nat.le_trans (Nat.le_trans K39.1 K49.1) K55.1) K58.1) K68.1) g76))) nin0)).keep K114 (ninS (Nat.ne_of_lt (Nat.lt_of_lt_of_le E7.lt (Nat.le_trans (Nat.le_trans (Nat.le_trans (Nat.le_trans (Nat.le_trans (Nat.le_trans (Nat.le_trans (Nat.le_trans (Nat.le_trans K13.1 K19.1) K22.1) K32.1) K39.1) K49.1) K55.1) K58.1) K68.1) g76))) nin0) (ninS (Nat.ne_of_lt (Nat.lt_of_lt_of_le F34.ltb (Nat.le_trans (Nat.le_trans (Nat.le_trans (Nat.le_trans (Nat.le_trans K39.1 K49.1) K55.1) K58.1) K68.1) g76))) nin0)).keep K117 (ninS (Nat.ne_of_lt (Nat.lt_of_lt_of_le E7.lt (Nat.le_trans (Nat.le_trans (Nat.le_trans (Nat.le_trans (Nat.le_trans (Nat.le_trans (Nat.le_trans (Nat.le_trans (Nat.le_trans K13.1 K19.1) K22.1) K32.1) K39.1) K49.1) K55.1) K58.1) K68.1) g76))) nin0) (ninS (Nat.ne_of_lt (Nat.lt_of_lt_of_le F34.ltb (Nat.le_trans (Nat.le_trans (Nat.le_trans (Nat.le_trans (Nat.le_trans K39.1 K49.1) K55.1) K58.1) K68.1) g76))) nin0)).keep K120 (ninS (Nat.ne_of_lt (Nat.lt_of_lt_of_le E7.lt (Nat.le_trans (Nat.le_trans (Nat.le_trans (Nat.le_trans (Nat.le_trans (Nat.le_trans (Nat.le_trans (Nat.le_trans (Nat.le_trans K13.1 K19.1) K22.1) K32.1) K39.1) K49.1) K55.1) K58.1) K68.1) g76))) nin0) (ninS (Nat.ne_of_lt (Nat.lt_of_lt_of_le F34.ltb (Nat.le_trans (Nat.le_trans (Nat.le_trans (Nat.le_trans (Nat.le_trans K39.1 K49.1) K55.1) K58.1) K68.1) g76))) nin0)).keep K123 (ninS (Nat.ne_of_lt (Nat.lt_of_lt_of_le E7.lt (Nat.le_trans (Nat.le_trans (Nat.le_trans (Nat.le_trans (Nat.le_trans (Nat.le_trans (Nat.le_trans (Nat.le_trans (Nat.le_trans K13.1 K19.1) K22.1) K32.1) K39.1) K49.1) K55.1) K58.1) K68.1) g76))) nin0) (ninS (Nat.ne_of_lt (Nat.lt_of_lt_of_le F34.ltb (Nat.le_trans (Nat.le_trans (Nat.le_trans (Nat.le_trans (Nat.le_trans K39.1 K49.1) K55.1) K58.1) K68.1) g76))) nin0)).keep K126 (ninS (Nat.ne_of_lt (Nat.lt_of_lt_of_le E7.lt (Nat.le_trans (Nat.le_trans (Nat.le_trans (Nat.le_trans (Nat.le_trans (Nat.le_trans (Nat.le_trans (Nat.le_trans (Nat.le_trans K13.1 K19.1) K22.1) K32.1) K39.1) K49.1) K55.1) K58.1) K68.1) g76))) nin0) (ninS (Nat.ne_of_lt (Nat.lt_of_lt_of_le F34.ltb (Nat.le_trans (Nat.le_trans (Nat.le_trans (Nat.le_trans (Nat.le_trans K39.1 K49.1) K55.1) K58.1) K68.1) g76))) nin0)).keep K129 (ninS (Nat.ne_of_lt (Nat.lt_of_lt_of_le E7.lt (Nat.le_trans (Nat.le_trans (Nat.le_trans (Nat.le_trans (Nat.le_trans (Nat.le_trans (Nat.le_trans (Nat.le_trans (Nat.le_trans K13.1 K19.1) K22.1) K32.1) K39.1) K49.1) K55.1) K58.1) K68.1) g76))) nin0) (ninS (Nat.ne_of_lt (Nat.lt_of_lt_of_le F34.ltb (Nat.le_trans (Nat.le_trans (Nat.le_trans (Nat.le_trans (Nat.le_trans K39.1 K49.1) K55.1) K58.1) K68.1) g76))) nin0)).keep K132 (ninS (Nat.ne_of_lt (Nat.lt_of_lt_of_le E7.lt (Nat.le_trans (Nat.le_trans (Nat.le_trans (Nat.le_trans (Nat.le_trans (Nat.le_trans (Nat.le_trans (Nat.le_trans (Nat.le_trans K13.1 K19.1) K22.1) K32.1) K39.1) K49.1) K55.1) K58.1) K68.1) g76))) nin0) (ninS (Nat.ne_of_lt (Nat.lt_of_lt_of_le F34.ltb (Nat.le_trans (Nat.le_trans (Nat.le_trans (Nat.le_trans (Nat.le_trans K39.1 K49.1) K55.1) K58.1) K68.1) g76))) nin0)).keep K135 (ninS (Nat.ne_of_lt (Nat.lt_of_lt_of_le E7.lt (Nat.le_trans (Nat.le_trans (Nat.le_trans (Nat.le_trans (Nat.le_trans (Nat.le_trans (Nat.le_trans (Nat.le_trans (Nat.le_trans K13.1 K19.1) K22.1) K32.1) K39.1) K49.1) K55.1) K58.1) K68.1) g76))) nin0) (ninS (Nat.ne_of_lt (Nat.lt_of_lt_of_le F34.ltb (Nat.le_trans (Nat.le_trans (Nat.le_trans (Nat.le_trans (Nat.le_trans K39.1 K49.1) K55.1) K58.1) K68.1) g76))) nin0)).keep K138 (ninS (Nat.ne_of_lt (Nat.lt_of_lt_of_le E7.lt (Nat.le_trans (Nat.le_trans (Nat.le_trans (Nat.le_trans (Nat.le_trans (Nat.le_trans (Nat.le_trans (Nat.le_trans (Nat.le_trans K13.1 K19.1) K22.1) K32.1) K39.1) K49.1) K55.1) K58.1) K68.1) g76))) nin0) (ninS (Nat.ne_of_lt (Nat.lt_of_lt_of_le F34.ltb (Nat.le_trans (Nat.le_trans (Nat.le_trans (Nat.le_trans (Nat.le_trans K39.1 K49.1) K55.1) K58.1) K68.1) g76))) nin0)).keep K141 (ninS (Nat.ne_of_lt (Nat.lt_of_lt_of_le E7.lt (Nat.le_trans (Nat.le_trans (Nat.le_trans (Nat.le_trans (Nat.le_trans (Nat.le_trans (Nat.le_trans (Nat.le_trans (Nat.le_trans K13.1 K19.1) K22.1) K32.1) K39.1) K49.1) K55.1) K58.1) K68.1) g76))) nin0) (ninS (Nat.ne_of_lt (Nat.lt_of_lt_of_le F34.ltb (Nat.le_trans (Nat.le_trans (Nat.le_trans (Nat.le_trans (Nat.le_trans K39.1 K49.1) K55.1) K58.1) K68.1) g76))) nin0)).keep K144 (ninS (Nat.ne_of_lt (Nat.lt_of_lt_of_le E7.lt (Nat.le_trans (Nat.le_trans (Nat.le_trans (Nat.le_trans (Nat.le_trans (Nat.le_trans (Nat.le_trans (Nat.le_trans (Nat.le_trans K13.1 K19.1) K22.1) K32.1) K39.1) K49.1) K55.1) K58.1) K68.1) g76))) nin0) (ninS (Nat.ne_of_lt (Nat.lt_of_lt_of_le F34.ltb (Nat.le_trans (Nat.le_trans (Nat.le_trans (Nat.le_trans (Nat.le_trans K39.1 K49.1) K55.1) K58.1) K68.1) g76))) nin0)).keep K147 (ninS (Nat.ne_of_lt (Nat.lt_of_lt_of_le E7.lt (Nat.le_trans (Nat.le_trans (Nat.le_trans (Nat.le_trans (Nat.le_trans (Nat.le_trans (Nat.le_trans (Nat.le_trans (Nat.le_trans K13.1 K19.1) K22.1) K32.1) K39.1) K49.1) K55.1) K58.1) K68.1) g76))) nin0) (ninS (Nat.ne_of_lt (Nat.lt_of_lt_of_le F34.ltb (Nat.le_trans (Nat.le_trans (Nat.le_trans (Nat.le_trans (Nat.le_trans K39.1 K49.1) K55.1) K58.1) K68.1) g76))) nin0)).keep K150 (ninS (Nat.ne_of_lt (Nat.lt_of_lt_of_le E7.lt (Nat.le_trans (Nat.le_trans (Nat.le_trans (Nat.le_trans (Nat.le_trans (Nat.le_trans (Nat.le_trans (Nat.le_trans (Nat.le_trans K13.1 K19.1) K22.1) K32.1) K39.1) K49.1) K55.1) K58.1) K68.1) g76))) nin0) (ninS (Nat.ne_of_lt (Nat.lt_of_lt_of_le F34.ltb (Nat.le_trans (Nat.le_trans (Nat.le_trans (Nat.le_trans (Nat.le_trans K39.1 K49.1) K55.1) K58.1) K68.1) g76))) nin0)).keep K153 (ninS (Nat.ne_of_lt (Nat.lt_of_lt_of_le E7.lt (Nat.le_trans (Nat.le_trans (Nat.le_trans (Nat.le_trans (Nat.le_trans (Nat.le_trans (Nat.le_trans (Nat.le_trans (Nat.le_trans K13.1 K19.1) K22.1) K32.1) K39.1) K49.1) K55.1) K58.1) K68.1) g76))) nin0) (ninS (Nat.ne_of_lt (Nat.lt_of_lt_of_le F34.ltb (Nat.le_trans (Nat.le_trans (Nat.le_trans (Nat.le_trans (Nat.le_trans K39.1 K49.1) K55.1) K58.1) K68.1) g76))) nin0)).keep K156 (ninS (Nat.ne_of_lt (Nat.lt_of_lt_of_le E7.lt (Nat.le_trans (Nat.le_trans (Nat.le_trans (Nat.le_trans (Nat.le_trans (Nat.le_trans (Nat.le_trans (Nat.le_trans (Nat.le_trans K13.1 K19.1) K22.1) K32.1) K39.1) K49.1) K55.1) K58.1) K68.1) g76))) nin0) (ninS (Nat.ne_of_lt (Nat.lt_of_lt_of_le F34.ltb (Nat.le_trans (Nat.le_trans (Nat.le_trans (Nat.le_trans (Nat.le_trans K39.1 K49.1) K55.1) K58.1) K68.1) g76))) nin0)).keep K159 (ninS (Nat.ne_of_lt (Nat.lt_of_lt_of_le E7.lt (Nat.le_trans (Nat.le_trans (Nat.le_trans (Nat.le_trans (Nat.le_trans (Nat.le_trans (Nat.le_trans (Nat.le_trans (Nat.le_trans K13.1 K19.1) K22.1) K32.1) K39.1) K49.1) K55.1) K58.1) K68.1) g76))) nin0) (ninS (Nat.ne_of_lt (Nat.lt_of_lt_of_le F34.ltb (Nat.le_trans (Nat.le_trans (Nat.le_trans (Nat.le_trans (Nat.le_trans K39.1 K49.1) K55.1) K58.1) K68.1) g76))) nin0)).keep K162 (ninS (Nat.ne_of_lt (Nat.lt_of_lt_of_le E7.lt (Nat.le_trans (Nat.le_trans (Nat.le_trans (Nat.le_trans (Nat.le_trans (Nat.le_trans (Nat.le_trans (Nat.le_trans (Nat.le_trans K13.1 K19.1) K22.1) K32.1) K39.1) K49.1) K55.1) K58.1) K68.1) g76))) nin0) (ninS (Nat.ne_of_lt (Nat.lt_of_lt_of_le F34.ltb (Nat.le_trans (Nat.le_trans (Nat.le_trans (Nat.le_trans (Nat.le_trans K39.1 K49.1) K55.1) K58.1) K68.1) g76))) nin0)).keep K165 (ninS (Nat.ne_of_lt (Nat.lt_of_lt_of_le E7.lt (Nat.le_trans (Nat.le_trans (Nat.le_trans (Nat.le_trans (Nat.le_trans (Nat.le_trans (Nat.le_trans (Nat.le_trans (Nat.le_trans K13.1 K19.1) K22.1) K32.1) K39.1) K49.1) K55.1) K58.1) K68.1) g76))) nin0) (ninS (Nat.ne_of_lt (Nat.lt_of_lt_of_le F34.ltb (Nat.le_trans (Nat.le_trans (Nat.le_trans (Nat.le_trans (Nat.le_trans K39.1 K49.1) K55.1) K58.1) K68.1) g76))) nin0)).keep K168 (ninS (Nat.ne_of_lt (Nat.lt_of_lt_of_le E7.lt (Nat.le_trans (Nat.le_trans (Nat.le_trans (Nat.le_trans (Nat.le_trans (Nat.le_trans (Nat.le_trans (Nat.le_trans (Nat.le_trans K13.1 K19.1) K22.1) K32.1) K39.1) K49.1) K55.1) K58.1) K68.1) g76))) nin0) (ninS (Nat.ne_of_lt (Nat.lt_of_lt_of_le F34.ltb (Nat.le_trans (Nat.le_trans (Nat.le_trans (Nat.le_trans (Nat.le_trans K39.1 K49.1) K55.1) K58.1) K68.1) g76))) nin0)).keep K171 (ninS (Nat.ne_of_lt (Nat.lt_of_lt_of_le E7.lt (Nat.le_trans (Nat.le_trans (Nat.le_trans (Nat.le_trans (Nat.le_trans (Nat.le_trans (Nat.le_trans (Nat.le_trans (Nat.le_trans K13.1 K19.1) K22.1) K32.1) K39.1) K49.1) K55.1) K58.1) K68.1) g76))) nin0) (ninS (Nat.ne_of_lt (Nat.lt_of_lt_of_le F34.ltb (Nat.le_trans (Nat.le_trans (Nat.le_trans (Nat.le_trans (Nat.le_trans K39.1 K49.1) K55.1) K58.1) K68.1) g76))) nin0)).keep K174 (ninS (Nat.ne_of_lt (Nat.lt_of_lt_of_le E7.lt (Nat.le_trans (Nat.le_trans (Nat.le_trans (Nat.le_trans (Nat.le_trans (Nat.le_trans (Nat.le_trans (Nat.le_trans (Nat.le_trans K13.1 K19.1) K22.1) K32.1) K39.1) K49.1) K55.1) K58.1) K68.1) g76))) nin0) (ninS (Nat.ne_of_lt (Nat.lt_of_lt_of_le F34.ltb (Nat.le_trans (Nat.le_trans (Nat.le_trans (Nat.le_trans (Nat.le_trans K39.1 K49.1) K55.1) K58.1) K68.1) g76))) nin0)).keep K177 (ninS (Nat.ne_of_lt (Nat.lt_of_lt_of_le E7.lt (Nat.le_trans (Nat.le_trans (Nat.le_trans (Nat.le_trans (Nat.le_trans (Nat.le_trans (Nat.le_trans (Nat.le_trans (Nat.le_trans K13.1 K19.1) K22.1) K32.1) K39.1) K49.1) K55.1) K58.1) K68.1) g76))) nin0) (ninS (Nat.ne_of_lt (Nat.lt_of_lt_of_le F34.ltb (Nat.le_trans (Nat.le_trans (Nat.le_trans (Nat.le_trans (Nat.le_trans K39.1 K49.1) K55.1) K58.1) K68.1) g76))) nin0)).keep K180 (ninS (Nat.ne_of_lt (Nat.lt_of_lt_of_le E7.lt (Nat.le_trans (Nat.le_trans (Nat.le_trans (Nat.le_trans (Nat.le_trans (Nat.le_trans (Nat.le_trans (Nat.le_trans (Nat.le_trans K13.1 K19.1) K22.1) K32.1) K39.1) K49.1) K55.1) K58.1) K68.1) g76))) nin0) (ninS (Nat.ne_of_lt (Nat.lt_of_lt_of_le F34.ltb (Nat.le_trans (Nat.le_trans (Nat.le_trans (Nat.le_trans (Nat.le_trans K39.1 K49.1) K55.1) K58.1) K68.1) g76))) nin0)).keep K183 (ninS (Nat.ne_of_lt (Nat.lt_of_lt_of_le E7.lt (Nat.le_trans (Nat.le_trans (Nat.le_trans (Nat.le_trans (Nat.le_trans (Nat.le_trans (Nat.le_trans (Nat.le_trans (Nat.le_trans K13.1 K19.1) K22.1) K32.1) K39.1) K49.1) K55.1) K58.1) K68.1) g76))) nin0) (ninS (Nat.ne_of_lt (Nat.lt_of_lt_of_le F34.ltb (Nat.le_trans (Nat.le_trans (Nat.le_trans (Nat.le_trans (Nat.le_trans K39.1 K49.1) K55.1) K58.1) K68.1) g76))) nin0)).keep K186 (ninS (Nat.ne_of_lt (Nat.lt_of_lt_of_le E7.lt (Nat.le_trans (Nat.le_trans (Nat.le_trans (Nat.le_trans (Nat.le_trans (Nat.le_trans (Nat.le_trans (Nat.le_trans (Nat.le_trans K13.1 K19.1) K22.1) K32.1) K39.1) K49.1) K55.1) K58.1) K68.1) g76))) nin0) (ninS (Nat.ne_of_lt (Nat.lt_of_lt_of_le F34.ltb (Nat.le_trans (Nat.le_trans (Nat.le_trans (Nat.le_trans (Nat.le_trans K39.1 K49.1) K55.1) K58.1) K68.1) g76))) nin0)).keep K189 (ninS (Nat.ne_of_lt (Nat.lt_of_lt_of_le E7.lt (Nat.le_trans (Nat.le_trans (Nat.le_trans (Nat.le_trans (Nat.le_trans (Nat.le_trans (Nat.le_trans (Nat.le_trans (Nat.le_trans K13.1 K19.1) K22.1) K32.1) K39.1) K49.1) K55.1) K58.1) K68.1) g76))) nin0) (ninS (Nat.ne_of_lt (Nat.lt_of_lt_of_le F34.ltb (Nat.le_trans (Nat.le_trans (Nat.le_trans (Nat.le_trans (Nat.le_trans K39.1 K49.1) K55.1) K58.1) K68.1) g76))) nin0)).keep K192 (ninS (Nat.ne_of_lt (Nat.lt_of_lt_of_le E7.lt (Nat.le_trans (Nat.le_trans (Nat.le_trans (Nat.le_trans (Nat.le_trans (Nat.le_trans (Nat.le_trans (Nat.le_trans (Nat.le_trans K13.1 K19.1) K22.1) K32.1) K39.1) K49.1) K55.1) K58.1) K68.1) g76))) nin0) (ninS (Nat.ne_of_lt (Nat.lt_of_lt_of_le F34.ltb (Nat.le_trans (Nat.le_trans (Nat.le_trans (Nat.le_trans (Nat.le_trans K39.1 K49.1) K55.1) K58.1) K68.1) g76))) nin0)).keep K195 (ninS (Nat.ne_of_lt (Nat.lt_of_lt_of_le E7.lt (Nat.le_trans (Nat.le_trans (Nat.le_trans (Nat.le_trans (Nat.le_trans (Nat.le_trans (Nat.le_trans (Nat.le_trans (Nat.le_trans K13.1 K19.1) K22.1) K32.1) K39.1) K49.1) K55.1) K58.1) K68.1) g76))) nin0) (ninS (Nat.ne_of_lt (Nat.lt_of_lt_of_le F34.ltb (Nat.le_trans (Nat.le_trans (Nat.le_trans (Nat.le_trans (Nat.le_trans K39.1 K49.1) K55.1) K58.1) K68.1) g76))) nin0)).keep K198 (ninS (Nat.ne_of_lt (Nat.lt_of_lt_of_le E7.lt (Nat.le_trans (Nat.le_trans (Nat.le_trans (Nat.le_trans (Nat.le_trans (Nat.le_trans (Nat.le_trans (Nat.le_trans (Nat.le_trans K13.1 K19.1) K22.1) K32.1) K39.1) K49.1) K55.1) K58.1) K68.1) g76))) nin0) (ninS (Nat.ne_of_lt (Nat.lt_of_lt_of_le F34.ltb (Nat.le_trans (Nat.le_trans (Nat.le_trans (Nat.le_trans (Nat.le_trans K39.1 K49.1) K55.1) K58.1) K68.1) g76))) nin0)).keep K201 (ninS (Nat.ne_of_lt (Nat.lt_of_lt_of_le E7.lt (Nat.le_trans (Nat.le_trans (Nat.le_trans (Nat.le_trans (Nat.le_trans (Nat.le_trans (Nat.le_trans (Nat.le_trans (Nat.le_trans K13.1 K19.1) K22.1) K32.1) K39.1) K49.1) K55.1) K58.1) K68.1) g76))) nin0) (ninS (Nat.ne_of_lt (Nat.lt_of_lt_of_le F34.ltb (Nat.le_trans (Nat.le_trans (Nat.le_trans (Nat.le_trans (Nat.le_trans K39.1 K49.1) K55.1) K58.1) K68.1) g76))) nin0)).keep K204 (ninS (Nat.ne_of_lt (Nat.lt_of_lt_of_le E7.lt (Nat.le_trans (Nat.le_trans (Nat.le_trans (Nat.le_trans (Nat.le_trans (Nat.le_trans (Nat.le_trans (Nat.le_trans (Nat.le_trans K13.1 K19.1) K22.1) K32.1) K39.1) K49.1) K55.1) K58.1) K68.1) g76))) nin0) (ninS (Nat.ne_of_lt (Nat.lt_of_lt_of_le F34.ltb (Nat.le_trans (Nat.le_trans (Nat.le_trans (Nat.le_trans (Nat.le_trans K39.1 K49.1) K55.1) K58.1) K68.1) g76))) nin0)).keep K207 (ninS (Nat.ne_of_lt (Nat.lt_of_lt_of_le E7.lt (Nat.le_trans (Nat.le_trans (Nat.le_trans (Nat.le_trans (Nat.le_trans (Nat.le_trans (Nat.le_trans (Nat.le_trans (Nat.le_trans K13.1 K19.1) K22.1) K32.1) K39.1) K49.1) K55.1) K58.1) K68.1) g76))) nin0) (ninS (Nat.ne_of_lt (Nat.lt_of_lt_of_le F34.ltb (Nat.le_trans (Nat.le_trans (Nat.le_trans (Nat.le_trans (Nat.le_trans K39.1 K49.1) K55.1) K58.1) K68.1) g76))) nin0)).keep K210 (ninS (Nat.ne_of_lt (Nat.lt_of_lt_of_le E7.lt (Nat.le_trans (Nat.le_trans (Nat.le_trans (Nat.le_trans (Nat.le_trans (Nat.le_trans (Nat.le_trans (Nat.le_trans (Nat.le_trans K13.1 K19.1) K22.1) K32.1) K39.1) K49.1) K55.1) K58.1) K68.1) g76))) nin0) (ninS (Nat.ne_of_lt (Nat.lt_of_lt_of_le F34.ltb (Nat.le_trans (Nat.le_trans (Nat.le_trans (Nat.le_trans (Nat.le_trans K39.1 K49.1) K55.1) K58.1) K68.1) g76))) nin0)).keep K213 (ninS (Nat.ne_of_lt (Nat.lt_of_lt_of_le E7.lt (Nat.le_trans (Nat.le_trans (Nat.le_trans (Nat.le_trans (Nat.le_trans (Nat.le_trans (Nat.le_trans (Nat.le_trans (Nat.le_trans K13.1 K19.1) K22.1) K32.1) K39.1) K49.1) K55.1) K58.1) K68.1) g76))) nin0) (ninS (Nat.ne_of_lt (Nat.lt_of_lt_of_le F34.ltb (Nat.le_trans (Nat.le_trans (Nat.le_trans (Nat.le_trans (Nat.le_trans K39.1 K49.1) K55.1) K58.1) K68.1) g76))) nin0)).keep K216 (ninS (Nat.ne_of_lt (Nat.lt_of_lt_of_le E7.lt (Nat.le_trans (Nat.le_trans (Nat.le_trans (Nat.le_trans (Nat.le_trans (Nat.le_trans (Nat.le_trans (Nat.le_trans (Nat.le_trans K13.1 K19.1) K22.1) K32.1) K39.1) K49.1) K55.1) K58.1) K68.1) g76))) nin0) (ninS (Nat.ne_of_lt (Nat.lt_of_lt_of_le F34.ltb (Nat.le_trans (Nat.le_trans (Nat.le_trans (Nat.le_trans (Nat.le_trans K39.1 K49.1) K55.1) K58.1) K68.1) g76))) nin0)).keep K219 (ninS (Nat.ne_of_lt (Nat.lt_of_lt_of_le E7.lt (Nat.le_trans (Nat.le_trans (Nat.le_trans (Nat.le_trans (Nat.le_trans (Nat.le_trans (Nat.le_trans (Nat.le_trans (Nat.le_trans K13.1 K19.1) K22.1) K32.1) K39.1) K49.1) K55.1) K58.1) K68.1) g76))) nin0) (ninS (Nat.ne_of_lt (Nat.lt_of_lt_of_le F34.ltb (Nat.le_trans (Nat.le_trans (Nat.le_trans (Nat.le_trans (Nat.le_trans K39.1 K49.1) K55.1) K58.1) K68.1) g76))) nin0)).keep K222 (ninS (Nat.ne_of_lt (Nat.lt_of_lt_of_le E7.lt (Nat.le_trans (Nat.le_trans (Nat.le_trans (Nat.le_trans (Nat.le_trans (Nat.le_trans (Nat.le_trans (Nat.le_trans (Nat.le_trans K13.1 K19.1) K22.1) K32.1) K39.1) K49.1) K55.1) K58.1) K68.1) g76))) nin0) (ninS (Nat.ne_of_lt (Nat.lt_of_lt_of_le F34.ltb (Nat.le_trans (Nat.le_trans (Nat.le_trans (Nat.le_trans (Nat.le_trans K39.1 K49.1) K55.1) K58.1) K68.1) g76))) nin0)).keep K225 (ninS (Nat.ne_of_lt (Nat.lt_of_lt_of_le E7.lt (Nat.le_trans (Nat.le_trans (Nat.le_trans (Nat.le_trans (Nat.le_trans (Nat.le_trans (Nat.le_trans (Nat.le_trans (Nat.le_trans K13.1 K19.1) K22.1) K32.1) K39.1) K49.1) K55.1) K58.1) K68.1) g76))) nin0) (ninS (Nat.ne_of_lt (Nat.lt_of_lt_of_le F34.ltb (Nat.le_trans (Nat.le_trans (Nat.le_trans (Nat.le_trans (Nat.le_trans K39.1 K49.1) K55.1) K58.1) K68.1) g76))) nin0)).keep K228 (ninS (Nat.ne_of_lt (Nat.lt_of_lt_of_le E7.lt (Nat.le_trans (Nat.le_trans (Nat.le_trans (Nat.le_trans (Nat.le_trans (Nat.le_trans (Nat.le_trans (Nat.le_trans (Nat.le_trans K13.1 K19.1) K22.1) K32.1) K39.1) K49.1) K55.1) K58.1) K68.1) g76))) nin0) (ninS (Nat.ne_of_lt (Nat.lt_of_lt_of_le F34.ltb (Nat.le_trans (Nat.le_trans (Nat.le_trans (Nat.le_trans (Nat.le_trans K39.1 K49.1) K55.1) K58.1) K68.1) g76))) nin0)).keep K231 (ninS (Nat.ne_of_lt (Nat.lt_of_lt_of_le E7.lt (Nat.le_trans (Nat.le_trans (Nat.le_trans (Nat.le_trans (Nat.le_trans (Nat.le_trans (Nat.le_trans (Nat.le_trans (Nat.le_trans K13.1 K19.1) K22.1) K32.1) K39.1) K49.1) K55.1) K58.1) K68.1) g76))) nin0) (ninS (Nat.ne_of_lt (Nat.lt_of_lt_of_le F34.ltb (Nat.le_trans (Nat.le_trans (Nat.le_trans (Nat.le_trans (Nat.le_trans K39.1 K49.1) K55.1) K58.1) K68.1) g76))) nin0)).keep K234 (ninS (Nat.ne_of_lt (Nat.lt_of_lt_of_le E7.lt (Nat.le_trans (Nat.le_trans (Nat.le_trans (Nat.le_trans (Nat.le_trans (Nat.le_trans (Nat.le_trans (Nat.le_trans (Nat.le_trans K13.1 K19.1) K22.1) K32.1) K39.1) K49.1) K55.1) K58.1) K68.1) g76))) nin0) (ninS (Nat.ne_of_lt (Nat.lt_of_lt_of_le F34.ltb (Nat.le_trans (Nat.le_trans (Nat.le_trans (Nat.le_trans (Nat.le_trans K39.1 K49.1) K55.1) K58.1) K68.1) g76))) nin0)).keep K237 (ninS (Nat.ne_of_lt (Nat.lt_of_lt_of_le E7.lt (Nat.le_trans (Nat.le_trans (Nat.le_trans (Nat.le_trans (Nat.le_trans (Nat.le_trans (Nat.le_trans (Nat.le_trans (Nat.le_trans K13.1 K19.1) K22.1) K32.1) K39.1) K49.1) K55.1) K58.1) K68.1) g76))) nin0) (ninS (Nat.ne_of_lt (Nat.lt_of_lt_of_le F34.ltb (Nat.le_trans (Nat.le_trans (Nat.le_trans (Nat.le_trans (Nat.le_trans K39.1 K49.1) K55.1) K58.1) K68.1) g76))) nin0)).keep K240 (ninS (Nat.ne_of_lt (Nat.lt_of_lt_of_le E7.lt (Nat.le_trans (Nat.le_trans (Nat.le_trans (Nat.le_trans (Nat.le_trans (Nat.le_trans (Nat.le_trans (Nat.le_trans (Nat.le_trans K13.1 K19.1) K22.1) K32.1) K39.1) K49.1) K55.1) K58.1) K68.1) g76))) nin0) (ninS (Nat.ne_of_lt (Nat.lt_of_lt_of_le F34.ltb (Nat.le_trans (Nat.le_trans (Nat.le_trans (Nat.le_trans (Nat.le_trans K39.1 K49.1) K55.1) K58.1) K68.1) g76))) nin0)).keep K243 (ninS (Nat.ne_of_lt (Nat.lt_of_lt_of_le E7.lt (Nat.le_trans (Nat.le_trans (Nat.le_trans (Nat.le_trans (Nat.le_trans (Nat.le_trans (Nat.le_trans (Nat.le_trans (Nat.le_trans K13.1 K19.1) K22.1) K32.1) K39.1) K49.1) K55.1) K58.1) K68.1) g76))) nin0) (ninS (Nat.ne_of_lt (Nat.lt_of_lt_of_le F34.ltb (Nat.le_trans (Nat.le_trans (Nat.le_trans (Nat.le_trans (Nat.le_trans K39.1 K49.1) K55.1) K58.1) K68.1) g76))) nin0)).keep K246 (ninS (Nat.ne_of_lt (Nat.lt_of_lt_of_le E7.lt (Nat.le_trans (Nat.le_trans (Nat.le_trans (Nat.le_trans (Nat.le_trans (Nat.le_trans (Nat.le_trans (Nat.le_trans (Nat.le_trans K13.1 K19.1) K22.1) K32.1) K39.1) K49.1) K55.1) K58.1) K68.1) g76))) nin0) (ninS (Nat.ne_of_lt (Nat.lt_of_lt_of_le F34.ltb (Nat.le_trans (Nat.le_trans (Nat.le_trans (Nat.le_trans (Nat.le_trans K39.1 K49.1) K55.1) K58.1) K68.1) g76))) nin0)).keep K249 (ninS (Nat.ne_of_lt (Nat.lt_of_lt_of_le E7.lt (Nat.le_trans (Nat.le_trans (Nat.le_trans (Nat.le_trans (Nat.le_trans (Nat.le_trans (Nat.le_trans (Nat.le_trans (Nat.le_trans K13.1 K19.1) K22.1) K32.1) K39.1) K49.1) K55.1) K58.1) K68.1) g76))) nin0) (ninS (Nat.ne_of_lt (Nat.lt_of_lt_of_le F34.ltb (Nat.le_trans (Nat.le_trans (Nat.le_trans (Nat.le_trans (Nat.le_trans K39.1 K49.1) K55.1) K58.1) K68.1) g76))) nin0)).keep K252 (ninS (Nat.ne_of_lt (Nat.lt_of_lt_of_le E7.lt (Nat.le_trans (Nat.le_trans (Nat.le_trans (Nat.le_trans (Nat.le_trans (Nat.le_trans (Nat.le_trans (Nat.le_trans (Nat.le_trans K13.1 K19.1) K22.1) K32.1) K39.1) K49.1) K55.1) K58.1) K68.1) g76))) nin0) (ninS (Nat.ne_of_lt (Nat.lt_of_lt_of_le F34.ltb (Nat.le_trans (Nat.le_trans (Nat.le_trans (Nat.le_trans (Nat.le_trans K39.1 K49.1) K55.1) K58.1) K68.1) g76))) nin0)).keep K255 (ninS (Nat.ne_of_lt (Nat.lt_of_lt_of_le E7.lt (Nat.le_trans (Nat.le_trans (Nat.le_trans (Nat.le_trans (Nat.le_trans (Nat.le_trans (Nat.le_trans (Nat.le_trans (Nat.le_trans K13.1 K19.1) K22.1) K32.1) K39.1) K49.1) K55.1) K58.1) K68.1) g76))) nin0) (ninS (Nat.ne_of_lt (Nat.lt_of_lt_of_le F34.ltb (Nat.le_trans (Nat.le_trans (Nat.le_trans (Nat.le_trans (Nat.le_trans K39.1 K49.1) K55.1) K58.1) K68.1) g76))) nin0)).keep K258 (ninS (Nat.ne_of_lt (Nat.lt_of_lt_of_le E7.lt (Nat.le_trans (Nat.le_trans (Nat.le_trans (Nat.le_trans (Nat.le_trans (Nat.le_trans (Nat.le_trans (Nat.le_trans (Nat.le_trans K13.1 K19.1) K22.1) K32.1) K39.1) K49.1) K55.1) K58.1) K68.1) g76))) nin0) (ninS (Nat.ne_of_lt (Nat.lt_of_lt_of_le F34.ltb (Nat.le_trans (Nat.le_trans (Nat.le_trans (Nat.le_trans (Nat.le_trans K39.1 K49.1) K55.1) K58.1) K68.1) g76))) nin0)).keep K262 nin0 nin0).keep K276 (ninS (Nat.ne_of_lt (Nat.lt_of_lt_of_le E7.lt (Nat.le_trans (Nat.le_trans (Nat.le_trans (Nat.le_trans (Nat.le_trans (Nat.le_trans (Nat.le_trans (Nat.le_trans (Nat.le_trans (Nat.le_trans (Nat.le_trans (Nat.le_trans (Nat.le_trans (Nat.le_trans (Nat.le_trans (Nat.le_trans (Nat.le_trans (Nat.le_trans (Nat.le_trans (Nat.le_trans (Nat.le_trans (Nat.le_trans (Nat.le_trans (Nat.le_trans (Nat.le_trans (Nat.le_trans (Nat.le_trans (Nat.le_trans (Nat.le_trans (Nat.le_trans (Nat.le_trans (Nat.le_trans (Nat.le_trans (Nat.le_trans (Nat.le_trans (Nat.le_trans (Nat.le_trans (Nat.le_trans (Nat.le_trans (Nat.le_trans (Nat.le_trans (Nat.le_trans (Nat.le_trans (Nat.le_trans (Nat.le_trans (Nat.le_trans (Nat.le_trans (Nat.le_trans (Nat.le_trans (Nat.le_trans (Nat.le_trans (Nat.le_trans (Nat.le_trans (Nat.le_trans (Nat.le_trans (Nat.le_trans (Nat.le_trans (Nat.le_trans (Nat.le_trans (Nat.le_trans (Nat.le_trans (Nat.le_trans (Nat.le_trans (Nat.le_trans (Nat.le_trans (Nat.le_trans (Nat.le_trans (Nat.le_trans (Nat.le_trans (Nat.le_trans K13.1 K19.1) K22.1) K32.1) K39.1) K49.1) K55.1) K58.1) K68.1) K75.1) K81.1) K84.1) K87.1) K90.1) K93.1) K96.1) K99.1) K102.1) K105.1) K108.1) K111.1) K114.1) K117.1) K120.1) K123.1) K126.1) K129.1) K132.1) K135.1) K138.1) K141.1) K144.1) K147.1) K150.1) K153.1) K156.1) K159.1) K162.1) K165.1) K168.1) K171.1) K174.1) K177.1) K180.1) K183.1) K186.1) K189.1) K192.1) K195.1) K198.1) K201.1) K204.1) K207.1) K210.1) K213.1) K216.1) K219.1) K222.1) K225.1) K228.1) K231.1) K234.1) K237.1) K240.1) K243.1) K246.1) K249.1) K252.1) K255.1) K258.1) g263))) nin0) (ninS (Nat.ne_of_lt (Nat.lt_of_lt_of_le F34.ltb (Nat.le_trans (Nat.le_trans (Nat.le_trans (Nat.le_trans (Nat.le_trans (Nat.le_trans (Nat.le_trans (Nat.le_trans (Nat.le_trans (Nat.le_trans (Nat.le_trans (Nat.le_trans (Nat.le_trans (Nat.le_trans (Nat.le_trans (Nat.le_trans (Nat.le_trans (Nat.le_trans (Nat.le_trans (Nat.le_trans (Nat.le_trans (Nat.le_trans (Nat.le_trans (Nat.le_trans (Nat.le_trans (Nat.le_trans (Nat.le_trans (Nat.le_trans (Nat.le_trans (Nat.le_trans (Nat.le_trans (Nat.le_trans (Nat.le_trans (Nat.le_trans (Nat.le_trans (Nat.le_trans (Nat.le_trans (Nat.le_trans (Nat.le_trans (Nat.le_trans (Nat.le_trans (Nat.le_trans (Nat.le_trans (Nat.le_trans (Nat.le_trans (Nat.le_trans (Nat.le_trans (Nat.le_trans (Nat.le_trans (Nat.le_trans (Nat.le_trans (Nat.le_trans (Nat.le_trans (Nat.le_trans (Nat.le_trans (Nat.le_trans (Nat.le_trans (Nat.le_trans (Nat.le_trans (Nat.le_trans (Nat.le_trans (Nat.le_trans (Nat.le_trans (Nat.le_trans (Nat.le_trans (Nat.le_trans K39.1 K49.1) K55.1) K58.1) K68.1) K75.1) K81.1) K84.1) K87.1) K90.1) K93.1) K96.1) K99.1) K102.1) K105.1) K108.1) K111.1) K114.1) K117.1) K120.1) K123.1) K126.1) K129.1) K132.1) K135.1) K138.1) K141.1) K144.1) K147.1) K150.1) K153.1) K156.1) K159.1) K162.1) K165.1) K168.1) K171.1) K174.1) K177.1) K180.1) K183.1) K186.1) K189.1) K192.1) K195.1) K198.1) K201.1) K204.1) K207.1) K210.1) K213.1) K216.1) K219.1) K222.1) K225.1) K228.1) K231.1) K234.1) K237.1) K240.1) K243.1) K246.1) K249.1) K252.1) K255.1) K258.1) g263))) nin0))
  have F282 := (((((((((((((((((((((((((((((((((((((((((((((((((((((((((((((((F70.keep K75 nin0 nin0).keep K81 (ninS (Nat.ne_of_lt (Nat.lt_of_lt_of_le E43.lt (Nat.le_trans (Nat.le_trans (Nat.le_trans (Nat.le_trans K49.1 K55.1) K58.1) K68.1) g76))) nin0) (ninS (Nat.ne_of_lt (Nat.lt_of_lt_of_le F70.ltb (Nat.le_trans (Nat.le_refl _) g76))) nin0)).keep K84 (ninS (Nat.ne_of_lt (Nat.lt_of_lt_of_le E43.lt (Nat.le_trans (Nat.le_trans (Nat.le_trans (Nat.le_trans K49.1 K55.1) K58.1) K68.1) g76))) nin0) (ninS (Nat.ne_of_lt (Nat.lt_of_lt_of_le F70.ltb (Nat.le_trans (Nat.le_refl _) g76))) nin0)).keep K87 (ninS (Nat.ne_of_lt (Nat.lt_of_lt_of_le E43.lt (Nat.le_trans (Nat.le_trans (Nat.le_trans (Nat.le_trans K49.1 K55.1) K58.1) K68.1) g76))) nin0) (ninS (Nat.ne_of_lt (Nat.lt_of_lt_of_le F70.ltb (Nat.le_trans (Nat.le_refl _) g76))) nin0)).keep K90 (ninS (Nat.ne_of_lt (Nat.lt_of_lt_of_le E43.lt (Nat.le_trans (Nat.le_trans (Nat.le_trans (Nat.le_trans K49.1 K55.1) K58.1) K68.1) g76))) nin0) (ninS (Nat.ne_of_lt (Nat.lt_of_lt_of_le F70.ltb (Nat.le_trans (Nat.le_refl _) g76))) nin0)).keep K93 (ninS (Nat.ne_of_lt (Nat.lt_of_lt_of_le E43.lt (Nat.le_trans (Nat.le_trans (Nat.le_trans (Nat.le_trans K49.1 K55.1) K58.1) K68.1) g76))) nin0) (ninS (Nat.ne_of_lt (Nat.lt_of_lt_of_le F70.ltb (Nat.le_trans (Nat.le_refl _) g76))) nin0)).keep K96 (ninS (Nat.ne_of_lt (Nat.lt_of_lt_of_le E43.lt (Nat.le_trans (Nat.le_trans (Nat.le_trans (Nat.le_trans K49.1 K55.1) K58.1) K68.1) g76))) nin0) (ninS (Nat.ne_of_lt (Nat.lt_of_lt_of_le F70.ltb (Nat.le_trans (Nat.le_refl _) g76))) nin0)).keep K99 (ninS (Nat.ne_of_lt (Nat.lt_of_lt_of_le E43.lt (Nat.le_trans (Nat.le_trans (Nat.le_trans (Nat.le_trans K49.1 K55.1) K58.1) K68.1) g76))) nin0) (ninS (Nat.ne_of_lt (Nat.lt_of_lt_of_le F70.ltb (Nat.le_trans (Nat.le_refl _) g76))) nin0)).keep K102 (ninS (Nat.ne_of_lt (Nat.lt_of_lt_of_le E43.lt (Nat.le_trans (Nat.le_trans (Nat.le_trans (Nat.le_trans K49.1 K55.1) K58.1) K68.1) g76))) nin0) (ninS (Nat.ne_of_lt (Nat.lt_of_lt_of_le F70.ltb (Nat.le_trans (Nat.le_refl _) g76))) nin0)).keep K105 (ninS (Nat.ne_of_lt (Nat.lt_of_lt_of_le E43.lt (Nat.le_trans (Nat.le_trans (Nat.le_trans (Nat.le_trans K49.1 K55.1) K58.1) K68.1) g76))) nin0) (ninS (Nat.ne_of_lt (Nat.lt_of_lt_of_le F70.ltb (Nat.le_trans (Nat.le_refl _) g76))) nin0)).keep K108 (ninS (Nat.ne_of_lt (Nat.lt_of_lt_of_le E43.lt (Nat.le_trans (Nat.le_trans (Nat.le_trans (Nat.le_trans K49.1 K55.1) K58.1) K68.1) g76))) nin0) (ninS (Nat.ne_of_lt (Nat.lt_of_lt_of_le F70.ltb (Nat.le_trans (Nat.le_refl _) g76))) nin0)).keep K111 (ninS (Nat.ne_of_lt (Nat.lt_of_lt_of_le E43.lt (Nat.le_trans (Nat.le_trans (Nat.le_trans (Nat.le_trans K49.1 K55.1) K58.1) K68.1) g76))) nin0) (ninS (Nat.ne_of_lt (Nat.lt_of_lt_of_le F70.ltb (Nat.le_trans (Nat.le_refl _) g76))) nin0)).keep K114 (ninS (Nat.ne_of_lt (Nat.lt_of_lt_of_le E43.lt (Nat.le_trans (Nat.le_trans (Nat.le_trans (Nat.le_trans K49.1 K55.1) K58.1) K68.1) g76))) nin0) (ninS (Nat.ne_of_lt (Nat.lt_of_lt_of_le F70.ltb (Nat.le_trans (Nat.le_refl _) g76))) nin0)).keep K117 (ninS (Nat.ne_of_lt (Nat.lt_of_lt_of_le E43.lt (Nat.le_trans (Nat.le_trans (Nat.le_trans (Nat.le_trans K49.1 K55.1) K58.1) K68.1) g76))) nin0) (ninS (Nat.ne_of_lt (Nat.lt_of_lt_of_le F70.ltb (Nat.le_trans (Nat.le_refl _) g76))) nin0)).keep K120 (ninS (Nat.ne_of_lt (Nat.lt_of_lt_of_le E43.lt (Nat.le_trans (Nat.le_trans (Nat.le_trans (Nat.le_trans K49.1 K55.1) K58.1) K68.1) g76))) nin0) (ninS (Nat.ne_of_lt (Nat.lt_of_lt_of_le F70.ltb (Nat.le_trans (Nat.le_refl _) g76))) nin0)).keep K123 (ninS (Nat.ne_of_lt (Nat.lt_of_lt_of_le E43.lt (Nat.le_trans (Nat.le_trans (Nat.le_trans (Nat.le_trans K49.1 K55.1) K58.1) K68.1) g76))) nin0) (ninS (Nat.ne_of_lt (Nat.lt_of_lt_of_le F70.ltb (Nat.le_trans (Nat.le_refl _) g76))) nin0)).keep K126 (ninS (Nat.ne_of_lt (Nat.lt_of_lt_of_le E43.lt (Nat.le_trans (Nat.le_trans (Nat.le_trans (Nat.le_trans K49.1 K55.1) K58.1) K68.1) g76))) nin0) (ninS (Nat.ne_of_lt (Nat.lt_of_lt_of_le F70.ltb (Nat.le_trans (Nat.le_refl _) g76))) nin0)).keep K129 (ninS (Nat.ne_of_lt (Nat.lt_of_lt_of_le E43.lt (Nat.le_trans (Nat.le_trans (Nat.le_trans (Nat.le_trans K49.1 K55.1) K58.1) K68.1) g76))) nin0) (ninS (Nat.ne_of_lt (Nat.lt_of_lt_of_le F70.ltb (Nat.le_trans (Nat.le_refl _) g76))) nin0)).keep K132 (ninS (Nat.ne_of_lt (Nat.lt_of_lt_of_le E43.lt (Nat.le_trans (Nat.le_trans (Nat.le_trans (Nat.le_trans K49.1 K55.1) K58.1) K68.1) g76))) nin0) (ninS (Nat.ne_of_lt (Nat.lt_of_lt_of_le F70.ltb (Nat.le_trans (Nat.le_refl _) g76))) nin0)).keep K135 (ninS (Nat.ne_of_lt (Nat.lt_of_lt_of_le E43.lt (Nat.le_trans (Nat.le_trans (Nat.le_trans (Nat.le_trans K49.1 K55.1) K58.1) K68.1) g76))) nin0) (ninS (Nat.ne_of_lt (Nat.lt_of_lt_of_le F70.ltb (Nat.le_trans (Nat.le_refl _) g76))) nin0)).keep K138 (ninS (Nat.ne_of_lt (Nat.lt_of_lt_of_le E43.lt (Nat.le_trans (Nat.le_trans (Nat.le_trans (Nat.le_trans K49.1 K55.1) K58.1) K68.1) g76))) nin0) (ninS (Nat.ne_of_lt (Nat.lt_of_lt_of_le F70.ltb (Nat.le_trans (Nat.le_refl _) g76))) nin0)).keep K141 (ninS (Nat.ne_of_lt (Nat.lt_of_lt_of_le E43.lt (Nat.le_trans (Nat.le_trans (Nat.le_trans (Nat.le_trans K49.1 K55.1) K58.1) K68.1) g76))) nin0) (ninS (Nat.ne_of_lt (Nat.lt_of_lt_of_le F70.ltb (Nat.le_trans (Nat.le_refl _) g76))) nin0)).keep K144 (ninS (Nat.ne_of_lt (Nat.lt_of_lt_of_le E43.lt (Nat.le_trans (Nat.le_trans (Nat.le_trans (Nat.le_trans K49.1 K55.1) K58.1) K68.1) g76))) nin0) (ninS (Nat.ne_of_lt (Nat.lt_of_lt_of_le F70.ltb (Nat.le_trans (Nat.le_refl _) g76))) nin0)).keep K147 (ninS (Nat.ne_of_lt (Nat.lt_of_lt_of_le E43.lt (Nat.le_trans (Nat.le_trans (Nat.le_trans (Nat.le_trans K49.1 K55.1) K58.1) K68.1) g76))) nin0) (ninS (Nat.ne_of_lt (Nat.lt_of_lt_of_le F70.ltb (Nat.le_trans (Nat.le_refl _) g76))) nin0)).keep K150 (ninS (Nat.ne_of_lt (Nat.lt_of_lt_of_le E43.lt (Nat.le_trans (Nat.le_trans (Nat.le_trans (Nat.le_trans K49.1 K55.1) K58.1) K68.1) g76))) nin0) (ninS (Nat.ne_of_lt (Nat.lt_of_lt_of_le F70.ltb (Nat.le_trans (Nat.le_refl _) g76))) nin0)).keep K153 (ninS (Nat.ne_of_lt (Nat.lt_of_lt_of_le E43.lt (Nat.le_trans (Nat.le_trans (Nat.le_trans (Nat.le_trans K49.1 K55.1) K58.1) K68.1) g76))) nin0) (ninS (Nat.ne_of_lt (Nat.lt_of_lt_of_le F70.ltb (Nat.le_trans (Nat.le_refl _) g76))) nin0)).keep K156 (ninS (Nat.ne_of_lt (Nat.lt_of_lt_of_le E43.lt (Nat.le_trans (Nat.le_trans (Nat.le_trans (Nat.le_trans K49.1 K55.1) K58.1) K68.1) g76))) nin0) (ninS (Nat.ne_of_lt (Nat.lt_of_lt_of_le F70.ltb (Nat.le_trans (Nat.le_refl _) g76))) nin0)).keep K159 (ninS (Nat.ne_of_lt (Nat.lt_of_lt_of_le E43.lt (Nat.le_trans (Nat.le_trans (Nat.le_trans (Nat.le_trans K49.1 K55.1) K58.1) K68.1) g76))) nin0) (ninS (Nat.ne_of_lt (Nat.lt_of_lt_of_le F70.ltb (Nat.le_trans (Nat.le_refl _) g76))) nin0)).keep K162 (ninS (Nat.ne_of_lt (Nat.lt_of_lt_of_le E43.lt (Nat.le_trans (Nat.le_trans (Nat.le_trans (Nat.le_trans K49.1 K55.1) K58.1) K68.1) g76))) nin0) (ninS (Nat.ne_of_lt (Nat.lt_of_lt_of_le F70.ltb (Nat.le_trans (Nat.le_refl _) g76))) nin0)).keep K165 (ninS (Nat.ne_of_lt (Nat.lt_of_lt_of_le E43.lt (Nat.le_trans (Nat.le_trans (Nat.le_trans (Nat.le_trans K49.1 K55.1) K58.1) K68.1) g76))) nin0) (ninS (Nat.ne_of_lt (Nat.lt_of_lt_of_le F70.ltb (Nat.le_trans (Nat.le_refl _) g76))) nin0)).keep K168 (ninS (Nat.ne_of_lt (Nat.lt_of_lt_of_le E43.lt (Nat.le_trans (Nat.le_trans (Nat.le_trans (Nat.le_trans K49.1 K55.1) K58.1) K68.1) g76))) nin0) (ninS (Nat.ne_of_lt (Nat.lt_of_lt_of_le F70.ltb (Nat.le_trans (Nat.le_refl _) g76))) nin0)).keep K171 (ninS (Nat.ne_of_lt (Nat.lt_of_lt_of_le E43.lt (Nat.le_trans (Nat.le_trans (Nat.le_trans (Nat.le_trans K49.1 K55.1) K58.1) K68.1) g76))) nin0) (ninS (Nat.ne_of_lt (Nat.lt_of_lt_of_le F70.ltb (Nat.le_trans (Nat.le_refl _) g76))) nin0)).keep K174 (ninS (Nat.ne_of_lt (Nat.lt_of_lt_of_le E43.lt (Nat.le_trans (Nat.le_trans (Nat.le_trans (Nat.le_trans K49.1 K55.1) K58.1) K68.1) g76))) nin0) (ninS (Nat.ne_of_lt (Nat.lt_of_lt_of_le F70.ltb (Nat.le_trans (Nat.le_refl _) g76))) nin0)).keep K177 (ninS (Nat.ne_of_lt (Nat.lt_of_lt_of_le E43.lt (Nat.le_trans (Nat.le_trans (Nat.le_trans (Nat.le_trans K49.1 K55.1) K58.1) K68.1) g76))) nin0) (ninS (Nat.ne_of_lt (Nat.lt_of_lt_of_le F70.ltb (Nat.le_trans (Nat.le_refl _) g76))) nin0)).keep K180 (ninS (Nat.ne_of_lt (Nat.lt_of_lt_of_le E43.lt (Nat.le_trans (Nat.le_trans (Nat.le_trans (Nat.le_trans K49.1 K55.1) K58.1) K68.1) g76))) nin0) (ninS (Nat.ne_of_lt (Nat.lt_of_lt_of_le F70.ltb (Nat.le_trans (Nat.le_refl _) g76))) nin0)).keep K183 (ninS (Nat.ne_of_lt (Nat.lt_of_lt_of_le E43.lt (Nat.le_trans (Nat.le_trans (Nat.le_trans (Nat.le_trans K49.1 K55.1) K58.1) K68.1) g76))) nin0) (ninS (Nat.ne_of_lt (Nat.lt_of_lt_of_le F70.ltb (Nat.le_trans (Nat.le_refl _) g76))) nin0)).keep K186 (ninS (Nat.ne_of_lt (Nat.lt_of_lt_of_le E43.lt (Nat.le_trans (Nat.le_trans (Nat.le_trans (Nat.le_trans K49.1 K55.1) K58.1) K68.1) g76))) nin0) (ninS (Nat.ne_of_lt (Nat.lt_of_lt_of_le F70.ltb (Nat.le_trans (Nat.le_refl _) g76))) nin0)).keep K189 (ninS (Nat.ne_of_lt (Nat.lt_of_lt_of_le E43.lt (Nat.le_trans (Nat.le_trans (Nat.le_trans (Nat.le_trans K49.1 K55.1) K58.1) K68.1) g76))) nin0) (ninS (Nat.ne_of_lt (Nat.lt_of_lt_of_le F70.ltb (Nat.le_trans (Nat.le_refl _) g76))) nin0)).keep K192 (ninS (Nat.ne_of_lt (Nat.lt_of_lt_of_le E43.lt (Nat.le_trans (Nat.le_trans (Nat.le_trans (Nat.le_trans K49.1 K55.1) K58.1) K68.1) g76))) nin0) (ninS (Nat.ne_of_lt (Nat.lt_of_lt_of_le F70.ltb (Nat.le_trans (Nat.le_refl _) g76))) nin0)).keep K195 (ninS (Nat.ne_of_lt (Nat.lt_of_lt_of_le E43.lt (Nat.le_trans (Nat.le_trans (Nat.le_trans (Nat.le_trans K49.1 K55.1) K58.1) K68.1) g76))) nin0) (ninS (Nat.ne_of_lt (Nat.lt_of_lt_of_le F70.ltb (Nat.le_trans (Nat.le_refl _) g76))) nin0)).keep K198 (ninS (Nat.ne_of_lt (Nat.lt_of_lt_of_le E43.lt (Nat.le_trans (Nat.le_trans (Nat.le_trans (Nat.le_trans K49.1 K55.1) K58.1) K68.1) g76))) nin0) (ninS (Nat.ne_of_lt (Nat.lt_of_lt_of_le F70.ltb (Nat.le_trans (Nat.le_refl _) g76))) nin0)).keep K201 (ninS (Nat.ne_of_lt (Nat.lt_of_lt_of_le E43.lt (Nat.le_trans (Nat.le_trans (Nat.le_trans (Nat.le_trans K49.1 K55.1) K58.1) K68.1) g76))) nin0) (ninS (Nat.ne_of_lt (Nat.lt_of_lt_of_le F70.ltb (Nat.le_trans (Nat.le_refl _) g76))) nin0)).keep K204 (ninS (Nat.ne_of_lt (Nat.lt_of_lt_of_le E43.lt (Nat.le_trans (Nat.le_trans (Nat.le_trans (Nat.le_trans K49.1 K55.1) K58.1) K68.1) g76))) nin0) (ninS (Nat.ne_of_lt (Nat.lt_of_lt_of_le F70.ltb (Nat.le_trans (Nat.le_refl _) g76))) nin0)).keep K207 (ninS (Nat.ne_of_lt (Nat.lt_of_lt_of_le E43.lt (Nat.le_trans (Nat.le_trans (Nat.le_trans (Nat.le_trans K49.1 K55.1) K58.1) K68.1) g76))) nin0) (ninS (Nat.ne_of_lt (Nat.lt_of_lt_of_le F70.ltb (Nat.le_trans (Nat.le_refl _) g76))) nin0)).keep K210 (ninS (Nat.ne_of_lt (Nat.lt_of_lt_of_le E43.lt (Nat.le_trans (Nat.le_trans (Nat.le_trans (Nat.le_trans K49.1 K55.1) K58.1) K68.1) g76))) nin0) (ninS (Nat.ne_of_lt (Nat.lt_of_lt_of_le F70.ltb (Nat.le_trans (Nat.le_refl _) g76))) nin0)).keep K213 (ninS (Nat.ne_of_lt (Nat.lt_of_lt_of_le E43.lt (Nat.le_trans (Nat.le_trans (Nat.le_trans (Nat.le_trans K49.1 K55.1) K58.1) K68.1) g76))) nin0) (ninS (Nat.ne_of_lt (Nat.lt_of_lt_of_le F70.ltb (Nat.le_trans (Nat.le_refl _) g76))) nin0)).keep K216 (ninS (Nat.ne_of_lt (Nat.lt_of_lt_of_le E43.lt (Nat.le_trans (Nat.le_trans (Nat.le_trans (Nat.le_trans K49.1 K55.1) K58.1) K68.1) g76))) nin0) (ninS (Nat.ne_of_lt (Nat.lt_of_lt_of_le F70.ltb (Nat.le_trans (Nat.le_refl _) g76))) nin0)).keep K219 (ninS (Nat.ne_of_lt (Nat.lt_of_lt_of_le E43.lt (Nat.le_trans (Nat.le_trans (Nat.le_trans (Nat.le_trans K49.1 K55.1) K58.1) K68.1) g76))) nin0) (ninS (Nat.ne_of_lt (Nat.lt_of_lt_of_le F70.ltb (Nat.le_trans (Nat.le_refl _) g76))) nin0)).keep K222 (ninS (Nat.ne_of_lt (Nat.lt_of_lt_of_le E43.lt (Nat.le_trans (Nat.le_trans (Nat.le_trans (Nat.le_trans K49.1 K55.1) K58.1) K68.1) g76))) nin0) (ninS (Nat.ne_of_lt (Nat.lt_of_lt_of_le F70.ltb (Nat.le_trans (Nat.le_refl _) g76))) nin0)).keep K225 (ninS (Nat.ne_of_lt (Nat.lt_of_lt_of_le E43.lt (Nat.le_trans (Nat.le_trans (Nat.le_trans (Nat.le_trans K49.1 K55.1) K58.1) K68.1) g76))) nin0) (ninS (Nat.ne_of_lt (Nat.lt_of_lt_of_le F70.ltb (Nat.le_trans (Nat.le_refl _) g76))) nin0)).keep K228 (ninS (Nat.ne_of_lt (Nat.lt_of_lt_of_le E43.lt (Nat.le_trans (Nat.le_trans (Nat.le_trans (Nat.le_trans K49.1 K55.1) K58.1) K68.1) g76))) nin0) (ninS (Nat.ne_of_lt (Nat.lt_of_lt_of_le F70.ltb (Nat.le_trans (Nat.le_refl _) g76))) nin0)).keep K231 (ninS (Nat.ne_of_lt (Nat.lt_of_lt_of_le E43.lt (Nat.le_trans (Nat.le_trans (Nat.le_trans (Nat.le_trans K49.1 K55.1) K58.1) K68.1) g76))) nin0) (ninS (Nat.ne_of_lt (Nat.lt_of_lt_of_le F70.ltb (Nat.le_trans (Nat.le_refl _) g76))) nin0)).keep K234 (ninS (Nat.ne_of_lt (Nat.lt_of_lt_of_le E43.lt (Nat.le_trans (Nat.le_trans (Nat.le_trans (Nat.le_trans K49.1 K55.1) K58.1) K68.1) g76))) nin0) (ninS (Nat.ne_of_lt (Nat.lt_of_lt_of_le F70.ltb (Nat.le_trans (Nat.le_refl _) g76))) nin0)).keep K237 (ninS (Nat.ne_of_lt (Nat.lt_of_lt_of_le E43.lt (Nat.le_trans (Nat.le_trans (Nat.le_trans (Nat.le_trans K49.1 K55.1) K58.1) K68.1) g76))) nin0) (ninS (Nat.ne_of_lt (Nat.lt_of_lt_of_le F70.ltb (Nat.le_trans (Nat.le_refl _) g76))) nin0)).keep K240 (ninS (Nat.ne_of_lt (Nat.lt_of_lt_of_le E43.lt (Nat.le_trans (Nat.le_trans (Nat.le_trans (Nat.le_trans K49.1 K55.1) K58.1) K68.1) g76))) nin0) (ninS (Nat.ne_of_lt (Nat.lt_of_lt_of_le F70.ltb (Nat.le_trans (Nat.le_refl _) g76))) nin0)).keep K243 (ninS (Nat.ne_of_lt (Nat.lt_of_lt_of_le E43.lt (Nat.le_trans (Nat.le_trans (Nat.le_trans (Nat.le_trans K49.1 K55.1) K58.1) K68.1) g76))) nin0) (ninS (Nat.ne_of_lt (Nat.lt_of_lt_of_le F70.ltb (Nat.le_trans (Nat.le_refl _) g76))) nin0)).keep K246 (ninS (Nat.ne_of_lt (Nat.lt_of_lt_of_le E43.lt (Nat.le_trans (Nat.le_trans (Nat.le_trans (Nat.le_trans K49.1 K55.1) K58.1) K68.1) g76))) nin0) (ninS (Nat.ne_of_lt (Nat.lt_of_lt_of_le F70.ltb (Nat.le_trans (Nat.le_refl _) g76))) nin0)).keep K249 (ninS (Nat.ne_of_lt (Nat.lt_of_lt_of_le E43.lt (Nat.le_trans (Nat.le_trans (Nat.le_trans (Nat.le_trans K49.1 K55.1) K58.1) K68.1) g76))) nin0) (ninS (Nat.ne_of_lt (Nat.lt_of_lt_of_le F70.ltb (Nat.le_trans (Nat.le_refl _) g76))) nin0)).keep K252 (ninS (Nat.ne_of_lt (Nat.lt_of_lt_of_le E43.lt (Nat.le_trans (Nat.le_trans (Nat.le_trans (Nat.le_trans K49.1 K55.1) K58.1) K68.1) g76))) nin0) (ninS (Nat.ne_of_lt (Nat.lt_of_lt_of_le F70.ltb (Nat.le_trans (Nat.le_refl _) g76))) nin0)).keep K255 (ninS (Nat.ne_of_lt (Nat.lt_of_lt_of_le E43.lt (Nat.le_trans (Nat.le_trans (Nat.le_trans (Nat.le_trans K49.1 K55.1) K58.1) K68.1) g76))) nin0) (ninS (Nat.ne_of_lt (Nat.lt_of_lt_of_le F70.ltb (Nat.le_trans (Nat.le_refl _) g76))) nin0)).keep K258 (ninS (Nat.ne_of_lt (Nat.lt_of_lt_of_le E43.lt (Nat.le_trans (Nat.le_trans (Nat.le_trans (Nat.le_trans K49.1 K55.1) K58.1) K68.1) g76))) nin0) (ninS (Nat.ne_of_lt (Nat.lt_of_lt_of_le F70.ltb (Nat.le_trans (Nat.le_refl _) g76))) nin0)).keep K262 nin0 nin0).keep K276 (ninS (Nat.ne_of_lt (Nat.lt_of_lt_of_le E43.lt (Nat.le_trans (Nat.le_trans (Nat.le_trans (Nat.le_trans (Nat.le_trans (Nat.le_trans (Nat.le_trans (Nat.le_trans (Nat.le_trans (Nat.le_trans (Nat.le_trans (Nat.le_trans (Nat.le_trans (Nat.le_trans (Nat.le_trans (Nat.le_trans (Nat.le_trans (Nat.le_trans (Nat.le_trans (Nat.le_trans (Nat.le_trans (Nat.le_trans (Nat.le_trans (Nat.le_trans (Nat.le_trans (Nat.le_trans (Nat.le_trans (Nat.le_trans (Nat.le_trans (Nat.le_trans (Nat.le_trans (Nat.le_trans (Nat.le_trans (Nat.le_trans (Nat.le_trans (Nat.le_trans (Nat.le_trans (Nat.le_trans (Nat.le_trans (Nat.le_trans (Nat.le_trans (Nat.le_trans (Nat.le_trans (Nat.le_trans (Nat.le_trans (Nat.le_trans (Nat.le_trans (Nat.le_trans (Nat.le_trans (Nat.le_trans (Nat.le_trans (Nat.le_trans (Nat.le_trans (Nat.le_trans (Nat.le_trans (Nat.le_trans (Nat.le_trans (Nat.le_trans (Nat.le_trans (Nat.le_trans (Nat.le_trans (Nat.le_trans (Nat.le_trans (Nat.le_trans (Nat.le_trans K49.1 K55.1) K58.1) K68.1) K75.1) K81.1) K84.1) K87.1) K90.1) K93.1) K96.1) K99.1) K102.1) K105.1) K108.1) K111.1) K114.1) K117.1) K120.1) K123.1) K126.1) K129.1) K132.1) K135.1) K138.1) K141.1) K144.1) K147.1) K150.1) K153.1) K156.1) K159.1) K162.1) K165.1) K168.1) K171.1) K174.1) K177.1) K180.1) K183.1) K186.1) K189.1) K192.1) K195.1) K198.1) K201.1) K204.1) K207.1) K210.1) K213.1) K216.1) K219.1) K222.1) K225.1) K228.1) K231.1) K234.1) K237.1) K240.1) K243.1) K246.1) K249.1) K252.1) K255.1) K258.1) g263))) nin0) (ninS (Nat.ne_of_lt (Nat.lt_of_lt_of_le F70.ltb (Nat.le_trans (Nat.le_trans (Nat.le_trans (Nat.le_trans (Nat.le_trans (Nat.le_trans (Nat.le_trans (Nat.le_trans (Nat.le_trans (Nat.le_trans (Nat.le_trans (Nat.le_trans (Nat.le_trans (Nat.le_trans (Nat.le_trans (Nat.le_trans (Nat.le_trans (Nat.le_trans (Nat.le_trans (Nat.le_trans (Nat.le_trans (Nat.le_trans (Nat.le_trans (Nat.le_trans (Nat.le_trans (Nat.le_trans (Nat.le_trans (Nat.le_trans (Nat.le_trans (Nat.le_trans (Nat.le_trans (Nat.le_trans (Nat.le_trans (Nat.le_trans (Nat.le_trans (Nat.le_trans (Nat.le_trans (Nat.le_trans (Nat.le_trans (Nat.le_trans (Nat.le_trans (Nat.le_trans (Nat.le_trans (Nat.le_trans (Nat.le_trans (Nat.le_trans (Nat.le_trans (Nat.le_trans (Nat.le_trans (Nat.le_trans (Nat.le_trans (Nat.le_trans (Nat.le_trans (Nat.le_trans (Nat.le_trans (Nat.le_trans (Nat.le_trans (Nat.le_trans (Nat.le_trans (Nat.le_trans (Nat.le_trans K75.1 K81.1) K84.1) K87.1) K90.1) K93.1) K96.1) K99.1) K102.1) K105.1) K108.1) K111.1) K114.1) K117.1) K120.1) K123.1) K126.1) K129.1) K132.1) K135.1) K138.1) K141.1) K144.1) K147.1) K150.1) K153.1) K156.1) K159.1) K162.1) K165.1) K168.1) K171.1) K174.1) K177.1) K180.1) K183.1) K186.1) K189.1) K192.1) K195.1) K198.1) K201.1) K204.1) K207.1) K210.1) K213.1) K216.1) K219.1) K222.1) K225.1) K228.1) K231.1) K234.1) K237.1) K240.1) K243.1) K246.1) K249.1) K252.1) K255.1) K258.1) g263))) nin0))
  refine W.callSK (pc' := 454) (W := 0) (argsL := [(.ref a2), (.ref a38)]) (st := []) (k' := 26) (n' := 3754) X hkn (c_log (u := a2) (ub := a31) (o := a38) (ob := a67) (us := [(p0 &&& (255 : Int32)), (p1 &&& (255 : Int32))]) (os := [(p2 &&& (255 : Int32)), (p3 &&& (255 : Int32))]) G X.en F281 F282 rfl rfl) (w30 G) (w31 G) (w33 G) (w32 G) (by decide) (by decide) (by decide) rfl (lenOf pd38 rfl) rfl rfl (Nat.le_of_eq rfl) at_451 rfl (by decide) (by decide) (by decide) (by decide) (kri fun T h283 B286 xr X z284 zb287 q285 => ?_)
  obtain ⟨a288, a289, a290, rfl, K291, g292, g293, g294, F295, F296, F297⟩ := q285
  have g298 : Z.heap.size ≤ a288 := Nat.le_trans (Nat.le_trans hz0 (Nat.le_trans (Nat.le_trans (Nat.le_trans (Nat.le_trans (Nat.le_trans (Nat.le_trans (Nat.le_trans (Nat.le_trans (Nat.le_trans (Nat.le_trans (Nat.le_trans (Nat.le_trans (Nat.le_trans (Nat.le_trans (Nat.le_trans (Nat.le_trans (Nat.le_trans (Nat.le_trans (Nat.le_trans (Nat.le_trans (Nat.le_trans (Nat.le_trans (Nat.le_trans (Nat.le_trans (Nat.le_trans (Nat.le_trans (Nat.le_trans (Nat.le_trans (Nat.le_trans (Nat.le_trans (Nat.le_trans (Nat.le_trans (Nat.le_trans (Nat.le_trans (Nat.le_trans (Nat.le_trans (Nat.le_trans (Nat.le_trans (Nat.le_trans (Nat.le_trans (Nat.le_trans (Nat.le_trans (Nat.le_trans (Nat.le_trans (Nat.le_trans (Nat.le_trans (Nat.le_trans (Nat.le_trans (Nat.le_trans (Nat.le_trans (Nat.le_trans (Nat.le_trans (Nat.le_trans (Nat.le_trans (Nat.le_trans (Nat.le_trans (Nat.le_trans (Nat.le_trans (Nat.le_trans (Nat.le_trans (Nat.le_trans (Nat.le_trans (Nat.le_trans (Nat.le_trans (Nat.le_trans (Nat.le_trans (Nat.le_trans (Nat.le_trans (Nat.le_trans (Nat.le_trans (Nat.le_trans (Nat.le_trans K3.1 K13.1) K19.1) K22.1) K32.1) K39.1) K49.1) K55.1) K58.1) K68.1) K75.1) K81.1) K84.1) K87.1) K90.1) K93.1) K96.1) K99.1) K102.1) K105.1) K108.1) K111.1) K114.1) K117.1) K120.1) K123.1) K126.1) K129.1) K132.1) K135.1) K138.1) K141.1) K144.1) K147.1) K150.1) K153.1) K156.1) K159.1) K162.1) K165.1) K168.1) K171.1) K174.1) K177.1) K180.1) K183.1) K186.1) K189.1) K192.1) K195.1) K198.1) K201.1) K204.1) K207.1) K210.1) K213.1) K216.1) K219.1) K222.1) K225.1) K228.1) K231.1) K234.1) K237.1) K240.1) K243.1) K246.1) K249.1) K252.1) K255.1) K258.1) K262.1) K276.1)) g292
  have g299 : Z.heap.size ≤ a289 := Nat.le_trans (Nat.le_trans hz0 (Nat.le_trans (Nat.le_trans (Nat.le_trans (Nat.le_trans (Nat.le_trans (Nat.le_trans (Nat.le_trans (Nat.le_trans (Nat.le_trans (Nat.le_trans (Nat.le_trans (Nat.le_trans (Nat.le_trans (Nat.le_trans (Nat.le_trans (Nat.le_trans (Nat.le_trans (Nat.le_trans (Nat.le_trans (Nat.le_trans (Nat.le_trans (Nat.le_trans (Nat.le_trans (Nat.le_trans (Nat.le_trans (Nat.le_trans (Nat.le_trans (Nat.le_trans (Nat.le_trans (Nat.le_trans (Nat.le_trans (Nat.le_trans (Nat.le_trans (Nat.le_trans (Nat.le_trans (Nat.le_trans (Nat.le_trans (Nat.le_trans (Nat.le_trans (Nat.le_trans (Nat.le_trans (Nat.le_trans (Nat.le_trans (Nat.le_trans (Nat.le_trans (Nat.le_trans (Nat.le_trans (Nat.le_trans (Nat.le_trans (Nat.le_trans (Nat.le_trans (Nat.le_trans (Nat.le_trans (Nat.le_trans (Nat.le_trans (Nat.le_trans (Nat.le_trans (Nat.le_trans (Nat.le_trans (Nat.le_trans (Nat.le_trans (Nat.le_trans (Nat.le_trans (Nat.le_trans (Nat.le_trans (Nat.le_trans (Nat.le_trans (Nat.le_trans (Nat.le_trans (Nat.le_trans (Nat.le_trans (Nat.le_trans K3.1 K13.1) K19.1) K22.1) K32.1) K39.1) K49.1) K55.1) K58.1) K68.1) K75.1) K81.1) K84.1) K87.1) K90.1) K93.1) K96.1) K99.1) K102.1) K105.1) K108.1) K111.1) K114.1) K117.1) K120.1) K123.1) K126.1) K129.1) K132.1) K135.1) K138.1) K141.1) K144.1) K147.1) K150.1) K153.1) K156.1) K159.1) K162.1) K165.1) K168.1) K171.1) K174.1) K177.1) K180.1) K183.1) K186.1) K189.1) K192.1) K195.1) K198.1) K201.1) K204.1) K207.1) K210.1) K213.1) K216.1) K219.1) K222.1) K225.1) K228.1) K231.1) K234.1) K237.1) K240.1) K243.1) K246.1) K249.1) K252.1) K255.1) K258.1) K262.1) K276.1)) g293
  have g300 : Z.heap.size ≤ a290 := Nat.le_trans (Nat.le_trans hz0 (Nat.le_trans (Nat.le_trans (Nat.le_trans (Nat.le_trans (Nat.le_trans (Nat.le_trans (Nat.le_trans (Nat.le_trans (Nat.le_trans (Nat.le_trans (Nat.le_trans (Nat.le_trans (Nat.le_trans (Nat.le_trans (Nat.le_trans (Nat.le_trans (Nat.le_trans (Nat.le_trans (Nat.le_trans (Nat.le_trans (Nat.le_trans (Nat.le_trans (Nat.le_trans (Nat.le_trans (Nat.le_trans (Nat.le_trans (Nat.le_trans (Nat.le_trans (Nat.le_trans (Nat.le_trans (Nat.le_trans (Nat.le_trans (Nat.le_trans (Nat.le_trans (Nat.le_trans (Nat.le_trans (Nat.le_trans (Nat.le_trans (Nat.le_trans (Nat.le_trans (Nat.le_trans (Nat.le_trans (Nat.le_trans (Nat.le_trans (Nat.le_trans (Nat.le_trans (Nat.le_trans (Nat.le_trans (Nat.le_trans (Nat.le_trans (Nat.le_trans (Nat.le_trans (Nat.le_trans (Nat.le_trans (Nat.le_trans (Nat.le_trans (Nat.le_trans (Nat.le_trans (Nat.le_trans (Nat.le_trans (Nat.le_trans (Nat.le_trans (Nat.le_trans (Nat.le_trans (Nat.le_trans (Nat.le_trans (Nat.le_trans (Nat.le_trans (Nat.le_trans (Nat.le_trans (Nat.le_trans (Nat.le_trans K3.1 K13.1) K19.1) K22.1) K32.1) K39.1) K49.1) K55.1) K58.1) K68.1) K75.1) K81.1) K84.1) K87.1) K90.1) K93.1) K96.1) K99.1) K102.1) K105.1) K108.1) K111.1) K114.1) K117.1) K120.1) K123.1) K126.1) K129.1) K132.1) K135.1) K138.1) K141.1) K144.1) K147.1) K150.1) K153.1) K156.1) K159.1) K162.1) K165.1) K168.1) K171.1) K174.1) K177.1) K180.1) K183.1) K186.1) K189.1) K192.1) K195.1) K198.1) K201.1) K204.1) K207.1) K210.1) K213.1) K216.1) K219.1) K222.1) K225.1) K228.1) K231.1) K234.1) K237.1) K240.1) K243.1) K246.1) K249.1) K252.1) K255.1) K258.1) K262.1) K276.1)) g294
  refine W.astore (pc' := 456) (ls' := #[.val (.int p0), .val (.int p1), .val (.int p2), .val (.int p3), .val (.int (p0 &&& (255 : Int32))), .val (.int (p1 &&& (255 : Int32))), .val (.int (p2 &&& (255 : Int32))), .val (.int (p3 &&& (255 : Int32))), .val (.ref a2), .val (.ref a38), .val (.ref a74), .val (.ref a261), .val (.ref a288), .unset]) X at_454 rfl rfl rfl ?_
  refine W.aload (pc' := 458) X at_456 rfl rfl rfl ?_
  refine W.nonnullT (pc' := 463) X at_458 (by decide) (by decide) ?_
  refine W.aload (pc' := 465) X at_463 rfl rfl rfl ?_
  refine W.callU (pc' := 468) (W := 0) (argsL := []) (st := []) (k' := 26) (n' := 3754) (a := a288) X (c_msg (a := a288) (b := a289) G X.en F296) (w219 G) (w220 G) (w221 G) (by decide) (w223 G) (w222 G) F295 (w224 G) (w180 G) (by decide) (by decide) rfl (lenOf pd36 rfl) rfl rfl (Nat.le_of_eq rfl) at_465 rfl (by decide) (by decide) (by decide) (by decide) (kp fun T X => ?_)
  refine W.astore (pc' := 470) (ls' := #[.val (.int p0), .val (.int p1), .val (.int p2), .val (.int p3), .val (.int (p0 &&& (255 : Int32))), .val (.int (p1 &&& (255 : Int32))), .val (.int (p2 &&& (255 : Int32))), .val (.int (p3 &&& (255 : Int32))), .val (.ref a2), .val (.ref a38), .val (.ref a74), .val (.ref a261), .val (.ref a288), .val (.ref a289)]) X at_468 rfl rfl rfl ?_
  refine W.aload (pc' := 472) X at_470 rfl rfl rfl ?_
  refine W.nonnullT (pc' := 477) X at_472 (by decide) (by decide) ?_
  refine W.aload (pc' := 479) X at_477 rfl rfl rfl ?_
  refine W.aload (pc' := 481) X at_479 rfl rfl rfl ?_
  have F301 := (F278.keep K291 nin0 nin0)
  refine W.callV (pc' := 484) (W := 0) (argsL := [(.ref a261)]) (st := []) (k' := 26) (n' := 3754) (a := a289) X (c_eqT (a := a289) (b := a290) (a' := a261) (b' := a275) (cs := ((((([] ++ [(116 : Int32), (104 : Int32), (101 : Int32), (32 : Int32), (116 : Int32), (114 : Int32), (97 : Int32), (105 : Int32), (110 : Int32), (105 : Int32), (110 : Int32), (103 : Int32), (32 : Int32), (108 : Int32), (111 : Int32), (103 : Int32), (32 : Int32), (110 : Int32), (97 : Int32), (109 : Int32), (101 : Int32), (115 : Int32), (32 : Int32)]) ++ [(p0 &&& (255 : Int32)), (p1 &&& (255 : Int32))]) ++ [(44 : Int32), (32 : Int32)]) ++ [(p2 &&& (255 : Int32)), (p3 &&& (255 : Int32))]) ++ [(59 : Int32), (32 : Int32), (119 : Int32), (97 : Int32), (115 : Int32), (32 : Int32), (105 : Int32), (116 : Int32), (32 : Int32), (109 : Int32), (97 : Int32), (100 : Int32), (101 : Int32), (32 : Int32), (111 : Int32), (110 : Int32), (32 : Int32), (97 : Int32), (110 : Int32), (111 : Int32), (116 : Int32), (104 : Int32), (101 : Int32), (114 : Int32), (32 : Int32), (105 : Int32), (110 : Int32), (100 : Int32), (101 : Int32), (120 : Int32), (63 : Int32)])) G X.en F297 F301 (Nat.ne_of_gt (Nat.lt_of_lt_of_le E266.lt (Nat.le_trans K276.1 g293)))) (w225 G) (w226 G) (nfM (z' := (⟨"java/lang/String", "length", "()I"⟩ : MethodName)) rfl (w70 G)) (w228 G) (w227 G) F297.exa (w229 G) (w2 G) (by decide) (by decide) (by decide) rfl (lenOf pd39 rfl) rfl rfl (Nat.le_of_eq rfl) at_481 rfl (by decide) (by decide) (by decide) (by decide) (kp fun T X => ?_)
  exact W.ireturn X at_484 rfl (by decide) (by decide) (by decide) (by decide) rfl
set_option maxRecDepth 65536 in
set_option maxHeartbeats 40000000 in
theorem comes_1 {Post : Tables → Env → Array Value → State → Outcome → State → Prop} (hpost : ∀ tb e args s v u, (limb_1_1.after args s (.returned v) u = true ∧ limb_1_2.after args s (.returned v) u = true ∧ True) → ReturnedEndW s (.returned v) u (Jvm.fieldLocs frame_1_writes args s ++ Jvm.arrayLocs frame_1_arrays args s ++ Jvm.staticLocs frame_1_statics s) 48 9344 → Post tb e args s (.returned v) u) :
    ArmFor flags0 classFile x code maxLocals ret World_1 tables_1 room_1 Calls_1 rest_1 Pre_1 Post := by
  intro l hfl _ _ p e ha hc hk s m args below hf hA hF happ hP
  obtain ⟨hcalls, hrest, hpre⟩ := hP
  obtain ⟨-, -, -, hnamed, -, -, -, hat⟩ := (Spec.applies_iff hf).mp happ
  obtain ⟨hg, hn⟩ := and_e (Cond.before_iff.mp (show (Jvm.Cond.and given_1 narrow_1).before args s = true from hpre))
  obtain ⟨h1, h2⟩ := and_e hg
  obtain ⟨w0, w1, w2, w3, rfl⟩ : ∃ w0 w1 w2 w3 : Value, args = #[w0, w1, w2, w3] := by
    have hs : args.size = 4 := by simpa [Cond.value, given_1] using h1
    obtain ⟨L⟩ := args
    match L, hs with
    | [w0, w1, w2, w3], _ => exact ⟨w0, w1, w2, w3, rfl⟩
  obtain ⟨k0, r0⟩ := and_e h2
  obtain ⟨i0, e0⟩ := is_v k0
  obtain rfl : w0 = (.int i0) := Option.some.inj e0
  obtain ⟨k1, r1⟩ := and_e r0
  obtain ⟨i1, e1⟩ := is_v k1
  obtain rfl : w1 = (.int i1) := Option.some.inj e1
  obtain ⟨k2, r2⟩ := and_e r1
  obtain ⟨i2, e2⟩ := is_v k2
  obtain rfl : w2 = (.int i2) := Option.some.inj e2
  obtain ⟨i3, e3⟩ := is_v r2
  obtain rfl : w3 = (.int i3) := Option.some.inj e3
  have hw := fun d (hd : d ∈ tables_1) => atoms_spec (ws := Jvm.Cond.code x code maxLocals ret :: tables_1) hat d (List.mem_cons_of_mem _ hd)
  obtain ⟨hsets, hown0⟩ := atoms_of _ (rest_1_c_eq ▸ (show rest_1_c.before _ s = true from hrest))
  obtain ⟨zC, v1⟩ := is_v (Cond.before_iff.mp (hsets _ (List.mem_of_getElem? (i := 1) rfl)))
  have c1 : ¬ (zC = (0 : Int32)) := gotF (Cond.eq_ints v1 (Term.int_eval (0))) (not_v (Cond.before_iff.mp (hsets _ (List.mem_of_getElem? (i := 2) rfl))))
  have S1 := Sta.start v1 (Or.inl (hsets _ (List.mem_of_getElem? (i := 0) rfl)))
  obtain ⟨uT, vC⟩ := arr_v (Cond.before_iff.mp (hsets _ (List.mem_of_getElem? (i := 17) rfl)))
  have S2 := Sta.start vC (Or.inr ⟨(hw _ (List.mem_of_getElem? (i := 180) rfl)), (hsets _ (List.mem_of_getElem? (i := 14) rfl))⟩)
  obtain ⟨sT, v3⟩ := exa_v (Cond.before_iff.mp (hsets _ (List.mem_of_getElem? (i := 22) rfl)))
  have S3 := Sta.start v3 (Or.inl (hsets _ (List.mem_of_getElem? (i := 20) rfl)))
  have hew : EW s #[(.int i0), (.int i1), (.int i2), (.int i3)] consts_1 := (EW.cons (hw _ (List.mem_of_getElem? (i := 54) rfl)) (by decide) (EW.cons (hw _ (List.mem_of_getElem? (i := 127) rfl)) (by decide) (EW.cons (hw _ (List.mem_of_getElem? (i := 128) rfl)) (by decide) EW.nil)))
  have G : Gl s #[(.int i0), (.int i1), (.int i2), (.int i3)] zC uT sT := ⟨hw, hew, S1, c1, S2, S3, trivial⟩
  have hch : CHv s consts_1 s.vm s.heap := CHv.start hew (fun p hp => hcalls.2.2.1 p hp) (hsets _ (List.mem_of_getElem? (i := 2) rfl)) (hw _ (List.mem_of_getElem? (i := 19) rfl)) (hw _ (List.mem_of_getElem? (i := 1) rfl))
  obtain ⟨n, o, h1, h2, h3, v, L, B', rfl, N, -, -, -, -, -, rfl, hq⟩ := c_law (l := l) (B := fun x => Bk s consts_1 s.vm s.heap x) G ⟨⟨Nat.le_refl _, fun _ _ q => q⟩, fun x r => by obtain ⟨cell, q⟩ := r.there; exact (Array.getElem?_eq_some_iff.mp q).1⟩ p e ha hc hk s m _ below hf ((Spec.applies_iff_loose hf).mp happ).1 ⟨rfl, State.Warmed39.refl s, rfl, hch, fun x r => r⟩ ⟨Jvm.Pilot.@@N@@.Jvm.D.Launch.traces_on hfl ha, MethodsKnown_of_tablesKnown hcalls.2.1, FramesKnown_of_framesKnown hcalls.1 hf⟩
  refine ⟨n, _, h1, h2, h3, hpost _ _ _ _ _ _ ⟨Cond.after_iff.mpr rfl, Cond.after_iff.mpr (eq_i res_at (Term.int_eval (1)) rfl), trivial⟩ ⟨hq.1, hq.2.1, hq.2.2.1, (hq.2.2.2.sift fun y hy => Or.inr (N y hy)).mono (by decide) (by decide)⟩⟩
theorem main_1_1 : Claimed_1_1 := comes_1 fun _ _ _ _ _ _ h hF => ⟨h.1, hF⟩
theorem main_1_2 : Claimed_1_2 := comes_1 fun _ _ _ _ _ _ h hF => ⟨h.2.1, hF⟩
end Jvm.Pilot.@@N@@
namespace Jvm.Pilot.@@N@@
open Jvm Jvm.ClassFile Sem Op Lib Jvm.Free Jvm.Stand Jvm.Pilot.@@N@@.Jvm.D
/-! MADE BY PROGRAM (witnessworld.py) out of the Statement's table words and the real class files: 41 classes; the members and pool entries that the words name. The judged class is class 1, her method 1. -/
namespace start1
open Jvm.ClassFile
def u (s : String) : CpInfo := .utf8 (stringToUtf16 s)
/-- a pool by its gaps: so many unusable entries, then the entry; so many at the end -/
def gap : Nat → List CpInfo → List CpInfo
  | 0, r => r
  | n + 1, r => .unusable :: gap n r
def poolList (es : List (Nat × CpInfo)) (last : Nat) : List CpInfo := es.foldr (fun e r => gap e.1 (e.2 :: r)) (gap last [])
def pool (es : List (Nat × CpInfo)) (last : Nat) : Array CpInfo := ⟨poolList es last⟩
def fileOf (pool : Array CpInfo) (this : Nat) (attrs : Array Attribute := #[]) (ms : Array MethodInfo := #[]) (fl : Nat := 33) (sup : Nat := 0) (ifs : Array Nat := #[]) (fds : Array FieldInfo := #[]) : ClassFile where
  minorVersion := 0
  majorVersion := 65
  constantPool := pool
  accessFlags := fl
  thisClass := this
  superClass := sup
  interfaces := ifs
  fields := fds
  methods := ms
  attributes := attrs
def plain (name : String) (sup : Option ClassId) : Class where
  name := name
  kind := .ordinary
  loader := none
  accessFlags := 33
  super := sup
  interfaces := #[]
  cf := none
  fields := #[]
  methods := #[]
  instanceTypes := #[]
  staticTypes := #[]
  resolved := #[]
  callSites := []
  init := .initialized
  statics := none
  mirror := none

def pool0 : Array CpInfo := pool [(5, u "<init>"), (0, u "()V"), (1, .class_ 10), (1, u "java/lang/Object")] 113

def k0c0 : Code := { maxStack := 0, maxLocals := 1, code := object_method_1_code, exceptionTable := #[], attributes := #[] }
def k0m0 : Method := { name := "<init>", desc := "()V", sig := { parameters := [], returnType := none }, accessFlags := 1, code := some k0c0 }
/-- java/lang/Object -/
def k0 : Class := { plain "java/lang/Object" none with
  accessFlags := 33
  interfaces := #[]
  cf := some (fileOf pool0 8 #[] #[{ accessFlags := 1, nameIndex := 5, descriptorIndex := 6, attributes := #[] }] 33 0 #[] #[])
  fields := #[]
  methods := #[k0m0]
  instanceTypes := #[]
  staticTypes := #[]
  resolved := Array.replicate 124 none
  statics := none }

def pool1 : Array CpInfo := pool [(2, .class_ 4), (1, u "java/lang/Object"), (0, u "<init>"), (0, u "()V"), (0, .class_ 8), (0, u "java/lang/String"), (0, .methodref 7 10), (0, .nameAndType 5 11), (0, u "([C)V"), (0, .methodref 13 14), (0, .class_ 15), (0, .nameAndType 16 17), (0, u "com/example/dutiful_pruner/dutifulpruner/prune/PruningRequestException"), (0, u "logOfAnotherIndex"), (0, u "(Ljava/lang/String;Ljava/lang/String;)Lcom/example/dutiful_pruner/dutifulpruner/prune/PruningRequestException;"), (0, .methodref 13 19), (0, .nameAndType 20 21), (0, u "getMessage"), (0, u "()Ljava/lang/String;"), (0, .methodref 7 23), (0, .nameAndType 24 25), (0, u "equals"), (0, u "(Ljava/lang/Object;)Z"), (0, .class_ 27), (0, u "com/example/dutiful_pruner/dutifulpruner/prune/PruningRequestExceptionLogOfAnotherIndexPinLaw"), (2, u "law"), (0, u "(IIII)Z")] 5

def k1m0 : Method := { name := "<init>", desc := "()V", sig := { parameters := [], returnType := none }, accessFlags := 1, code := none }
def k1c1 : Code := { maxStack := 6, maxLocals := 14, code := code, exceptionTable := #[], attributes := #[] }
def k1m1 : Method := { name := "law", desc := "(IIII)Z", sig := { parameters := [.int, .int, .int, .int], returnType := some .boolean }, accessFlags := 9, code := some k1c1 }
/-- com/example/dutiful_pruner/dutifulpruner/prune/PruningRequestExceptionLogOfAnotherIndexPinLaw -/
def k1 : Class := { plain "com/example/dutiful_pruner/dutifulpruner/prune/PruningRequestExceptionLogOfAnotherIndexPinLaw" (some 0) with
  accessFlags := 49
  interfaces := #[]
  cf := some (fileOf pool1 26 #[] #[{ accessFlags := 1, nameIndex := 5, descriptorIndex := 6, attributes := #[] }, { accessFlags := 9, nameIndex := 30, descriptorIndex := 31, attributes := #[] }] 49 2 #[] #[])
  fields := #[]
  methods := #[k1m0, k1m1]
  instanceTypes := #[]
  staticTypes := #[]
  resolved := Array.replicate 37 none
  statics := none }

def pool2 : Array CpInfo := pool [(1, .class_ 2), (0, u "java/io/Serializable"), (0, .class_ 4), (0, u "java/lang/Object")] 2

/-- java/io/Serializable -/
def k2 : Class := { plain "java/io/Serializable" (some 0) with
  accessFlags := 1537
  interfaces := #[]
  cf := some (fileOf pool2 1 #[] #[] 1537 3 #[] #[])
  fields := #[]
  methods := #[]
  instanceTypes := #[]
  staticTypes := #[]
  resolved := Array.replicate 7 none
  statics := none }

def pool3 : Array CpInfo := pool [(1, .class_ 2), (0, u "java/lang/Comparable"), (0, .class_ 4), (0, u "java/lang/Object")] 7

/-- java/lang/Comparable -/
def k3 : Class := { plain "java/lang/Comparable" (some 0) with
  accessFlags := 1537
  interfaces := #[]
  cf := some (fileOf pool3 1 #[] #[] 1537 3 #[] #[])
  fields := #[]
  methods := #[]
  instanceTypes := #[]
  staticTypes := #[]
  resolved := Array.replicate 12 none
  statics := none }

def pool4 : Array CpInfo := pool [(2, .class_ 4), (1, u "java/lang/CharSequence"), (42, .class_ 48), (0, u "java/lang/CharSequence$1CodePointIterator"), (10, .class_ 60), (0, u "java/lang/CharSequence$1CharIterator"), (5, .class_ 67), (0, u "java/lang/Object")] 63

/-- java/lang/CharSequence -/
def k4 : Class := { plain "java/lang/CharSequence" (some 0) with
  accessFlags := 1537
  interfaces := #[]
  cf := some (fileOf pool4 2 #[.nestMembers #[47, 59]] #[] 1537 66 #[] #[])
  fields := #[]
  methods := #[]
  instanceTypes := #[]
  staticTypes := #[]
  resolved := Array.replicate 131 none
  statics := none }

def pool5 : Array CpInfo := pool [(1, .class_ 2), (0, u "java/lang/constant/Constable"), (0, .class_ 4), (0, u "java/lang/Object")] 6

/-- java/lang/constant/Constable -/
def k5 : Class := { plain "java/lang/constant/Constable" (some 0) with
  accessFlags := 1537
  interfaces := #[]
  cf := some (fileOf pool5 1 #[] #[] 1537 3 #[] #[])
  fields := #[]
  methods := #[]
  instanceTypes := #[]
  staticTypes := #[]
  resolved := Array.replicate 11 none
  statics := none }

def pool6 : Array CpInfo := pool [(1, .class_ 2), (0, u "java/lang/constant/ConstantDesc"), (0, .class_ 4), (0, u "java/lang/Object")] 32

/-- java/lang/constant/ConstantDesc -/
def k6 : Class := { plain "java/lang/constant/ConstantDesc" (some 0) with
  accessFlags := 1537
  interfaces := #[]
  cf := some (fileOf pool6 1 #[] #[] 1537 3 #[] #[])
  fields := #[]
  methods := #[]
  instanceTypes := #[]
  staticTypes := #[]
  resolved := Array.replicate 37 none
  statics := none }

def pool7 : Array CpInfo := pool [(1, .methodref 2 3), (0, .class_ 4), (0, .nameAndType 5 6), (0, u "java/lang/Object"), (0, u "<init>"), (0, u "()V"), (2, .fieldref 10 11), (0, .class_ 12), (0, .nameAndType 13 14), (0, u "java/lang/String"), (0, u "value"), (0, u "[B"), (0, .fieldref 10 16), (0, .nameAndType 17 18), (0, u "coder"), (0, u "B"), (2, u "hash"), (0, u "I"), (2, u "hashIsZero"), (0, u "Z"), (0, .methodref 10 28), (0, .nameAndType 5 29), (0, u "([CIILjava/lang/Void;)V"), (8, .fieldref 10 39), (0, .nameAndType 40 26), (0, u "COMPACT_STRINGS"), (1, .class_ 44), (1, u "java/lang/StringUTF16"), (0, u "compress"), (1, .methodref 42 48), (0, .nameAndType 49 50), (0, u "coderFromArrayLen"), (0, u "([BI)B"), (3, .methodref 55 56), (0, .class_ 57), (0, .nameAndType 58 59), (0, u "java/util/Arrays"), (0, u "copyOfRange"), (0, u "([BII)[B"), (47, .class_ 109), (1, u "java/lang/StringLatin1"), (32, u "()Z"), (34, .methodref 42 178), (0, .nameAndType 45 179), (0, u "([CII)[B"), (13, .class_ 195), (1, u "java/lang/System"), (16, .methodref 193 213), (0, .nameAndType 214 215), (0, u "arraycopy"), (0, u "(Ljava/lang/Object;ILjava/lang/Object;II)V"), (118, u "()I"), (0, .methodref 10 336), (0, .nameAndType 17 337), (0, u "()B"), (2, u "()[B"), (148, .methodref 10 490), (0, .nameAndType 5 491), (0, u "(Ljava/lang/AbstractStringBuilder;Ljava/lang/Void;)V"), (1, .nameAndType 494 142), (0, u "isLatin1"), (11, .nameAndType 507 334), (0, u "length"), (24, u "getBytes"), (8, .methodref 107 542), (0, .nameAndType 543 544), (0, u "equals"), (0, u "([B[B)Z"), (4, .methodref 550 506), (0, .class_ 551), (0, u "java/lang/AbstractStringBuilder"), (0, .methodref 550 553), (0, .nameAndType 554 340), (0, u "getValue"), (18, u "(Ljava/lang/Object;)Z"), (1, .class_ 576), (0, u "java/lang/CharSequence"), (22, u "CASE_INSENSITIVE_ORDER"), (0, u "Ljava/util/Comparator;"), (220, u "([BIB)V"), (188, u "([C)V"), (36, .methodref 550 493), (53, u "serialPersistentFields"), (0, u "[Ljava/io/ObjectStreamField;"), (0, .class_ 1104), (0, u "java/lang/String$CaseInsensitiveComparator"), (1, .class_ 1107), (0, u "java/io/Serializable"), (0, .class_ 1109), (0, u "java/lang/Comparable"), (0, .class_ 1111), (0, u "java/lang/constant/Constable"), (0, .class_ 1113), (0, u "java/lang/constant/ConstantDesc"), (2, u "serialVersionUID"), (0, u "J"), (3, u "REPL"), (0, u "C"), (2, u "LATIN1"), (1, u "UTF16"), (105, u "(Ljava/lang/StringBuilder;)V")] 217

def k7m0 : Method := { name := "<init>", desc := "()V", sig := { parameters := [], returnType := none }, accessFlags := 1, code := none }
def k7c1 : Code := { maxStack := 5, maxLocals := 2, code := jdk_42_method_3_code, exceptionTable := #[], attributes := #[] }
def k7m1 : Method := { name := "<init>", desc := "([C)V", sig := { parameters := [(.array .char)], returnType := none }, accessFlags := 1, code := some k7c1 }
def k7c2 : Code := { maxStack := 3, maxLocals := 2, code := jdk_42_method_53_code, exceptionTable := #[], attributes := #[] }
def k7m2 : Method := { name := "<init>", desc := "(Ljava/lang/StringBuilder;)V", sig := { parameters := [(.object "java/lang/StringBuilder")], returnType := none }, accessFlags := 1, code := some k7c2 }
def k7c3 : Code := { maxStack := 2, maxLocals := 1, code := jdk_42_method_54_code, exceptionTable := #[], attributes := #[] }
def k7m3 : Method := { name := "length", desc := "()I", sig := { parameters := [], returnType := some .int }, accessFlags := 1, code := some k7c3 }
def k7c4 : Code := { maxStack := 2, maxLocals := 3, code := jdk_42_method_66_code, exceptionTable := #[], attributes := #[] }
def k7m4 : Method := { name := "equals", desc := "(Ljava/lang/Object;)Z", sig := { parameters := [(.object "java/lang/Object")], returnType := some .boolean }, accessFlags := 1, code := some k7c4 }
def k7c5 : Code := { maxStack := 5, maxLocals := 4, code := jdk_42_method_147_code, exceptionTable := #[], attributes := #[] }
def k7m5 : Method := { name := "getBytes", desc := "([BIB)V", sig := { parameters := [(.array .byte), .int, .byte], returnType := none }, accessFlags := 0, code := some k7c5 }
def k7c6 : Code := { maxStack := 4, maxLocals := 6, code := jdk_42_method_149_code, exceptionTable := #[], attributes := #[] }
def k7m6 : Method := { name := "<init>", desc := "([CIILjava/lang/Void;)V", sig := { parameters := [(.array .char), .int, .int, (.object "java/lang/Void")], returnType := none }, accessFlags := 2, code := some k7c6 }
def k7c7 : Code := { maxStack := 5, maxLocals := 5, code := jdk_42_method_150_code, exceptionTable := #[], attributes := #[] }
def k7m7 : Method := { name := "<init>", desc := "(Ljava/lang/AbstractStringBuilder;Ljava/lang/Void;)V", sig := { parameters := [(.object "java/lang/AbstractStringBuilder"), (.object "java/lang/Void")], returnType := none }, accessFlags := 0, code := some k7c7 }
def k7c8 : Code := { maxStack := 1, maxLocals := 1, code := jdk_42_method_152_code, exceptionTable := #[], attributes := #[] }
def k7m8 : Method := { name := "coder", desc := "()B", sig := { parameters := [], returnType := some .byte }, accessFlags := 0, code := some k7c8 }
/-- java/lang/String -/
def k7 : Class := { plain "java/lang/String" (some 0) with
  accessFlags := 49
  interfaces := #[2, 3, 4, 5, 6]
  cf := some (fileOf pool7 10 #[.nestMembers #[1103]] #[{ accessFlags := 1, nameIndex := 5, descriptorIndex := 6, attributes := #[] }, { accessFlags := 1, nameIndex := 5, descriptorIndex := 1010, attributes := #[] }, { accessFlags := 1, nameIndex := 5, descriptorIndex := 1233, attributes := #[] }, { accessFlags := 1, nameIndex := 507, descriptorIndex := 334, attributes := #[] }, { accessFlags := 1, nameIndex := 543, descriptorIndex := 573, attributes := #[] }, { accessFlags := 0, nameIndex := 532, descriptorIndex := 821, attributes := #[] }, { accessFlags := 2, nameIndex := 5, descriptorIndex := 29, attributes := #[] }, { accessFlags := 0, nameIndex := 5, descriptorIndex := 491, attributes := #[] }, { accessFlags := 0, nameIndex := 17, descriptorIndex := 337, attributes := #[] }] 49 2 #[1106, 1108, 575, 1110, 1112] #[{ accessFlags := 18, nameIndex := 13, descriptorIndex := 14, attributes := #[] }, { accessFlags := 18, nameIndex := 17, descriptorIndex := 18, attributes := #[] }, { accessFlags := 2, nameIndex := 21, descriptorIndex := 22, attributes := #[] }, { accessFlags := 2, nameIndex := 25, descriptorIndex := 26, attributes := #[] }, { accessFlags := 26, nameIndex := 1116, descriptorIndex := 1117, attributes := #[] }, { accessFlags := 24, nameIndex := 40, descriptorIndex := 26, attributes := #[] }, { accessFlags := 26, nameIndex := 1101, descriptorIndex := 1102, attributes := #[] }, { accessFlags := 26, nameIndex := 1121, descriptorIndex := 1122, attributes := #[] }, { accessFlags := 25, nameIndex := 599, descriptorIndex := 600, attributes := #[] }, { accessFlags := 24, nameIndex := 1125, descriptorIndex := 18, attributes := #[] }, { accessFlags := 24, nameIndex := 1127, descriptorIndex := 18, attributes := #[] }])
  fields := #[{ name := "value", type := (.array .byte), accessFlags := 18, slot := 0, constantValue := 0 }, { name := "coder", type := .byte, accessFlags := 18, slot := 1, constantValue := 0 }, { name := "hash", type := .int, accessFlags := 2, slot := 2, constantValue := 0 }, { name := "hashIsZero", type := .boolean, accessFlags := 2, slot := 3, constantValue := 0 }, { name := "serialVersionUID", type := .long, accessFlags := 26, slot := 0, constantValue := 0 }, { name := "COMPACT_STRINGS", type := .boolean, accessFlags := 24, slot := 1, constantValue := 0 }, { name := "serialPersistentFields", type := (.array (.object "java/io/ObjectStreamField")), accessFlags := 26, slot := 2, constantValue := 0 }, { name := "REPL", type := .char, accessFlags := 26, slot := 3, constantValue := 0 }, { name := "CASE_INSENSITIVE_ORDER", type := (.object "java/util/Comparator"), accessFlags := 25, slot := 4, constantValue := 0 }, { name := "LATIN1", type := .byte, accessFlags := 24, slot := 5, constantValue := 0 }, { name := "UTF16", type := .byte, accessFlags := 24, slot := 6, constantValue := 0 }]
  methods := #[k7m0, k7m1, k7m2, k7m3, k7m4, k7m5, k7m6, k7m7, k7m8]
  instanceTypes := #[(.array .byte), .byte, .int, .boolean]
  staticTypes := #[.long, .boolean, (.array (.object "java/io/ObjectStreamField")), .char, (.object "java/util/Comparator"), .byte, .byte]
  resolved := Array.replicate 1451 none
  statics := some 0 }

def pool8 : Array CpInfo := pool [(6, .class_ 8), (1, u "java/lang/Object"), (0, u "<init>"), (0, u "()V"), (1, .class_ 14), (1, u "java/lang/StringUTF16"), (31, u "$assertionsDisabled"), (0, u "Z"), (13, u "HI_BYTE_SHIFT"), (0, u "I"), (2, u "LO_BYTE_SHIFT"), (49, .methodref 12 116), (0, .nameAndType 117 118), (0, u "compress"), (0, u "([CI[BII)I"), (3, u "([CII)[B"), (138, u "coderFromArrayLen"), (0, u "([BI)B"), (106, .class_ 371), (1, u "java/lang/StringUTF16$LinesSpliterator"), (58, u "MAX_LENGTH"), (196, .class_ 628), (0, u "java/lang/StringUTF16$CodePointsSpliterator"), (0, .class_ 630), (0, u "java/lang/StringUTF16$CharsSpliterator")] 4

def k8m0 : Method := { name := "<init>", desc := "()V", sig := { parameters := [], returnType := none }, accessFlags := 0, code := none }
def k8c1 : Code := { maxStack := 2, maxLocals := 2, code := jdk_52_method_15_code, exceptionTable := #[], attributes := #[] }
def k8m1 : Method := { name := "coderFromArrayLen", desc := "([BI)B", sig := { parameters := [(.array .byte), .int], returnType := some .byte }, accessFlags := 8, code := some k8c1 }
def k8c2 : Code := { maxStack := 5, maxLocals := 6, code := jdk_52_method_16_code, exceptionTable := #[], attributes := #[] }
def k8m2 : Method := { name := "compress", desc := "([CII)[B", sig := { parameters := [(.array .char), .int, .int], returnType := some (.array .byte) }, accessFlags := 9, code := some k8c2 }
def k8c3 : Code := { maxStack := 3, maxLocals := 7, code := jdk_52_method_21_code, exceptionTable := #[], attributes := #[] }
def k8m3 : Method := { name := "compress", desc := "([CI[BII)I", sig := { parameters := [(.array .char), .int, (.array .byte), .int, .int], returnType := some .int }, accessFlags := 9, code := some k8c3 }
/-- java/lang/StringUTF16 -/
def k8 : Class := { plain "java/lang/StringUTF16" (some 0) with
  accessFlags := 48
  interfaces := #[]
  cf := some (fileOf pool8 12 #[.nestMembers #[627, 629, 369]] #[{ accessFlags := 0, nameIndex := 9, descriptorIndex := 10, attributes := #[] }, { accessFlags := 8, nameIndex := 261, descriptorIndex := 262, attributes := #[] }, { accessFlags := 9, nameIndex := 117, descriptorIndex := 122, attributes := #[] }, { accessFlags := 9, nameIndex := 117, descriptorIndex := 118, attributes := #[] }] 48 6 #[] #[{ accessFlags := 26, nameIndex := 61, descriptorIndex := 62, attributes := #[] }, { accessFlags := 26, nameIndex := 65, descriptorIndex := 62, attributes := #[] }, { accessFlags := 24, nameIndex := 430, descriptorIndex := 62, attributes := #[] }, { accessFlags := 4120, nameIndex := 46, descriptorIndex := 47, attributes := #[] }])
  fields := #[{ name := "HI_BYTE_SHIFT", type := .int, accessFlags := 26, slot := 0, constantValue := 0 }, { name := "LO_BYTE_SHIFT", type := .int, accessFlags := 26, slot := 1, constantValue := 0 }, { name := "MAX_LENGTH", type := .int, accessFlags := 24, slot := 2, constantValue := 0 }, { name := "$assertionsDisabled", type := .boolean, accessFlags := 4120, slot := 3, constantValue := 0 }]
  methods := #[k8m0, k8m1, k8m2, k8m3]
  instanceTypes := #[]
  staticTypes := #[.int, .int, .int, .boolean]
  resolved := Array.replicate 635 none
  statics := none }

def pool9 : Array CpInfo := pool [(1, .methodref 2 3), (0, .class_ 4), (0, .nameAndType 5 6), (0, u "java/lang/Object"), (0, u "<init>"), (0, u "()V"), (0, .fieldref 8 9), (0, .class_ 10), (0, .nameAndType 11 12), (0, u "java/lang/Throwable"), (0, u "cause"), (0, u "Ljava/lang/Throwable;"), (0, .fieldref 8 14), (0, .nameAndType 15 16), (0, u "UNASSIGNED_STACK"), (0, u "[Ljava/lang/StackTraceElement;"), (0, .fieldref 8 18), (0, .nameAndType 19 16), (0, u "stackTrace"), (0, .fieldref 8 21), (0, .nameAndType 22 23), (0, u "SUPPRESSED_SENTINEL"), (0, u "Ljava/util/List;"), (0, .fieldref 8 25), (0, .nameAndType 26 23), (0, u "suppressedExceptions"), (0, .methodref 8 28), (0, .nameAndType 29 30), (0, u "fillInStackTrace"), (0, u "()Ljava/lang/Throwable;"), (0, .fieldref 8 32), (0, .nameAndType 33 34), (0, u "detailMessage"), (0, u "Ljava/lang/String;"), (3, u "()Ljava/lang/String;"), (2, u "getMessage"), (51, .class_ 94), (0, u "java/lang/Throwable$WrappedPrintStream"), (6, .class_ 103), (1, u "java/lang/Throwable$PrintStreamOrWriter"), (61, u "$assertionsDisabled"), (0, u "Z"), (26, .class_ 194), (0, u "java/lang/Throwable$WrappedPrintWriter"), (3, .fieldref 8 199), (0, .nameAndType 200 201), (0, u "backtrace"), (0, u "Ljava/lang/Object;"), (0, .methodref 8 203), (0, .nameAndType 29 204), (0, u "(I)Ljava/lang/Throwable;"), (6, u "depth"), (0, u "I"), (10, u "(Ljava/lang/String;)V"), (45, .class_ 271), (1, u "java/lang/Throwable$SentinelHolder"), (32, u "EMPTY_THROWABLE_ARRAY"), (0, u "[Ljava/lang/Throwable;"), (12, .class_ 319), (0, u "java/io/Serializable"), (0, u "serialVersionUID"), (0, u "J"), (5, u "NULL_CAUSE_MESSAGE"), (0, u "SELF_SUPPRESSION_MESSAGE"), (0, u "CAUSE_CAPTION"), (0, u "SUPPRESSED_CAPTION")] 73

def k9c0 : Code := { maxStack := 2, maxLocals := 1, code := jdk_78_method_1_code, exceptionTable := #[], attributes := #[] }
def k9m0 : Method := { name := "<init>", desc := "()V", sig := { parameters := [], returnType := none }, accessFlags := 1, code := some k9c0 }
def k9c1 : Code := { maxStack := 2, maxLocals := 2, code := jdk_78_method_2_code, exceptionTable := #[], attributes := #[] }
def k9m1 : Method := { name := "<init>", desc := "(Ljava/lang/String;)V", sig := { parameters := [(.object "java/lang/String")], returnType := none }, accessFlags := 1, code := some k9c1 }
def k9c2 : Code := { maxStack := 1, maxLocals := 1, code := jdk_78_method_6_code, exceptionTable := #[], attributes := #[] }
def k9m2 : Method := { name := "getMessage", desc := "()Ljava/lang/String;", sig := { parameters := [], returnType := some (.object "java/lang/String") }, accessFlags := 1, code := some k9c2 }
def k9c3 : Code := { maxStack := 2, maxLocals := 1, code := ⟨#[0x2a, 0xb4, 0x00, 0x11, 0xc7, 0x00, 0x0a, 0x2a, 0xb4, 0x00, 0xc6, 0xc6, 0x00, 0x10, 0x2a, 0x03, 0xb6, 0x00, 0xca, 0x57, 0x2a, 0xb2, 0x00, 0x0d, 0xb5, 0x00, 0x11, 0x2a, 0xb0]⟩, exceptionTable := #[], attributes := #[] }
def k9m3 : Method := { name := "fillInStackTrace", desc := "()Ljava/lang/Throwable;", sig := { parameters := [], returnType := some (.object "java/lang/Throwable") }, accessFlags := 33, code := some k9c3 }
def k9m4 : Method := { name := "fillInStackTrace", desc := "(I)Ljava/lang/Throwable;", sig := { parameters := [.int], returnType := some (.object "java/lang/Throwable") }, accessFlags := 258, code := none }
/-- java/lang/Throwable -/
def k9 : Class := { plain "java/lang/Throwable" (some 0) with
  accessFlags := 33
  interfaces := #[2]
  cf := some (fileOf pool9 8 #[.nestMembers #[193, 93, 101, 269]] #[{ accessFlags := 1, nameIndex := 5, descriptorIndex := 6, attributes := #[] }, { accessFlags := 1, nameIndex := 5, descriptorIndex := 223, attributes := #[] }, { accessFlags := 1, nameIndex := 41, descriptorIndex := 38, attributes := #[] }, { accessFlags := 33, nameIndex := 29, descriptorIndex := 30, attributes := #[] }, { accessFlags := 258, nameIndex := 29, descriptorIndex := 204, attributes := #[] }] 33 2 #[318] #[{ accessFlags := 26, nameIndex := 320, descriptorIndex := 321, attributes := #[] }, { accessFlags := 130, nameIndex := 200, descriptorIndex := 201, attributes := #[] }, { accessFlags := 2, nameIndex := 33, descriptorIndex := 34, attributes := #[] }, { accessFlags := 26, nameIndex := 15, descriptorIndex := 16, attributes := #[] }, { accessFlags := 2, nameIndex := 11, descriptorIndex := 12, attributes := #[] }, { accessFlags := 2, nameIndex := 19, descriptorIndex := 16, attributes := #[] }, { accessFlags := 130, nameIndex := 211, descriptorIndex := 212, attributes := #[] }, { accessFlags := 26, nameIndex := 22, descriptorIndex := 23, attributes := #[] }, { accessFlags := 2, nameIndex := 26, descriptorIndex := 23, attributes := #[] }, { accessFlags := 26, nameIndex := 327, descriptorIndex := 34, attributes := #[] }, { accessFlags := 26, nameIndex := 328, descriptorIndex := 34, attributes := #[] }, { accessFlags := 26, nameIndex := 329, descriptorIndex := 34, attributes := #[] }, { accessFlags := 26, nameIndex := 330, descriptorIndex := 34, attributes := #[] }, { accessFlags := 26, nameIndex := 304, descriptorIndex := 305, attributes := #[] }, { accessFlags := 4120, nameIndex := 165, descriptorIndex := 166, attributes := #[] }])
  fields := #[{ name := "serialVersionUID", type := .long, accessFlags := 26, slot := 0, constantValue := 0 }, { name := "backtrace", type := (.object "java/lang/Object"), accessFlags := 130, slot := 0, constantValue := 0 }, { name := "detailMessage", type := (.object "java/lang/String"), accessFlags := 2, slot := 1, constantValue := 0 }, { name := "UNASSIGNED_STACK", type := (.array (.object "java/lang/StackTraceElement")), accessFlags := 26, slot := 1, constantValue := 0 }, { name := "cause", type := (.object "java/lang/Throwable"), accessFlags := 2, slot := 2, constantValue := 0 }, { name := "stackTrace", type := (.array (.object "java/lang/StackTraceElement")), accessFlags := 2, slot := 3, constantValue := 0 }, { name := "depth", type := .int, accessFlags := 130, slot := 4, constantValue := 0 }, { name := "SUPPRESSED_SENTINEL", type := (.object "java/util/List"), accessFlags := 26, slot := 2, constantValue := 0 }, { name := "suppressedExceptions", type := (.object "java/util/List"), accessFlags := 2, slot := 5, constantValue := 0 }, { name := "NULL_CAUSE_MESSAGE", type := (.object "java/lang/String"), accessFlags := 26, slot := 3, constantValue := 0 }, { name := "SELF_SUPPRESSION_MESSAGE", type := (.object "java/lang/String"), accessFlags := 26, slot := 4, constantValue := 0 }, { name := "CAUSE_CAPTION", type := (.object "java/lang/String"), accessFlags := 26, slot := 5, constantValue := 0 }, { name := "SUPPRESSED_CAPTION", type := (.object "java/lang/String"), accessFlags := 26, slot := 6, constantValue := 0 }, { name := "EMPTY_THROWABLE_ARRAY", type := (.array (.object "java/lang/Throwable")), accessFlags := 26, slot := 7, constantValue := 0 }, { name := "$assertionsDisabled", type := .boolean, accessFlags := 4120, slot := 8, constantValue := 0 }]
  methods := #[k9m0, k9m1, k9m2, k9m3, k9m4]
  instanceTypes := #[(.object "java/lang/Object"), (.object "java/lang/String"), (.object "java/lang/Throwable"), (.array (.object "java/lang/StackTraceElement")), .int, (.object "java/util/List")]
  staticTypes := #[.long, (.array (.object "java/lang/StackTraceElement")), (.object "java/util/List"), (.object "java/lang/String"), (.object "java/lang/String"), (.object "java/lang/String"), (.object "java/lang/String"), (.array (.object "java/lang/Throwable")), .boolean]
  resolved := Array.replicate 404 none
  statics := some 1 }

def pool10 : Array CpInfo := pool [(2, .class_ 4), (1, u "java/lang/Throwable"), (0, u "<init>"), (0, u "()V"), (0, .methodref 2 8), (0, .nameAndType 5 9), (0, u "(Ljava/lang/String;)V"), (9, .class_ 20), (0, u "java/lang/Exception"), (0, u "serialVersionUID"), (0, u "J")] 17

def k10m0 : Method := { name := "<init>", desc := "()V", sig := { parameters := [], returnType := none }, accessFlags := 1, code := none }
def k10c1 : Code := { maxStack := 2, maxLocals := 2, code := jdk_59_method_2_code, exceptionTable := #[], attributes := #[] }
def k10m1 : Method := { name := "<init>", desc := "(Ljava/lang/String;)V", sig := { parameters := [(.object "java/lang/String")], returnType := none }, accessFlags := 1, code := some k10c1 }
/-- java/lang/Exception -/
def k10 : Class := { plain "java/lang/Exception" (some 9) with
  accessFlags := 33
  interfaces := #[]
  cf := some (fileOf pool10 19 #[] #[{ accessFlags := 1, nameIndex := 5, descriptorIndex := 6, attributes := #[] }, { accessFlags := 1, nameIndex := 5, descriptorIndex := 9, attributes := #[] }] 33 2 #[] #[{ accessFlags := 24, nameIndex := 21, descriptorIndex := 22, attributes := #[] }])
  fields := #[{ name := "serialVersionUID", type := .long, accessFlags := 24, slot := 0, constantValue := 0 }]
  methods := #[k10m0, k10m1]
  instanceTypes := #[(.object "java/lang/Object"), (.object "java/lang/String"), (.object "java/lang/Throwable"), (.array (.object "java/lang/StackTraceElement")), .int, (.object "java/util/List")]
  staticTypes := #[.long]
  resolved := Array.replicate 40 none
  statics := none }

def pool11 : Array CpInfo := pool [(1, .methodref 2 3), (0, .class_ 4), (0, .nameAndType 5 6), (0, u "java/lang/Exception"), (0, u "<init>"), (0, u "(Ljava/lang/String;)V"), (0, .class_ 8), (0, u "com/example/dutiful_pruner/dutifulpruner/prune/PruningRequestException"), (0, .class_ 10), (0, u "java/lang/StringBuilder"), (0, .methodref 9 12), (0, .nameAndType 5 13), (0, u "()V"), (0, .string 15), (0, u "the training log names "), (0, .methodref 9 17), (0, .nameAndType 18 19), (0, u "append"), (0, u "(Ljava/lang/String;)Ljava/lang/StringBuilder;"), (0, .string 21), (0, u ", "), (0, .string 23), (0, u "; was it made on another index?"), (0, .methodref 9 25), (0, .nameAndType 26 27), (0, u "toString"), (0, u "()Ljava/lang/String;"), (0, .methodref 7 3), (4, u "logOfAnotherIndex"), (0, u "(Ljava/lang/String;Ljava/lang/String;)Lcom/example/dutiful_pruner/dutifulpruner/prune/PruningRequestException;"), (0, u "serialVersionUID"), (0, u "J")] 9

def k11c0 : Code := { maxStack := 2, maxLocals := 2, code := prog_13_method_1_code, exceptionTable := #[], attributes := #[] }
def k11m0 : Method := { name := "<init>", desc := "(Ljava/lang/String;)V", sig := { parameters := [(.object "java/lang/String")], returnType := none }, accessFlags := 1, code := some k11c0 }
def k11c1 : Code := { maxStack := 4, maxLocals := 2, code := prog_13_method_2_code, exceptionTable := #[], attributes := #[] }
def k11m1 : Method := { name := "logOfAnotherIndex", desc := "(Ljava/lang/String;Ljava/lang/String;)Lcom/example/dutiful_pruner/dutifulpruner/prune/PruningRequestException;", sig := { parameters := [(.object "java/lang/String"), (.object "java/lang/String")], returnType := some (.object "com/example/dutiful_pruner/dutifulpruner/prune/PruningRequestException") }, accessFlags := 8, code := some k11c1 }
/-- com/example/dutiful_pruner/dutifulpruner/prune/PruningRequestException -/
def k11 : Class := { plain "com/example/dutiful_pruner/dutifulpruner/prune/PruningRequestException" (some 10) with
  accessFlags := 49
  interfaces := #[]
  cf := some (fileOf pool11 7 #[] #[{ accessFlags := 1, nameIndex := 5, descriptorIndex := 6, attributes := #[] }, { accessFlags := 8, nameIndex := 33, descriptorIndex := 34, attributes := #[] }] 49 2 #[] #[{ accessFlags := 26, nameIndex := 35, descriptorIndex := 36, attributes := #[] }])
  fields := #[{ name := "serialVersionUID", type := .long, accessFlags := 26, slot := 0, constantValue := 0 }]
  methods := #[k11m0, k11m1]
  instanceTypes := #[(.object "java/lang/Object"), (.object "java/lang/String"), (.object "java/lang/Throwable"), (.array (.object "java/lang/StackTraceElement")), .int, (.object "java/util/List")]
  staticTypes := #[.long]
  resolved := Array.replicate 46 none
  statics := none }

def pool12 : Array CpInfo := pool [(1, .class_ 2), (0, u "java/lang/Appendable"), (0, .class_ 4), (0, u "java/lang/Object")] 9

/-- java/lang/Appendable -/
def k12 : Class := { plain "java/lang/Appendable" (some 0) with
  accessFlags := 1537
  interfaces := #[]
  cf := some (fileOf pool12 1 #[] #[] 1537 3 #[] #[])
  fields := #[]
  methods := #[]
  instanceTypes := #[]
  staticTypes := #[]
  resolved := Array.replicate 14 none
  statics := none }

def pool13 : Array CpInfo := pool [(1, .class_ 2), (0, u "java/lang/String"), (0, .methodref 4 5), (0, .class_ 6), (0, .nameAndType 7 8), (0, u "java/lang/Object"), (0, u "<init>"), (0, u "()V"), (1, .class_ 12), (1, u "java/lang/AbstractStringBuilder"), (0, u "EMPTYVALUE"), (0, u "[B"), (0, .fieldref 10 16), (0, .nameAndType 17 14), (0, u "value"), (0, .fieldref 1 19), (0, .nameAndType 20 21), (0, u "COMPACT_STRINGS"), (0, u "Z"), (0, .fieldref 10 23), (0, .nameAndType 24 25), (0, u "coder"), (0, u "B"), (6, .methodref 1 33), (0, .nameAndType 34 35), (0, u "length"), (0, u "()I"), (3, .integer 2147483647), (0, .methodref 1 41), (0, .nameAndType 24 42), (0, u "()B"), (2, u "append"), (0, u "(Ljava/lang/String;)Ljava/lang/AbstractStringBuilder;"), (1, .class_ 49), (0, u "java/lang/CharSequence"), (19, u "(Ljava/lang/String;)V"), (5, u "maybeLatin1"), (3, .fieldref 10 80), (0, .nameAndType 81 82), (0, u "count"), (0, u "I"), (2, u "isLatin1"), (0, u "()Z"), (13, .methodref 10 101), (0, .nameAndType 102 103), (0, u "ensureCapacityInternal"), (0, u "(I)V"), (0, .methodref 10 105), (0, .nameAndType 106 107), (0, u "newCapacity"), (0, u "(I)I"), (0, .methodref 109 110), (0, .class_ 111), (0, .nameAndType 112 113), (0, u "java/util/Arrays"), (0, u "copyOf"), (0, u "([BI)[B"), (0, .methodref 115 116), (0, .class_ 117), (0, .nameAndType 118 119), (0, u "jdk/internal/util/ArraysSupport"), (0, u "newLength"), (0, u "(III)I"), (88, .methodref 10 209), (0, .nameAndType 210 211), (0, u "putStringAt"), (0, u "(ILjava/lang/String;)V"), (5, u "inflateIfNeededFor"), (2, .nameAndType 221 222), (0, u "getBytes"), (0, u "([BIB)V"), (174, .methodref 10 398), (0, .nameAndType 217 69), (0, .methodref 1 220), (3, u "()[B"), (40, .class_ 445), (0, u "java/lang/Appendable"), (106, u "getValue")] 56

def k13m0 : Method := { name := "<init>", desc := "()V", sig := { parameters := [], returnType := none }, accessFlags := 0, code := none }
def k13c1 : Code := { maxStack := 2, maxLocals := 2, code := jdk_68_method_2_code, exceptionTable := #[], attributes := #[] }
def k13m1 : Method := { name := "<init>", desc := "(I)V", sig := { parameters := [.int], returnType := none }, accessFlags := 0, code := some k13c1 }
def k13c2 : Code := { maxStack := 1, maxLocals := 1, code := jdk_68_method_6_code, exceptionTable := #[], attributes := #[] }
def k13m2 : Method := { name := "length", desc := "()I", sig := { parameters := [], returnType := some .int }, accessFlags := 1, code := some k13c2 }
def k13c3 : Code := { maxStack := 4, maxLocals := 3, code := jdk_68_method_9_code, exceptionTable := #[], attributes := #[] }
def k13m3 : Method := { name := "ensureCapacityInternal", desc := "(I)V", sig := { parameters := [.int], returnType := none }, accessFlags := 2, code := some k13c3 }
def k13c4 : Code := { maxStack := 5, maxLocals := 6, code := jdk_68_method_10_code, exceptionTable := #[], attributes := #[] }
def k13m4 : Method := { name := "newCapacity", desc := "(I)I", sig := { parameters := [.int], returnType := some .int }, accessFlags := 2, code := some k13c4 }
def k13c5 : Code := { maxStack := 3, maxLocals := 3, code := jdk_68_method_22_code, exceptionTable := #[], attributes := #[] }
def k13m5 : Method := { name := "append", desc := "(Ljava/lang/String;)Ljava/lang/AbstractStringBuilder;", sig := { parameters := [(.object "java/lang/String")], returnType := some (.object "java/lang/AbstractStringBuilder") }, accessFlags := 1, code := some k13c5 }
def k13c6 : Code := { maxStack := 1, maxLocals := 1, code := jdk_68_method_64_code, exceptionTable := #[], attributes := #[] }
def k13m6 : Method := { name := "getValue", desc := "()[B", sig := { parameters := [], returnType := some (.array .byte) }, accessFlags := 16, code := some k13c6 }
def k13c7 : Code := { maxStack := 1, maxLocals := 1, code := jdk_68_method_68_code, exceptionTable := #[], attributes := #[] }
def k13m7 : Method := { name := "isLatin1", desc := "()Z", sig := { parameters := [], returnType := some .boolean }, accessFlags := 16, code := some k13c7 }
def k13c8 : Code := { maxStack := 2, maxLocals := 2, code := jdk_68_method_71_code, exceptionTable := #[], attributes := #[] }
def k13m8 : Method := { name := "inflateIfNeededFor", desc := "(Ljava/lang/String;)V", sig := { parameters := [(.object "java/lang/String")], returnType := none }, accessFlags := 2, code := some k13c8 }
def k13c9 : Code := { maxStack := 4, maxLocals := 3, code := jdk_68_method_73_code, exceptionTable := #[], attributes := #[] }
def k13m9 : Method := { name := "putStringAt", desc := "(ILjava/lang/String;)V", sig := { parameters := [.int, (.object "java/lang/String")], returnType := none }, accessFlags := 2, code := some k13c9 }
/-- java/lang/AbstractStringBuilder -/
def k13 : Class := { plain "java/lang/AbstractStringBuilder" (some 0) with
  accessFlags := 1056
  interfaces := #[12, 4]
  cf := some (fileOf pool13 10 #[] #[{ accessFlags := 0, nameIndex := 7, descriptorIndex := 8, attributes := #[] }, { accessFlags := 0, nameIndex := 7, descriptorIndex := 103, attributes := #[] }, { accessFlags := 1, nameIndex := 34, descriptorIndex := 35, attributes := #[] }, { accessFlags := 2, nameIndex := 102, descriptorIndex := 103, attributes := #[] }, { accessFlags := 2, nameIndex := 106, descriptorIndex := 107, attributes := #[] }, { accessFlags := 1, nameIndex := 45, descriptorIndex := 46, attributes := #[] }, { accessFlags := 16, nameIndex := 552, descriptorIndex := 403, attributes := #[] }, { accessFlags := 16, nameIndex := 85, descriptorIndex := 86, attributes := #[] }, { accessFlags := 2, nameIndex := 217, descriptorIndex := 69, attributes := #[] }, { accessFlags := 2, nameIndex := 210, descriptorIndex := 211, attributes := #[] }] 1056 4 #[444, 48] #[{ accessFlags := 0, nameIndex := 17, descriptorIndex := 14, attributes := #[] }, { accessFlags := 0, nameIndex := 24, descriptorIndex := 25, attributes := #[] }, { accessFlags := 0, nameIndex := 75, descriptorIndex := 21, attributes := #[] }, { accessFlags := 0, nameIndex := 81, descriptorIndex := 82, attributes := #[] }, { accessFlags := 26, nameIndex := 13, descriptorIndex := 14, attributes := #[] }])
  fields := #[{ name := "value", type := (.array .byte), accessFlags := 0, slot := 0, constantValue := 0 }, { name := "coder", type := .byte, accessFlags := 0, slot := 1, constantValue := 0 }, { name := "maybeLatin1", type := .boolean, accessFlags := 0, slot := 2, constantValue := 0 }, { name := "count", type := .int, accessFlags := 0, slot := 3, constantValue := 0 }, { name := "EMPTYVALUE", type := (.array .byte), accessFlags := 26, slot := 0, constantValue := 0 }]
  methods := #[k13m0, k13m1, k13m2, k13m3, k13m4, k13m5, k13m6, k13m7, k13m8, k13m9]
  instanceTypes := #[(.array .byte), .byte, .boolean, .int]
  staticTypes := #[(.array .byte)]
  resolved := Array.replicate 609 none
  statics := none }

def pool14 : Array CpInfo := pool [(1, .methodref 2 3), (0, .class_ 4), (0, .nameAndType 5 6), (0, u "java/lang/AbstractStringBuilder"), (0, u "<init>"), (0, u "(I)V"), (11, .class_ 20), (1, u "java/lang/String"), (3, .class_ 26), (1, u "java/lang/StringBuilder"), (0, u "append"), (0, u "(Ljava/lang/String;)Ljava/lang/StringBuilder;"), (0, .methodref 2 30), (0, .nameAndType 27 31), (0, u "(Ljava/lang/String;)Ljava/lang/AbstractStringBuilder;"), (105, .methodref 18 138), (0, .nameAndType 5 139), (0, u "(Ljava/lang/StringBuilder;)V"), (5, u "()V"), (10, u "()I"), (186, .methodref 2 344), (0, .nameAndType 345 156), (0, u "length"), (3, .class_ 350), (0, u "java/lang/Appendable"), (0, .class_ 352), (0, u "java/io/Serializable"), (0, .class_ 354), (0, u "java/lang/Comparable"), (0, .class_ 356), (0, u "java/lang/CharSequence"), (0, u "serialVersionUID"), (0, u "J"), (40, u "toString"), (0, u "()Ljava/lang/String;")] 21

def k14c0 : Code := { maxStack := 2, maxLocals := 1, code := jdk_67_method_1_code, exceptionTable := #[], attributes := #[] }
def k14m0 : Method := { name := "<init>", desc := "()V", sig := { parameters := [], returnType := none }, accessFlags := 1, code := some k14c0 }
def k14c1 : Code := { maxStack := 2, maxLocals := 2, code := jdk_67_method_7_code, exceptionTable := #[], attributes := #[] }
def k14m1 : Method := { name := "append", desc := "(Ljava/lang/String;)Ljava/lang/StringBuilder;", sig := { parameters := [(.object "java/lang/String")], returnType := some (.object "java/lang/StringBuilder") }, accessFlags := 1, code := some k14c1 }
def k14c2 : Code := { maxStack := 3, maxLocals := 1, code := jdk_67_method_42_code, exceptionTable := #[], attributes := #[] }
def k14m2 : Method := { name := "toString", desc := "()Ljava/lang/String;", sig := { parameters := [], returnType := some (.object "java/lang/String") }, accessFlags := 1, code := some k14c2 }
def k14c3 : Code := { maxStack := 1, maxLocals := 1, code := jdk_67_method_93_code, exceptionTable := #[], attributes := #[] }
def k14m3 : Method := { name := "length", desc := "()I", sig := { parameters := [], returnType := some .int }, accessFlags := 4161, code := some k14c3 }
/-- java/lang/StringBuilder -/
def k14 : Class := { plain "java/lang/StringBuilder" (some 13) with
  accessFlags := 49
  interfaces := #[12, 2, 3, 4]
  cf := some (fileOf pool14 24 #[] #[{ accessFlags := 1, nameIndex := 5, descriptorIndex := 145, attributes := #[] }, { accessFlags := 1, nameIndex := 27, descriptorIndex := 28, attributes := #[] }, { accessFlags := 1, nameIndex := 399, descriptorIndex := 400, attributes := #[] }, { accessFlags := 4161, nameIndex := 345, descriptorIndex := 156, attributes := #[] }] 49 2 #[349, 351, 353, 355] #[{ accessFlags := 24, nameIndex := 357, descriptorIndex := 358, attributes := #[] }])
  fields := #[{ name := "serialVersionUID", type := .long, accessFlags := 24, slot := 0, constantValue := 0 }]
  methods := #[k14m0, k14m1, k14m2, k14m3]
  instanceTypes := #[(.array .byte), .byte, .boolean, .int]
  staticTypes := #[.long]
  resolved := Array.replicate 422 none
  statics := none }

def pool15 : Array CpInfo := pool [(9, u "<init>"), (6, .class_ 18), (1, u "java/lang/Object"), (0, u "()V"), (1, .class_ 23), (1, u "jdk/internal/util/ArraysSupport"), (0, u "LOG2_ARRAY_LONG_INDEX_SCALE"), (0, u "I"), (2, u "U"), (0, u "Ljdk/internal/misc/Unsafe;"), (8, u "BIG_ENDIAN"), (0, u "Z"), (8, u "LOG2_BYTE_BIT_SIZE"), (4, u "LOG2_ARRAY_INT_INDEX_SCALE"), (54, u "JLA"), (0, u "Ljdk/internal/access/JavaLangAccess;"), (11, u "LOG2_ARRAY_BOOLEAN_INDEX_SCALE"), (9, u "LOG2_ARRAY_BYTE_INDEX_SCALE"), (5, u "LOG2_ARRAY_CHAR_INDEX_SCALE"), (5, u "LOG2_ARRAY_SHORT_INDEX_SCALE"), (18, u "LOG2_ARRAY_FLOAT_INDEX_SCALE"), (24, u "LOG2_ARRAY_DOUBLE_INDEX_SCALE"), (6, .methodref 195 196), (0, .class_ 197), (0, .nameAndType 198 199), (0, u "java/lang/Math"), (0, u "max"), (0, u "(II)I"), (0, .integer 2147483639), (76, u "T_BOOLEAN"), (2, u "T_CHAR"), (1, u "T_FLOAT"), (1, u "T_DOUBLE"), (1, u "T_BYTE"), (1, u "T_SHORT"), (1, u "T_INT"), (1, u "T_LONG"), (1, u "SOFT_MAX_ARRAY_LENGTH"), (56, u "newLength"), (0, u "(III)I")] 25

def k15m0 : Method := { name := "<init>", desc := "()V", sig := { parameters := [], returnType := none }, accessFlags := 2, code := none }
def k15c1 : Code := { maxStack := 3, maxLocals := 4, code := jdk_48_method_27_code, exceptionTable := #[], attributes := #[] }
def k15m1 : Method := { name := "newLength", desc := "(III)I", sig := { parameters := [.int, .int, .int], returnType := some .int }, accessFlags := 9, code := some k15c1 }
/-- jdk/internal/util/ArraysSupport -/
def k15 : Class := { plain "jdk/internal/util/ArraysSupport" (some 0) with
  accessFlags := 33
  interfaces := #[]
  cf := some (fileOf pool15 21 #[] #[{ accessFlags := 2, nameIndex := 9, descriptorIndex := 19, attributes := #[] }, { accessFlags := 9, nameIndex := 351, descriptorIndex := 352, attributes := #[] }] 33 16 #[] #[{ accessFlags := 24, nameIndex := 28, descriptorIndex := 29, attributes := #[] }, { accessFlags := 26, nameIndex := 38, descriptorIndex := 39, attributes := #[] }, { accessFlags := 25, nameIndex := 121, descriptorIndex := 25, attributes := #[] }, { accessFlags := 25, nameIndex := 131, descriptorIndex := 25, attributes := #[] }, { accessFlags := 25, nameIndex := 137, descriptorIndex := 25, attributes := #[] }, { accessFlags := 25, nameIndex := 143, descriptorIndex := 25, attributes := #[] }, { accessFlags := 25, nameIndex := 53, descriptorIndex := 25, attributes := #[] }, { accessFlags := 25, nameIndex := 24, descriptorIndex := 25, attributes := #[] }, { accessFlags := 25, nameIndex := 162, descriptorIndex := 25, attributes := #[] }, { accessFlags := 25, nameIndex := 187, descriptorIndex := 25, attributes := #[] }, { accessFlags := 26, nameIndex := 48, descriptorIndex := 25, attributes := #[] }, { accessFlags := 25, nameIndex := 277, descriptorIndex := 25, attributes := #[] }, { accessFlags := 25, nameIndex := 280, descriptorIndex := 25, attributes := #[] }, { accessFlags := 25, nameIndex := 282, descriptorIndex := 25, attributes := #[] }, { accessFlags := 25, nameIndex := 284, descriptorIndex := 25, attributes := #[] }, { accessFlags := 25, nameIndex := 286, descriptorIndex := 25, attributes := #[] }, { accessFlags := 25, nameIndex := 288, descriptorIndex := 25, attributes := #[] }, { accessFlags := 25, nameIndex := 290, descriptorIndex := 25, attributes := #[] }, { accessFlags := 25, nameIndex := 292, descriptorIndex := 25, attributes := #[] }, { accessFlags := 26, nameIndex := 108, descriptorIndex := 109, attributes := #[] }, { accessFlags := 25, nameIndex := 294, descriptorIndex := 25, attributes := #[] }])
  fields := #[{ name := "U", type := (.object "jdk/internal/misc/Unsafe"), accessFlags := 24, slot := 0, constantValue := 0 }, { name := "BIG_ENDIAN", type := .boolean, accessFlags := 26, slot := 1, constantValue := 0 }, { name := "LOG2_ARRAY_BOOLEAN_INDEX_SCALE", type := .int, accessFlags := 25, slot := 2, constantValue := 0 }, { name := "LOG2_ARRAY_BYTE_INDEX_SCALE", type := .int, accessFlags := 25, slot := 3, constantValue := 0 }, { name := "LOG2_ARRAY_CHAR_INDEX_SCALE", type := .int, accessFlags := 25, slot := 4, constantValue := 0 }, { name := "LOG2_ARRAY_SHORT_INDEX_SCALE", type := .int, accessFlags := 25, slot := 5, constantValue := 0 }, { name := "LOG2_ARRAY_INT_INDEX_SCALE", type := .int, accessFlags := 25, slot := 6, constantValue := 0 }, { name := "LOG2_ARRAY_LONG_INDEX_SCALE", type := .int, accessFlags := 25, slot := 7, constantValue := 0 }, { name := "LOG2_ARRAY_FLOAT_INDEX_SCALE", type := .int, accessFlags := 25, slot := 8, constantValue := 0 }, { name := "LOG2_ARRAY_DOUBLE_INDEX_SCALE", type := .int, accessFlags := 25, slot := 9, constantValue := 0 }, { name := "LOG2_BYTE_BIT_SIZE", type := .int, accessFlags := 26, slot := 10, constantValue := 0 }, { name := "T_BOOLEAN", type := .int, accessFlags := 25, slot := 11, constantValue := 0 }, { name := "T_CHAR", type := .int, accessFlags := 25, slot := 12, constantValue := 0 }, { name := "T_FLOAT", type := .int, accessFlags := 25, slot := 13, constantValue := 0 }, { name := "T_DOUBLE", type := .int, accessFlags := 25, slot := 14, constantValue := 0 }, { name := "T_BYTE", type := .int, accessFlags := 25, slot := 15, constantValue := 0 }, { name := "T_SHORT", type := .int, accessFlags := 25, slot := 16, constantValue := 0 }, { name := "T_INT", type := .int, accessFlags := 25, slot := 17, constantValue := 0 }, { name := "T_LONG", type := .int, accessFlags := 25, slot := 18, constantValue := 0 }, { name := "JLA", type := (.object "jdk/internal/access/JavaLangAccess"), accessFlags := 26, slot := 19, constantValue := 0 }, { name := "SOFT_MAX_ARRAY_LENGTH", type := .int, accessFlags := 25, slot := 20, constantValue := 0 }]
  methods := #[k15m0, k15m1]
  instanceTypes := #[]
  staticTypes := #[(.object "jdk/internal/misc/Unsafe"), .boolean, .int, .int, .int, .int, .int, .int, .int, .int, .int, .int, .int, .int, .int, .int, .int, .int, .int, (.object "jdk/internal/access/JavaLangAccess"), .int]
  resolved := Array.replicate 378 none
  statics := none }

def pool16 : Array CpInfo := pool [(1, .class_ 2), (0, u "java/lang/Math"), (1, .class_ 6), (1, u "java/lang/Object"), (0, u "<init>"), (0, u "()V"), (89, .class_ 100), (1, u "java/lang/Math$RandomNumberGeneratorHolder"), (71, u "negativeZeroFloatBits"), (0, u "J"), (2, u "negativeZeroDoubleBits"), (21, u "max"), (2, u "min"), (43, u "$assertionsDisabled"), (0, u "Z"), (88, u "(II)I"), (2, u "twoToTheDoubleScaleDown"), (0, u "D"), (4, u "twoToTheDoubleScaleUp"), (9, u "E"), (3, u "PI"), (2, u "TAU"), (2, u "DEGREES_TO_RADIANS"), (0, u "RADIANS_TO_DEGREES")] 94

def k16m0 : Method := { name := "<init>", desc := "()V", sig := { parameters := [], returnType := none }, accessFlags := 2, code := none }
def k16c1 : Code := { maxStack := 2, maxLocals := 2, code := jdk_29_method_65_code, exceptionTable := #[], attributes := #[] }
def k16m1 : Method := { name := "max", desc := "(II)I", sig := { parameters := [.int, .int], returnType := some .int }, accessFlags := 9, code := some k16c1 }
def k16c2 : Code := { maxStack := 2, maxLocals := 2, code := jdk_29_method_69_code, exceptionTable := #[], attributes := #[] }
def k16m2 : Method := { name := "min", desc := "(II)I", sig := { parameters := [.int, .int], returnType := some .int }, accessFlags := 9, code := some k16c2 }
/-- java/lang/Math -/
def k16 : Class := { plain "java/lang/Math" (some 0) with
  accessFlags := 49
  interfaces := #[]
  cf := some (fileOf pool16 1 #[.nestMembers #[98]] #[{ accessFlags := 2, nameIndex := 7, descriptorIndex := 8, attributes := #[] }, { accessFlags := 9, nameIndex := 198, descriptorIndex := 335, attributes := #[] }, { accessFlags := 9, nameIndex := 201, descriptorIndex := 335, attributes := #[] }] 49 4 #[] #[{ accessFlags := 25, nameIndex := 354, descriptorIndex := 339, attributes := #[] }, { accessFlags := 25, nameIndex := 358, descriptorIndex := 339, attributes := #[] }, { accessFlags := 25, nameIndex := 361, descriptorIndex := 339, attributes := #[] }, { accessFlags := 26, nameIndex := 364, descriptorIndex := 339, attributes := #[] }, { accessFlags := 26, nameIndex := 365, descriptorIndex := 339, attributes := #[] }, { accessFlags := 26, nameIndex := 172, descriptorIndex := 173, attributes := #[] }, { accessFlags := 26, nameIndex := 176, descriptorIndex := 173, attributes := #[] }, { accessFlags := 8, nameIndex := 344, descriptorIndex := 339, attributes := #[] }, { accessFlags := 8, nameIndex := 338, descriptorIndex := 339, attributes := #[] }, { accessFlags := 4120, nameIndex := 245, descriptorIndex := 246, attributes := #[] }])
  fields := #[{ name := "E", type := .double, accessFlags := 25, slot := 0, constantValue := 0 }, { name := "PI", type := .double, accessFlags := 25, slot := 1, constantValue := 0 }, { name := "TAU", type := .double, accessFlags := 25, slot := 2, constantValue := 0 }, { name := "DEGREES_TO_RADIANS", type := .double, accessFlags := 26, slot := 3, constantValue := 0 }, { name := "RADIANS_TO_DEGREES", type := .double, accessFlags := 26, slot := 4, constantValue := 0 }, { name := "negativeZeroFloatBits", type := .long, accessFlags := 26, slot := 5, constantValue := 0 }, { name := "negativeZeroDoubleBits", type := .long, accessFlags := 26, slot := 6, constantValue := 0 }, { name := "twoToTheDoubleScaleUp", type := .double, accessFlags := 8, slot := 7, constantValue := 0 }, { name := "twoToTheDoubleScaleDown", type := .double, accessFlags := 8, slot := 8, constantValue := 0 }, { name := "$assertionsDisabled", type := .boolean, accessFlags := 4120, slot := 9, constantValue := 0 }]
  methods := #[k16m0, k16m1, k16m2]
  instanceTypes := #[]
  staticTypes := #[.double, .double, .double, .double, .double, .long, .long, .double, .double, .boolean]
  resolved := Array.replicate 460 none
  statics := none }

def pool17 : Array CpInfo := pool [(2, .class_ 4), (1, u "java/lang/Object"), (0, u "<init>"), (0, u "()V"), (7, .class_ 16), (1, u "java/util/Arrays"), (57, .class_ 76), (1, u "java/util/Arrays$NaturalOrder"), (36, .class_ 115), (1, u "java/util/Arrays$LegacyMergeSort"), (1, u "Z"), (21, u "copyOfRange"), (10, .methodref 151 152), (0, .class_ 153), (0, .nameAndType 154 155), (0, u "java/lang/System"), (0, u "arraycopy"), (0, u "(Ljava/lang/Object;ILjava/lang/Object;II)V"), (146, u "copyOf"), (1, .methodref 305 306), (0, .class_ 307), (0, .nameAndType 308 309), (0, u "java/lang/Math"), (0, u "min"), (0, u "(II)I"), (29, .methodref 14 340), (0, .nameAndType 341 342), (0, u "copyOfRangeByte"), (0, u "([BII)[B"), (0, .methodref 14 344), (0, .nameAndType 345 346), (0, u "checkLength"), (0, u "(II)V"), (28, .class_ 376), (0, u "java/util/Arrays$ArrayList"), (68, u "$assertionsDisabled"), (269, u "MIN_ARRAY_SORT_GRAN"), (0, u "I"), (2, u "INSERTIONSORT_THRESHOLD"), (149, u "([BI)[B"), (105, .class_ 976), (0, u "java/util/Arrays$ArrayItr")] 52

def k17m0 : Method := { name := "<init>", desc := "()V", sig := { parameters := [], returnType := none }, accessFlags := 2, code := none }
def k17c1 : Code := { maxStack := 6, maxLocals := 3, code := jdk_65_method_121_code, exceptionTable := #[], attributes := #[] }
def k17m1 : Method := { name := "copyOf", desc := "([BI)[B", sig := { parameters := [(.array .byte), .int], returnType := some (.array .byte) }, accessFlags := 9, code := some k17c1 }
def k17c2 : Code := { maxStack := 4, maxLocals := 2, code := jdk_65_method_131_code, exceptionTable := #[], attributes := #[] }
def k17m2 : Method := { name := "checkLength", desc := "(II)V", sig := { parameters := [.int, .int], returnType := none }, accessFlags := 10, code := some k17c2 }
def k17c3 : Code := { maxStack := 3, maxLocals := 3, code := jdk_65_method_132_code, exceptionTable := #[], attributes := #[] }
def k17m3 : Method := { name := "copyOfRange", desc := "([BII)[B", sig := { parameters := [(.array .byte), .int, .int], returnType := some (.array .byte) }, accessFlags := 9, code := some k17c3 }
def k17c4 : Code := { maxStack := 6, maxLocals := 5, code := jdk_65_method_133_code, exceptionTable := #[], attributes := #[] }
def k17m4 : Method := { name := "copyOfRangeByte", desc := "([BII)[B", sig := { parameters := [(.array .byte), .int, .int], returnType := some (.array .byte) }, accessFlags := 10, code := some k17c4 }
/-- java/util/Arrays -/
def k17 : Class := { plain "java/util/Arrays" (some 0) with
  accessFlags := 49
  interfaces := #[]
  cf := some (fileOf pool17 14 #[.nestMembers #[975, 375, 113, 74]] #[{ accessFlags := 2, nameIndex := 5, descriptorIndex := 6, attributes := #[] }, { accessFlags := 9, nameIndex := 302, descriptorIndex := 869, attributes := #[] }, { accessFlags := 10, nameIndex := 345, descriptorIndex := 346, attributes := #[] }, { accessFlags := 9, nameIndex := 139, descriptorIndex := 342, attributes := #[] }, { accessFlags := 10, nameIndex := 341, descriptorIndex := 342, attributes := #[] }] 49 2 #[] #[{ accessFlags := 26, nameIndex := 715, descriptorIndex := 716, attributes := #[] }, { accessFlags := 26, nameIndex := 719, descriptorIndex := 716, attributes := #[] }, { accessFlags := 4120, nameIndex := 445, descriptorIndex := 117, attributes := #[] }])
  fields := #[{ name := "MIN_ARRAY_SORT_GRAN", type := .int, accessFlags := 26, slot := 0, constantValue := 0 }, { name := "INSERTIONSORT_THRESHOLD", type := .int, accessFlags := 26, slot := 1, constantValue := 0 }, { name := "$assertionsDisabled", type := .boolean, accessFlags := 4120, slot := 2, constantValue := 0 }]
  methods := #[k17m0, k17m1, k17m2, k17m3, k17m4]
  instanceTypes := #[]
  staticTypes := #[.int, .int, .boolean]
  resolved := Array.replicate 1029 none
  statics := none }

def pool18 : Array CpInfo := pool [(2, .class_ 4), (1, u "java/lang/Object"), (0, u "<init>"), (0, u "()V"), (1, .class_ 10), (1, u "java/lang/System"), (0, u "allowSecurityManager"), (0, u "I"), (16, u "cons"), (0, u "Ljava/io/Console;"), (77, .class_ 110), (1, u "java/lang/System$CallersHolder"), (43, u "initialErrStream"), (0, u "Ljava/io/PrintStream;"), (19, u "security"), (0, u "Ljava/lang/SecurityManager;"), (31, .class_ 209), (0, u "java/lang/System$1"), (7, u "props"), (0, u "Ljava/util/Properties;"), (2, u "lineSeparator"), (0, u "Ljava/lang/String;"), (96, .class_ 321), (1, u "java/lang/System$LoggerFinder"), (5, .class_ 328), (0, u "java/lang/System$Logger"), (67, u "err"), (2, u "out"), (91, u "notSupportedJnuEncoding"), (15, u "in"), (17, u "initialIn"), (0, u "Ljava/io/InputStream;"), (35, u "bootLayer"), (0, u "Ljava/lang/ModuleLayer;"), (99, .class_ 664), (0, u "java/lang/System$2"), (9, u "NEVER"), (2, u "MAYBE"), (49, u "arraycopy"), (0, u "(Ljava/lang/Object;ILjava/lang/Object;II)V"), (72, .class_ 802), (0, u "java/lang/System$Logger$Level")] 31

def k18m0 : Method := { name := "<init>", desc := "()V", sig := { parameters := [], returnType := none }, accessFlags := 2, code := none }
def k18m1 : Method := { name := "arraycopy", desc := "(Ljava/lang/Object;ILjava/lang/Object;II)V", sig := { parameters := [(.object "java/lang/Object"), .int, (.object "java/lang/Object"), .int, .int], returnType := none }, accessFlags := 265, code := none }
/-- java/lang/System -/
def k18 : Class := { plain "java/lang/System" (some 0) with
  accessFlags := 49
  interfaces := #[]
  cf := some (fileOf pool18 8 #[.nestMembers #[319, 327, 801, 108, 663, 208]] #[{ accessFlags := 2, nameIndex := 5, descriptorIndex := 6, attributes := #[] }, { accessFlags := 265, nameIndex := 727, descriptorIndex := 728, attributes := #[] }] 49 2 #[] #[{ accessFlags := 25, nameIndex := 507, descriptorIndex := 526, attributes := #[] }, { accessFlags := 25, nameIndex := 399, descriptorIndex := 155, attributes := #[] }, { accessFlags := 25, nameIndex := 396, descriptorIndex := 155, attributes := #[] }, { accessFlags := 10, nameIndex := 525, descriptorIndex := 526, attributes := #[] }, { accessFlags := 26, nameIndex := 674, descriptorIndex := 12, attributes := #[] }, { accessFlags := 26, nameIndex := 677, descriptorIndex := 12, attributes := #[] }, { accessFlags := 10, nameIndex := 11, descriptorIndex := 12, attributes := #[] }, { accessFlags := 74, nameIndex := 175, descriptorIndex := 176, attributes := #[] }, { accessFlags := 10, nameIndex := 491, descriptorIndex := 222, attributes := #[] }, { accessFlags := 74, nameIndex := 29, descriptorIndex := 30, attributes := #[] }, { accessFlags := 74, nameIndex := 154, descriptorIndex := 155, attributes := #[] }, { accessFlags := 10, nameIndex := 217, descriptorIndex := 218, attributes := #[] }, { accessFlags := 10, nameIndex := 221, descriptorIndex := 222, attributes := #[] }, { accessFlags := 8, nameIndex := 562, descriptorIndex := 563, attributes := #[] }])
  fields := #[{ name := "in", type := (.object "java/io/InputStream"), accessFlags := 25, slot := 0, constantValue := 0 }, { name := "out", type := (.object "java/io/PrintStream"), accessFlags := 25, slot := 1, constantValue := 0 }, { name := "err", type := (.object "java/io/PrintStream"), accessFlags := 25, slot := 2, constantValue := 0 }, { name := "initialIn", type := (.object "java/io/InputStream"), accessFlags := 10, slot := 3, constantValue := 0 }, { name := "NEVER", type := .int, accessFlags := 26, slot := 4, constantValue := 0 }, { name := "MAYBE", type := .int, accessFlags := 26, slot := 5, constantValue := 0 }, { name := "allowSecurityManager", type := .int, accessFlags := 10, slot := 6, constantValue := 0 }, { name := "security", type := (.object "java/lang/SecurityManager"), accessFlags := 74, slot := 7, constantValue := 0 }, { name := "notSupportedJnuEncoding", type := (.object "java/lang/String"), accessFlags := 10, slot := 8, constantValue := 0 }, { name := "cons", type := (.object "java/io/Console"), accessFlags := 74, slot := 9, constantValue := 0 }, { name := "initialErrStream", type := (.object "java/io/PrintStream"), accessFlags := 74, slot := 10, constantValue := 0 }, { name := "props", type := (.object "java/util/Properties"), accessFlags := 10, slot := 11, constantValue := 0 }, { name := "lineSeparator", type := (.object "java/lang/String"), accessFlags := 10, slot := 12, constantValue := 0 }, { name := "bootLayer", type := (.object "java/lang/ModuleLayer"), accessFlags := 8, slot := 13, constantValue := 0 }]
  methods := #[k18m0, k18m1]
  instanceTypes := #[]
  staticTypes := #[(.object "java/io/InputStream"), (.object "java/io/PrintStream"), (.object "java/io/PrintStream"), (.object "java/io/InputStream"), .int, .int, .int, (.object "java/lang/SecurityManager"), (.object "java/lang/String"), (.object "java/io/Console"), (.object "java/io/PrintStream"), (.object "java/util/Properties"), (.object "java/lang/String"), (.object "java/lang/ModuleLayer")]
  resolved := Array.replicate 834 none
  statics := none }

def pool19 : Array CpInfo := pool [(4, .class_ 6), (1, u "java/lang/Object"), (0, u "<init>"), (0, u "()V"), (5, .class_ 16), (1, u "java/lang/StringLatin1"), (104, u "$assertionsDisabled"), (0, u "Z"), (98, .class_ 223), (1, u "java/lang/StringLatin1$LinesSpliterator"), (57, u "equals"), (0, u "([B[B)Z"), (107, .class_ 391), (0, u "java/lang/StringLatin1$CharsSpliterator")] 3

def k19m0 : Method := { name := "<init>", desc := "()V", sig := { parameters := [], returnType := none }, accessFlags := 0, code := none }
def k19c1 : Code := { maxStack := 3, maxLocals := 3, code := jdk_43_method_13_code, exceptionTable := #[], attributes := #[] }
def k19m1 : Method := { name := "equals", desc := "([B[B)Z", sig := { parameters := [(.array .byte), (.array .byte)], returnType := some .boolean }, accessFlags := 9, code := some k19c1 }
/-- java/lang/StringLatin1 -/
def k19 : Class := { plain "java/lang/StringLatin1" (some 0) with
  accessFlags := 48
  interfaces := #[]
  cf := some (fileOf pool19 14 #[.nestMembers #[390, 221]] #[{ accessFlags := 0, nameIndex := 7, descriptorIndex := 8, attributes := #[] }, { accessFlags := 9, nameIndex := 281, descriptorIndex := 282, attributes := #[] }] 48 4 #[] #[{ accessFlags := 4120, nameIndex := 121, descriptorIndex := 122, attributes := #[] }])
  fields := #[{ name := "$assertionsDisabled", type := .boolean, accessFlags := 4120, slot := 0, constantValue := 0 }]
  methods := #[k19m0, k19m1]
  instanceTypes := #[]
  staticTypes := #[.boolean]
  resolved := Array.replicate 395 none
  statics := none }

def pool20 : Array CpInfo := pool [(2, .class_ 4), (1, u "java/lang/Object"), (0, u "<init>"), (0, u "()V"), (17, .class_ 26), (1, u "jdk/internal/util/Preconditions"), (28, .class_ 56), (0, u "jdk/internal/util/Preconditions$4"), (57, .class_ 115), (0, u "jdk/internal/util/Preconditions$1"), (7, u "SIOOBE_FORMATTER"), (0, u "Ljava/util/function/BiFunction;"), (0, .class_ 126), (0, u "jdk/internal/util/Preconditions$2"), (3, u "AIOOBE_FORMATTER"), (0, .class_ 132), (0, u "jdk/internal/util/Preconditions$3"), (3, u "IOOBE_FORMATTER")] 57

def k20m0 : Method := { name := "<init>", desc := "()V", sig := { parameters := [], returnType := none }, accessFlags := 1, code := none }
/-- jdk/internal/util/Preconditions -/
def k20 : Class := { plain "jdk/internal/util/Preconditions" (some 0) with
  accessFlags := 33
  interfaces := #[]
  cf := some (fileOf pool20 24 #[.nestMembers #[55, 131, 125, 114]] #[{ accessFlags := 1, nameIndex := 5, descriptorIndex := 6, attributes := #[] }] 33 2 #[] #[{ accessFlags := 25, nameIndex := 123, descriptorIndex := 124, attributes := #[] }, { accessFlags := 25, nameIndex := 130, descriptorIndex := 124, attributes := #[] }, { accessFlags := 25, nameIndex := 136, descriptorIndex := 124, attributes := #[] }])
  fields := #[{ name := "SIOOBE_FORMATTER", type := (.object "java/util/function/BiFunction"), accessFlags := 25, slot := 0, constantValue := 0 }, { name := "AIOOBE_FORMATTER", type := (.object "java/util/function/BiFunction"), accessFlags := 25, slot := 1, constantValue := 0 }, { name := "IOOBE_FORMATTER", type := (.object "java/util/function/BiFunction"), accessFlags := 25, slot := 2, constantValue := 0 }]
  methods := #[k20m0]
  instanceTypes := #[]
  staticTypes := #[(.object "java/util/function/BiFunction"), (.object "java/util/function/BiFunction"), (.object "java/util/function/BiFunction")]
  resolved := Array.replicate 194 none
  statics := some 2 }

def pool21 : Array CpInfo := pool [(2, .class_ 4), (1, u "java/lang/Object"), (0, u "<init>"), (0, u "()V"), (12, .class_ 20), (0, u "java/util/Collections"), (63, u "r"), (0, u "Ljava/util/Random;"), (80, .class_ 167), (0, u "java/util/Collections$UnmodifiableCollection"), (6, .class_ 175), (0, u "java/util/Collections$UnmodifiableSequencedCollection"), (6, .class_ 183), (0, u "java/util/Collections$UnmodifiableSet"), (6, .class_ 191), (0, u "java/util/Collections$UnmodifiableSequencedSet"), (6, .class_ 199), (0, u "java/util/Collections$UnmodifiableSortedSet"), (6, .class_ 207), (0, u "java/util/Collections$UnmodifiableNavigableSet"), (4, .class_ 213), (0, u "java/util/Collections$UnmodifiableList"), (1, .class_ 216), (0, u "java/util/Collections$UnmodifiableRandomAccessList"), (6, .class_ 224), (0, u "java/util/Collections$UnmodifiableMap"), (6, .class_ 232), (0, u "java/util/Collections$UnmodifiableSequencedMap"), (4, .class_ 238), (0, u "java/util/Collections$UnmodifiableSortedMap"), (6, .class_ 246), (0, u "java/util/Collections$UnmodifiableNavigableMap"), (3, .class_ 251), (0, u "java/util/Collections$SynchronizedCollection"), (4, .class_ 257), (0, u "java/util/Collections$SynchronizedSet"), (4, .class_ 263), (0, u "java/util/Collections$SynchronizedSortedSet"), (1, .class_ 266), (0, u "java/util/Collections$SynchronizedNavigableSet"), (1, .class_ 269), (0, u "java/util/Collections$SynchronizedRandomAccessList"), (1, .class_ 272), (0, u "java/util/Collections$SynchronizedList"), (5, .class_ 279), (0, u "java/util/Collections$SynchronizedMap"), (1, .class_ 282), (0, u "java/util/Collections$SynchronizedSortedMap"), (1, .class_ 285), (0, u "java/util/Collections$SynchronizedNavigableMap"), (1, .class_ 288), (0, u "java/util/Collections$CheckedCollection"), (11, .class_ 301), (0, u "java/util/Collections$CheckedQueue"), (3, .class_ 306), (0, u "java/util/Collections$CheckedSet"), (3, .class_ 311), (0, u "java/util/Collections$CheckedSortedSet"), (3, .class_ 316), (0, u "java/util/Collections$CheckedNavigableSet"), (3, .class_ 321), (0, u "java/util/Collections$CheckedRandomAccessList"), (3, .class_ 326), (0, u "java/util/Collections$CheckedList"), (1, .class_ 329), (0, u "java/util/Collections$CheckedMap"), (3, .class_ 334), (0, u "java/util/Collections$CheckedSortedMap"), (3, .class_ 339), (0, u "java/util/Collections$CheckedNavigableMap"), (4, .class_ 346), (1, u "java/util/Collections$EmptyIterator"), (3, .class_ 352), (1, u "java/util/Collections$EmptyListIterator"), (2, .class_ 357), (1, u "java/util/Collections$EmptyEnumeration"), (4, u "EMPTY_SET"), (0, u "Ljava/util/Set;"), (6, u "EMPTY_LIST"), (0, u "Ljava/util/List;"), (2, u "EMPTY_MAP"), (0, u "Ljava/util/Map;"), (4, .class_ 381), (0, u "java/util/Collections$SingletonSet"), (2, .class_ 385), (0, u "java/util/Collections$1"), (1, .class_ 388), (0, u "java/util/Collections$2"), (1, .class_ 391), (0, u "java/util/Collections$SingletonList"), (1, .class_ 394), (0, u "java/util/Collections$SingletonMap"), (22, .class_ 418), (0, u "java/util/Collections$CopiesList"), (4, .class_ 425), (1, u "java/util/Collections$ReverseComparator"), (8, .class_ 435), (0, u "java/util/Collections$ReverseComparator2"), (6, .class_ 443), (0, u "java/util/Collections$3"), (25, .class_ 470), (0, u "java/util/Collections$SetFromMap"), (2, .class_ 474), (0, u "java/util/Collections$SequencedSetFromMap"), (3, .class_ 479), (0, u "java/util/Collections$AsLIFOQueue"), (11, .class_ 492), (0, u "java/util/Collections$EmptySet"), (1, .class_ 495), (0, u "java/util/Collections$EmptyList"), (1, .class_ 498), (0, u "java/util/Collections$EmptyMap"), (1, u "BINARYSEARCH_THRESHOLD"), (0, u "I"), (2, u "REVERSE_THRESHOLD"), (1, u "SHUFFLE_THRESHOLD"), (1, u "FILL_THRESHOLD"), (1, u "ROTATE_THRESHOLD"), (1, u "COPY_THRESHOLD"), (1, u "REPLACEALL_THRESHOLD"), (1, u "INDEXOFSUBLIST_THRESHOLD"), (333, .class_ 851), (0, u "java/util/Collections$CheckedMap$CheckedEntrySet"), (0, .class_ 853), (0, u "java/util/Collections$CheckedMap$CheckedEntrySet$CheckedEntry"), (0, .class_ 855), (0, u "java/util/Collections$CheckedMap$CheckedEntrySet$1"), (0, .class_ 857), (0, u "java/util/Collections$CheckedList$1"), (0, .class_ 859), (0, u "java/util/Collections$CheckedCollection$1"), (0, .class_ 861), (0, u "java/util/Collections$UnmodifiableNavigableMap$EmptyNavigableMap"), (0, .class_ 863), (0, u "java/util/Collections$UnmodifiableMap$UnmodifiableEntrySet"), (0, .class_ 865), (0, u "java/util/Collections$UnmodifiableMap$UnmodifiableEntrySet$UnmodifiableEntry"), (0, .class_ 867), (0, u "java/util/Collections$UnmodifiableMap$UnmodifiableEntrySet$UnmodifiableEntrySetSpliterator"), (0, .class_ 869), (0, u "java/util/Collections$UnmodifiableMap$UnmodifiableEntrySet$1"), (0, .class_ 871), (0, u "java/util/Collections$UnmodifiableList$1"), (0, .class_ 873), (0, u "java/util/Collections$UnmodifiableNavigableSet$EmptyNavigableSet"), (0, .class_ 875), (0, u "java/util/Collections$UnmodifiableCollection$1")] 57

def k21m0 : Method := { name := "<init>", desc := "()V", sig := { parameters := [], returnType := none }, accessFlags := 2, code := none }
/-- java/util/Collections -/
def k21 : Class := { plain "java/util/Collections" (some 0) with
  accessFlags := 33
  interfaces := #[]
  cf := some (fileOf pool21 19 #[.nestMembers #[478, 473, 469, 434, 423, 417, 393, 390, 380, 497, 494, 491, 355, 350, 344, 338, 333, 328, 850, 852, 854, 320, 325, 856, 315, 310, 305, 300, 287, 858, 284, 281, 278, 268, 271, 265, 262, 256, 250, 245, 860, 237, 231, 223, 862, 864, 866, 868, 215, 212, 870, 206, 872, 198, 190, 182, 174, 166, 874, 442, 387, 384]] #[{ accessFlags := 2, nameIndex := 5, descriptorIndex := 6, attributes := #[] }] 33 2 #[] #[{ accessFlags := 26, nameIndex := 500, descriptorIndex := 501, attributes := #[] }, { accessFlags := 26, nameIndex := 504, descriptorIndex := 501, attributes := #[] }, { accessFlags := 26, nameIndex := 506, descriptorIndex := 501, attributes := #[] }, { accessFlags := 26, nameIndex := 508, descriptorIndex := 501, attributes := #[] }, { accessFlags := 26, nameIndex := 510, descriptorIndex := 501, attributes := #[] }, { accessFlags := 26, nameIndex := 512, descriptorIndex := 501, attributes := #[] }, { accessFlags := 26, nameIndex := 514, descriptorIndex := 501, attributes := #[] }, { accessFlags := 26, nameIndex := 516, descriptorIndex := 501, attributes := #[] }, { accessFlags := 10, nameIndex := 84, descriptorIndex := 85, attributes := #[] }, { accessFlags := 25, nameIndex := 362, descriptorIndex := 363, attributes := #[] }, { accessFlags := 25, nameIndex := 370, descriptorIndex := 371, attributes := #[] }, { accessFlags := 25, nameIndex := 374, descriptorIndex := 375, attributes := #[] }])
  fields := #[{ name := "BINARYSEARCH_THRESHOLD", type := .int, accessFlags := 26, slot := 0, constantValue := 0 }, { name := "REVERSE_THRESHOLD", type := .int, accessFlags := 26, slot := 1, constantValue := 0 }, { name := "SHUFFLE_THRESHOLD", type := .int, accessFlags := 26, slot := 2, constantValue := 0 }, { name := "FILL_THRESHOLD", type := .int, accessFlags := 26, slot := 3, constantValue := 0 }, { name := "ROTATE_THRESHOLD", type := .int, accessFlags := 26, slot := 4, constantValue := 0 }, { name := "COPY_THRESHOLD", type := .int, accessFlags := 26, slot := 5, constantValue := 0 }, { name := "REPLACEALL_THRESHOLD", type := .int, accessFlags := 26, slot := 6, constantValue := 0 }, { name := "INDEXOFSUBLIST_THRESHOLD", type := .int, accessFlags := 26, slot := 7, constantValue := 0 }, { name := "r", type := (.object "java/util/Random"), accessFlags := 10, slot := 8, constantValue := 0 }, { name := "EMPTY_SET", type := (.object "java/util/Set"), accessFlags := 25, slot := 9, constantValue := 0 }, { name := "EMPTY_LIST", type := (.object "java/util/List"), accessFlags := 25, slot := 10, constantValue := 0 }, { name := "EMPTY_MAP", type := (.object "java/util/Map"), accessFlags := 25, slot := 11, constantValue := 0 }]
  methods := #[k21m0]
  instanceTypes := #[]
  staticTypes := #[.int, .int, .int, .int, .int, .int, .int, .int, (.object "java/util/Random"), (.object "java/util/Set"), (.object "java/util/List"), (.object "java/util/Map")]
  resolved := Array.replicate 933 none
  statics := some 3 }

def pool22 : Array CpInfo := pool [(8, .class_ 10), (1, u "java/lang/Iterable"), (24, .class_ 36), (0, u "java/lang/Object")] 25

/-- java/lang/Iterable -/
def k22 : Class := { plain "java/lang/Iterable" (some 0) with
  accessFlags := 1537
  interfaces := #[]
  cf := some (fileOf pool22 8 #[] #[] 1537 35 #[] #[])
  fields := #[]
  methods := #[]
  instanceTypes := #[]
  staticTypes := #[]
  resolved := Array.replicate 62 none
  statics := none }

def pool23 : Array CpInfo := pool [(10, .class_ 12), (1, u "java/util/Collection"), (47, .class_ 61), (0, u "java/lang/Object"), (0, .class_ 63), (0, u "java/lang/Iterable")] 51

/-- java/util/Collection -/
def k23 : Class := { plain "java/util/Collection" (some 0) with
  accessFlags := 1537
  interfaces := #[22]
  cf := some (fileOf pool23 10 #[] #[] 1537 60 #[62] #[])
  fields := #[]
  methods := #[]
  instanceTypes := #[]
  staticTypes := #[]
  resolved := Array.replicate 115 none
  statics := none }

def pool24 : Array CpInfo := pool [(2, .class_ 4), (1, u "java/lang/Object"), (0, u "<init>"), (0, u "()V"), (1, .class_ 10), (1, u "java/util/AbstractCollection"), (66, .class_ 78), (0, u "java/util/Collection")] 81

def k24m0 : Method := { name := "<init>", desc := "()V", sig := { parameters := [], returnType := none }, accessFlags := 4, code := none }
/-- java/util/AbstractCollection -/
def k24 : Class := { plain "java/util/AbstractCollection" (some 0) with
  accessFlags := 1057
  interfaces := #[23]
  cf := some (fileOf pool24 8 #[] #[{ accessFlags := 4, nameIndex := 5, descriptorIndex := 6, attributes := #[] }] 1057 2 #[77] #[])
  fields := #[]
  methods := #[k24m0]
  instanceTypes := #[]
  staticTypes := #[]
  resolved := Array.replicate 160 none
  statics := none }

def pool25 : Array CpInfo := pool [(8, .class_ 10), (1, u "java/util/SequencedCollection"), (15, .class_ 27), (0, u "java/lang/Object"), (0, .class_ 29), (0, u "java/util/Collection")] 27

/-- java/util/SequencedCollection -/
def k25 : Class := { plain "java/util/SequencedCollection" (some 0) with
  accessFlags := 1537
  interfaces := #[23]
  cf := some (fileOf pool25 8 #[] #[] 1537 26 #[28] #[])
  fields := #[]
  methods := #[]
  instanceTypes := #[]
  staticTypes := #[]
  resolved := Array.replicate 57 none
  statics := none }

def pool26 : Array CpInfo := pool [(8, .class_ 10), (1, u "java/util/List"), (92, .class_ 104), (0, u "java/lang/Object"), (15, .class_ 121), (0, u "java/util/SequencedCollection")] 129

/-- java/util/List -/
def k26 : Class := { plain "java/util/List" (some 0) with
  accessFlags := 1537
  interfaces := #[25]
  cf := some (fileOf pool26 8 #[] #[] 1537 103 #[120] #[])
  fields := #[]
  methods := #[]
  instanceTypes := #[]
  staticTypes := #[]
  resolved := Array.replicate 251 none
  statics := none }

def pool27 : Array CpInfo := pool [(2, .class_ 4), (1, u "java/util/AbstractCollection"), (0, u "<init>"), (0, u "()V"), (1, .class_ 10), (1, u "java/util/AbstractList"), (0, u "modCount"), (0, u "I"), (64, .class_ 78), (0, u "java/util/AbstractList$Itr"), (3, .class_ 83), (0, u "java/util/AbstractList$ListItr"), (9, .class_ 94), (0, u "java/util/AbstractList$RandomAccessSubList"), (3, .class_ 99), (0, u "java/util/AbstractList$SubList"), (33, .class_ 134), (0, u "java/util/List"), (73, .class_ 209), (0, u "java/util/AbstractList$SubList$1"), (0, .class_ 211), (0, u "java/util/AbstractList$RandomAccessSpliterator")] 6

def k27m0 : Method := { name := "<init>", desc := "()V", sig := { parameters := [], returnType := none }, accessFlags := 4, code := none }
/-- java/util/AbstractList -/
def k27 : Class := { plain "java/util/AbstractList" (some 24) with
  accessFlags := 1057
  interfaces := #[26]
  cf := some (fileOf pool27 8 #[.nestMembers #[93, 98, 208, 210, 82, 77]] #[{ accessFlags := 4, nameIndex := 5, descriptorIndex := 6, attributes := #[] }] 1057 2 #[133] #[{ accessFlags := 132, nameIndex := 11, descriptorIndex := 12, attributes := #[] }])
  fields := #[{ name := "modCount", type := .int, accessFlags := 132, slot := 0, constantValue := 0 }]
  methods := #[k27m0]
  instanceTypes := #[.int]
  staticTypes := #[]
  resolved := Array.replicate 218 none
  statics := none }

def pool28 : Array CpInfo := pool [(1, .class_ 2), (0, u "java/util/RandomAccess"), (0, .class_ 4), (0, u "java/lang/Object")] 2

/-- java/util/RandomAccess -/
def k28 : Class := { plain "java/util/RandomAccess" (some 0) with
  accessFlags := 1537
  interfaces := #[]
  cf := some (fileOf pool28 1 #[] #[] 1537 3 #[] #[])
  fields := #[]
  methods := #[]
  instanceTypes := #[]
  staticTypes := #[]
  resolved := Array.replicate 7 none
  statics := none }

def pool29 : Array CpInfo := pool [(2, .class_ 4), (1, u "java/util/AbstractList"), (0, u "<init>"), (0, u "()V"), (1, .class_ 10), (1, u "java/util/Collections"), (54, .class_ 66), (0, u "java/util/Collections$EmptyList"), (0, .class_ 68), (0, u "java/util/RandomAccess"), (0, .class_ 70), (0, u "java/io/Serializable"), (0, u "serialVersionUID"), (0, u "J")] 77

def k29m0 : Method := { name := "<init>", desc := "()V", sig := { parameters := [], returnType := none }, accessFlags := 2, code := none }
/-- java/util/Collections$EmptyList -/
def k29 : Class := { plain "java/util/Collections$EmptyList" (some 27) with
  accessFlags := 32
  interfaces := #[28, 2]
  cf := some (fileOf pool29 65 #[.nestHost 8] #[{ accessFlags := 2, nameIndex := 5, descriptorIndex := 6, attributes := #[] }] 32 2 #[67, 69] #[{ accessFlags := 26, nameIndex := 71, descriptorIndex := 72, attributes := #[] }])
  fields := #[{ name := "serialVersionUID", type := .long, accessFlags := 26, slot := 0, constantValue := 0 }]
  methods := #[k29m0]
  instanceTypes := #[.int]
  staticTypes := #[.long]
  resolved := Array.replicate 150 none
  statics := none }

def pool30 : Array CpInfo := pool [(2, .class_ 4), (1, u "java/lang/StackTraceElement"), (0, u "<init>"), (2, .class_ 10), (1, u "java/lang/Object"), (0, u "()V"), (2, u "format"), (0, u "B"), (2, u "classLoaderName"), (0, u "Ljava/lang/String;"), (2, u "moduleName"), (2, u "moduleVersion"), (12, u "declaringClass"), (4, u "methodName"), (2, u "fileName"), (2, u "lineNumber"), (0, u "I"), (65, u "declaringClassObject"), (0, u "Ljava/lang/Class;"), (33, .class_ 153), (1, u "java/lang/StackTraceElement$HashedModules"), (17, .class_ 172), (0, u "java/io/Serializable"), (0, u "NATIVE_METHOD"), (1, u "UNKNOWN_SOURCE"), (2, u "BUILTIN_CLASS_LOADER"), (1, u "JDK_NON_UPGRADEABLE_MODULE"), (1, u "serialVersionUID"), (0, u "J")] 51

def k30m0 : Method := { name := "<init>", desc := "()V", sig := { parameters := [], returnType := none }, accessFlags := 2, code := none }
/-- java/lang/StackTraceElement -/
def k30 : Class := { plain "java/lang/StackTraceElement" (some 0) with
  accessFlags := 49
  interfaces := #[2]
  cf := some (fileOf pool30 2 #[.nestMembers #[151]] #[{ accessFlags := 2, nameIndex := 5, descriptorIndex := 11, attributes := #[] }] 49 8 #[171] #[{ accessFlags := 26, nameIndex := 173, descriptorIndex := 19, attributes := #[] }, { accessFlags := 26, nameIndex := 175, descriptorIndex := 19, attributes := #[] }, { accessFlags := 130, nameIndex := 116, descriptorIndex := 117, attributes := #[] }, { accessFlags := 2, nameIndex := 18, descriptorIndex := 19, attributes := #[] }, { accessFlags := 2, nameIndex := 22, descriptorIndex := 19, attributes := #[] }, { accessFlags := 2, nameIndex := 25, descriptorIndex := 19, attributes := #[] }, { accessFlags := 2, nameIndex := 38, descriptorIndex := 19, attributes := #[] }, { accessFlags := 2, nameIndex := 43, descriptorIndex := 19, attributes := #[] }, { accessFlags := 2, nameIndex := 46, descriptorIndex := 19, attributes := #[] }, { accessFlags := 2, nameIndex := 49, descriptorIndex := 50, attributes := #[] }, { accessFlags := 2, nameIndex := 14, descriptorIndex := 15, attributes := #[] }, { accessFlags := 26, nameIndex := 178, descriptorIndex := 15, attributes := #[] }, { accessFlags := 26, nameIndex := 180, descriptorIndex := 15, attributes := #[] }, { accessFlags := 26, nameIndex := 182, descriptorIndex := 183, attributes := #[] }])
  fields := #[{ name := "NATIVE_METHOD", type := (.object "java/lang/String"), accessFlags := 26, slot := 0, constantValue := 0 }, { name := "UNKNOWN_SOURCE", type := (.object "java/lang/String"), accessFlags := 26, slot := 1, constantValue := 0 }, { name := "declaringClassObject", type := (.object "java/lang/Class"), accessFlags := 130, slot := 0, constantValue := 0 }, { name := "classLoaderName", type := (.object "java/lang/String"), accessFlags := 2, slot := 1, constantValue := 0 }, { name := "moduleName", type := (.object "java/lang/String"), accessFlags := 2, slot := 2, constantValue := 0 }, { name := "moduleVersion", type := (.object "java/lang/String"), accessFlags := 2, slot := 3, constantValue := 0 }, { name := "declaringClass", type := (.object "java/lang/String"), accessFlags := 2, slot := 4, constantValue := 0 }, { name := "methodName", type := (.object "java/lang/String"), accessFlags := 2, slot := 5, constantValue := 0 }, { name := "fileName", type := (.object "java/lang/String"), accessFlags := 2, slot := 6, constantValue := 0 }, { name := "lineNumber", type := .int, accessFlags := 2, slot := 7, constantValue := 0 }, { name := "format", type := .byte, accessFlags := 2, slot := 8, constantValue := 0 }, { name := "BUILTIN_CLASS_LOADER", type := .byte, accessFlags := 26, slot := 2, constantValue := 0 }, { name := "JDK_NON_UPGRADEABLE_MODULE", type := .byte, accessFlags := 26, slot := 3, constantValue := 0 }, { name := "serialVersionUID", type := .long, accessFlags := 26, slot := 4, constantValue := 0 }]
  methods := #[k30m0]
  instanceTypes := #[(.object "java/lang/Class"), (.object "java/lang/String"), (.object "java/lang/String"), (.object "java/lang/String"), (.object "java/lang/String"), (.object "java/lang/String"), (.object "java/lang/String"), .int, .byte]
  staticTypes := #[(.object "java/lang/String"), (.object "java/lang/String"), .byte, .byte, .long]
  resolved := Array.replicate 235 none
  statics := none }

def pool31 : Array CpInfo := pool [(1, u "java/lang/Cloneable"), (0, .class_ 1), (0, u "java/lang/Object"), (0, .class_ 3)] 3

/-- java/lang/Cloneable -/
def k31 : Class := { plain "java/lang/Cloneable" (some 0) with
  accessFlags := 1537
  interfaces := #[]
  cf := some (fileOf pool31 2 #[] #[] 1537 4 #[] #[])
  fields := #[]
  methods := #[]
  instanceTypes := #[]
  staticTypes := #[]
  resolved := Array.replicate 8 none
  statics := none }

/-- the primitive byte -/
def k32 : Class := { plain "byte" none with kind := .primitive 'B', accessFlags := 0x411 }
/-- [B -/
def k33 : Class := { plain "[B" (some 0) with kind := .array 32 .byte, interfaces := #[31, 2], accessFlags := 1041 }

/-- the primitive char -/
def k34 : Class := { plain "char" none with kind := .primitive 'C', accessFlags := 0x411 }
/-- [C -/
def k35 : Class := { plain "[C" (some 0) with kind := .array 34 .char, interfaces := #[31, 2], accessFlags := 1041 }

/-- the primitive int -/
def k36 : Class := { plain "int" none with kind := .primitive 'I', accessFlags := 0x411 }
/-- [I -/
def k37 : Class := { plain "[I" (some 0) with kind := .array 36 .int, interfaces := #[31, 2], accessFlags := 1041 }

/-- [Ljava/lang/Object; -/
def k38 : Class := { plain "[Ljava/lang/Object;" (some 0) with kind := .array 0 (.object "java/lang/Object"), interfaces := #[31, 2], accessFlags := 1041 }

/-- [Ljava/lang/StackTraceElement; -/
def k39 : Class := { plain "[Ljava/lang/StackTraceElement;" (some 0) with kind := .array 30 (.object "java/lang/StackTraceElement"), interfaces := #[31, 2], accessFlags := 1041 }

/-- [Ljava/lang/Throwable; -/
def k40 : Class := { plain "[Ljava/lang/Throwable;" (some 0) with kind := .array 9 (.object "java/lang/Throwable"), interfaces := #[31, 2], accessFlags := 1041 }

def heap : Heap := #[{ cls := 7, slots := #[.long 0, .int 1, .null, .int 0, .null, .int 0, .int 0], vm := .statics 7 },
  { cls := 9, slots := #[.long 0, .ref 4, .ref 5, .null, .null, .null, .null, .ref 6, .int 1], vm := .statics 9 },
  { cls := 20, slots := #[.null, .null, .null], vm := .statics 20 },
  { cls := 21, slots := #[.int 0, .int 0, .int 0, .int 0, .int 0, .int 0, .int 0, .int 0, .null, .null, .ref 5, .null], vm := .statics 21 },
  { cls := 39, slots := #[], vm := .none },
  { cls := 29, slots := #[.int 0], vm := .none },
  { cls := 40, slots := #[], vm := .none }]
def classes : Array Class := #[k0, k1, k2, k3, k4, k5, k6, k7, k8, k9, k10, k11, k12, k13, k14, k15, k16, k17, k18, k19, k20, k21, k22, k23, k24, k25, k26, k27, k28, k29, k30, k31, k32, k33, k34, k35, k36, k37, k38, k39, k40]
def interned : List (Array UInt16 × Addr) := []
def slotsUsed : Nat := 32
def theMethod : MethodId := ⟨1, 1⟩
def args0 : Array Value := #[.int 5, .int 6, .int 7, .int 8]
def aboutOver (below : List Frame) : State where
  vm := { classes := classes, interned := interned.toArray }
  heap := heap
  slotsUsed := slotsUsed
  threads := #[{ frames := .invoking theMethod args0 :: below }]
def below0 : List Frame := [.native { method := ⟨0, 0⟩, args := #[] }]
def about1 : State := aboutOver below0
def p0 : Program := .bare "" "" ""
def e0 : Env := launch0.env 0 0 0
theorem w_frames : about1.frames = Frame.invoking theMethod args0 :: below0 := rfl
set_option maxRecDepth 65536 in
theorem w_args : argsFit about1.vm theMethod args0 = true := by decide +kernel
set_option maxRecDepth 65536 in
theorem w_heap : heapFits about1 = true := by decide +kernel
set_option maxRecDepth 65536 in
theorem w_runnable : about1.curStatus? = some .runnable := by decide +kernel
set_option maxRecDepth 65536 in
theorem w_alone : about1.alone = true := by decide +kernel
set_option maxRecDepth 65536 in
theorem w_named : about1.methodNamed? x = some theMethod := by decide +kernel
set_option maxRecDepth 65536 in
theorem w_hears : about1.hears theMethod below0 = true := by decide +kernel
set_option maxRecDepth 65536 in
theorem w_ripe : about1.ripe theMethod args0 below0 = true := by decide +kernel
theorem w_running : about1.status = .running := rfl
set_option maxRecDepth 65536 in
theorem w_room : about1.hasRoom e0.platform room_1 = true :=
  launch0.hasRoom_least _ room_1 (by decide +kernel) (by decide +kernel) (by decide +kernel) (by decide +kernel) (by decide +kernel) (by decide +kernel)
theorem allAtoms_all (ts : List Jvm.Cond) (a : Array Jvm.Value) (st : Jvm.State) : (allAtoms ts).before a st = ts.all (fun c => c.before a st) := by
  induction ts with
  | nil => rfl
  | cons c t ih =>
    show (Jvm.Cond.and c (allAtoms t)).before a st = _
    rw [Jvm.Cond.before_and, ih, List.all_cons]
def words1 : List Jvm.Cond := Jvm.Cond.code x code maxLocals ret :: tables_1
/-- a 'code' word, met by the world's own term for the bytes: nothing is compared byte by byte -/
theorem code_word {y : MethodName} {bytes : ByteArray} {mx : Nat} {rt : Option FieldType} {a : Array Value} {s : State} {m : MethodId} {meth : Method} {c : Code} (h1 : s.methodNamed? y = some m) (h2 : s.vm.method? m = some meth) (h3 : meth.code = some c) (h4 : c.code = bytes)
    (h5 : (c.maxLocals == mx && c.exceptionTable.isEmpty && decide (c.maxStack ≤ mostOperands) && decide (meth.sig.returnType = rt) && !meth.locks && decide (parseMethodDescriptor y.desc = some meth.sig)) = true) : (Jvm.Cond.code y bytes mx rt).before a s = true := by
  simp only [Bool.and_eq_true, beq_iff_eq, Bool.not_eq_true', decide_eq_true_eq] at h5
  obtain ⟨⟨⟨⟨⟨g1, g2⟩, g3⟩, g4⟩, g5⟩, g6⟩ := h5
  simp [Cond.before, Cond.holds, Cond.value, h1, h2, h3, h4, g1, g2, g3, g4, g5, g6]
def isCode : Jvm.Cond → Bool
  | .code _ _ _ _ => true
  | _ => false
theorem all_split {L : List Jvm.Cond} {P : Jvm.Cond → Bool} (h1 : L.all (fun c => isCode c || P c) = true) (h2 : ∀ c ∈ L.filter isCode, P c = true) : L.all P = true := by
  refine List.all_eq_true.mpr fun c hc => ?_
  have h := List.all_eq_true.mp h1 c hc
  rcases Bool.eq_false_or_eq_true (isCode c) with hi | hi
  · exact h2 c (List.mem_filter.mpr ⟨hc, hi⟩)
  · simpa [hi] using h
set_option maxRecDepth 65536 in
theorem w_c0 : (Jvm.Cond.code x code maxLocals ret).before args0 about1 = true := code_word (m := ⟨1, 1⟩) (meth := k1m1) (c := k1c1) (by decide +kernel) rfl rfl rfl (by decide +kernel)
set_option maxRecDepth 65536 in
theorem w_c1 : (Jvm.Cond.code ({ cls := "java/lang/String", name := "<init>", desc := "([C)V" } : Jvm.MethodName) jdk_42_method_3_code (2 : Nat) (Option.none : Option Jvm.ClassFile.FieldType)).before args0 about1 = true := code_word (m := ⟨7, 1⟩) (meth := k7m1) (c := k7c1) (by decide +kernel) rfl rfl rfl (by decide +kernel)
set_option maxRecDepth 65536 in
theorem w_c2 : (Jvm.Cond.code ({ cls := "java/lang/String", name := "<init>", desc := "([CIILjava/lang/Void;)V" } : Jvm.MethodName) jdk_42_method_149_code (6 : Nat) (Option.none : Option Jvm.ClassFile.FieldType)).before args0 about1 = true := code_word (m := ⟨7, 6⟩) (meth := k7m6) (c := k7c6) (by decide +kernel) rfl rfl rfl (by decide +kernel)
set_option maxRecDepth 65536 in
theorem w_c3 : (Jvm.Cond.code ({ cls := "java/lang/Object", name := "<init>", desc := "()V" } : Jvm.MethodName) object_method_1_code (1 : Nat) (Option.none : Option Jvm.ClassFile.FieldType)).before args0 about1 = true := code_word (m := ⟨0, 0⟩) (meth := k0m0) (c := k0c0) (by decide +kernel) rfl rfl rfl (by decide +kernel)
set_option maxRecDepth 65536 in
theorem w_c4 : (Jvm.Cond.code ({ cls := "java/lang/StringUTF16", name := "compress", desc := "([CII)[B" } : Jvm.MethodName) jdk_52_method_16_code (6 : Nat) (Option.some (Jvm.ClassFile.FieldType.array Jvm.ClassFile.FieldType.byte))).before args0 about1 = true := code_word (m := ⟨8, 2⟩) (meth := k8m2) (c := k8c2) (by decide +kernel) rfl rfl rfl (by decide +kernel)
set_option maxRecDepth 65536 in
theorem w_c5 : (Jvm.Cond.code ({ cls := "java/lang/StringUTF16", name := "compress", desc := "([CI[BII)I" } : Jvm.MethodName) jdk_52_method_21_code (7 : Nat) (Option.some Jvm.ClassFile.FieldType.int)).before args0 about1 = true := code_word (m := ⟨8, 3⟩) (meth := k8m3) (c := k8c3) (by decide +kernel) rfl rfl rfl (by decide +kernel)
set_option maxRecDepth 65536 in
theorem w_c6 : (Jvm.Cond.code ({ cls := "java/lang/StringUTF16", name := "coderFromArrayLen", desc := "([BI)B" } : Jvm.MethodName) jdk_52_method_15_code (2 : Nat) (Option.some Jvm.ClassFile.FieldType.byte)).before args0 about1 = true := code_word (m := ⟨8, 1⟩) (meth := k8m1) (c := k8c1) (by decide +kernel) rfl rfl rfl (by decide +kernel)
set_option maxRecDepth 65536 in
theorem w_c7 : (Jvm.Cond.code ({ cls := "com/example/dutiful_pruner/dutifulpruner/prune/PruningRequestException", name := "logOfAnotherIndex", desc := "(Ljava/lang/String;Ljava/lang/String;)Lcom/example/dutiful_pruner/dutifulpruner/prune/PruningRequestException;" } : Jvm.MethodName) prog_13_method_2_code (2 : Nat) (Option.some (Jvm.ClassFile.FieldType.object "com/example/dutiful_pruner/dutifulpruner/prune/PruningRequestException"))).before args0 about1 = true := code_word (m := ⟨11, 1⟩) (meth := k11m1) (c := k11c1) (by decide +kernel) rfl rfl rfl (by decide +kernel)
set_option maxRecDepth 65536 in
theorem w_c8 : (Jvm.Cond.code ({ cls := "java/lang/StringBuilder", name := "<init>", desc := "()V" } : Jvm.MethodName) jdk_67_method_1_code (1 : Nat) (Option.none : Option Jvm.ClassFile.FieldType)).before args0 about1 = true := code_word (m := ⟨14, 0⟩) (meth := k14m0) (c := k14c0) (by decide +kernel) rfl rfl rfl (by decide +kernel)
set_option maxRecDepth 65536 in
theorem w_c9 : (Jvm.Cond.code ({ cls := "java/lang/AbstractStringBuilder", name := "<init>", desc := "(I)V" } : Jvm.MethodName) jdk_68_method_2_code (2 : Nat) (Option.none : Option Jvm.ClassFile.FieldType)).before args0 about1 = true := code_word (m := ⟨13, 1⟩) (meth := k13m1) (c := k13c1) (by decide +kernel) rfl rfl rfl (by decide +kernel)
set_option maxRecDepth 65536 in
theorem w_c10 : (Jvm.Cond.code ({ cls := "java/lang/StringBuilder", name := "append", desc := "(Ljava/lang/String;)Ljava/lang/StringBuilder;" } : Jvm.MethodName) jdk_67_method_7_code (2 : Nat) (Option.some (Jvm.ClassFile.FieldType.object "java/lang/StringBuilder"))).before args0 about1 = true := code_word (m := ⟨14, 1⟩) (meth := k14m1) (c := k14c1) (by decide +kernel) rfl rfl rfl (by decide +kernel)
set_option maxRecDepth 65536 in
theorem w_c11 : (Jvm.Cond.code ({ cls := "java/lang/AbstractStringBuilder", name := "append", desc := "(Ljava/lang/String;)Ljava/lang/AbstractStringBuilder;" } : Jvm.MethodName) jdk_68_method_22_code (3 : Nat) (Option.some (Jvm.ClassFile.FieldType.object "java/lang/AbstractStringBuilder"))).before args0 about1 = true := code_word (m := ⟨13, 5⟩) (meth := k13m5) (c := k13c5) (by decide +kernel) rfl rfl rfl (by decide +kernel)
set_option maxRecDepth 65536 in
theorem w_c12 : (Jvm.Cond.code ({ cls := "java/lang/String", name := "length", desc := "()I" } : Jvm.MethodName) jdk_42_method_54_code (1 : Nat) (Option.some Jvm.ClassFile.FieldType.int)).before args0 about1 = true := code_word (m := ⟨7, 3⟩) (meth := k7m3) (c := k7c3) (by decide +kernel) rfl rfl rfl (by decide +kernel)
set_option maxRecDepth 65536 in
theorem w_c13 : (Jvm.Cond.code ({ cls := "java/lang/String", name := "coder", desc := "()B" } : Jvm.MethodName) jdk_42_method_152_code (1 : Nat) (Option.some Jvm.ClassFile.FieldType.byte)).before args0 about1 = true := code_word (m := ⟨7, 8⟩) (meth := k7m8) (c := k7c8) (by decide +kernel) rfl rfl rfl (by decide +kernel)
set_option maxRecDepth 65536 in
theorem w_c14 : (Jvm.Cond.code ({ cls := "java/lang/AbstractStringBuilder", name := "ensureCapacityInternal", desc := "(I)V" } : Jvm.MethodName) jdk_68_method_9_code (3 : Nat) (Option.none : Option Jvm.ClassFile.FieldType)).before args0 about1 = true := code_word (m := ⟨13, 3⟩) (meth := k13m3) (c := k13c3) (by decide +kernel) rfl rfl rfl (by decide +kernel)
set_option maxRecDepth 65536 in
theorem w_c15 : (Jvm.Cond.code ({ cls := "java/lang/AbstractStringBuilder", name := "newCapacity", desc := "(I)I" } : Jvm.MethodName) jdk_68_method_10_code (6 : Nat) (Option.some Jvm.ClassFile.FieldType.int)).before args0 about1 = true := code_word (m := ⟨13, 4⟩) (meth := k13m4) (c := k13c4) (by decide +kernel) rfl rfl rfl (by decide +kernel)
set_option maxRecDepth 65536 in
theorem w_c16 : (Jvm.Cond.code ({ cls := "jdk/internal/util/ArraysSupport", name := "newLength", desc := "(III)I" } : Jvm.MethodName) jdk_48_method_27_code (4 : Nat) (Option.some Jvm.ClassFile.FieldType.int)).before args0 about1 = true := code_word (m := ⟨15, 1⟩) (meth := k15m1) (c := k15c1) (by decide +kernel) rfl rfl rfl (by decide +kernel)
set_option maxRecDepth 65536 in
theorem w_c17 : (Jvm.Cond.code ({ cls := "java/lang/Math", name := "max", desc := "(II)I" } : Jvm.MethodName) jdk_29_method_65_code (2 : Nat) (Option.some Jvm.ClassFile.FieldType.int)).before args0 about1 = true := code_word (m := ⟨16, 1⟩) (meth := k16m1) (c := k16c1) (by decide +kernel) rfl rfl rfl (by decide +kernel)
set_option maxRecDepth 65536 in
theorem w_c18 : (Jvm.Cond.code ({ cls := "java/util/Arrays", name := "copyOf", desc := "([BI)[B" } : Jvm.MethodName) jdk_65_method_121_code (3 : Nat) (Option.some (Jvm.ClassFile.FieldType.array Jvm.ClassFile.FieldType.byte))).before args0 about1 = true := code_word (m := ⟨17, 1⟩) (meth := k17m1) (c := k17c1) (by decide +kernel) rfl rfl rfl (by decide +kernel)
set_option maxRecDepth 65536 in
theorem w_c19 : (Jvm.Cond.code ({ cls := "java/lang/Math", name := "min", desc := "(II)I" } : Jvm.MethodName) jdk_29_method_69_code (2 : Nat) (Option.some Jvm.ClassFile.FieldType.int)).before args0 about1 = true := code_word (m := ⟨16, 2⟩) (meth := k16m2) (c := k16c2) (by decide +kernel) rfl rfl rfl (by decide +kernel)
set_option maxRecDepth 65536 in
theorem w_c20 : (Jvm.Cond.code ({ cls := "java/lang/AbstractStringBuilder", name := "putStringAt", desc := "(ILjava/lang/String;)V" } : Jvm.MethodName) jdk_68_method_73_code (3 : Nat) (Option.none : Option Jvm.ClassFile.FieldType)).before args0 about1 = true := code_word (m := ⟨13, 9⟩) (meth := k13m9) (c := k13c9) (by decide +kernel) rfl rfl rfl (by decide +kernel)
set_option maxRecDepth 65536 in
theorem w_c21 : (Jvm.Cond.code ({ cls := "java/lang/AbstractStringBuilder", name := "inflateIfNeededFor", desc := "(Ljava/lang/String;)V" } : Jvm.MethodName) jdk_68_method_71_code (2 : Nat) (Option.none : Option Jvm.ClassFile.FieldType)).before args0 about1 = true := code_word (m := ⟨13, 8⟩) (meth := k13m8) (c := k13c8) (by decide +kernel) rfl rfl rfl (by decide +kernel)
set_option maxRecDepth 65536 in
theorem w_c22 : (Jvm.Cond.code ({ cls := "java/lang/String", name := "getBytes", desc := "([BIB)V" } : Jvm.MethodName) jdk_42_method_147_code (4 : Nat) (Option.none : Option Jvm.ClassFile.FieldType)).before args0 about1 = true := code_word (m := ⟨7, 5⟩) (meth := k7m5) (c := k7c5) (by decide +kernel) rfl rfl rfl (by decide +kernel)
set_option maxRecDepth 65536 in
theorem w_c23 : (Jvm.Cond.code ({ cls := "java/lang/StringBuilder", name := "toString", desc := "()Ljava/lang/String;" } : Jvm.MethodName) jdk_67_method_42_code (1 : Nat) (Option.some (Jvm.ClassFile.FieldType.object "java/lang/String"))).before args0 about1 = true := code_word (m := ⟨14, 2⟩) (meth := k14m2) (c := k14c2) (by decide +kernel) rfl rfl rfl (by decide +kernel)
set_option maxRecDepth 65536 in
theorem w_c24 : (Jvm.Cond.code ({ cls := "java/lang/String", name := "<init>", desc := "(Ljava/lang/StringBuilder;)V" } : Jvm.MethodName) jdk_42_method_53_code (2 : Nat) (Option.none : Option Jvm.ClassFile.FieldType)).before args0 about1 = true := code_word (m := ⟨7, 2⟩) (meth := k7m2) (c := k7c2) (by decide +kernel) rfl rfl rfl (by decide +kernel)
set_option maxRecDepth 65536 in
theorem w_c25 : (Jvm.Cond.code ({ cls := "java/lang/String", name := "<init>", desc := "(Ljava/lang/AbstractStringBuilder;Ljava/lang/Void;)V" } : Jvm.MethodName) jdk_42_method_150_code (5 : Nat) (Option.none : Option Jvm.ClassFile.FieldType)).before args0 about1 = true := code_word (m := ⟨7, 7⟩) (meth := k7m7) (c := k7c7) (by decide +kernel) rfl rfl rfl (by decide +kernel)
set_option maxRecDepth 65536 in
theorem w_c26 : (Jvm.Cond.code ({ cls := "java/lang/AbstractStringBuilder", name := "getValue", desc := "()[B" } : Jvm.MethodName) jdk_68_method_64_code (1 : Nat) (Option.some (Jvm.ClassFile.FieldType.array Jvm.ClassFile.FieldType.byte))).before args0 about1 = true := code_word (m := ⟨13, 6⟩) (meth := k13m6) (c := k13c6) (by decide +kernel) rfl rfl rfl (by decide +kernel)
set_option maxRecDepth 65536 in
theorem w_c27 : (Jvm.Cond.code ({ cls := "java/lang/StringBuilder", name := "length", desc := "()I" } : Jvm.MethodName) jdk_67_method_93_code (1 : Nat) (Option.some Jvm.ClassFile.FieldType.int)).before args0 about1 = true := code_word (m := ⟨14, 3⟩) (meth := k14m3) (c := k14c3) (by decide +kernel) rfl rfl rfl (by decide +kernel)
set_option maxRecDepth 65536 in
theorem w_c28 : (Jvm.Cond.code ({ cls := "java/lang/AbstractStringBuilder", name := "length", desc := "()I" } : Jvm.MethodName) jdk_68_method_6_code (1 : Nat) (Option.some Jvm.ClassFile.FieldType.int)).before args0 about1 = true := code_word (m := ⟨13, 2⟩) (meth := k13m2) (c := k13c2) (by decide +kernel) rfl rfl rfl (by decide +kernel)
set_option maxRecDepth 65536 in
theorem w_c29 : (Jvm.Cond.code ({ cls := "java/lang/AbstractStringBuilder", name := "isLatin1", desc := "()Z" } : Jvm.MethodName) jdk_68_method_68_code (1 : Nat) (Option.some Jvm.ClassFile.FieldType.boolean)).before args0 about1 = true := code_word (m := ⟨13, 7⟩) (meth := k13m7) (c := k13c7) (by decide +kernel) rfl rfl rfl (by decide +kernel)
set_option maxRecDepth 65536 in
theorem w_c30 : (Jvm.Cond.code ({ cls := "java/util/Arrays", name := "copyOfRange", desc := "([BII)[B" } : Jvm.MethodName) jdk_65_method_132_code (3 : Nat) (Option.some (Jvm.ClassFile.FieldType.array Jvm.ClassFile.FieldType.byte))).before args0 about1 = true := code_word (m := ⟨17, 3⟩) (meth := k17m3) (c := k17c3) (by decide +kernel) rfl rfl rfl (by decide +kernel)
set_option maxRecDepth 65536 in
theorem w_c31 : (Jvm.Cond.code ({ cls := "java/util/Arrays", name := "copyOfRangeByte", desc := "([BII)[B" } : Jvm.MethodName) jdk_65_method_133_code (5 : Nat) (Option.some (Jvm.ClassFile.FieldType.array Jvm.ClassFile.FieldType.byte))).before args0 about1 = true := code_word (m := ⟨17, 4⟩) (meth := k17m4) (c := k17c4) (by decide +kernel) rfl rfl rfl (by decide +kernel)
set_option maxRecDepth 65536 in
theorem w_c32 : (Jvm.Cond.code ({ cls := "java/util/Arrays", name := "checkLength", desc := "(II)V" } : Jvm.MethodName) jdk_65_method_131_code (2 : Nat) (Option.none : Option Jvm.ClassFile.FieldType)).before args0 about1 = true := code_word (m := ⟨17, 2⟩) (meth := k17m2) (c := k17c2) (by decide +kernel) rfl rfl rfl (by decide +kernel)
set_option maxRecDepth 65536 in
theorem w_c33 : (Jvm.Cond.code ({ cls := "com/example/dutiful_pruner/dutifulpruner/prune/PruningRequestException", name := "<init>", desc := "(Ljava/lang/String;)V" } : Jvm.MethodName) prog_13_method_1_code (2 : Nat) (Option.none : Option Jvm.ClassFile.FieldType)).before args0 about1 = true := code_word (m := ⟨11, 0⟩) (meth := k11m0) (c := k11c0) (by decide +kernel) rfl rfl rfl (by decide +kernel)
set_option maxRecDepth 65536 in
theorem w_c34 : (Jvm.Cond.code ({ cls := "java/lang/Exception", name := "<init>", desc := "(Ljava/lang/String;)V" } : Jvm.MethodName) jdk_59_method_2_code (2 : Nat) (Option.none : Option Jvm.ClassFile.FieldType)).before args0 about1 = true := code_word (m := ⟨10, 1⟩) (meth := k10m1) (c := k10c1) (by decide +kernel) rfl rfl rfl (by decide +kernel)
set_option maxRecDepth 65536 in
theorem w_c35 : (Jvm.Cond.code ({ cls := "java/lang/Throwable", name := "<init>", desc := "(Ljava/lang/String;)V" } : Jvm.MethodName) jdk_78_method_2_code (2 : Nat) (Option.none : Option Jvm.ClassFile.FieldType)).before args0 about1 = true := code_word (m := ⟨9, 1⟩) (meth := k9m1) (c := k9c1) (by decide +kernel) rfl rfl rfl (by decide +kernel)
set_option maxRecDepth 65536 in
theorem w_c36 : (Jvm.Cond.code ({ cls := "java/lang/Throwable", name := "<init>", desc := "()V" } : Jvm.MethodName) jdk_78_method_1_code (1 : Nat) (Option.none : Option Jvm.ClassFile.FieldType)).before args0 about1 = true := code_word (m := ⟨9, 0⟩) (meth := k9m0) (c := k9c0) (by decide +kernel) rfl rfl rfl (by decide +kernel)
set_option maxRecDepth 65536 in
theorem w_c37 : (Jvm.Cond.code ({ cls := "java/lang/Throwable", name := "getMessage", desc := "()Ljava/lang/String;" } : Jvm.MethodName) jdk_78_method_6_code (1 : Nat) (Option.some (Jvm.ClassFile.FieldType.object "java/lang/String"))).before args0 about1 = true := code_word (m := ⟨9, 2⟩) (meth := k9m2) (c := k9c2) (by decide +kernel) rfl rfl rfl (by decide +kernel)
set_option maxRecDepth 65536 in
theorem w_c38 : (Jvm.Cond.code ({ cls := "java/lang/String", name := "equals", desc := "(Ljava/lang/Object;)Z" } : Jvm.MethodName) jdk_42_method_66_code (3 : Nat) (Option.some Jvm.ClassFile.FieldType.boolean)).before args0 about1 = true := code_word (m := ⟨7, 4⟩) (meth := k7m4) (c := k7c4) (by decide +kernel) rfl rfl rfl (by decide +kernel)
set_option maxRecDepth 65536 in
theorem w_c39 : (Jvm.Cond.code ({ cls := "java/lang/StringLatin1", name := "equals", desc := "([B[B)Z" } : Jvm.MethodName) jdk_43_method_13_code (3 : Nat) (Option.some Jvm.ClassFile.FieldType.boolean)).before args0 about1 = true := code_word (m := ⟨19, 1⟩) (meth := k19m1) (c := k19c1) (by decide +kernel) rfl rfl rfl (by decide +kernel)
def codes1 : List Jvm.Cond := [Jvm.Cond.code x code maxLocals ret, Jvm.Cond.code ({ cls := "java/lang/String", name := "<init>", desc := "([C)V" } : Jvm.MethodName) jdk_42_method_3_code (2 : Nat) (Option.none : Option Jvm.ClassFile.FieldType), Jvm.Cond.code ({ cls := "java/lang/String", name := "<init>", desc := "([CIILjava/lang/Void;)V" } : Jvm.MethodName) jdk_42_method_149_code (6 : Nat) (Option.none : Option Jvm.ClassFile.FieldType), Jvm.Cond.code ({ cls := "java/lang/Object", name := "<init>", desc := "()V" } : Jvm.MethodName) object_method_1_code (1 : Nat) (Option.none : Option Jvm.ClassFile.FieldType), Jvm.Cond.code ({ cls := "java/lang/StringUTF16", name := "compress", desc := "([CII)[B" } : Jvm.MethodName) jdk_52_method_16_code (6 : Nat) (Option.some (Jvm.ClassFile.FieldType.array Jvm.ClassFile.FieldType.byte)), Jvm.Cond.code ({ cls := "java/lang/StringUTF16", name := "compress", desc := "([CI[BII)I" } : Jvm.MethodName) jdk_52_method_21_code (7 : Nat) (Option.some Jvm.ClassFile.FieldType.int), Jvm.Cond.code ({ cls := "java/lang/StringUTF16", name := "coderFromArrayLen", desc := "([BI)B" } : Jvm.MethodName) jdk_52_method_15_code (2 : Nat) (Option.some Jvm.ClassFile.FieldType.byte), Jvm.Cond.code ({ cls := "com/example/dutiful_pruner/dutifulpruner/prune/PruningRequestException", name := "logOfAnotherIndex", desc := "(Ljava/lang/String;Ljava/lang/String;)Lcom/example/dutiful_pruner/dutifulpruner/prune/PruningRequestException;" } : Jvm.MethodName) prog_13_method_2_code (2 : Nat) (Option.some (Jvm.ClassFile.FieldType.object "com/example/dutiful_pruner/dutifulpruner/prune/PruningRequestException")), Jvm.Cond.code ({ cls := "java/lang/StringBuilder", name := "<init>", desc := "()V" } : Jvm.MethodName) jdk_67_method_1_code (1 : Nat) (Option.none : Option Jvm.ClassFile.FieldType), Jvm.Cond.code ({ cls := "java/lang/AbstractStringBuilder", name := "<init>", desc := "(I)V" } : Jvm.MethodName) jdk_68_method_2_code (2 : Nat) (Option.none : Option Jvm.ClassFile.FieldType), Jvm.Cond.code ({ cls := "java/lang/StringBuilder", name := "append", desc := "(Ljava/lang/String;)Ljava/lang/StringBuilder;" } : Jvm.MethodName) jdk_67_method_7_code (2 : Nat) (Option.some (Jvm.ClassFile.FieldType.object "java/lang/StringBuilder")), Jvm.Cond.code ({ cls := "java/lang/AbstractStringBuilder", name := "append", desc := "(Ljava/lang/String;)Ljava/lang/AbstractStringBuilder;" } : Jvm.MethodName) jdk_68_method_22_code (3 : Nat) (Option.some (Jvm.ClassFile.FieldType.object "java/lang/AbstractStringBuilder")), Jvm.Cond.code ({ cls := "java/lang/String", name := "length", desc := "()I" } : Jvm.MethodName) jdk_42_method_54_code (1 : Nat) (Option.some Jvm.ClassFile.FieldType.int), Jvm.Cond.code ({ cls := "java/lang/String", name := "coder", desc := "()B" } : Jvm.MethodName) jdk_42_method_152_code (1 : Nat) (Option.some Jvm.ClassFile.FieldType.byte), Jvm.Cond.code ({ cls := "java/lang/AbstractStringBuilder", name := "ensureCapacityInternal", desc := "(I)V" } : Jvm.MethodName) jdk_68_method_9_code (3 : Nat) (Option.none : Option Jvm.ClassFile.FieldType), Jvm.Cond.code ({ cls := "java/lang/AbstractStringBuilder", name := "newCapacity", desc := "(I)I" } : Jvm.MethodName) jdk_68_method_10_code (6 : Nat) (Option.some Jvm.ClassFile.FieldType.int), Jvm.Cond.code ({ cls := "jdk/internal/util/ArraysSupport", name := "newLength", desc := "(III)I" } : Jvm.MethodName) jdk_48_method_27_code (4 : Nat) (Option.some Jvm.ClassFile.FieldType.int), Jvm.Cond.code ({ cls := "java/lang/Math", name := "max", desc := "(II)I" } : Jvm.MethodName) jdk_29_method_65_code (2 : Nat) (Option.some Jvm.ClassFile.FieldType.int), Jvm.Cond.code ({ cls := "java/util/Arrays", name := "copyOf", desc := "([BI)[B" } : Jvm.MethodName) jdk_65_method_121_code (3 : Nat) (Option.some (Jvm.ClassFile.FieldType.array Jvm.ClassFile.FieldType.byte)), Jvm.Cond.code ({ cls := "java/lang/Math", name := "min", desc := "(II)I" } : Jvm.MethodName) jdk_29_method_69_code (2 : Nat) (Option.some Jvm.ClassFile.FieldType.int), Jvm.Cond.code ({ cls := "java/lang/AbstractStringBuilder", name := "putStringAt", desc := "(ILjava/lang/String;)V" } : Jvm.MethodName) jdk_68_method_73_code (3 : Nat) (Option.none : Option Jvm.ClassFile.FieldType), Jvm.Cond.code ({ cls := "java/lang/AbstractStringBuilder", name := "inflateIfNeededFor", desc := "(Ljava/lang/String;)V" } : Jvm.MethodName) jdk_68_method_71_code (2 : Nat) (Option.none : Option Jvm.ClassFile.FieldType), Jvm.Cond.code ({ cls := "java/lang/String", name := "getBytes", desc := "([BIB)V" } : Jvm.MethodName) jdk_42_method_147_code (4 : Nat) (Option.none : Option Jvm.ClassFile.FieldType), Jvm.Cond.code ({ cls := "java/lang/StringBuilder", name := "toString", desc := "()Ljava/lang/String;" } : Jvm.MethodName) jdk_67_method_42_code (1 : Nat) (Option.some (Jvm.ClassFile.FieldType.object "java/lang/String")), Jvm.Cond.code ({ cls := "java/lang/String", name := "<init>", desc := "(Ljava/lang/StringBuilder;)V" } : Jvm.MethodName) jdk_42_method_53_code (2 : Nat) (Option.none : Option Jvm.ClassFile.FieldType), Jvm.Cond.code ({ cls := "java/lang/String", name := "<init>", desc := "(Ljava/lang/AbstractStringBuilder;Ljava/lang/Void;)V" } : Jvm.MethodName) jdk_42_method_150_code (5 : Nat) (Option.none : Option Jvm.ClassFile.FieldType), Jvm.Cond.code ({ cls := "java/lang/AbstractStringBuilder", name := "getValue", desc := "()[B" } : Jvm.MethodName) jdk_68_method_64_code (1 : Nat) (Option.some (Jvm.ClassFile.FieldType.array Jvm.ClassFile.FieldType.byte)), Jvm.Cond.code ({ cls := "java/lang/StringBuilder", name := "length", desc := "()I" } : Jvm.MethodName) jdk_67_method_93_code (1 : Nat) (Option.some Jvm.ClassFile.FieldType.int), Jvm.Cond.code ({ cls := "java/lang/AbstractStringBuilder", name := "length", desc := "()I" } : Jvm.MethodName) jdk_68_method_6_code (1 : Nat) (Option.some Jvm.ClassFile.FieldType.int), Jvm.Cond.code ({ cls := "java/lang/AbstractStringBuilder", name := "isLatin1", desc := "()Z" } : Jvm.MethodName) jdk_68_method_68_code (1 : Nat) (Option.some Jvm.ClassFile.FieldType.boolean), Jvm.Cond.code ({ cls := "java/util/Arrays", name := "copyOfRange", desc := "([BII)[B" } : Jvm.MethodName) jdk_65_method_132_code (3 : Nat) (Option.some (Jvm.ClassFile.FieldType.array Jvm.ClassFile.FieldType.byte)), Jvm.Cond.code ({ cls := "java/util/Arrays", name := "copyOfRangeByte", desc := "([BII)[B" } : Jvm.MethodName) jdk_65_method_133_code (5 : Nat) (Option.some (Jvm.ClassFile.FieldType.array Jvm.ClassFile.FieldType.byte)), Jvm.Cond.code ({ cls := "java/util/Arrays", name := "checkLength", desc := "(II)V" } : Jvm.MethodName) jdk_65_method_131_code (2 : Nat) (Option.none : Option Jvm.ClassFile.FieldType), Jvm.Cond.code ({ cls := "com/example/dutiful_pruner/dutifulpruner/prune/PruningRequestException", name := "<init>", desc := "(Ljava/lang/String;)V" } : Jvm.MethodName) prog_13_method_1_code (2 : Nat) (Option.none : Option Jvm.ClassFile.FieldType), Jvm.Cond.code ({ cls := "java/lang/Exception", name := "<init>", desc := "(Ljava/lang/String;)V" } : Jvm.MethodName) jdk_59_method_2_code (2 : Nat) (Option.none : Option Jvm.ClassFile.FieldType), Jvm.Cond.code ({ cls := "java/lang/Throwable", name := "<init>", desc := "(Ljava/lang/String;)V" } : Jvm.MethodName) jdk_78_method_2_code (2 : Nat) (Option.none : Option Jvm.ClassFile.FieldType), Jvm.Cond.code ({ cls := "java/lang/Throwable", name := "<init>", desc := "()V" } : Jvm.MethodName) jdk_78_method_1_code (1 : Nat) (Option.none : Option Jvm.ClassFile.FieldType), Jvm.Cond.code ({ cls := "java/lang/Throwable", name := "getMessage", desc := "()Ljava/lang/String;" } : Jvm.MethodName) jdk_78_method_6_code (1 : Nat) (Option.some (Jvm.ClassFile.FieldType.object "java/lang/String")), Jvm.Cond.code ({ cls := "java/lang/String", name := "equals", desc := "(Ljava/lang/Object;)Z" } : Jvm.MethodName) jdk_42_method_66_code (3 : Nat) (Option.some Jvm.ClassFile.FieldType.boolean), Jvm.Cond.code ({ cls := "java/lang/StringLatin1", name := "equals", desc := "([B[B)Z" } : Jvm.MethodName) jdk_43_method_13_code (3 : Nat) (Option.some Jvm.ClassFile.FieldType.boolean)]
set_option maxRecDepth 65536 in
theorem codes_eq : words1.filter isCode = codes1 := rfl
theorem w_codes : ∀ c ∈ words1.filter isCode, c.before args0 about1 = true := by
  rw [codes_eq]
  intro c hc
  simp only [codes1, List.mem_cons, List.not_mem_nil, or_false] at hc
  rcases hc with rfl | rfl | rfl | rfl | rfl | rfl | rfl | rfl | rfl | rfl | rfl | rfl | rfl | rfl | rfl | rfl | rfl | rfl | rfl | rfl | rfl | rfl | rfl | rfl | rfl | rfl | rfl | rfl | rfl | rfl | rfl | rfl | rfl | rfl | rfl | rfl | rfl | rfl | rfl | rfl
  · exact w_c0
  · exact w_c1
  · exact w_c2
  · exact w_c3
  · exact w_c4
  · exact w_c5
  · exact w_c6
  · exact w_c7
  · exact w_c8
  · exact w_c9
  · exact w_c10
  · exact w_c11
  · exact w_c12
  · exact w_c13
  · exact w_c14
  · exact w_c15
  · exact w_c16
  · exact w_c17
  · exact w_c18
  · exact w_c19
  · exact w_c20
  · exact w_c21
  · exact w_c22
  · exact w_c23
  · exact w_c24
  · exact w_c25
  · exact w_c26
  · exact w_c27
  · exact w_c28
  · exact w_c29
  · exact w_c30
  · exact w_c31
  · exact w_c32
  · exact w_c33
  · exact w_c34
  · exact w_c35
  · exact w_c36
  · exact w_c37
  · exact w_c38
  · exact w_c39
set_option maxRecDepth 65536 in
theorem w_t1 : (words1.take 24).all (fun c => isCode c || c.before args0 about1) = true := by decide +kernel
set_option maxRecDepth 65536 in
theorem w_t2 : ((words1.drop 24).take 24).all (fun c => isCode c || c.before args0 about1) = true := by decide +kernel
set_option maxRecDepth 65536 in
theorem w_t3 : (((words1.drop 24).drop 24).take 24).all (fun c => isCode c || c.before args0 about1) = true := by decide +kernel
set_option maxRecDepth 65536 in
theorem w_t4 : ((((words1.drop 24).drop 24).drop 24).take 24).all (fun c => isCode c || c.before args0 about1) = true := by decide +kernel
set_option maxRecDepth 65536 in
theorem w_t5 : (((((words1.drop 24).drop 24).drop 24).drop 24).take 24).all (fun c => isCode c || c.before args0 about1) = true := by decide +kernel
set_option maxRecDepth 65536 in
theorem w_t6 : ((((((words1.drop 24).drop 24).drop 24).drop 24).drop 24).take 24).all (fun c => isCode c || c.before args0 about1) = true := by decide +kernel
set_option maxRecDepth 65536 in
theorem w_t7 : (((((((words1.drop 24).drop 24).drop 24).drop 24).drop 24).drop 24).take 24).all (fun c => isCode c || c.before args0 about1) = true := by decide +kernel
set_option maxRecDepth 65536 in
theorem w_t8 : ((((((((words1.drop 24).drop 24).drop 24).drop 24).drop 24).drop 24).drop 24).take 24).all (fun c => isCode c || c.before args0 about1) = true := by decide +kernel
set_option maxRecDepth 65536 in
theorem w_t9 : (((((((((words1.drop 24).drop 24).drop 24).drop 24).drop 24).drop 24).drop 24).drop 24).take 24).all (fun c => isCode c || c.before args0 about1) = true := by decide +kernel
set_option maxRecDepth 65536 in
theorem w_t10 : (((((((((words1.drop 24).drop 24).drop 24).drop 24).drop 24).drop 24).drop 24).drop 24).drop 24).all (fun c => isCode c || c.before args0 about1) = true := by decide +kernel
theorem w_tables : (allAtoms (Jvm.Cond.code x code maxLocals ret :: tables_1)).before args0 about1 = true := by
  rw [allAtoms_all]
  show words1.all (fun c => c.before args0 about1) = true
  refine all_split ?_ w_codes
  rw [← List.take_append_drop 24 words1, List.all_append, w_t1, ← List.take_append_drop 24 (words1.drop 24), List.all_append, w_t2, ← List.take_append_drop 24 ((words1.drop 24).drop 24), List.all_append, w_t3, ← List.take_append_drop 24 (((words1.drop 24).drop 24).drop 24), List.all_append, w_t4, ← List.take_append_drop 24 ((((words1.drop 24).drop 24).drop 24).drop 24), List.all_append, w_t5, ← List.take_append_drop 24 (((((words1.drop 24).drop 24).drop 24).drop 24).drop 24), List.all_append, w_t6, ← List.take_append_drop 24 ((((((words1.drop 24).drop 24).drop 24).drop 24).drop 24).drop 24), List.all_append, w_t7, ← List.take_append_drop 24 (((((((words1.drop 24).drop 24).drop 24).drop 24).drop 24).drop 24).drop 24), List.all_append, w_t8, ← List.take_append_drop 24 ((((((((words1.drop 24).drop 24).drop 24).drop 24).drop 24).drop 24).drop 24).drop 24), List.all_append, w_t9, w_t10]
  rfl
set_option maxRecDepth 65536 in
theorem w_rest : rest_1_c.before args0 about1 = true := by decide +kernel
set_option maxRecDepth 65536 in
theorem w_case : (Jvm.Cond.and given_1 narrow_1).before args0 about1 = true := by decide +kernel
set_option maxRecDepth 65536 in
theorem w_consts : constsHeld consts_1 about1 := Jvm.Lit.constsHeldB_iff.mp (by decide +kernel)
theorem w_applies : (headSpec (Jvm.Cond.code x code maxLocals ret :: tables_1) room_1).applies x e0.platform about1 = true :=
  (Spec.applies_iff w_frames).mpr ⟨w_running, w_runnable, w_alone, w_named, w_hears, w_ripe, w_room, w_tables⟩
theorem atStart : AtStart classFile x code maxLocals ret World_1 tables_1 room_1 Calls_1 rest_1 Pre_1 launch0 p0 e0 about1 theMethod args0 below0 :=
  ⟨lists_1, trivial, launch0.admits_env _ _ _, launch0.least_env, fairChoices_fair.cas, fairChoices_fair.clock, w_frames, w_args, w_heap, w_applies, ⟨(by decide +kernel : framesKnown about1 = true), ⟨(by decide +kernel : tablesKnown about1 = true), ⟨w_consts, trivial⟩⟩⟩, w_rest, w_case⟩
end start1
theorem witness_1 : WitnessClaimed_1 := ⟨start1.p0, start1.e0, start1.about1, start1.theMethod, start1.args0, start1.below0, start1.atStart⟩
end Jvm.Pilot.@@N@@
