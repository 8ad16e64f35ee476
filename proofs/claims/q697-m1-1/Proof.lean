import JvmDerived
import JvmDerived.Pilot.@@N@@Statement
import JvmDerived.Pilot.@@N@@Code
set_option linter.unusedVariables false
set_option linter.unusedSimpArgs false

namespace Jvm.Pilot.@@N@@
namespace Own
open Jvm Jvm.ClassFile Sem Op Lib Bundle Jvm.Free Jvm.Stand Jvm.LawKit Jvm.RoadKit
section Own
variable {l : Launch} {Z : State} {EL : List (String × Nat)} {y : MethodName} {bytes : ByteArray} {maxL : Nat} {ret : Option FieldType} {R : Room} {B0 : Addr → Prop} {Q : Option Value → Heap → (Addr → Prop) → Prop} {p : Program} {e : Env} {s : State} {m : MethodId} {args : Array Value} {below : List Frame} {meth : Method} {c : Code} {B : Addr → Prop} {T : State} {h h' : Heap} {k n : Nat} {a0 : Array Value} {pc pc' : Nat} {ls ls' : Array Slot} {st : List Value} {a b : Addr} {ws : List Addr} {ty : FieldType} {vs : List Value}
/-! facts on arrays and Strings -/
def Ar (Z : State) (h : Heap) (a : Addr) (ty : FieldType) (vs : List Value) : Prop := ∃ c : Cell, Arr Z h a c ty ∧ c.slots.toList = vs ∧ vs.length < 2 ^ 31 ∧ ∀ v ∈ vs, fits ty v = true
theorem Ar.keep (F : Ar Z h a ty vs) (K : Keep h h' ws) (q : a ∉ ws) : Ar Z h' a ty vs := by
  obtain ⟨c, A, r⟩ := F; exact ⟨c, ⟨K.2.1 a c A.1 q, A.2⟩, r⟩
theorem Ar.lt (F : Ar Z h a ty vs) : a < h.size := by obtain ⟨c, A, -⟩ := F; exact A.lt
theorem Ar.new {kc : ClassId} {z : Int32} (A : Arr Z h a (newA kc ty z) ty) (q : ¬ z < 0) : Ar Z h a ty (List.replicate z.toNatClampNeg (defaultValue ty)) :=
  ⟨_, A, by simp [newA], by simpa using (back32 q).2, fun v hv => by rw [List.eq_of_mem_replicate hv]; cases ty <;> rfl⟩
theorem len32 {n : Nat} (h : n < 2 ^ 31) : ¬ n.toInt32 < 0 ∧ n.toInt32.toNatClampNeg = n ∧ n.toInt32.toInt = n := by
  have e3 : n.toInt32.toInt = n := len_toInt h
  have e0 : (0 : Int32).toInt = 0 := rfl
  refine ⟨by rw [Int32.lt_iff_toInt_lt, e3, e0]; omega, by simp only [Int32.toNatClampNeg, e3]; omega, e3⟩
theorem Ar.toArv {z : Int32} (F : Ar Z h a ty vs) (hz : vs.length.toInt32 = z) (d : Value) : ∃ k, Arv Z h a k ty z vs d := by
  obtain ⟨c, A, e, hl, hf⟩ := F
  subst hz
  obtain ⟨q1, q2, -⟩ := len32 hl
  have e2 : c.slots.size = vs.length := by rw [← e]; simp
  refine ⟨c.cls, c, A, rfl, by rw [e2, q2], q1, fun i hi => ?_, fun i hi => ?_⟩
  · have hi' : i < vs.length := by omega
    rw [← Array.getElem?_toList, e, List.getD_eq_getElem?_getD, List.getElem?_eq_getElem hi']; rfl
  · have hi' : i < vs.length := by omega
    rw [List.getD_eq_getElem?_getD, List.getElem?_eq_getElem hi']; exact hf _ (List.getElem_mem _)
theorem Ar.ofArv {kc : ClassId} {z : Int32} {d : Value} (F : Arv Z h a kc ty z vs d) (hl : z.toNatClampNeg = vs.length) : Ar Z h a ty vs := by
  obtain ⟨c, A, -, S, q, H, G⟩ := F
  have e2 : c.slots.size = vs.length := by rw [S, hl]
  have e3 : c.slots.toList = vs := by
    apply List.ext_getElem?
    intro i
    by_cases hi : i < vs.length
    · rw [Array.getElem?_toList, H i (by omega), List.getD_eq_getElem?_getD, List.getElem?_eq_getElem hi]; rfl
    · rw [List.getElem?_eq_none (by rw [Array.length_toList]; omega), List.getElem?_eq_none (by omega)]
  refine ⟨c, A, e3, by rw [← hl]; exact (back32 q).2, fun v hv => ?_⟩
  obtain ⟨i, hi, rfl⟩ := List.getElem_of_mem hv
  have := G i (by omega)
  rwa [List.getD_eq_getElem?_getD, List.getElem?_eq_getElem hi] at this
theorem Ar.len_lt (F : Ar Z h a ty vs) : vs.length < 2 ^ 31 := by obtain ⟨c, A, e, hl, hf⟩ := F; exact hl
theorem Ar.fit (F : Ar Z h a ty vs) : ∀ v ∈ vs, fits ty v = true := by obtain ⟨c, A, e, hl, hf⟩ := F; exact hf
abbrev ST : String := "java/lang/String"
/-- bytes of Latin-1 chars -/
abbrev by8 (cs : List Int32) : List Value := cs.map fun c => Value.int c.toInt8.toInt32
def Lat (cs : List Int32) : Prop := ∀ c ∈ cs, 0 ≤ c.toInt ∧ c.toInt ≤ 255
/-- a is a String of the Latin-1 chars cs, its bytes in b -/
def Str (Z : State) (h : Heap) (a b : Addr) (cs : List Int32) : Prop := Exa Z h a ST ∧ Fld Z h a ST "coder" "B" (.int 0) ∧ Fld Z h a ST "value" "[B" (.ref b) ∧ Ar Z h b .byte (by8 cs) ∧ Lat cs
theorem Str.keep {cs : List Int32} (F : Str Z h a b cs) (K : Keep h h' ws) (q : a ∉ ws) (q' : b ∉ ws) : Str Z h' a b cs := ⟨F.1.keep K, F.2.1.keep K q, F.2.2.1.keep K q, F.2.2.2.1.keep K q', F.2.2.2.2⟩
theorem Str.exa {cs : List Int32} (F : Str Z h a b cs) : Exa Z h a ST := F.1
theorem Str.cod {cs : List Int32} (F : Str Z h a b cs) : Fld Z h a ST "coder" "B" (.int 0) := F.2.1
theorem Str.val {cs : List Int32} (F : Str Z h a b cs) : Fld Z h a ST "value" "[B" (.ref b) := F.2.2.1
theorem Str.arr {cs : List Int32} (F : Str Z h a b cs) : Ar Z h b .byte (by8 cs) := F.2.2.2.1
theorem Str.lat {cs : List Int32} (F : Str Z h a b cs) : Lat cs := F.2.2.2.2
theorem Str.lt {cs : List Int32} (F : Str Z h a b cs) : a < h.size := F.1.lt
theorem Str.ltb {cs : List Int32} (F : Str Z h a b cs) : b < h.size := F.arr.lt
theorem Str.len_lt {cs : List Int32} (F : Str Z h a b cs) : cs.length < 2 ^ 31 := by simpa using F.arr.len_lt
theorem strc {cs ds : List Int32} (F : Str Z h a b cs) (q : cs = ds) : Str Z h a b ds := q ▸ F
theorem Ar.ext (E : Ext h h') (F : Ar Z h a ty vs) : Ar Z h' a ty vs := by obtain ⟨c, A, r⟩ := F; exact ⟨c, A.ext E, r⟩
theorem Str.ext {cs : List Int32} (E : Ext h h') (F : Str Z h a b cs) : Str Z h' a b cs := ⟨F.1.ext E, F.2.1.ext E, F.2.2.1.ext E, F.2.2.2.1.ext E, F.2.2.2.2⟩
abbrev ASB : String := "java/lang/AbstractStringBuilder"
/-- a is a StringBuilder that holds the Latin-1 chars cs, in the array v of length cap -/
def Sb (Z : State) (h : Heap) (a v : Addr) (cs : List Int32) (cap : Nat) : Prop := Exa Z h a "java/lang/StringBuilder" ∧ Fld Z h a ASB "value" "[B" (.ref v) ∧ Fld Z h a ASB "coder" "B" (.int 0) ∧ Fld Z h a ASB "count" "I" (.int cs.length.toInt32) ∧ Lat cs ∧ cs.length ≤ cap ∧ ∃ vs, Ar Z h v .byte vs ∧ vs.length = cap ∧ vs.take cs.length = by8 cs
theorem Sb.keep {v : Addr} {cs : List Int32} {cap : Nat} (F : Sb Z h a v cs cap) (K : Keep h h' ws) (q : a ∉ ws) (q' : v ∉ ws) : Sb Z h' a v cs cap := by
  obtain ⟨h1, h2, h3, h4, h5, h6, vs, h7, h8⟩ := F
  exact ⟨h1.keep K, h2.keep K q, h3.keep K q, h4.keep K q, h5, h6, vs, h7.keep K q', h8⟩
theorem Sb.exa {v : Addr} {cs : List Int32} {cap : Nat} (F : Sb Z h a v cs cap) : Exa Z h a "java/lang/StringBuilder" := F.1
theorem Sb.val {v : Addr} {cs : List Int32} {cap : Nat} (F : Sb Z h a v cs cap) : Fld Z h a ASB "value" "[B" (.ref v) := F.2.1
theorem Sb.cod {v : Addr} {cs : List Int32} {cap : Nat} (F : Sb Z h a v cs cap) : Fld Z h a ASB "coder" "B" (.int 0) := F.2.2.1
theorem Sb.cnt {v : Addr} {cs : List Int32} {cap : Nat} (F : Sb Z h a v cs cap) : Fld Z h a ASB "count" "I" (.int cs.length.toInt32) := F.2.2.2.1
theorem Sb.lat {v : Addr} {cs : List Int32} {cap : Nat} (F : Sb Z h a v cs cap) : Lat cs := F.2.2.2.2.1
theorem Sb.lt {v : Addr} {cs : List Int32} {cap : Nat} (F : Sb Z h a v cs cap) : a < h.size := F.1.lt
theorem Sb.ltb {v : Addr} {cs : List Int32} {cap : Nat} (F : Sb Z h a v cs cap) : v < h.size := by obtain ⟨h1, h2, h3, h4, h5, h6, vs, h7, h8⟩ := F; exact h7.lt
/-- the array at a takes objects of class C -/
def Tk (Z : State) (h : Heap) (a : Addr) (C : String) : Prop := ∃ (c : Cell) (ty : FieldType), Arr Z h a c ty ∧ Ovr Z c.cls C
theorem Tk.keep {C : String} (F : Tk Z h a C) (K : Keep h h' ws) : Tk Z h' a C := by
  obtain ⟨c, ty, ⟨h1, ⟨s1, k1, s2, comp, s3⟩, h3⟩, O⟩ := F
  obtain ⟨c', q1, q2, q3, q4⟩ := K.2.2 a c h1
  exact ⟨c', ty, ⟨q1, ⟨by rw [q3]; exact s1, k1, by rw [q2]; exact s2, comp, s3⟩, by rw [q3]; exact h3⟩, by rw [q2]; exact O⟩
theorem exa_ne_ar {C : String} {kI : Nat} (E : Exa Z h a C) (wi : (Jvm.Cond.instantiable C kI).before a0 Z = true) (A : Ar Z h b ty vs) : a ≠ b := by obtain ⟨c, A, -⟩ := A; exact ne_arr E wi A
theorem ar_ne {ty' : FieldType} {vs' : List Value} (A : Ar Z h a ty vs) (A' : Ar Z h b ty' vs') (ht : ty ≠ ty') : a ≠ b := fun q => by
  subst q
  obtain ⟨c, ⟨h1, ⟨-, k1, h2, c1, h3⟩, -⟩, -⟩ := A
  obtain ⟨c', ⟨g1, ⟨-, k2, g2, c2, g3⟩, -⟩, -⟩ := A'
  cases h1.symm.trans g1
  cases h2.symm.trans g2
  have := h3.symm.trans g3
  injection this with _ e
  exact ht e
theorem ltb {a b : Nat} (q : Nat.ble (a + 1) b = true) : a < b := Nat.le_of_ble_eq_true q
theorem leb {a b : Nat} (q : Nat.ble a b = true) : a ≤ b := Nat.le_of_ble_eq_true q
/-! where the walk stands -/
def En (Z : State) (B : Addr → Prop) (h : Heap) : Prop := Ext Z.heap h ∧ ∀ x, B x → x < h.size
def Wk (l : Launch) (Z : State) (EL : List (String × Nat)) (y : MethodName) (bytes : ByteArray) (maxL : Nat) (ret : Option FieldType) (R : Room) (B0 : Addr → Prop) (p : Program) (e : Env) (s : State) (m : MethodId) (args : Array Value) (below : List Frame) (meth : Method) (c : Code) (B : Addr → Prop) (T : State) (h : Heap) (k n : Nat) : Prop :=
  (p.tables.exec = Jvm.exec ∧ c.code = bytes ∧ c.maxLocals = maxL ∧ meth.sig.returnType = ret ∧ meth.locks = false ∧ meth.name = y.name ∧ ∃ a1, EW Z a1 EL) ∧
  En Z B h ∧ s.heap.size ≤ h.size ∧ (∀ x, B x → B0 x ∨ s.heap.size ≤ x) ∧
  ∃ (V : Vm) (locs : List Loc) (q : Nat), Stand p l e R (s.setVm V) m args below meth c T locs k n ∧ T.heap = h ∧ Z.Warmed39 V ∧ V.findClass y.cls = some m.cls ∧ s.Since V q ∧ q ≤ h.size ∧ Fr Z.heap.size locs ∧ CHv Z EL V h ∧ (∀ x, Bk Z EL V h x → B x)
def Go (l : Launch) (Z : State) (EL : List (String × Nat)) (R : Room) (B0 : Addr → Prop) (Q : Option Value → Heap → (Addr → Prop) → Prop) (p : Program) (e : Env) (s : State) (m : MethodId) (below : List Frame) (T : State) (pc : Nat) (ls : Array Slot) (st : List Value) : Prop :=
  ∃ s₂ o, Steps p.tables e below (T.setTop (mkF m pc ls st)) s₂ ∧ s₂.status = .running ∧ Ended s₂ below o ∧ ∃ v L B', o = .returned v ∧ Fr Z.heap.size L ∧ CHv Z EL s₂.vm s₂.heap ∧ (∀ x, Bk Z EL s₂.vm s₂.heap x → B' x) ∧ (∀ x, B' x → B0 x ∨ s.heap.size ≤ x) ∧ En Z B' s₂.heap ∧ s.heap.size ≤ s₂.heap.size ∧ Q v s₂.heap B' ∧ ReturnedEndW s o s₂ L R.cells R.slots
def Con (l : Launch) (Z : State) (EL : List (String × Nat)) (wl : List Jvm.Cond) (y : MethodName) (bytes : ByteArray) (maxL : Nat) (ret : Option FieldType) (rm : Room) (B : Addr → Prop) (h : Heap) (as' : Array Value) (Q : Option Value → Heap → (Addr → Prop) → Prop) : Prop :=
  MetFree l y (head1 (Jvm.Cond.code y bytes maxL ret :: wl) rm) (fun a U => a = as' ∧ Z.Warmed39 U.vm ∧ U.heap = h ∧ CHv Z EL U.vm h ∧ ∀ x, Bk Z EL U.vm h x → B x) (fun _ _ _ _ _ => True)
    (fun _ U o U' => ∃ v L B', o = .returned v ∧ Fr Z.heap.size L ∧ CHv Z EL U'.vm U'.heap ∧ (∀ x, Bk Z EL U'.vm U'.heap x → B' x) ∧ (∀ x, B' x → B x ∨ h.size ≤ x) ∧ En Z B' U'.heap ∧ h.size ≤ U'.heap.size ∧ Q v U'.heap B' ∧ ReturnedEndW U o U' L rm.cells rm.slots)
theorem Wk.hx (X : Wk l Z EL y bytes maxL ret R B0 p e s m args below meth c B T h k n) : p.tables.exec = Jvm.exec := X.1.1
theorem Wk.dec (X : Wk l Z EL y bytes maxL ret R B0 p e s m args below meth c B T h k n) {r : Except DecodeError (Instr × Nat)} (hd : decode bytes pc = r) : decode c.code pc = r := X.1.2.1 ▸ hd
theorem Wk.en (X : Wk l Z EL y bytes maxL ret R B0 p e s m args below meth c B T h k n) : En Z B h := X.2.1
theorem Wk.old (X : Wk l Z EL y bytes maxL ret R B0 p e s m args below meth c B T h k n) : Ext Z.heap h := X.2.1.1
theorem Wk.z0 (X : Wk l Z EL y bytes maxL ret R B0 p e s m args below meth c B T h k n) : Z.heap.size ≤ h.size := X.2.1.1.1
theorem Wk.zs (X : Wk l Z EL y bytes maxL ret R B0 p e s m args below meth c B T h k n) : s.heap.size ≤ h.size := X.2.2.1
theorem Wk.nb (X : Wk l Z EL y bytes maxL ret R B0 p e s m args below meth c B T h k n) (q : h.size ≤ a) : ¬ B a := fun r => absurd (X.2.1.2 a r) (Nat.not_lt.mpr q)
theorem Wk.here (X : Wk l Z EL y bytes maxL ret R B0 p e s m args below meth c B T h k n) : At T m c below := by obtain ⟨-, -, -, -, V, locs, q, X1, -⟩ := X; exact X1.here
theorem Wk.mono (X : Wk l Z EL y bytes maxL ret R B0 p e s m args below meth c B T h k n) {k' n' : Nat} (q : k ≤ k') (r : n ≤ n') : Wk l Z EL y bytes maxL ret R B0 p e s m args below meth c B T h k' n' := by
  obtain ⟨i, hE, hz, hB, V, locs, q0, X1, rest⟩ := X; exact ⟨i, hE, hz, hB, V, locs, q0, X1.mono q r, rest⟩
theorem Go.step {T' : State} {st' : List Value} (hst : ∀ t, Steps p.tables e below (T'.setTop (mkF m pc' ls' st')) t → Steps p.tables e below (T.setTop (mkF m pc ls st)) t) (g : Go l Z EL R B0 Q p e s m below T' pc' ls' st') : Go l Z EL R B0 Q p e s m below T pc ls st := by
  obtain ⟨s₂, o, h1, r⟩ := g
  exact ⟨s₂, o, hst _ h1, r⟩
theorem Go.via {T' : State} {st' : List Value} (hst : Steps p.tables e below (T.setTop (mkF m pc ls st)) (T'.setTop (mkF m pc' ls' st'))) (g : Go l Z EL R B0 Q p e s m below T' pc' ls' st') : Go l Z EL R B0 Q p e s m below T pc ls st := Go.step (fun _ r => hst.trans r) g
theorem gh (e1 : Go l Z EL R B0 Q p e s m below T pc ls st) (e2 : st = vs) : Go l Z EL R B0 Q p e s m below T pc ls vs := e2 ▸ e1

theorem W.iload (X : Wk l Z EL y bytes maxL ret R B0 p e s m args below meth c B T h k n) {j : Nat} {v : Int32} (hd : decode bytes pc = .ok (.iload j, 2)) (hl : ls[j]? = some (.val (.int v))) (hp : pc + 2 = pc') (g : Go l Z EL R B0 Q p e s m below T pc' ls (.int v :: st)) : Go l Z EL R B0 Q p e s m below T pc ls st := by
  subst hp; exact Go.step (fun t hr => XS.iload X.here X.hx rfl (X.dec hd) hl hr) g
theorem W.iloadN (X : Wk l Z EL y bytes maxL ret R B0 p e s m args below meth c B T h k n) {j : Fin 4} {v : Int32} (hd : decode bytes pc = .ok (.iload_n j, 1)) (hl : ls[j.val]? = some (.val (.int v))) (hp : pc + 1 = pc') (g : Go l Z EL R B0 Q p e s m below T pc' ls (.int v :: st)) : Go l Z EL R B0 Q p e s m below T pc ls st := by
  subst hp; exact Go.step (fun t hr => XS.iloadN X.here X.hx rfl (X.dec hd) hl hr) g
theorem W.istore (X : Wk l Z EL y bytes maxL ret R B0 p e s m args below meth c B T h k n) {j : Nat} {v : Int32} (hd : decode bytes pc = .ok (.istore j, 2)) (hl : storeLocals ls j (.int v) = some ls') (hp : pc + 2 = pc') (g : Go l Z EL R B0 Q p e s m below T pc' ls' st) : Go l Z EL R B0 Q p e s m below T pc ls (.int v :: st) := by
  subst hp; exact Go.step (fun t hr => XS.istore X.here X.hx rfl (X.dec hd) rfl hl hr) g
theorem W.istoreN (X : Wk l Z EL y bytes maxL ret R B0 p e s m args below meth c B T h k n) {j : Fin 4} {v : Int32} (hd : decode bytes pc = .ok (.istore_n j, 1)) (hl : storeLocals ls j.val (.int v) = some ls') (hp : pc + 1 = pc') (g : Go l Z EL R B0 Q p e s m below T pc' ls' st) : Go l Z EL R B0 Q p e s m below T pc ls (.int v :: st) := by
  subst hp; exact Go.step (fun t hr => XS.istoreN X.here X.hx rfl (X.dec hd) rfl hl hr) g
theorem W.lload (X : Wk l Z EL y bytes maxL ret R B0 p e s m args below meth c B T h k n) {j : Nat} {v : Int64} (hd : decode bytes pc = .ok (.lload j, 2)) (hl : ls[j]? = some (.val (.long v))) (hp : pc + 2 = pc') (g : Go l Z EL R B0 Q p e s m below T pc' ls (.long v :: st)) : Go l Z EL R B0 Q p e s m below T pc ls st := by
  subst hp; exact Go.step (fun t hr => XT.lload X.here X.hx rfl (X.dec hd) hl hr) g
theorem W.lloadN (X : Wk l Z EL y bytes maxL ret R B0 p e s m args below meth c B T h k n) {j : Fin 4} {v : Int64} (hd : decode bytes pc = .ok (.lload_n j, 1)) (hl : ls[j.val]? = some (.val (.long v))) (hp : pc + 1 = pc') (g : Go l Z EL R B0 Q p e s m below T pc' ls (.long v :: st)) : Go l Z EL R B0 Q p e s m below T pc ls st := by
  subst hp; exact Go.step (fun t hr => XT.lloadN X.here X.hx rfl (X.dec hd) hl hr) g
theorem W.lstore (X : Wk l Z EL y bytes maxL ret R B0 p e s m args below meth c B T h k n) {j : Nat} {v : Int64} (hd : decode bytes pc = .ok (.lstore j, 2)) (hl : storeLocals ls j (.long v) = some ls') (hp : pc + 2 = pc') (g : Go l Z EL R B0 Q p e s m below T pc' ls' st) : Go l Z EL R B0 Q p e s m below T pc ls (.long v :: st) := by
  subst hp; exact Go.step (fun t hr => XT.lstore X.here X.hx rfl (X.dec hd) rfl hl hr) g
theorem W.lstoreN (X : Wk l Z EL y bytes maxL ret R B0 p e s m args below meth c B T h k n) {j : Fin 4} {v : Int64} (hd : decode bytes pc = .ok (.lstore_n j, 1)) (hl : storeLocals ls j.val (.long v) = some ls') (hp : pc + 1 = pc') (g : Go l Z EL R B0 Q p e s m below T pc' ls' st) : Go l Z EL R B0 Q p e s m below T pc ls (.long v :: st) := by
  subst hp; exact Go.step (fun t hr => XT.lstoreN X.here X.hx rfl (X.dec hd) rfl hl hr) g
theorem W.aload (X : Wk l Z EL y bytes maxL ret R B0 p e s m args below meth c B T h k n) {j : Nat} {v : Value} (hd : decode bytes pc = .ok (.aload j, 2)) (hl : ls[j]? = some (.val v)) (hv : v.isRef = true) (hp : pc + 2 = pc') (g : Go l Z EL R B0 Q p e s m below T pc' ls (v :: st)) : Go l Z EL R B0 Q p e s m below T pc ls st := by
  subst hp; exact Go.step (fun t hr => XS.aload X.here X.hx rfl (X.dec hd) hl hv hr) g
theorem W.aloadN (X : Wk l Z EL y bytes maxL ret R B0 p e s m args below meth c B T h k n) {j : Fin 4} {v : Value} (hd : decode bytes pc = .ok (.aload_n j, 1)) (hl : ls[j.val]? = some (.val v)) (hv : v.isRef = true) (hp : pc + 1 = pc') (g : Go l Z EL R B0 Q p e s m below T pc' ls (v :: st)) : Go l Z EL R B0 Q p e s m below T pc ls st := by
  subst hp; exact Go.step (fun t hr => XS.aloadN X.here X.hx rfl (X.dec hd) hl hv hr) g
theorem W.astore (X : Wk l Z EL y bytes maxL ret R B0 p e s m args below meth c B T h k n) {j : Nat} {v : Value} (hd : decode bytes pc = .ok (.astore j, 2)) (hv : v.isRef = true) (hl : storeLocals ls j v = some ls') (hp : pc + 2 = pc') (g : Go l Z EL R B0 Q p e s m below T pc' ls' st) : Go l Z EL R B0 Q p e s m below T pc ls (v :: st) := by
  subst hp; exact Go.step (fun t hr => XS.astore X.here X.hx rfl (X.dec hd) rfl hv hl hr) g
theorem W.astoreN (X : Wk l Z EL y bytes maxL ret R B0 p e s m args below meth c B T h k n) {j : Fin 4} {v : Value} (hd : decode bytes pc = .ok (.astore_n j, 1)) (hv : v.isRef = true) (hl : storeLocals ls j.val v = some ls') (hp : pc + 1 = pc') (g : Go l Z EL R B0 Q p e s m below T pc' ls' st) : Go l Z EL R B0 Q p e s m below T pc ls (v :: st) := by
  subst hp; exact Go.step (fun t hr => XS.astoreN X.here X.hx rfl (X.dec hd) rfl hv hl hr) g
theorem W.iconst (X : Wk l Z EL y bytes maxL ret R B0 p e s m args below meth c B T h k n) {i : Int} (v : Int32) (hd : decode bytes pc = .ok (.iconst i, 1)) (hv : Int32.ofInt i = v) (hp : pc + 1 = pc') (g : Go l Z EL R B0 Q p e s m below T pc' ls (.int v :: st)) : Go l Z EL R B0 Q p e s m below T pc ls st := by
  subst hp; exact Go.step (fun t hr => XT.iconstV X.here X.hx rfl v (X.dec hd) hv hr) g
theorem W.bipush (X : Wk l Z EL y bytes maxL ret R B0 p e s m args below meth c B T h k n) {i : Int} (v : Int32) (hd : decode bytes pc = .ok (.bipush i, 2)) (hv : (Int8.ofInt i).toInt32 = v) (hp : pc + 2 = pc') (g : Go l Z EL R B0 Q p e s m below T pc' ls (.int v :: st)) : Go l Z EL R B0 Q p e s m below T pc ls st := by
  subst hp; exact Go.step (fun t hr => XT.bipushV X.here X.hx rfl v (X.dec hd) hv hr) g
theorem W.sipush (X : Wk l Z EL y bytes maxL ret R B0 p e s m args below meth c B T h k n) {i : Int} (v : Int32) (hd : decode bytes pc = .ok (.sipush i, 3)) (hv : (Int16.ofInt i).toInt32 = v) (hp : pc + 3 = pc') (g : Go l Z EL R B0 Q p e s m below T pc' ls (.int v :: st)) : Go l Z EL R B0 Q p e s m below T pc ls st := by
  subst hp; exact Go.step (fun t hr => XT.sipushV X.here X.hx rfl v (X.dec hd) hv hr) g
theorem W.lconst (X : Wk l Z EL y bytes maxL ret R B0 p e s m args below meth c B T h k n) {i : Fin 2} (v : Int64) (hd : decode bytes pc = .ok (.lconst i, 1)) (hv : Int64.ofNat i = v) (hp : pc + 1 = pc') (g : Go l Z EL R B0 Q p e s m below T pc' ls (.long v :: st)) : Go l Z EL R B0 Q p e s m below T pc ls st := by
  subst hp; exact Go.step (fun t hr => XT.lconstV X.here X.hx rfl v (X.dec hd) hv hr) g
theorem W.aconst_null (X : Wk l Z EL y bytes maxL ret R B0 p e s m args below meth c B T h k n)  (hd : decode bytes pc = .ok (.aconst_null, 1))  (hp : pc + 1 = pc') (g : Go l Z EL R B0 Q p e s m below T pc' ls (.null :: st)) : Go l Z EL R B0 Q p e s m below T pc ls st := by
  subst hp; exact Go.step (fun t hr => XS.aconstNull X.here X.hx rfl (X.dec hd) hr) g
theorem W.iadd (X : Wk l Z EL y bytes maxL ret R B0 p e s m args below meth c B T h k n) {x z : Int32} {w : Int32} (hd : decode bytes pc = .ok (.iadd, 1)) (hw : x + z = w) (hp : pc + 1 = pc') (g : Go l Z EL R B0 Q p e s m below T pc' ls (.int w :: st)) : Go l Z EL R B0 Q p e s m below T pc ls (.int z :: .int x :: st) := by
  subst hp; exact Go.step (fun t hr => by subst hw; exact XS.iadd X.here X.hx rfl (X.dec hd) rfl hr) g
theorem W.isub (X : Wk l Z EL y bytes maxL ret R B0 p e s m args below meth c B T h k n) {x z : Int32} {w : Int32} (hd : decode bytes pc = .ok (.isub, 1)) (hw : x - z = w) (hp : pc + 1 = pc') (g : Go l Z EL R B0 Q p e s m below T pc' ls (.int w :: st)) : Go l Z EL R B0 Q p e s m below T pc ls (.int z :: .int x :: st) := by
  subst hp; exact Go.step (fun t hr => by subst hw; exact XS.isub X.here X.hx rfl (X.dec hd) rfl hr) g
theorem W.iand (X : Wk l Z EL y bytes maxL ret R B0 p e s m args below meth c B T h k n) {x z : Int32} {w : Int32} (hd : decode bytes pc = .ok (.iand, 1)) (hw : x &&& z = w) (hp : pc + 1 = pc') (g : Go l Z EL R B0 Q p e s m below T pc' ls (.int w :: st)) : Go l Z EL R B0 Q p e s m below T pc ls (.int z :: .int x :: st) := by
  subst hp; exact Go.step (fun t hr => by subst hw; exact XS.iand X.here X.hx rfl (X.dec hd) rfl hr) g
theorem W.imul (X : Wk l Z EL y bytes maxL ret R B0 p e s m args below meth c B T h k n) {x z : Int32} {w : Int32} (hd : decode bytes pc = .ok (.imul, 1)) (hw : x * z = w) (hp : pc + 1 = pc') (g : Go l Z EL R B0 Q p e s m below T pc' ls (.int w :: st)) : Go l Z EL R B0 Q p e s m below T pc ls (.int z :: .int x :: st) := by
  subst hp; exact Go.step (fun t hr => by subst hw; exact XS.imul X.here X.hx rfl (X.dec hd) rfl hr) g
theorem W.ixor (X : Wk l Z EL y bytes maxL ret R B0 p e s m args below meth c B T h k n) {x z : Int32} {w : Int32} (hd : decode bytes pc = .ok (.ixor, 1)) (hw : x ^^^ z = w) (hp : pc + 1 = pc') (g : Go l Z EL R B0 Q p e s m below T pc' ls (.int w :: st)) : Go l Z EL R B0 Q p e s m below T pc ls (.int z :: .int x :: st) := by
  subst hp; exact Go.step (fun t hr => by subst hw; exact XT.ixor X.here X.hx rfl (X.dec hd) rfl hr) g
theorem W.ior (X : Wk l Z EL y bytes maxL ret R B0 p e s m args below meth c B T h k n) {x z : Int32} {w : Int32} (hd : decode bytes pc = .ok (.ior, 1)) (hw : x ||| z = w) (hp : pc + 1 = pc') (g : Go l Z EL R B0 Q p e s m below T pc' ls (.int w :: st)) : Go l Z EL R B0 Q p e s m below T pc ls (.int z :: .int x :: st) := by
  subst hp; exact Go.step (fun t hr => by subst hw; exact XT.ior X.here X.hx rfl (X.dec hd) rfl hr) g
theorem W.ishl (X : Wk l Z EL y bytes maxL ret R B0 p e s m args below meth c B T h k n) {x z : Int32} {w : Int32} (hd : decode bytes pc = .ok (.ishl, 1)) (hw : x <<< (z &&& 31) = w) (hp : pc + 1 = pc') (g : Go l Z EL R B0 Q p e s m below T pc' ls (.int w :: st)) : Go l Z EL R B0 Q p e s m below T pc ls (.int z :: .int x :: st) := by
  subst hp; exact Go.step (fun t hr => by subst hw; exact XT.ishl X.here X.hx rfl (X.dec hd) rfl hr) g
theorem W.ishr (X : Wk l Z EL y bytes maxL ret R B0 p e s m args below meth c B T h k n) {x z : Int32} {w : Int32} (hd : decode bytes pc = .ok (.ishr, 1)) (hw : x >>> (z &&& 31) = w) (hp : pc + 1 = pc') (g : Go l Z EL R B0 Q p e s m below T pc' ls (.int w :: st)) : Go l Z EL R B0 Q p e s m below T pc ls (.int z :: .int x :: st) := by
  subst hp; exact Go.step (fun t hr => by subst hw; exact XT.ishr X.here X.hx rfl (X.dec hd) rfl hr) g
theorem W.iushr (X : Wk l Z EL y bytes maxL ret R B0 p e s m args below meth c B T h k n) {x z : Int32} {w : Int32} (hd : decode bytes pc = .ok (.iushr, 1)) (hw : XT.ushr x z = w) (hp : pc + 1 = pc') (g : Go l Z EL R B0 Q p e s m below T pc' ls (.int w :: st)) : Go l Z EL R B0 Q p e s m below T pc ls (.int z :: .int x :: st) := by
  subst hp; exact Go.step (fun t hr => by subst hw; exact XT.iushr X.here X.hx rfl (X.dec hd) rfl hr) g
theorem W.idiv (X : Wk l Z EL y bytes maxL ret R B0 p e s m args below meth c B T h k n) {x z : Int32} {w : Int32} (hd : decode bytes pc = .ok (.idiv, 1)) (hz : z ≠ 0) (hw : x / z = w) (hp : pc + 1 = pc') (g : Go l Z EL R B0 Q p e s m below T pc' ls (.int w :: st)) : Go l Z EL R B0 Q p e s m below T pc ls (.int z :: .int x :: st) := by
  subst hp; exact Go.step (fun t hr => by subst hw; exact XS.idiv X.here X.hx rfl (X.dec hd) rfl hz hr) g
theorem W.irem (X : Wk l Z EL y bytes maxL ret R B0 p e s m args below meth c B T h k n) {x z : Int32} {w : Int32} (hd : decode bytes pc = .ok (.irem, 1)) (hz : z ≠ 0) (hw : x % z = w) (hp : pc + 1 = pc') (g : Go l Z EL R B0 Q p e s m below T pc' ls (.int w :: st)) : Go l Z EL R B0 Q p e s m below T pc ls (.int z :: .int x :: st) := by
  subst hp; exact Go.step (fun t hr => by subst hw; exact XS.irem X.here X.hx rfl (X.dec hd) rfl hz (by rw [Jvm.irem_eq_mod]; exact hr)) g
theorem W.ineg (X : Wk l Z EL y bytes maxL ret R B0 p e s m args below meth c B T h k n) {x : Int32} {w : Int32} (hd : decode bytes pc = .ok (.ineg, 1)) (hw : -x = w) (hp : pc + 1 = pc') (g : Go l Z EL R B0 Q p e s m below T pc' ls (.int w :: st)) : Go l Z EL R B0 Q p e s m below T pc ls (.int x :: st) := by
  subst hp; exact Go.step (fun t hr => by subst hw; exact XS.ineg X.here X.hx rfl (X.dec hd) rfl hr) g
theorem W.ladd (X : Wk l Z EL y bytes maxL ret R B0 p e s m args below meth c B T h k n) {x z : Int64} {w : Int64} (hd : decode bytes pc = .ok (.ladd, 1)) (hw : x + z = w) (hp : pc + 1 = pc') (g : Go l Z EL R B0 Q p e s m below T pc' ls (.long w :: st)) : Go l Z EL R B0 Q p e s m below T pc ls (.long z :: .long x :: st) := by
  subst hp; exact Go.step (fun t hr => by subst hw; exact XT.ladd X.here X.hx rfl (X.dec hd) rfl hr) g
theorem W.lsub (X : Wk l Z EL y bytes maxL ret R B0 p e s m args below meth c B T h k n) {x z : Int64} {w : Int64} (hd : decode bytes pc = .ok (.lsub, 1)) (hw : x - z = w) (hp : pc + 1 = pc') (g : Go l Z EL R B0 Q p e s m below T pc' ls (.long w :: st)) : Go l Z EL R B0 Q p e s m below T pc ls (.long z :: .long x :: st) := by
  subst hp; exact Go.step (fun t hr => by subst hw; exact XT.lsub X.here X.hx rfl (X.dec hd) rfl hr) g
theorem W.land (X : Wk l Z EL y bytes maxL ret R B0 p e s m args below meth c B T h k n) {x z : Int64} {w : Int64} (hd : decode bytes pc = .ok (.land, 1)) (hw : x &&& z = w) (hp : pc + 1 = pc') (g : Go l Z EL R B0 Q p e s m below T pc' ls (.long w :: st)) : Go l Z EL R B0 Q p e s m below T pc ls (.long z :: .long x :: st) := by
  subst hp; exact Go.step (fun t hr => by subst hw; exact XT.land X.here X.hx rfl (X.dec hd) rfl hr) g
theorem W.lmul (X : Wk l Z EL y bytes maxL ret R B0 p e s m args below meth c B T h k n) {x z : Int64} {w : Int64} (hd : decode bytes pc = .ok (.lmul, 1)) (hw : x * z = w) (hp : pc + 1 = pc') (g : Go l Z EL R B0 Q p e s m below T pc' ls (.long w :: st)) : Go l Z EL R B0 Q p e s m below T pc ls (.long z :: .long x :: st) := by
  subst hp; exact Go.step (fun t hr => by subst hw; exact XT.lmul X.here X.hx rfl (X.dec hd) rfl hr) g
theorem W.lor (X : Wk l Z EL y bytes maxL ret R B0 p e s m args below meth c B T h k n) {x z : Int64} {w : Int64} (hd : decode bytes pc = .ok (.lor, 1)) (hw : x ||| z = w) (hp : pc + 1 = pc') (g : Go l Z EL R B0 Q p e s m below T pc' ls (.long w :: st)) : Go l Z EL R B0 Q p e s m below T pc ls (.long z :: .long x :: st) := by
  subst hp; exact Go.step (fun t hr => by subst hw; exact XT.lor X.here X.hx rfl (X.dec hd) rfl hr) g
theorem W.ldiv (X : Wk l Z EL y bytes maxL ret R B0 p e s m args below meth c B T h k n) {x z : Int64} {w : Int64} (hd : decode bytes pc = .ok (.ldiv, 1)) (hz : z ≠ 0) (hw : x / z = w) (hp : pc + 1 = pc') (g : Go l Z EL R B0 Q p e s m below T pc' ls (.long w :: st)) : Go l Z EL R B0 Q p e s m below T pc ls (.long z :: .long x :: st) := by
  subst hp; exact Go.step (fun t hr => by subst hw; exact XT.ldiv X.here X.hx rfl (X.dec hd) rfl hz hr) g
theorem W.lrem (X : Wk l Z EL y bytes maxL ret R B0 p e s m args below meth c B T h k n) {x z : Int64} {w : Int64} (hd : decode bytes pc = .ok (.lrem, 1)) (hz : z ≠ 0) (hw : x - (x / z) * z = w) (hp : pc + 1 = pc') (g : Go l Z EL R B0 Q p e s m below T pc' ls (.long w :: st)) : Go l Z EL R B0 Q p e s m below T pc ls (.long z :: .long x :: st) := by
  subst hp; exact Go.step (fun t hr => by subst hw; exact XT.lrem X.here X.hx rfl (X.dec hd) rfl hz hr) g
theorem W.lneg (X : Wk l Z EL y bytes maxL ret R B0 p e s m args below meth c B T h k n) {x : Int64} {w : Int64} (hd : decode bytes pc = .ok (.lneg, 1)) (hw : -x = w) (hp : pc + 1 = pc') (g : Go l Z EL R B0 Q p e s m below T pc' ls (.long w :: st)) : Go l Z EL R B0 Q p e s m below T pc ls (.long x :: st) := by
  subst hp; exact Go.step (fun t hr => by subst hw; exact XT.lneg X.here X.hx rfl (X.dec hd) rfl hr) g
theorem W.lushr (X : Wk l Z EL y bytes maxL ret R B0 p e s m args below meth c B T h k n) {x : Int64} {z : Int32} {w : Int64} (hd : decode bytes pc = .ok (.lushr, 1)) (hw : XT.ushrL x z = w) (hp : pc + 1 = pc') (g : Go l Z EL R B0 Q p e s m below T pc' ls (.long w :: st)) : Go l Z EL R B0 Q p e s m below T pc ls (.int z :: .long x :: st) := by
  subst hp; exact Go.step (fun t hr => by subst hw; exact XT.lushr X.here X.hx rfl (X.dec hd) rfl hr) g
theorem W.lcmp (X : Wk l Z EL y bytes maxL ret R B0 p e s m args below meth c B T h k n) {x z : Int64} {w : Int32} (hd : decode bytes pc = .ok (.lcmp, 1)) (hw : XT.cmpL x z = w) (hp : pc + 1 = pc') (g : Go l Z EL R B0 Q p e s m below T pc' ls (.int w :: st)) : Go l Z EL R B0 Q p e s m below T pc ls (.long z :: .long x :: st) := by
  subst hp; exact Go.step (fun t hr => by subst hw; exact XT.lcmp X.here X.hx rfl (X.dec hd) rfl hr) g
theorem W.i2l (X : Wk l Z EL y bytes maxL ret R B0 p e s m args below meth c B T h k n) {x : Int32} {w : Int64} (hd : decode bytes pc = .ok (.i2l, 1)) (hw : x.toInt64 = w) (hp : pc + 1 = pc') (g : Go l Z EL R B0 Q p e s m below T pc' ls (.long w :: st)) : Go l Z EL R B0 Q p e s m below T pc ls (.int x :: st) := by
  subst hp; exact Go.step (fun t hr => by subst hw; exact XT.i2l X.here X.hx rfl (X.dec hd) rfl hr) g
theorem W.l2i (X : Wk l Z EL y bytes maxL ret R B0 p e s m args below meth c B T h k n) {x : Int64} {w : Int32} (hd : decode bytes pc = .ok (.l2i, 1)) (hw : x.toInt32 = w) (hp : pc + 1 = pc') (g : Go l Z EL R B0 Q p e s m below T pc' ls (.int w :: st)) : Go l Z EL R B0 Q p e s m below T pc ls (.long x :: st) := by
  subst hp; exact Go.step (fun t hr => by subst hw; exact XT.l2i X.here X.hx rfl (X.dec hd) rfl hr) g
theorem W.i2b (X : Wk l Z EL y bytes maxL ret R B0 p e s m args below meth c B T h k n) {x : Int32} {w : Int32} (hd : decode bytes pc = .ok (.i2b, 1)) (hw : x.toInt8.toInt32 = w) (hp : pc + 1 = pc') (g : Go l Z EL R B0 Q p e s m below T pc' ls (.int w :: st)) : Go l Z EL R B0 Q p e s m below T pc ls (.int x :: st) := by
  subst hp; exact Go.step (fun t hr => by subst hw; exact XT.i2b X.here X.hx rfl (X.dec hd) rfl hr) g
theorem W.i2c (X : Wk l Z EL y bytes maxL ret R B0 p e s m args below meth c B T h k n) {x : Int32} {w : Int32} (hd : decode bytes pc = .ok (.i2c, 1)) (hw : x.toUInt32.toUInt16.toUInt32.toInt32 = w) (hp : pc + 1 = pc') (g : Go l Z EL R B0 Q p e s m below T pc' ls (.int w :: st)) : Go l Z EL R B0 Q p e s m below T pc ls (.int x :: st) := by
  subst hp; exact Go.step (fun t hr => by subst hw; exact XT.i2c X.here X.hx rfl (X.dec hd) rfl hr) g
theorem W.iinc (X : Wk l Z EL y bytes maxL ret R B0 p e s m args below meth c B T h k n) {j : Nat} {cst : Int} {x : Int32} (v : Int32) {w : Int32} (hd : decode bytes pc = .ok (.iinc j cst, 3)) (hv : Int32.ofInt cst = v) (hl : ls[j]? = some (.val (.int x))) (hw : x + v = w) (hl' : storeLocals ls j (.int w) = some ls') (hp : pc + 3 = pc') (g : Go l Z EL R B0 Q p e s m below T pc' ls' st) : Go l Z EL R B0 Q p e s m below T pc ls st := by
  subst hp; exact Go.step (fun t hr => by subst hw; exact XT.iincV X.here X.hx rfl v (X.dec hd) hv hl hl' hr) g
theorem W.pop (X : Wk l Z EL y bytes maxL ret R B0 p e s m args below meth c B T h k n) {v : Value} (hd : decode bytes pc = .ok (.pop, 1)) (hc : v.category = 1) (hp : pc + 1 = pc') (g : Go l Z EL R B0 Q p e s m below T pc' ls st) : Go l Z EL R B0 Q p e s m below T pc ls (v :: st) := by
  subst hp; exact Go.step (fun t hr => XT.pop X.here X.hx rfl (X.dec hd) rfl hc hr) g
theorem W.dup (X : Wk l Z EL y bytes maxL ret R B0 p e s m args below meth c B T h k n) {v : Value} (hd : decode bytes pc = .ok (.dup, 1)) (hc : v.category = 1) (hp : pc + 1 = pc') (g : Go l Z EL R B0 Q p e s m below T pc' ls (v :: v :: st)) : Go l Z EL R B0 Q p e s m below T pc ls (v :: st) := by
  subst hp; exact Go.step (fun t hr => XS.dup X.here X.hx rfl (X.dec hd) rfl hc hr) g
theorem W.dup_x1 (X : Wk l Z EL y bytes maxL ret R B0 p e s m args below meth c B T h k n) {v w : Value} (hd : decode bytes pc = .ok (.dup_x1, 1)) (hc : v.category = 1) (hc' : w.category = 1) (hp : pc + 1 = pc') (g : Go l Z EL R B0 Q p e s m below T pc' ls (v :: w :: v :: st)) : Go l Z EL R B0 Q p e s m below T pc ls (v :: w :: st) := by
  subst hp; exact Go.step (fun t hr => XT.dupX1 X.here X.hx rfl (X.dec hd) rfl hc hc' hr) g
theorem W.dup2 (X : Wk l Z EL y bytes maxL ret R B0 p e s m args below meth c B T h k n) {v w : Value} (hd : decode bytes pc = .ok (.dup2, 1)) (hc : v.category = 1) (hc' : w.category = 1) (hp : pc + 1 = pc') (g : Go l Z EL R B0 Q p e s m below T pc' ls (v :: w :: v :: w :: st)) : Go l Z EL R B0 Q p e s m below T pc ls (v :: w :: st) := by
  subst hp; exact Go.step (fun t hr => XT.dup2 X.here X.hx rfl (X.dec hd) rfl hc hc' hr) g
theorem W.dup2L (X : Wk l Z EL y bytes maxL ret R B0 p e s m args below meth c B T h k n) {v : Int64} (hd : decode bytes pc = .ok (.dup2, 1))  (hp : pc + 1 = pc') (g : Go l Z EL R B0 Q p e s m below T pc' ls (.long v :: .long v :: st)) : Go l Z EL R B0 Q p e s m below T pc ls (.long v :: st) := by
  subst hp; exact Go.step (fun t hr => XT.dup2L X.here X.hx rfl (X.dec hd) rfl hr) g
theorem W.goto (X : Wk l Z EL y bytes maxL ret R B0 p e s m args below meth c B T h k n)  {o : Int} (hd : decode bytes pc = .ok (.goto o, 3))  (ho : 0 ≤ (pc : Int) + o) (hp : ((pc : Int) + o).toNat = pc') (g : Go l Z EL R B0 Q p e s m below T pc' ls st) : Go l Z EL R B0 Q p e s m below T pc ls st :=
  Go.step (fun t hr => XS.goto X.here X.hx rfl rfl (X.dec hd) ho hp hr) g
theorem W.ifT (X : Wk l Z EL y bytes maxL ret R B0 p e s m args below meth c B T h k n) {cd : ClassFile.Cond} {x : Int32} {o : Int} (hd : decode bytes pc = .ok (.ifCond cd o, 3)) (hc : ifCond.holds cd x = true) (ho : 0 ≤ (pc : Int) + o) (hp : ((pc : Int) + o).toNat = pc') (g : Go l Z EL R B0 Q p e s m below T pc' ls st) : Go l Z EL R B0 Q p e s m below T pc ls (.int x :: st) :=
  Go.step (fun t hr => XS.ifYes X.here X.hx rfl rfl (X.dec hd) rfl hc ho hp hr) g
theorem W.ifF (X : Wk l Z EL y bytes maxL ret R B0 p e s m args below meth c B T h k n) {cd : ClassFile.Cond} {o : Int} {x : Int32} (hd : decode bytes pc = .ok (.ifCond cd o, 3)) (hc : ifCond.holds cd x = false) (hp : pc + 3 = pc') (g : Go l Z EL R B0 Q p e s m below T pc' ls st) : Go l Z EL R B0 Q p e s m below T pc ls (.int x :: st) := by
  subst hp; exact Go.step (fun t hr => XS.ifNo X.here X.hx rfl (X.dec hd) rfl hc hr) g
theorem W.icT (X : Wk l Z EL y bytes maxL ret R B0 p e s m args below meth c B T h k n) {cd : ClassFile.Cond} {x z : Int32} {o : Int} (hd : decode bytes pc = .ok (.if_icmp cd o, 3)) (hc : if_icmp.holds cd x z = true) (ho : 0 ≤ (pc : Int) + o) (hp : ((pc : Int) + o).toNat = pc') (g : Go l Z EL R B0 Q p e s m below T pc' ls st) : Go l Z EL R B0 Q p e s m below T pc ls (.int z :: .int x :: st) :=
  Go.step (fun t hr => XS.icmpYes X.here X.hx rfl rfl (X.dec hd) rfl hc ho hp hr) g
theorem W.icF (X : Wk l Z EL y bytes maxL ret R B0 p e s m args below meth c B T h k n) {cd : ClassFile.Cond} {o : Int} {x z : Int32} (hd : decode bytes pc = .ok (.if_icmp cd o, 3)) (hc : if_icmp.holds cd x z = false) (hp : pc + 3 = pc') (g : Go l Z EL R B0 Q p e s m below T pc' ls st) : Go l Z EL R B0 Q p e s m below T pc ls (.int z :: .int x :: st) := by
  subst hp; exact Go.step (fun t hr => XS.icmpNo X.here X.hx rfl (X.dec hd) rfl hc hr) g
theorem W.acT (X : Wk l Z EL y bytes maxL ret R B0 p e s m args below meth c B T h k n) {cd : ClassFile.ACond} {x z : Value} {o : Int} (hd : decode bytes pc = .ok (.if_acmp cd o, 3)) (h1 : x.isRef = true) (h2 : z.isRef = true) (hc : XT.acmp cd x z = true) (ho : 0 ≤ (pc : Int) + o) (hp : ((pc : Int) + o).toNat = pc') (g : Go l Z EL R B0 Q p e s m below T pc' ls st) : Go l Z EL R B0 Q p e s m below T pc ls (z :: x :: st) :=
  Go.step (fun t hr => XT.acmpYes X.here X.hx rfl rfl (X.dec hd) rfl h1 h2 hc ho hp hr) g
theorem W.acF (X : Wk l Z EL y bytes maxL ret R B0 p e s m args below meth c B T h k n) {cd : ClassFile.ACond} {o : Int} {x z : Value} (hd : decode bytes pc = .ok (.if_acmp cd o, 3)) (h1 : x.isRef = true) (h2 : z.isRef = true) (hc : XT.acmp cd x z = false) (hp : pc + 3 = pc') (g : Go l Z EL R B0 Q p e s m below T pc' ls st) : Go l Z EL R B0 Q p e s m below T pc ls (z :: x :: st) := by
  subst hp; exact Go.step (fun t hr => XT.acmpNo X.here X.hx rfl (X.dec hd) rfl h1 h2 hc hr) g
theorem W.nullT (X : Wk l Z EL y bytes maxL ret R B0 p e s m args below meth c B T h k n)  {o : Int} (hd : decode bytes pc = .ok (.ifnull o, 3))  (ho : 0 ≤ (pc : Int) + o) (hp : ((pc : Int) + o).toNat = pc') (g : Go l Z EL R B0 Q p e s m below T pc' ls st) : Go l Z EL R B0 Q p e s m below T pc ls (.null :: st) :=
  Go.step (fun t hr => XS.ifnullYes X.here X.hx rfl rfl (X.dec hd) rfl ho hp hr) g
theorem W.nullF (X : Wk l Z EL y bytes maxL ret R B0 p e s m args below meth c B T h k n) {o : Int} {r : Addr} (hd : decode bytes pc = .ok (.ifnull o, 3))  (hp : pc + 3 = pc') (g : Go l Z EL R B0 Q p e s m below T pc' ls st) : Go l Z EL R B0 Q p e s m below T pc ls (.ref r :: st) := by
  subst hp; exact Go.step (fun t hr => XS.ifnullNo X.here X.hx rfl (X.dec hd) rfl hr) g
theorem W.nonnullT (X : Wk l Z EL y bytes maxL ret R B0 p e s m args below meth c B T h k n) {r : Addr} {o : Int} (hd : decode bytes pc = .ok (.ifnonnull o, 3))  (ho : 0 ≤ (pc : Int) + o) (hp : ((pc : Int) + o).toNat = pc') (g : Go l Z EL R B0 Q p e s m below T pc' ls st) : Go l Z EL R B0 Q p e s m below T pc ls (.ref r :: st) :=
  Go.step (fun t hr => XT.ifnonnullYes X.here X.hx rfl rfl (X.dec hd) rfl ho hp hr) g
theorem W.nonnullF (X : Wk l Z EL y bytes maxL ret R B0 p e s m args below meth c B T h k n) {o : Int} (hd : decode bytes pc = .ok (.ifnonnull o, 3))  (hp : pc + 3 = pc') (g : Go l Z EL R B0 Q p e s m below T pc' ls st) : Go l Z EL R B0 Q p e s m below T pc ls (.null :: st) := by
  subst hp; exact Go.step (fun t hr => XT.ifnonnullNo X.here X.hx rfl (X.dec hd) rfl hr) g
theorem W.tsw (X : Wk l Z EL y bytes maxL ret R B0 p e s m args below meth c B T h k n) {dflt low high : Int} {offs : Array Int} {len : Nat} {o : Int} {i : Int32} (hd : decode bytes pc = .ok (.tableswitch dflt low high offs, len)) (hin : ¬ (i.toInt < low ∨ i.toInt > high)) (hoff : offs[(i.toInt - low).toNat]? = some o) (ho : 0 ≤ (pc : Int) + o) (hp : ((pc : Int) + o).toNat = pc') (g : Go l Z EL R B0 Q p e s m below T pc' ls st) : Go l Z EL R B0 Q p e s m below T pc ls (.int i :: st) :=
  Go.step (fun t hr => XS.tswIn X.here X.hx rfl rfl (X.dec hd) rfl hin hoff ho hp hr) g
theorem W.ldcI (X : Wk l Z EL y bytes maxL ret R B0 p e s m args below meth c B T h k n) {index : Nat} {v : Int32} (w : (Jvm.Cond.constant y.cls index v).before a0 Z = true) (hd : decode bytes pc = .ok (.ldc index, 2)) (hp : pc + 2 = pc') (g : Go l Z EL R B0 Q p e s m below T pc' ls (.int v :: st)) : Go l Z EL R B0 Q p e s m below T pc ls st := by
  obtain ⟨i0, hE, hz, hB, V, locs, q0, X1, eT, hZ, hown, hS, hq, hF, hC, hK⟩ := X
  subst hp
  exact Go.step (fun t hr => Jvm.Stand.ldcI (g := mkF m pc ls st) X1 i0.1 hown (mv (s := s.setVm V) hZ w) rfl (i0.2.1 ▸ hd) hr) g
theorem W.ldcJ (X : Wk l Z EL y bytes maxL ret R B0 p e s m args below meth c B T h k n) {index : Nat} {v : Int64} (w : (Jvm.Cond.constantLong y.cls index v).before a0 Z = true) (hd : decode bytes pc = .ok (.ldc2_w index, 3)) (hp : pc + 3 = pc') (g : Go l Z EL R B0 Q p e s m below T pc' ls (.long v :: st)) : Go l Z EL R B0 Q p e s m below T pc ls st := by
  obtain ⟨i0, hE, hz, hB, V, locs, q0, X1, eT, hZ, hown, hS, hq, hF, hC, hK⟩ := X
  subst hp
  exact Go.step (fun t hr => Jvm.Stand.ldc2J (g := mkF m pc ls st) X1 i0.1 hown (mv (s := s.setVm V) hZ w) rfl (i0.2.1 ▸ hd) hr) g
theorem W.getF (X : Wk l Z EL y bytes maxL ret R B0 p e s m args below meth c B T h k n) {index : Nat} {R0 O nm d : String} {v : Value} (w : (Jvm.Cond.fieldLink y.cls index R0 nm d).before a0 Z = true) (via : Via Z R0 O nm d) (F : Fld Z h a O nm d v) (hd : decode bytes pc = .ok (.getfield index, 3)) (hp : pc + 3 = pc') (g : ∀ T', Wk l Z EL y bytes maxL ret R B0 p e s m args below meth c B T' h k n → Go l Z EL R B0 Q p e s m below T' pc' ls (v :: st)) : Go l Z EL R B0 Q p e s m below T pc ls (.ref a :: st) := by
  obtain ⟨i0, hE, hz, hB, V, locs, q0, X1, eT, hZ, hown, hS, hq, hF, hC, hK⟩ := X
  obtain ⟨T', X', e', st'⟩ := RoadKit.getF X1 i0.1 hZ hown (host := "") (Or.inl w) via eT F (g := mkF m pc ls (.ref a :: st)) rfl rfl (i0.2.1 ▸ hd)
  subst hp
  exact Go.step st' (g T' ⟨i0, hE, hz, hB, V, locs, q0, X', e', hZ, hown, hS, hq, hF, hC, hK⟩)
theorem W.getS (X : Wk l Z EL y bytes maxL ret R B0 p e s m args below meth c B T h k n) {index : Nat} {R0 O nm d host : String} {v : Value} (w : (Jvm.Cond.fieldLink y.cls index R0 nm d).before a0 Z = true ∨ (Jvm.Cond.fieldLinkNest y.cls index R0 nm d host).before a0 Z = true) (via : Via Z R0 O nm d) (F : Sta Z Z.heap O nm d v) (hd : decode bytes pc = .ok (.getstatic index, 3)) (hp : pc + 3 = pc') (g : ∀ T', Wk l Z EL y bytes maxL ret R B0 p e s m args below meth c B T' h k n → Go l Z EL R B0 Q p e s m below T' pc' ls (v :: st)) : Go l Z EL R B0 Q p e s m below T pc ls st := by
  obtain ⟨i0, hE, hz, hB, V, locs, q0, X1, eT, hZ, hown, hS, hq, hF, hC, hK⟩ := X
  obtain ⟨T', X', e', st'⟩ := RoadKit.getS2 X1 i0.1 hZ hown w via eT (F.ext hE.1) (g := mkF m pc ls st) rfl (i0.2.1 ▸ hd)
  subst hp
  exact Go.step st' (g T' ⟨i0, hE, hz, hB, V, locs, q0, X', e', hZ, hown, hS, hq, hF, hC, hK⟩)
theorem En.wr {sl : Nat} {v : Value} (E : En Z B h) (W : Wr h h' a sl v) (q : Z.heap.size ≤ a) : En Z B h' := ⟨(Old.wr (n0 := Z.heap.size) ⟨rfl, E.1⟩ W q).2, fun x r => by rw [W.size]; exact E.2 x r⟩
theorem W.putF (X : Wk l Z EL y bytes maxL ret R B0 p e s m args below meth c B T h k n) {index kk : Nat} {R0 O nm d C : String} {v old : Value} {ty : FieldType} (w : (Jvm.Cond.fieldLink y.cls index R0 nm d).before a0 Z = true) (via : Via Z R0 O nm d) (F : Fld Z h a O nm d old) (E : Exa Z h a C) (L : (Jvm.Cond.lays C O nm d).before a0 Z = true ∨ ((Jvm.Cond.laysFinal C O nm d).before a0 Z = true ∧ y.cls = O ∧ y.name = "<init>")) (wi : (Jvm.Cond.instantiable C kk).before a0 Z = true)
    (hty : parseFieldDescriptor d = some ty) (hn : narrow ty v = v) (hf : fits ty v = true) (ha : Z.heap.size ≤ a) (hnb : ¬ B a) (hd : decode bytes pc = .ok (.putfield index, 3)) (hp : pc + 3 = pc') (g : ∀ T' h', Wk l Z EL y bytes maxL ret R B0 p e s m args below meth c B T' h' k n → Wr h h' a (RoadKit.slotOf Z O nm d) v → Go l Z EL R B0 Q p e s m below T' pc' ls st) : Go l Z EL R B0 Q p e s m below T pc ls (v :: .ref a :: st) := by
  obtain ⟨i0, hE, hz, hB, V, locs, q0, X1, eT, hZ, hown, hS, hq, hF, hC, hK⟩ := X
  obtain ⟨T', h', X', e', W, st'⟩ := RoadKit.putF X1 i0.1 hZ hown (host := "") (Or.inl w) via eT F E (L.imp id fun q => ⟨q.1, q.2.1, i0.2.2.2.2.2.1.trans q.2.2⟩) wi hty hn hf (g := mkF m pc ls (v :: .ref a :: st)) rfl rfl (i0.2.1 ▸ hd)
  subst hp
  have S : Safe Z EL V h a := fun r => hnb (hK a r)
  exact Go.step st' (g T' h' ⟨i0, hE.wr W ha, by rw [W.size]; exact hz, hB, V, _, q0, X', e', hZ, hown, hS, by rw [W.size]; exact hq, Fr.snoc X' hF ha, hC.wr W S, fun x r => hK x ((hC.wrStep W S).2 x r)⟩ W)
theorem W.cast (X : Wk l Z EL y bytes maxL ret R B0 p e s m args below meth c B T h k n) {index : Nat} {K : String} (w : (Jvm.Cond.classLink y.cls index K).before a0 Z = true) (F : Ins Z h a K true) (hd : decode bytes pc = .ok (.checkcast index, 3)) (hp : pc + 3 = pc') (g : ∀ T', Wk l Z EL y bytes maxL ret R B0 p e s m args below meth c B T' h k n → Go l Z EL R B0 Q p e s m below T' pc' ls (.ref a :: st)) : Go l Z EL R B0 Q p e s m below T pc ls (.ref a :: st) := by
  obtain ⟨i0, hE, hz, hB, V, locs, q0, X1, eT, hZ, hown, hS, hq, hF, hC, hK⟩ := X
  obtain ⟨T', X', e', st'⟩ := RoadKit.castY X1 i0.1 hZ hown w eT F (g := mkF m pc ls (.ref a :: st)) rfl rfl (i0.2.1 ▸ hd)
  subst hp
  exact Go.step st' (g T' ⟨i0, hE, hz, hB, V, locs, q0, X', e', hZ, hown, hS, hq, hF, hC, hK⟩)
theorem W.instY (X : Wk l Z EL y bytes maxL ret R B0 p e s m args below meth c B T h k n) {index : Nat} {K : String} (w : (Jvm.Cond.classLink y.cls index K).before a0 Z = true) (F : Ins Z h a K true) (hd : decode bytes pc = .ok (.instanceof index, 3)) (hp : pc + 3 = pc') (g : ∀ T', Wk l Z EL y bytes maxL ret R B0 p e s m args below meth c B T' h k n → Go l Z EL R B0 Q p e s m below T' pc' ls (.int 1 :: st)) : Go l Z EL R B0 Q p e s m below T pc ls (.ref a :: st) := by
  obtain ⟨i0, hE, hz, hB, V, locs, q0, X1, eT, hZ, hown, hS, hq, hF, hC, hK⟩ := X
  obtain ⟨T', X', e', st'⟩ := RoadKit.instY X1 i0.1 hZ hown w eT F (g := mkF m pc ls (.ref a :: st)) rfl rfl (i0.2.1 ▸ hd)
  subst hp
  exact Go.step st' (g T' ⟨i0, hE, hz, hB, V, locs, q0, X', e', hZ, hown, hS, hq, hF, hC, hK⟩)
theorem W.instN (X : Wk l Z EL y bytes maxL ret R B0 p e s m args below meth c B T h k n) {index : Nat} {K C : String} (w : (Jvm.Cond.classLink y.cls index K).before a0 Z = true) (E : Exa Z h a C) (F : ∃ c t, Z.vm.findClass C = some c ∧ Z.vm.findClass K = some t ∧ Z.vm.assignable c t = false) (hd : decode bytes pc = .ok (.instanceof index, 3)) (hp : pc + 3 = pc') (g : ∀ T', Wk l Z EL y bytes maxL ret R B0 p e s m args below meth c B T' h k n → Go l Z EL R B0 Q p e s m below T' pc' ls (.int 0 :: st)) : Go l Z EL R B0 Q p e s m below T pc ls (.ref a :: st) := by
  obtain ⟨i0, hE, hz, hB, V, locs, q0, X1, eT, hZ, hown, hS, hq, hF, hC, hK⟩ := X
  obtain ⟨T', X', e', st'⟩ := RoadKit.instNo X1 i0.1 hZ hown w eT E F (g := mkF m pc ls (.ref a :: st)) rfl rfl (i0.2.1 ▸ hd)
  subst hp
  exact Go.step st' (g T' ⟨i0, hE, hz, hB, V, locs, q0, X', e', hZ, hown, hS, hq, hF, hC, hK⟩)
theorem W.instNull (X : Wk l Z EL y bytes maxL ret R B0 p e s m args below meth c B T h k n) {index : Nat} (hd : decode bytes pc = .ok (.instanceof index, 3)) (hp : pc + 3 = pc') (g : Go l Z EL R B0 Q p e s m below T pc' ls (.int 0 :: st)) : Go l Z EL R B0 Q p e s m below T pc ls (.null :: st) := by
  obtain ⟨i0, hE, hz, hB, V, locs, q0, X1, eT, hZ, hown, hS, hq, hF, hC, hK⟩ := X
  subst hp
  exact Go.step (fun t hr => Jvm.Stand.instanceofNull X1 i0.1 (g := mkF m pc ls (.null :: st)) rfl rfl (i0.2.1 ▸ hd) t hr) g
theorem inst_ord {K : String} {n : Nat} (w : (Jvm.Cond.instantiable K n).before a0 Z = true) : ∃ t k, Z.vm.findClass K = some t ∧ Z.vm.classes[t]? = some k ∧ k.kind = .ordinary ∧ k.isInterface = false := by
  simp only [Cond.before, Cond.holds, Cond.value] at w
  cases ht : Z.vm.findClass K with
  | none => simp [ht] at w
  | some t =>
    cases hk : Z.vm.classes[t]? with
    | none => simp [ht, hk] at w
    | some k =>
      simp [ht, hk] at w
      exact ⟨t, k, rfl, hk, w.1.1.1, w.1.1.2.1⟩
theorem nsRoot {O K : String} {n : Nat} (wo : (Jvm.Cond.noSuperclass O).before a0 Z = true) (wk : (Jvm.Cond.instantiable K n).before a0 Z = true) (hn' : O ≠ K) : NS Z O K := by
  obtain ⟨t, kt, g0, g2, g5, g7⟩ := inst_ord wk
  obtain ⟨c, k, h1, h2, h3, -, -⟩ := Cond.noSuperclass_spec wo
  have ne := ids_ne h1 g0 hn'
  refine ⟨c, t, h1, g0, fun fuel => ?_⟩
  cases fuel with
  | zero => rfl
  | succ f => simp [Vm.isSubclassAux, ne, h2, h3]
theorem nsNo {C S K : String} {n : Nat} (w : (Jvm.Cond.superclass C S).before a0 Z = true) (wk : (Jvm.Cond.instantiable K n).before a0 Z = true) (N : NS Z S K) (hn : C ≠ K) : ∃ c t, Z.vm.findClass C = some c ∧ Z.vm.findClass K = some t ∧ Z.vm.assignable c t = false := by
  obtain ⟨t, kt, g0, g2, g5, g7⟩ := inst_ord wk
  obtain ⟨c, t', h0, g0', n3⟩ := NS.step w N hn
  cases g0.symm.trans g0'
  obtain ⟨p, k, kp, h1, h2, h3, h4, h5, -, h7⟩ := Cond.superclass_spec h0 w
  have ne := ids_ne h0 g0 hn
  refine ⟨c, t, h0, g0, ?_⟩
  show Z.vm.assignableAux (255 + 1) c t = false
  simp [Vm.assignableAux, ne, h2, g2, h5, g5, g7, Vm.isSubclass, n3]
theorem En.ext (E : En Z B h) (W : Ext h h') : En Z B h' := ⟨⟨Nat.le_trans E.1.1 W.1, fun x c q => W.2 x c (E.1.2 x c q)⟩, fun x r => Nat.lt_of_lt_of_le (E.2 x r) W.1⟩
theorem keepE (E : Ext h h') : Keep h h' [] := (Keep.refl h []).ext E
theorem W.new (X : Wk l Z EL y bytes maxL ret R B0 p e s m args below meth c B T h k n) {index sz : Nat} {C : String} (w : (Jvm.Cond.classLink y.cls index C).before a0 Z = true) (wi : (Jvm.Cond.instantiable C sz).before a0 Z = true) (wz : (Jvm.Cond.initialized C).before a0 Z = true) (hd : decode bytes pc = .ok (.new index, 3)) (hp : pc + 3 = pc') {k' n' : Nat} (hk : k + 1 ≤ k') (hn : n + sz ≤ n') (hk' : k' ≤ R.cells) (hn' : n' ≤ R.slots)
    (g : ∀ T' h' a, Wk l Z EL y bytes maxL ret R B0 p e s m args below meth c B T' h' k' n' → Keep h h' [] → h.size ≤ a → Z.heap.size ≤ a → ¬ B a → Exa Z h' a C → (∀ {O nm d : String} {ty : FieldType}, Laid Z a0 C O nm d → parseFieldDescriptor d = some ty → Fld Z h' a O nm d (defaultValue ty)) → Go l Z EL R B0 Q p e s m below T' pc' ls (.ref a :: st)) : Go l Z EL R B0 Q p e s m below T pc ls st := by
  have X0 := X
  obtain ⟨i0, hE, hz, hB, V, locs, q0, X1, eT, hZ, hown, hS, hq, hF, hC, hK⟩ := X
  obtain ⟨T', h', X', e', E, A, D, -, st'⟩ := RoadKit.newO X1 i0.1 hZ hown w wi wz eT (g := mkF m pc ls st) rfl (i0.2.1 ▸ hd) (Nat.le_trans hk hk') (Nat.le_trans hn hn')
  subst hp
  exact Go.step st' (g T' h' h.size ⟨i0, hE.ext E, Nat.le_trans hz E.1, hB, V, locs, q0, X'.mono hk hn, e', hZ, hown, hS, Nat.le_trans hq E.1, hF, hC.ext E, fun x r => hK x ((hC.step fun _ _ _ q => E.2 _ _ q).2 x r)⟩ (keepE E) (Nat.le_refl _) X0.z0 (X0.nb (Nat.le_refl _)) A D)
theorem W.newA (X : Wk l Z EL y bytes maxL ret R B0 p e s m args below meth c B T h k n) {aty : ArrayType} {z : Int32} {cap : Nat} (w : (Jvm.Cond.arrayClass (newarray.typeOf aty)).before a0 Z = true) (hd : decode bytes pc = .ok (.newarray aty, 2)) (hz0 : ¬ z < 0) (hcap : z.toNatClampNeg ≤ cap) (hcb : cap * 8 ≤ 536870912) (hp : pc + 2 = pc') {k' n' : Nat} (hk : k + 1 ≤ k') (hn : n + cap ≤ n') (hk' : k' ≤ R.cells) (hn' : n' ≤ R.slots)
    (g : ∀ T' h' a, Wk l Z EL y bytes maxL ret R B0 p e s m args below meth c B T' h' k' n' → Keep h h' [] → h.size ≤ a → Z.heap.size ≤ a → ¬ B a → Ar Z h' a (newarray.typeOf aty) (List.replicate z.toNatClampNeg (defaultValue (newarray.typeOf aty))) → Go l Z EL R B0 Q p e s m below T' pc' ls (.ref a :: st)) : Go l Z EL R B0 Q p e s m below T pc ls (.int z :: st) := by
  have X0 := X
  obtain ⟨i0, hE, hz, hB, V, locs, q0, X1, eT, hZ, hown, hS, hq, hF, hC, hK⟩ := X
  obtain ⟨T', h', cA, X', e', E, A, st'⟩ := RoadKit.newP X1 i0.1 hZ w eT (g := mkF m pc ls (.int z :: st)) rfl (i0.2.1 ▸ hd) rfl hz0 hcap hcb (Nat.le_trans hk hk') (Nat.le_trans hn hn')
  subst hp
  exact Go.step st' (g T' h' h.size ⟨i0, hE.ext E, Nat.le_trans hz E.1, hB, V, locs, q0, X'.mono hk hn, e', hZ, hown, hS, Nat.le_trans hq E.1, hF, hC.ext E, fun x r => hK x ((hC.step fun _ _ _ q => E.2 _ _ q).2 x r)⟩ (keepE E) (Nat.le_refl _) X0.z0 (X0.nb (Nat.le_refl _)) (Ar.new A hz0))
theorem W.newR (X : Wk l Z EL y bytes maxL ret R B0 p e s m args below meth c B T h k n) {index : Nat} {C : String} {z : Int32} {cap : Nat} (w1 : (Jvm.Cond.classLink y.cls index C).before a0 Z = true) (w2 : (Jvm.Cond.arrayOver (.object C)).before a0 Z = true) (hd : decode bytes pc = .ok (.anewarray index, 3)) (hz0 : ¬ z < 0) (hcap : z.toNatClampNeg ≤ cap) (hcb : cap * 8 ≤ 536870912) (hp : pc + 3 = pc') {k' n' : Nat} (hk : k + 1 ≤ k') (hn : n + cap ≤ n') (hk' : k' ≤ R.cells) (hn' : n' ≤ R.slots)
    (g : ∀ T' h' a, Wk l Z EL y bytes maxL ret R B0 p e s m args below meth c B T' h' k' n' → Keep h h' [] → h.size ≤ a → Z.heap.size ≤ a → ¬ B a → Ar Z h' a (.object C) (List.replicate z.toNatClampNeg .null) → Tk Z h' a C → Go l Z EL R B0 Q p e s m below T' pc' ls (.ref a :: st)) : Go l Z EL R B0 Q p e s m below T pc ls (.int z :: st) := by
  have X0 := X
  obtain ⟨i0, hE, hz, hB, V, locs, q0, X1, eT, hZ, hown, hS, hq, hF, hC, hK⟩ := X
  obtain ⟨T', h', cA, X', e', E, A, O, st'⟩ := RoadKit.newR X1 i0.1 hZ hown w1 w2 eT (g := mkF m pc ls (.int z :: st)) rfl (i0.2.1 ▸ hd) rfl hz0 hcap hcb (Nat.le_trans hk hk') (Nat.le_trans hn hn')
  subst hp
  exact Go.step st' (g T' h' h.size ⟨i0, hE.ext E, Nat.le_trans hz E.1, hB, V, locs, q0, X'.mono hk hn, e', hZ, hown, hS, Nat.le_trans hq E.1, hF, hC.ext E, fun x r => hK x ((hC.step fun _ _ _ q => E.2 _ _ q).2 x r)⟩ (keepE E) (Nat.le_refl _) X0.z0 (X0.nb (Nat.le_refl _)) (Ar.new A hz0) ⟨_, _, A, O⟩)
theorem W.alen (X : Wk l Z EL y bytes maxL ret R B0 p e s m args below meth c B T h k n) {z : Int32} (A : Ar Z h a ty vs) (hv : vs.length.toInt32 = z) (hd : decode bytes pc = .ok (.arraylength, 1)) (hp : pc + 1 = pc') (g : Go l Z EL R B0 Q p e s m below T pc' ls (.int z :: st)) : Go l Z EL R B0 Q p e s m below T pc ls (.ref a :: st) := by
  obtain ⟨i0, hE, hz, hB, V, locs, q0, X1, eT, hZ, hown, hS, hq, hF, hC, hK⟩ := X
  obtain ⟨cl, A, e1, -, -⟩ := A
  have e2 : cl.slots.size = vs.length := by rw [← e1]; simp
  subst hp hv
  rw [← e2] at g
  exact Go.step (fun t hr => X1.arraylength i0.1 (by rw [eT]; exact A.1) (State.isArrayOf_alike hZ.alike A.2.1) (g := mkF m pc ls (.ref a :: st)) rfl rfl (i0.2.1 ▸ hd) t hr) g
theorem W.caload (X : Wk l Z EL y bytes maxL ret R B0 p e s m args below meth c B T h k n) {j : Int32} {v : Value} (A : Ar Z h a .char vs) (hj : ¬ j < 0) (hv : vs[j.toNatClampNeg]? = some v) (hd : decode bytes pc = .ok (.caload, 1)) (hp : pc + 1 = pc') (g : Go l Z EL R B0 Q p e s m below T pc' ls (v :: st)) : Go l Z EL R B0 Q p e s m below T pc ls (.int j :: .ref a :: st) := by
  obtain ⟨i0, hE, hz, hB, V, locs, q0, X1, eT, hZ, hown, hS, hq, hF, hC, hK⟩ := X
  obtain ⟨cl, A, e1, -, -⟩ := A
  have e2 : cl.slots.size = vs.length := by rw [← e1]; simp
  have hlt : j.toNatClampNeg < vs.length := (List.getElem?_eq_some_iff.mp hv).1
  subst hp
  exact Go.step (fun t hr => X1.caload i0.1 (by rw [eT]; exact A.1) (State.isArrayOf_alike hZ.alike A.2.1) A.2.2 (fun r => r.elim hj fun z => by omega) (by rw [← Array.getElem?_toList, e1]; exact hv) (g := mkF m pc ls (.int j :: .ref a :: st)) rfl rfl (i0.2.1 ▸ hd) t hr) g
theorem W.baload (X : Wk l Z EL y bytes maxL ret R B0 p e s m args below meth c B T h k n) {j : Int32} {v : Value} (A : Ar Z h a .byte vs) (hj : ¬ j < 0) (hv : vs[j.toNatClampNeg]? = some v) (hd : decode bytes pc = .ok (.baload, 1)) (hp : pc + 1 = pc') (g : Go l Z EL R B0 Q p e s m below T pc' ls (v :: st)) : Go l Z EL R B0 Q p e s m below T pc ls (.int j :: .ref a :: st) := by
  obtain ⟨i0, hE, hz, hB, V, locs, q0, X1, eT, hZ, hown, hS, hq, hF, hC, hK⟩ := X
  obtain ⟨cl, A, e1, -, -⟩ := A
  have e2 : cl.slots.size = vs.length := by rw [← e1]; simp
  have hlt : j.toNatClampNeg < vs.length := (List.getElem?_eq_some_iff.mp hv).1
  subst hp
  exact Go.step (fun t hr => X1.baloadBytes i0.1 (by rw [eT]; exact A.1) (State.isArrayOf_alike hZ.alike A.2.1) A.2.2 (fun r => r.elim hj fun z => by omega) (by rw [← Array.getElem?_toList, e1]; exact hv) (g := mkF m pc ls (.int j :: .ref a :: st)) rfl rfl (i0.2.1 ▸ hd) t hr) g
theorem W.iaload (X : Wk l Z EL y bytes maxL ret R B0 p e s m args below meth c B T h k n) {j : Int32} {v : Value} (A : Ar Z h a .int vs) (hj : ¬ j < 0) (hv : vs[j.toNatClampNeg]? = some v) (hd : decode bytes pc = .ok (.iaload, 1)) (hp : pc + 1 = pc') (g : Go l Z EL R B0 Q p e s m below T pc' ls (v :: st)) : Go l Z EL R B0 Q p e s m below T pc ls (.int j :: .ref a :: st) := by
  obtain ⟨i0, hE, hz, hB, V, locs, q0, X1, eT, hZ, hown, hS, hq, hF, hC, hK⟩ := X
  obtain ⟨cl, A, e1, -, -⟩ := A
  have e2 : cl.slots.size = vs.length := by rw [← e1]; simp
  have hlt : j.toNatClampNeg < vs.length := (List.getElem?_eq_some_iff.mp hv).1
  subst hp
  exact Go.step (fun t hr => X1.iaload i0.1 (by rw [eT]; exact A.1) (State.isArrayOf_alike hZ.alike A.2.1) A.2.2 (fun r => r.elim hj fun z => by omega) (by rw [← Array.getElem?_toList, e1]; exact hv) (g := mkF m pc ls (.int j :: .ref a :: st)) rfl rfl (i0.2.1 ▸ hd) t hr) g
theorem W.laload (X : Wk l Z EL y bytes maxL ret R B0 p e s m args below meth c B T h k n) {j : Int32} {v : Value} (A : Ar Z h a .long vs) (hj : ¬ j < 0) (hv : vs[j.toNatClampNeg]? = some v) (hd : decode bytes pc = .ok (.laload, 1)) (hp : pc + 1 = pc') (g : Go l Z EL R B0 Q p e s m below T pc' ls (v :: st)) : Go l Z EL R B0 Q p e s m below T pc ls (.int j :: .ref a :: st) := by
  obtain ⟨i0, hE, hz, hB, V, locs, q0, X1, eT, hZ, hown, hS, hq, hF, hC, hK⟩ := X
  obtain ⟨cl, A, e1, -, -⟩ := A
  have e2 : cl.slots.size = vs.length := by rw [← e1]; simp
  have hlt : j.toNatClampNeg < vs.length := (List.getElem?_eq_some_iff.mp hv).1
  subst hp
  exact Go.step (fun t hr => X1.laload i0.1 (by rw [eT]; exact A.1) (State.isArrayOf_alike hZ.alike A.2.1) A.2.2 (fun r => r.elim hj fun z => by omega) (by rw [← Array.getElem?_toList, e1]; exact hv) (g := mkF m pc ls (.int j :: .ref a :: st)) rfl rfl (i0.2.1 ▸ hd) t hr) g
theorem W.zaload (X : Wk l Z EL y bytes maxL ret R B0 p e s m args below meth c B T h k n) {j : Int32} {v : Value} (A : Ar Z h a .boolean vs) (hj : ¬ j < 0) (hv : vs[j.toNatClampNeg]? = some v) (hd : decode bytes pc = .ok (.baload, 1)) (hp : pc + 1 = pc') (g : Go l Z EL R B0 Q p e s m below T pc' ls (v :: st)) : Go l Z EL R B0 Q p e s m below T pc ls (.int j :: .ref a :: st) := by
  obtain ⟨i0, hE, hz, hB, V, locs, q0, X1, eT, hZ, hown, hS, hq, hF, hC, hK⟩ := X
  obtain ⟨cl, A, e1, -, -⟩ := A
  have e2 : cl.slots.size = vs.length := by rw [← e1]; simp
  have hlt : j.toNatClampNeg < vs.length := (List.getElem?_eq_some_iff.mp hv).1
  subst hp
  exact Go.step (fun t hr => X1.baloadBooleans i0.1 (by rw [eT]; exact A.1) (State.isArrayOf_alike hZ.alike A.2.1) A.2.2 (fun r => r.elim hj fun z => by omega) (by rw [← Array.getElem?_toList, e1]; exact hv) (g := mkF m pc ls (.int j :: .ref a :: st)) rfl rfl (i0.2.1 ▸ hd) t hr) g
theorem W.aaload (X : Wk l Z EL y bytes maxL ret R B0 p e s m args below meth c B T h k n) {j : Int32} {v : Value} (A : Ar Z h a ty vs) (hty : ty.isReference = true) (hj : ¬ j < 0) (hv : vs[j.toNatClampNeg]? = some v) (hd : decode bytes pc = .ok (.aaload, 1)) (hp : pc + 1 = pc') (g : Go l Z EL R B0 Q p e s m below T pc' ls (v :: st)) : Go l Z EL R B0 Q p e s m below T pc ls (.int j :: .ref a :: st) := by
  obtain ⟨i0, hE, hz, hB, V, locs, q0, X1, eT, hZ, hown, hS, hq, hF, hC, hK⟩ := X
  obtain ⟨cl, A, e1, -, -⟩ := A
  have e2 : cl.slots.size = vs.length := by rw [← e1]; simp
  have hlt : j.toNatClampNeg < vs.length := (List.getElem?_eq_some_iff.mp hv).1
  subst hp
  exact Go.step (fun t hr => X1.aaload i0.1 (by rw [eT]; exact A.1) (State.isArrayOf_alike hZ.alike A.2.1) hty A.2.2 (fun r => r.elim hj fun z => by omega) (by rw [← Array.getElem?_toList, e1]; exact hv) (g := mkF m pc ls (.int j :: .ref a :: st)) rfl rfl (i0.2.1 ▸ hd) t hr) g
theorem Ar.set {cl : Cell} {i : Nat} {v : Value} (A : Arr Z h a cl ty) (e1 : cl.slots.toList = vs) (hl : vs.length < 2 ^ 31) (hf : ∀ v ∈ vs, fits ty v = true) (hv : fits ty v = true) (W : Wr h h' a i v) : Ar Z h' a ty (vs.set i v) :=
  ⟨_, A.same W, by simp [Cell.setSlot, ← e1], by simpa using hl, fun w hw => (List.mem_or_eq_of_mem_set hw).elim (hf w) fun q => q ▸ hv⟩
theorem W.castore (X : Wk l Z EL y bytes maxL ret R B0 p e s m args below meth c B T h k n) {j : Int32} {x x' : Int32} {i : Nat} (A : Ar Z h a .char vs) (hj : ¬ j < 0) (hi : j.toNatClampNeg = i) (hl : i < vs.length) (hx : nar .char x = x') (ha : Z.heap.size ≤ a) (hnb : ¬ B a) (hd : decode bytes pc = .ok (.castore, 1)) (hp : pc + 1 = pc') (g : ∀ T' h', Wk l Z EL y bytes maxL ret R B0 p e s m args below meth c B T' h' k n → Keep h h' [a] → Ar Z h' a .char (vs.set i (.int x')) → Go l Z EL R B0 Q p e s m below T' pc' ls st) : Go l Z EL R B0 Q p e s m below T pc ls (.int x :: .int j :: .ref a :: st) := by
  obtain ⟨i0, hE, hz, hB, V, locs, q0, X1, eT, hZ, hown, hS, hq, hF, hC, hK⟩ := X
  obtain ⟨cl, A, e1, hl31, hfit⟩ := A
  have e2 : cl.slots.size = vs.length := by rw [← e1]; simp
  subst hi hx
  obtain ⟨T', h', X', e', W, st'⟩ := RoadKit.stC X1 i0.1 hZ eT A (fun r => r.elim hj fun z => by omega) (g := mkF m pc ls (.int x :: .int j :: .ref a :: st)) rfl rfl (i0.2.1 ▸ hd)
  subst hp
  have S : Safe Z EL V h a := fun r => hnb (hK a r)
  exact Go.step st' (g T' h' ⟨i0, hE.wr W ha, by rw [W.size]; exact hz, hB, V, _, q0, X', e', hZ, hown, hS, by rw [W.size]; exact hq, Fr.snoc X' hF ha, hC.wr W S, fun x r => hK x ((hC.wrStep W S).2 x r)⟩ (Keep.of_wr W) (Ar.set A e1 hl31 hfit (fits_nar_char x) W))
theorem W.bastore (X : Wk l Z EL y bytes maxL ret R B0 p e s m args below meth c B T h k n) {j : Int32} {x x' : Int32} {i : Nat} (A : Ar Z h a .byte vs) (hj : ¬ j < 0) (hi : j.toNatClampNeg = i) (hl : i < vs.length) (hx : nar .byte x = x') (ha : Z.heap.size ≤ a) (hnb : ¬ B a) (hd : decode bytes pc = .ok (.bastore, 1)) (hp : pc + 1 = pc') (g : ∀ T' h', Wk l Z EL y bytes maxL ret R B0 p e s m args below meth c B T' h' k n → Keep h h' [a] → Ar Z h' a .byte (vs.set i (.int x')) → Go l Z EL R B0 Q p e s m below T' pc' ls st) : Go l Z EL R B0 Q p e s m below T pc ls (.int x :: .int j :: .ref a :: st) := by
  obtain ⟨i0, hE, hz, hB, V, locs, q0, X1, eT, hZ, hown, hS, hq, hF, hC, hK⟩ := X
  obtain ⟨cl, A, e1, hl31, hfit⟩ := A
  have e2 : cl.slots.size = vs.length := by rw [← e1]; simp
  subst hi hx
  obtain ⟨T', h', X', e', W, st'⟩ := RoadKit.stB X1 i0.1 hZ eT A (fun r => r.elim hj fun z => by omega) (g := mkF m pc ls (.int x :: .int j :: .ref a :: st)) rfl rfl (i0.2.1 ▸ hd)
  subst hp
  have S : Safe Z EL V h a := fun r => hnb (hK a r)
  exact Go.step st' (g T' h' ⟨i0, hE.wr W ha, by rw [W.size]; exact hz, hB, V, _, q0, X', e', hZ, hown, hS, by rw [W.size]; exact hq, Fr.snoc X' hF ha, hC.wr W S, fun x r => hK x ((hC.wrStep W S).2 x r)⟩ (Keep.of_wr W) (Ar.set A e1 hl31 hfit (fits_nar_byte x) W))
theorem W.iastore (X : Wk l Z EL y bytes maxL ret R B0 p e s m args below meth c B T h k n) {j : Int32} {x x' : Int32} {i : Nat} (A : Ar Z h a .int vs) (hj : ¬ j < 0) (hi : j.toNatClampNeg = i) (hl : i < vs.length) (hx : x = x') (ha : Z.heap.size ≤ a) (hnb : ¬ B a) (hd : decode bytes pc = .ok (.iastore, 1)) (hp : pc + 1 = pc') (g : ∀ T' h', Wk l Z EL y bytes maxL ret R B0 p e s m args below meth c B T' h' k n → Keep h h' [a] → Ar Z h' a .int (vs.set i (.int x')) → Go l Z EL R B0 Q p e s m below T' pc' ls st) : Go l Z EL R B0 Q p e s m below T pc ls (.int x :: .int j :: .ref a :: st) := by
  obtain ⟨i0, hE, hz, hB, V, locs, q0, X1, eT, hZ, hown, hS, hq, hF, hC, hK⟩ := X
  obtain ⟨cl, A, e1, hl31, hfit⟩ := A
  have e2 : cl.slots.size = vs.length := by rw [← e1]; simp
  subst hi hx
  obtain ⟨T', h', X', e', W, st'⟩ := RoadKit.stI X1 i0.1 hZ eT A (fun r => r.elim hj fun z => by omega) (g := mkF m pc ls (.int x :: .int j :: .ref a :: st)) rfl rfl (i0.2.1 ▸ hd)
  subst hp
  have S : Safe Z EL V h a := fun r => hnb (hK a r)
  exact Go.step st' (g T' h' ⟨i0, hE.wr W ha, by rw [W.size]; exact hz, hB, V, _, q0, X', e', hZ, hown, hS, by rw [W.size]; exact hq, Fr.snoc X' hF ha, hC.wr W S, fun x r => hK x ((hC.wrStep W S).2 x r)⟩ (Keep.of_wr W) (Ar.set A e1 hl31 hfit (rfl) W))
theorem W.lastore (X : Wk l Z EL y bytes maxL ret R B0 p e s m args below meth c B T h k n) {j : Int32} {x x' : Int64} {i : Nat} (A : Ar Z h a .long vs) (hj : ¬ j < 0) (hi : j.toNatClampNeg = i) (hl : i < vs.length) (hx : x = x') (ha : Z.heap.size ≤ a) (hnb : ¬ B a) (hd : decode bytes pc = .ok (.lastore, 1)) (hp : pc + 1 = pc') (g : ∀ T' h', Wk l Z EL y bytes maxL ret R B0 p e s m args below meth c B T' h' k n → Keep h h' [a] → Ar Z h' a .long (vs.set i (.long x')) → Go l Z EL R B0 Q p e s m below T' pc' ls st) : Go l Z EL R B0 Q p e s m below T pc ls (.long x :: .int j :: .ref a :: st) := by
  obtain ⟨i0, hE, hz, hB, V, locs, q0, X1, eT, hZ, hown, hS, hq, hF, hC, hK⟩ := X
  obtain ⟨cl, A, e1, hl31, hfit⟩ := A
  have e2 : cl.slots.size = vs.length := by rw [← e1]; simp
  subst hi hx
  obtain ⟨T', h', X', e', W, st'⟩ := RoadKit.stJ X1 i0.1 hZ eT A (fun r => r.elim hj fun z => by omega) (g := mkF m pc ls (.long x :: .int j :: .ref a :: st)) rfl rfl (i0.2.1 ▸ hd)
  subst hp
  have S : Safe Z EL V h a := fun r => hnb (hK a r)
  exact Go.step st' (g T' h' ⟨i0, hE.wr W ha, by rw [W.size]; exact hz, hB, V, _, q0, X', e', hZ, hown, hS, by rw [W.size]; exact hq, Fr.snoc X' hF ha, hC.wr W S, fun x r => hK x ((hC.wrStep W S).2 x r)⟩ (Keep.of_wr W) (Ar.set A e1 hl31 hfit (rfl) W))
theorem W.aastore (X : Wk l Z EL y bytes maxL ret R B0 p e s m args below meth c B T h k n) {j : Int32} {v : Value} {i : Nat} (A : Ar Z h a ty vs) (hj : ¬ j < 0) (hi : j.toNatClampNeg = i) (hl : i < vs.length) (hty : ty.isReference = true) (F : Sto Z h a v) (hvf : fits ty v = true) (ha : Z.heap.size ≤ a) (hnb : ¬ B a) (hd : decode bytes pc = .ok (.aastore, 1)) (hp : pc + 1 = pc') (g : ∀ T' h', Wk l Z EL y bytes maxL ret R B0 p e s m args below meth c B T' h' k n → Keep h h' [a] → Ar Z h' a ty (vs.set i v) → Go l Z EL R B0 Q p e s m below T' pc' ls st) : Go l Z EL R B0 Q p e s m below T pc ls (v :: .int j :: .ref a :: st) := by
  obtain ⟨i0, hE, hz, hB, V, locs, q0, X1, eT, hZ, hown, hS, hq, hF, hC, hK⟩ := X
  obtain ⟨cl, A, e1, hl31, hfit⟩ := A
  have e2 : cl.slots.size = vs.length := by rw [← e1]; simp
  subst hi
  obtain ⟨T', h', X', e', W, st'⟩ := RoadKit.stR X1 i0.1 hZ eT A (fun r => r.elim hj fun z => by omega) hty F (g := mkF m pc ls (v :: .int j :: .ref a :: st)) rfl rfl (i0.2.1 ▸ hd)
  subst hp
  have S : Safe Z EL V h a := fun r => hnb (hK a r)
  exact Go.step st' (g T' h' ⟨i0, hE.wr W ha, by rw [W.size]; exact hz, hB, V, _, q0, X', e', hZ, hown, hS, by rw [W.size]; exact hq, Fr.snoc X' hF ha, hC.wr W S, fun x r => hK x ((hC.wrStep W S).2 x r)⟩ (Keep.of_wr W) (Ar.set A e1 hl31 hfit hvf W))
theorem Sto.tk {C : String} (F : Tk Z h a C) (I : Ins Z h b C true) : Sto Z h a (.ref b) := by obtain ⟨c, ty, A, O⟩ := F; exact Sto.of A O I
/-! Object.<init> -/
theorem W.initO (X : Wk l Z EL y bytes maxL ret R B0 p e s m args below meth c B T h k n) {idx W : Nat} (w1 : (Jvm.Cond.methodLink y.cls idx Lib.objectInit).before a0 Z = true) (w2 : (Jvm.Cond.instanceMethod Lib.objectInit).before a0 Z = true) (w3 : (Jvm.Cond.code Lib.objectInit ⟨#[0xb1]⟩ 1 none).before a0 Z = true) (hd : decode bytes pc = .ok (.invokespecial idx, 3)) (hsize : ls.size = maxL) (hf : 1 ≤ R.frames) (hW : (st.map fun v => v.category).sum ≤ W) (hl : W + 12 ≤ R.locals) (hp : pc + 3 = pc') (g : ∀ T', Wk l Z EL y bytes maxL ret R B0 p e s m args below meth c B T' h k n → Go l Z EL R B0 Q p e s m below T' pc' ls st) : Go l Z EL R B0 Q p e s m below T pc ls (.ref a :: st) := by
  obtain ⟨i0, hE, hz, hB, V, locs, q0, X1, eT, hZ, hown, hS, hq, hF, hC, hK⟩ := X
  obtain ⟨T', X', e', st'⟩ := RoadKit.initO X1 i0.1 hZ hown w1 w2 w3 eT (g := mkF m pc ls (.ref a :: st)) rfl (hsize.trans i0.2.2.1.symm) rfl (i0.2.1 ▸ hd) hf (W := W) (by show 2 * 0 + _ ≤ _; omega) hl
  subst hp
  exact Go.step st' (g T' ⟨i0, hE, hz, hB, V, locs, q0, X', e', hZ, hown, hS, hq, hF, hC, hK⟩)
theorem sameM {C : String} {z z' : MethodName} (hc : z.cls = z'.cls) (hy : z.cls ≠ "java/lang/invoke/MethodHandle" ∧ z.cls ≠ "java/lang/invoke/VarHandle") (wi : (Jvm.Cond.instanceMethod z).before a0 Z = true) (ws : (Jvm.Cond.selects C z' z').before a0 Z = true) : (Jvm.Cond.sameMethod z.cls z.cls z.name z.desc).before a0 Z = true := by
  obtain ⟨mk, methM, hnamed, -, -, -⟩ := Cond.instanceMethod_spec wi
  obtain ⟨c2, r2, m2, q1, q2, q3, q4, kP, hkP, hkPi⟩ := Cond.selects_spec ws
  have f1 := findClass_of_methodNamed hnamed
  have f2 := findClass_of_methodNamed q3
  rw [← hc, f1] at f2
  have e : mk.cls = m2.cls := Option.some.inj f2
  have hf : Z.methodFound? z.cls z.name z.desc = some mk := State.methodFound?_of_named hnamed hy
  have hn' : Z.methodNamed? ⟨z.cls, z.name, z.desc⟩ = some mk := hnamed
  simp [Cond.before, Cond.holds, Cond.value, f1, hf, hn', e, hkP, hkPi]
theorem nfM {C : String} {z z' : MethodName} (hc : z.cls = z'.cls) (ws : (Jvm.Cond.selects C z' z').before a0 Z = true) : NotFace Z z := fun r0 h0 => by
  obtain ⟨c2, r2, m2, q1, q2, q3, q4, kP, hkP, hkPi⟩ := Cond.selects_spec ws
  have f1 := findClass_of_methodNamed h0
  have f2 := findClass_of_methodNamed q3
  rw [← hc, f1] at f2
  have e : r0.cls = m2.cls := Option.some.inj f2
  exact ⟨kP, by rw [e]; exact hkP, hkPi⟩
/-! calls -/
theorem BackS.con {z : MethodName} {zb : ByteArray} {zl len W : Nat} {zr : Option FieldType} {rm : Room} {as' : Array Value} {Qc : Option Value → Heap → (Addr → Prop) → Prop} {V : Vm} (K : Con l Z EL [] z zb zl zr rm B h as' Qc) (hZ : Z.Warmed39 V) (wc : (Jvm.Cond.code z zb zl zr).before a0 Z = true) (wz : (Jvm.Cond.initialized z.cls).before a0 Z = true) (hf : rm.frames + 1 ≤ R.frames) (hl : W + (zl + 11) + rm.locals ≤ R.locals) {a1 : Array Value} (hEL : EW Z a1 EL) (H : CHv Z EL V h) (hK : ∀ x, Bk Z EL V h x → B x) :
    BackS l R p e below (s.setVm V) args z len W (fun A a => a = as' ∧ A.U.heap = h ∧ A.cells + rm.cells ≤ R.cells ∧ A.slots + rm.slots ≤ R.slots)
      (fun A _ v B1 => ∃ L B', B1.locs = A.locs ++ L ∧ B1.cells = A.cells + rm.cells ∧ B1.slots = A.slots + rm.slots ∧ Fr Z.heap.size L ∧ CHv Z EL B1.U.vm B1.U.heap ∧ (∀ x, Bk Z EL B1.U.vm B1.U.heap x → B' x) ∧ (∀ x, B' x → B x ∨ h.size ≤ x) ∧ En Z B' B1.U.heap ∧ h.size ≤ B1.U.heap.size ∧ Qc v B1.U.heap B') :=
  BackS.of_freeW (bytes := zb) (maxL := zl) (ret := zr) (E := fun _ first o t L k n => k = rm.cells ∧ n = rm.slots ∧ ∃ v B', o = .returned v ∧ Fr Z.heap.size L ∧ CHv Z EL t.vm t.heap ∧ (∀ x, Bk Z EL t.vm t.heap x → B' x) ∧ (∀ x, B' x → B x ∨ h.size ≤ x) ∧ En Z B' t.heap ∧ h.size ≤ t.heap.size ∧ Qc v t.heap B') K hf hl
    (fun m meth c A a Y hp => have hU : Z.Warmed39 A.U.vm := wtrans (s := s.setVm V) hZ Y.warmed
      ⟨by show (Jvm.Cond.and _ .tt).before a A.U = true; rw [Cond.before_and, mv hU wc]; rfl, mv hU wc, mv hU wz, hp.2.2.1, hp.2.2.2⟩)
    (fun m meth c A a g mk Y hp => ⟨hp.1, wtrans (s := s.setVm V) hZ Y.warmed, hp.2.1, (CHv.at Y hZ hEL H).1, fun x r => by
      rcases (CHv.at Y hZ hEL H).2.2 x r with q | q
      · exact hK x q
      · obtain ⟨cell, q2⟩ := r.there
        exact absurd (Array.getElem?_eq_some_iff.mp q2).1 (Nat.not_lt.mpr q)⟩) (fun _ _ _ _ _ _ _ _ _ => trivial)
    (fun _ _ _ _ ⟨v, L, B', h1, h2, h3, h4, h5, h6, h7, h8, h9⟩ => ⟨L, _, _, h9, rfl, rfl, v, B', h1, h2, h3, h4, h5, h6, h7, h8⟩)
    (fun m meth c A a g mk v t L k n Y hp _ _ ⟨e1, e2, v', B', e3, e4, e5, e6, e7, e8, e9, e10⟩ => by
      cases e3; subst e1 e2
      exact ⟨L, B', rfl, rfl, rfl, e4, e5, e6, e7, e8, e9, e10⟩)
/-- behind a call -/
theorem Wk.after {V : Vm} {q0 : Nat} {locs : List Loc} {U : State} {L : List Loc} {B' : Addr → Prop} {k1 n1 : Nat} (i0 : p.tables.exec = Jvm.exec ∧ c.code = bytes ∧ c.maxLocals = maxL ∧ meth.sig.returnType = ret ∧ meth.locks = false ∧ meth.name = y.name ∧ ∃ a1, EW Z a1 EL) (hz : s.heap.size ≤ h.size) (hB : ∀ x, B x → B0 x ∨ s.heap.size ≤ x) (hZ : Z.Warmed39 V) (hown : V.findClass y.cls = some m.cls) (hS : s.Since V q0) (hq : q0 ≤ h.size) (hF : Fr Z.heap.size locs)
    (X2 : Stand p l e R ((s.setVm V).setVm U.vm) m args below meth c U (locs ++ L) k1 n1) (hS2 : (s.setVm V).Since U.vm U.heap.size) (r1 : Fr Z.heap.size L) (r2 : CHv Z EL U.vm U.heap) (r3 : ∀ x, Bk Z EL U.vm U.heap x → B' x) (r4 : ∀ x, B' x → B x ∨ h.size ≤ x) (r5 : En Z B' U.heap) (r6 : h.size ≤ U.heap.size) : Wk l Z EL y bytes maxL ret R B0 p e s m args below meth c B' U U.heap k1 n1 :=
  ⟨i0, r5, Nat.le_trans hz r6, fun x r => (r4 x r).elim (hB x) fun q => Or.inr (Nat.le_trans hz q), U.vm, locs ++ L, U.heap.size, X2, rfl, State.Warmed39.trans (t := s.setVm V) hZ hS2.1, (hS2.1.alike.findClass _ _).trans hown, hS.trans hS2 (Nat.le_trans hq r6), Nat.le_refl _, hF.app r1, r2, r3⟩
theorem W.callS (X : Wk l Z EL y bytes maxL ret R B0 p e s m args below meth c B T h k n) {index : Nat} {z : MethodName} {zb : ByteArray} {zl W : Nat} {zr : Option FieldType} {rm : Room} {as' : Array Value} {Qc : Option Value → Heap → (Addr → Prop) → Prop} {argsL stk : List Value} (K : Con l Z EL [] z zb zl zr rm B h as' Qc) (w1 : (Jvm.Cond.methodLink y.cls index z).before a0 Z = true) (w2 : (Jvm.Cond.static z).before a0 Z = true) (wc : (Jvm.Cond.code z zb zl zr).before a0 Z = true) (wz : (Jvm.Cond.initialized z.cls).before a0 Z = true) (hy : z.cls ≠ "java/lang/invoke/MethodHandle" ∧ z.cls ≠ "java/lang/invoke/VarHandle") (hf : rm.frames + 1 ≤ R.frames) (hl : W + (zl + 11) + rm.locals ≤ R.locals) (hsize : ls.size = maxL)
    (hlen : ∀ sig, parseMethodDescriptor z.desc = some sig → argsL.length = sig.parameters.length) (has : argsL.toArray = as') (hstk : stk = argsL.reverse ++ st) (hW : (st.map fun v => v.category).sum ≤ W) (hd : decode bytes pc = .ok (.invokestatic index, 3)) (hp : pc + 3 = pc') {k' n' : Nat} (hk1 : k + rm.cells ≤ k') (hn1 : n + rm.slots ≤ n') (hk2 : k' ≤ R.cells) (hn2 : n' ≤ R.slots)
    (g : ∀ T' h' B' v, Wk l Z EL y bytes maxL ret R B0 p e s m args below meth c B' T' h' k' n' → h.size ≤ h'.size → (∀ x, B' x → B x ∨ h.size ≤ x) → Qc v h' B' → Go l Z EL R B0 Q p e s m below T' pc' ls (v.toList ++ st)) : Go l Z EL R B0 Q p e s m below T pc ls stk := by
  obtain ⟨i0, hE, hz, hB, V, locs, q0, X1, eT, hZ, hown, hS, hq, hF, hC, hK⟩ := X
  obtain ⟨a1, hEL⟩ := i0.2.2.2.2.2.2
  obtain ⟨v, vm₁, ⟨U, Lu, ku, nu⟩, hWv, X2, hS2, hgr, ⟨L, B', e1, e2, e3, r1, r2, r3, r4, r5, r6, r7⟩, st'⟩ := Jvm.RoadKit.callSS X1 i0.1 (y := z) hown (mv (s := s.setVm V) hZ w1) (mv (s := s.setVm V) hZ w2) (mv (s := s.setVm V) hZ wz) (mv (s := s.setVm V) hZ wc) hy (BackS.con K hZ wc wz hf hl hEL hC hK) (g := mkF m pc ls stk) rfl (hsize.trans i0.2.2.1.symm) (argsL := argsL) (rest := st) hlen hstk (by show 2 * 0 + _ ≤ _; omega) (i0.2.1 ▸ hd) (fun _ _ => ⟨has, eT, by show k + _ ≤ _; omega, by show n + _ ≤ _; omega⟩)
  dsimp only [Pt.U, Pt.locs, Pt.cells, Pt.slots] at X2 hS2 hgr e1 e2 e3 r2 r3 r5 r6 r7 st'
  subst e1 e2 e3 hp
  exact Go.via st' (g U U.heap B' v ((Wk.after i0 hz hB hZ hown hS hq hF X2 hS2 r1 r2 r3 r4 r5 r6).mono hk1 hn1) r6 r4 r7)
theorem W.callV (X : Wk l Z EL y bytes maxL ret R B0 p e s m args below meth c B T h k n) {index : Nat} {z : MethodName} {zi : MethodName} {C : String} {zb : ByteArray} {zl W : Nat} {zr : Option FieldType} {rm : Room} {as' : Array Value} {Qc : Option Value → Heap → (Addr → Prop) → Prop} {argsL stk : List Value} (K : Con l Z EL [] z zb zl zr rm B h as' Qc) (w1 : (Jvm.Cond.methodLink y.cls index zi).before a0 Z = true) (w2 : (Jvm.Cond.declares zi).before a0 Z = true) (w3 : NotFace Z zi) (w4 : (Jvm.Cond.selects C zi z).before a0 Z = true) (w5 : (Jvm.Cond.instanceMethod z).before a0 Z = true) (E : Exa Z h a C) (wc : (Jvm.Cond.code z zb zl zr).before a0 Z = true) (wz : (Jvm.Cond.initialized z.cls).before a0 Z = true) (hy : zi.cls ≠ "java/lang/invoke/MethodHandle" ∧ zi.cls ≠ "java/lang/invoke/VarHandle") (hf : rm.frames + 1 ≤ R.frames) (hl : W + (zl + 11) + rm.locals ≤ R.locals) (hsize : ls.size = maxL)
    (hlen : ∀ sig, parseMethodDescriptor zi.desc = some sig → argsL.length = sig.parameters.length) (has : (.ref a :: argsL).toArray = as') (hstk : stk = argsL.reverse ++ .ref a :: st) (hW : (st.map fun v => v.category).sum ≤ W) (hd : decode bytes pc = .ok (.invokevirtual index, 3)) (hp : pc + 3 = pc') {k' n' : Nat} (hk1 : k + rm.cells ≤ k') (hn1 : n + rm.slots ≤ n') (hk2 : k' ≤ R.cells) (hn2 : n' ≤ R.slots)
    (g : ∀ T' h' B' v, Wk l Z EL y bytes maxL ret R B0 p e s m args below meth c B' T' h' k' n' → h.size ≤ h'.size → (∀ x, B' x → B x ∨ h.size ≤ x) → Qc v h' B' → Go l Z EL R B0 Q p e s m below T' pc' ls (v.toList ++ st)) : Go l Z EL R B0 Q p e s m below T pc ls stk := by
  obtain ⟨i0, hE, hz, hB, V, locs, q0, X1, eT, hZ, hown, hS, hq, hF, hC, hK⟩ := X
  obtain ⟨a1, hEL⟩ := i0.2.2.2.2.2.2
  obtain ⟨cB, kB, j1, j2, j3⟩ := isOf (s := s.setVm V) hZ eT E
  have w3' : NotFace (s.setVm V) zi := fun r0 h0 => by
    have h0' : (Z.setVm V).methodNamed? zi = some r0 := h0
    rw [State.methodNamed?_setVm hZ.alike] at h0'
    obtain ⟨kr, q1, q2⟩ := w3 r0 h0'
    obtain ⟨k2, q3, q4⟩ := hZ.alike.2.2 _ _ q1
    exact ⟨k2, q3, by rw [q4]; exact q2⟩
  obtain ⟨v, vm₁, ⟨U, Lu, ku, nu⟩, hWv, X2, hS2, hgr, ⟨L, B', e1, e2, e3, r1, r2, r3, r4, r5, r6, r7⟩, st'⟩ := X1.virtualBackS i0.1 (y := zi) (z := z) hown (mv (s := s.setVm V) hZ w1) (mv (s := s.setVm V) hZ w2) w3' (mv (s := s.setVm V) hZ w4) (mv (s := s.setVm V) hZ w5) hy (BackS.con K hZ wc wz hf hl hEL hC hK) j1 j3 (g := mkF m pc ls stk) rfl (hsize.trans i0.2.2.1.symm) (Steps.refl _) (argsL := argsL) (rest := st) hlen hstk (by show 2 * 0 + _ ≤ _; omega) (i0.2.1 ▸ hd) (fun _ _ => ⟨has, eT, by show k + _ ≤ _; omega, by show n + _ ≤ _; omega⟩)
  dsimp only [Pt.U, Pt.locs, Pt.cells, Pt.slots] at X2 hS2 hgr e1 e2 e3 r2 r3 r5 r6 r7 st'
  subst e1 e2 e3 hp
  exact Go.via st' (g U U.heap B' v ((Wk.after i0 hz hB hZ hown hS hq hF X2 hS2 r1 r2 r3 r4 r5 r6).mono hk1 hn1) r6 r4 r7)
theorem W.callI (X : Wk l Z EL y bytes maxL ret R B0 p e s m args below meth c B T h k n) {index : Nat} {count : Nat} {z : MethodName} {zi : MethodName} {C : String} {zb : ByteArray} {zl W : Nat} {zr : Option FieldType} {rm : Room} {as' : Array Value} {Qc : Option Value → Heap → (Addr → Prop) → Prop} {argsL stk : List Value} (K : Con l Z EL [] z zb zl zr rm B h as' Qc) (w1 : (Jvm.Cond.methodLink y.cls index zi).before a0 Z = true) (w2 : (Jvm.Cond.declares zi).before a0 Z = true) (w3 : (Jvm.Cond.interfaceMethod zi.cls zi.cls zi.name zi.desc).before a0 Z = true) (w4 : (Jvm.Cond.selects C zi z).before a0 Z = true) (w5 : (Jvm.Cond.instanceMethod z).before a0 Z = true) (w6 : (Jvm.Cond.publicMethod z).before a0 Z = true) (w7 : (Jvm.Cond.unhidden C zi.name zi.desc).before a0 Z = true) (w8 : (Jvm.Cond.castable C zi.cls).before a0 Z = true) (E : Exa Z h a C) (wc : (Jvm.Cond.code z zb zl zr).before a0 Z = true) (wz : (Jvm.Cond.initialized z.cls).before a0 Z = true) (hy : zi.cls ≠ "java/lang/invoke/MethodHandle" ∧ zi.cls ≠ "java/lang/invoke/VarHandle") (hf : rm.frames + 1 ≤ R.frames) (hl : W + (zl + 11) + rm.locals ≤ R.locals) (hsize : ls.size = maxL)
    (hlen : ∀ sig, parseMethodDescriptor zi.desc = some sig → argsL.length = sig.parameters.length) (has : (.ref a :: argsL).toArray = as') (hstk : stk = argsL.reverse ++ .ref a :: st) (hW : (st.map fun v => v.category).sum ≤ W) (hd : decode bytes pc = .ok (.invokeinterface index count, 5)) (hp : pc + 5 = pc') {k' n' : Nat} (hk1 : k + rm.cells ≤ k') (hn1 : n + rm.slots ≤ n') (hk2 : k' ≤ R.cells) (hn2 : n' ≤ R.slots)
    (g : ∀ T' h' B' v, Wk l Z EL y bytes maxL ret R B0 p e s m args below meth c B' T' h' k' n' → h.size ≤ h'.size → (∀ x, B' x → B x ∨ h.size ≤ x) → Qc v h' B' → Go l Z EL R B0 Q p e s m below T' pc' ls (v.toList ++ st)) : Go l Z EL R B0 Q p e s m below T pc ls stk := by
  obtain ⟨i0, hE, hz, hB, V, locs, q0, X1, eT, hZ, hown, hS, hq, hF, hC, hK⟩ := X
  obtain ⟨a1, hEL⟩ := i0.2.2.2.2.2.2
  obtain ⟨cB, kB, j1, j2, j3⟩ := isOf (s := s.setVm V) hZ eT E
  obtain ⟨v, vm₁, ⟨U, Lu, ku, nu⟩, hWv, X2, hS2, hgr, ⟨L, B', e1, e2, e3, r1, r2, r3, r4, r5, r6, r7⟩, st'⟩ := X1.interfaceBackS i0.1 (xi := zi) (y := z) hown (mv (s := s.setVm V) hZ w1) (mv (s := s.setVm V) hZ w2) (mv (s := s.setVm V) hZ w3 (by simp [Cond.onTables, Cond.keepsFace, Cond.keeps, Cond.steady, Cond.faceAtom, hy.1, hy.2])) (mv (s := s.setVm V) hZ w4) (mv (s := s.setVm V) hZ w5) (mv (s := s.setVm V) hZ w6) (mv (s := s.setVm V) hZ w7) (mv (s := s.setVm V) hZ w8) hy (BackS.con K hZ wc wz hf hl hEL hC hK) j1 j2 j3 (g := mkF m pc ls stk) rfl (hsize.trans i0.2.2.1.symm) (Steps.refl _) (argsL := argsL) (rest := st) hlen hstk (by show 2 * 0 + _ ≤ _; omega) (i0.2.1 ▸ hd) (fun _ _ => ⟨has, eT, by show k + _ ≤ _; omega, by show n + _ ≤ _; omega⟩)
  dsimp only [Pt.U, Pt.locs, Pt.cells, Pt.slots] at X2 hS2 hgr e1 e2 e3 r2 r3 r5 r6 r7 st'
  subst e1 e2 e3 hp
  exact Go.via st' (g U U.heap B' v ((Wk.after i0 hz hB hZ hown hS hq hF X2 hS2 r1 r2 r3 r4 r5 r6).mono hk1 hn1) r6 r4 r7)
theorem W.callN (X : Wk l Z EL y bytes maxL ret R B0 p e s m args below meth c B T h k n) {index : Nat} {z : MethodName} {zb : ByteArray} {zl W : Nat} {rm : Room} {as' : Array Value} {Qc : Option Value → Heap → (Addr → Prop) → Prop} {argsL stk : List Value} (K : Con l Z EL [] z zb zl none rm B h as' Qc) (hn : z.name = "<init>") (w1 : (Jvm.Cond.methodLink y.cls index z).before a0 Z = true) (w2 : (Jvm.Cond.instanceMethod z).before a0 Z = true) (wc : (Jvm.Cond.code z zb zl none).before a0 Z = true) (wz : (Jvm.Cond.initialized z.cls).before a0 Z = true) (hy : z.cls ≠ "java/lang/invoke/MethodHandle" ∧ z.cls ≠ "java/lang/invoke/VarHandle") (hf : rm.frames + 1 ≤ R.frames) (hl : W + (zl + 11) + rm.locals ≤ R.locals) (hsize : ls.size = maxL)
    (hlen : ∀ sig, parseMethodDescriptor z.desc = some sig → argsL.length = sig.parameters.length) (has : (.ref a :: argsL).toArray = as') (hstk : stk = argsL.reverse ++ .ref a :: st) (hW : (st.map fun v => v.category).sum ≤ W) (hd : decode bytes pc = .ok (.invokespecial index, 3)) (hp : pc + 3 = pc') {k' n' : Nat} (hk1 : k + rm.cells ≤ k') (hn1 : n + rm.slots ≤ n') (hk2 : k' ≤ R.cells) (hn2 : n' ≤ R.slots)
    (g : ∀ T' h' B' v, Wk l Z EL y bytes maxL ret R B0 p e s m args below meth c B' T' h' k' n' → h.size ≤ h'.size → (∀ x, B' x → B x ∨ h.size ≤ x) → Qc v h' B' → Go l Z EL R B0 Q p e s m below T' pc' ls (v.toList ++ st)) : Go l Z EL R B0 Q p e s m below T pc ls stk := by
  obtain ⟨i0, hE, hz, hB, V, locs, q0, X1, eT, hZ, hown, hS, hq, hF, hC, hK⟩ := X
  obtain ⟨a1, hEL⟩ := i0.2.2.2.2.2.2
  obtain ⟨v, vm₁, ⟨U, Lu, ku, nu⟩, hWv, X2, hS2, hgr, ⟨L, B', e1, e2, e3, r1, r2, r3, r4, r5, r6, r7⟩, st'⟩ := X1.specialBackS i0.1 (y := z) hn hown (mv (s := s.setVm V) hZ w1) (mv (s := s.setVm V) hZ w2) (mv (s := s.setVm V) hZ wc) hy (BackS.con K hZ wc wz hf hl hEL hC hK) (g := mkF m pc ls stk) rfl (hsize.trans i0.2.2.1.symm) (Steps.refl _) (a := a) (argsL := argsL) (rest := st) hlen hstk (by show 2 * 0 + _ ≤ _; omega) (i0.2.1 ▸ hd) (fun _ _ => ⟨has, eT, by show k + _ ≤ _; omega, by show n + _ ≤ _; omega⟩)
  dsimp only [Pt.U, Pt.locs, Pt.cells, Pt.slots] at X2 hS2 hgr e1 e2 e3 r2 r3 r5 r6 r7 st'
  subst e1 e2 e3 hp
  exact Go.via st' (g U U.heap B' v ((Wk.after i0 hz hB hZ hown hS hq hF X2 hS2 r1 r2 r3 r4 r5 r6).mono hk1 hn1) r6 r4 r7)
theorem W.callU (X : Wk l Z EL y bytes maxL ret R B0 p e s m args below meth c B T h k n) {index : Nat} {z : MethodName} {zi : MethodName} {C : String} {owner : String} {zb : ByteArray} {zl W : Nat} {zr : Option FieldType} {rm : Room} {as' : Array Value} {Qc : Option Value → Heap → (Addr → Prop) → Prop} {argsL stk : List Value} (K : Con l Z EL [] z zb zl zr rm B h as' Qc) (w1 : (Jvm.Cond.methodLink y.cls index zi).before a0 Z = true) (w2 : (Jvm.Cond.sameMethod zi.cls owner zi.name zi.desc).before a0 Z = true) (w3 : (Jvm.Cond.declares ⟨owner, zi.name, zi.desc⟩).before a0 Z = true) (ho : owner ≠ "java/lang/invoke/MethodHandle" ∧ owner ≠ "java/lang/invoke/VarHandle") (w4 : (Jvm.Cond.selects C zi z).before a0 Z = true) (w5 : (Jvm.Cond.instanceMethod z).before a0 Z = true) (E : Exa Z h a C) (wc : (Jvm.Cond.code z zb zl zr).before a0 Z = true) (wz : (Jvm.Cond.initialized z.cls).before a0 Z = true)  (hf : rm.frames + 1 ≤ R.frames) (hl : W + (zl + 11) + rm.locals ≤ R.locals) (hsize : ls.size = maxL)
    (hlen : ∀ sig, parseMethodDescriptor zi.desc = some sig → argsL.length = sig.parameters.length) (has : (.ref a :: argsL).toArray = as') (hstk : stk = argsL.reverse ++ .ref a :: st) (hW : (st.map fun v => v.category).sum ≤ W) (hd : decode bytes pc = .ok (.invokevirtual index, 3)) (hp : pc + 3 = pc') {k' n' : Nat} (hk1 : k + rm.cells ≤ k') (hn1 : n + rm.slots ≤ n') (hk2 : k' ≤ R.cells) (hn2 : n' ≤ R.slots)
    (g : ∀ T' h' B' v, Wk l Z EL y bytes maxL ret R B0 p e s m args below meth c B' T' h' k' n' → h.size ≤ h'.size → (∀ x, B' x → B x ∨ h.size ≤ x) → Qc v h' B' → Go l Z EL R B0 Q p e s m below T' pc' ls (v.toList ++ st)) : Go l Z EL R B0 Q p e s m below T pc ls stk := by
  obtain ⟨i0, hE, hz, hB, V, locs, q0, X1, eT, hZ, hown, hS, hq, hF, hC, hK⟩ := X
  obtain ⟨a1, hEL⟩ := i0.2.2.2.2.2.2
  obtain ⟨cB, kB, j1, j2, j3⟩ := isOf (s := s.setVm V) hZ eT E
  obtain ⟨v, vm₁, ⟨U, Lu, ku, nu⟩, hWv, X2, hS2, hgr, ⟨L, B', e1, e2, e3, r1, r2, r3, r4, r5, r6, r7⟩, st'⟩ := X1.virtualBackUpS i0.1 (x := zi) (y := z) (owner := owner) hown (mv (s := s.setVm V) hZ w1) (mv (s := s.setVm V) hZ w2) (mv (s := s.setVm V) hZ w3) ho (mv (s := s.setVm V) hZ w4) (mv (s := s.setVm V) hZ w5) (BackS.con K hZ wc wz hf hl hEL hC hK) j1 j3 (g := mkF m pc ls stk) rfl (hsize.trans i0.2.2.1.symm) (Steps.refl _) (argsL := argsL) (rest := st) hlen hstk (by show 2 * 0 + _ ≤ _; omega) (i0.2.1 ▸ hd) (fun _ _ => ⟨has, eT, by show k + _ ≤ _; omega, by show n + _ ≤ _; omega⟩)
  dsimp only [Pt.U, Pt.locs, Pt.cells, Pt.slots] at X2 hS2 hgr e1 e2 e3 r2 r3 r5 r6 r7 st'
  subst e1 e2 e3 hp
  exact Go.via st' (g U U.heap B' v ((Wk.after i0 hz hB hZ hown hS hq hF X2 hS2 r1 r2 r3 r4 r5 r6).mono hk1 hn1) r6 r4 r7)
theorem privAt {s : State} {z : MethodName} (hZ : Z.Warmed39 s.vm) (w : (Jvm.Cond.privateMethod z).before a0 Z = true) : s.PrivateAt z := Cond.privateMethod_at (mvP (args := #[]) hZ w)
theorem W.callP (X : Wk l Z EL y bytes maxL ret R B0 p e s m args below meth c B T h k n) {index : Nat} {z : MethodName} {C : String} {zb : ByteArray} {zl W : Nat} {zr : Option FieldType} {rm : Room} {as' : Array Value} {Qc : Option Value → Heap → (Addr → Prop) → Prop} {argsL stk : List Value} (K : Con l Z EL [] z zb zl zr rm B h as' Qc) (w1 : (Jvm.Cond.methodLink y.cls index z).before a0 Z = true) (w2 : (Jvm.Cond.instanceMethod z).before a0 Z = true) (w3 : NotFace Z z) (w4 : (Jvm.Cond.privateMethod z).before a0 Z = true) (E : Exa Z h a C) (wc : (Jvm.Cond.code z zb zl zr).before a0 Z = true) (wz : (Jvm.Cond.initialized z.cls).before a0 Z = true) (hy : z.cls ≠ "java/lang/invoke/MethodHandle" ∧ z.cls ≠ "java/lang/invoke/VarHandle") (hf : rm.frames + 1 ≤ R.frames) (hl : W + (zl + 11) + rm.locals ≤ R.locals) (hsize : ls.size = maxL)
    (hlen : ∀ sig, parseMethodDescriptor z.desc = some sig → argsL.length = sig.parameters.length) (has : (.ref a :: argsL).toArray = as') (hstk : stk = argsL.reverse ++ .ref a :: st) (hW : (st.map fun v => v.category).sum ≤ W) (hd : decode bytes pc = .ok (.invokevirtual index, 3)) (hp : pc + 3 = pc') {k' n' : Nat} (hk1 : k + rm.cells ≤ k') (hn1 : n + rm.slots ≤ n') (hk2 : k' ≤ R.cells) (hn2 : n' ≤ R.slots)
    (g : ∀ T' h' B' v, Wk l Z EL y bytes maxL ret R B0 p e s m args below meth c B' T' h' k' n' → h.size ≤ h'.size → (∀ x, B' x → B x ∨ h.size ≤ x) → Qc v h' B' → Go l Z EL R B0 Q p e s m below T' pc' ls (v.toList ++ st)) : Go l Z EL R B0 Q p e s m below T pc ls stk := by
  obtain ⟨i0, hE, hz, hB, V, locs, q0, X1, eT, hZ, hown, hS, hq, hF, hC, hK⟩ := X
  obtain ⟨a1, hEL⟩ := i0.2.2.2.2.2.2
  have w3' : NotFace (s.setVm V) z := fun r0 h0 => by
    have h0' : (Z.setVm V).methodNamed? z = some r0 := h0
    rw [State.methodNamed?_setVm hZ.alike] at h0'
    obtain ⟨kr, q1, q2⟩ := w3 r0 h0'
    obtain ⟨k2, q3, q4⟩ := hZ.alike.2.2 _ _ q1
    exact ⟨k2, q3, by rw [q4]; exact q2⟩
  obtain ⟨cellP, hcP, hobj⟩ := Exa.cell E
  have hcell : T.heap[a]? = some cellP := by rw [eT]; exact hcP
  obtain ⟨mkP, methP, hnP, -⟩ := Cond.instanceMethod_spec (mv (args := args) (s := s.setVm V) hZ w2)
  obtain ⟨kP, hkP, hkPi⟩ := w3' mkP hnP
  have hsel : (Jvm.Cond.selects z.cls z z).before args (s.setVm V) = true := Jvm.Stand.selects_self_of_private (findClass_of_methodNamed hnP) hkP hkPi (privAt (s := s.setVm V) hZ w4) (mv (s := s.setVm V) hZ w2) hy
  obtain ⟨v, vm₁, ⟨U, Lu, ku, nu⟩, hWv, X2, hS2, hgr, ⟨L, B', e1, e2, e3, r1, r2, r3, r4, r5, r6, r7⟩, st'⟩ := X1.privateBackS i0.1 (y := z) hown (mv (s := s.setVm V) hZ w1) (mv (s := s.setVm V) hZ w2) hsel (privAt (s := s.setVm V) hZ w4) (mv (s := s.setVm V) hZ wc) hy (BackS.con K hZ wc wz hf hl hEL hC hK) (g := mkF m pc ls stk) rfl (hsize.trans i0.2.2.1.symm) (Steps.refl _) hcell hobj (argsL := argsL) (rest := st) hlen hstk (by show 2 * 0 + _ ≤ _; omega) (i0.2.1 ▸ hd) (fun _ _ => ⟨has, eT, by show k + _ ≤ _; omega, by show n + _ ≤ _; omega⟩)
  dsimp only [Pt.U, Pt.locs, Pt.cells, Pt.slots] at X2 hS2 hgr e1 e2 e3 r2 r3 r5 r6 r7 st'
  subst e1 e2 e3 hp
  exact Go.via st' (g U U.heap B' v ((Wk.after i0 hz hB hZ hown hS hq hF X2 hS2 r1 r2 r3 r4 r5 r6).mono hk1 hn1) r6 r4 r7)
theorem W.callX (X : Wk l Z EL y bytes maxL ret R B0 p e s m args below meth c B T h k n) {index : Nat} {z : MethodName} {C : String} {zb : ByteArray} {zl W : Nat} {zr : Option FieldType} {rm : Room} {as' : Array Value} {Qc : Option Value → Heap → (Addr → Prop) → Prop} {argsL stk : List Value} (K : Con l Z EL [] z zb zl zr rm B h as' Qc) (w1 : (Jvm.Cond.methodLink y.cls index z).before a0 Z = true) (w2 : (Jvm.Cond.sameMethod z.cls z.cls z.name z.desc).before a0 Z = true) (w3 : (Jvm.Cond.instanceMethod z).before a0 Z = true) (w4 : (Jvm.Cond.superclass y.cls z.cls).before a0 Z = true) (hn : z.name ≠ "<init>") (E : Exa Z h a C) (wc : (Jvm.Cond.code z zb zl zr).before a0 Z = true) (wz : (Jvm.Cond.initialized z.cls).before a0 Z = true)  (hf : rm.frames + 1 ≤ R.frames) (hl : W + (zl + 11) + rm.locals ≤ R.locals) (hsize : ls.size = maxL)
    (hlen : ∀ sig, parseMethodDescriptor z.desc = some sig → argsL.length = sig.parameters.length) (has : (.ref a :: argsL).toArray = as') (hstk : stk = argsL.reverse ++ .ref a :: st) (hW : (st.map fun v => v.category).sum ≤ W) (hd : decode bytes pc = .ok (.invokespecial index, 3)) (hp : pc + 3 = pc') {k' n' : Nat} (hk1 : k + rm.cells ≤ k') (hn1 : n + rm.slots ≤ n') (hk2 : k' ≤ R.cells) (hn2 : n' ≤ R.slots)
    (g : ∀ T' h' B' v, Wk l Z EL y bytes maxL ret R B0 p e s m args below meth c B' T' h' k' n' → h.size ≤ h'.size → (∀ x, B' x → B x ∨ h.size ≤ x) → Qc v h' B' → Go l Z EL R B0 Q p e s m below T' pc' ls (v.toList ++ st)) : Go l Z EL R B0 Q p e s m below T pc ls stk := by
  obtain ⟨i0, hE, hz, hB, V, locs, q0, X1, eT, hZ, hown, hS, hq, hF, hC, hK⟩ := X
  obtain ⟨a1, hEL⟩ := i0.2.2.2.2.2.2
  obtain ⟨v, vm₁, ⟨U, Lu, ku, nu⟩, hWv, X2, hS2, hgr, ⟨L, B', e1, e2, e3, r1, r2, r3, r4, r5, r6, r7⟩, st'⟩ := Jvm.RoadKit.superBackS X1 i0.1 hZ hown w1 w2 w3 w4 hn (BackS.con K hZ wc wz hf hl hEL hC hK) eT (Ins.self E) (g := mkF m pc ls stk) rfl (hsize.trans i0.2.2.1.symm) wc (argsL := argsL) (rest := st) hlen hstk (by show 2 * 0 + _ ≤ _; omega) (i0.2.1 ▸ hd) (fun _ _ => ⟨has, eT, by show k + _ ≤ _; omega, by show n + _ ≤ _; omega⟩)
  dsimp only [Pt.U, Pt.locs, Pt.cells, Pt.slots] at X2 hS2 hgr e1 e2 e3 r2 r3 r5 r6 r7 st'
  subst e1 e2 e3 hp
  exact Go.via st' (g U U.heap B' v ((Wk.after i0 hz hB hZ hown hS hq hF X2 hS2 r1 r2 r3 r4 r5 r6).mono hk1 hn1) r6 r4 r7)
theorem kp {xv : Value} (g : ∀ T', Wk l Z EL y bytes maxL ret R B0 p e s m args below meth c B T' h k n → Go l Z EL R B0 Q p e s m below T' pc' ls (xv :: st)) : ∀ T' h' B' v, Wk l Z EL y bytes maxL ret R B0 p e s m args below meth c B' T' h' k n → h.size ≤ h'.size → (∀ x, B' x → B x ∨ h.size ≤ x) → (v = some xv ∧ h' = h ∧ B' = B) → Go l Z EL R B0 Q p e s m below T' pc' ls (v.toList ++ st) := by
  rintro T' h' B' v X - - ⟨rfl, rfl, rfl⟩; exact g T' X
theorem kpv (g : ∀ T', Wk l Z EL y bytes maxL ret R B0 p e s m args below meth c B T' h k n → Go l Z EL R B0 Q p e s m below T' pc' ls st) : ∀ T' h' B' v, Wk l Z EL y bytes maxL ret R B0 p e s m args below meth c B' T' h' k n → h.size ≤ h'.size → (∀ x, B' x → B x ∨ h.size ≤ x) → (v = none ∧ h' = h ∧ B' = B) → Go l Z EL R B0 Q p e s m below T' pc' ls (v.toList ++ st) := by
  rintro T' h' B' v X - - ⟨rfl, rfl, rfl⟩; exact g T' X
theorem kr {Qc : Value → Heap → Prop} (g : ∀ T' h' x, Wk l Z EL y bytes maxL ret R B0 p e s m args below meth c B T' h' k n → h.size ≤ h'.size → Qc x h' → Go l Z EL R B0 Q p e s m below T' pc' ls (x :: st)) : ∀ T' h' B' v, Wk l Z EL y bytes maxL ret R B0 p e s m args below meth c B' T' h' k n → h.size ≤ h'.size → (∀ x, B' x → B x ∨ h.size ≤ x) → (∃ x, v = some x ∧ B' = B ∧ Qc x h') → Go l Z EL R B0 Q p e s m below T' pc' ls (v.toList ++ st) := by
  rintro T' h' B' v X z - ⟨x, rfl, rfl, q⟩; exact g T' h' x X z q
theorem kv {Qc : Heap → Prop} (g : ∀ T' h', Wk l Z EL y bytes maxL ret R B0 p e s m args below meth c B T' h' k n → h.size ≤ h'.size → Qc h' → Go l Z EL R B0 Q p e s m below T' pc' ls st) : ∀ T' h' B' v, Wk l Z EL y bytes maxL ret R B0 p e s m args below meth c B' T' h' k n → h.size ≤ h'.size → (∀ x, B' x → B x ∨ h.size ≤ x) → (v = none ∧ B' = B ∧ Qc h') → Go l Z EL R B0 Q p e s m below T' pc' ls (v.toList ++ st) := by
  rintro T' h' B' v X z - ⟨rfl, rfl, q⟩; exact g T' h' X z q
theorem kri {Qc : Value → Heap → (Addr → Prop) → Prop} (g : ∀ T' h' B' x, Wk l Z EL y bytes maxL ret R B0 p e s m args below meth c B' T' h' k n → h.size ≤ h'.size → (∀ x, B' x → B x ∨ h.size ≤ x) → Qc x h' B' → Go l Z EL R B0 Q p e s m below T' pc' ls (x :: st)) : ∀ T' h' B' v, Wk l Z EL y bytes maxL ret R B0 p e s m args below meth c B' T' h' k n → h.size ≤ h'.size → (∀ x, B' x → B x ∨ h.size ≤ x) → (∃ x, v = some x ∧ Qc x h' B') → Go l Z EL R B0 Q p e s m below T' pc' ls (v.toList ++ st) := by
  rintro T' h' B' v X z zb ⟨x, rfl, q⟩; exact g T' h' B' x X z zb q
theorem kvi {Qc : Heap → (Addr → Prop) → Prop} (g : ∀ T' h' B', Wk l Z EL y bytes maxL ret R B0 p e s m args below meth c B' T' h' k n → h.size ≤ h'.size → (∀ x, B' x → B x ∨ h.size ≤ x) → Qc h' B' → Go l Z EL R B0 Q p e s m below T' pc' ls st) : ∀ T' h' B' v, Wk l Z EL y bytes maxL ret R B0 p e s m args below meth c B' T' h' k n → h.size ≤ h'.size → (∀ x, B' x → B x ∨ h.size ≤ x) → (v = none ∧ Qc h' B') → Go l Z EL R B0 Q p e s m below T' pc' ls (v.toList ++ st) := by
  rintro T' h' B' v X z zb ⟨rfl, q⟩; exact g T' h' B' X z zb q
/-! System.arraycopy -/
theorem range_getD {vs : List Value} {i len : Nat} (d : Value) (hl : i + len ≤ vs.length) : (List.range len).map (fun q => vs.getD (i + q) d) = (vs.drop i).take len := by
  apply List.ext_getElem?
  intro j
  by_cases hj : j < len
  · rw [List.getElem?_map, List.getElem?_range hj, List.getElem?_take_of_lt hj, List.getElem?_drop]
    simp only [Option.map_some, List.getD_eq_getElem?_getD]
    rw [List.getElem?_eq_getElem (by omega : i + j < vs.length)]; rfl
  · rw [List.getElem?_eq_none (by simpa using hj), List.getElem?_eq_none (by simp; omega)]
theorem W.acopy (X : Wk l Z EL y bytes maxL ret R B0 p e s m args below meth c B T h k n) {index W : Nat} {sp dp nn : Int32} {i j len : Nat} {us : List Value} (A : Ar Z h a ty vs) (D : Ar Z h b ty us) (w1 : (Jvm.Cond.methodLink y.cls index Jvm.Stand.acN).before a0 Z = true) (w2 : (Jvm.Cond.native Jvm.Stand.acN).before a0 Z = true) (w3 : (Jvm.Cond.static Jvm.Stand.acN).before a0 Z = true) (w4 : (Jvm.Cond.initialized "java/lang/System").before a0 Z = true) (hty : refKind ty = false)
    (h1 : i.toInt32 = sp) (h2 : j.toInt32 = dp) (h3 : len.toInt32 = nn) (h4 : i + len ≤ vs.length) (h5 : j + len ≤ us.length) (ha : Z.heap.size ≤ b) (hnb : ¬ B b) (hsize : ls.size = maxL) (hf : 1 ≤ R.frames) (hW : (st.map fun v => v.category).sum ≤ W) (hlo : W + (nativeFrameWords "java/lang/System" "arraycopy" 5 + 11) ≤ R.locals) (hd : decode bytes pc = .ok (.invokestatic index, 3)) (hp : pc + 3 = pc')
    (g : ∀ T' h', Wk l Z EL y bytes maxL ret R B0 p e s m args below meth c B T' h' k n → Keep h h' [b] → Ar Z h' b ty (us.take j ++ (vs.drop i).take len ++ us.drop (j + len)) → Go l Z EL R B0 Q p e s m below T' pc' ls st) : Go l Z EL R B0 Q p e s m below T pc ls (.int nn :: .int dp :: .ref b :: .int sp :: .ref a :: st) := by
  obtain ⟨i0, hE, hz, hB, V, locs, q0, X1, eT, hZ, hown, hS, hq, hF, hC, hK⟩ := X
  have hv := A.len_lt
  have hu := D.len_lt
  subst h1 h2 h3 hp
  obtain ⟨n1, e1, -⟩ := len32 (show i < 2 ^ 31 by omega)
  obtain ⟨n2, e2, -⟩ := len32 (show j < 2 ^ 31 by omega)
  obtain ⟨n3, e3, -⟩ := len32 (show len < 2 ^ 31 by omega)
  obtain ⟨n4, e4, -⟩ := len32 hv
  obtain ⟨n5, e5, -⟩ := len32 hu
  obtain ⟨ka, A'⟩ := A.toArv rfl (.int 0)
  obtain ⟨kb, D'⟩ := D.toArv rfl (.int 0)
  obtain ⟨T', h', L, X', e', N', K', R', st'⟩ := RoadKit.cpA X1 i0.1 hZ hown w1 w2 w3 w4 eT A' D' (us := (List.range len).map fun q => vs.getD (i + q) (.int 0)) (Or.inl ⟨rfl, hty⟩) n1 n2 n3 (by rw [e1, e3, e4]; exact h4) (by rw [e2, e3, e5]; exact h5) (by rw [e1, e3]) (by rw [e2, e3]; exact h5) hF ha (g := mkF m pc ls (.int len.toInt32 :: .int j.toInt32 :: .ref b :: .int i.toInt32 :: .ref a :: st)) rfl (hsize.trans i0.2.2.1.symm) rfl (i0.2.1 ▸ hd) hf (W := W) (by show 2 * 0 + _ ≤ _; omega) hlo
  rw [range_getD _ h4, e2, e3] at R'
  have S : ∀ x ∈ [b], Safe Z EL V h x := fun x hx => by cases List.mem_singleton.mp hx; exact fun r => hnb (hK b r)
  have hO := (Old.keep (n0 := Z.heap.size) ⟨rfl, hE.1⟩ K' (allS ha all0)).2
  exact Go.step st' (g T' h' ⟨i0, ⟨hO, fun x r => Nat.lt_of_lt_of_le (hE.2 x r) K'.1⟩, Nat.le_trans hz K'.1, hB, V, L, q0, X', e', hZ, hown, hS, Nat.le_trans hq K'.1, N', hC.keep K' S, fun x r => hK x ((hC.keepStep K' S).2 x r)⟩ K' (Ar.ofArv R' (by rw [e5]; simp; omega)))
/-! the end -/
theorem W.fin (X : Wk l Z EL y bytes maxL ret R B0 p e s m args below meth c B T h k n) {v : Option Value} (hv : ret = none → v = none) (hk : k ≤ R.cells) (hn : n ≤ R.slots) (q : Q v h B) (run : ∀ fs, (∀ (f : JFrame) (acts : List Action), f.method = m → f.locked = none → f.entered = [] → (doReturn e (T.setTop f) acts v).1 = T.setFrames fs) → Steps p.tables e below (T.setTop (mkF m pc ls st)) (T.setFrames fs)) : Go l Z EL R B0 Q p e s m below T pc ls st := by
  obtain ⟨i0, hE, hz, hB, V, locs, q0, X1, eT, hZ, hown, hS, hq, hF, hC, hK⟩ := X
  obtain ⟨a1, hEL⟩ := i0.2.2.2.2.2.2
  obtain ⟨fs, hr, hrun, hend, hW⟩ := X1.leaveW hS (by rw [eT]; exact hq) (v := v) (fun z => hv (i0.2.2.2.1.symm.trans z)) i0.2.2.2.2.1
  have eh : (T.setFrames fs).heap = h := eT
  have q1 := CHv.at X1 hZ hEL hC
  refine ⟨T.setFrames fs, _, run fs hr, hrun, hend, v, locs, B, rfl, hF, by rw [eh]; exact q1.1, fun x r => ?_, hB, by rw [eh]; exact hE, by rw [eh]; exact hz, by rw [eh]; exact q, hW.1, hW.2.1, hW.2.2.1, hW.2.2.2.mono hk hn⟩
  rw [eh] at r
  rcases q1.2.2 x r with z | z
  · exact hK x z
  · obtain ⟨cell, q2⟩ := r.there
    exact absurd (Array.getElem?_eq_some_iff.mp q2).1 (Nat.not_lt.mpr z)
theorem W.ireturn (X : Wk l Z EL y bytes maxL ret R B0 p e s m args below meth c B T h k n) {t : FieldType} {x : Int32} (hd : decode bytes pc = .ok (.ireturn, 1)) (hret : ret = some t) (ht : t = .int ∨ t = .boolean ∨ t = .byte ∨ t = .char ∨ t = .short) (hnw : narrow t (.int x) = .int x) (hk : k ≤ R.cells) (hn : n ≤ R.slots) (q : Q (some (.int x)) h B) : Go l Z EL R B0 Q p e s m below T pc ls (.int x :: st) := by
  have X0 := X
  obtain ⟨i0, hE, hz, hB, V, locs, q0, X1, eT, hZ, hown, hS, hq, hF, hC, hK⟩ := X
  exact W.fin X0 (fun z => by rw [hret] at z; cases z) hk hn q fun fs hl => RoadKit.retOut (i := .ireturn) X1 i0.1 (i0.2.2.2.1.trans hret) hnw (Or.inl ⟨rfl, ht, x, rfl⟩) (i0.2.1 ▸ hd) hl
theorem W.lreturn (X : Wk l Z EL y bytes maxL ret R B0 p e s m args below meth c B T h k n) {x : Int64} (hd : decode bytes pc = .ok (.lreturn, 1)) (hret : ret = some .long) (hk : k ≤ R.cells) (hn : n ≤ R.slots) (q : Q (some (.long x)) h B) : Go l Z EL R B0 Q p e s m below T pc ls (.long x :: st) := by
  have X0 := X
  obtain ⟨i0, hE, hz, hB, V, locs, q0, X1, eT, hZ, hown, hS, hq, hF, hC, hK⟩ := X
  exact W.fin X0 (fun z => by rw [hret] at z; cases z) hk hn q fun fs hl => RoadKit.retOut (i := .lreturn) X1 i0.1 (i0.2.2.2.1.trans hret) rfl (Or.inr (Or.inl ⟨rfl, rfl, x, rfl⟩)) (i0.2.1 ▸ hd) hl
theorem W.areturn (X : Wk l Z EL y bytes maxL ret R B0 p e s m args below meth c B T h k n) {t : FieldType} {v : Value} (hd : decode bytes pc = .ok (.areturn, 1)) (hret : ret = some t) (ht : t.isReference = true) (hv : v.isRef = true) (hnw : narrow t v = v) (hk : k ≤ R.cells) (hn : n ≤ R.slots) (q : Q (some v) h B) : Go l Z EL R B0 Q p e s m below T pc ls (v :: st) := by
  have X0 := X
  obtain ⟨i0, hE, hz, hB, V, locs, q0, X1, eT, hZ, hown, hS, hq, hF, hC, hK⟩ := X
  exact W.fin X0 (fun z => by rw [hret] at z; cases z) hk hn q fun fs hl => RoadKit.retOut (i := .areturn) X1 i0.1 (i0.2.2.2.1.trans hret) hnw (Or.inr (Or.inr (Or.inr (Or.inr ⟨rfl, ht, hv⟩)))) (i0.2.1 ▸ hd) hl
theorem W.vreturn (X : Wk l Z EL y bytes maxL ret R B0 p e s m args below meth c B T h k n) (hd : decode bytes pc = .ok (.return_, 1)) (hret : ret = none) (hk : k ≤ R.cells) (hn : n ≤ R.slots) (q : Q none h B) : Go l Z EL R B0 Q p e s m below T pc ls [] := by
  have X0 := X
  obtain ⟨i0, hE, hz, hB, V, locs, q0, X1, eT, hZ, hown, hS, hq, hF, hC, hK⟩ := X
  exact W.fin X0 (fun _ => rfl) hk hn q fun fs hl => X1.returnOut i0.1 (i0.2.2.2.1.trans hret) (i0.2.1 ▸ hd) hl
/-! the entry -/
theorem Con.intro {wl : List Jvm.Cond} {rm : Room} {as' : Array Value} (hpl : plainFor y = true) (hEW : EW Z a0 EL) (hE : En Z B h) (hef : ∀ m, entryFrame m as' maxL = mkF m 0 ls [])
    (body : ∀ p e s m below meth c T, s.heap = h → Wk l Z EL y bytes maxL ret rm B p e s m as' below meth c B T h 0 0 → Go l Z EL rm B Q p e s m below T 0 ls []) : Con l Z EL wl y bytes maxL ret rm B h as' Q := by
  refine MetFree.of_bodySF hpl hisR ?_
  intro p e s m args below meth c s₁ Bd hml0 hP hK
  obtain ⟨rfl, hZ, hh, hC, hBk⟩ := hP
  have X0 : Stand p l e rm s m args below meth c s₁ [] 0 0 := Stand.of_body Bd
  have e0 : s₁.heap = h := by rw [← hh, Bd.state]; rfl
  have hg : Go l Z EL rm B Q p e s m below s₁ 0 ls [] := body p e s m below meth c s₁ hh ⟨⟨Bd.exec, Bd.bytes, hml0, Bd.returns, Bd.notSynchronized, (name_of_methodNamed Bd.named Bd.method).1, a0, hEW⟩, hE, by rw [hh]; exact Nat.le_refl _, fun x r => Or.inl r, s.vm, [], s.heap.size, X0, e0, hZ, findClass_of_methodNamed Bd.named, (State.WarmedH.refl s).since _, by rw [hh]; exact Nat.le_refl _, Fr.nil _, hC, hBk⟩
  obtain ⟨s₂, o, h1, h2, h3, v, L, B', g1, g2, g3, g4, g5, g6, g7, g8, g9⟩ := hg
  rw [hh] at g5 g7
  exact ⟨s₂, o, castTop (hef m) h1, h2, h3, v, L, B', g1, g2, g3, g4, g5, g6, g7, g8, g9⟩
/-! String constants -/
theorem W.ldcO (X : Wk l Z EL y bytes maxL ret R B0 p e s m args below meth c B T h k n) {index cap : Nat} {text : String} (hEW : EW Z a0 EL) (w : (Jvm.Cond.stringLink y.cls index text).before a0 Z = true) (wS : ∀ a ∈ Bundle.stringAtoms, a.before a0 Z = true) (hd : decode bytes pc = .ok (.ldc index, 2)) (hcap : 4 * text.toList.length ≤ cap) (hbig : cap ≤ 536870912) (hp : pc + 2 = pc') {k' n' : Nat} (hk : k + 2 ≤ k') (hn : n + (cap + 4) ≤ n') (hk' : k' ≤ R.cells) (hn' : n' ≤ R.slots)
    (g : ∀ T' h' B' a, Wk l Z EL y bytes maxL ret R B0 p e s m args below meth c B' T' h' k' n' → Keep h h' [] → (∀ x, B' x → B x ∨ h.size ≤ x) → Go l Z EL R B0 Q p e s m below T' pc' ls (.ref a :: st)) : Go l Z EL R B0 Q p e s m below T pc ls st := by
  obtain ⟨i0, hE, hz, hB, V, locs, q0, X1, eT, hZ, hown, hS, hq, hF, hC, hK⟩ := X
  obtain ⟨a1, hEL⟩ := i0.2.2.2.2.2.2
  obtain ⟨a, T', h', k1, X', e', E, hS', hk1, hZ', hown', hr, -, st'⟩ := ldcOH X1 i0.1 hZ hown w wS eT hS hq hEW hC (g := mkF m pc ls st) rfl (i0.2.1 ▸ hd) hcap hbig (Nat.le_trans hk hk') (Nat.le_trans hn hn')
  subst hp
  let B' : Addr → Prop := fun x => B x ∨ (h.size ≤ x ∧ x < h'.size)
  have hB' : ∀ x, Bk Z EL T'.vm h' x → B' x := fun x r => (hr.2.2 x r).elim (fun z => Or.inl (hK x z)) fun z => by
    obtain ⟨cell, q⟩ := r.there
    exact Or.inr ⟨z, (Array.getElem?_eq_some_iff.mp q).1⟩
  refine Go.step st' (g T' h' B' a ⟨i0, ⟨(hE.ext E).1, fun x r => r.elim (fun z => Nat.lt_of_lt_of_le (hE.2 x z) E.1) fun z => z.2⟩, Nat.le_trans hz E.1, fun x r => r.elim (hB x) fun z => Or.inr (Nat.le_trans hz z.1), T'.vm, locs, k1, X'.mono hk hn, e', hZ', hown', hS', hk1, hF, hr.1, hB'⟩ (keepE E) (fun x r => r.imp id fun z => z.1))
theorem W.ldcR (X : Wk l Z EL y bytes maxL ret R B0 p e s m args below meth c B T h k n) {index cap : Nat} {text : String} {cs : List Int32} (hmem : (y.cls, index) ∈ EL) (w : (Jvm.Cond.stringLink y.cls index text).before a0 Z = true) (wS : ∀ a ∈ Bundle.stringAtoms, a.before a0 Z = true) (hEW : EW Z a0 EL) (ht : (∀ c ∈ text.toList, c.toNat < 256) ∧ text.toList.map (fun c => Value.int (Jvm.Lit.byteI c.toNat.toUInt16)) = by8 cs) (hlat : Lat cs) (hlen : cs.length < 2 ^ 31) (hd : decode bytes pc = .ok (.ldc index, 2)) (hcap : 4 * text.toList.length ≤ cap) (hbig : cap ≤ 536870912) (hp : pc + 2 = pc') {k' n' : Nat} (hk : k + 2 ≤ k') (hn : n + (cap + 4) ≤ n') (hk' : k' ≤ R.cells) (hn' : n' ≤ R.slots)
    (g : ∀ T' h' B' a b, Wk l Z EL y bytes maxL ret R B0 p e s m args below meth c B' T' h' k' n' → Keep h h' [] → (∀ x, B' x → B x ∨ h.size ≤ x) → Str Z h' a b cs → (∀ x, ¬ B' x → x ≠ a ∧ x ≠ b) → Go l Z EL R B0 Q p e s m below T' pc' ls (.ref a :: st)) : Go l Z EL R B0 Q p e s m below T pc ls st := by
  obtain ⟨i0, hE, hz, hB, V, locs, q0, X1, eT, hZ, hown, hS, hq, hF, hC, hK⟩ := X
  obtain ⟨q1, q2, q3⟩ := len32 hlen
  obtain ⟨a, T', h', k1, b, kb, X', e', E, hS', hk1, hZ', hown', f1, f2, f3, f4, la, lb, hr, -, hne, st'⟩ := ldcCH X1 i0.1 hZ hown w wS eT hS hq hEW hmem hC ht q1 (by rw [q2]; simp) (g := mkF m pc ls st) rfl (i0.2.1 ▸ hd) hcap hbig (Nat.le_trans hk hk') (Nat.le_trans hn hn')
  subst hp
  let B' : Addr → Prop := fun x => B x ∨ (h.size ≤ x ∧ x < h'.size)
  have hB' : ∀ x, Bk Z EL T'.vm h' x → B' x := fun x r => (hr.2.2 x r).elim (fun z => Or.inl (hK x z)) fun z => by
    obtain ⟨cell, q⟩ := r.there
    exact Or.inr ⟨z, (Array.getElem?_eq_some_iff.mp q).1⟩
  refine Go.step st' (g T' h' B' a b ⟨i0, ⟨(hE.ext E).1, fun x r => r.elim (fun z => Nat.lt_of_lt_of_le (hE.2 x z) E.1) fun z => z.2⟩, Nat.le_trans hz E.1, fun x r => r.elim (hB x) fun z => Or.inr (Nat.le_trans hz z.1), T'.vm, locs, k1, X'.mono hk hn, e', hZ', hown', hS', hk1, hF, hr.1, hB'⟩ (keepE E) (fun x r => r.imp id fun z => z.1) ⟨f1, f2, f3, Ar.ofArv f4 (by rw [q2]; simp), hlat⟩ fun x r => hne x fun z => r (hB' x z))

end Own
end Own
end Jvm.Pilot.@@N@@

namespace Jvm.Pilot.@@N@@
open Jvm Jvm.ClassFile Sem Op Lib Jvm.Free Jvm.Stand Jvm.LawKit Jvm.RoadKit Bundle Jvm.Pilot.@@N@@.Jvm.D Own Jvm.Free.XT

def Gl (Z : State) (a0 : Array Value) (zC : Int32) (eE : Addr) : Prop := (∀ d ∈ tables_1, d.before a0 Z = true) ∧ EW Z a0 consts_1 ∧ Sta Z Z.heap "java/lang/String" "COMPACT_STRINGS" "Z" (.int zC) ∧ ¬ zC = 0 ∧ Sta Z Z.heap "java/util/ImmutableCollections" "EMPTY" "Ljava/lang/Object;" (.ref eE) ∧ True
theorem w0 {Z : State} {a0 : Array Value} {zC : Int32} {eE : Addr} (G : Gl Z a0 zC eE) : (Jvm.Cond.arrayClass Jvm.ClassFile.FieldType.char).before a0 Z = true := G.1 _ (List.mem_of_getElem? (i := 0) rfl)
theorem w1 {Z : State} {a0 : Array Value} {zC : Int32} {eE : Addr} (G : Gl Z a0 zC eE) : (Jvm.Cond.classLink "ephemera/cli/TermRequiredPinLaw" (7 : Nat) "java/lang/String").before a0 Z = true := G.1 _ (List.mem_of_getElem? (i := 1) rfl)
theorem w2 {Z : State} {a0 : Array Value} {zC : Int32} {eE : Addr} (G : Gl Z a0 zC eE) : (Jvm.Cond.instantiable "java/lang/String" (4 : Nat)).before a0 Z = true := G.1 _ (List.mem_of_getElem? (i := 2) rfl)
theorem w3 {Z : State} {a0 : Array Value} {zC : Int32} {eE : Addr} (G : Gl Z a0 zC eE) : (Jvm.Cond.initialized "java/lang/String").before a0 Z = true := G.1 _ (List.mem_of_getElem? (i := 3) rfl)
theorem w4 {Z : State} {a0 : Array Value} {zC : Int32} {eE : Addr} (G : Gl Z a0 zC eE) : (Jvm.Cond.methodLink "ephemera/cli/TermRequiredPinLaw" (9 : Nat) ({ cls := "java/lang/String", name := "<init>", desc := "([C)V" } : Jvm.MethodName)).before a0 Z = true := G.1 _ (List.mem_of_getElem? (i := 4) rfl)
theorem w5 {Z : State} {a0 : Array Value} {zC : Int32} {eE : Addr} (G : Gl Z a0 zC eE) : (Jvm.Cond.instanceMethod ({ cls := "java/lang/String", name := "<init>", desc := "([C)V" } : Jvm.MethodName)).before a0 Z = true := G.1 _ (List.mem_of_getElem? (i := 5) rfl)
theorem w6 {Z : State} {a0 : Array Value} {zC : Int32} {eE : Addr} (G : Gl Z a0 zC eE) : (Jvm.Cond.code ({ cls := "java/lang/String", name := "<init>", desc := "([C)V" } : Jvm.MethodName) jdk_42_method_3_code (2 : Nat) (Option.none : Option Jvm.ClassFile.FieldType)).before a0 Z = true := G.1 _ (List.mem_of_getElem? (i := 6) rfl)
theorem w7 {Z : State} {a0 : Array Value} {zC : Int32} {eE : Addr} (G : Gl Z a0 zC eE) : (Jvm.Cond.methodLink "java/lang/String" (27 : Nat) ({ cls := "java/lang/String", name := "<init>", desc := "([CIILjava/lang/Void;)V" } : Jvm.MethodName)).before a0 Z = true := G.1 _ (List.mem_of_getElem? (i := 7) rfl)
theorem w8 {Z : State} {a0 : Array Value} {zC : Int32} {eE : Addr} (G : Gl Z a0 zC eE) : (Jvm.Cond.instanceMethod ({ cls := "java/lang/String", name := "<init>", desc := "([CIILjava/lang/Void;)V" } : Jvm.MethodName)).before a0 Z = true := G.1 _ (List.mem_of_getElem? (i := 8) rfl)
theorem w10 {Z : State} {a0 : Array Value} {zC : Int32} {eE : Addr} (G : Gl Z a0 zC eE) : (Jvm.Cond.code ({ cls := "java/lang/String", name := "<init>", desc := "([CIILjava/lang/Void;)V" } : Jvm.MethodName) jdk_42_method_149_code (6 : Nat) (Option.none : Option Jvm.ClassFile.FieldType)).before a0 Z = true := G.1 _ (List.mem_of_getElem? (i := 10) rfl)
theorem w11 {Z : State} {a0 : Array Value} {zC : Int32} {eE : Addr} (G : Gl Z a0 zC eE) : (Jvm.Cond.methodLink "java/lang/String" (1 : Nat) ({ cls := "java/lang/Object", name := "<init>", desc := "()V" } : Jvm.MethodName)).before a0 Z = true := G.1 _ (List.mem_of_getElem? (i := 11) rfl)
theorem w12 {Z : State} {a0 : Array Value} {zC : Int32} {eE : Addr} (G : Gl Z a0 zC eE) : (Jvm.Cond.instanceMethod ({ cls := "java/lang/Object", name := "<init>", desc := "()V" } : Jvm.MethodName)).before a0 Z = true := G.1 _ (List.mem_of_getElem? (i := 12) rfl)
theorem w13 {Z : State} {a0 : Array Value} {zC : Int32} {eE : Addr} (G : Gl Z a0 zC eE) : (Jvm.Cond.code ({ cls := "java/lang/Object", name := "<init>", desc := "()V" } : Jvm.MethodName) object_method_1_code (1 : Nat) (Option.none : Option Jvm.ClassFile.FieldType)).before a0 Z = true := G.1 _ (List.mem_of_getElem? (i := 13) rfl)
theorem w14 {Z : State} {a0 : Array Value} {zC : Int32} {eE : Addr} (G : Gl Z a0 zC eE) : (Jvm.Cond.fieldLink "java/lang/String" (38 : Nat) "java/lang/String" "COMPACT_STRINGS" "Z").before a0 Z = true := G.1 _ (List.mem_of_getElem? (i := 14) rfl)
theorem w15 {Z : State} {a0 : Array Value} {zC : Int32} {eE : Addr} (G : Gl Z a0 zC eE) : (Jvm.Cond.methodLink "java/lang/String" (177 : Nat) ({ cls := "java/lang/StringUTF16", name := "compress", desc := "([CII)[B" } : Jvm.MethodName)).before a0 Z = true := G.1 _ (List.mem_of_getElem? (i := 15) rfl)
theorem w16 {Z : State} {a0 : Array Value} {zC : Int32} {eE : Addr} (G : Gl Z a0 zC eE) : (Jvm.Cond.static ({ cls := "java/lang/StringUTF16", name := "compress", desc := "([CII)[B" } : Jvm.MethodName)).before a0 Z = true := G.1 _ (List.mem_of_getElem? (i := 16) rfl)
theorem w17 {Z : State} {a0 : Array Value} {zC : Int32} {eE : Addr} (G : Gl Z a0 zC eE) : (Jvm.Cond.initialized "java/lang/StringUTF16").before a0 Z = true := G.1 _ (List.mem_of_getElem? (i := 17) rfl)
theorem w18 {Z : State} {a0 : Array Value} {zC : Int32} {eE : Addr} (G : Gl Z a0 zC eE) : (Jvm.Cond.code ({ cls := "java/lang/StringUTF16", name := "compress", desc := "([CII)[B" } : Jvm.MethodName) jdk_52_method_16_code (6 : Nat) (Option.some (Jvm.ClassFile.FieldType.array Jvm.ClassFile.FieldType.byte))).before a0 Z = true := G.1 _ (List.mem_of_getElem? (i := 18) rfl)
theorem w19 {Z : State} {a0 : Array Value} {zC : Int32} {eE : Addr} (G : Gl Z a0 zC eE) : (Jvm.Cond.arrayClass Jvm.ClassFile.FieldType.byte).before a0 Z = true := G.1 _ (List.mem_of_getElem? (i := 19) rfl)
theorem w20 {Z : State} {a0 : Array Value} {zC : Int32} {eE : Addr} (G : Gl Z a0 zC eE) : (Jvm.Cond.methodLink "java/lang/StringUTF16" (115 : Nat) ({ cls := "java/lang/StringUTF16", name := "compress", desc := "([CI[BII)I" } : Jvm.MethodName)).before a0 Z = true := G.1 _ (List.mem_of_getElem? (i := 20) rfl)
theorem w21 {Z : State} {a0 : Array Value} {zC : Int32} {eE : Addr} (G : Gl Z a0 zC eE) : (Jvm.Cond.static ({ cls := "java/lang/StringUTF16", name := "compress", desc := "([CI[BII)I" } : Jvm.MethodName)).before a0 Z = true := G.1 _ (List.mem_of_getElem? (i := 21) rfl)
theorem w22 {Z : State} {a0 : Array Value} {zC : Int32} {eE : Addr} (G : Gl Z a0 zC eE) : (Jvm.Cond.code ({ cls := "java/lang/StringUTF16", name := "compress", desc := "([CI[BII)I" } : Jvm.MethodName) jdk_52_method_21_code (7 : Nat) (Option.some Jvm.ClassFile.FieldType.int)).before a0 Z = true := G.1 _ (List.mem_of_getElem? (i := 22) rfl)
theorem w23 {Z : State} {a0 : Array Value} {zC : Int32} {eE : Addr} (G : Gl Z a0 zC eE) : (Jvm.Cond.methodLink "java/lang/String" (47 : Nat) ({ cls := "java/lang/StringUTF16", name := "coderFromArrayLen", desc := "([BI)B" } : Jvm.MethodName)).before a0 Z = true := G.1 _ (List.mem_of_getElem? (i := 23) rfl)
theorem w24 {Z : State} {a0 : Array Value} {zC : Int32} {eE : Addr} (G : Gl Z a0 zC eE) : (Jvm.Cond.static ({ cls := "java/lang/StringUTF16", name := "coderFromArrayLen", desc := "([BI)B" } : Jvm.MethodName)).before a0 Z = true := G.1 _ (List.mem_of_getElem? (i := 24) rfl)
theorem w25 {Z : State} {a0 : Array Value} {zC : Int32} {eE : Addr} (G : Gl Z a0 zC eE) : (Jvm.Cond.code ({ cls := "java/lang/StringUTF16", name := "coderFromArrayLen", desc := "([BI)B" } : Jvm.MethodName) jdk_52_method_15_code (2 : Nat) (Option.some Jvm.ClassFile.FieldType.byte)).before a0 Z = true := G.1 _ (List.mem_of_getElem? (i := 25) rfl)
theorem w26 {Z : State} {a0 : Array Value} {zC : Int32} {eE : Addr} (G : Gl Z a0 zC eE) : (Jvm.Cond.fieldLink "java/lang/String" (15 : Nat) "java/lang/String" "coder" "B").before a0 Z = true := G.1 _ (List.mem_of_getElem? (i := 26) rfl)
theorem w27 {Z : State} {a0 : Array Value} {zC : Int32} {eE : Addr} (G : Gl Z a0 zC eE) : (Jvm.Cond.laysFinal "java/lang/String" "java/lang/String" "coder" "B").before a0 Z = true := G.1 _ (List.mem_of_getElem? (i := 27) rfl)
theorem w28 {Z : State} {a0 : Array Value} {zC : Int32} {eE : Addr} (G : Gl Z a0 zC eE) : (Jvm.Cond.fieldLink "java/lang/String" (9 : Nat) "java/lang/String" "value" "[B").before a0 Z = true := G.1 _ (List.mem_of_getElem? (i := 28) rfl)
theorem w29 {Z : State} {a0 : Array Value} {zC : Int32} {eE : Addr} (G : Gl Z a0 zC eE) : (Jvm.Cond.laysFinal "java/lang/String" "java/lang/String" "value" "[B").before a0 Z = true := G.1 _ (List.mem_of_getElem? (i := 29) rfl)
theorem w30 {Z : State} {a0 : Array Value} {zC : Int32} {eE : Addr} (G : Gl Z a0 zC eE) : (Jvm.Cond.stringLink "java/lang/String" (7 : Nat) "").before a0 Z = true := G.1 _ (List.mem_of_getElem? (i := 30) rfl)
theorem w31 {Z : State} {a0 : Array Value} {zC : Int32} {eE : Addr} (G : Gl Z a0 zC eE) : (Jvm.Cond.soleField "java/lang/String" "value").before a0 Z = true := G.1 _ (List.mem_of_getElem? (i := 31) rfl)
theorem w32 {Z : State} {a0 : Array Value} {zC : Int32} {eE : Addr} (G : Gl Z a0 zC eE) : (Jvm.Cond.soleField "java/lang/String" "coder").before a0 Z = true := G.1 _ (List.mem_of_getElem? (i := 32) rfl)
theorem w33 {Z : State} {a0 : Array Value} {zC : Int32} {eE : Addr} (G : Gl Z a0 zC eE) : (Jvm.Cond.methodLink "ephemera/cli/TermRequiredPinLaw" (12 : Nat) ({ cls := "ephemera/cli/Flags$Term", name := "required", desc := "(Ljava/lang/String;Ljava/lang/String;)Lephemera/cli/Flags$Term;" } : Jvm.MethodName)).before a0 Z = true := G.1 _ (List.mem_of_getElem? (i := 33) rfl)
theorem w34 {Z : State} {a0 : Array Value} {zC : Int32} {eE : Addr} (G : Gl Z a0 zC eE) : (Jvm.Cond.static ({ cls := "ephemera/cli/Flags$Term", name := "required", desc := "(Ljava/lang/String;Ljava/lang/String;)Lephemera/cli/Flags$Term;" } : Jvm.MethodName)).before a0 Z = true := G.1 _ (List.mem_of_getElem? (i := 34) rfl)
theorem w35 {Z : State} {a0 : Array Value} {zC : Int32} {eE : Addr} (G : Gl Z a0 zC eE) : (Jvm.Cond.initialized "ephemera/cli/Flags$Term").before a0 Z = true := G.1 _ (List.mem_of_getElem? (i := 35) rfl)
theorem w36 {Z : State} {a0 : Array Value} {zC : Int32} {eE : Addr} (G : Gl Z a0 zC eE) : (Jvm.Cond.code ({ cls := "ephemera/cli/Flags$Term", name := "required", desc := "(Ljava/lang/String;Ljava/lang/String;)Lephemera/cli/Flags$Term;" } : Jvm.MethodName) prog_4_method_2_code (2 : Nat) (Option.some (Jvm.ClassFile.FieldType.object "ephemera/cli/Flags$Term"))).before a0 Z = true := G.1 _ (List.mem_of_getElem? (i := 36) rfl)
theorem w37 {Z : State} {a0 : Array Value} {zC : Int32} {eE : Addr} (G : Gl Z a0 zC eE) : (Jvm.Cond.classLink "ephemera/cli/Flags$Term" (8 : Nat) "ephemera/cli/Flags$Term").before a0 Z = true := G.1 _ (List.mem_of_getElem? (i := 37) rfl)
theorem w38 {Z : State} {a0 : Array Value} {zC : Int32} {eE : Addr} (G : Gl Z a0 zC eE) : (Jvm.Cond.instantiable "ephemera/cli/Flags$Term" (2 : Nat)).before a0 Z = true := G.1 _ (List.mem_of_getElem? (i := 38) rfl)
theorem w39 {Z : State} {a0 : Array Value} {zC : Int32} {eE : Addr} (G : Gl Z a0 zC eE) : (Jvm.Cond.classLink "ephemera/cli/Flags$Term" (17 : Nat) "ephemera/cli/Flags$Flag").before a0 Z = true := G.1 _ (List.mem_of_getElem? (i := 39) rfl)
theorem w40 {Z : State} {a0 : Array Value} {zC : Int32} {eE : Addr} (G : Gl Z a0 zC eE) : (Jvm.Cond.instantiable "ephemera/cli/Flags$Flag" (2 : Nat)).before a0 Z = true := G.1 _ (List.mem_of_getElem? (i := 40) rfl)
theorem w41 {Z : State} {a0 : Array Value} {zC : Int32} {eE : Addr} (G : Gl Z a0 zC eE) : (Jvm.Cond.initialized "ephemera/cli/Flags$Flag").before a0 Z = true := G.1 _ (List.mem_of_getElem? (i := 41) rfl)
theorem w42 {Z : State} {a0 : Array Value} {zC : Int32} {eE : Addr} (G : Gl Z a0 zC eE) : (Jvm.Cond.methodLink "ephemera/cli/Flags$Term" (19 : Nat) ({ cls := "ephemera/cli/Flags$Flag", name := "<init>", desc := "(Ljava/lang/String;Ljava/lang/String;)V" } : Jvm.MethodName)).before a0 Z = true := G.1 _ (List.mem_of_getElem? (i := 42) rfl)
theorem w43 {Z : State} {a0 : Array Value} {zC : Int32} {eE : Addr} (G : Gl Z a0 zC eE) : (Jvm.Cond.instanceMethod ({ cls := "ephemera/cli/Flags$Flag", name := "<init>", desc := "(Ljava/lang/String;Ljava/lang/String;)V" } : Jvm.MethodName)).before a0 Z = true := G.1 _ (List.mem_of_getElem? (i := 43) rfl)
theorem w44 {Z : State} {a0 : Array Value} {zC : Int32} {eE : Addr} (G : Gl Z a0 zC eE) : (Jvm.Cond.code ({ cls := "ephemera/cli/Flags$Flag", name := "<init>", desc := "(Ljava/lang/String;Ljava/lang/String;)V" } : Jvm.MethodName) prog_3_method_1_code (3 : Nat) (Option.none : Option Jvm.ClassFile.FieldType)).before a0 Z = true := G.1 _ (List.mem_of_getElem? (i := 44) rfl)
theorem w45 {Z : State} {a0 : Array Value} {zC : Int32} {eE : Addr} (G : Gl Z a0 zC eE) : (Jvm.Cond.methodLink "ephemera/cli/Flags$Flag" (1 : Nat) ({ cls := "java/lang/Record", name := "<init>", desc := "()V" } : Jvm.MethodName)).before a0 Z = true := G.1 _ (List.mem_of_getElem? (i := 45) rfl)
theorem w46 {Z : State} {a0 : Array Value} {zC : Int32} {eE : Addr} (G : Gl Z a0 zC eE) : (Jvm.Cond.instanceMethod ({ cls := "java/lang/Record", name := "<init>", desc := "()V" } : Jvm.MethodName)).before a0 Z = true := G.1 _ (List.mem_of_getElem? (i := 46) rfl)
theorem w48 {Z : State} {a0 : Array Value} {zC : Int32} {eE : Addr} (G : Gl Z a0 zC eE) : (Jvm.Cond.initialized "java/lang/Record").before a0 Z = true := G.1 _ (List.mem_of_getElem? (i := 48) rfl)
theorem w49 {Z : State} {a0 : Array Value} {zC : Int32} {eE : Addr} (G : Gl Z a0 zC eE) : (Jvm.Cond.code ({ cls := "java/lang/Record", name := "<init>", desc := "()V" } : Jvm.MethodName) jdk_30_method_1_code (1 : Nat) (Option.none : Option Jvm.ClassFile.FieldType)).before a0 Z = true := G.1 _ (List.mem_of_getElem? (i := 49) rfl)
theorem w50 {Z : State} {a0 : Array Value} {zC : Int32} {eE : Addr} (G : Gl Z a0 zC eE) : (Jvm.Cond.methodLink "java/lang/Record" (1 : Nat) ({ cls := "java/lang/Object", name := "<init>", desc := "()V" } : Jvm.MethodName)).before a0 Z = true := G.1 _ (List.mem_of_getElem? (i := 50) rfl)
theorem w51 {Z : State} {a0 : Array Value} {zC : Int32} {eE : Addr} (G : Gl Z a0 zC eE) : (Jvm.Cond.fieldLink "ephemera/cli/Flags$Flag" (7 : Nat) "ephemera/cli/Flags$Flag" "name" "Ljava/lang/String;").before a0 Z = true := G.1 _ (List.mem_of_getElem? (i := 51) rfl)
theorem w52 {Z : State} {a0 : Array Value} {zC : Int32} {eE : Addr} (G : Gl Z a0 zC eE) : (Jvm.Cond.laysFinal "ephemera/cli/Flags$Flag" "ephemera/cli/Flags$Flag" "name" "Ljava/lang/String;").before a0 Z = true := G.1 _ (List.mem_of_getElem? (i := 52) rfl)
theorem w53 {Z : State} {a0 : Array Value} {zC : Int32} {eE : Addr} (G : Gl Z a0 zC eE) : (Jvm.Cond.fieldLink "ephemera/cli/Flags$Flag" (13 : Nat) "ephemera/cli/Flags$Flag" "value" "Ljava/lang/String;").before a0 Z = true := G.1 _ (List.mem_of_getElem? (i := 53) rfl)
theorem w54 {Z : State} {a0 : Array Value} {zC : Int32} {eE : Addr} (G : Gl Z a0 zC eE) : (Jvm.Cond.laysFinal "ephemera/cli/Flags$Flag" "ephemera/cli/Flags$Flag" "value" "Ljava/lang/String;").before a0 Z = true := G.1 _ (List.mem_of_getElem? (i := 54) rfl)
theorem w55 {Z : State} {a0 : Array Value} {zC : Int32} {eE : Addr} (G : Gl Z a0 zC eE) : (Jvm.Cond.methodLink "ephemera/cli/Flags$Term" (22 : Nat) ({ cls := "java/util/List", name := "of", desc := "(Ljava/lang/Object;)Ljava/util/List;" } : Jvm.MethodName)).before a0 Z = true := G.1 _ (List.mem_of_getElem? (i := 55) rfl)
theorem w56 {Z : State} {a0 : Array Value} {zC : Int32} {eE : Addr} (G : Gl Z a0 zC eE) : (Jvm.Cond.static ({ cls := "java/util/List", name := "of", desc := "(Ljava/lang/Object;)Ljava/util/List;" } : Jvm.MethodName)).before a0 Z = true := G.1 _ (List.mem_of_getElem? (i := 56) rfl)
theorem w57 {Z : State} {a0 : Array Value} {zC : Int32} {eE : Addr} (G : Gl Z a0 zC eE) : (Jvm.Cond.initialized "java/util/List").before a0 Z = true := G.1 _ (List.mem_of_getElem? (i := 57) rfl)
theorem w58 {Z : State} {a0 : Array Value} {zC : Int32} {eE : Addr} (G : Gl Z a0 zC eE) : (Jvm.Cond.code ({ cls := "java/util/List", name := "of", desc := "(Ljava/lang/Object;)Ljava/util/List;" } : Jvm.MethodName) jdk_40_method_37_code (1 : Nat) (Option.some (Jvm.ClassFile.FieldType.object "java/util/List"))).before a0 Z = true := G.1 _ (List.mem_of_getElem? (i := 58) rfl)
theorem w59 {Z : State} {a0 : Array Value} {zC : Int32} {eE : Addr} (G : Gl Z a0 zC eE) : (Jvm.Cond.classLink "java/util/List" (96 : Nat) "java/util/ImmutableCollections$List12").before a0 Z = true := G.1 _ (List.mem_of_getElem? (i := 59) rfl)
theorem w60 {Z : State} {a0 : Array Value} {zC : Int32} {eE : Addr} (G : Gl Z a0 zC eE) : (Jvm.Cond.instantiable "java/util/ImmutableCollections$List12" (2 : Nat)).before a0 Z = true := G.1 _ (List.mem_of_getElem? (i := 60) rfl)
theorem w61 {Z : State} {a0 : Array Value} {zC : Int32} {eE : Addr} (G : Gl Z a0 zC eE) : (Jvm.Cond.initialized "java/util/ImmutableCollections$List12").before a0 Z = true := G.1 _ (List.mem_of_getElem? (i := 61) rfl)
theorem w62 {Z : State} {a0 : Array Value} {zC : Int32} {eE : Addr} (G : Gl Z a0 zC eE) : (Jvm.Cond.methodLink "java/util/List" (98 : Nat) ({ cls := "java/util/ImmutableCollections$List12", name := "<init>", desc := "(Ljava/lang/Object;)V" } : Jvm.MethodName)).before a0 Z = true := G.1 _ (List.mem_of_getElem? (i := 62) rfl)
theorem w63 {Z : State} {a0 : Array Value} {zC : Int32} {eE : Addr} (G : Gl Z a0 zC eE) : (Jvm.Cond.instanceMethod ({ cls := "java/util/ImmutableCollections$List12", name := "<init>", desc := "(Ljava/lang/Object;)V" } : Jvm.MethodName)).before a0 Z = true := G.1 _ (List.mem_of_getElem? (i := 63) rfl)
theorem w65 {Z : State} {a0 : Array Value} {zC : Int32} {eE : Addr} (G : Gl Z a0 zC eE) : (Jvm.Cond.code ({ cls := "java/util/ImmutableCollections$List12", name := "<init>", desc := "(Ljava/lang/Object;)V" } : Jvm.MethodName) jdk_44_method_1_code (2 : Nat) (Option.none : Option Jvm.ClassFile.FieldType)).before a0 Z = true := G.1 _ (List.mem_of_getElem? (i := 65) rfl)
theorem w66 {Z : State} {a0 : Array Value} {zC : Int32} {eE : Addr} (G : Gl Z a0 zC eE) : (Jvm.Cond.methodLink "java/util/ImmutableCollections$List12" (1 : Nat) ({ cls := "java/util/ImmutableCollections$AbstractImmutableList", name := "<init>", desc := "()V" } : Jvm.MethodName)).before a0 Z = true := G.1 _ (List.mem_of_getElem? (i := 66) rfl)
theorem w67 {Z : State} {a0 : Array Value} {zC : Int32} {eE : Addr} (G : Gl Z a0 zC eE) : (Jvm.Cond.instanceMethod ({ cls := "java/util/ImmutableCollections$AbstractImmutableList", name := "<init>", desc := "()V" } : Jvm.MethodName)).before a0 Z = true := G.1 _ (List.mem_of_getElem? (i := 67) rfl)
theorem w70 {Z : State} {a0 : Array Value} {zC : Int32} {eE : Addr} (G : Gl Z a0 zC eE) : (Jvm.Cond.initialized "java/util/ImmutableCollections$AbstractImmutableList").before a0 Z = true := G.1 _ (List.mem_of_getElem? (i := 70) rfl)
theorem w71 {Z : State} {a0 : Array Value} {zC : Int32} {eE : Addr} (G : Gl Z a0 zC eE) : (Jvm.Cond.code ({ cls := "java/util/ImmutableCollections$AbstractImmutableList", name := "<init>", desc := "()V" } : Jvm.MethodName) jdk_46_method_1_code (1 : Nat) (Option.none : Option Jvm.ClassFile.FieldType)).before a0 Z = true := G.1 _ (List.mem_of_getElem? (i := 71) rfl)
theorem w72 {Z : State} {a0 : Array Value} {zC : Int32} {eE : Addr} (G : Gl Z a0 zC eE) : (Jvm.Cond.methodLink "java/util/ImmutableCollections$AbstractImmutableList" (1 : Nat) ({ cls := "java/util/ImmutableCollections$AbstractImmutableCollection", name := "<init>", desc := "()V" } : Jvm.MethodName)).before a0 Z = true := G.1 _ (List.mem_of_getElem? (i := 72) rfl)
theorem w73 {Z : State} {a0 : Array Value} {zC : Int32} {eE : Addr} (G : Gl Z a0 zC eE) : (Jvm.Cond.instanceMethod ({ cls := "java/util/ImmutableCollections$AbstractImmutableCollection", name := "<init>", desc := "()V" } : Jvm.MethodName)).before a0 Z = true := G.1 _ (List.mem_of_getElem? (i := 73) rfl)
theorem w76 {Z : State} {a0 : Array Value} {zC : Int32} {eE : Addr} (G : Gl Z a0 zC eE) : (Jvm.Cond.initialized "java/util/ImmutableCollections$AbstractImmutableCollection").before a0 Z = true := G.1 _ (List.mem_of_getElem? (i := 76) rfl)
theorem w77 {Z : State} {a0 : Array Value} {zC : Int32} {eE : Addr} (G : Gl Z a0 zC eE) : (Jvm.Cond.code ({ cls := "java/util/ImmutableCollections$AbstractImmutableCollection", name := "<init>", desc := "()V" } : Jvm.MethodName) jdk_47_method_1_code (1 : Nat) (Option.none : Option Jvm.ClassFile.FieldType)).before a0 Z = true := G.1 _ (List.mem_of_getElem? (i := 77) rfl)
theorem w78 {Z : State} {a0 : Array Value} {zC : Int32} {eE : Addr} (G : Gl Z a0 zC eE) : (Jvm.Cond.methodLink "java/util/ImmutableCollections$AbstractImmutableCollection" (1 : Nat) ({ cls := "java/util/AbstractCollection", name := "<init>", desc := "()V" } : Jvm.MethodName)).before a0 Z = true := G.1 _ (List.mem_of_getElem? (i := 78) rfl)
theorem w79 {Z : State} {a0 : Array Value} {zC : Int32} {eE : Addr} (G : Gl Z a0 zC eE) : (Jvm.Cond.instanceMethod ({ cls := "java/util/AbstractCollection", name := "<init>", desc := "()V" } : Jvm.MethodName)).before a0 Z = true := G.1 _ (List.mem_of_getElem? (i := 79) rfl)
theorem w82 {Z : State} {a0 : Array Value} {zC : Int32} {eE : Addr} (G : Gl Z a0 zC eE) : (Jvm.Cond.initialized "java/util/AbstractCollection").before a0 Z = true := G.1 _ (List.mem_of_getElem? (i := 82) rfl)
theorem w83 {Z : State} {a0 : Array Value} {zC : Int32} {eE : Addr} (G : Gl Z a0 zC eE) : (Jvm.Cond.code ({ cls := "java/util/AbstractCollection", name := "<init>", desc := "()V" } : Jvm.MethodName) jdk_22_method_1_code (1 : Nat) (Option.none : Option Jvm.ClassFile.FieldType)).before a0 Z = true := G.1 _ (List.mem_of_getElem? (i := 83) rfl)
theorem w84 {Z : State} {a0 : Array Value} {zC : Int32} {eE : Addr} (G : Gl Z a0 zC eE) : (Jvm.Cond.methodLink "java/util/AbstractCollection" (1 : Nat) ({ cls := "java/lang/Object", name := "<init>", desc := "()V" } : Jvm.MethodName)).before a0 Z = true := G.1 _ (List.mem_of_getElem? (i := 84) rfl)
theorem w85 {Z : State} {a0 : Array Value} {zC : Int32} {eE : Addr} (G : Gl Z a0 zC eE) : (Jvm.Cond.methodLink "java/util/ImmutableCollections$List12" (7 : Nat) ({ cls := "java/util/Objects", name := "requireNonNull", desc := "(Ljava/lang/Object;)Ljava/lang/Object;" } : Jvm.MethodName)).before a0 Z = true := G.1 _ (List.mem_of_getElem? (i := 85) rfl)
theorem w86 {Z : State} {a0 : Array Value} {zC : Int32} {eE : Addr} (G : Gl Z a0 zC eE) : (Jvm.Cond.static ({ cls := "java/util/Objects", name := "requireNonNull", desc := "(Ljava/lang/Object;)Ljava/lang/Object;" } : Jvm.MethodName)).before a0 Z = true := G.1 _ (List.mem_of_getElem? (i := 86) rfl)
theorem w87 {Z : State} {a0 : Array Value} {zC : Int32} {eE : Addr} (G : Gl Z a0 zC eE) : (Jvm.Cond.initialized "java/util/Objects").before a0 Z = true := G.1 _ (List.mem_of_getElem? (i := 87) rfl)
theorem w88 {Z : State} {a0 : Array Value} {zC : Int32} {eE : Addr} (G : Gl Z a0 zC eE) : (Jvm.Cond.code ({ cls := "java/util/Objects", name := "requireNonNull", desc := "(Ljava/lang/Object;)Ljava/lang/Object;" } : Jvm.MethodName) jdk_31_method_10_code (1 : Nat) (Option.some (Jvm.ClassFile.FieldType.object "java/lang/Object"))).before a0 Z = true := G.1 _ (List.mem_of_getElem? (i := 88) rfl)
theorem w89 {Z : State} {a0 : Array Value} {zC : Int32} {eE : Addr} (G : Gl Z a0 zC eE) : (Jvm.Cond.fieldLink "java/util/ImmutableCollections$List12" (13 : Nat) "java/util/ImmutableCollections$List12" "e0" "Ljava/lang/Object;").before a0 Z = true := G.1 _ (List.mem_of_getElem? (i := 89) rfl)
theorem w90 {Z : State} {a0 : Array Value} {zC : Int32} {eE : Addr} (G : Gl Z a0 zC eE) : (Jvm.Cond.laysFinal "java/util/ImmutableCollections$List12" "java/util/ImmutableCollections$List12" "e0" "Ljava/lang/Object;").before a0 Z = true := G.1 _ (List.mem_of_getElem? (i := 90) rfl)
theorem w91 {Z : State} {a0 : Array Value} {zC : Int32} {eE : Addr} (G : Gl Z a0 zC eE) : (Jvm.Cond.fieldLinkNest "java/util/ImmutableCollections$List12" (19 : Nat) "java/util/ImmutableCollections" "EMPTY" "Ljava/lang/Object;" "java/util/ImmutableCollections").before a0 Z = true := G.1 _ (List.mem_of_getElem? (i := 91) rfl)
theorem w93 {Z : State} {a0 : Array Value} {zC : Int32} {eE : Addr} (G : Gl Z a0 zC eE) : (Jvm.Cond.fieldLink "java/util/ImmutableCollections$List12" (24 : Nat) "java/util/ImmutableCollections$List12" "e1" "Ljava/lang/Object;").before a0 Z = true := G.1 _ (List.mem_of_getElem? (i := 93) rfl)
theorem w94 {Z : State} {a0 : Array Value} {zC : Int32} {eE : Addr} (G : Gl Z a0 zC eE) : (Jvm.Cond.laysFinal "java/util/ImmutableCollections$List12" "java/util/ImmutableCollections$List12" "e1" "Ljava/lang/Object;").before a0 Z = true := G.1 _ (List.mem_of_getElem? (i := 94) rfl)
theorem w95 {Z : State} {a0 : Array Value} {zC : Int32} {eE : Addr} (G : Gl Z a0 zC eE) : (Jvm.Cond.methodLink "ephemera/cli/Flags$Term" (28 : Nat) ({ cls := "ephemera/cli/Flags$Term", name := "<init>", desc := "(Ljava/util/List;Z)V" } : Jvm.MethodName)).before a0 Z = true := G.1 _ (List.mem_of_getElem? (i := 95) rfl)
theorem w96 {Z : State} {a0 : Array Value} {zC : Int32} {eE : Addr} (G : Gl Z a0 zC eE) : (Jvm.Cond.instanceMethod ({ cls := "ephemera/cli/Flags$Term", name := "<init>", desc := "(Ljava/util/List;Z)V" } : Jvm.MethodName)).before a0 Z = true := G.1 _ (List.mem_of_getElem? (i := 96) rfl)
theorem w97 {Z : State} {a0 : Array Value} {zC : Int32} {eE : Addr} (G : Gl Z a0 zC eE) : (Jvm.Cond.code ({ cls := "ephemera/cli/Flags$Term", name := "<init>", desc := "(Ljava/util/List;Z)V" } : Jvm.MethodName) prog_4_method_1_code (3 : Nat) (Option.none : Option Jvm.ClassFile.FieldType)).before a0 Z = true := G.1 _ (List.mem_of_getElem? (i := 97) rfl)
theorem w98 {Z : State} {a0 : Array Value} {zC : Int32} {eE : Addr} (G : Gl Z a0 zC eE) : (Jvm.Cond.methodLink "ephemera/cli/Flags$Term" (1 : Nat) ({ cls := "java/lang/Record", name := "<init>", desc := "()V" } : Jvm.MethodName)).before a0 Z = true := G.1 _ (List.mem_of_getElem? (i := 98) rfl)
theorem w99 {Z : State} {a0 : Array Value} {zC : Int32} {eE : Addr} (G : Gl Z a0 zC eE) : (Jvm.Cond.fieldLink "ephemera/cli/Flags$Term" (7 : Nat) "ephemera/cli/Flags$Term" "flags" "Ljava/util/List;").before a0 Z = true := G.1 _ (List.mem_of_getElem? (i := 99) rfl)
theorem w100 {Z : State} {a0 : Array Value} {zC : Int32} {eE : Addr} (G : Gl Z a0 zC eE) : (Jvm.Cond.laysFinal "ephemera/cli/Flags$Term" "ephemera/cli/Flags$Term" "flags" "Ljava/util/List;").before a0 Z = true := G.1 _ (List.mem_of_getElem? (i := 100) rfl)
theorem w101 {Z : State} {a0 : Array Value} {zC : Int32} {eE : Addr} (G : Gl Z a0 zC eE) : (Jvm.Cond.fieldLink "ephemera/cli/Flags$Term" (13 : Nat) "ephemera/cli/Flags$Term" "optional" "Z").before a0 Z = true := G.1 _ (List.mem_of_getElem? (i := 101) rfl)
theorem w102 {Z : State} {a0 : Array Value} {zC : Int32} {eE : Addr} (G : Gl Z a0 zC eE) : (Jvm.Cond.laysFinal "ephemera/cli/Flags$Term" "ephemera/cli/Flags$Term" "optional" "Z").before a0 Z = true := G.1 _ (List.mem_of_getElem? (i := 102) rfl)
theorem w103 {Z : State} {a0 : Array Value} {zC : Int32} {eE : Addr} (G : Gl Z a0 zC eE) : (Jvm.Cond.methodLink "ephemera/cli/TermRequiredPinLaw" (18 : Nat) ({ cls := "ephemera/cli/Flags$Term", name := "optional", desc := "()Z" } : Jvm.MethodName)).before a0 Z = true := G.1 _ (List.mem_of_getElem? (i := 103) rfl)
theorem w104 {Z : State} {a0 : Array Value} {zC : Int32} {eE : Addr} (G : Gl Z a0 zC eE) : (Jvm.Cond.declares ({ cls := "ephemera/cli/Flags$Term", name := "optional", desc := "()Z" } : Jvm.MethodName)).before a0 Z = true := G.1 _ (List.mem_of_getElem? (i := 104) rfl)
theorem w105 {Z : State} {a0 : Array Value} {zC : Int32} {eE : Addr} (G : Gl Z a0 zC eE) : (Jvm.Cond.instanceMethod ({ cls := "ephemera/cli/Flags$Term", name := "optional", desc := "()Z" } : Jvm.MethodName)).before a0 Z = true := G.1 _ (List.mem_of_getElem? (i := 105) rfl)
theorem w106 {Z : State} {a0 : Array Value} {zC : Int32} {eE : Addr} (G : Gl Z a0 zC eE) : (Jvm.Cond.selects "ephemera/cli/Flags$Term" ({ cls := "ephemera/cli/Flags$Term", name := "optional", desc := "()Z" } : Jvm.MethodName) ({ cls := "ephemera/cli/Flags$Term", name := "optional", desc := "()Z" } : Jvm.MethodName)).before a0 Z = true := G.1 _ (List.mem_of_getElem? (i := 106) rfl)
theorem w107 {Z : State} {a0 : Array Value} {zC : Int32} {eE : Addr} (G : Gl Z a0 zC eE) : (Jvm.Cond.code ({ cls := "ephemera/cli/Flags$Term", name := "optional", desc := "()Z" } : Jvm.MethodName) prog_4_method_10_code (1 : Nat) (Option.some Jvm.ClassFile.FieldType.boolean)).before a0 Z = true := G.1 _ (List.mem_of_getElem? (i := 107) rfl)
theorem w108 {Z : State} {a0 : Array Value} {zC : Int32} {eE : Addr} (G : Gl Z a0 zC eE) : (Jvm.Cond.methodLink "ephemera/cli/TermRequiredPinLaw" (22 : Nat) ({ cls := "ephemera/cli/Flags$Term", name := "flags", desc := "()Ljava/util/List;" } : Jvm.MethodName)).before a0 Z = true := G.1 _ (List.mem_of_getElem? (i := 108) rfl)
theorem w109 {Z : State} {a0 : Array Value} {zC : Int32} {eE : Addr} (G : Gl Z a0 zC eE) : (Jvm.Cond.declares ({ cls := "ephemera/cli/Flags$Term", name := "flags", desc := "()Ljava/util/List;" } : Jvm.MethodName)).before a0 Z = true := G.1 _ (List.mem_of_getElem? (i := 109) rfl)
theorem w110 {Z : State} {a0 : Array Value} {zC : Int32} {eE : Addr} (G : Gl Z a0 zC eE) : (Jvm.Cond.instanceMethod ({ cls := "ephemera/cli/Flags$Term", name := "flags", desc := "()Ljava/util/List;" } : Jvm.MethodName)).before a0 Z = true := G.1 _ (List.mem_of_getElem? (i := 110) rfl)
theorem w111 {Z : State} {a0 : Array Value} {zC : Int32} {eE : Addr} (G : Gl Z a0 zC eE) : (Jvm.Cond.selects "ephemera/cli/Flags$Term" ({ cls := "ephemera/cli/Flags$Term", name := "flags", desc := "()Ljava/util/List;" } : Jvm.MethodName) ({ cls := "ephemera/cli/Flags$Term", name := "flags", desc := "()Ljava/util/List;" } : Jvm.MethodName)).before a0 Z = true := G.1 _ (List.mem_of_getElem? (i := 111) rfl)
theorem w112 {Z : State} {a0 : Array Value} {zC : Int32} {eE : Addr} (G : Gl Z a0 zC eE) : (Jvm.Cond.code ({ cls := "ephemera/cli/Flags$Term", name := "flags", desc := "()Ljava/util/List;" } : Jvm.MethodName) prog_4_method_9_code (1 : Nat) (Option.some (Jvm.ClassFile.FieldType.object "java/util/List"))).before a0 Z = true := G.1 _ (List.mem_of_getElem? (i := 112) rfl)
theorem w113 {Z : State} {a0 : Array Value} {zC : Int32} {eE : Addr} (G : Gl Z a0 zC eE) : (Jvm.Cond.methodLink "ephemera/cli/TermRequiredPinLaw" (26 : Nat) ({ cls := "java/util/List", name := "size", desc := "()I" } : Jvm.MethodName)).before a0 Z = true := G.1 _ (List.mem_of_getElem? (i := 113) rfl)
theorem w114 {Z : State} {a0 : Array Value} {zC : Int32} {eE : Addr} (G : Gl Z a0 zC eE) : (Jvm.Cond.declares ({ cls := "java/util/List", name := "size", desc := "()I" } : Jvm.MethodName)).before a0 Z = true := G.1 _ (List.mem_of_getElem? (i := 114) rfl)
theorem w115 {Z : State} {a0 : Array Value} {zC : Int32} {eE : Addr} (G : Gl Z a0 zC eE) : (Jvm.Cond.interfaceMethod "java/util/List" "java/util/List" "size" "()I").before a0 Z = true := G.1 _ (List.mem_of_getElem? (i := 115) rfl)
theorem w116 {Z : State} {a0 : Array Value} {zC : Int32} {eE : Addr} (G : Gl Z a0 zC eE) : (Jvm.Cond.selects "java/util/ImmutableCollections$List12" ({ cls := "java/util/List", name := "size", desc := "()I" } : Jvm.MethodName) ({ cls := "java/util/ImmutableCollections$List12", name := "size", desc := "()I" } : Jvm.MethodName)).before a0 Z = true := G.1 _ (List.mem_of_getElem? (i := 116) rfl)
theorem w117 {Z : State} {a0 : Array Value} {zC : Int32} {eE : Addr} (G : Gl Z a0 zC eE) : (Jvm.Cond.instanceMethod ({ cls := "java/util/ImmutableCollections$List12", name := "size", desc := "()I" } : Jvm.MethodName)).before a0 Z = true := G.1 _ (List.mem_of_getElem? (i := 117) rfl)
theorem w118 {Z : State} {a0 : Array Value} {zC : Int32} {eE : Addr} (G : Gl Z a0 zC eE) : (Jvm.Cond.publicMethod ({ cls := "java/util/ImmutableCollections$List12", name := "size", desc := "()I" } : Jvm.MethodName)).before a0 Z = true := G.1 _ (List.mem_of_getElem? (i := 118) rfl)
theorem w119 {Z : State} {a0 : Array Value} {zC : Int32} {eE : Addr} (G : Gl Z a0 zC eE) : (Jvm.Cond.unhidden "java/util/ImmutableCollections$List12" "size" "()I").before a0 Z = true := G.1 _ (List.mem_of_getElem? (i := 119) rfl)
theorem w120 {Z : State} {a0 : Array Value} {zC : Int32} {eE : Addr} (G : Gl Z a0 zC eE) : (Jvm.Cond.castable "java/util/ImmutableCollections$List12" "java/util/List").before a0 Z = true := G.1 _ (List.mem_of_getElem? (i := 120) rfl)
theorem w121 {Z : State} {a0 : Array Value} {zC : Int32} {eE : Addr} (G : Gl Z a0 zC eE) : (Jvm.Cond.code ({ cls := "java/util/ImmutableCollections$List12", name := "size", desc := "()I" } : Jvm.MethodName) jdk_44_method_3_code (1 : Nat) (Option.some Jvm.ClassFile.FieldType.int)).before a0 Z = true := G.1 _ (List.mem_of_getElem? (i := 121) rfl)
theorem w122 {Z : State} {a0 : Array Value} {zC : Int32} {eE : Addr} (G : Gl Z a0 zC eE) : (Jvm.Cond.methodLink "ephemera/cli/TermRequiredPinLaw" (32 : Nat) ({ cls := "java/util/List", name := "get", desc := "(I)Ljava/lang/Object;" } : Jvm.MethodName)).before a0 Z = true := G.1 _ (List.mem_of_getElem? (i := 122) rfl)
theorem w123 {Z : State} {a0 : Array Value} {zC : Int32} {eE : Addr} (G : Gl Z a0 zC eE) : (Jvm.Cond.declares ({ cls := "java/util/List", name := "get", desc := "(I)Ljava/lang/Object;" } : Jvm.MethodName)).before a0 Z = true := G.1 _ (List.mem_of_getElem? (i := 123) rfl)
theorem w124 {Z : State} {a0 : Array Value} {zC : Int32} {eE : Addr} (G : Gl Z a0 zC eE) : (Jvm.Cond.interfaceMethod "java/util/List" "java/util/List" "get" "(I)Ljava/lang/Object;").before a0 Z = true := G.1 _ (List.mem_of_getElem? (i := 124) rfl)
theorem w125 {Z : State} {a0 : Array Value} {zC : Int32} {eE : Addr} (G : Gl Z a0 zC eE) : (Jvm.Cond.selects "java/util/ImmutableCollections$List12" ({ cls := "java/util/List", name := "get", desc := "(I)Ljava/lang/Object;" } : Jvm.MethodName) ({ cls := "java/util/ImmutableCollections$List12", name := "get", desc := "(I)Ljava/lang/Object;" } : Jvm.MethodName)).before a0 Z = true := G.1 _ (List.mem_of_getElem? (i := 125) rfl)
theorem w126 {Z : State} {a0 : Array Value} {zC : Int32} {eE : Addr} (G : Gl Z a0 zC eE) : (Jvm.Cond.instanceMethod ({ cls := "java/util/ImmutableCollections$List12", name := "get", desc := "(I)Ljava/lang/Object;" } : Jvm.MethodName)).before a0 Z = true := G.1 _ (List.mem_of_getElem? (i := 126) rfl)
theorem w127 {Z : State} {a0 : Array Value} {zC : Int32} {eE : Addr} (G : Gl Z a0 zC eE) : (Jvm.Cond.publicMethod ({ cls := "java/util/ImmutableCollections$List12", name := "get", desc := "(I)Ljava/lang/Object;" } : Jvm.MethodName)).before a0 Z = true := G.1 _ (List.mem_of_getElem? (i := 127) rfl)
theorem w128 {Z : State} {a0 : Array Value} {zC : Int32} {eE : Addr} (G : Gl Z a0 zC eE) : (Jvm.Cond.unhidden "java/util/ImmutableCollections$List12" "get" "(I)Ljava/lang/Object;").before a0 Z = true := G.1 _ (List.mem_of_getElem? (i := 128) rfl)
theorem w129 {Z : State} {a0 : Array Value} {zC : Int32} {eE : Addr} (G : Gl Z a0 zC eE) : (Jvm.Cond.code ({ cls := "java/util/ImmutableCollections$List12", name := "get", desc := "(I)Ljava/lang/Object;" } : Jvm.MethodName) jdk_44_method_5_code (2 : Nat) (Option.some (Jvm.ClassFile.FieldType.object "java/lang/Object"))).before a0 Z = true := G.1 _ (List.mem_of_getElem? (i := 129) rfl)
theorem w130 {Z : State} {a0 : Array Value} {zC : Int32} {eE : Addr} (G : Gl Z a0 zC eE) : (Jvm.Cond.classLink "ephemera/cli/TermRequiredPinLaw" (36 : Nat) "ephemera/cli/Flags$Flag").before a0 Z = true := G.1 _ (List.mem_of_getElem? (i := 130) rfl)
theorem w132 {Z : State} {a0 : Array Value} {zC : Int32} {eE : Addr} (G : Gl Z a0 zC eE) : (Jvm.Cond.methodLink "ephemera/cli/TermRequiredPinLaw" (38 : Nat) ({ cls := "ephemera/cli/Flags$Flag", name := "name", desc := "()Ljava/lang/String;" } : Jvm.MethodName)).before a0 Z = true := G.1 _ (List.mem_of_getElem? (i := 132) rfl)
theorem w133 {Z : State} {a0 : Array Value} {zC : Int32} {eE : Addr} (G : Gl Z a0 zC eE) : (Jvm.Cond.declares ({ cls := "ephemera/cli/Flags$Flag", name := "name", desc := "()Ljava/lang/String;" } : Jvm.MethodName)).before a0 Z = true := G.1 _ (List.mem_of_getElem? (i := 133) rfl)
theorem w134 {Z : State} {a0 : Array Value} {zC : Int32} {eE : Addr} (G : Gl Z a0 zC eE) : (Jvm.Cond.instanceMethod ({ cls := "ephemera/cli/Flags$Flag", name := "name", desc := "()Ljava/lang/String;" } : Jvm.MethodName)).before a0 Z = true := G.1 _ (List.mem_of_getElem? (i := 134) rfl)
theorem w135 {Z : State} {a0 : Array Value} {zC : Int32} {eE : Addr} (G : Gl Z a0 zC eE) : (Jvm.Cond.selects "ephemera/cli/Flags$Flag" ({ cls := "ephemera/cli/Flags$Flag", name := "name", desc := "()Ljava/lang/String;" } : Jvm.MethodName) ({ cls := "ephemera/cli/Flags$Flag", name := "name", desc := "()Ljava/lang/String;" } : Jvm.MethodName)).before a0 Z = true := G.1 _ (List.mem_of_getElem? (i := 135) rfl)
theorem w136 {Z : State} {a0 : Array Value} {zC : Int32} {eE : Addr} (G : Gl Z a0 zC eE) : (Jvm.Cond.code ({ cls := "ephemera/cli/Flags$Flag", name := "name", desc := "()Ljava/lang/String;" } : Jvm.MethodName) prog_3_method_7_code (1 : Nat) (Option.some (Jvm.ClassFile.FieldType.object "java/lang/String"))).before a0 Z = true := G.1 _ (List.mem_of_getElem? (i := 136) rfl)
theorem w137 {Z : State} {a0 : Array Value} {zC : Int32} {eE : Addr} (G : Gl Z a0 zC eE) : (Jvm.Cond.methodLink "ephemera/cli/TermRequiredPinLaw" (42 : Nat) ({ cls := "java/lang/String", name := "equals", desc := "(Ljava/lang/Object;)Z" } : Jvm.MethodName)).before a0 Z = true := G.1 _ (List.mem_of_getElem? (i := 137) rfl)
theorem w138 {Z : State} {a0 : Array Value} {zC : Int32} {eE : Addr} (G : Gl Z a0 zC eE) : (Jvm.Cond.declares ({ cls := "java/lang/String", name := "equals", desc := "(Ljava/lang/Object;)Z" } : Jvm.MethodName)).before a0 Z = true := G.1 _ (List.mem_of_getElem? (i := 138) rfl)
theorem w139 {Z : State} {a0 : Array Value} {zC : Int32} {eE : Addr} (G : Gl Z a0 zC eE) : (Jvm.Cond.instanceMethod ({ cls := "java/lang/String", name := "equals", desc := "(Ljava/lang/Object;)Z" } : Jvm.MethodName)).before a0 Z = true := G.1 _ (List.mem_of_getElem? (i := 139) rfl)
theorem w140 {Z : State} {a0 : Array Value} {zC : Int32} {eE : Addr} (G : Gl Z a0 zC eE) : (Jvm.Cond.selects "java/lang/String" ({ cls := "java/lang/String", name := "equals", desc := "(Ljava/lang/Object;)Z" } : Jvm.MethodName) ({ cls := "java/lang/String", name := "equals", desc := "(Ljava/lang/Object;)Z" } : Jvm.MethodName)).before a0 Z = true := G.1 _ (List.mem_of_getElem? (i := 140) rfl)
theorem w141 {Z : State} {a0 : Array Value} {zC : Int32} {eE : Addr} (G : Gl Z a0 zC eE) : (Jvm.Cond.code ({ cls := "java/lang/String", name := "equals", desc := "(Ljava/lang/Object;)Z" } : Jvm.MethodName) jdk_42_method_66_code (3 : Nat) (Option.some Jvm.ClassFile.FieldType.boolean)).before a0 Z = true := G.1 _ (List.mem_of_getElem? (i := 141) rfl)
theorem w142 {Z : State} {a0 : Array Value} {zC : Int32} {eE : Addr} (G : Gl Z a0 zC eE) : (Jvm.Cond.methodLink "ephemera/cli/TermRequiredPinLaw" (46 : Nat) ({ cls := "ephemera/cli/Flags$Flag", name := "value", desc := "()Ljava/lang/String;" } : Jvm.MethodName)).before a0 Z = true := G.1 _ (List.mem_of_getElem? (i := 142) rfl)
theorem w143 {Z : State} {a0 : Array Value} {zC : Int32} {eE : Addr} (G : Gl Z a0 zC eE) : (Jvm.Cond.declares ({ cls := "ephemera/cli/Flags$Flag", name := "value", desc := "()Ljava/lang/String;" } : Jvm.MethodName)).before a0 Z = true := G.1 _ (List.mem_of_getElem? (i := 143) rfl)
theorem w144 {Z : State} {a0 : Array Value} {zC : Int32} {eE : Addr} (G : Gl Z a0 zC eE) : (Jvm.Cond.instanceMethod ({ cls := "ephemera/cli/Flags$Flag", name := "value", desc := "()Ljava/lang/String;" } : Jvm.MethodName)).before a0 Z = true := G.1 _ (List.mem_of_getElem? (i := 144) rfl)
theorem w145 {Z : State} {a0 : Array Value} {zC : Int32} {eE : Addr} (G : Gl Z a0 zC eE) : (Jvm.Cond.selects "ephemera/cli/Flags$Flag" ({ cls := "ephemera/cli/Flags$Flag", name := "value", desc := "()Ljava/lang/String;" } : Jvm.MethodName) ({ cls := "ephemera/cli/Flags$Flag", name := "value", desc := "()Ljava/lang/String;" } : Jvm.MethodName)).before a0 Z = true := G.1 _ (List.mem_of_getElem? (i := 145) rfl)
theorem w146 {Z : State} {a0 : Array Value} {zC : Int32} {eE : Addr} (G : Gl Z a0 zC eE) : (Jvm.Cond.code ({ cls := "ephemera/cli/Flags$Flag", name := "value", desc := "()Ljava/lang/String;" } : Jvm.MethodName) prog_3_method_8_code (1 : Nat) (Option.some (Jvm.ClassFile.FieldType.object "java/lang/String"))).before a0 Z = true := G.1 _ (List.mem_of_getElem? (i := 146) rfl)
theorem w147 {Z : State} {a0 : Array Value} {zC : Int32} {eE : Addr} (G : Gl Z a0 zC eE) : (Jvm.Cond.methodLink "ephemera/cli/TermRequiredPinLaw" (49 : Nat) ({ cls := "ephemera/cli/Flags$Flag", name := "isSwitch", desc := "()Z" } : Jvm.MethodName)).before a0 Z = true := G.1 _ (List.mem_of_getElem? (i := 147) rfl)
theorem w148 {Z : State} {a0 : Array Value} {zC : Int32} {eE : Addr} (G : Gl Z a0 zC eE) : (Jvm.Cond.declares ({ cls := "ephemera/cli/Flags$Flag", name := "isSwitch", desc := "()Z" } : Jvm.MethodName)).before a0 Z = true := G.1 _ (List.mem_of_getElem? (i := 148) rfl)
theorem w149 {Z : State} {a0 : Array Value} {zC : Int32} {eE : Addr} (G : Gl Z a0 zC eE) : (Jvm.Cond.instanceMethod ({ cls := "ephemera/cli/Flags$Flag", name := "isSwitch", desc := "()Z" } : Jvm.MethodName)).before a0 Z = true := G.1 _ (List.mem_of_getElem? (i := 149) rfl)
theorem w150 {Z : State} {a0 : Array Value} {zC : Int32} {eE : Addr} (G : Gl Z a0 zC eE) : (Jvm.Cond.selects "ephemera/cli/Flags$Flag" ({ cls := "ephemera/cli/Flags$Flag", name := "isSwitch", desc := "()Z" } : Jvm.MethodName) ({ cls := "ephemera/cli/Flags$Flag", name := "isSwitch", desc := "()Z" } : Jvm.MethodName)).before a0 Z = true := G.1 _ (List.mem_of_getElem? (i := 150) rfl)
theorem w151 {Z : State} {a0 : Array Value} {zC : Int32} {eE : Addr} (G : Gl Z a0 zC eE) : (Jvm.Cond.code ({ cls := "ephemera/cli/Flags$Flag", name := "isSwitch", desc := "()Z" } : Jvm.MethodName) prog_3_method_3_code (1 : Nat) (Option.some Jvm.ClassFile.FieldType.boolean)).before a0 Z = true := G.1 _ (List.mem_of_getElem? (i := 151) rfl)
theorem w152 {Z : State} {a0 : Array Value} {zC : Int32} {eE : Addr} (G : Gl Z a0 zC eE) : (Jvm.Cond.methodLink "ephemera/cli/Flags$Flag" (21 : Nat) ({ cls := "java/lang/String", name := "isEmpty", desc := "()Z" } : Jvm.MethodName)).before a0 Z = true := G.1 _ (List.mem_of_getElem? (i := 152) rfl)
theorem w153 {Z : State} {a0 : Array Value} {zC : Int32} {eE : Addr} (G : Gl Z a0 zC eE) : (Jvm.Cond.declares ({ cls := "java/lang/String", name := "isEmpty", desc := "()Z" } : Jvm.MethodName)).before a0 Z = true := G.1 _ (List.mem_of_getElem? (i := 153) rfl)
theorem w154 {Z : State} {a0 : Array Value} {zC : Int32} {eE : Addr} (G : Gl Z a0 zC eE) : (Jvm.Cond.instanceMethod ({ cls := "java/lang/String", name := "isEmpty", desc := "()Z" } : Jvm.MethodName)).before a0 Z = true := G.1 _ (List.mem_of_getElem? (i := 154) rfl)
theorem w155 {Z : State} {a0 : Array Value} {zC : Int32} {eE : Addr} (G : Gl Z a0 zC eE) : (Jvm.Cond.selects "java/lang/String" ({ cls := "java/lang/String", name := "isEmpty", desc := "()Z" } : Jvm.MethodName) ({ cls := "java/lang/String", name := "isEmpty", desc := "()Z" } : Jvm.MethodName)).before a0 Z = true := G.1 _ (List.mem_of_getElem? (i := 155) rfl)
theorem w156 {Z : State} {a0 : Array Value} {zC : Int32} {eE : Addr} (G : Gl Z a0 zC eE) : (Jvm.Cond.code ({ cls := "java/lang/String", name := "isEmpty", desc := "()Z" } : Jvm.MethodName) jdk_42_method_55_code (1 : Nat) (Option.some Jvm.ClassFile.FieldType.boolean)).before a0 Z = true := G.1 _ (List.mem_of_getElem? (i := 156) rfl)
theorem watoms {Z : State} {a0 : Array Value} {zC : Int32} {eE : Addr} (G : Gl Z a0 zC eE) : ∀ a ∈ Bundle.stringAtoms, a.before a0 Z = true := fun d hd => by
  simp only [Bundle.stringAtoms, List.mem_cons, List.not_mem_nil, or_false] at hd
  rcases hd with rfl | rfl | rfl | rfl | rfl | rfl | rfl
  · exact (w3 G)
  · exact (w2 G)
  · exact (w19 G)
  · exact (w29 G)
  · exact (w27 G)
  · exact (w31 G)
  · exact (w32 G)
theorem d_jdk_52_m21_3 : decode jdk_52_method_21_code 3 = .ok (.iload 5, 2) := by decide +kernel
theorem d_jdk_52_m21_5 : decode jdk_52_method_21_code 5 = .ok (.iload 4, 2) := by decide +kernel
theorem d_jdk_52_m21_7 : decode jdk_52_method_21_code 7 = .ok (.if_icmp .ge 37, 3) := by decide +kernel
theorem d_jdk_52_m21_44 : decode jdk_52_method_21_code 44 = .ok (.iload 4, 2) := by decide +kernel
theorem d_jdk_52_m21_46 : decode jdk_52_method_21_code 46 = .ok (.ireturn, 1) := by decide +kernel
theorem d_jdk_52_m21_10 : decode jdk_52_method_21_code 10 = .ok (.aload_n 0, 1) := by decide +kernel
theorem d_jdk_52_m21_11 : decode jdk_52_method_21_code 11 = .ok (.iload_n 1, 1) := by decide +kernel
theorem d_jdk_52_m21_12 : decode jdk_52_method_21_code 12 = .ok (.caload, 1) := by decide +kernel
theorem d_jdk_52_m21_13 : decode jdk_52_method_21_code 13 = .ok (.istore 6, 2) := by decide +kernel
theorem d_jdk_52_m21_15 : decode jdk_52_method_21_code 15 = .ok (.iload 6, 2) := by decide +kernel
theorem d_jdk_52_m21_17 : decode jdk_52_method_21_code 17 = .ok (.sipush 255, 3) := by decide +kernel
theorem d_jdk_52_m21_20 : decode jdk_52_method_21_code 20 = .ok (.if_icmp .le 6, 3) := by decide +kernel
theorem d_jdk_52_m21_26 : decode jdk_52_method_21_code 26 = .ok (.aload_n 2, 1) := by decide +kernel
theorem d_jdk_52_m21_27 : decode jdk_52_method_21_code 27 = .ok (.iload_n 3, 1) := by decide +kernel
theorem d_jdk_52_m21_28 : decode jdk_52_method_21_code 28 = .ok (.iload 6, 2) := by decide +kernel
theorem d_jdk_52_m21_30 : decode jdk_52_method_21_code 30 = .ok (.i2b, 1) := by decide +kernel
theorem d_jdk_52_m21_31 : decode jdk_52_method_21_code 31 = .ok (.bastore, 1) := by decide +kernel
theorem d_jdk_52_m21_32 : decode jdk_52_method_21_code 32 = .ok (.iinc 1 1, 3) := by decide +kernel
theorem d_jdk_52_m21_35 : decode jdk_52_method_21_code 35 = .ok (.iinc 3 1, 3) := by decide +kernel
theorem d_jdk_52_m21_38 : decode jdk_52_method_21_code 38 = .ok (.iinc 5 1, 3) := by decide +kernel
theorem d_jdk_52_m21_41 : decode jdk_52_method_21_code 41 = .ok (.goto (-38), 3) := by decide +kernel
theorem d_jdk_52_m21_0 : decode jdk_52_method_21_code 0 = .ok (.iconst 0, 1) := by decide +kernel
theorem d_jdk_52_m21_1 : decode jdk_52_method_21_code 1 = .ok (.istore 5, 2) := by decide +kernel
theorem pn0 : plainName "java/lang/StringUTF16" = true := by first | (simp [plainName, overriddenIn]; done) | decide +kernel
theorem d_jdk_52_m15_0 : decode jdk_52_method_15_code 0 = .ok (.iload_n 1, 1) := by decide +kernel
theorem d_jdk_52_m15_1 : decode jdk_52_method_15_code 1 = .ok (.aload_n 0, 1) := by decide +kernel
theorem d_jdk_52_m15_2 : decode jdk_52_method_15_code 2 = .ok (.arraylength, 1) := by decide +kernel
theorem d_jdk_52_m15_3 : decode jdk_52_method_15_code 3 = .ok (.isub, 1) := by decide +kernel
theorem d_jdk_52_m15_4 : decode jdk_52_method_15_code 4 = .ok (.bipush 31, 2) := by decide +kernel
theorem d_jdk_52_m15_6 : decode jdk_52_method_15_code 6 = .ok (.iushr, 1) := by decide +kernel
theorem d_jdk_52_m15_7 : decode jdk_52_method_15_code 7 = .ok (.i2b, 1) := by decide +kernel
theorem d_jdk_52_m15_8 : decode jdk_52_method_15_code 8 = .ok (.ireturn, 1) := by decide +kernel
theorem d_jdk_52_m16_0 : decode jdk_52_method_16_code 0 = .ok (.iload_n 2, 1) := by decide +kernel
theorem d_jdk_52_m16_1 : decode jdk_52_method_16_code 1 = .ok (.newarray .byte, 2) := by decide +kernel
theorem d_jdk_52_m16_3 : decode jdk_52_method_16_code 3 = .ok (.astore_n 3, 1) := by decide +kernel
theorem d_jdk_52_m16_4 : decode jdk_52_method_16_code 4 = .ok (.aload_n 0, 1) := by decide +kernel
theorem d_jdk_52_m16_5 : decode jdk_52_method_16_code 5 = .ok (.iload_n 1, 1) := by decide +kernel
theorem d_jdk_52_m16_6 : decode jdk_52_method_16_code 6 = .ok (.aload_n 3, 1) := by decide +kernel
theorem d_jdk_52_m16_7 : decode jdk_52_method_16_code 7 = .ok (.iconst 0, 1) := by decide +kernel
theorem d_jdk_52_m16_8 : decode jdk_52_method_16_code 8 = .ok (.iload_n 2, 1) := by decide +kernel
theorem d_jdk_52_m16_9 : decode jdk_52_method_16_code 9 = .ok (.invokestatic 115, 3) := by decide +kernel
theorem pd1 : parseMethodDescriptor "([CI[BII)I" = some ⟨[(.array .char), .int, (.array .byte), .int, .int], some .int⟩ := by decide +kernel
theorem d_jdk_52_m16_12 : decode jdk_52_method_16_code 12 = .ok (.istore 4, 2) := by decide +kernel
theorem d_jdk_52_m16_14 : decode jdk_52_method_16_code 14 = .ok (.iload 4, 2) := by decide +kernel
theorem d_jdk_52_m16_16 : decode jdk_52_method_16_code 16 = .ok (.iload_n 2, 1) := by decide +kernel
theorem d_jdk_52_m16_17 : decode jdk_52_method_16_code 17 = .ok (.if_icmp .eq 40, 3) := by decide +kernel
theorem d_jdk_52_m16_57 : decode jdk_52_method_16_code 57 = .ok (.aload_n 3, 1) := by decide +kernel
theorem d_jdk_52_m16_58 : decode jdk_52_method_16_code 58 = .ok (.areturn, 1) := by decide +kernel
theorem d_jdk_42_m149_0 : decode jdk_42_method_149_code 0 = .ok (.aload_n 0, 1) := by decide +kernel
theorem d_jdk_42_m149_1 : decode jdk_42_method_149_code 1 = .ok (.invokespecial 1, 3) := by decide +kernel
theorem d_jdk_42_m149_4 : decode jdk_42_method_149_code 4 = .ok (.iload_n 3, 1) := by decide +kernel
theorem d_jdk_42_m149_5 : decode jdk_42_method_149_code 5 = .ok (.ifCond .ne 22, 3) := by decide +kernel
theorem d_jdk_42_m149_27 : decode jdk_42_method_149_code 27 = .ok (.getstatic 38, 3) := by decide +kernel
theorem d_jdk_42_m149_30 : decode jdk_42_method_149_code 30 = .ok (.ifCond .eq 28, 3) := by decide +kernel
theorem d_jdk_42_m149_33 : decode jdk_42_method_149_code 33 = .ok (.aload_n 1, 1) := by decide +kernel
theorem d_jdk_42_m149_34 : decode jdk_42_method_149_code 34 = .ok (.iload_n 2, 1) := by decide +kernel
theorem d_jdk_42_m149_35 : decode jdk_42_method_149_code 35 = .ok (.iload_n 3, 1) := by decide +kernel
theorem d_jdk_42_m149_36 : decode jdk_42_method_149_code 36 = .ok (.invokestatic 177, 3) := by decide +kernel
theorem pd2 : parseMethodDescriptor "([CII)[B" = some ⟨[(.array .char), .int, .int], some (.array .byte)⟩ := by decide +kernel
theorem d_jdk_42_m149_39 : decode jdk_42_method_149_code 39 = .ok (.astore 5, 2) := by decide +kernel
theorem d_jdk_42_m149_41 : decode jdk_42_method_149_code 41 = .ok (.aload_n 0, 1) := by decide +kernel
theorem d_jdk_42_m149_42 : decode jdk_42_method_149_code 42 = .ok (.aload 5, 2) := by decide +kernel
theorem d_jdk_42_m149_44 : decode jdk_42_method_149_code 44 = .ok (.iload_n 3, 1) := by decide +kernel
theorem d_jdk_42_m149_45 : decode jdk_42_method_149_code 45 = .ok (.invokestatic 47, 3) := by decide +kernel
theorem pd3 : parseMethodDescriptor "([BI)B" = some ⟨[(.array .byte), .int], some .byte⟩ := by decide +kernel
theorem d_jdk_42_m149_48 : decode jdk_42_method_149_code 48 = .ok (.putfield 15, 3) := by decide +kernel
theorem d_jdk_42_m149_51 : decode jdk_42_method_149_code 51 = .ok (.aload_n 0, 1) := by decide +kernel
theorem d_jdk_42_m149_52 : decode jdk_42_method_149_code 52 = .ok (.aload 5, 2) := by decide +kernel
theorem d_jdk_42_m149_54 : decode jdk_42_method_149_code 54 = .ok (.putfield 9, 3) := by decide +kernel
theorem d_jdk_42_m149_57 : decode jdk_42_method_149_code 57 = .ok (.return_, 1) := by decide +kernel
theorem pn4 : plainName "java/lang/String" = true := by first | (simp [plainName, overriddenIn]; done) | decide +kernel
theorem d_jdk_42_m3_0 : decode jdk_42_method_3_code 0 = .ok (.aload_n 0, 1) := by decide +kernel
theorem d_jdk_42_m3_1 : decode jdk_42_method_3_code 1 = .ok (.aload_n 1, 1) := by decide +kernel
theorem d_jdk_42_m3_2 : decode jdk_42_method_3_code 2 = .ok (.iconst 0, 1) := by decide +kernel
theorem d_jdk_42_m3_3 : decode jdk_42_method_3_code 3 = .ok (.aload_n 1, 1) := by decide +kernel
theorem d_jdk_42_m3_4 : decode jdk_42_method_3_code 4 = .ok (.arraylength, 1) := by decide +kernel
theorem d_jdk_42_m3_5 : decode jdk_42_method_3_code 5 = .ok (.aconst_null, 1) := by decide +kernel
theorem d_jdk_42_m3_6 : decode jdk_42_method_3_code 6 = .ok (.invokespecial 27, 3) := by decide +kernel
theorem pd5 : parseMethodDescriptor "([CIILjava/lang/Void;)V" = some ⟨[(.array .char), .int, .int, (.object "java/lang/Void")], none⟩ := by decide +kernel
theorem d_jdk_42_m3_9 : decode jdk_42_method_3_code 9 = .ok (.return_, 1) := by decide +kernel
theorem d_jdk_42_m149_8 : decode jdk_42_method_149_code 8 = .ok (.aload_n 0, 1) := by decide +kernel
theorem d_jdk_42_m149_9 : decode jdk_42_method_149_code 9 = .ok (.ldc 7, 2) := by decide +kernel
theorem d_jdk_42_m149_11 : decode jdk_42_method_149_code 11 = .ok (.getfield 9, 3) := by decide +kernel
theorem d_jdk_42_m149_14 : decode jdk_42_method_149_code 14 = .ok (.putfield 9, 3) := by decide +kernel
theorem d_jdk_42_m149_17 : decode jdk_42_method_149_code 17 = .ok (.aload_n 0, 1) := by decide +kernel
theorem d_jdk_42_m149_18 : decode jdk_42_method_149_code 18 = .ok (.ldc 7, 2) := by decide +kernel
theorem d_jdk_42_m149_20 : decode jdk_42_method_149_code 20 = .ok (.getfield 15, 3) := by decide +kernel
theorem d_jdk_42_m149_23 : decode jdk_42_method_149_code 23 = .ok (.putfield 15, 3) := by decide +kernel
theorem d_jdk_42_m149_26 : decode jdk_42_method_149_code 26 = .ok (.return_, 1) := by decide +kernel
theorem d_jdk_30_m1_0 : decode jdk_30_method_1_code 0 = .ok (.aload_n 0, 1) := by decide +kernel
theorem d_jdk_30_m1_1 : decode jdk_30_method_1_code 1 = .ok (.invokespecial 1, 3) := by decide +kernel
theorem d_jdk_30_m1_4 : decode jdk_30_method_1_code 4 = .ok (.return_, 1) := by decide +kernel
theorem pn6 : plainName "java/lang/Record" = true := by first | (simp [plainName, overriddenIn]; done) | decide +kernel
theorem d_jdk_22_m1_0 : decode jdk_22_method_1_code 0 = .ok (.aload_n 0, 1) := by decide +kernel
theorem d_jdk_22_m1_1 : decode jdk_22_method_1_code 1 = .ok (.invokespecial 1, 3) := by decide +kernel
theorem d_jdk_22_m1_4 : decode jdk_22_method_1_code 4 = .ok (.return_, 1) := by decide +kernel
theorem pn7 : plainName "java/util/AbstractCollection" = true := by first | (simp [plainName, overriddenIn]; done) | decide +kernel
theorem d_jdk_47_m1_0 : decode jdk_47_method_1_code 0 = .ok (.aload_n 0, 1) := by decide +kernel
theorem d_jdk_47_m1_1 : decode jdk_47_method_1_code 1 = .ok (.invokespecial 1, 3) := by decide +kernel
theorem pd8 : parseMethodDescriptor "()V" = some ⟨[], none⟩ := by decide +kernel
theorem d_jdk_47_m1_4 : decode jdk_47_method_1_code 4 = .ok (.return_, 1) := by decide +kernel
theorem pn9 : plainName "java/util/ImmutableCollections$AbstractImmutableCollection" = true := by first | (simp [plainName, overriddenIn]; done) | decide +kernel
theorem d_jdk_46_m1_0 : decode jdk_46_method_1_code 0 = .ok (.aload_n 0, 1) := by decide +kernel
theorem d_jdk_46_m1_1 : decode jdk_46_method_1_code 1 = .ok (.invokespecial 1, 3) := by decide +kernel
theorem d_jdk_46_m1_4 : decode jdk_46_method_1_code 4 = .ok (.return_, 1) := by decide +kernel
theorem pn10 : plainName "java/util/ImmutableCollections$AbstractImmutableList" = true := by first | (simp [plainName, overriddenIn]; done) | decide +kernel
theorem d_jdk_31_m10_0 : decode jdk_31_method_10_code 0 = .ok (.aload_n 0, 1) := by decide +kernel
theorem d_jdk_31_m10_1 : decode jdk_31_method_10_code 1 = .ok (.ifnonnull 11, 3) := by decide +kernel
theorem d_jdk_31_m10_12 : decode jdk_31_method_10_code 12 = .ok (.aload_n 0, 1) := by decide +kernel
theorem d_jdk_31_m10_13 : decode jdk_31_method_10_code 13 = .ok (.areturn, 1) := by decide +kernel
theorem pn11 : plainName "java/util/Objects" = true := by first | (simp [plainName, overriddenIn]; done) | decide +kernel
theorem d_prog_3_m1_0 : decode prog_3_method_1_code 0 = .ok (.aload_n 0, 1) := by decide +kernel
theorem d_prog_3_m1_1 : decode prog_3_method_1_code 1 = .ok (.invokespecial 1, 3) := by decide +kernel
theorem d_prog_3_m1_4 : decode prog_3_method_1_code 4 = .ok (.aload_n 0, 1) := by decide +kernel
theorem d_prog_3_m1_5 : decode prog_3_method_1_code 5 = .ok (.aload_n 1, 1) := by decide +kernel
theorem d_prog_3_m1_6 : decode prog_3_method_1_code 6 = .ok (.putfield 7, 3) := by decide +kernel
theorem d_prog_3_m1_9 : decode prog_3_method_1_code 9 = .ok (.aload_n 0, 1) := by decide +kernel
theorem d_prog_3_m1_10 : decode prog_3_method_1_code 10 = .ok (.aload_n 2, 1) := by decide +kernel
theorem d_prog_3_m1_11 : decode prog_3_method_1_code 11 = .ok (.putfield 13, 3) := by decide +kernel
theorem d_prog_3_m1_14 : decode prog_3_method_1_code 14 = .ok (.return_, 1) := by decide +kernel
theorem pn12 : plainName "ephemera/cli/Flags$Flag" = true := by first | (simp [plainName, overriddenIn]; done) | decide +kernel
theorem d_jdk_44_m1_0 : decode jdk_44_method_1_code 0 = .ok (.aload_n 0, 1) := by decide +kernel
theorem d_jdk_44_m1_1 : decode jdk_44_method_1_code 1 = .ok (.invokespecial 1, 3) := by decide +kernel
theorem d_jdk_44_m1_4 : decode jdk_44_method_1_code 4 = .ok (.aload_n 0, 1) := by decide +kernel
theorem d_jdk_44_m1_5 : decode jdk_44_method_1_code 5 = .ok (.aload_n 1, 1) := by decide +kernel
theorem d_jdk_44_m1_6 : decode jdk_44_method_1_code 6 = .ok (.invokestatic 7, 3) := by decide +kernel
theorem pd13 : parseMethodDescriptor "(Ljava/lang/Object;)Ljava/lang/Object;" = some ⟨[(.object "java/lang/Object")], some (.object "java/lang/Object")⟩ := by decide +kernel
theorem d_jdk_44_m1_9 : decode jdk_44_method_1_code 9 = .ok (.putfield 13, 3) := by decide +kernel
theorem d_jdk_44_m1_12 : decode jdk_44_method_1_code 12 = .ok (.aload_n 0, 1) := by decide +kernel
theorem d_jdk_44_m1_13 : decode jdk_44_method_1_code 13 = .ok (.getstatic 19, 3) := by decide +kernel
theorem d_jdk_44_m1_16 : decode jdk_44_method_1_code 16 = .ok (.putfield 24, 3) := by decide +kernel
theorem d_jdk_44_m1_19 : decode jdk_44_method_1_code 19 = .ok (.return_, 1) := by decide +kernel
theorem pn14 : plainName "java/util/ImmutableCollections$List12" = true := by first | (simp [plainName, overriddenIn]; done) | decide +kernel
theorem d_jdk_40_m37_0 : decode jdk_40_method_37_code 0 = .ok (.new 96, 3) := by decide +kernel
theorem d_jdk_40_m37_3 : decode jdk_40_method_37_code 3 = .ok (.dup, 1) := by decide +kernel
theorem d_jdk_40_m37_4 : decode jdk_40_method_37_code 4 = .ok (.aload_n 0, 1) := by decide +kernel
theorem d_jdk_40_m37_5 : decode jdk_40_method_37_code 5 = .ok (.invokespecial 98, 3) := by decide +kernel
theorem pd15 : parseMethodDescriptor "(Ljava/lang/Object;)V" = some ⟨[(.object "java/lang/Object")], none⟩ := by decide +kernel
theorem d_jdk_40_m37_8 : decode jdk_40_method_37_code 8 = .ok (.areturn, 1) := by decide +kernel
theorem pn16 : plainName "java/util/List" = true := by first | (simp [plainName, overriddenIn]; done) | decide +kernel
theorem d_prog_4_m1_0 : decode prog_4_method_1_code 0 = .ok (.aload_n 0, 1) := by decide +kernel
theorem d_prog_4_m1_1 : decode prog_4_method_1_code 1 = .ok (.invokespecial 1, 3) := by decide +kernel
theorem d_prog_4_m1_4 : decode prog_4_method_1_code 4 = .ok (.aload_n 0, 1) := by decide +kernel
theorem d_prog_4_m1_5 : decode prog_4_method_1_code 5 = .ok (.aload_n 1, 1) := by decide +kernel
theorem d_prog_4_m1_6 : decode prog_4_method_1_code 6 = .ok (.putfield 7, 3) := by decide +kernel
theorem d_prog_4_m1_9 : decode prog_4_method_1_code 9 = .ok (.aload_n 0, 1) := by decide +kernel
theorem d_prog_4_m1_10 : decode prog_4_method_1_code 10 = .ok (.iload_n 2, 1) := by decide +kernel
theorem d_prog_4_m1_11 : decode prog_4_method_1_code 11 = .ok (.putfield 13, 3) := by decide +kernel
theorem d_prog_4_m1_14 : decode prog_4_method_1_code 14 = .ok (.return_, 1) := by decide +kernel
theorem pn17 : plainName "ephemera/cli/Flags$Term" = true := by first | (simp [plainName, overriddenIn]; done) | decide +kernel
theorem d_prog_4_m10_0 : decode prog_4_method_10_code 0 = .ok (.aload_n 0, 1) := by decide +kernel
theorem d_prog_4_m10_1 : decode prog_4_method_10_code 1 = .ok (.getfield 13, 3) := by decide +kernel
theorem d_prog_4_m10_4 : decode prog_4_method_10_code 4 = .ok (.ireturn, 1) := by decide +kernel
theorem d_prog_4_m9_0 : decode prog_4_method_9_code 0 = .ok (.aload_n 0, 1) := by decide +kernel
theorem d_prog_4_m9_1 : decode prog_4_method_9_code 1 = .ok (.getfield 7, 3) := by decide +kernel
theorem d_prog_4_m9_4 : decode prog_4_method_9_code 4 = .ok (.areturn, 1) := by decide +kernel
theorem d_prog_3_m7_0 : decode prog_3_method_7_code 0 = .ok (.aload_n 0, 1) := by decide +kernel
theorem d_prog_3_m7_1 : decode prog_3_method_7_code 1 = .ok (.getfield 7, 3) := by decide +kernel
theorem d_prog_3_m7_4 : decode prog_3_method_7_code 4 = .ok (.areturn, 1) := by decide +kernel
theorem d_prog_3_m8_0 : decode prog_3_method_8_code 0 = .ok (.aload_n 0, 1) := by decide +kernel
theorem d_prog_3_m8_1 : decode prog_3_method_8_code 1 = .ok (.getfield 13, 3) := by decide +kernel
theorem d_prog_3_m8_4 : decode prog_3_method_8_code 4 = .ok (.areturn, 1) := by decide +kernel
theorem d_jdk_44_m3_0 : decode jdk_44_method_3_code 0 = .ok (.aload_n 0, 1) := by decide +kernel
theorem d_jdk_44_m3_1 : decode jdk_44_method_3_code 1 = .ok (.getfield 24, 3) := by decide +kernel
theorem d_jdk_44_m3_4 : decode jdk_44_method_3_code 4 = .ok (.getstatic 19, 3) := by decide +kernel
theorem d_jdk_44_m3_7 : decode jdk_44_method_3_code 7 = .ok (.if_acmp .eq 7, 3) := by decide +kernel
theorem d_jdk_44_m3_14 : decode jdk_44_method_3_code 14 = .ok (.iconst 1, 1) := by decide +kernel
theorem d_jdk_44_m3_15 : decode jdk_44_method_3_code 15 = .ok (.ireturn, 1) := by decide +kernel
theorem d_jdk_44_m5_0 : decode jdk_44_method_5_code 0 = .ok (.iload_n 1, 1) := by decide +kernel
theorem d_jdk_44_m5_1 : decode jdk_44_method_5_code 1 = .ok (.ifCond .ne 8, 3) := by decide +kernel
theorem d_jdk_44_m5_4 : decode jdk_44_method_5_code 4 = .ok (.aload_n 0, 1) := by decide +kernel
theorem d_jdk_44_m5_5 : decode jdk_44_method_5_code 5 = .ok (.getfield 13, 3) := by decide +kernel
theorem d_jdk_44_m5_8 : decode jdk_44_method_5_code 8 = .ok (.areturn, 1) := by decide +kernel
theorem d_jdk_42_m66_0 : decode jdk_42_method_66_code 0 = .ok (.aload_n 0, 1) := by decide +kernel
theorem d_jdk_42_m66_1 : decode jdk_42_method_66_code 1 = .ok (.aload_n 1, 1) := by decide +kernel
theorem d_jdk_42_m66_2 : decode jdk_42_method_66_code 2 = .ok (.if_acmp .ne 5, 3) := by decide +kernel
theorem d_jdk_42_m66_5 : decode jdk_42_method_66_code 5 = .ok (.iconst 1, 1) := by decide +kernel
theorem d_jdk_42_m66_6 : decode jdk_42_method_66_code 6 = .ok (.ireturn, 1) := by decide +kernel
theorem d_jdk_42_m55_0 : decode jdk_42_method_55_code 0 = .ok (.aload_n 0, 1) := by decide +kernel
theorem d_jdk_42_m55_1 : decode jdk_42_method_55_code 1 = .ok (.getfield 9, 3) := by decide +kernel
theorem d_jdk_42_m55_4 : decode jdk_42_method_55_code 4 = .ok (.arraylength, 1) := by decide +kernel
theorem d_jdk_42_m55_5 : decode jdk_42_method_55_code 5 = .ok (.ifCond .ne 7, 3) := by decide +kernel
theorem d_jdk_42_m55_8 : decode jdk_42_method_55_code 8 = .ok (.iconst 1, 1) := by decide +kernel
theorem d_jdk_42_m55_9 : decode jdk_42_method_55_code 9 = .ok (.goto 4, 3) := by decide +kernel
theorem d_jdk_42_m55_13 : decode jdk_42_method_55_code 13 = .ok (.ireturn, 1) := by decide +kernel
theorem d_jdk_42_m55_12 : decode jdk_42_method_55_code 12 = .ok (.iconst 0, 1) := by decide +kernel
theorem d_prog_3_m3_0 : decode prog_3_method_3_code 0 = .ok (.aload_n 0, 1) := by decide +kernel
theorem d_prog_3_m3_1 : decode prog_3_method_3_code 1 = .ok (.getfield 13, 3) := by decide +kernel
theorem d_prog_3_m3_4 : decode prog_3_method_3_code 4 = .ok (.invokevirtual 21, 3) := by decide +kernel
theorem pd18 : parseMethodDescriptor "()Z" = some ⟨[], some .boolean⟩ := by decide +kernel
theorem d_prog_3_m3_7 : decode prog_3_method_3_code 7 = .ok (.ireturn, 1) := by decide +kernel
theorem d_prog_4_m2_0 : decode prog_4_method_2_code 0 = .ok (.new 8, 3) := by decide +kernel
theorem d_prog_4_m2_3 : decode prog_4_method_2_code 3 = .ok (.dup, 1) := by decide +kernel
theorem d_prog_4_m2_4 : decode prog_4_method_2_code 4 = .ok (.new 17, 3) := by decide +kernel
theorem d_prog_4_m2_7 : decode prog_4_method_2_code 7 = .ok (.dup, 1) := by decide +kernel
theorem d_prog_4_m2_8 : decode prog_4_method_2_code 8 = .ok (.aload_n 0, 1) := by decide +kernel
theorem d_prog_4_m2_9 : decode prog_4_method_2_code 9 = .ok (.aload_n 1, 1) := by decide +kernel
theorem d_prog_4_m2_10 : decode prog_4_method_2_code 10 = .ok (.invokespecial 19, 3) := by decide +kernel
theorem pd19 : parseMethodDescriptor "(Ljava/lang/String;Ljava/lang/String;)V" = some ⟨[(.object "java/lang/String"), (.object "java/lang/String")], none⟩ := by decide +kernel
theorem d_prog_4_m2_13 : decode prog_4_method_2_code 13 = .ok (.invokestatic 22, 3) := by decide +kernel
theorem pd20 : parseMethodDescriptor "(Ljava/lang/Object;)Ljava/util/List;" = some ⟨[(.object "java/lang/Object")], some (.object "java/util/List")⟩ := by decide +kernel
theorem d_prog_4_m2_16 : decode prog_4_method_2_code 16 = .ok (.iconst 0, 1) := by decide +kernel
theorem d_prog_4_m2_17 : decode prog_4_method_2_code 17 = .ok (.invokespecial 28, 3) := by decide +kernel
theorem pd21 : parseMethodDescriptor "(Ljava/util/List;Z)V" = some ⟨[(.object "java/util/List"), .boolean], none⟩ := by decide +kernel
theorem d_prog_4_m2_20 : decode prog_4_method_2_code 20 = .ok (.areturn, 1) := by decide +kernel
theorem pd22 : parseMethodDescriptor "([C)V" = some ⟨[(.array .char)], none⟩ := by decide +kernel
theorem pd23 : parseMethodDescriptor "(Ljava/lang/String;Ljava/lang/String;)Lephemera/cli/Flags$Term;" = some ⟨[(.object "java/lang/String"), (.object "java/lang/String")], some (.object "ephemera/cli/Flags$Term")⟩ := by decide +kernel
theorem pd24 : parseMethodDescriptor "()Ljava/util/List;" = some ⟨[], some (.object "java/util/List")⟩ := by decide +kernel
theorem pd25 : parseMethodDescriptor "()I" = some ⟨[], some .int⟩ := by decide +kernel
theorem pd26 : parseMethodDescriptor "(I)Ljava/lang/Object;" = some ⟨[.int], some (.object "java/lang/Object")⟩ := by decide +kernel
theorem pd27 : parseMethodDescriptor "()Ljava/lang/String;" = some ⟨[], some (.object "java/lang/String")⟩ := by decide +kernel
theorem pd28 : parseMethodDescriptor "(Ljava/lang/Object;)Z" = some ⟨[(.object "java/lang/Object")], some .boolean⟩ := by decide +kernel
theorem pn29 : plainName "ephemera/cli/TermRequiredPinLaw" = true := by first | (simp [plainName, overriddenIn]; done) | decide +kernel

theorem lat0 : Lat [] := fun _ q => nomatch q
theorem latS {c : Int32} {cs : List Int32} (h : 0 ≤ c.toInt ∧ c.toInt ≤ 255) (L : Lat cs) : Lat (c :: cs) := fun x q => (List.mem_cons.mp q).elim (fun z => z ▸ h) (L x)
theorem m255 (x : Int32) : 0 ≤ (x &&& (255 : Int32)).toInt ∧ (x &&& (255 : Int32)).toInt ≤ 255 := c_and x 255 (by decide)
theorem t32s (i : Nat) : i.toInt32 + 1 = (i + 1).toInt32 := by
  show Int32.ofNat i + 1 = Int32.ofNat (i + 1)
  rw [Int32.ofNat_add]; rfl
theorem lo8_lo8 (x : Int32) : nar .byte x.toInt8.toInt32 = x.toInt8.toInt32 := by simp [nar]
theorem ge255 {cs : List Int32} (L : Lat cs) {i : Nat} (hi : i < cs.length) : ¬ (255 : Int32) < cs[i] := by
  have := (L _ (List.getElem_mem hi)).2
  rw [Int32.lt_iff_toInt_lt]; have e : (255 : Int32).toInt = 255 := rfl; omega
theorem cmp_set {cs : List Int32} {vs : List Value} {i : Nat} (hi : i < cs.length) (hv : vs.length = cs.length) : (by8 (cs.take i) ++ vs.drop i).set i (.int cs[i].toInt8.toInt32) = by8 (cs.take (i + 1)) ++ vs.drop (i + 1) := by
  have h1 : (by8 (cs.take i)).length = i := by simp; omega
  rw [List.set_append_right _ _ (by omega), h1, Nat.sub_self, List.drop_eq_getElem_cons (by omega : i < vs.length), List.set_cons_zero, List.take_succ_eq_append_getElem hi]
  simp only [by8, List.map_append, List.map_cons, List.map_nil, List.append_assoc, List.cons_append, List.nil_append]
theorem lt32 {a b : Nat} (ha : a < 2 ^ 31) (hb : b < 2 ^ 31) : a.toInt32 < b.toInt32 ↔ a < b := by
  rw [Int32.lt_iff_toInt_lt, (len32 ha).2.2, (len32 hb).2.2]; omega
theorem eq32 {a b : Nat} (ha : a < 2 ^ 31) (hb : b < 2 ^ 31) : a.toInt32 = b.toInt32 ↔ a = b := by
  rw [← Int32.toInt_inj, (len32 ha).2.2, (len32 hb).2.2]; omega

theorem shr0 (x : Int32) : x >>> ((0 : Int32) &&& 31) = x := by
  have e : (0 : Int32) &&& 31 = 0 := by decide
  rw [e]; simp
theorem lo8m {x : Int32} (h : 0 ≤ x.toInt ∧ x.toInt ≤ 255) : x.toInt8.toInt32 &&& (255 : Int32) = x := by
  apply Int32.toInt_inj.mp
  have e1 := c_mask x.toInt8.toInt32 255 8 (by decide) (by decide)
  rw [e1]
  have e2 := c_i2b x
  omega
theorem i2cx {x : Int32} (h : 0 ≤ x.toInt ∧ x.toInt ≤ 65535) : x.toUInt32.toUInt16.toUInt32.toInt32 = x := by
  apply Int32.toInt_inj.mp
  have e2 := c_i2c x
  omega
theorem narc {x : Int32} (h : 0 ≤ x.toInt ∧ x.toInt ≤ 65535) : narrow .char (.int x) = .int x := by
  show Value.int _ = _
  rw [i2cx h]
theorem Lat.at {cs : List Int32} (L : Lat cs) {i : Nat} (hi : i < cs.length) : 0 ≤ (cs.getD i 0).toInt ∧ (cs.getD i 0).toInt ≤ 255 := by
  rw [List.getD_eq_getElem?_getD, List.getElem?_eq_getElem hi]; exact L _ (List.getElem_mem hi)
theorem to16 {x : Int} (h : 0 ≤ x ∧ x ≤ 255) : 0 ≤ x ∧ x ≤ 65535 := by omega
theorem by8_at {cs : List Int32} {i : Nat} (hi : i < cs.length) : (by8 cs)[i.toInt32.toNatClampNeg]? = some (.int (cs.getD i 0).toInt8.toInt32) ↔ i.toInt32.toNatClampNeg = i ∨ (by8 cs)[i.toInt32.toNatClampNeg]? = some (.int (cs.getD i 0).toInt8.toInt32) := by
  constructor
  · exact Or.inr
  · rintro (h | h)
    · rw [h]; simp [hi]
    · exact h
theorem by8_get {cs : List Int32} {i : Nat} (hi : i < cs.length) (hl : cs.length < 2 ^ 31) : (by8 cs)[i.toInt32.toNatClampNeg]? = some (.int (cs.getD i 0).toInt8.toInt32) := (by8_at hi).mpr (Or.inl (len32 (by omega)).2.1)
theorem lo8_inj {x y : Int32} (h : 0 ≤ x.toInt ∧ x.toInt ≤ 255) (h' : 0 ≤ y.toInt ∧ y.toInt ≤ 255) (q : x.toInt8.toInt32 = y.toInt8.toInt32) : x = y := by
  rw [← lo8m h, ← lo8m h', q]
theorem take_step {cs ds : List Int32} {i : Nat} (h : cs.take i = ds.take i) (hi : i < cs.length) (hj : i < ds.length) (e : cs.getD i 0 = ds.getD i 0) : cs.take (i + 1) = ds.take (i + 1) := by
  rw [List.take_succ_eq_append_getElem hi, List.take_succ_eq_append_getElem hj, h]
  rw [List.getD_eq_getElem?_getD, List.getElem?_eq_getElem hi, List.getD_eq_getElem?_getD, List.getElem?_eq_getElem hj] at e
  have e' : cs[i] = ds[i] := e
  rw [e']
theorem ite1 {P : Prop} [Decidable P] (h : P) : (1 : Int32) = if P then 1 else 0 := (if_pos h).symm
theorem ite0 {P : Prop} [Decidable P] (h : ¬ P) : (0 : Int32) = if P then 1 else 0 := (if_neg h).symm
theorem narb {P : Prop} [Decidable P] : narrow .boolean (.int (if P then (1 : Int32) else 0)) = .int (if P then (1 : Int32) else 0) := by split <;> decide


abbrev c_cmp5_q (Z : State) (zC : Int32) (eE : Addr) (h : Heap) (B : Addr → Prop) (a d : Addr) (cs : List Int32) (vs : List Value) (xR : Value) (h' : Heap) : Prop := xR = (.int cs.length.toInt32) ∧ Keep h h' [d] ∧ Ar Z h' d .byte (by8 cs)
def c_cmp5_rm : Room := { frames := 0, cells := 0, slots := 0, locals := 0 }
set_option maxRecDepth 65536 in
set_option maxHeartbeats 40000000 in
theorem c_cmp5 {l : Launch} {Z : State} {a0 : Array Value} {zC : Int32} {eE : Addr} {h : Heap} {B : Addr → Prop} {a d : Addr} {cs : List Int32} {vs : List Value} (G : Gl Z a0 zC eE) (hE : En Z B h) (P0 : Ar Z h a .char (cs.map Value.int)) (P1 : Ar Z h d .byte vs) (P2 : Lat cs) (P3 : vs.length = cs.length) (P4 : Z.heap.size ≤ d) (P5 : ¬ B d) : Con l Z consts_1 [] (⟨"java/lang/StringUTF16", "compress", "([CI[BII)I"⟩ : MethodName) jdk_52_method_21_code 7 (some .int) c_cmp5_rm B h #[(.ref a), (.int (0 : Int32)), (.ref d), (.int (0 : Int32)), (.int cs.length.toInt32)] (fun vR hR BR => ∃ xR, vR = some xR ∧ BR = B ∧ c_cmp5_q Z zC eE h B a d cs vs xR hR) := by
  have hz0 := hE.1.1
  refine Con.intro (ls := #[.val (.ref a), .val (.int (0 : Int32)), .val (.ref d), .val (.int (0 : Int32)), .val (.int cs.length.toInt32), .unset, .unset]) (plainFor_of_name pn0) G.2.1 hE (fun m => by first | rfl | (simp [entryFrame, mkF, argsToLocals, Value.category]; done)) ?_
  intro p e s m below meth c T hs X
  have hL := P0.len_lt; rw [List.length_map] at hL
  have hne : a ≠ d := ar_ne P0 P1 (by decide)
  have loop : ∀ (r i : Nat) (T : State) (h1 : Heap) (o : Slot), i + r = cs.length → (o = .unset ∨ ∃ x, o = .val (.int x)) → Wk l Z consts_1 (⟨"java/lang/StringUTF16", "compress", "([CI[BII)I"⟩ : MethodName) jdk_52_method_21_code 7 (some .int) c_cmp5_rm B p e s m #[(.ref a), (.int (0 : Int32)), (.ref d), (.int (0 : Int32)), (.int cs.length.toInt32)] below meth c B T h1 0 0 → Keep h h1 [d] → Ar Z h1 a .char (cs.map Value.int) → Ar Z h1 d .byte (by8 (cs.take i) ++ vs.drop i) → Go l Z consts_1 c_cmp5_rm B (fun vR hR BR => ∃ xR, vR = some xR ∧ BR = B ∧ c_cmp5_q Z zC eE h B a d cs vs xR hR) p e s m below T 3 #[.val (.ref a), .val (.int i.toInt32), .val (.ref d), .val (.int i.toInt32), .val (.int cs.length.toInt32), .val (.int i.toInt32), o] [] := by
    intro r
    induction r with
    | zero =>
      intro i T h1 o hi ho X K A D
      obtain rfl : i = cs.length := by omega
      have D : Ar Z h1 d .byte (by8 cs) := by simpa [P3, List.drop_eq_nil_of_le] using D
      refine W.iload (pc' := 5) X d_jdk_52_m21_3 rfl rfl ?_
      refine W.iload (pc' := 7) X d_jdk_52_m21_5 rfl rfl ?_
      refine W.icT (pc' := 44) X d_jdk_52_m21_7 (XT.ii_ge_t (fun q => by rw [Int32.lt_iff_toInt_lt] at q; omega)) (by decide) (by decide) ?_
      refine W.iload (pc' := 46) X d_jdk_52_m21_44 rfl rfl ?_
      exact W.ireturn X d_jdk_52_m21_46 rfl (by decide) rfl (by decide) (by decide) ⟨_, rfl, rfl, ⟨rfl, (Keep.trans (Keep.refl h [d]) K (allS (Or.inl (List.mem_of_getElem? (i := 0) rfl)) all0)), D⟩⟩
    | succ r ih =>
      intro i T h1 o hi ho X K A D
      have hi' : i < cs.length := by omega
      rcases ho with rfl | ⟨x0, rfl⟩
      all_goals
        refine W.iload (pc' := 5) X d_jdk_52_m21_3 rfl rfl ?_
        refine W.iload (pc' := 7) X d_jdk_52_m21_5 rfl rfl ?_
        refine W.icF (pc' := 10) X d_jdk_52_m21_7 (XT.ii_ge_f ((lt32 (by omega) hL).mpr hi')) rfl ?_
        refine W.aloadN (pc' := 11) X d_jdk_52_m21_10 rfl rfl rfl ?_
        refine W.iloadN (pc' := 12) X d_jdk_52_m21_11 rfl rfl ?_
        refine W.caload (pc' := 13) (v := (.int cs[i])) X A (len32 (by omega)).1 (by rw [(len32 (by omega)).2.1]; simp [hi']) d_jdk_52_m21_12 rfl ?_
        refine W.istore (pc' := 15) (ls' := #[.val (.ref a), .val (.int i.toInt32), .val (.ref d), .val (.int i.toInt32), .val (.int cs.length.toInt32), .val (.int i.toInt32), .val (.int cs[i])]) X d_jdk_52_m21_13 rfl rfl ?_
        refine W.iload (pc' := 17) X d_jdk_52_m21_15 rfl rfl ?_
        refine W.sipush (pc' := 20) X (255 : Int32) d_jdk_52_m21_17 (by decide) rfl ?_
        refine W.icT (pc' := 26) X d_jdk_52_m21_20 (XT.ii_le_t (ge255 P2 hi')) (by decide) (by decide) ?_
        refine W.aloadN (pc' := 27) X d_jdk_52_m21_26 rfl rfl rfl ?_
        refine W.iloadN (pc' := 28) X d_jdk_52_m21_27 rfl rfl ?_
        refine W.iload (pc' := 30) X d_jdk_52_m21_28 rfl rfl ?_
        refine W.i2b (pc' := 31) (w := (cs[i]).toInt8.toInt32) X d_jdk_52_m21_30 rfl rfl ?_
        refine W.bastore (pc' := 32) (i := i) X D (len32 (by omega)).1 (len32 (by omega)).2.1 (by simp; omega) (lo8_lo8 _) P4 P5 d_jdk_52_m21_31 rfl fun T h1 X K2 A3 => ?_
        refine W.iinc (pc' := 35) (ls' := #[.val (.ref a), .val (.int (i + 1).toInt32), .val (.ref d), .val (.int i.toInt32), .val (.int cs.length.toInt32), .val (.int i.toInt32), .val (.int cs[i])]) X (1 : Int32) (w := (i + 1).toInt32) d_jdk_52_m21_32 (by decide) rfl (t32s i) rfl rfl ?_
        refine W.iinc (pc' := 38) (ls' := #[.val (.ref a), .val (.int (i + 1).toInt32), .val (.ref d), .val (.int (i + 1).toInt32), .val (.int cs.length.toInt32), .val (.int i.toInt32), .val (.int cs[i])]) X (1 : Int32) (w := (i + 1).toInt32) d_jdk_52_m21_35 (by decide) rfl (t32s i) rfl rfl ?_
        refine W.iinc (pc' := 41) (ls' := #[.val (.ref a), .val (.int (i + 1).toInt32), .val (.ref d), .val (.int (i + 1).toInt32), .val (.int cs.length.toInt32), .val (.int (i + 1).toInt32), .val (.int cs[i])]) X (1 : Int32) (w := (i + 1).toInt32) d_jdk_52_m21_38 (by decide) rfl (t32s i) rfl rfl ?_
        refine W.goto (pc' := 3) X d_jdk_52_m21_41 (by decide) (by decide) ?_
        have F4 := (A.keep K2 (ninS hne nin0))
        have D9 := A3; rw [cmp_set hi' P3] at D9
        exact ih (i + 1) T h1 _ (by omega) (Or.inr ⟨_, rfl⟩) X (K.trans K2 (allS (Or.inl (List.mem_of_getElem? (i := 0) rfl)) all0)) F4 D9
  refine W.iconst (pc' := 1) X (0 : Int32) d_jdk_52_m21_0 (by decide) rfl ?_
  refine W.istore (pc' := 3) (ls' := #[.val (.ref a), .val (.int (0 : Int32)), .val (.ref d), .val (.int (0 : Int32)), .val (.int cs.length.toInt32), .val (.int (0 : Int32)), .unset]) X d_jdk_52_m21_1 rfl rfl ?_
  exact loop cs.length 0 T h .unset (by omega) (Or.inl rfl) X (Keep.refl _ _) P0 (by simpa using P1)
def c_codl_rm : Room := { frames := 0, cells := 0, slots := 0, locals := 0 }
set_option maxRecDepth 65536 in
set_option maxHeartbeats 40000000 in
theorem c_codl {l : Launch} {Z : State} {a0 : Array Value} {zC : Int32} {eE : Addr} {h : Heap} {B : Addr → Prop} {d : Addr} {vs : List Value} {n : Int32} (G : Gl Z a0 zC eE) (hE : En Z B h) (P0 : Ar Z h d .byte vs) (P1 : vs.length.toInt32 = n) : Con l Z consts_1 [] (⟨"java/lang/StringUTF16", "coderFromArrayLen", "([BI)B"⟩ : MethodName) jdk_52_method_15_code 2 (some .byte) c_codl_rm B h #[(.ref d), (.int n)] (fun vR hR BR => vR = some (.int (0 : Int32)) ∧ hR = h ∧ BR = B) := by
  have hz0 := hE.1.1
  refine Con.intro (ls := #[.val (.ref d), .val (.int n)]) (plainFor_of_name pn0) G.2.1 hE (fun m => by first | rfl | (simp [entryFrame, mkF, argsToLocals, Value.category]; done)) ?_
  intro p e s m below meth c T hs X
  refine W.iloadN (pc' := 1) X d_jdk_52_m15_0 rfl rfl ?_
  refine W.aloadN (pc' := 2) X d_jdk_52_m15_1 rfl rfl rfl ?_
  refine W.alen (pc' := 3) (z := n) X P0 P1 d_jdk_52_m15_2 rfl ?_
  refine W.isub (pc' := 4) (w := (0 : Int32)) X d_jdk_52_m15_3 (Int32.sub_self _) rfl ?_
  refine W.bipush (pc' := 6) X (31 : Int32) d_jdk_52_m15_4 (by decide) rfl ?_
  refine W.iushr (pc' := 7) (w := (0 : Int32)) X d_jdk_52_m15_6 (by decide) rfl ?_
  refine W.i2b (pc' := 8) (w := (0 : Int32)) X d_jdk_52_m15_7 (by decide) rfl ?_
  exact W.ireturn X d_jdk_52_m15_8 rfl (by decide) (by decide) (by decide) (by decide) ⟨rfl, rfl, rfl⟩
abbrev c_cmp3_q (Z : State) (zC : Int32) (eE : Addr) (h : Heap) (B : Addr → Prop) (a : Addr) (cs : List Int32) (xR : Value) (h' : Heap) : Prop := ∃ (t : Addr), xR = (.ref t) ∧ Keep h h' [] ∧ h.size ≤ t ∧ Ar Z h' t .byte (by8 cs)
def c_cmp3_rm : Room := { frames := 1, cells := 1, slots := 2, locals := 18 }
set_option maxRecDepth 65536 in
set_option maxHeartbeats 40000000 in
theorem c_cmp3 {l : Launch} {Z : State} {a0 : Array Value} {zC : Int32} {eE : Addr} {h : Heap} {B : Addr → Prop} {a : Addr} {cs : List Int32} (G : Gl Z a0 zC eE) (hE : En Z B h) (P0 : Ar Z h a .char (cs.map Value.int)) (P1 : Lat cs) (P2 : cs.length ≤ 2) : Con l Z consts_1 [] (⟨"java/lang/StringUTF16", "compress", "([CII)[B"⟩ : MethodName) jdk_52_method_16_code 6 (some (.array .byte)) c_cmp3_rm B h #[(.ref a), (.int (0 : Int32)), (.int cs.length.toInt32)] (fun vR hR BR => ∃ xR, vR = some xR ∧ BR = B ∧ c_cmp3_q Z zC eE h B a cs xR hR) := by
  have hz0 := hE.1.1
  refine Con.intro (ls := #[.val (.ref a), .val (.int (0 : Int32)), .val (.int cs.length.toInt32), .unset, .unset, .unset]) (plainFor_of_name pn0) G.2.1 hE (fun m => by first | rfl | (simp [entryFrame, mkF, argsToLocals, Value.category]; done)) ?_
  intro p e s m below meth c T hs X
  refine W.iloadN (pc' := 1) X d_jdk_52_m16_0 rfl rfl ?_
  refine W.newA (aty := .byte) (pc' := 3) (k' := 1) (n' := 2) (cap := 2) X (w19 G) d_jdk_52_m16_1 (len32 (by omega)).1 (by rw [(len32 (by omega)).2.1]; exact P2) (by decide) rfl (by decide) (by decide) (by decide) (by decide) fun T h1 a2 X K3 g4 g5 nb6 A7 => ?_
  have A7 : Ar Z h1 a2 .byte (List.replicate cs.length (.int (0 : Int32))) := by have q := A7; rw [(len32 (by omega)).2.1] at q; exact q
  refine W.astoreN (pc' := 4) (ls' := #[.val (.ref a), .val (.int (0 : Int32)), .val (.int cs.length.toInt32), .val (.ref a2), .unset, .unset]) X d_jdk_52_m16_3 rfl rfl rfl ?_
  refine W.aloadN (pc' := 5) X d_jdk_52_m16_4 rfl rfl rfl ?_
  refine W.iloadN (pc' := 6) X d_jdk_52_m16_5 rfl rfl ?_
  refine W.aloadN (pc' := 7) X d_jdk_52_m16_6 rfl rfl rfl ?_
  refine W.iconst (pc' := 8) X (0 : Int32) d_jdk_52_m16_7 (by decide) rfl ?_
  refine W.iloadN (pc' := 9) X d_jdk_52_m16_8 rfl rfl ?_
  have F8 := (P0.keep K3 nin0)
  refine W.callS (pc' := 12) (W := 0) (argsL := [(.ref a), (.int (0 : Int32)), (.ref a2), (.int (0 : Int32)), (.int cs.length.toInt32)]) (st := []) (k' := 1) (n' := 2) X (c_cmp5 (a := a) (d := a2) (cs := cs) (vs := (List.replicate cs.length (.int (0 : Int32)))) G X.en F8 A7 P1 (by simp) g5 nb6) (w20 G) (w21 G) (w22 G) (w17 G) (by decide) (by decide) (by decide) rfl (lenOf pd1 rfl) rfl rfl (Nat.le_of_eq rfl) d_jdk_52_m16_9 rfl (by decide) (by decide) (by decide) (by decide) (kr fun T h9 xr X z10 q11 => ?_)
  obtain ⟨rfl, K12, F13⟩ := q11
  refine W.istore (pc' := 14) (ls' := #[.val (.ref a), .val (.int (0 : Int32)), .val (.int cs.length.toInt32), .val (.ref a2), .val (.int cs.length.toInt32), .unset]) X d_jdk_52_m16_12 rfl rfl ?_
  refine W.iload (pc' := 16) X d_jdk_52_m16_14 rfl rfl ?_
  refine W.iloadN (pc' := 17) X d_jdk_52_m16_16 rfl rfl ?_
  refine W.icT (pc' := 57) X d_jdk_52_m16_17 (XT.ii_eq_t rfl) (by decide) (by decide) ?_
  refine W.aloadN (pc' := 58) X d_jdk_52_m16_57 rfl rfl rfl ?_
  exact W.areturn X d_jdk_52_m16_58 rfl rfl rfl rfl (by decide) (by decide) ⟨_, rfl, rfl, ⟨a2, rfl, (Keep.trans (Keep.trans (Keep.refl h []) K3 all0) K12 (allS (Or.inr (Nat.le_trans (Nat.le_refl _) g4)) all0)), (Nat.le_trans (Nat.le_refl _) g4), F13⟩⟩
abbrev c_init4_q (Z : State) (zC : Int32) (eE : Addr) (h : Heap) (B : Addr → Prop) (x a : Addr) (cs : List Int32) (v0 c0 : Value) (h' : Heap) : Prop := ∃ (t : Addr), Keep h h' [x] ∧ h.size ≤ t ∧ Str Z h' x t cs
def c_init4_rm : Room := { frames := 2, cells := 1, slots := 2, locals := 35 }
set_option maxRecDepth 65536 in
set_option maxHeartbeats 40000000 in
theorem c_init4 {l : Launch} {Z : State} {a0 : Array Value} {zC : Int32} {eE : Addr} {h : Heap} {B : Addr → Prop} {x a : Addr} {cs : List Int32} {v0 c0 : Value} (G : Gl Z a0 zC eE) (hE : En Z B h) (P0 : Exa Z h x "java/lang/String") (P1 : Fld Z h x "java/lang/String" "value" "[B" v0) (P2 : Fld Z h x "java/lang/String" "coder" "B" c0) (P3 : Ar Z h a .char (cs.map Value.int)) (P4 : Lat cs) (P5 : 0 < cs.length) (P6 : cs.length ≤ 2) (P7 : Z.heap.size ≤ x) (P8 : ¬ B x) : Con l Z consts_1 [] (⟨"java/lang/String", "<init>", "([CIILjava/lang/Void;)V"⟩ : MethodName) jdk_42_method_149_code 6 none c_init4_rm B h #[(.ref x), (.ref a), (.int (0 : Int32)), (.int cs.length.toInt32), .null] (fun vR hR BR => vR = none ∧ BR = B ∧ c_init4_q Z zC eE h B x a cs v0 c0 hR) := by
  have hz0 := hE.1.1
  refine Con.intro (ls := #[.val (.ref x), .val (.ref a), .val (.int (0 : Int32)), .val (.int cs.length.toInt32), .val .null, .unset]) (plainFor_of_name pn4) G.2.1 hE (fun m => by first | rfl | (simp [entryFrame, mkF, argsToLocals, Value.category]; done)) ?_
  intro p e s m below meth c T hs X
  refine W.aloadN (pc' := 1) X d_jdk_42_m149_0 rfl rfl rfl ?_
  refine W.initO (pc' := 4) (W := 0) X (w11 G) (w12 G) (w13 G) d_jdk_42_m149_1 rfl (by decide) (Nat.le_of_eq rfl) (by decide) rfl fun T X => ?_
  refine W.iloadN (pc' := 5) X d_jdk_42_m149_4 rfl rfl ?_
  refine W.ifT (pc' := 27) X d_jdk_42_m149_5 (XT.i0_ne_t (fun q => absurd ((eq32 (b := 0) (by omega) (by decide)).mp q) (by omega))) (by decide) (by decide) ?_
  refine W.getS (pc' := 30) (host := "") X (Or.inl (w14 G)) Via.refl G.2.2.1 d_jdk_42_m149_27 rfl fun T X => ?_
  refine W.ifF (pc' := 33) X d_jdk_42_m149_30 (XT.i0_eq_f G.2.2.2.1) rfl ?_
  refine W.aloadN (pc' := 34) X d_jdk_42_m149_33 rfl rfl rfl ?_
  refine W.iloadN (pc' := 35) X d_jdk_42_m149_34 rfl rfl ?_
  refine W.iloadN (pc' := 36) X d_jdk_42_m149_35 rfl rfl ?_
  have en1 := X.en
  refine W.callS (pc' := 39) (W := 0) (argsL := [(.ref a), (.int (0 : Int32)), (.int cs.length.toInt32)]) (st := []) (k' := 1) (n' := 2) X (c_cmp3 (a := a) (cs := cs) G X.en P3 P4 P6) (w15 G) (w16 G) (w18 G) (w17 G) (by decide) (by decide) (by decide) rfl (lenOf pd2 rfl) rfl rfl (Nat.le_of_eq rfl) d_jdk_42_m149_36 rfl (by decide) (by decide) (by decide) (by decide) (kr fun T h2 xr X z3 q4 => ?_)
  obtain ⟨a5, rfl, K6, g7, F8⟩ := q4
  have g9 : Z.heap.size ≤ a5 := Nat.le_trans (Nat.le_trans hz0 (Nat.le_refl _)) g7
  have nb10 : ¬ B a5 := fun q => absurd (en1.2 _ q) (Nat.not_lt.mpr g7)
  refine W.astore (pc' := 41) (ls' := #[.val (.ref x), .val (.ref a), .val (.int (0 : Int32)), .val (.int cs.length.toInt32), .val .null, .val (.ref a5)]) X d_jdk_42_m149_39 rfl rfl rfl ?_
  refine W.aloadN (pc' := 42) X d_jdk_42_m149_41 rfl rfl rfl ?_
  refine W.aload (pc' := 44) X d_jdk_42_m149_42 rfl rfl rfl ?_
  refine W.iloadN (pc' := 45) X d_jdk_42_m149_44 rfl rfl ?_
  refine W.callS (pc' := 48) (W := 1) (argsL := [(.ref a5), (.int cs.length.toInt32)]) (st := [(.ref x)]) (k' := 1) (n' := 2) X (c_codl (d := a5) (vs := (by8 cs)) (n := cs.length.toInt32) G X.en F8 (by simp)) (w23 G) (w24 G) (w25 G) (w17 G) (by decide) (by decide) (by decide) rfl (lenOf pd3 rfl) rfl rfl (Nat.le_of_eq rfl) d_jdk_42_m149_45 rfl (by decide) (by decide) (by decide) (by decide) (kp fun T X => ?_)
  have F11 := (P2.keep K6 nin0)
  have F12 := (P0.keep K6)
  refine W.putF (pc' := 51) X (w26 G) Via.refl F11 F12 (Or.inr ⟨(w27 G), rfl, rfl⟩) (w2 G) (ty := .byte) (by decide) (by decide) (by decide) P7 P8 d_jdk_42_m149_48 rfl fun T h13 X W14 => ?_
  have F15 := F11.same W14
  refine W.aloadN (pc' := 52) X d_jdk_42_m149_51 rfl rfl rfl ?_
  refine W.aload (pc' := 54) X d_jdk_42_m149_52 rfl rfl rfl ?_
  have F16 := ((P1.keep K6 nin0).other W14 (Or.inr (slot_ne (Or.inr (w29 G)) (Or.inr (w27 G)) (by decide) (t := (.array .byte)) (t' := .byte) (by decide) (by decide))))
  have F17 := (F12.wr W14)
  refine W.putF (pc' := 57) X (w28 G) Via.refl F16 F17 (Or.inr ⟨(w29 G), rfl, rfl⟩) (w2 G) (ty := (.array .byte)) (by decide) rfl rfl P7 P8 d_jdk_42_m149_54 rfl fun T h18 X W19 => ?_
  have F20 := F16.same W19
  have F21 := (F17.wr W19)
  have F22 := (F15.other W19 (Or.inr (slot_ne (Or.inr (w27 G)) (Or.inr (w29 G)) (by decide) (t := .byte) (t' := (.array .byte)) (by decide) (by decide))))
  have F23 := ((F8.keep (Keep.of_wr W14) (ninS (Nat.ne_of_gt (Nat.lt_of_lt_of_le P0.lt (Nat.le_trans (Nat.le_refl _) g7))) nin0)).keep (Keep.of_wr W19) (ninS (Nat.ne_of_gt (Nat.lt_of_lt_of_le P0.lt (Nat.le_trans (Nat.le_refl _) g7))) nin0))
  exact W.vreturn X d_jdk_42_m149_57 rfl (by decide) (by decide) ⟨rfl, rfl, ⟨a5, (Keep.wr (Keep.wr (Keep.trans (Keep.refl h [x]) K6 all0) W14 (Or.inl (List.mem_of_getElem? (i := 0) rfl))) W19 (Or.inl (List.mem_of_getElem? (i := 0) rfl))), (Nat.le_trans (Nat.le_refl _) g7), ⟨F21, F22, F20, F23, P4⟩⟩⟩
abbrev c_init1_q (Z : State) (zC : Int32) (eE : Addr) (h : Heap) (B : Addr → Prop) (x a : Addr) (cs : List Int32) (v0 c0 : Value) (h' : Heap) : Prop := ∃ (t : Addr), Keep h h' [x] ∧ h.size ≤ t ∧ Str Z h' x t cs
def c_init1_rm : Room := { frames := 3, cells := 1, slots := 2, locals := 52 }
set_option maxRecDepth 65536 in
set_option maxHeartbeats 40000000 in
theorem c_init1 {l : Launch} {Z : State} {a0 : Array Value} {zC : Int32} {eE : Addr} {h : Heap} {B : Addr → Prop} {x a : Addr} {cs : List Int32} {v0 c0 : Value} (G : Gl Z a0 zC eE) (hE : En Z B h) (P0 : Exa Z h x "java/lang/String") (P1 : Fld Z h x "java/lang/String" "value" "[B" v0) (P2 : Fld Z h x "java/lang/String" "coder" "B" c0) (P3 : Ar Z h a .char (cs.map Value.int)) (P4 : Lat cs) (P5 : 0 < cs.length) (P6 : cs.length ≤ 2) (P7 : Z.heap.size ≤ x) (P8 : ¬ B x) : Con l Z consts_1 [] (⟨"java/lang/String", "<init>", "([C)V"⟩ : MethodName) jdk_42_method_3_code 2 none c_init1_rm B h #[(.ref x), (.ref a)] (fun vR hR BR => vR = none ∧ BR = B ∧ c_init1_q Z zC eE h B x a cs v0 c0 hR) := by
  have hz0 := hE.1.1
  refine Con.intro (ls := #[.val (.ref x), .val (.ref a)]) (plainFor_of_name pn4) G.2.1 hE (fun m => by first | rfl | (simp [entryFrame, mkF, argsToLocals, Value.category]; done)) ?_
  intro p e s m below meth c T hs X
  refine W.aloadN (pc' := 1) X d_jdk_42_m3_0 rfl rfl rfl ?_
  refine W.aloadN (pc' := 2) X d_jdk_42_m3_1 rfl rfl rfl ?_
  refine W.iconst (pc' := 3) X (0 : Int32) d_jdk_42_m3_2 (by decide) rfl ?_
  refine W.aloadN (pc' := 4) X d_jdk_42_m3_3 rfl rfl rfl ?_
  refine W.alen (pc' := 5) (z := cs.length.toInt32) X P3 (by simp) d_jdk_42_m3_4 rfl ?_
  refine W.aconst_null (pc' := 6) X d_jdk_42_m3_5 rfl ?_
  have en1 := X.en
  refine W.callN (pc' := 9) (W := 0) (argsL := [(.ref a), (.int (0 : Int32)), (.int cs.length.toInt32), .null]) (st := []) (k' := 1) (n' := 2) (a := x) X (c_init4 (x := x) (a := a) (cs := cs) (v0 := v0) (c0 := c0) G X.en P0 P1 P2 P3 P4 P5 P6 P7 P8) rfl (w7 G) (w8 G) (w10 G) (w3 G) (by decide) (by decide) (by decide) rfl (lenOf pd5 rfl) rfl rfl (Nat.le_of_eq rfl) d_jdk_42_m3_6 rfl (by decide) (by decide) (by decide) (by decide) (kv fun T h2 X z3 q4 => ?_)
  obtain ⟨a5, K6, g7, F8⟩ := q4
  have g9 : Z.heap.size ≤ a5 := Nat.le_trans (Nat.le_trans hz0 (Nat.le_refl _)) g7
  have nb10 : ¬ B a5 := fun q => absurd (en1.2 _ q) (Nat.not_lt.mpr g7)
  exact W.vreturn X d_jdk_42_m3_9 rfl (by decide) (by decide) ⟨rfl, rfl, ⟨a5, (Keep.trans (Keep.refl h [x]) K6 (allS (Or.inl (List.mem_of_getElem? (i := 0) rfl)) all0)), (Nat.le_trans (Nat.le_refl _) g7), F8⟩⟩
abbrev c_init4e_q (Z : State) (zC : Int32) (eE : Addr) (h : Heap) (B : Addr → Prop) (x a : Addr) (v0 c0 : Value) (h' : Heap) (B' : Addr → Prop) : Prop := ∃ (t : Addr), Keep h h' [x] ∧ Str Z h' x t ([] : List Int32)
def c_init4e_rm : Room := { frames := 1, cells := 4, slots := 8, locals := 12 }
set_option maxRecDepth 65536 in
set_option maxHeartbeats 40000000 in
theorem c_init4e {l : Launch} {Z : State} {a0 : Array Value} {zC : Int32} {eE : Addr} {h : Heap} {B : Addr → Prop} {x a : Addr} {v0 c0 : Value} (G : Gl Z a0 zC eE) (hE : En Z B h) (P0 : Exa Z h x "java/lang/String") (P1 : Fld Z h x "java/lang/String" "value" "[B" v0) (P2 : Fld Z h x "java/lang/String" "coder" "B" c0) (P3 : Z.heap.size ≤ x) (P4 : ¬ B x) : Con l Z consts_1 [] (⟨"java/lang/String", "<init>", "([CIILjava/lang/Void;)V"⟩ : MethodName) jdk_42_method_149_code 6 none c_init4e_rm B h #[(.ref x), (.ref a), (.int (0 : Int32)), (.int (0 : Int32)), .null] (fun vR hR BR => vR = none ∧ c_init4e_q Z zC eE h B x a v0 c0 hR BR) := by
  have hz0 := hE.1.1
  refine Con.intro (ls := #[.val (.ref x), .val (.ref a), .val (.int (0 : Int32)), .val (.int (0 : Int32)), .val .null, .unset]) (plainFor_of_name pn4) G.2.1 hE (fun m => by first | rfl | (simp [entryFrame, mkF, argsToLocals, Value.category]; done)) ?_
  intro p e s m below meth c T hs X
  refine W.aloadN (pc' := 1) X d_jdk_42_m149_0 rfl rfl rfl ?_
  refine W.initO (pc' := 4) (W := 0) X (w11 G) (w12 G) (w13 G) d_jdk_42_m149_1 rfl (by decide) (Nat.le_of_eq rfl) (by decide) rfl fun T X => ?_
  refine W.iloadN (pc' := 5) X d_jdk_42_m149_4 rfl rfl ?_
  refine W.ifF (pc' := 8) X d_jdk_42_m149_5 (by decide) rfl ?_
  refine W.aloadN (pc' := 9) X d_jdk_42_m149_8 rfl rfl rfl ?_
  refine W.ldcR (pc' := 11) (k' := 2) (n' := 4) (cap := 0) (cs := []) X (by decide) (w30 G) (watoms G) G.2.1 ⟨by decide, by decide⟩ (by unfold Lat; decide) (by decide) d_jdk_42_m149_9 (by decide) (by decide) rfl (by decide) (by decide) (by decide) (by decide) fun T h1 B5 a2 a6 X K3 zb4 S7 ne8 => ?_
  have nb9 : ¬ B5 x := fun q => (zb4 _ q).elim P4 (fun r => absurd (Nat.lt_of_lt_of_le P0.lt (Nat.le_refl _)) (Nat.not_lt.mpr r))
  have ne10 := ne8 _ nb9
  refine W.getF (pc' := 14) X (w28 G) Via.refl S7.val d_jdk_42_m149_11 rfl fun T X => ?_
  have F11 := (P1.keep K3 nin0)
  have F12 := (P0.keep K3)
  refine W.putF (pc' := 17) X (w28 G) Via.refl F11 F12 (Or.inr ⟨(w29 G), rfl, rfl⟩) (w2 G) (ty := (.array .byte)) (by decide) rfl rfl P3 nb9 d_jdk_42_m149_14 rfl fun T h13 X W14 => ?_
  have F15 := F11.same W14
  refine W.aloadN (pc' := 18) X d_jdk_42_m149_17 rfl rfl rfl ?_
  refine W.ldcR (pc' := 20) (k' := 4) (n' := 8) (cap := 0) (cs := []) X (by decide) (w30 G) (watoms G) G.2.1 ⟨by decide, by decide⟩ (by unfold Lat; decide) (by decide) d_jdk_42_m149_18 (by decide) (by decide) rfl (by decide) (by decide) (by decide) (by decide) fun T h16 B20 a17 a21 X K18 zb19 S22 ne23 => ?_
  have nb24 : ¬ B20 x := fun q => (zb19 _ q).elim nb9 (fun r => absurd (Nat.lt_of_lt_of_le P0.lt (Nat.le_trans K3.1 (Nat.le_of_eq (Wr.size W14).symm))) (Nat.not_lt.mpr r))
  have ne25 := ne23 _ nb24
  refine W.getF (pc' := 23) X (w26 G) Via.refl S22.cod d_jdk_42_m149_20 rfl fun T X => ?_
  have F26 := (((P2.keep K3 nin0).other W14 (Or.inr (slot_ne (Or.inr (w27 G)) (Or.inr (w29 G)) (by decide) (t := .byte) (t' := (.array .byte)) (by decide) (by decide)))).keep K18 nin0)
  have F27 := ((F12.wr W14).keep K18)
  refine W.putF (pc' := 26) X (w26 G) Via.refl F26 F27 (Or.inr ⟨(w27 G), rfl, rfl⟩) (w2 G) (ty := .byte) (by decide) (by decide) (by decide) P3 nb24 d_jdk_42_m149_23 rfl fun T h28 X W29 => ?_
  have F30 := F26.same W29
  have F31 := (F27.wr W29)
  have F32 := ((F15.keep K18 nin0).other W29 (Or.inr (slot_ne (Or.inr (w29 G)) (Or.inr (w27 G)) (by decide) (t := (.array .byte)) (t' := .byte) (by decide) (by decide))))
  have F33 := (((S7.keep (Keep.of_wr W14) (ninS (Ne.symm ne10.1) nin0) (ninS (Ne.symm ne10.2) nin0)).keep K18 nin0 nin0).keep (Keep.of_wr W29) (ninS (Ne.symm ne10.1) nin0) (ninS (Ne.symm ne10.2) nin0))
  exact W.vreturn X d_jdk_42_m149_26 rfl (by decide) (by decide) ⟨rfl, ⟨a6, (Keep.wr (Keep.trans (Keep.wr (Keep.trans (Keep.refl h [x]) K3 all0) W14 (Or.inl (List.mem_of_getElem? (i := 0) rfl))) K18 all0) W29 (Or.inl (List.mem_of_getElem? (i := 0) rfl))), ⟨F31, F30, F32, F33.arr, (fun _ q => nomatch q)⟩⟩⟩
abbrev c_init1e_q (Z : State) (zC : Int32) (eE : Addr) (h : Heap) (B : Addr → Prop) (x a : Addr) (v0 c0 : Value) (h' : Heap) (B' : Addr → Prop) : Prop := ∃ (t : Addr), Keep h h' [x] ∧ Str Z h' x t ([] : List Int32)
def c_init1e_rm : Room := { frames := 2, cells := 4, slots := 8, locals := 29 }
set_option maxRecDepth 65536 in
set_option maxHeartbeats 40000000 in
theorem c_init1e {l : Launch} {Z : State} {a0 : Array Value} {zC : Int32} {eE : Addr} {h : Heap} {B : Addr → Prop} {x a : Addr} {v0 c0 : Value} (G : Gl Z a0 zC eE) (hE : En Z B h) (P0 : Exa Z h x "java/lang/String") (P1 : Fld Z h x "java/lang/String" "value" "[B" v0) (P2 : Fld Z h x "java/lang/String" "coder" "B" c0) (P3 : Ar Z h a .char ([])) (P4 : Z.heap.size ≤ x) (P5 : ¬ B x) : Con l Z consts_1 [] (⟨"java/lang/String", "<init>", "([C)V"⟩ : MethodName) jdk_42_method_3_code 2 none c_init1e_rm B h #[(.ref x), (.ref a)] (fun vR hR BR => vR = none ∧ c_init1e_q Z zC eE h B x a v0 c0 hR BR) := by
  have hz0 := hE.1.1
  refine Con.intro (ls := #[.val (.ref x), .val (.ref a)]) (plainFor_of_name pn4) G.2.1 hE (fun m => by first | rfl | (simp [entryFrame, mkF, argsToLocals, Value.category]; done)) ?_
  intro p e s m below meth c T hs X
  refine W.aloadN (pc' := 1) X d_jdk_42_m3_0 rfl rfl rfl ?_
  refine W.aloadN (pc' := 2) X d_jdk_42_m3_1 rfl rfl rfl ?_
  refine W.iconst (pc' := 3) X (0 : Int32) d_jdk_42_m3_2 (by decide) rfl ?_
  refine W.aloadN (pc' := 4) X d_jdk_42_m3_3 rfl rfl rfl ?_
  refine W.alen (pc' := 5) (z := (0 : Int32)) X P3 rfl d_jdk_42_m3_4 rfl ?_
  refine W.aconst_null (pc' := 6) X d_jdk_42_m3_5 rfl ?_
  refine W.callN (pc' := 9) (W := 0) (argsL := [(.ref a), (.int (0 : Int32)), (.int (0 : Int32)), .null]) (st := []) (k' := 4) (n' := 8) (a := x) X (c_init4e (x := x) (a := a) (v0 := v0) (c0 := c0) G X.en P0 P1 P2 P4 P5) rfl (w7 G) (w8 G) (w10 G) (w3 G) (by decide) (by decide) (by decide) rfl (lenOf pd5 rfl) rfl rfl (Nat.le_of_eq rfl) d_jdk_42_m3_6 rfl (by decide) (by decide) (by decide) (by decide) (kvi fun T h1 B4 X z2 zb5 q3 => ?_)
  obtain ⟨a6, K7, F8⟩ := q3
  exact W.vreturn X d_jdk_42_m3_9 rfl (by decide) (by decide) ⟨rfl, ⟨a6, (Keep.trans (Keep.refl h [x]) K7 (allS (Or.inl (List.mem_of_getElem? (i := 0) rfl)) all0)), F8⟩⟩
def c_rec_rm : Room := { frames := 1, cells := 0, slots := 0, locals := 12 }
set_option maxRecDepth 65536 in
set_option maxHeartbeats 40000000 in
theorem c_rec {l : Launch} {Z : State} {a0 : Array Value} {zC : Int32} {eE : Addr} {h : Heap} {B : Addr → Prop} {a : Addr} (G : Gl Z a0 zC eE) (hE : En Z B h)  : Con l Z consts_1 [] (⟨"java/lang/Record", "<init>", "()V"⟩ : MethodName) jdk_30_method_1_code 1 none c_rec_rm B h #[(.ref a)] (fun vR hR BR => vR = none ∧ hR = h ∧ BR = B) := by
  have hz0 := hE.1.1
  refine Con.intro (ls := #[.val (.ref a)]) (plainFor_of_name pn6) G.2.1 hE (fun m => by first | rfl | (simp [entryFrame, mkF, argsToLocals, Value.category]; done)) ?_
  intro p e s m below meth c T hs X
  refine W.aloadN (pc' := 1) X d_jdk_30_m1_0 rfl rfl rfl ?_
  refine W.initO (pc' := 4) (W := 0) X (w50 G) (w12 G) (w13 G) d_jdk_30_m1_1 rfl (by decide) (Nat.le_of_eq rfl) (by decide) rfl fun T X => ?_
  exact W.vreturn X d_jdk_30_m1_4 rfl (by decide) (by decide) ⟨rfl, rfl, rfl⟩
def c_ac_rm : Room := { frames := 1, cells := 0, slots := 0, locals := 12 }
set_option maxRecDepth 65536 in
set_option maxHeartbeats 40000000 in
theorem c_ac {l : Launch} {Z : State} {a0 : Array Value} {zC : Int32} {eE : Addr} {h : Heap} {B : Addr → Prop} {a : Addr} (G : Gl Z a0 zC eE) (hE : En Z B h)  : Con l Z consts_1 [] (⟨"java/util/AbstractCollection", "<init>", "()V"⟩ : MethodName) jdk_22_method_1_code 1 none c_ac_rm B h #[(.ref a)] (fun vR hR BR => vR = none ∧ hR = h ∧ BR = B) := by
  have hz0 := hE.1.1
  refine Con.intro (ls := #[.val (.ref a)]) (plainFor_of_name pn7) G.2.1 hE (fun m => by first | rfl | (simp [entryFrame, mkF, argsToLocals, Value.category]; done)) ?_
  intro p e s m below meth c T hs X
  refine W.aloadN (pc' := 1) X d_jdk_22_m1_0 rfl rfl rfl ?_
  refine W.initO (pc' := 4) (W := 0) X (w84 G) (w12 G) (w13 G) d_jdk_22_m1_1 rfl (by decide) (Nat.le_of_eq rfl) (by decide) rfl fun T X => ?_
  exact W.vreturn X d_jdk_22_m1_4 rfl (by decide) (by decide) ⟨rfl, rfl, rfl⟩
def c_aic_rm : Room := { frames := 2, cells := 0, slots := 0, locals := 24 }
set_option maxRecDepth 65536 in
set_option maxHeartbeats 40000000 in
theorem c_aic {l : Launch} {Z : State} {a0 : Array Value} {zC : Int32} {eE : Addr} {h : Heap} {B : Addr → Prop} {a : Addr} (G : Gl Z a0 zC eE) (hE : En Z B h)  : Con l Z consts_1 [] (⟨"java/util/ImmutableCollections$AbstractImmutableCollection", "<init>", "()V"⟩ : MethodName) jdk_47_method_1_code 1 none c_aic_rm B h #[(.ref a)] (fun vR hR BR => vR = none ∧ hR = h ∧ BR = B) := by
  have hz0 := hE.1.1
  refine Con.intro (ls := #[.val (.ref a)]) (plainFor_of_name pn9) G.2.1 hE (fun m => by first | rfl | (simp [entryFrame, mkF, argsToLocals, Value.category]; done)) ?_
  intro p e s m below meth c T hs X
  refine W.aloadN (pc' := 1) X d_jdk_47_m1_0 rfl rfl rfl ?_
  refine W.callN (pc' := 4) (W := 0) (argsL := []) (st := []) (k' := 0) (n' := 0) (a := a) X (c_ac (a := a) G X.en) rfl (w78 G) (w79 G) (w83 G) (w82 G) (by decide) (by decide) (by decide) rfl (lenOf pd8 rfl) rfl rfl (Nat.le_of_eq rfl) d_jdk_47_m1_1 rfl (by decide) (by decide) (by decide) (by decide) (kpv fun T X => ?_)
  exact W.vreturn X d_jdk_47_m1_4 rfl (by decide) (by decide) ⟨rfl, rfl, rfl⟩
def c_ail_rm : Room := { frames := 3, cells := 0, slots := 0, locals := 36 }
set_option maxRecDepth 65536 in
set_option maxHeartbeats 40000000 in
theorem c_ail {l : Launch} {Z : State} {a0 : Array Value} {zC : Int32} {eE : Addr} {h : Heap} {B : Addr → Prop} {a : Addr} (G : Gl Z a0 zC eE) (hE : En Z B h)  : Con l Z consts_1 [] (⟨"java/util/ImmutableCollections$AbstractImmutableList", "<init>", "()V"⟩ : MethodName) jdk_46_method_1_code 1 none c_ail_rm B h #[(.ref a)] (fun vR hR BR => vR = none ∧ hR = h ∧ BR = B) := by
  have hz0 := hE.1.1
  refine Con.intro (ls := #[.val (.ref a)]) (plainFor_of_name pn10) G.2.1 hE (fun m => by first | rfl | (simp [entryFrame, mkF, argsToLocals, Value.category]; done)) ?_
  intro p e s m below meth c T hs X
  refine W.aloadN (pc' := 1) X d_jdk_46_m1_0 rfl rfl rfl ?_
  refine W.callN (pc' := 4) (W := 0) (argsL := []) (st := []) (k' := 0) (n' := 0) (a := a) X (c_aic (a := a) G X.en) rfl (w72 G) (w73 G) (w77 G) (w76 G) (by decide) (by decide) (by decide) rfl (lenOf pd8 rfl) rfl rfl (Nat.le_of_eq rfl) d_jdk_46_m1_1 rfl (by decide) (by decide) (by decide) (by decide) (kpv fun T X => ?_)
  exact W.vreturn X d_jdk_46_m1_4 rfl (by decide) (by decide) ⟨rfl, rfl, rfl⟩
def c_reqnn_rm : Room := { frames := 0, cells := 0, slots := 0, locals := 0 }
set_option maxRecDepth 65536 in
set_option maxHeartbeats 40000000 in
theorem c_reqnn {l : Launch} {Z : State} {a0 : Array Value} {zC : Int32} {eE : Addr} {h : Heap} {B : Addr → Prop} {a : Addr} (G : Gl Z a0 zC eE) (hE : En Z B h)  : Con l Z consts_1 [] (⟨"java/util/Objects", "requireNonNull", "(Ljava/lang/Object;)Ljava/lang/Object;"⟩ : MethodName) jdk_31_method_10_code 1 (some (.object "java/lang/Object")) c_reqnn_rm B h #[(.ref a)] (fun vR hR BR => vR = some (.ref a) ∧ hR = h ∧ BR = B) := by
  have hz0 := hE.1.1
  refine Con.intro (ls := #[.val (.ref a)]) (plainFor_of_name pn11) G.2.1 hE (fun m => by first | rfl | (simp [entryFrame, mkF, argsToLocals, Value.category]; done)) ?_
  intro p e s m below meth c T hs X
  refine W.aloadN (pc' := 1) X d_jdk_31_m10_0 rfl rfl rfl ?_
  refine W.nonnullT (pc' := 12) X d_jdk_31_m10_1 (by decide) (by decide) ?_
  refine W.aloadN (pc' := 13) X d_jdk_31_m10_12 rfl rfl rfl ?_
  exact W.areturn X d_jdk_31_m10_13 rfl rfl rfl rfl (by decide) (by decide) ⟨rfl, rfl, rfl⟩
abbrev c_flag_q (Z : State) (zC : Int32) (eE : Addr) (h : Heap) (B : Addr → Prop) (x a b : Addr) (v0 v1 : Value) (h' : Heap) : Prop := Keep h h' [x] ∧ Fld Z h' x "ephemera/cli/Flags$Flag" "name" "Ljava/lang/String;" (.ref a) ∧ Fld Z h' x "ephemera/cli/Flags$Flag" "value" "Ljava/lang/String;" (.ref b)
def c_flag_rm : Room := { frames := 2, cells := 0, slots := 0, locals := 24 }
set_option maxRecDepth 65536 in
set_option maxHeartbeats 40000000 in
theorem c_flag {l : Launch} {Z : State} {a0 : Array Value} {zC : Int32} {eE : Addr} {h : Heap} {B : Addr → Prop} {x a b : Addr} {v0 v1 : Value} (G : Gl Z a0 zC eE) (hE : En Z B h) (P0 : Exa Z h x "ephemera/cli/Flags$Flag") (P1 : Fld Z h x "ephemera/cli/Flags$Flag" "name" "Ljava/lang/String;" v0) (P2 : Fld Z h x "ephemera/cli/Flags$Flag" "value" "Ljava/lang/String;" v1) (P3 : Z.heap.size ≤ x) (P4 : ¬ B x) : Con l Z consts_1 [] (⟨"ephemera/cli/Flags$Flag", "<init>", "(Ljava/lang/String;Ljava/lang/String;)V"⟩ : MethodName) prog_3_method_1_code 3 none c_flag_rm B h #[(.ref x), (.ref a), (.ref b)] (fun vR hR BR => vR = none ∧ BR = B ∧ c_flag_q Z zC eE h B x a b v0 v1 hR) := by
  have hz0 := hE.1.1
  refine Con.intro (ls := #[.val (.ref x), .val (.ref a), .val (.ref b)]) (plainFor_of_name pn12) G.2.1 hE (fun m => by first | rfl | (simp [entryFrame, mkF, argsToLocals, Value.category]; done)) ?_
  intro p e s m below meth c T hs X
  refine W.aloadN (pc' := 1) X d_prog_3_m1_0 rfl rfl rfl ?_
  refine W.callN (pc' := 4) (W := 0) (argsL := []) (st := []) (k' := 0) (n' := 0) (a := x) X (c_rec (a := x) G X.en) rfl (w45 G) (w46 G) (w49 G) (w48 G) (by decide) (by decide) (by decide) rfl (lenOf pd8 rfl) rfl rfl (Nat.le_of_eq rfl) d_prog_3_m1_1 rfl (by decide) (by decide) (by decide) (by decide) (kpv fun T X => ?_)
  refine W.aloadN (pc' := 5) X d_prog_3_m1_4 rfl rfl rfl ?_
  refine W.aloadN (pc' := 6) X d_prog_3_m1_5 rfl rfl rfl ?_
  refine W.putF (pc' := 9) X (w51 G) Via.refl P1 P0 (Or.inr ⟨(w52 G), rfl, rfl⟩) (w40 G) (ty := (.object "java/lang/String")) (by decide) rfl rfl P3 P4 d_prog_3_m1_6 rfl fun T h1 X W2 => ?_
  have F3 := P1.same W2
  refine W.aloadN (pc' := 10) X d_prog_3_m1_9 rfl rfl rfl ?_
  refine W.aloadN (pc' := 11) X d_prog_3_m1_10 rfl rfl rfl ?_
  have F4 := (P2.other W2 (Or.inr (slot_ne (Or.inr (w54 G)) (Or.inr (w52 G)) (by decide) (t := (.object "java/lang/String")) (t' := (.object "java/lang/String")) (by decide) (by decide))))
  have F5 := (P0.wr W2)
  refine W.putF (pc' := 14) X (w53 G) Via.refl F4 F5 (Or.inr ⟨(w54 G), rfl, rfl⟩) (w40 G) (ty := (.object "java/lang/String")) (by decide) rfl rfl P3 P4 d_prog_3_m1_11 rfl fun T h6 X W7 => ?_
  have F8 := F4.same W7
  have F9 := (F3.other W7 (Or.inr (slot_ne (Or.inr (w52 G)) (Or.inr (w54 G)) (by decide) (t := (.object "java/lang/String")) (t' := (.object "java/lang/String")) (by decide) (by decide))))
  exact W.vreturn X d_prog_3_m1_14 rfl (by decide) (by decide) ⟨rfl, rfl, ⟨(Keep.wr (Keep.wr (Keep.refl h [x]) W2 (Or.inl (List.mem_of_getElem? (i := 0) rfl))) W7 (Or.inl (List.mem_of_getElem? (i := 0) rfl))), F9, F8⟩⟩
abbrev c_l12_q (Z : State) (zC : Int32) (eE : Addr) (h : Heap) (B : Addr → Prop) (x a : Addr) (v0 v1 : Value) (h' : Heap) : Prop := Keep h h' [x] ∧ Fld Z h' x "java/util/ImmutableCollections$List12" "e0" "Ljava/lang/Object;" (.ref a) ∧ Fld Z h' x "java/util/ImmutableCollections$List12" "e1" "Ljava/lang/Object;" (.ref eE)
def c_l12_rm : Room := { frames := 4, cells := 0, slots := 0, locals := 48 }
set_option maxRecDepth 65536 in
set_option maxHeartbeats 40000000 in
theorem c_l12 {l : Launch} {Z : State} {a0 : Array Value} {zC : Int32} {eE : Addr} {h : Heap} {B : Addr → Prop} {x a : Addr} {v0 v1 : Value} (G : Gl Z a0 zC eE) (hE : En Z B h) (P0 : Exa Z h x "java/util/ImmutableCollections$List12") (P1 : Fld Z h x "java/util/ImmutableCollections$List12" "e0" "Ljava/lang/Object;" v0) (P2 : Fld Z h x "java/util/ImmutableCollections$List12" "e1" "Ljava/lang/Object;" v1) (P3 : Z.heap.size ≤ x) (P4 : ¬ B x) : Con l Z consts_1 [] (⟨"java/util/ImmutableCollections$List12", "<init>", "(Ljava/lang/Object;)V"⟩ : MethodName) jdk_44_method_1_code 2 none c_l12_rm B h #[(.ref x), (.ref a)] (fun vR hR BR => vR = none ∧ BR = B ∧ c_l12_q Z zC eE h B x a v0 v1 hR) := by
  have hz0 := hE.1.1
  refine Con.intro (ls := #[.val (.ref x), .val (.ref a)]) (plainFor_of_name pn14) G.2.1 hE (fun m => by first | rfl | (simp [entryFrame, mkF, argsToLocals, Value.category]; done)) ?_
  intro p e s m below meth c T hs X
  refine W.aloadN (pc' := 1) X d_jdk_44_m1_0 rfl rfl rfl ?_
  refine W.callN (pc' := 4) (W := 0) (argsL := []) (st := []) (k' := 0) (n' := 0) (a := x) X (c_ail (a := x) G X.en) rfl (w66 G) (w67 G) (w71 G) (w70 G) (by decide) (by decide) (by decide) rfl (lenOf pd8 rfl) rfl rfl (Nat.le_of_eq rfl) d_jdk_44_m1_1 rfl (by decide) (by decide) (by decide) (by decide) (kpv fun T X => ?_)
  refine W.aloadN (pc' := 5) X d_jdk_44_m1_4 rfl rfl rfl ?_
  refine W.aloadN (pc' := 6) X d_jdk_44_m1_5 rfl rfl rfl ?_
  refine W.callS (pc' := 9) (W := 1) (argsL := [(.ref a)]) (st := [(.ref x)]) (k' := 0) (n' := 0) X (c_reqnn (a := a) G X.en) (w85 G) (w86 G) (w88 G) (w87 G) (by decide) (by decide) (by decide) rfl (lenOf pd13 rfl) rfl rfl (Nat.le_of_eq rfl) d_jdk_44_m1_6 rfl (by decide) (by decide) (by decide) (by decide) (kp fun T X => ?_)
  refine W.putF (pc' := 12) X (w89 G) Via.refl P1 P0 (Or.inr ⟨(w90 G), rfl, rfl⟩) (w60 G) (ty := (.object "java/lang/Object")) (by decide) rfl rfl P3 P4 d_jdk_44_m1_9 rfl fun T h1 X W2 => ?_
  have F3 := P1.same W2
  refine W.aloadN (pc' := 13) X d_jdk_44_m1_12 rfl rfl rfl ?_
  refine W.getS (pc' := 16) X (Or.inr (w91 G)) Via.refl G.2.2.2.2.1 d_jdk_44_m1_13 rfl fun T X => ?_
  have F4 := (P2.other W2 (Or.inr (slot_ne (Or.inr (w94 G)) (Or.inr (w90 G)) (by decide) (t := (.object "java/lang/Object")) (t' := (.object "java/lang/Object")) (by decide) (by decide))))
  have F5 := (P0.wr W2)
  refine W.putF (pc' := 19) X (w93 G) Via.refl F4 F5 (Or.inr ⟨(w94 G), rfl, rfl⟩) (w60 G) (ty := (.object "java/lang/Object")) (by decide) rfl rfl P3 P4 d_jdk_44_m1_16 rfl fun T h6 X W7 => ?_
  have F8 := F4.same W7
  have F9 := (F3.other W7 (Or.inr (slot_ne (Or.inr (w90 G)) (Or.inr (w94 G)) (by decide) (t := (.object "java/lang/Object")) (t' := (.object "java/lang/Object")) (by decide) (by decide))))
  exact W.vreturn X d_jdk_44_m1_19 rfl (by decide) (by decide) ⟨rfl, rfl, ⟨(Keep.wr (Keep.wr (Keep.refl h [x]) W2 (Or.inl (List.mem_of_getElem? (i := 0) rfl))) W7 (Or.inl (List.mem_of_getElem? (i := 0) rfl))), F9, F8⟩⟩
abbrev c_listof_q (Z : State) (zC : Int32) (eE : Addr) (h : Heap) (B : Addr → Prop) (a : Addr) (xR : Value) (h' : Heap) : Prop := ∃ (t : Addr), xR = (.ref t) ∧ Keep h h' [] ∧ h.size ≤ t ∧ Exa Z h' t "java/util/ImmutableCollections$List12" ∧ Fld Z h' t "java/util/ImmutableCollections$List12" "e0" "Ljava/lang/Object;" (.ref a) ∧ Fld Z h' t "java/util/ImmutableCollections$List12" "e1" "Ljava/lang/Object;" (.ref eE)
def c_listof_rm : Room := { frames := 5, cells := 1, slots := 2, locals := 62 }
set_option maxRecDepth 65536 in
set_option maxHeartbeats 40000000 in
theorem c_listof {l : Launch} {Z : State} {a0 : Array Value} {zC : Int32} {eE : Addr} {h : Heap} {B : Addr → Prop} {a : Addr} (G : Gl Z a0 zC eE) (hE : En Z B h)  : Con l Z consts_1 [] (⟨"java/util/List", "of", "(Ljava/lang/Object;)Ljava/util/List;"⟩ : MethodName) jdk_40_method_37_code 1 (some (.object "java/util/List")) c_listof_rm B h #[(.ref a)] (fun vR hR BR => ∃ xR, vR = some xR ∧ BR = B ∧ c_listof_q Z zC eE h B a xR hR) := by
  have hz0 := hE.1.1
  refine Con.intro (ls := #[.val (.ref a)]) (plainFor_of_name pn16) G.2.1 hE (fun m => by first | rfl | (simp [entryFrame, mkF, argsToLocals, Value.category]; done)) ?_
  intro p e s m below meth c T hs X
  refine W.new (pc' := 3) (k' := 1) (n' := 2) X (w59 G) (w60 G) (w61 G) d_jdk_40_m37_0 rfl (by decide) (by decide) (by decide) (by decide) fun T h1 a2 X K3 g4 g5 nb6 E7 D8 => ?_
  have F9 : Fld Z h1 a2 "java/util/ImmutableCollections$List12" "e0" "Ljava/lang/Object;" .null := D8 (Or.inr (w90 G)) (ty := (.object "java/lang/Object")) (by decide)
  have F10 : Fld Z h1 a2 "java/util/ImmutableCollections$List12" "e1" "Ljava/lang/Object;" .null := D8 (Or.inr (w94 G)) (ty := (.object "java/lang/Object")) (by decide)
  refine W.dup (pc' := 4) X d_jdk_40_m37_3 rfl rfl ?_
  refine W.aloadN (pc' := 5) X d_jdk_40_m37_4 rfl rfl rfl ?_
  refine W.callN (pc' := 8) (W := 1) (argsL := [(.ref a)]) (st := [(.ref a2)]) (k' := 1) (n' := 2) (a := a2) X (c_l12 (x := a2) (a := a) (v0 := .null) (v1 := .null) G X.en E7 F9 F10 g5 nb6) rfl (w62 G) (w63 G) (w65 G) (w61 G) (by decide) (by decide) (by decide) rfl (lenOf pd15 rfl) rfl rfl (Nat.le_of_eq rfl) d_jdk_40_m37_5 rfl (by decide) (by decide) (by decide) (by decide) (kv fun T h11 X z12 q13 => ?_)
  obtain ⟨K14, F15, F16⟩ := q13
  have F17 := (E7.keep K14)
  exact W.areturn X d_jdk_40_m37_8 rfl rfl rfl rfl (by decide) (by decide) ⟨_, rfl, rfl, ⟨a2, rfl, (Keep.trans (Keep.trans (Keep.refl h []) K3 all0) K14 (allS (Or.inr (Nat.le_trans (Nat.le_refl _) g4)) all0)), (Nat.le_trans (Nat.le_refl _) g4), F17, F15, F16⟩⟩
abbrev c_term_q (Z : State) (zC : Int32) (eE : Addr) (h : Heap) (B : Addr → Prop) (x a : Addr) (v0 v1 : Value) (h' : Heap) : Prop := Keep h h' [x] ∧ Fld Z h' x "ephemera/cli/Flags$Term" "flags" "Ljava/util/List;" (.ref a) ∧ Fld Z h' x "ephemera/cli/Flags$Term" "optional" "Z" (.int (0 : Int32))
def c_term_rm : Room := { frames := 2, cells := 0, slots := 0, locals := 24 }
set_option maxRecDepth 65536 in
set_option maxHeartbeats 40000000 in
theorem c_term {l : Launch} {Z : State} {a0 : Array Value} {zC : Int32} {eE : Addr} {h : Heap} {B : Addr → Prop} {x a : Addr} {v0 v1 : Value} (G : Gl Z a0 zC eE) (hE : En Z B h) (P0 : Exa Z h x "ephemera/cli/Flags$Term") (P1 : Fld Z h x "ephemera/cli/Flags$Term" "flags" "Ljava/util/List;" v0) (P2 : Fld Z h x "ephemera/cli/Flags$Term" "optional" "Z" v1) (P3 : Z.heap.size ≤ x) (P4 : ¬ B x) : Con l Z consts_1 [] (⟨"ephemera/cli/Flags$Term", "<init>", "(Ljava/util/List;Z)V"⟩ : MethodName) prog_4_method_1_code 3 none c_term_rm B h #[(.ref x), (.ref a), (.int (0 : Int32))] (fun vR hR BR => vR = none ∧ BR = B ∧ c_term_q Z zC eE h B x a v0 v1 hR) := by
  have hz0 := hE.1.1
  refine Con.intro (ls := #[.val (.ref x), .val (.ref a), .val (.int (0 : Int32))]) (plainFor_of_name pn17) G.2.1 hE (fun m => by first | rfl | (simp [entryFrame, mkF, argsToLocals, Value.category]; done)) ?_
  intro p e s m below meth c T hs X
  refine W.aloadN (pc' := 1) X d_prog_4_m1_0 rfl rfl rfl ?_
  refine W.callN (pc' := 4) (W := 0) (argsL := []) (st := []) (k' := 0) (n' := 0) (a := x) X (c_rec (a := x) G X.en) rfl (w98 G) (w46 G) (w49 G) (w48 G) (by decide) (by decide) (by decide) rfl (lenOf pd8 rfl) rfl rfl (Nat.le_of_eq rfl) d_prog_4_m1_1 rfl (by decide) (by decide) (by decide) (by decide) (kpv fun T X => ?_)
  refine W.aloadN (pc' := 5) X d_prog_4_m1_4 rfl rfl rfl ?_
  refine W.aloadN (pc' := 6) X d_prog_4_m1_5 rfl rfl rfl ?_
  refine W.putF (pc' := 9) X (w99 G) Via.refl P1 P0 (Or.inr ⟨(w100 G), rfl, rfl⟩) (w38 G) (ty := (.object "java/util/List")) (by decide) rfl rfl P3 P4 d_prog_4_m1_6 rfl fun T h1 X W2 => ?_
  have F3 := P1.same W2
  refine W.aloadN (pc' := 10) X d_prog_4_m1_9 rfl rfl rfl ?_
  refine W.iloadN (pc' := 11) X d_prog_4_m1_10 rfl rfl ?_
  have F4 := (P2.other W2 (Or.inr (slot_ne (Or.inr (w102 G)) (Or.inr (w100 G)) (by decide) (t := .boolean) (t' := (.object "java/util/List")) (by decide) (by decide))))
  have F5 := (P0.wr W2)
  refine W.putF (pc' := 14) X (w101 G) Via.refl F4 F5 (Or.inr ⟨(w102 G), rfl, rfl⟩) (w38 G) (ty := .boolean) (by decide) (by decide) (by decide) P3 P4 d_prog_4_m1_11 rfl fun T h6 X W7 => ?_
  have F8 := F4.same W7
  have F9 := (F3.other W7 (Or.inr (slot_ne (Or.inr (w100 G)) (Or.inr (w102 G)) (by decide) (t := (.object "java/util/List")) (t' := .boolean) (by decide) (by decide))))
  exact W.vreturn X d_prog_4_m1_14 rfl (by decide) (by decide) ⟨rfl, rfl, ⟨(Keep.wr (Keep.wr (Keep.refl h [x]) W2 (Or.inl (List.mem_of_getElem? (i := 0) rfl))) W7 (Or.inl (List.mem_of_getElem? (i := 0) rfl))), F9, F8⟩⟩
def c_topt_rm : Room := { frames := 0, cells := 0, slots := 0, locals := 0 }
set_option maxRecDepth 65536 in
set_option maxHeartbeats 40000000 in
theorem c_topt {l : Launch} {Z : State} {a0 : Array Value} {zC : Int32} {eE : Addr} {h : Heap} {B : Addr → Prop} {a : Addr} {v : Int32} (G : Gl Z a0 zC eE) (hE : En Z B h) (P0 : Fld Z h a "ephemera/cli/Flags$Term" "optional" "Z" (.int v)) (P1 : narrow .boolean (.int v) = .int v) : Con l Z consts_1 [] (⟨"ephemera/cli/Flags$Term", "optional", "()Z"⟩ : MethodName) prog_4_method_10_code 1 (some .boolean) c_topt_rm B h #[(.ref a)] (fun vR hR BR => vR = some (.int v) ∧ hR = h ∧ BR = B) := by
  have hz0 := hE.1.1
  refine Con.intro (ls := #[.val (.ref a)]) (plainFor_of_name pn17) G.2.1 hE (fun m => by first | rfl | (simp [entryFrame, mkF, argsToLocals, Value.category]; done)) ?_
  intro p e s m below meth c T hs X
  refine W.aloadN (pc' := 1) X d_prog_4_m10_0 rfl rfl rfl ?_
  refine W.getF (pc' := 4) X (w101 G) Via.refl P0 d_prog_4_m10_1 rfl fun T X => ?_
  exact W.ireturn X d_prog_4_m10_4 rfl (by decide) P1 (by decide) (by decide) ⟨rfl, rfl, rfl⟩
def c_tfl_rm : Room := { frames := 0, cells := 0, slots := 0, locals := 0 }
set_option maxRecDepth 65536 in
set_option maxHeartbeats 40000000 in
theorem c_tfl {l : Launch} {Z : State} {a0 : Array Value} {zC : Int32} {eE : Addr} {h : Heap} {B : Addr → Prop} {a b : Addr} (G : Gl Z a0 zC eE) (hE : En Z B h) (P0 : Fld Z h a "ephemera/cli/Flags$Term" "flags" "Ljava/util/List;" (.ref b)) : Con l Z consts_1 [] (⟨"ephemera/cli/Flags$Term", "flags", "()Ljava/util/List;"⟩ : MethodName) prog_4_method_9_code 1 (some (.object "java/util/List")) c_tfl_rm B h #[(.ref a)] (fun vR hR BR => vR = some (.ref b) ∧ hR = h ∧ BR = B) := by
  have hz0 := hE.1.1
  refine Con.intro (ls := #[.val (.ref a)]) (plainFor_of_name pn17) G.2.1 hE (fun m => by first | rfl | (simp [entryFrame, mkF, argsToLocals, Value.category]; done)) ?_
  intro p e s m below meth c T hs X
  refine W.aloadN (pc' := 1) X d_prog_4_m9_0 rfl rfl rfl ?_
  refine W.getF (pc' := 4) X (w99 G) Via.refl P0 d_prog_4_m9_1 rfl fun T X => ?_
  exact W.areturn X d_prog_4_m9_4 rfl rfl rfl rfl (by decide) (by decide) ⟨rfl, rfl, rfl⟩
def c_fname_rm : Room := { frames := 0, cells := 0, slots := 0, locals := 0 }
set_option maxRecDepth 65536 in
set_option maxHeartbeats 40000000 in
theorem c_fname {l : Launch} {Z : State} {a0 : Array Value} {zC : Int32} {eE : Addr} {h : Heap} {B : Addr → Prop} {a b : Addr} (G : Gl Z a0 zC eE) (hE : En Z B h) (P0 : Fld Z h a "ephemera/cli/Flags$Flag" "name" "Ljava/lang/String;" (.ref b)) : Con l Z consts_1 [] (⟨"ephemera/cli/Flags$Flag", "name", "()Ljava/lang/String;"⟩ : MethodName) prog_3_method_7_code 1 (some (.object "java/lang/String")) c_fname_rm B h #[(.ref a)] (fun vR hR BR => vR = some (.ref b) ∧ hR = h ∧ BR = B) := by
  have hz0 := hE.1.1
  refine Con.intro (ls := #[.val (.ref a)]) (plainFor_of_name pn12) G.2.1 hE (fun m => by first | rfl | (simp [entryFrame, mkF, argsToLocals, Value.category]; done)) ?_
  intro p e s m below meth c T hs X
  refine W.aloadN (pc' := 1) X d_prog_3_m7_0 rfl rfl rfl ?_
  refine W.getF (pc' := 4) X (w51 G) Via.refl P0 d_prog_3_m7_1 rfl fun T X => ?_
  exact W.areturn X d_prog_3_m7_4 rfl rfl rfl rfl (by decide) (by decide) ⟨rfl, rfl, rfl⟩
def c_fval_rm : Room := { frames := 0, cells := 0, slots := 0, locals := 0 }
set_option maxRecDepth 65536 in
set_option maxHeartbeats 40000000 in
theorem c_fval {l : Launch} {Z : State} {a0 : Array Value} {zC : Int32} {eE : Addr} {h : Heap} {B : Addr → Prop} {a b : Addr} (G : Gl Z a0 zC eE) (hE : En Z B h) (P0 : Fld Z h a "ephemera/cli/Flags$Flag" "value" "Ljava/lang/String;" (.ref b)) : Con l Z consts_1 [] (⟨"ephemera/cli/Flags$Flag", "value", "()Ljava/lang/String;"⟩ : MethodName) prog_3_method_8_code 1 (some (.object "java/lang/String")) c_fval_rm B h #[(.ref a)] (fun vR hR BR => vR = some (.ref b) ∧ hR = h ∧ BR = B) := by
  have hz0 := hE.1.1
  refine Con.intro (ls := #[.val (.ref a)]) (plainFor_of_name pn12) G.2.1 hE (fun m => by first | rfl | (simp [entryFrame, mkF, argsToLocals, Value.category]; done)) ?_
  intro p e s m below meth c T hs X
  refine W.aloadN (pc' := 1) X d_prog_3_m8_0 rfl rfl rfl ?_
  refine W.getF (pc' := 4) X (w53 G) Via.refl P0 d_prog_3_m8_1 rfl fun T X => ?_
  exact W.areturn X d_prog_3_m8_4 rfl rfl rfl rfl (by decide) (by decide) ⟨rfl, rfl, rfl⟩
def c_size_rm : Room := { frames := 0, cells := 0, slots := 0, locals := 0 }
set_option maxRecDepth 65536 in
set_option maxHeartbeats 40000000 in
theorem c_size {l : Launch} {Z : State} {a0 : Array Value} {zC : Int32} {eE : Addr} {h : Heap} {B : Addr → Prop} {a : Addr} (G : Gl Z a0 zC eE) (hE : En Z B h) (P0 : Fld Z h a "java/util/ImmutableCollections$List12" "e1" "Ljava/lang/Object;" (.ref eE)) : Con l Z consts_1 [] (⟨"java/util/ImmutableCollections$List12", "size", "()I"⟩ : MethodName) jdk_44_method_3_code 1 (some .int) c_size_rm B h #[(.ref a)] (fun vR hR BR => vR = some (.int (1 : Int32)) ∧ hR = h ∧ BR = B) := by
  have hz0 := hE.1.1
  refine Con.intro (ls := #[.val (.ref a)]) (plainFor_of_name pn14) G.2.1 hE (fun m => by first | rfl | (simp [entryFrame, mkF, argsToLocals, Value.category]; done)) ?_
  intro p e s m below meth c T hs X
  refine W.aloadN (pc' := 1) X d_jdk_44_m3_0 rfl rfl rfl ?_
  refine W.getF (pc' := 4) X (w93 G) Via.refl P0 d_jdk_44_m3_1 rfl fun T X => ?_
  refine W.getS (pc' := 7) X (Or.inr (w91 G)) Via.refl G.2.2.2.2.1 d_jdk_44_m3_4 rfl fun T X => ?_
  refine W.acT (pc' := 14) X d_jdk_44_m3_7 rfl rfl (XT.aa_eq_t rfl) (by decide) (by decide) ?_
  refine W.iconst (pc' := 15) X (1 : Int32) d_jdk_44_m3_14 (by decide) rfl ?_
  exact W.ireturn X d_jdk_44_m3_15 rfl (by decide) rfl (by decide) (by decide) ⟨rfl, rfl, rfl⟩
def c_get_rm : Room := { frames := 0, cells := 0, slots := 0, locals := 0 }
set_option maxRecDepth 65536 in
set_option maxHeartbeats 40000000 in
theorem c_get {l : Launch} {Z : State} {a0 : Array Value} {zC : Int32} {eE : Addr} {h : Heap} {B : Addr → Prop} {a b : Addr} (G : Gl Z a0 zC eE) (hE : En Z B h) (P0 : Fld Z h a "java/util/ImmutableCollections$List12" "e0" "Ljava/lang/Object;" (.ref b)) : Con l Z consts_1 [] (⟨"java/util/ImmutableCollections$List12", "get", "(I)Ljava/lang/Object;"⟩ : MethodName) jdk_44_method_5_code 2 (some (.object "java/lang/Object")) c_get_rm B h #[(.ref a), (.int (0 : Int32))] (fun vR hR BR => vR = some (.ref b) ∧ hR = h ∧ BR = B) := by
  have hz0 := hE.1.1
  refine Con.intro (ls := #[.val (.ref a), .val (.int (0 : Int32))]) (plainFor_of_name pn14) G.2.1 hE (fun m => by first | rfl | (simp [entryFrame, mkF, argsToLocals, Value.category]; done)) ?_
  intro p e s m below meth c T hs X
  refine W.iloadN (pc' := 1) X d_jdk_44_m5_0 rfl rfl ?_
  refine W.ifF (pc' := 4) X d_jdk_44_m5_1 (by decide) rfl ?_
  refine W.aloadN (pc' := 5) X d_jdk_44_m5_4 rfl rfl rfl ?_
  refine W.getF (pc' := 8) X (w89 G) Via.refl P0 d_jdk_44_m5_5 rfl fun T X => ?_
  exact W.areturn X d_jdk_44_m5_8 rfl rfl rfl rfl (by decide) (by decide) ⟨rfl, rfl, rfl⟩
def c_eqsame_rm : Room := { frames := 0, cells := 0, slots := 0, locals := 0 }
set_option maxRecDepth 65536 in
set_option maxHeartbeats 40000000 in
theorem c_eqsame {l : Launch} {Z : State} {a0 : Array Value} {zC : Int32} {eE : Addr} {h : Heap} {B : Addr → Prop} {a : Addr} (G : Gl Z a0 zC eE) (hE : En Z B h)  : Con l Z consts_1 [] (⟨"java/lang/String", "equals", "(Ljava/lang/Object;)Z"⟩ : MethodName) jdk_42_method_66_code 3 (some .boolean) c_eqsame_rm B h #[(.ref a), (.ref a)] (fun vR hR BR => vR = some (.int (1 : Int32)) ∧ hR = h ∧ BR = B) := by
  have hz0 := hE.1.1
  refine Con.intro (ls := #[.val (.ref a), .val (.ref a), .unset]) (plainFor_of_name pn4) G.2.1 hE (fun m => by first | rfl | (simp [entryFrame, mkF, argsToLocals, Value.category]; done)) ?_
  intro p e s m below meth c T hs X
  refine W.aloadN (pc' := 1) X d_jdk_42_m66_0 rfl rfl rfl ?_
  refine W.aloadN (pc' := 2) X d_jdk_42_m66_1 rfl rfl rfl ?_
  refine W.acF (pc' := 5) X d_jdk_42_m66_2 rfl rfl (XT.aa_ne_f rfl) rfl ?_
  refine W.iconst (pc' := 6) X (1 : Int32) d_jdk_42_m66_5 (by decide) rfl ?_
  exact W.ireturn X d_jdk_42_m66_6 rfl (by decide) (by decide) (by decide) (by decide) ⟨rfl, rfl, rfl⟩
def c_emp1_rm : Room := { frames := 0, cells := 0, slots := 0, locals := 0 }
set_option maxRecDepth 65536 in
set_option maxHeartbeats 40000000 in
theorem c_emp1 {l : Launch} {Z : State} {a0 : Array Value} {zC : Int32} {eE : Addr} {h : Heap} {B : Addr → Prop} {a b : Addr} (G : Gl Z a0 zC eE) (hE : En Z B h) (P0 : Str Z h a b ([] : List Int32)) : Con l Z consts_1 [] (⟨"java/lang/String", "isEmpty", "()Z"⟩ : MethodName) jdk_42_method_55_code 1 (some .boolean) c_emp1_rm B h #[(.ref a)] (fun vR hR BR => vR = some (.int (1 : Int32)) ∧ hR = h ∧ BR = B) := by
  have hz0 := hE.1.1
  refine Con.intro (ls := #[.val (.ref a)]) (plainFor_of_name pn4) G.2.1 hE (fun m => by first | rfl | (simp [entryFrame, mkF, argsToLocals, Value.category]; done)) ?_
  intro p e s m below meth c T hs X
  refine W.aloadN (pc' := 1) X d_jdk_42_m55_0 rfl rfl rfl ?_
  refine W.getF (pc' := 4) X (w28 G) Via.refl P0.val d_jdk_42_m55_1 rfl fun T X => ?_
  refine W.alen (pc' := 5) (z := (0 : Int32)) X P0.arr rfl d_jdk_42_m55_4 rfl ?_
  refine W.ifF (pc' := 8) X d_jdk_42_m55_5 (by decide) rfl ?_
  refine W.iconst (pc' := 9) X (1 : Int32) d_jdk_42_m55_8 (by decide) rfl ?_
  refine W.goto (pc' := 13) X d_jdk_42_m55_9 (by decide) (by decide) ?_
  exact W.ireturn X d_jdk_42_m55_13 rfl (by decide) (by decide) (by decide) (by decide) ⟨rfl, rfl, rfl⟩
def c_emp0_rm : Room := { frames := 0, cells := 0, slots := 0, locals := 0 }
set_option maxRecDepth 65536 in
set_option maxHeartbeats 40000000 in
theorem c_emp0 {l : Launch} {Z : State} {a0 : Array Value} {zC : Int32} {eE : Addr} {h : Heap} {B : Addr → Prop} {a b : Addr} {cs : List Int32} (G : Gl Z a0 zC eE) (hE : En Z B h) (P0 : Str Z h a b cs) (P1 : 0 < cs.length) : Con l Z consts_1 [] (⟨"java/lang/String", "isEmpty", "()Z"⟩ : MethodName) jdk_42_method_55_code 1 (some .boolean) c_emp0_rm B h #[(.ref a)] (fun vR hR BR => vR = some (.int (0 : Int32)) ∧ hR = h ∧ BR = B) := by
  have hz0 := hE.1.1
  refine Con.intro (ls := #[.val (.ref a)]) (plainFor_of_name pn4) G.2.1 hE (fun m => by first | rfl | (simp [entryFrame, mkF, argsToLocals, Value.category]; done)) ?_
  intro p e s m below meth c T hs X
  refine W.aloadN (pc' := 1) X d_jdk_42_m55_0 rfl rfl rfl ?_
  refine W.getF (pc' := 4) X (w28 G) Via.refl P0.val d_jdk_42_m55_1 rfl fun T X => ?_
  refine W.alen (pc' := 5) (z := (cs).length.toInt32) X P0.arr (by simp) d_jdk_42_m55_4 rfl ?_
  refine W.ifT (pc' := 12) X d_jdk_42_m55_5 (XT.i0_ne_t (fun q => absurd ((eq32 (b := 0) P0.len_lt (by decide)).mp q) (by omega))) (by decide) (by decide) ?_
  refine W.iconst (pc' := 13) X (0 : Int32) d_jdk_42_m55_12 (by decide) rfl ?_
  exact W.ireturn X d_jdk_42_m55_13 rfl (by decide) (by decide) (by decide) (by decide) ⟨rfl, rfl, rfl⟩
def c_sw1_rm : Room := { frames := 1, cells := 0, slots := 0, locals := 12 }
set_option maxRecDepth 65536 in
set_option maxHeartbeats 40000000 in
theorem c_sw1 {l : Launch} {Z : State} {a0 : Array Value} {zC : Int32} {eE : Addr} {h : Heap} {B : Addr → Prop} {a b t : Addr} (G : Gl Z a0 zC eE) (hE : En Z B h) (P0 : Fld Z h a "ephemera/cli/Flags$Flag" "value" "Ljava/lang/String;" (.ref b)) (P1 : Str Z h b t ([] : List Int32)) : Con l Z consts_1 [] (⟨"ephemera/cli/Flags$Flag", "isSwitch", "()Z"⟩ : MethodName) prog_3_method_3_code 1 (some .boolean) c_sw1_rm B h #[(.ref a)] (fun vR hR BR => vR = some (.int (1 : Int32)) ∧ hR = h ∧ BR = B) := by
  have hz0 := hE.1.1
  refine Con.intro (ls := #[.val (.ref a)]) (plainFor_of_name pn12) G.2.1 hE (fun m => by first | rfl | (simp [entryFrame, mkF, argsToLocals, Value.category]; done)) ?_
  intro p e s m below meth c T hs X
  refine W.aloadN (pc' := 1) X d_prog_3_m3_0 rfl rfl rfl ?_
  refine W.getF (pc' := 4) X (w53 G) Via.refl P0 d_prog_3_m3_1 rfl fun T X => ?_
  refine W.callV (pc' := 7) (W := 0) (argsL := []) (st := []) (k' := 0) (n' := 0) (a := b) X (c_emp1 (a := b) (b := t) G X.en P1) (w152 G) (w153 G) (nfM (z' := (⟨"java/lang/String", "equals", "(Ljava/lang/Object;)Z"⟩ : MethodName)) rfl (w140 G)) (w155 G) (w154 G) P1.exa (w156 G) (w3 G) (by decide) (by decide) (by decide) rfl (lenOf pd18 rfl) rfl rfl (Nat.le_of_eq rfl) d_prog_3_m3_4 rfl (by decide) (by decide) (by decide) (by decide) (kp fun T X => ?_)
  exact W.ireturn X d_prog_3_m3_7 rfl (by decide) (by decide) (by decide) (by decide) ⟨rfl, rfl, rfl⟩
def c_sw0_rm : Room := { frames := 1, cells := 0, slots := 0, locals := 12 }
set_option maxRecDepth 65536 in
set_option maxHeartbeats 40000000 in
theorem c_sw0 {l : Launch} {Z : State} {a0 : Array Value} {zC : Int32} {eE : Addr} {h : Heap} {B : Addr → Prop} {a b t : Addr} {cs : List Int32} (G : Gl Z a0 zC eE) (hE : En Z B h) (P0 : Fld Z h a "ephemera/cli/Flags$Flag" "value" "Ljava/lang/String;" (.ref b)) (P1 : Str Z h b t cs) (P2 : 0 < cs.length) : Con l Z consts_1 [] (⟨"ephemera/cli/Flags$Flag", "isSwitch", "()Z"⟩ : MethodName) prog_3_method_3_code 1 (some .boolean) c_sw0_rm B h #[(.ref a)] (fun vR hR BR => vR = some (.int (0 : Int32)) ∧ hR = h ∧ BR = B) := by
  have hz0 := hE.1.1
  refine Con.intro (ls := #[.val (.ref a)]) (plainFor_of_name pn12) G.2.1 hE (fun m => by first | rfl | (simp [entryFrame, mkF, argsToLocals, Value.category]; done)) ?_
  intro p e s m below meth c T hs X
  refine W.aloadN (pc' := 1) X d_prog_3_m3_0 rfl rfl rfl ?_
  refine W.getF (pc' := 4) X (w53 G) Via.refl P0 d_prog_3_m3_1 rfl fun T X => ?_
  refine W.callV (pc' := 7) (W := 0) (argsL := []) (st := []) (k' := 0) (n' := 0) (a := b) X (c_emp0 (a := b) (b := t) (cs := cs) G X.en P1 P2) (w152 G) (w153 G) (nfM (z' := (⟨"java/lang/String", "equals", "(Ljava/lang/Object;)Z"⟩ : MethodName)) rfl (w140 G)) (w155 G) (w154 G) P1.exa (w156 G) (w3 G) (by decide) (by decide) (by decide) rfl (lenOf pd18 rfl) rfl rfl (Nat.le_of_eq rfl) d_prog_3_m3_4 rfl (by decide) (by decide) (by decide) (by decide) (kp fun T X => ?_)
  exact W.ireturn X d_prog_3_m3_7 rfl (by decide) (by decide) (by decide) (by decide) ⟨rfl, rfl, rfl⟩
abbrev c_req_q (Z : State) (zC : Int32) (eE : Addr) (h : Heap) (B : Addr → Prop) (a b : Addr) (xR : Value) (h' : Heap) : Prop := ∃ (t : Addr) (u : Addr) (f : Addr), xR = (.ref t) ∧ Keep h h' [] ∧ h.size ≤ t ∧ h.size ≤ u ∧ h.size ≤ f ∧ Exa Z h' t "ephemera/cli/Flags$Term" ∧ Fld Z h' t "ephemera/cli/Flags$Term" "flags" "Ljava/util/List;" (.ref u) ∧ Fld Z h' t "ephemera/cli/Flags$Term" "optional" "Z" (.int (0 : Int32)) ∧ Exa Z h' u "java/util/ImmutableCollections$List12" ∧ Fld Z h' u "java/util/ImmutableCollections$List12" "e0" "Ljava/lang/Object;" (.ref f) ∧ Fld Z h' u "java/util/ImmutableCollections$List12" "e1" "Ljava/lang/Object;" (.ref eE) ∧ Exa Z h' f "ephemera/cli/Flags$Flag" ∧ Fld Z h' f "ephemera/cli/Flags$Flag" "name" "Ljava/lang/String;" (.ref a) ∧ Fld Z h' f "ephemera/cli/Flags$Flag" "value" "Ljava/lang/String;" (.ref b)
def c_req_rm : Room := { frames := 6, cells := 3, slots := 6, locals := 76 }
set_option maxRecDepth 65536 in
set_option maxHeartbeats 40000000 in
theorem c_req {l : Launch} {Z : State} {a0 : Array Value} {zC : Int32} {eE : Addr} {h : Heap} {B : Addr → Prop} {a b : Addr} (G : Gl Z a0 zC eE) (hE : En Z B h)  : Con l Z consts_1 [] (⟨"ephemera/cli/Flags$Term", "required", "(Ljava/lang/String;Ljava/lang/String;)Lephemera/cli/Flags$Term;"⟩ : MethodName) prog_4_method_2_code 2 (some (.object "ephemera/cli/Flags$Term")) c_req_rm B h #[(.ref a), (.ref b)] (fun vR hR BR => ∃ xR, vR = some xR ∧ BR = B ∧ c_req_q Z zC eE h B a b xR hR) := by
  have hz0 := hE.1.1
  refine Con.intro (ls := #[.val (.ref a), .val (.ref b)]) (plainFor_of_name pn17) G.2.1 hE (fun m => by first | rfl | (simp [entryFrame, mkF, argsToLocals, Value.category]; done)) ?_
  intro p e s m below meth c T hs X
  refine W.new (pc' := 3) (k' := 1) (n' := 2) X (w37 G) (w38 G) (w35 G) d_prog_4_m2_0 rfl (by decide) (by decide) (by decide) (by decide) fun T h1 a2 X K3 g4 g5 nb6 E7 D8 => ?_
  have F9 : Fld Z h1 a2 "ephemera/cli/Flags$Term" "flags" "Ljava/util/List;" .null := D8 (Or.inr (w100 G)) (ty := (.object "java/util/List")) (by decide)
  have F10 : Fld Z h1 a2 "ephemera/cli/Flags$Term" "optional" "Z" (.int (0 : Int32)) := D8 (Or.inr (w102 G)) (ty := .boolean) (by decide)
  refine W.dup (pc' := 4) X d_prog_4_m2_3 rfl rfl ?_
  refine W.new (pc' := 7) (k' := 2) (n' := 4) X (w39 G) (w40 G) (w41 G) d_prog_4_m2_4 rfl (by decide) (by decide) (by decide) (by decide) fun T h11 a12 X K13 g14 g15 nb16 E17 D18 => ?_
  have F19 : Fld Z h11 a12 "ephemera/cli/Flags$Flag" "name" "Ljava/lang/String;" .null := D18 (Or.inr (w52 G)) (ty := (.object "java/lang/String")) (by decide)
  have F20 : Fld Z h11 a12 "ephemera/cli/Flags$Flag" "value" "Ljava/lang/String;" .null := D18 (Or.inr (w54 G)) (ty := (.object "java/lang/String")) (by decide)
  refine W.dup (pc' := 8) X d_prog_4_m2_7 rfl rfl ?_
  refine W.aloadN (pc' := 9) X d_prog_4_m2_8 rfl rfl rfl ?_
  refine W.aloadN (pc' := 10) X d_prog_4_m2_9 rfl rfl rfl ?_
  refine W.callN (pc' := 13) (W := 3) (argsL := [(.ref a), (.ref b)]) (st := [(.ref a12), (.ref a2), (.ref a2)]) (k' := 2) (n' := 4) (a := a12) X (c_flag (x := a12) (a := a) (b := b) (v0 := .null) (v1 := .null) G X.en E17 F19 F20 g15 nb16) rfl (w42 G) (w43 G) (w44 G) (w41 G) (by decide) (by decide) (by decide) rfl (lenOf pd19 rfl) rfl rfl (Nat.le_of_eq rfl) d_prog_4_m2_10 rfl (by decide) (by decide) (by decide) (by decide) (kv fun T h21 X z22 q23 => ?_)
  obtain ⟨K24, F25, F26⟩ := q23
  have en27 := X.en
  refine W.callS (pc' := 16) (W := 2) (argsL := [(.ref a12)]) (st := [(.ref a2), (.ref a2)]) (k' := 3) (n' := 6) X (c_listof (a := a12) G X.en) (w55 G) (w56 G) (w58 G) (w57 G) (by decide) (by decide) (by decide) rfl (lenOf pd20 rfl) rfl rfl (Nat.le_of_eq rfl) d_prog_4_m2_13 rfl (by decide) (by decide) (by decide) (by decide) (kr fun T h28 xr X z29 q30 => ?_)
  obtain ⟨a31, rfl, K32, g33, F34, F35, F36⟩ := q30
  have g37 : Z.heap.size ≤ a31 := Nat.le_trans (Nat.le_trans hz0 (Nat.le_trans (Nat.le_trans K3.1 K13.1) K24.1)) g33
  have nb38 : ¬ B a31 := fun q => absurd (en27.2 _ q) (Nat.not_lt.mpr g33)
  refine W.iconst (pc' := 17) X (0 : Int32) d_prog_4_m2_16 (by decide) rfl ?_
  have F39 := (((E7.keep K13).keep K24).keep K32)
  have F40 := (((F9.keep K13 nin0).keep K24 (ninS (Nat.ne_of_lt (Nat.lt_of_lt_of_le E7.lt (Nat.le_trans (Nat.le_refl _) g14))) nin0)).keep K32 nin0)
  have F41 := (((F10.keep K13 nin0).keep K24 (ninS (Nat.ne_of_lt (Nat.lt_of_lt_of_le E7.lt (Nat.le_trans (Nat.le_refl _) g14))) nin0)).keep K32 nin0)
  refine W.callN (pc' := 20) (W := 1) (argsL := [(.ref a31), (.int (0 : Int32))]) (st := [(.ref a2)]) (k' := 3) (n' := 6) (a := a2) X (c_term (x := a2) (a := a31) (v0 := .null) (v1 := (.int (0 : Int32))) G X.en F39 F40 F41 g5 nb6) rfl (w95 G) (w96 G) (w97 G) (w35 G) (by decide) (by decide) (by decide) rfl (lenOf pd21 rfl) rfl rfl (Nat.le_of_eq rfl) d_prog_4_m2_17 rfl (by decide) (by decide) (by decide) (by decide) (kv fun T h42 X z43 q44 => ?_)
  obtain ⟨K45, F46, F47⟩ := q44
  have F48 := (F39.keep K45)
  have F49 := (F34.keep K45)
  have F50 := (F35.keep K45 (ninS (Nat.ne_of_gt (Nat.lt_of_lt_of_le E7.lt (Nat.le_trans (Nat.le_trans K13.1 K24.1) g33))) nin0))
  have F51 := (F36.keep K45 (ninS (Nat.ne_of_gt (Nat.lt_of_lt_of_le E7.lt (Nat.le_trans (Nat.le_trans K13.1 K24.1) g33))) nin0))
  have F52 := (((E17.keep K24).keep K32).keep K45)
  have F53 := ((F25.keep K32 nin0).keep K45 (ninS (Nat.ne_of_gt (Nat.lt_of_lt_of_le E7.lt (Nat.le_trans (Nat.le_refl _) g14))) nin0))
  have F54 := ((F26.keep K32 nin0).keep K45 (ninS (Nat.ne_of_gt (Nat.lt_of_lt_of_le E7.lt (Nat.le_trans (Nat.le_refl _) g14))) nin0))
  exact W.areturn X d_prog_4_m2_20 rfl rfl rfl rfl (by decide) (by decide) ⟨_, rfl, rfl, ⟨a2, a31, a12, rfl, (Keep.trans (Keep.trans (Keep.trans (Keep.trans (Keep.trans (Keep.refl h []) K3 all0) K13 all0) K24 (allS (Or.inr (Nat.le_trans K3.1 g14)) all0)) K32 all0) K45 (allS (Or.inr (Nat.le_trans (Nat.le_refl _) g4)) all0)), (Nat.le_trans (Nat.le_refl _) g4), (Nat.le_trans (Nat.le_trans (Nat.le_trans K3.1 K13.1) K24.1) g33), (Nat.le_trans K3.1 g14), F48, F46, F47, F49, F50, F51, F52, F53, F54⟩⟩
set_option maxRecDepth 65536 in
set_option maxHeartbeats 40000000 in
theorem c_law {l : Launch} {Z : State} {a0 : Array Value} {zC : Int32} {eE : Addr} {h : Heap} {B : Addr → Prop} {p0 p1 p2 p3 p4 : Int32} (G : Gl Z a0 zC eE) (hE : En Z B h)  : Con l Z consts_1 tables_1 x code maxLocals ret room_1 B h #[(.int p0), (.int p1), (.int p2), (.int p3), (.int p4)] (fun vR hR BR => vR = some (.int (1 : Int32))) := by
  have hz0 := hE.1.1
  refine Con.intro (ls := #[.val (.int p0), .val (.int p1), .val (.int p2), .val (.int p3), .val (.int p4), .unset, .unset, .unset, .unset, .unset, .unset, .unset, .unset]) (plainFor_of_name pn29) G.2.1 hE (fun m => by first | rfl | (simp [entryFrame, mkF, argsToLocals, Value.category, maxLocals]; done)) ?_
  intro p e s m below meth c T hs X
  refine W.iconst (pc' := 1) X (2 : Int32) at_0 (by decide) rfl ?_
  refine W.newA (aty := .char) (pc' := 3) (k' := 1) (n' := 2) (cap := 2) X (w0 G) at_1 (by decide) (by decide) (by decide) rfl (by decide) (by decide) (by decide) (by decide) fun T h1 a2 X K3 g4 g5 nb6 A7 => ?_
  have A7 : Ar Z h1 a2 .char [(.int (0 : Int32)), (.int (0 : Int32))] := A7
  refine W.astore (pc' := 5) (ls' := #[.val (.int p0), .val (.int p1), .val (.int p2), .val (.int p3), .val (.int p4), .val (.ref a2), .unset, .unset, .unset, .unset, .unset, .unset, .unset]) X at_3 rfl rfl rfl ?_
  refine W.aload (pc' := 7) X at_5 rfl rfl rfl ?_
  refine W.iconst (pc' := 8) X (0 : Int32) at_7 (by decide) rfl ?_
  refine W.iloadN (pc' := 9) X at_8 rfl rfl ?_
  refine W.sipush (pc' := 12) X (255 : Int32) at_9 (by decide) rfl ?_
  refine W.iand (pc' := 13) (w := (p0 &&& (255 : Int32))) X at_12 rfl rfl ?_
  refine W.i2c (pc' := 14) (w := (p0 &&& (255 : Int32))) X at_13 (i2c_mask _) rfl ?_
  refine W.castore (pc' := 15) (i := 0) X A7 (by decide) rfl (ltb rfl) (i2c_mask _) g5 nb6 at_14 rfl fun T h8 X K9 A10 => ?_
  have A10 : Ar Z h8 a2 .char [(.int (p0 &&& (255 : Int32))), (.int (0 : Int32))] := A10
  refine W.aload (pc' := 17) X at_15 rfl rfl rfl ?_
  refine W.iconst (pc' := 18) X (1 : Int32) at_17 (by decide) rfl ?_
  refine W.iloadN (pc' := 19) X at_18 rfl rfl ?_
  refine W.sipush (pc' := 22) X (255 : Int32) at_19 (by decide) rfl ?_
  refine W.iand (pc' := 23) (w := (p1 &&& (255 : Int32))) X at_22 rfl rfl ?_
  refine W.i2c (pc' := 24) (w := (p1 &&& (255 : Int32))) X at_23 (i2c_mask _) rfl ?_
  refine W.castore (pc' := 25) (i := 1) X A10 (by decide) rfl (ltb rfl) (i2c_mask _) g5 nb6 at_24 rfl fun T h11 X K12 A13 => ?_
  have A13 : Ar Z h11 a2 .char [(.int (p0 &&& (255 : Int32))), (.int (p1 &&& (255 : Int32)))] := A13
  refine W.new (pc' := 28) (k' := 2) (n' := 6) X (w1 G) (w2 G) (w3 G) at_25 rfl (by decide) (by decide) (by decide) (by decide) fun T h14 a15 X K16 g17 g18 nb19 E20 D21 => ?_
  have F22 : Fld Z h14 a15 "java/lang/String" "coder" "B" (.int (0 : Int32)) := D21 (Or.inr (w27 G)) (ty := .byte) (by decide)
  have F23 : Fld Z h14 a15 "java/lang/String" "value" "[B" .null := D21 (Or.inr (w29 G)) (ty := (.array .byte)) (by decide)
  refine W.dup (pc' := 29) X at_28 rfl rfl ?_
  refine W.aload (pc' := 31) X at_29 rfl rfl rfl ?_
  have F24 := (A13.keep K16 nin0)
  have en25 := X.en
  refine W.callN (pc' := 34) (W := 1) (argsL := [(.ref a2)]) (st := [(.ref a15)]) (k' := 3) (n' := 8) (a := a15) X (c_init1 (x := a15) (a := a2) (cs := [(p0 &&& (255 : Int32)), (p1 &&& (255 : Int32))]) (v0 := .null) (c0 := (.int (0 : Int32))) G X.en E20 F23 F22 F24 (latS (m255 _) (latS (m255 _) lat0)) (ltb rfl) (leb rfl) g18 nb19) rfl (w4 G) (w5 G) (w6 G) (w3 G) (by decide) (by decide) (by decide) rfl (lenOf pd22 rfl) rfl rfl (Nat.le_of_eq rfl) at_31 rfl (by decide) (by decide) (by decide) (by decide) (kv fun T h26 X z27 q28 => ?_)
  obtain ⟨a29, K30, g31, F32⟩ := q28
  have g33 : Z.heap.size ≤ a29 := Nat.le_trans (Nat.le_trans hz0 (Nat.le_trans (Nat.le_trans (Nat.le_trans K3.1 K9.1) K12.1) K16.1)) g31
  have nb34 : ¬ B a29 := fun q => absurd (en25.2 _ q) (Nat.not_lt.mpr g31)
  refine W.astore (pc' := 36) (ls' := #[.val (.int p0), .val (.int p1), .val (.int p2), .val (.int p3), .val (.int p4), .val (.ref a2), .val (.ref a15), .unset, .unset, .unset, .unset, .unset, .unset]) X at_34 rfl rfl rfl ?_
  refine W.iconst (pc' := 37) X (2 : Int32) at_36 (by decide) rfl ?_
  refine W.newA (aty := .char) (pc' := 39) (k' := 4) (n' := 10) (cap := 2) X (w0 G) at_37 (by decide) (by decide) (by decide) rfl (by decide) (by decide) (by decide) (by decide) fun T h35 a36 X K37 g38 g39 nb40 A41 => ?_
  have A41 : Ar Z h35 a36 .char [(.int (0 : Int32)), (.int (0 : Int32))] := A41
  refine W.astore (pc' := 41) (ls' := #[.val (.int p0), .val (.int p1), .val (.int p2), .val (.int p3), .val (.int p4), .val (.ref a2), .val (.ref a15), .val (.ref a36), .unset, .unset, .unset, .unset, .unset]) X at_39 rfl rfl rfl ?_
  refine W.aload (pc' := 43) X at_41 rfl rfl rfl ?_
  refine W.iconst (pc' := 44) X (0 : Int32) at_43 (by decide) rfl ?_
  refine W.iloadN (pc' := 45) X at_44 rfl rfl ?_
  refine W.sipush (pc' := 48) X (255 : Int32) at_45 (by decide) rfl ?_
  refine W.iand (pc' := 49) (w := (p2 &&& (255 : Int32))) X at_48 rfl rfl ?_
  refine W.i2c (pc' := 50) (w := (p2 &&& (255 : Int32))) X at_49 (i2c_mask _) rfl ?_
  refine W.castore (pc' := 51) (i := 0) X A41 (by decide) rfl (ltb rfl) (i2c_mask _) g39 nb40 at_50 rfl fun T h42 X K43 A44 => ?_
  have A44 : Ar Z h42 a36 .char [(.int (p2 &&& (255 : Int32))), (.int (0 : Int32))] := A44
  refine W.aload (pc' := 53) X at_51 rfl rfl rfl ?_
  refine W.iconst (pc' := 54) X (1 : Int32) at_53 (by decide) rfl ?_
  refine W.iloadN (pc' := 55) X at_54 rfl rfl ?_
  refine W.sipush (pc' := 58) X (255 : Int32) at_55 (by decide) rfl ?_
  refine W.iand (pc' := 59) (w := (p3 &&& (255 : Int32))) X at_58 rfl rfl ?_
  refine W.i2c (pc' := 60) (w := (p3 &&& (255 : Int32))) X at_59 (i2c_mask _) rfl ?_
  refine W.castore (pc' := 61) (i := 1) X A44 (by decide) rfl (ltb rfl) (i2c_mask _) g39 nb40 at_60 rfl fun T h45 X K46 A47 => ?_
  have A47 : Ar Z h45 a36 .char [(.int (p2 &&& (255 : Int32))), (.int (p3 &&& (255 : Int32)))] := A47
  refine W.iload (pc' := 63) X at_61 rfl rfl ?_
  refine W.iconst (pc' := 64) X (1 : Int32) at_63 (by decide) rfl ?_
  refine W.iand (pc' := 65) (w := (p4 &&& (1 : Int32))) X at_64 rfl rfl ?_
  by_cases hm : (p4 &&& (1 : Int32)) = (0 : Int32)
  · skip
    refine W.ifT (pc' := 72) X at_65 (XT.i0_eq_t hm) (by decide) (by decide) ?_
    refine W.iconst (pc' := 73) X (0 : Int32) at_72 (by decide) rfl ?_
    refine W.istore (pc' := 75) (ls' := #[.val (.int p0), .val (.int p1), .val (.int p2), .val (.int p3), .val (.int p4), .val (.ref a2), .val (.ref a15), .val (.ref a36), .val (.int (0 : Int32)), .unset, .unset, .unset, .unset]) X at_73 rfl rfl ?_
    refine W.iload (pc' := 77) X at_75 rfl rfl ?_
    refine W.ifT (pc' := 92) X at_77 (by decide) (by decide) (by decide) ?_
    refine W.new (pc' := 95) (k' := 5) (n' := 14) X (w1 G) (w2 G) (w3 G) at_92 rfl (by decide) (by decide) (by decide) (by decide) fun T h48 a49 X K50 g51 g52 nb53 E54 D55 => ?_
    have F56 : Fld Z h48 a49 "java/lang/String" "coder" "B" (.int (0 : Int32)) := D55 (Or.inr (w27 G)) (ty := .byte) (by decide)
    have F57 : Fld Z h48 a49 "java/lang/String" "value" "[B" .null := D55 (Or.inr (w29 G)) (ty := (.array .byte)) (by decide)
    refine W.dup (pc' := 96) X at_95 rfl rfl ?_
    refine W.iconst (pc' := 97) X (0 : Int32) at_96 (by decide) rfl ?_
    refine W.newA (aty := .char) (pc' := 99) (k' := 6) (n' := 14) (cap := 0) X (w0 G) at_97 (by decide) (by decide) (by decide) rfl (by decide) (by decide) (by decide) (by decide) fun T h58 a59 X K60 g61 g62 nb63 A64 => ?_
    have A64 : Ar Z h58 a59 .char [] := A64
    have F65 := (E54.keep K60)
    have F66 := (F57.keep K60 nin0)
    have F67 := (F56.keep K60 nin0)
    refine W.callN (pc' := 102) (W := 1) (argsL := [(.ref a59)]) (st := [(.ref a49)]) (k' := 10) (n' := 22) (a := a49) X (c_init1e (x := a49) (a := a59) (v0 := .null) (c0 := (.int (0 : Int32))) G X.en F65 F66 F67 A64 g52 nb53) rfl (w4 G) (w5 G) (w6 G) (w3 G) (by decide) (by decide) (by decide) rfl (lenOf pd22 rfl) rfl rfl (Nat.le_of_eq rfl) at_99 rfl (by decide) (by decide) (by decide) (by decide) (kvi fun T h68 B71 X z69 zb72 q70 => ?_)
    obtain ⟨a73, K74, F75⟩ := q70
    refine W.astore (pc' := 104) (ls' := #[.val (.int p0), .val (.int p1), .val (.int p2), .val (.int p3), .val (.int p4), .val (.ref a2), .val (.ref a15), .val (.ref a36), .val (.int (0 : Int32)), .val (.ref a49), .unset, .unset, .unset]) X at_102 rfl rfl rfl ?_
    refine W.aload (pc' := 106) X at_104 rfl rfl rfl ?_
    refine W.aload (pc' := 108) X at_106 rfl rfl rfl ?_
    have en76 := X.en
    refine W.callS (pc' := 111) (W := 0) (argsL := [(.ref a15), (.ref a49)]) (st := []) (k' := 13) (n' := 28) X (c_req (a := a15) (b := a49) G X.en) (w33 G) (w34 G) (w36 G) (w35 G) (by decide) (by decide) (by decide) rfl (lenOf pd23 rfl) rfl rfl (Nat.le_of_eq rfl) at_108 rfl (by decide) (by decide) (by decide) (by decide) (kr fun T h77 xr X z78 q79 => ?_)
    obtain ⟨a80, a81, a82, rfl, K83, g84, g85, g86, F87, F88, F89, F90, F91, F92, F93, F94, F95⟩ := q79
    have g96 : Z.heap.size ≤ a80 := Nat.le_trans (Nat.le_trans hz0 (Nat.le_trans (Nat.le_trans (Nat.le_trans (Nat.le_trans (Nat.le_trans (Nat.le_trans (Nat.le_trans (Nat.le_trans (Nat.le_trans (Nat.le_trans K3.1 K9.1) K12.1) K16.1) K30.1) K37.1) K43.1) K46.1) K50.1) K60.1) K74.1)) g84
    have nb97 : ¬ B71 a80 := fun q => absurd (en76.2 _ q) (Nat.not_lt.mpr g84)
    have g98 : Z.heap.size ≤ a81 := Nat.le_trans (Nat.le_trans hz0 (Nat.le_trans (Nat.le_trans (Nat.le_trans (Nat.le_trans (Nat.le_trans (Nat.le_trans (Nat.le_trans (Nat.le_trans (Nat.le_trans (Nat.le_trans K3.1 K9.1) K12.1) K16.1) K30.1) K37.1) K43.1) K46.1) K50.1) K60.1) K74.1)) g85
    have nb99 : ¬ B71 a81 := fun q => absurd (en76.2 _ q) (Nat.not_lt.mpr g85)
    have g100 : Z.heap.size ≤ a82 := Nat.le_trans (Nat.le_trans hz0 (Nat.le_trans (Nat.le_trans (Nat.le_trans (Nat.le_trans (Nat.le_trans (Nat.le_trans (Nat.le_trans (Nat.le_trans (Nat.le_trans (Nat.le_trans K3.1 K9.1) K12.1) K16.1) K30.1) K37.1) K43.1) K46.1) K50.1) K60.1) K74.1)) g86
    have nb101 : ¬ B71 a82 := fun q => absurd (en76.2 _ q) (Nat.not_lt.mpr g86)
    refine W.astore (pc' := 113) (ls' := #[.val (.int p0), .val (.int p1), .val (.int p2), .val (.int p3), .val (.int p4), .val (.ref a2), .val (.ref a15), .val (.ref a36), .val (.int (0 : Int32)), .val (.ref a49), .val (.ref a80), .unset, .unset]) X at_111 rfl rfl rfl ?_
    refine W.aload (pc' := 115) X at_113 rfl rfl rfl ?_
    refine W.callV (pc' := 118) (W := 0) (argsL := []) (st := []) (k' := 13) (n' := 28) (a := a80) X (c_topt (a := a80) (v := (0 : Int32)) G X.en F89 (by decide)) (w103 G) (w104 G) (nfM (z' := (⟨"ephemera/cli/Flags$Term", "optional", "()Z"⟩ : MethodName)) rfl (w106 G)) (w106 G) (w105 G) F87 (w107 G) (w35 G) (by decide) (by decide) (by decide) rfl (lenOf pd18 rfl) rfl rfl (Nat.le_of_eq rfl) at_115 rfl (by decide) (by decide) (by decide) (by decide) (kp fun T X => ?_)
    refine W.ifT (pc' := 123) X at_118 (by decide) (by decide) (by decide) ?_
    refine W.aload (pc' := 125) X at_123 rfl rfl rfl ?_
    refine W.callV (pc' := 128) (W := 0) (argsL := []) (st := []) (k' := 13) (n' := 28) (a := a80) X (c_tfl (a := a80) (b := a81) G X.en F88) (w108 G) (w109 G) (nfM (z' := (⟨"ephemera/cli/Flags$Term", "optional", "()Z"⟩ : MethodName)) rfl (w106 G)) (w111 G) (w110 G) F87 (w112 G) (w35 G) (by decide) (by decide) (by decide) rfl (lenOf pd24 rfl) rfl rfl (Nat.le_of_eq rfl) at_125 rfl (by decide) (by decide) (by decide) (by decide) (kp fun T X => ?_)
    refine W.astore (pc' := 130) (ls' := #[.val (.int p0), .val (.int p1), .val (.int p2), .val (.int p3), .val (.int p4), .val (.ref a2), .val (.ref a15), .val (.ref a36), .val (.int (0 : Int32)), .val (.ref a49), .val (.ref a80), .val (.ref a81), .unset]) X at_128 rfl rfl rfl ?_
    refine W.aload (pc' := 132) X at_130 rfl rfl rfl ?_
    refine W.callI (pc' := 137) (W := 0) (argsL := []) (st := []) (k' := 13) (n' := 28) (a := a81) X (c_size (a := a81) G X.en F92) (w113 G) (w114 G) (w115 G) (w116 G) (w117 G) (w118 G) (w119 G) (w120 G) F90 (w121 G) (w61 G) (by decide) (by decide) (by decide) rfl (lenOf pd25 rfl) rfl rfl (Nat.le_of_eq rfl) at_132 rfl (by decide) (by decide) (by decide) (by decide) (kp fun T X => ?_)
    refine W.iconst (pc' := 138) X (1 : Int32) at_137 (by decide) rfl ?_
    refine W.icT (pc' := 143) X at_138 (by decide) (by decide) (by decide) ?_
    refine W.aload (pc' := 145) X at_143 rfl rfl rfl ?_
    refine W.iconst (pc' := 146) X (0 : Int32) at_145 (by decide) rfl ?_
    refine W.callI (pc' := 151) (W := 0) (argsL := [(.int (0 : Int32))]) (st := []) (k' := 13) (n' := 28) (a := a81) X (c_get (a := a81) (b := a82) G X.en F91) (w122 G) (w123 G) (w124 G) (w125 G) (w126 G) (w127 G) (w128 G) (w120 G) F90 (w129 G) (w61 G) (by decide) (by decide) (by decide) rfl (lenOf pd26 rfl) rfl rfl (Nat.le_of_eq rfl) at_146 rfl (by decide) (by decide) (by decide) (by decide) (kp fun T X => ?_)
    refine W.cast (pc' := 154) X (w130 G) (Ins.self F93) at_151 rfl fun T X => ?_
    refine W.astore (pc' := 156) (ls' := #[.val (.int p0), .val (.int p1), .val (.int p2), .val (.int p3), .val (.int p4), .val (.ref a2), .val (.ref a15), .val (.ref a36), .val (.int (0 : Int32)), .val (.ref a49), .val (.ref a80), .val (.ref a81), .val (.ref a82)]) X at_154 rfl rfl rfl ?_
    refine W.aload (pc' := 158) X at_156 rfl rfl rfl ?_
    refine W.callV (pc' := 161) (W := 0) (argsL := []) (st := []) (k' := 13) (n' := 28) (a := a82) X (c_fname (a := a82) (b := a15) G X.en F94) (w132 G) (w133 G) (nfM (z' := (⟨"ephemera/cli/Flags$Flag", "name", "()Ljava/lang/String;"⟩ : MethodName)) rfl (w135 G)) (w135 G) (w134 G) F93 (w136 G) (w41 G) (by decide) (by decide) (by decide) rfl (lenOf pd27 rfl) rfl rfl (Nat.le_of_eq rfl) at_158 rfl (by decide) (by decide) (by decide) (by decide) (kp fun T X => ?_)
    refine W.aload (pc' := 163) X at_161 rfl rfl rfl ?_
    have F102 := ((((((((E20.keep K30).keep K37).keep K43).keep K46).keep K50).keep K60).keep K74).keep K83)
    refine W.callV (pc' := 166) (W := 0) (argsL := [(.ref a15)]) (st := []) (k' := 13) (n' := 28) (a := a15) X (c_eqsame (a := a15) G X.en) (w137 G) (w138 G) (nfM (z' := (⟨"java/lang/String", "equals", "(Ljava/lang/Object;)Z"⟩ : MethodName)) rfl (w140 G)) (w140 G) (w139 G) F102 (w141 G) (w3 G) (by decide) (by decide) (by decide) rfl (lenOf pd28 rfl) rfl rfl (Nat.le_of_eq rfl) at_163 rfl (by decide) (by decide) (by decide) (by decide) (kp fun T X => ?_)
    refine W.ifF (pc' := 169) X at_166 (by decide) rfl ?_
    refine W.aload (pc' := 171) X at_169 rfl rfl rfl ?_
    refine W.callV (pc' := 174) (W := 0) (argsL := []) (st := []) (k' := 13) (n' := 28) (a := a82) X (c_fval (a := a82) (b := a49) G X.en F95) (w142 G) (w143 G) (nfM (z' := (⟨"ephemera/cli/Flags$Flag", "name", "()Ljava/lang/String;"⟩ : MethodName)) rfl (w135 G)) (w145 G) (w144 G) F93 (w146 G) (w41 G) (by decide) (by decide) (by decide) rfl (lenOf pd27 rfl) rfl rfl (Nat.le_of_eq rfl) at_171 rfl (by decide) (by decide) (by decide) (by decide) (kp fun T X => ?_)
    refine W.aload (pc' := 176) X at_174 rfl rfl rfl ?_
    have F103 := ((F65.keep K74).keep K83)
    refine W.callV (pc' := 179) (W := 0) (argsL := [(.ref a49)]) (st := []) (k' := 13) (n' := 28) (a := a49) X (c_eqsame (a := a49) G X.en) (w137 G) (w138 G) (nfM (z' := (⟨"java/lang/String", "equals", "(Ljava/lang/Object;)Z"⟩ : MethodName)) rfl (w140 G)) (w140 G) (w139 G) F103 (w141 G) (w3 G) (by decide) (by decide) (by decide) rfl (lenOf pd28 rfl) rfl rfl (Nat.le_of_eq rfl) at_176 rfl (by decide) (by decide) (by decide) (by decide) (kp fun T X => ?_)
    refine W.ifF (pc' := 182) X at_179 (by decide) rfl ?_
    refine W.aload (pc' := 184) X at_182 rfl rfl rfl ?_
    have F104 := (F75.keep K83 nin0 nin0)
    refine W.callV (pc' := 187) (W := 0) (argsL := []) (st := []) (k' := 13) (n' := 28) (a := a82) X (c_sw1 (a := a82) (b := a49) (t := a73) G X.en F95 F104) (w147 G) (w148 G) (nfM (z' := (⟨"ephemera/cli/Flags$Flag", "name", "()Ljava/lang/String;"⟩ : MethodName)) rfl (w135 G)) (w150 G) (w149 G) F93 (w151 G) (w41 G) (by decide) (by decide) (by decide) rfl (lenOf pd18 rfl) rfl rfl (Nat.le_of_eq rfl) at_184 rfl (by decide) (by decide) (by decide) (by decide) (kp fun T X => ?_)
    refine W.iload (pc' := 189) X at_187 rfl rfl ?_
    refine W.ifF (pc' := 192) X at_189 (by decide) rfl ?_
    refine W.iconst (pc' := 193) X (1 : Int32) at_192 (by decide) rfl ?_
    refine W.goto (pc' := 197) X at_193 (by decide) (by decide) ?_
    refine W.icF (pc' := 200) X at_197 (by decide) rfl ?_
    refine W.iconst (pc' := 201) X (1 : Int32) at_200 (by decide) rfl ?_
    refine W.goto (pc' := 205) X at_201 (by decide) (by decide) ?_
    exact W.ireturn X at_205 rfl (by decide) (by decide) (by decide) (by decide) rfl
  · skip
    refine W.ifF (pc' := 68) X at_65 (XT.i0_eq_f hm) rfl ?_
    refine W.iconst (pc' := 69) X (1 : Int32) at_68 (by decide) rfl ?_
    refine W.goto (pc' := 73) X at_69 (by decide) (by decide) ?_
    refine W.istore (pc' := 75) (ls' := #[.val (.int p0), .val (.int p1), .val (.int p2), .val (.int p3), .val (.int p4), .val (.ref a2), .val (.ref a15), .val (.ref a36), .val (.int (1 : Int32)), .unset, .unset, .unset, .unset]) X at_73 rfl rfl ?_
    refine W.iload (pc' := 77) X at_75 rfl rfl ?_
    refine W.ifF (pc' := 80) X at_77 (by decide) rfl ?_
    refine W.new (pc' := 83) (k' := 5) (n' := 14) X (w1 G) (w2 G) (w3 G) at_80 rfl (by decide) (by decide) (by decide) (by decide) fun T h105 a106 X K107 g108 g109 nb110 E111 D112 => ?_
    have F113 : Fld Z h105 a106 "java/lang/String" "coder" "B" (.int (0 : Int32)) := D112 (Or.inr (w27 G)) (ty := .byte) (by decide)
    have F114 : Fld Z h105 a106 "java/lang/String" "value" "[B" .null := D112 (Or.inr (w29 G)) (ty := (.array .byte)) (by decide)
    refine W.dup (pc' := 84) X at_83 rfl rfl ?_
    refine W.aload (pc' := 86) X at_84 rfl rfl rfl ?_
    have F115 := (A47.keep K107 nin0)
    have en116 := X.en
    refine W.callN (pc' := 89) (W := 1) (argsL := [(.ref a36)]) (st := [(.ref a106)]) (k' := 6) (n' := 16) (a := a106) X (c_init1 (x := a106) (a := a36) (cs := [(p2 &&& (255 : Int32)), (p3 &&& (255 : Int32))]) (v0 := .null) (c0 := (.int (0 : Int32))) G X.en E111 F114 F113 F115 (latS (m255 _) (latS (m255 _) lat0)) (ltb rfl) (leb rfl) g109 nb110) rfl (w4 G) (w5 G) (w6 G) (w3 G) (by decide) (by decide) (by decide) rfl (lenOf pd22 rfl) rfl rfl (Nat.le_of_eq rfl) at_86 rfl (by decide) (by decide) (by decide) (by decide) (kv fun T h117 X z118 q119 => ?_)
    obtain ⟨a120, K121, g122, F123⟩ := q119
    have g124 : Z.heap.size ≤ a120 := Nat.le_trans (Nat.le_trans hz0 (Nat.le_trans (Nat.le_trans (Nat.le_trans (Nat.le_trans (Nat.le_trans (Nat.le_trans (Nat.le_trans (Nat.le_trans K3.1 K9.1) K12.1) K16.1) K30.1) K37.1) K43.1) K46.1) K107.1)) g122
    have nb125 : ¬ B a120 := fun q => absurd (en116.2 _ q) (Nat.not_lt.mpr g122)
    refine W.goto (pc' := 102) X at_89 (by decide) (by decide) ?_
    refine W.astore (pc' := 104) (ls' := #[.val (.int p0), .val (.int p1), .val (.int p2), .val (.int p3), .val (.int p4), .val (.ref a2), .val (.ref a15), .val (.ref a36), .val (.int (1 : Int32)), .val (.ref a106), .unset, .unset, .unset]) X at_102 rfl rfl rfl ?_
    refine W.aload (pc' := 106) X at_104 rfl rfl rfl ?_
    refine W.aload (pc' := 108) X at_106 rfl rfl rfl ?_
    have en126 := X.en
    refine W.callS (pc' := 111) (W := 0) (argsL := [(.ref a15), (.ref a106)]) (st := []) (k' := 9) (n' := 22) X (c_req (a := a15) (b := a106) G X.en) (w33 G) (w34 G) (w36 G) (w35 G) (by decide) (by decide) (by decide) rfl (lenOf pd23 rfl) rfl rfl (Nat.le_of_eq rfl) at_108 rfl (by decide) (by decide) (by decide) (by decide) (kr fun T h127 xr X z128 q129 => ?_)
    obtain ⟨a130, a131, a132, rfl, K133, g134, g135, g136, F137, F138, F139, F140, F141, F142, F143, F144, F145⟩ := q129
    have g146 : Z.heap.size ≤ a130 := Nat.le_trans (Nat.le_trans hz0 (Nat.le_trans (Nat.le_trans (Nat.le_trans (Nat.le_trans (Nat.le_trans (Nat.le_trans (Nat.le_trans (Nat.le_trans (Nat.le_trans K3.1 K9.1) K12.1) K16.1) K30.1) K37.1) K43.1) K46.1) K107.1) K121.1)) g134
    have nb147 : ¬ B a130 := fun q => absurd (en126.2 _ q) (Nat.not_lt.mpr g134)
    have g148 : Z.heap.size ≤ a131 := Nat.le_trans (Nat.le_trans hz0 (Nat.le_trans (Nat.le_trans (Nat.le_trans (Nat.le_trans (Nat.le_trans (Nat.le_trans (Nat.le_trans (Nat.le_trans (Nat.le_trans K3.1 K9.1) K12.1) K16.1) K30.1) K37.1) K43.1) K46.1) K107.1) K121.1)) g135
    have nb149 : ¬ B a131 := fun q => absurd (en126.2 _ q) (Nat.not_lt.mpr g135)
    have g150 : Z.heap.size ≤ a132 := Nat.le_trans (Nat.le_trans hz0 (Nat.le_trans (Nat.le_trans (Nat.le_trans (Nat.le_trans (Nat.le_trans (Nat.le_trans (Nat.le_trans (Nat.le_trans (Nat.le_trans K3.1 K9.1) K12.1) K16.1) K30.1) K37.1) K43.1) K46.1) K107.1) K121.1)) g136
    have nb151 : ¬ B a132 := fun q => absurd (en126.2 _ q) (Nat.not_lt.mpr g136)
    refine W.astore (pc' := 113) (ls' := #[.val (.int p0), .val (.int p1), .val (.int p2), .val (.int p3), .val (.int p4), .val (.ref a2), .val (.ref a15), .val (.ref a36), .val (.int (1 : Int32)), .val (.ref a106), .val (.ref a130), .unset, .unset]) X at_111 rfl rfl rfl ?_
    refine W.aload (pc' := 115) X at_113 rfl rfl rfl ?_
    refine W.callV (pc' := 118) (W := 0) (argsL := []) (st := []) (k' := 9) (n' := 22) (a := a130) X (c_topt (a := a130) (v := (0 : Int32)) G X.en F139 (by decide)) (w103 G) (w104 G) (nfM (z' := (⟨"ephemera/cli/Flags$Term", "optional", "()Z"⟩ : MethodName)) rfl (w106 G)) (w106 G) (w105 G) F137 (w107 G) (w35 G) (by decide) (by decide) (by decide) rfl (lenOf pd18 rfl) rfl rfl (Nat.le_of_eq rfl) at_115 rfl (by decide) (by decide) (by decide) (by decide) (kp fun T X => ?_)
    refine W.ifT (pc' := 123) X at_118 (by decide) (by decide) (by decide) ?_
    refine W.aload (pc' := 125) X at_123 rfl rfl rfl ?_
    refine W.callV (pc' := 128) (W := 0) (argsL := []) (st := []) (k' := 9) (n' := 22) (a := a130) X (c_tfl (a := a130) (b := a131) G X.en F138) (w108 G) (w109 G) (nfM (z' := (⟨"ephemera/cli/Flags$Term", "optional", "()Z"⟩ : MethodName)) rfl (w106 G)) (w111 G) (w110 G) F137 (w112 G) (w35 G) (by decide) (by decide) (by decide) rfl (lenOf pd24 rfl) rfl rfl (Nat.le_of_eq rfl) at_125 rfl (by decide) (by decide) (by decide) (by decide) (kp fun T X => ?_)
    refine W.astore (pc' := 130) (ls' := #[.val (.int p0), .val (.int p1), .val (.int p2), .val (.int p3), .val (.int p4), .val (.ref a2), .val (.ref a15), .val (.ref a36), .val (.int (1 : Int32)), .val (.ref a106), .val (.ref a130), .val (.ref a131), .unset]) X at_128 rfl rfl rfl ?_
    refine W.aload (pc' := 132) X at_130 rfl rfl rfl ?_
    refine W.callI (pc' := 137) (W := 0) (argsL := []) (st := []) (k' := 9) (n' := 22) (a := a131) X (c_size (a := a131) G X.en F142) (w113 G) (w114 G) (w115 G) (w116 G) (w117 G) (w118 G) (w119 G) (w120 G) F140 (w121 G) (w61 G) (by decide) (by decide) (by decide) rfl (lenOf pd25 rfl) rfl rfl (Nat.le_of_eq rfl) at_132 rfl (by decide) (by decide) (by decide) (by decide) (kp fun T X => ?_)
    refine W.iconst (pc' := 138) X (1 : Int32) at_137 (by decide) rfl ?_
    refine W.icT (pc' := 143) X at_138 (by decide) (by decide) (by decide) ?_
    refine W.aload (pc' := 145) X at_143 rfl rfl rfl ?_
    refine W.iconst (pc' := 146) X (0 : Int32) at_145 (by decide) rfl ?_
    refine W.callI (pc' := 151) (W := 0) (argsL := [(.int (0 : Int32))]) (st := []) (k' := 9) (n' := 22) (a := a131) X (c_get (a := a131) (b := a132) G X.en F141) (w122 G) (w123 G) (w124 G) (w125 G) (w126 G) (w127 G) (w128 G) (w120 G) F140 (w129 G) (w61 G) (by decide) (by decide) (by decide) rfl (lenOf pd26 rfl) rfl rfl (Nat.le_of_eq rfl) at_146 rfl (by decide) (by decide) (by decide) (by decide) (kp fun T X => ?_)
    refine W.cast (pc' := 154) X (w130 G) (Ins.self F143) at_151 rfl fun T X => ?_
    refine W.astore (pc' := 156) (ls' := #[.val (.int p0), .val (.int p1), .val (.int p2), .val (.int p3), .val (.int p4), .val (.ref a2), .val (.ref a15), .val (.ref a36), .val (.int (1 : Int32)), .val (.ref a106), .val (.ref a130), .val (.ref a131), .val (.ref a132)]) X at_154 rfl rfl rfl ?_
    refine W.aload (pc' := 158) X at_156 rfl rfl rfl ?_
    refine W.callV (pc' := 161) (W := 0) (argsL := []) (st := []) (k' := 9) (n' := 22) (a := a132) X (c_fname (a := a132) (b := a15) G X.en F144) (w132 G) (w133 G) (nfM (z' := (⟨"ephemera/cli/Flags$Flag", "name", "()Ljava/lang/String;"⟩ : MethodName)) rfl (w135 G)) (w135 G) (w134 G) F143 (w136 G) (w41 G) (by decide) (by decide) (by decide) rfl (lenOf pd27 rfl) rfl rfl (Nat.le_of_eq rfl) at_158 rfl (by decide) (by decide) (by decide) (by decide) (kp fun T X => ?_)
    refine W.aload (pc' := 163) X at_161 rfl rfl rfl ?_
    have F152 := (((((((E20.keep K30).keep K37).keep K43).keep K46).keep K107).keep K121).keep K133)
    refine W.callV (pc' := 166) (W := 0) (argsL := [(.ref a15)]) (st := []) (k' := 9) (n' := 22) (a := a15) X (c_eqsame (a := a15) G X.en) (w137 G) (w138 G) (nfM (z' := (⟨"java/lang/String", "equals", "(Ljava/lang/Object;)Z"⟩ : MethodName)) rfl (w140 G)) (w140 G) (w139 G) F152 (w141 G) (w3 G) (by decide) (by decide) (by decide) rfl (lenOf pd28 rfl) rfl rfl (Nat.le_of_eq rfl) at_163 rfl (by decide) (by decide) (by decide) (by decide) (kp fun T X => ?_)
    refine W.ifF (pc' := 169) X at_166 (by decide) rfl ?_
    refine W.aload (pc' := 171) X at_169 rfl rfl rfl ?_
    refine W.callV (pc' := 174) (W := 0) (argsL := []) (st := []) (k' := 9) (n' := 22) (a := a132) X (c_fval (a := a132) (b := a106) G X.en F145) (w142 G) (w143 G) (nfM (z' := (⟨"ephemera/cli/Flags$Flag", "name", "()Ljava/lang/String;"⟩ : MethodName)) rfl (w135 G)) (w145 G) (w144 G) F143 (w146 G) (w41 G) (by decide) (by decide) (by decide) rfl (lenOf pd27 rfl) rfl rfl (Nat.le_of_eq rfl) at_171 rfl (by decide) (by decide) (by decide) (by decide) (kp fun T X => ?_)
    refine W.aload (pc' := 176) X at_174 rfl rfl rfl ?_
    have F153 := ((E111.keep K121).keep K133)
    refine W.callV (pc' := 179) (W := 0) (argsL := [(.ref a106)]) (st := []) (k' := 9) (n' := 22) (a := a106) X (c_eqsame (a := a106) G X.en) (w137 G) (w138 G) (nfM (z' := (⟨"java/lang/String", "equals", "(Ljava/lang/Object;)Z"⟩ : MethodName)) rfl (w140 G)) (w140 G) (w139 G) F153 (w141 G) (w3 G) (by decide) (by decide) (by decide) rfl (lenOf pd28 rfl) rfl rfl (Nat.le_of_eq rfl) at_176 rfl (by decide) (by decide) (by decide) (by decide) (kp fun T X => ?_)
    refine W.ifF (pc' := 182) X at_179 (by decide) rfl ?_
    refine W.aload (pc' := 184) X at_182 rfl rfl rfl ?_
    have F154 := (F123.keep K133 nin0 nin0)
    refine W.callV (pc' := 187) (W := 0) (argsL := []) (st := []) (k' := 9) (n' := 22) (a := a132) X (c_sw0 (a := a132) (b := a106) (t := a120) (cs := [(p2 &&& (255 : Int32)), (p3 &&& (255 : Int32))]) G X.en F145 F154 (ltb rfl)) (w147 G) (w148 G) (nfM (z' := (⟨"ephemera/cli/Flags$Flag", "name", "()Ljava/lang/String;"⟩ : MethodName)) rfl (w135 G)) (w150 G) (w149 G) F143 (w151 G) (w41 G) (by decide) (by decide) (by decide) rfl (lenOf pd18 rfl) rfl rfl (Nat.le_of_eq rfl) at_184 rfl (by decide) (by decide) (by decide) (by decide) (kp fun T X => ?_)
    refine W.iload (pc' := 189) X at_187 rfl rfl ?_
    refine W.ifT (pc' := 196) X at_189 (by decide) (by decide) (by decide) ?_
    refine W.iconst (pc' := 197) X (0 : Int32) at_196 (by decide) rfl ?_
    refine W.icF (pc' := 200) X at_197 (by decide) rfl ?_
    refine W.iconst (pc' := 201) X (1 : Int32) at_200 (by decide) rfl ?_
    refine W.goto (pc' := 205) X at_201 (by decide) (by decide) ?_
    exact W.ireturn X at_205 rfl (by decide) (by decide) (by decide) (by decide) rfl
set_option maxRecDepth 65536 in
set_option maxHeartbeats 40000000 in
theorem comes_1 {Post : Tables → Env → Array Value → State → Outcome → State → Prop} (hpost : ∀ tb e args s v u, (limb_1_1.after args s (.returned v) u = true ∧ limb_1_2.after args s (.returned v) u = true ∧ True) → ReturnedEndW s (.returned v) u (Jvm.fieldLocs frame_1_writes args s ++ Jvm.arrayLocs frame_1_arrays args s ++ Jvm.staticLocs frame_1_statics s) 32 1152 → Post tb e args s (.returned v) u) :
    ArmFor flags0 classFile x code maxLocals ret World_1 tables_1 room_1 Calls_1 rest_1 Pre_1 Post := by
  intro l hfl _ _ p e ha hc hk s m args below hf hA hF happ hP
  obtain ⟨hcalls, hrest, hpre⟩ := hP
  obtain ⟨-, -, -, hnamed, -, -, -, hat⟩ := (Spec.applies_iff hf).mp happ
  obtain ⟨hg, hn⟩ := and_e (Cond.before_iff.mp (show (Jvm.Cond.and given_1 narrow_1).before args s = true from hpre))
  obtain ⟨h1, h2⟩ := and_e hg
  obtain ⟨w0, w1, w2, w3, w4, rfl⟩ : ∃ w0 w1 w2 w3 w4 : Value, args = #[w0, w1, w2, w3, w4] := by
    have hs : args.size = 5 := by simpa [Cond.value, given_1] using h1
    obtain ⟨L⟩ := args
    match L, hs with
    | [w0, w1, w2, w3, w4], _ => exact ⟨w0, w1, w2, w3, w4, rfl⟩
  obtain ⟨k0, r0⟩ := and_e h2
  obtain ⟨i0, e0⟩ := is_v k0
  obtain rfl : w0 = (.int i0) := Option.some.inj e0
  obtain ⟨k1, r1⟩ := and_e r0
  obtain ⟨i1, e1⟩ := is_v k1
  obtain rfl : w1 = (.int i1) := Option.some.inj e1
  obtain ⟨k2, r2⟩ := and_e r1
  obtain ⟨i2, e2⟩ := is_v k2
  obtain rfl : w2 = (.int i2) := Option.some.inj e2
  obtain ⟨k3, r3⟩ := and_e r2
  obtain ⟨i3, e3⟩ := is_v k3
  obtain rfl : w3 = (.int i3) := Option.some.inj e3
  obtain ⟨i4, e4⟩ := is_v r3
  obtain rfl : w4 = (.int i4) := Option.some.inj e4
  have hw := fun d (hd : d ∈ tables_1) => atoms_spec (ws := Jvm.Cond.code x code maxLocals ret :: tables_1) hat d (List.mem_cons_of_mem _ hd)
  obtain ⟨hsets, hown0⟩ := atoms_of _ (rest_1_c_eq ▸ (show rest_1_c.before _ s = true from hrest))
  obtain ⟨zC, v1⟩ := is_v (Cond.before_iff.mp (hsets _ (List.mem_of_getElem? (i := 1) rfl)))
  have c1 : ¬ (zC = (0 : Int32)) := gotF (Cond.eq_ints v1 (Term.int_eval (0))) (not_v (Cond.before_iff.mp (hsets _ (List.mem_of_getElem? (i := 2) rfl))))
  have S1 := Sta.start v1 (Or.inl (hsets _ (List.mem_of_getElem? (i := 0) rfl)))
  obtain ⟨eE, v2⟩ := exa_v (Cond.before_iff.mp (hsets _ (List.mem_of_getElem? (i := 11) rfl)))
  have S2 := Sta.start v2 (Or.inl (hsets _ (List.mem_of_getElem? (i := 10) rfl)))
  have hew : EW s #[(.int i0), (.int i1), (.int i2), (.int i3), (.int i4)] consts_1 := (EW.cons (hw _ (List.mem_of_getElem? (i := 30) rfl)) (by decide) EW.nil)
  have G : Gl s #[(.int i0), (.int i1), (.int i2), (.int i3), (.int i4)] zC eE := ⟨hw, hew, S1, c1, S2, trivial⟩
  have hch : CHv s consts_1 s.vm s.heap := CHv.start hew (fun p hp => hcalls.1 p hp) (hsets _ (List.mem_of_getElem? (i := 2) rfl)) (hw _ (List.mem_of_getElem? (i := 19) rfl)) (hw _ (List.mem_of_getElem? (i := 2) rfl))
  obtain ⟨n, o, h1, h2, h3, v, L, B', rfl, N, -, -, -, -, -, rfl, hq⟩ := c_law (l := l) (B := fun x => Bk s consts_1 s.vm s.heap x) G ⟨⟨Nat.le_refl _, fun _ _ q => q⟩, fun x r => by obtain ⟨cell, q⟩ := r.there; exact (Array.getElem?_eq_some_iff.mp q).1⟩ p e ha hc hk s m _ below hf ((Spec.applies_iff_loose hf).mp happ).1 ⟨rfl, State.Warmed39.refl s, rfl, hch, fun x r => r⟩ trivial
  refine ⟨n, _, h1, h2, h3, hpost _ _ _ _ _ _ ⟨Cond.after_iff.mpr rfl, Cond.after_iff.mpr (eq_i res_at (Term.int_eval (1)) rfl), trivial⟩ ⟨hq.1, hq.2.1, hq.2.2.1, (hq.2.2.2.sift fun y hy => Or.inr (N y hy)).mono (by decide) (by decide)⟩⟩
theorem main_1_1 : Claimed_1_1 := comes_1 fun _ _ _ _ _ _ h hF => ⟨h.1, hF⟩
theorem main_1_2 : Claimed_1_2 := comes_1 fun _ _ _ _ _ _ h hF => ⟨h.2.1, hF⟩
end Jvm.Pilot.@@N@@
namespace Jvm.Pilot.@@N@@
open Jvm Jvm.ClassFile Sem Op Lib Jvm.Free Jvm.Stand Jvm.Pilot.@@N@@.Jvm.D
/-! MADE BY PROGRAM (witnessworld.py) out of the Statement's table words and the real class files: 34 classes; the members and pool entries that the words name. The judged class is class 1, her method 1. -/
namespace start1
open Jvm.ClassFile
def u (s : String) : CpInfo := .utf8 (stringToUtf16 s)
/-- a pool by its gaps: so many unusable entries, then the entry; so many at the end -/
def gap : Nat → List CpInfo → List CpInfo
  | 0, r => r
  | n + 1, r => .unusable :: gap n r
def poolList (es : List (Nat × CpInfo)) (last : Nat) : List CpInfo := es.foldr (fun e r => gap e.1 (e.2 :: r)) (gap last [])
def pool (es : List (Nat × CpInfo)) (last : Nat) : Array CpInfo := ⟨poolList es last⟩
def fileOf (pool : Array CpInfo) (this : Nat) (attrs : Array Attribute := #[]) (ms : Array MethodInfo := #[]) (fl : Nat := 33) (sup : Nat := 0) (ifs : Array Nat := #[]) (fds : Array FieldInfo := #[]) : ClassFile where
  minorVersion := 0
  majorVersion := 65
  constantPool := pool
  accessFlags := fl
  thisClass := this
  superClass := sup
  interfaces := ifs
  fields := fds
  methods := ms
  attributes := attrs
def plain (name : String) (sup : Option ClassId) : Class where
  name := name
  kind := .ordinary
  loader := none
  accessFlags := 33
  super := sup
  interfaces := #[]
  cf := none
  fields := #[]
  methods := #[]
  instanceTypes := #[]
  staticTypes := #[]
  resolved := #[]
  callSites := []
  init := .initialized
  statics := none
  mirror := none

def pool0 : Array CpInfo := pool [(5, u "<init>"), (0, u "()V"), (1, .class_ 10), (1, u "java/lang/Object")] 113

def k0c0 : Code := { maxStack := 0, maxLocals := 1, code := object_method_1_code, exceptionTable := #[], attributes := #[] }
def k0m0 : Method := { name := "<init>", desc := "()V", sig := { parameters := [], returnType := none }, accessFlags := 1, code := some k0c0 }
/-- java/lang/Object -/
def k0 : Class := { plain "java/lang/Object" none with
  accessFlags := 33
  interfaces := #[]
  cf := some (fileOf pool0 8 #[] #[{ accessFlags := 1, nameIndex := 5, descriptorIndex := 6, attributes := #[] }] 33 0 #[] #[])
  fields := #[]
  methods := #[k0m0]
  instanceTypes := #[]
  staticTypes := #[]
  resolved := Array.replicate 124 none
  statics := none }

def pool1 : Array CpInfo := pool [(2, .class_ 4), (1, u "java/lang/Object"), (0, u "<init>"), (0, u "()V"), (0, .class_ 8), (0, u "java/lang/String"), (0, .methodref 7 10), (0, .nameAndType 5 11), (0, u "([C)V"), (0, .methodref 13 14), (0, .class_ 15), (0, .nameAndType 16 17), (0, u "ephemera/cli/Flags$Term"), (0, u "required"), (0, u "(Ljava/lang/String;Ljava/lang/String;)Lephemera/cli/Flags$Term;"), (0, .methodref 13 19), (0, .nameAndType 20 21), (0, u "optional"), (0, u "()Z"), (0, .methodref 13 23), (0, .nameAndType 24 25), (0, u "flags"), (0, u "()Ljava/util/List;"), (0, .interfaceMethodref 27 28), (0, .class_ 29), (0, .nameAndType 30 31), (0, u "java/util/List"), (0, u "size"), (0, u "()I"), (0, .interfaceMethodref 27 33), (0, .nameAndType 34 35), (0, u "get"), (0, u "(I)Ljava/lang/Object;"), (0, .class_ 37), (0, u "ephemera/cli/Flags$Flag"), (0, .methodref 36 39), (0, .nameAndType 40 41), (0, u "name"), (0, u "()Ljava/lang/String;"), (0, .methodref 7 43), (0, .nameAndType 44 45), (0, u "equals"), (0, u "(Ljava/lang/Object;)Z"), (0, .methodref 36 47), (0, .nameAndType 48 41), (0, u "value"), (0, .methodref 36 50), (0, .nameAndType 51 21), (0, u "isSwitch"), (0, .class_ 53), (0, u "ephemera/cli/TermRequiredPinLaw"), (2, u "law"), (0, u "(IIIII)Z")] 10

def k1m0 : Method := { name := "<init>", desc := "()V", sig := { parameters := [], returnType := none }, accessFlags := 1, code := none }
def k1c1 : Code := { maxStack := 4, maxLocals := 13, code := code, exceptionTable := #[], attributes := #[] }
def k1m1 : Method := { name := "law", desc := "(IIIII)Z", sig := { parameters := [.int, .int, .int, .int, .int], returnType := some .boolean }, accessFlags := 9, code := some k1c1 }
/-- ephemera/cli/TermRequiredPinLaw -/
def k1 : Class := { plain "ephemera/cli/TermRequiredPinLaw" (some 0) with
  accessFlags := 49
  interfaces := #[]
  cf := some (fileOf pool1 52 #[] #[{ accessFlags := 1, nameIndex := 5, descriptorIndex := 6, attributes := #[] }, { accessFlags := 9, nameIndex := 56, descriptorIndex := 57, attributes := #[] }] 49 2 #[] #[])
  fields := #[]
  methods := #[k1m0, k1m1]
  instanceTypes := #[]
  staticTypes := #[]
  resolved := Array.replicate 68 none
  statics := none }

def pool2 : Array CpInfo := pool [(1, .class_ 2), (0, u "java/io/Serializable"), (0, .class_ 4), (0, u "java/lang/Object")] 2

/-- java/io/Serializable -/
def k2 : Class := { plain "java/io/Serializable" (some 0) with
  accessFlags := 1537
  interfaces := #[]
  cf := some (fileOf pool2 1 #[] #[] 1537 3 #[] #[])
  fields := #[]
  methods := #[]
  instanceTypes := #[]
  staticTypes := #[]
  resolved := Array.replicate 7 none
  statics := none }

def pool3 : Array CpInfo := pool [(1, .class_ 2), (0, u "java/lang/Comparable"), (0, .class_ 4), (0, u "java/lang/Object")] 7

/-- java/lang/Comparable -/
def k3 : Class := { plain "java/lang/Comparable" (some 0) with
  accessFlags := 1537
  interfaces := #[]
  cf := some (fileOf pool3 1 #[] #[] 1537 3 #[] #[])
  fields := #[]
  methods := #[]
  instanceTypes := #[]
  staticTypes := #[]
  resolved := Array.replicate 12 none
  statics := none }

def pool4 : Array CpInfo := pool [(2, .class_ 4), (1, u "java/lang/CharSequence"), (42, .class_ 48), (0, u "java/lang/CharSequence$1CodePointIterator"), (10, .class_ 60), (0, u "java/lang/CharSequence$1CharIterator"), (5, .class_ 67), (0, u "java/lang/Object")] 63

/-- java/lang/CharSequence -/
def k4 : Class := { plain "java/lang/CharSequence" (some 0) with
  accessFlags := 1537
  interfaces := #[]
  cf := some (fileOf pool4 2 #[.nestMembers #[47, 59]] #[] 1537 66 #[] #[])
  fields := #[]
  methods := #[]
  instanceTypes := #[]
  staticTypes := #[]
  resolved := Array.replicate 131 none
  statics := none }

def pool5 : Array CpInfo := pool [(1, .class_ 2), (0, u "java/lang/constant/Constable"), (0, .class_ 4), (0, u "java/lang/Object")] 6

/-- java/lang/constant/Constable -/
def k5 : Class := { plain "java/lang/constant/Constable" (some 0) with
  accessFlags := 1537
  interfaces := #[]
  cf := some (fileOf pool5 1 #[] #[] 1537 3 #[] #[])
  fields := #[]
  methods := #[]
  instanceTypes := #[]
  staticTypes := #[]
  resolved := Array.replicate 11 none
  statics := none }

def pool6 : Array CpInfo := pool [(1, .class_ 2), (0, u "java/lang/constant/ConstantDesc"), (0, .class_ 4), (0, u "java/lang/Object")] 32

/-- java/lang/constant/ConstantDesc -/
def k6 : Class := { plain "java/lang/constant/ConstantDesc" (some 0) with
  accessFlags := 1537
  interfaces := #[]
  cf := some (fileOf pool6 1 #[] #[] 1537 3 #[] #[])
  fields := #[]
  methods := #[]
  instanceTypes := #[]
  staticTypes := #[]
  resolved := Array.replicate 37 none
  statics := none }

def pool7 : Array CpInfo := pool [(1, .methodref 2 3), (0, .class_ 4), (0, .nameAndType 5 6), (0, u "java/lang/Object"), (0, u "<init>"), (0, u "()V"), (0, .string 8), (0, u ""), (0, .fieldref 10 11), (0, .class_ 12), (0, .nameAndType 13 14), (0, u "java/lang/String"), (0, u "value"), (0, u "[B"), (0, .fieldref 10 16), (0, .nameAndType 17 18), (0, u "coder"), (0, u "B"), (2, u "hash"), (0, u "I"), (2, u "hashIsZero"), (0, u "Z"), (0, .methodref 10 28), (0, .nameAndType 5 29), (0, u "([CIILjava/lang/Void;)V"), (8, .fieldref 10 39), (0, .nameAndType 40 26), (0, u "COMPACT_STRINGS"), (1, .class_ 44), (1, u "java/lang/StringUTF16"), (0, u "compress"), (1, .methodref 42 48), (0, .nameAndType 49 50), (0, u "coderFromArrayLen"), (0, u "([BI)B"), (91, u "()Z"), (34, .methodref 42 178), (0, .nameAndType 45 179), (0, u "([CII)[B"), (363, u "equals"), (29, u "(Ljava/lang/Object;)Z"), (1, .class_ 576), (0, u "java/lang/CharSequence"), (22, u "CASE_INSENSITIVE_ORDER"), (0, u "Ljava/util/Comparator;"), (91, u "isEmpty"), (317, u "([C)V"), (90, u "serialPersistentFields"), (0, u "[Ljava/io/ObjectStreamField;"), (0, .class_ 1104), (0, u "java/lang/String$CaseInsensitiveComparator"), (1, .class_ 1107), (0, u "java/io/Serializable"), (0, .class_ 1109), (0, u "java/lang/Comparable"), (0, .class_ 1111), (0, u "java/lang/constant/Constable"), (0, .class_ 1113), (0, u "java/lang/constant/ConstantDesc"), (2, u "serialVersionUID"), (0, u "J"), (3, u "REPL"), (0, u "C"), (2, u "LATIN1"), (1, u "UTF16")] 323

def k7m0 : Method := { name := "<init>", desc := "()V", sig := { parameters := [], returnType := none }, accessFlags := 1, code := none }
def k7c1 : Code := { maxStack := 5, maxLocals := 2, code := jdk_42_method_3_code, exceptionTable := #[], attributes := #[] }
def k7m1 : Method := { name := "<init>", desc := "([C)V", sig := { parameters := [(.array .char)], returnType := none }, accessFlags := 1, code := some k7c1 }
def k7c2 : Code := { maxStack := 1, maxLocals := 1, code := jdk_42_method_55_code, exceptionTable := #[], attributes := #[] }
def k7m2 : Method := { name := "isEmpty", desc := "()Z", sig := { parameters := [], returnType := some .boolean }, accessFlags := 1, code := some k7c2 }
def k7c3 : Code := { maxStack := 2, maxLocals := 3, code := jdk_42_method_66_code, exceptionTable := #[], attributes := #[] }
def k7m3 : Method := { name := "equals", desc := "(Ljava/lang/Object;)Z", sig := { parameters := [(.object "java/lang/Object")], returnType := some .boolean }, accessFlags := 1, code := some k7c3 }
def k7c4 : Code := { maxStack := 4, maxLocals := 6, code := jdk_42_method_149_code, exceptionTable := #[], attributes := #[] }
def k7m4 : Method := { name := "<init>", desc := "([CIILjava/lang/Void;)V", sig := { parameters := [(.array .char), .int, .int, (.object "java/lang/Void")], returnType := none }, accessFlags := 2, code := some k7c4 }
/-- java/lang/String -/
def k7 : Class := { plain "java/lang/String" (some 0) with
  accessFlags := 49
  interfaces := #[2, 3, 4, 5, 6]
  cf := some (fileOf pool7 10 #[.nestMembers #[1103]] #[{ accessFlags := 1, nameIndex := 5, descriptorIndex := 6, attributes := #[] }, { accessFlags := 1, nameIndex := 5, descriptorIndex := 1010, attributes := #[] }, { accessFlags := 1, nameIndex := 692, descriptorIndex := 142, attributes := #[] }, { accessFlags := 1, nameIndex := 543, descriptorIndex := 573, attributes := #[] }, { accessFlags := 2, nameIndex := 5, descriptorIndex := 29, attributes := #[] }] 49 2 #[1106, 1108, 575, 1110, 1112] #[{ accessFlags := 18, nameIndex := 13, descriptorIndex := 14, attributes := #[] }, { accessFlags := 18, nameIndex := 17, descriptorIndex := 18, attributes := #[] }, { accessFlags := 2, nameIndex := 21, descriptorIndex := 22, attributes := #[] }, { accessFlags := 2, nameIndex := 25, descriptorIndex := 26, attributes := #[] }, { accessFlags := 26, nameIndex := 1116, descriptorIndex := 1117, attributes := #[] }, { accessFlags := 24, nameIndex := 40, descriptorIndex := 26, attributes := #[] }, { accessFlags := 26, nameIndex := 1101, descriptorIndex := 1102, attributes := #[] }, { accessFlags := 26, nameIndex := 1121, descriptorIndex := 1122, attributes := #[] }, { accessFlags := 25, nameIndex := 599, descriptorIndex := 600, attributes := #[] }, { accessFlags := 24, nameIndex := 1125, descriptorIndex := 18, attributes := #[] }, { accessFlags := 24, nameIndex := 1127, descriptorIndex := 18, attributes := #[] }])
  fields := #[{ name := "value", type := (.array .byte), accessFlags := 18, slot := 0, constantValue := 0 }, { name := "coder", type := .byte, accessFlags := 18, slot := 1, constantValue := 0 }, { name := "hash", type := .int, accessFlags := 2, slot := 2, constantValue := 0 }, { name := "hashIsZero", type := .boolean, accessFlags := 2, slot := 3, constantValue := 0 }, { name := "serialVersionUID", type := .long, accessFlags := 26, slot := 0, constantValue := 0 }, { name := "COMPACT_STRINGS", type := .boolean, accessFlags := 24, slot := 1, constantValue := 0 }, { name := "serialPersistentFields", type := (.array (.object "java/io/ObjectStreamField")), accessFlags := 26, slot := 2, constantValue := 0 }, { name := "REPL", type := .char, accessFlags := 26, slot := 3, constantValue := 0 }, { name := "CASE_INSENSITIVE_ORDER", type := (.object "java/util/Comparator"), accessFlags := 25, slot := 4, constantValue := 0 }, { name := "LATIN1", type := .byte, accessFlags := 24, slot := 5, constantValue := 0 }, { name := "UTF16", type := .byte, accessFlags := 24, slot := 6, constantValue := 0 }]
  methods := #[k7m0, k7m1, k7m2, k7m3, k7m4]
  instanceTypes := #[(.array .byte), .byte, .int, .boolean]
  staticTypes := #[.long, .boolean, (.array (.object "java/io/ObjectStreamField")), .char, (.object "java/util/Comparator"), .byte, .byte]
  resolved := Array.replicate 1451 none
  statics := some 0 }

def pool8 : Array CpInfo := pool [(6, .class_ 8), (1, u "java/lang/Object"), (0, u "<init>"), (0, u "()V"), (1, .class_ 14), (1, u "java/lang/StringUTF16"), (31, u "$assertionsDisabled"), (0, u "Z"), (13, u "HI_BYTE_SHIFT"), (0, u "I"), (2, u "LO_BYTE_SHIFT"), (49, .methodref 12 116), (0, .nameAndType 117 118), (0, u "compress"), (0, u "([CI[BII)I"), (3, u "([CII)[B"), (138, u "coderFromArrayLen"), (0, u "([BI)B"), (106, .class_ 371), (1, u "java/lang/StringUTF16$LinesSpliterator"), (58, u "MAX_LENGTH"), (196, .class_ 628), (0, u "java/lang/StringUTF16$CodePointsSpliterator"), (0, .class_ 630), (0, u "java/lang/StringUTF16$CharsSpliterator")] 4

def k8m0 : Method := { name := "<init>", desc := "()V", sig := { parameters := [], returnType := none }, accessFlags := 0, code := none }
def k8c1 : Code := { maxStack := 2, maxLocals := 2, code := jdk_52_method_15_code, exceptionTable := #[], attributes := #[] }
def k8m1 : Method := { name := "coderFromArrayLen", desc := "([BI)B", sig := { parameters := [(.array .byte), .int], returnType := some .byte }, accessFlags := 8, code := some k8c1 }
def k8c2 : Code := { maxStack := 5, maxLocals := 6, code := jdk_52_method_16_code, exceptionTable := #[], attributes := #[] }
def k8m2 : Method := { name := "compress", desc := "([CII)[B", sig := { parameters := [(.array .char), .int, .int], returnType := some (.array .byte) }, accessFlags := 9, code := some k8c2 }
def k8c3 : Code := { maxStack := 3, maxLocals := 7, code := jdk_52_method_21_code, exceptionTable := #[], attributes := #[] }
def k8m3 : Method := { name := "compress", desc := "([CI[BII)I", sig := { parameters := [(.array .char), .int, (.array .byte), .int, .int], returnType := some .int }, accessFlags := 9, code := some k8c3 }
/-- java/lang/StringUTF16 -/
def k8 : Class := { plain "java/lang/StringUTF16" (some 0) with
  accessFlags := 48
  interfaces := #[]
  cf := some (fileOf pool8 12 #[.nestMembers #[627, 629, 369]] #[{ accessFlags := 0, nameIndex := 9, descriptorIndex := 10, attributes := #[] }, { accessFlags := 8, nameIndex := 261, descriptorIndex := 262, attributes := #[] }, { accessFlags := 9, nameIndex := 117, descriptorIndex := 122, attributes := #[] }, { accessFlags := 9, nameIndex := 117, descriptorIndex := 118, attributes := #[] }] 48 6 #[] #[{ accessFlags := 26, nameIndex := 61, descriptorIndex := 62, attributes := #[] }, { accessFlags := 26, nameIndex := 65, descriptorIndex := 62, attributes := #[] }, { accessFlags := 24, nameIndex := 430, descriptorIndex := 62, attributes := #[] }, { accessFlags := 4120, nameIndex := 46, descriptorIndex := 47, attributes := #[] }])
  fields := #[{ name := "HI_BYTE_SHIFT", type := .int, accessFlags := 26, slot := 0, constantValue := 0 }, { name := "LO_BYTE_SHIFT", type := .int, accessFlags := 26, slot := 1, constantValue := 0 }, { name := "MAX_LENGTH", type := .int, accessFlags := 24, slot := 2, constantValue := 0 }, { name := "$assertionsDisabled", type := .boolean, accessFlags := 4120, slot := 3, constantValue := 0 }]
  methods := #[k8m0, k8m1, k8m2, k8m3]
  instanceTypes := #[]
  staticTypes := #[.int, .int, .int, .boolean]
  resolved := Array.replicate 635 none
  statics := none }

def pool9 : Array CpInfo := pool [(1, .methodref 2 3), (0, .class_ 4), (0, .nameAndType 5 6), (0, u "java/lang/Object"), (0, u "<init>"), (0, u "()V"), (0, .class_ 8), (0, u "java/lang/Record")] 13

def k9c0 : Code := { maxStack := 1, maxLocals := 1, code := jdk_30_method_1_code, exceptionTable := #[], attributes := #[] }
def k9m0 : Method := { name := "<init>", desc := "()V", sig := { parameters := [], returnType := none }, accessFlags := 4, code := some k9c0 }
/-- java/lang/Record -/
def k9 : Class := { plain "java/lang/Record" (some 0) with
  accessFlags := 1057
  interfaces := #[]
  cf := some (fileOf pool9 7 #[] #[{ accessFlags := 4, nameIndex := 5, descriptorIndex := 6, attributes := #[] }] 1057 2 #[] #[])
  fields := #[]
  methods := #[k9m0]
  instanceTypes := #[]
  staticTypes := #[]
  resolved := Array.replicate 22 none
  statics := none }

def pool10 : Array CpInfo := pool [(1, .methodref 2 3), (0, .class_ 4), (0, .nameAndType 5 6), (0, u "java/lang/Record"), (0, u "<init>"), (0, u "()V"), (0, .fieldref 8 9), (0, .class_ 10), (0, .nameAndType 11 12), (0, u "ephemera/cli/Flags$Term"), (0, u "flags"), (0, u "Ljava/util/List;"), (0, .fieldref 8 14), (0, .nameAndType 15 16), (0, u "optional"), (0, u "Z"), (0, .class_ 18), (0, u "ephemera/cli/Flags$Flag"), (0, .methodref 17 20), (0, .nameAndType 5 21), (0, u "(Ljava/lang/String;Ljava/lang/String;)V"), (0, .interfaceMethodref 23 24), (0, .class_ 25), (0, .nameAndType 26 27), (0, u "java/util/List"), (0, u "of"), (0, u "(Ljava/lang/Object;)Ljava/util/List;"), (0, .methodref 8 29), (0, .nameAndType 5 30), (0, u "(Ljava/util/List;Z)V"), (23, u "()Ljava/util/List;"), (11, u "()Z"), (62, u "required"), (0, u "(Ljava/lang/String;Ljava/lang/String;)Lephemera/cli/Flags$Term;"), (13, .class_ 145), (0, u "ephemera/cli/Flags")] 57

def k10c0 : Code := { maxStack := 2, maxLocals := 3, code := prog_4_method_1_code, exceptionTable := #[], attributes := #[] }
def k10m0 : Method := { name := "<init>", desc := "(Ljava/util/List;Z)V", sig := { parameters := [(.object "java/util/List"), .boolean], returnType := none }, accessFlags := 1, code := some k10c0 }
def k10c1 : Code := { maxStack := 6, maxLocals := 2, code := prog_4_method_2_code, exceptionTable := #[], attributes := #[] }
def k10m1 : Method := { name := "required", desc := "(Ljava/lang/String;Ljava/lang/String;)Lephemera/cli/Flags$Term;", sig := { parameters := [(.object "java/lang/String"), (.object "java/lang/String")], returnType := some (.object "ephemera/cli/Flags$Term") }, accessFlags := 9, code := some k10c1 }
def k10c2 : Code := { maxStack := 1, maxLocals := 1, code := prog_4_method_9_code, exceptionTable := #[], attributes := #[] }
def k10m2 : Method := { name := "flags", desc := "()Ljava/util/List;", sig := { parameters := [], returnType := some (.object "java/util/List") }, accessFlags := 1, code := some k10c2 }
def k10c3 : Code := { maxStack := 1, maxLocals := 1, code := prog_4_method_10_code, exceptionTable := #[], attributes := #[] }
def k10m3 : Method := { name := "optional", desc := "()Z", sig := { parameters := [], returnType := some .boolean }, accessFlags := 1, code := some k10c3 }
/-- ephemera/cli/Flags$Term -/
def k10 : Class := { plain "ephemera/cli/Flags$Term" (some 9) with
  accessFlags := 49
  interfaces := #[]
  cf := some (fileOf pool10 8 #[.nestHost 144] #[{ accessFlags := 1, nameIndex := 5, descriptorIndex := 30, attributes := #[] }, { accessFlags := 9, nameIndex := 129, descriptorIndex := 130, attributes := #[] }, { accessFlags := 1, nameIndex := 11, descriptorIndex := 54, attributes := #[] }, { accessFlags := 1, nameIndex := 15, descriptorIndex := 66, attributes := #[] }] 49 2 #[] #[{ accessFlags := 18, nameIndex := 11, descriptorIndex := 12, attributes := #[] }, { accessFlags := 18, nameIndex := 15, descriptorIndex := 16, attributes := #[] }])
  fields := #[{ name := "flags", type := (.object "java/util/List"), accessFlags := 18, slot := 0, constantValue := 0 }, { name := "optional", type := .boolean, accessFlags := 18, slot := 1, constantValue := 0 }]
  methods := #[k10m0, k10m1, k10m2, k10m3]
  instanceTypes := #[(.object "java/util/List"), .boolean]
  staticTypes := #[]
  resolved := Array.replicate 203 none
  statics := none }

def pool11 : Array CpInfo := pool [(1, .methodref 2 3), (0, .class_ 4), (0, .nameAndType 5 6), (0, u "java/lang/Record"), (0, u "<init>"), (0, u "()V"), (0, .fieldref 8 9), (0, .class_ 10), (0, .nameAndType 11 12), (0, u "ephemera/cli/Flags$Flag"), (0, u "name"), (0, u "Ljava/lang/String;"), (0, .fieldref 8 14), (0, .nameAndType 15 12), (0, u "value"), (4, u "(Ljava/lang/String;Ljava/lang/String;)V"), (0, .methodref 22 23), (0, .class_ 24), (0, .nameAndType 25 26), (0, u "java/lang/String"), (0, u "isEmpty"), (0, u "()Z"), (2, u "isSwitch"), (18, u "()Ljava/lang/String;"), (6, .class_ 56), (0, u "ephemera/cli/Flags")] 28

def k11c0 : Code := { maxStack := 2, maxLocals := 3, code := prog_3_method_1_code, exceptionTable := #[], attributes := #[] }
def k11m0 : Method := { name := "<init>", desc := "(Ljava/lang/String;Ljava/lang/String;)V", sig := { parameters := [(.object "java/lang/String"), (.object "java/lang/String")], returnType := none }, accessFlags := 1, code := some k11c0 }
def k11c1 : Code := { maxStack := 1, maxLocals := 1, code := prog_3_method_3_code, exceptionTable := #[], attributes := #[] }
def k11m1 : Method := { name := "isSwitch", desc := "()Z", sig := { parameters := [], returnType := some .boolean }, accessFlags := 0, code := some k11c1 }
def k11c2 : Code := { maxStack := 1, maxLocals := 1, code := prog_3_method_7_code, exceptionTable := #[], attributes := #[] }
def k11m2 : Method := { name := "name", desc := "()Ljava/lang/String;", sig := { parameters := [], returnType := some (.object "java/lang/String") }, accessFlags := 1, code := some k11c2 }
def k11c3 : Code := { maxStack := 1, maxLocals := 1, code := prog_3_method_8_code, exceptionTable := #[], attributes := #[] }
def k11m3 : Method := { name := "value", desc := "()Ljava/lang/String;", sig := { parameters := [], returnType := some (.object "java/lang/String") }, accessFlags := 1, code := some k11c3 }
/-- ephemera/cli/Flags$Flag -/
def k11 : Class := { plain "ephemera/cli/Flags$Flag" (some 9) with
  accessFlags := 49
  interfaces := #[]
  cf := some (fileOf pool11 8 #[.nestHost 55] #[{ accessFlags := 1, nameIndex := 5, descriptorIndex := 20, attributes := #[] }, { accessFlags := 0, nameIndex := 29, descriptorIndex := 26, attributes := #[] }, { accessFlags := 1, nameIndex := 11, descriptorIndex := 48, attributes := #[] }, { accessFlags := 1, nameIndex := 15, descriptorIndex := 48, attributes := #[] }] 49 2 #[] #[{ accessFlags := 18, nameIndex := 11, descriptorIndex := 12, attributes := #[] }, { accessFlags := 18, nameIndex := 15, descriptorIndex := 12, attributes := #[] }])
  fields := #[{ name := "name", type := (.object "java/lang/String"), accessFlags := 18, slot := 0, constantValue := 0 }, { name := "value", type := (.object "java/lang/String"), accessFlags := 18, slot := 1, constantValue := 0 }]
  methods := #[k11m0, k11m1, k11m2, k11m3]
  instanceTypes := #[(.object "java/lang/String"), (.object "java/lang/String")]
  staticTypes := #[]
  resolved := Array.replicate 85 none
  statics := none }

def pool12 : Array CpInfo := pool [(8, .class_ 10), (1, u "java/lang/Iterable"), (24, .class_ 36), (0, u "java/lang/Object")] 25

/-- java/lang/Iterable -/
def k12 : Class := { plain "java/lang/Iterable" (some 0) with
  accessFlags := 1537
  interfaces := #[]
  cf := some (fileOf pool12 8 #[] #[] 1537 35 #[] #[])
  fields := #[]
  methods := #[]
  instanceTypes := #[]
  staticTypes := #[]
  resolved := Array.replicate 62 none
  statics := none }

def pool13 : Array CpInfo := pool [(10, .class_ 12), (1, u "java/util/Collection"), (47, .class_ 61), (0, u "java/lang/Object"), (0, .class_ 63), (0, u "java/lang/Iterable")] 51

/-- java/util/Collection -/
def k13 : Class := { plain "java/util/Collection" (some 0) with
  accessFlags := 1537
  interfaces := #[12]
  cf := some (fileOf pool13 10 #[] #[] 1537 60 #[62] #[])
  fields := #[]
  methods := #[]
  instanceTypes := #[]
  staticTypes := #[]
  resolved := Array.replicate 115 none
  statics := none }

def pool14 : Array CpInfo := pool [(8, .class_ 10), (1, u "java/util/SequencedCollection"), (15, .class_ 27), (0, u "java/lang/Object"), (0, .class_ 29), (0, u "java/util/Collection")] 27

/-- java/util/SequencedCollection -/
def k14 : Class := { plain "java/util/SequencedCollection" (some 0) with
  accessFlags := 1537
  interfaces := #[13]
  cf := some (fileOf pool14 8 #[] #[] 1537 26 #[28] #[])
  fields := #[]
  methods := #[]
  instanceTypes := #[]
  staticTypes := #[]
  resolved := Array.replicate 57 none
  statics := none }

def pool15 : Array CpInfo := pool [(8, .class_ 10), (1, u "java/util/List"), (20, u "(Ljava/lang/Object;)V"), (16, u "<init>"), (26, u "get"), (0, u "(I)Ljava/lang/Object;"), (2, u "size"), (0, u "()I"), (7, u "of"), (7, .class_ 97), (0, u "java/util/ImmutableCollections$List12"), (0, .methodref 96 99), (0, .nameAndType 48 31), (3, .class_ 104), (0, u "java/lang/Object"), (15, .class_ 121), (0, u "java/util/SequencedCollection"), (76, u "(Ljava/lang/Object;)Ljava/util/List;")] 52

def k15m0 : Method := { name := "size", desc := "()I", sig := { parameters := [], returnType := some .int }, accessFlags := 1025, code := none }
def k15m1 : Method := { name := "get", desc := "(I)Ljava/lang/Object;", sig := { parameters := [.int], returnType := some (.object "java/lang/Object") }, accessFlags := 1025, code := none }
def k15c2 : Code := { maxStack := 3, maxLocals := 1, code := jdk_40_method_37_code, exceptionTable := #[], attributes := #[] }
def k15m2 : Method := { name := "of", desc := "(Ljava/lang/Object;)Ljava/util/List;", sig := { parameters := [(.object "java/lang/Object")], returnType := some (.object "java/util/List") }, accessFlags := 9, code := some k15c2 }
/-- java/util/List -/
def k15 : Class := { plain "java/util/List" (some 0) with
  accessFlags := 1537
  interfaces := #[14]
  cf := some (fileOf pool15 8 #[] #[{ accessFlags := 1025, nameIndex := 79, descriptorIndex := 80, attributes := #[] }, { accessFlags := 1025, nameIndex := 75, descriptorIndex := 76, attributes := #[] }, { accessFlags := 9, nameIndex := 88, descriptorIndex := 198, attributes := #[] }] 1537 103 #[120] #[])
  fields := #[]
  methods := #[k15m0, k15m1, k15m2]
  instanceTypes := #[]
  staticTypes := #[]
  resolved := Array.replicate 251 none
  statics := none }

def pool16 : Array CpInfo := pool [(1, .methodref 2 3), (0, .class_ 4), (0, .nameAndType 5 6), (0, u "java/lang/Object"), (0, u "<init>"), (0, u "()V"), (1, .class_ 10), (1, u "java/util/AbstractCollection"), (66, .class_ 78), (0, u "java/util/Collection")] 81

def k16c0 : Code := { maxStack := 1, maxLocals := 1, code := jdk_22_method_1_code, exceptionTable := #[], attributes := #[] }
def k16m0 : Method := { name := "<init>", desc := "()V", sig := { parameters := [], returnType := none }, accessFlags := 4, code := some k16c0 }
/-- java/util/AbstractCollection -/
def k16 : Class := { plain "java/util/AbstractCollection" (some 0) with
  accessFlags := 1057
  interfaces := #[13]
  cf := some (fileOf pool16 8 #[] #[{ accessFlags := 4, nameIndex := 5, descriptorIndex := 6, attributes := #[] }] 1057 2 #[77] #[])
  fields := #[]
  methods := #[k16m0]
  instanceTypes := #[]
  staticTypes := #[]
  resolved := Array.replicate 160 none
  statics := none }

def pool17 : Array CpInfo := pool [(1, .methodref 2 3), (0, .class_ 4), (0, .nameAndType 5 6), (0, u "java/util/AbstractCollection"), (0, u "<init>"), (0, u "()V"), (1, .class_ 10), (1, u "java/util/ImmutableCollections"), (2, .class_ 14), (0, u "java/util/ImmutableCollections$AbstractImmutableCollection")] 41

def k17c0 : Code := { maxStack := 1, maxLocals := 1, code := jdk_47_method_1_code, exceptionTable := #[], attributes := #[] }
def k17m0 : Method := { name := "<init>", desc := "()V", sig := { parameters := [], returnType := none }, accessFlags := 0, code := some k17c0 }
/-- java/util/ImmutableCollections$AbstractImmutableCollection -/
def k17 : Class := { plain "java/util/ImmutableCollections$AbstractImmutableCollection" (some 16) with
  accessFlags := 1056
  interfaces := #[]
  cf := some (fileOf pool17 13 #[.nestHost 8] #[{ accessFlags := 0, nameIndex := 5, descriptorIndex := 6, attributes := #[] }] 1056 2 #[] #[])
  fields := #[]
  methods := #[k17m0]
  instanceTypes := #[]
  staticTypes := #[]
  resolved := Array.replicate 56 none
  statics := none }

def pool18 : Array CpInfo := pool [(1, .class_ 2), (0, u "java/util/RandomAccess"), (0, .class_ 4), (0, u "java/lang/Object")] 2

/-- java/util/RandomAccess -/
def k18 : Class := { plain "java/util/RandomAccess" (some 0) with
  accessFlags := 1537
  interfaces := #[]
  cf := some (fileOf pool18 1 #[] #[] 1537 3 #[] #[])
  fields := #[]
  methods := #[]
  instanceTypes := #[]
  staticTypes := #[]
  resolved := Array.replicate 7 none
  statics := none }

def pool19 : Array CpInfo := pool [(1, .methodref 2 3), (0, .class_ 4), (0, .nameAndType 5 6), (0, u "java/util/ImmutableCollections$AbstractImmutableCollection"), (0, u "<init>"), (0, u "()V"), (1, .class_ 10), (1, u "java/util/ImmutableCollections"), (3, .class_ 16), (1, u "java/util/ImmutableCollections$AbstractImmutableList"), (60, .class_ 78), (0, u "java/util/List"), (45, .class_ 125), (0, u "java/util/RandomAccess")] 70

def k19c0 : Code := { maxStack := 1, maxLocals := 1, code := jdk_46_method_1_code, exceptionTable := #[], attributes := #[] }
def k19m0 : Method := { name := "<init>", desc := "()V", sig := { parameters := [], returnType := none }, accessFlags := 0, code := some k19c0 }
/-- java/util/ImmutableCollections$AbstractImmutableList -/
def k19 : Class := { plain "java/util/ImmutableCollections$AbstractImmutableList" (some 17) with
  accessFlags := 1056
  interfaces := #[15, 18]
  cf := some (fileOf pool19 14 #[.nestHost 8] #[{ accessFlags := 0, nameIndex := 5, descriptorIndex := 6, attributes := #[] }] 1056 2 #[77, 124] #[])
  fields := #[]
  methods := #[k19m0]
  instanceTypes := #[]
  staticTypes := #[]
  resolved := Array.replicate 196 none
  statics := none }

def pool20 : Array CpInfo := pool [(1, .methodref 2 3), (0, .class_ 4), (0, .nameAndType 5 6), (0, u "java/util/ImmutableCollections$AbstractImmutableList"), (0, u "<init>"), (0, u "()V"), (0, .methodref 8 9), (0, .class_ 10), (0, .nameAndType 11 12), (0, u "java/util/Objects"), (0, u "requireNonNull"), (0, u "(Ljava/lang/Object;)Ljava/lang/Object;"), (0, .fieldref 14 15), (0, .class_ 16), (0, .nameAndType 17 18), (0, u "java/util/ImmutableCollections$List12"), (0, u "e0"), (0, u "Ljava/lang/Object;"), (0, .fieldref 20 21), (0, .class_ 22), (0, .nameAndType 23 18), (0, u "java/util/ImmutableCollections"), (0, u "EMPTY"), (0, .fieldref 14 25), (0, .nameAndType 26 18), (0, u "e1"), (24, u "size"), (0, u "()I"), (17, .class_ 71), (0, u "java/io/Serializable"), (4, u "(Ljava/lang/Object;)V"), (13, u "get"), (0, u "(I)Ljava/lang/Object;")] 33

def k20c0 : Code := { maxStack := 2, maxLocals := 2, code := jdk_44_method_1_code, exceptionTable := #[], attributes := #[] }
def k20m0 : Method := { name := "<init>", desc := "(Ljava/lang/Object;)V", sig := { parameters := [(.object "java/lang/Object")], returnType := none }, accessFlags := 0, code := some k20c0 }
def k20c1 : Code := { maxStack := 2, maxLocals := 1, code := jdk_44_method_3_code, exceptionTable := #[], attributes := #[] }
def k20m1 : Method := { name := "size", desc := "()I", sig := { parameters := [], returnType := some .int }, accessFlags := 1, code := some k20c1 }
def k20c2 : Code := { maxStack := 2, maxLocals := 2, code := jdk_44_method_5_code, exceptionTable := #[], attributes := #[] }
def k20m2 : Method := { name := "get", desc := "(I)Ljava/lang/Object;", sig := { parameters := [.int], returnType := some (.object "java/lang/Object") }, accessFlags := 1, code := some k20c2 }
/-- java/util/ImmutableCollections$List12 -/
def k20 : Class := { plain "java/util/ImmutableCollections$List12" (some 19) with
  accessFlags := 48
  interfaces := #[2]
  cf := some (fileOf pool20 14 #[.nestHost 20] #[{ accessFlags := 0, nameIndex := 5, descriptorIndex := 76, attributes := #[] }, { accessFlags := 1, nameIndex := 51, descriptorIndex := 52, attributes := #[] }, { accessFlags := 1, nameIndex := 90, descriptorIndex := 91, attributes := #[] }] 48 2 #[70] #[{ accessFlags := 18, nameIndex := 17, descriptorIndex := 18, attributes := #[] }, { accessFlags := 18, nameIndex := 26, descriptorIndex := 18, attributes := #[] }])
  fields := #[{ name := "e0", type := (.object "java/lang/Object"), accessFlags := 18, slot := 0, constantValue := 0 }, { name := "e1", type := (.object "java/lang/Object"), accessFlags := 18, slot := 1, constantValue := 0 }]
  methods := #[k20m0, k20m1, k20m2]
  instanceTypes := #[(.object "java/lang/Object"), (.object "java/lang/Object")]
  staticTypes := #[]
  resolved := Array.replicate 125 none
  statics := none }

def pool21 : Array CpInfo := pool [(2, .class_ 4), (1, u "java/lang/Object"), (0, u "<init>"), (0, u "()V"), (35, .class_ 44), (1, u "java/util/Objects"), (0, u "requireNonNull"), (0, u "(Ljava/lang/Object;)Ljava/lang/Object;")] 137

def k21m0 : Method := { name := "<init>", desc := "()V", sig := { parameters := [], returnType := none }, accessFlags := 2, code := none }
def k21c1 : Code := { maxStack := 2, maxLocals := 1, code := jdk_31_method_10_code, exceptionTable := #[], attributes := #[] }
def k21m1 : Method := { name := "requireNonNull", desc := "(Ljava/lang/Object;)Ljava/lang/Object;", sig := { parameters := [(.object "java/lang/Object")], returnType := some (.object "java/lang/Object") }, accessFlags := 9, code := some k21c1 }
/-- java/util/Objects -/
def k21 : Class := { plain "java/util/Objects" (some 0) with
  accessFlags := 49
  interfaces := #[]
  cf := some (fileOf pool21 42 #[] #[{ accessFlags := 2, nameIndex := 5, descriptorIndex := 6, attributes := #[] }, { accessFlags := 9, nameIndex := 45, descriptorIndex := 46, attributes := #[] }] 49 2 #[] #[])
  fields := #[]
  methods := #[k21m0, k21m1]
  instanceTypes := #[]
  staticTypes := #[]
  resolved := Array.replicate 184 none
  statics := none }

def pool22 : Array CpInfo := pool [(2, .class_ 4), (1, u "java/lang/Object"), (0, u "<init>"), (0, u "()V"), (3, .class_ 11), (0, u "java/util/ImmutableCollections$List12"), (0, .class_ 13), (0, u "java/util/ImmutableCollections$ListN"), (3, u "Z"), (29, .class_ 49), (1, u "java/util/ImmutableCollections"), (0, u "$assertionsDisabled"), (5, u "[Ljava/lang/Object;"), (5, u "EMPTY_LIST"), (0, u "Ljava/util/ImmutableCollections$ListN;"), (8, u "EMPTY_LIST_NULLS"), (22, u "SALT32L"), (0, u "J"), (2, u "REVERSE"), (6, u "archivedObjects"), (2, u "EMPTY"), (0, u "Ljava/lang/Object;"), (0, .class_ 112), (0, u "java/util/ImmutableCollections$SetN"), (5, u "EMPTY_SET"), (0, u "Ljava/util/ImmutableCollections$SetN;"), (0, .class_ 121), (0, u "java/util/ImmutableCollections$MapN"), (3, u "EMPTY_MAP"), (0, u "Ljava/util/ImmutableCollections$MapN;"), (4, u "EXPAND_FACTOR"), (0, u "I"), (36, .class_ 170), (0, u "java/util/ImmutableCollections$MapN$MapNIterator"), (0, .class_ 172), (0, u "java/util/ImmutableCollections$MapN$1"), (0, .class_ 174), (0, u "java/util/ImmutableCollections$Map1"), (0, .class_ 176), (0, u "java/util/ImmutableCollections$AbstractImmutableMap"), (0, .class_ 178), (0, u "java/util/ImmutableCollections$SetN$SetNIterator"), (0, .class_ 180), (0, u "java/util/ImmutableCollections$Set12"), (0, .class_ 182), (0, u "java/util/ImmutableCollections$Set12$1"), (0, .class_ 184), (0, u "java/util/ImmutableCollections$AbstractImmutableSet"), (0, .class_ 186), (0, u "java/util/ImmutableCollections$SubList"), (0, .class_ 188), (0, u "java/util/ImmutableCollections$ListItr"), (0, .class_ 190), (0, u "java/util/ImmutableCollections$AbstractImmutableList"), (0, .class_ 192), (0, u "java/util/ImmutableCollections$AbstractImmutableCollection"), (0, .class_ 194), (0, u "java/util/ImmutableCollections$Access"), (0, .class_ 196), (0, u "java/util/ImmutableCollections$Access$1")] 16

def k22m0 : Method := { name := "<init>", desc := "()V", sig := { parameters := [], returnType := none }, accessFlags := 2, code := none }
/-- java/util/ImmutableCollections -/
def k22 : Class := { plain "java/util/ImmutableCollections" (some 0) with
  accessFlags := 32
  interfaces := #[]
  cf := some (fileOf pool22 47 #[.nestMembers #[120, 169, 171, 173, 175, 111, 177, 179, 181, 183, 12, 10, 185, 187, 189, 191, 193, 195]] #[{ accessFlags := 2, nameIndex := 5, descriptorIndex := 6, attributes := #[] }] 32 2 #[] #[{ accessFlags := 26, nameIndex := 95, descriptorIndex := 96, attributes := #[] }, { accessFlags := 26, nameIndex := 99, descriptorIndex := 17, attributes := #[] }, { accessFlags := 10, nameIndex := 106, descriptorIndex := 56, attributes := #[] }, { accessFlags := 26, nameIndex := 109, descriptorIndex := 110, attributes := #[] }, { accessFlags := 24, nameIndex := 62, descriptorIndex := 63, attributes := #[] }, { accessFlags := 24, nameIndex := 72, descriptorIndex := 63, attributes := #[] }, { accessFlags := 24, nameIndex := 118, descriptorIndex := 119, attributes := #[] }, { accessFlags := 24, nameIndex := 125, descriptorIndex := 126, attributes := #[] }, { accessFlags := 24, nameIndex := 131, descriptorIndex := 132, attributes := #[] }, { accessFlags := 4120, nameIndex := 50, descriptorIndex := 17, attributes := #[] }])
  fields := #[{ name := "SALT32L", type := .long, accessFlags := 26, slot := 0, constantValue := 0 }, { name := "REVERSE", type := .boolean, accessFlags := 26, slot := 1, constantValue := 0 }, { name := "archivedObjects", type := (.array (.object "java/lang/Object")), accessFlags := 10, slot := 2, constantValue := 0 }, { name := "EMPTY", type := (.object "java/lang/Object"), accessFlags := 26, slot := 3, constantValue := 0 }, { name := "EMPTY_LIST", type := (.object "java/util/ImmutableCollections$ListN"), accessFlags := 24, slot := 4, constantValue := 0 }, { name := "EMPTY_LIST_NULLS", type := (.object "java/util/ImmutableCollections$ListN"), accessFlags := 24, slot := 5, constantValue := 0 }, { name := "EMPTY_SET", type := (.object "java/util/ImmutableCollections$SetN"), accessFlags := 24, slot := 6, constantValue := 0 }, { name := "EMPTY_MAP", type := (.object "java/util/ImmutableCollections$MapN"), accessFlags := 24, slot := 7, constantValue := 0 }, { name := "EXPAND_FACTOR", type := .int, accessFlags := 24, slot := 8, constantValue := 0 }, { name := "$assertionsDisabled", type := .boolean, accessFlags := 4120, slot := 9, constantValue := 0 }]
  methods := #[k22m0]
  instanceTypes := #[]
  staticTypes := #[.long, .boolean, (.array (.object "java/lang/Object")), (.object "java/lang/Object"), (.object "java/util/ImmutableCollections$ListN"), (.object "java/util/ImmutableCollections$ListN"), (.object "java/util/ImmutableCollections$SetN"), (.object "java/util/ImmutableCollections$MapN"), .int, .boolean]
  resolved := Array.replicate 213 none
  statics := some 1 }

def pool23 : Array CpInfo := pool [(4, .class_ 6), (1, u "java/lang/Object"), (0, u "<init>"), (0, u "()V"), (5, .class_ 16), (1, u "java/lang/StringLatin1"), (104, u "$assertionsDisabled"), (0, u "Z"), (98, .class_ 223), (1, u "java/lang/StringLatin1$LinesSpliterator"), (166, .class_ 391), (0, u "java/lang/StringLatin1$CharsSpliterator")] 3

def k23m0 : Method := { name := "<init>", desc := "()V", sig := { parameters := [], returnType := none }, accessFlags := 0, code := none }
/-- java/lang/StringLatin1 -/
def k23 : Class := { plain "java/lang/StringLatin1" (some 0) with
  accessFlags := 48
  interfaces := #[]
  cf := some (fileOf pool23 14 #[.nestMembers #[390, 221]] #[{ accessFlags := 0, nameIndex := 7, descriptorIndex := 8, attributes := #[] }] 48 4 #[] #[{ accessFlags := 4120, nameIndex := 121, descriptorIndex := 122, attributes := #[] }])
  fields := #[{ name := "$assertionsDisabled", type := .boolean, accessFlags := 4120, slot := 0, constantValue := 0 }]
  methods := #[k23m0]
  instanceTypes := #[]
  staticTypes := #[.boolean]
  resolved := Array.replicate 395 none
  statics := none }

def pool24 : Array CpInfo := pool [(2, .class_ 4), (1, u "java/lang/Object"), (0, u "<init>"), (0, u "()V"), (17, .class_ 26), (1, u "jdk/internal/util/Preconditions"), (28, .class_ 56), (0, u "jdk/internal/util/Preconditions$4"), (57, .class_ 115), (0, u "jdk/internal/util/Preconditions$1"), (7, u "SIOOBE_FORMATTER"), (0, u "Ljava/util/function/BiFunction;"), (0, .class_ 126), (0, u "jdk/internal/util/Preconditions$2"), (3, u "AIOOBE_FORMATTER"), (0, .class_ 132), (0, u "jdk/internal/util/Preconditions$3"), (3, u "IOOBE_FORMATTER")] 57

def k24m0 : Method := { name := "<init>", desc := "()V", sig := { parameters := [], returnType := none }, accessFlags := 1, code := none }
/-- jdk/internal/util/Preconditions -/
def k24 : Class := { plain "jdk/internal/util/Preconditions" (some 0) with
  accessFlags := 33
  interfaces := #[]
  cf := some (fileOf pool24 24 #[.nestMembers #[55, 131, 125, 114]] #[{ accessFlags := 1, nameIndex := 5, descriptorIndex := 6, attributes := #[] }] 33 2 #[] #[{ accessFlags := 25, nameIndex := 123, descriptorIndex := 124, attributes := #[] }, { accessFlags := 25, nameIndex := 130, descriptorIndex := 124, attributes := #[] }, { accessFlags := 25, nameIndex := 136, descriptorIndex := 124, attributes := #[] }])
  fields := #[{ name := "SIOOBE_FORMATTER", type := (.object "java/util/function/BiFunction"), accessFlags := 25, slot := 0, constantValue := 0 }, { name := "AIOOBE_FORMATTER", type := (.object "java/util/function/BiFunction"), accessFlags := 25, slot := 1, constantValue := 0 }, { name := "IOOBE_FORMATTER", type := (.object "java/util/function/BiFunction"), accessFlags := 25, slot := 2, constantValue := 0 }]
  methods := #[k24m0]
  instanceTypes := #[]
  staticTypes := #[(.object "java/util/function/BiFunction"), (.object "java/util/function/BiFunction"), (.object "java/util/function/BiFunction")]
  resolved := Array.replicate 194 none
  statics := some 2 }

def pool25 : Array CpInfo := pool [(9, u "<init>"), (6, .class_ 18), (1, u "java/lang/Object"), (0, u "()V"), (1, .class_ 23), (1, u "jdk/internal/util/ArraysSupport"), (0, u "LOG2_ARRAY_LONG_INDEX_SCALE"), (0, u "I"), (2, u "U"), (0, u "Ljdk/internal/misc/Unsafe;"), (8, u "BIG_ENDIAN"), (0, u "Z"), (8, u "LOG2_BYTE_BIT_SIZE"), (4, u "LOG2_ARRAY_INT_INDEX_SCALE"), (54, u "JLA"), (0, u "Ljdk/internal/access/JavaLangAccess;"), (11, u "LOG2_ARRAY_BOOLEAN_INDEX_SCALE"), (9, u "LOG2_ARRAY_BYTE_INDEX_SCALE"), (5, u "LOG2_ARRAY_CHAR_INDEX_SCALE"), (5, u "LOG2_ARRAY_SHORT_INDEX_SCALE"), (18, u "LOG2_ARRAY_FLOAT_INDEX_SCALE"), (24, u "LOG2_ARRAY_DOUBLE_INDEX_SCALE"), (89, u "T_BOOLEAN"), (2, u "T_CHAR"), (1, u "T_FLOAT"), (1, u "T_DOUBLE"), (1, u "T_BYTE"), (1, u "T_SHORT"), (1, u "T_INT"), (1, u "T_LONG"), (1, u "SOFT_MAX_ARRAY_LENGTH")] 83

def k25m0 : Method := { name := "<init>", desc := "()V", sig := { parameters := [], returnType := none }, accessFlags := 2, code := none }
/-- jdk/internal/util/ArraysSupport -/
def k25 : Class := { plain "jdk/internal/util/ArraysSupport" (some 0) with
  accessFlags := 33
  interfaces := #[]
  cf := some (fileOf pool25 21 #[] #[{ accessFlags := 2, nameIndex := 9, descriptorIndex := 19, attributes := #[] }] 33 16 #[] #[{ accessFlags := 24, nameIndex := 28, descriptorIndex := 29, attributes := #[] }, { accessFlags := 26, nameIndex := 38, descriptorIndex := 39, attributes := #[] }, { accessFlags := 25, nameIndex := 121, descriptorIndex := 25, attributes := #[] }, { accessFlags := 25, nameIndex := 131, descriptorIndex := 25, attributes := #[] }, { accessFlags := 25, nameIndex := 137, descriptorIndex := 25, attributes := #[] }, { accessFlags := 25, nameIndex := 143, descriptorIndex := 25, attributes := #[] }, { accessFlags := 25, nameIndex := 53, descriptorIndex := 25, attributes := #[] }, { accessFlags := 25, nameIndex := 24, descriptorIndex := 25, attributes := #[] }, { accessFlags := 25, nameIndex := 162, descriptorIndex := 25, attributes := #[] }, { accessFlags := 25, nameIndex := 187, descriptorIndex := 25, attributes := #[] }, { accessFlags := 26, nameIndex := 48, descriptorIndex := 25, attributes := #[] }, { accessFlags := 25, nameIndex := 277, descriptorIndex := 25, attributes := #[] }, { accessFlags := 25, nameIndex := 280, descriptorIndex := 25, attributes := #[] }, { accessFlags := 25, nameIndex := 282, descriptorIndex := 25, attributes := #[] }, { accessFlags := 25, nameIndex := 284, descriptorIndex := 25, attributes := #[] }, { accessFlags := 25, nameIndex := 286, descriptorIndex := 25, attributes := #[] }, { accessFlags := 25, nameIndex := 288, descriptorIndex := 25, attributes := #[] }, { accessFlags := 25, nameIndex := 290, descriptorIndex := 25, attributes := #[] }, { accessFlags := 25, nameIndex := 292, descriptorIndex := 25, attributes := #[] }, { accessFlags := 26, nameIndex := 108, descriptorIndex := 109, attributes := #[] }, { accessFlags := 25, nameIndex := 294, descriptorIndex := 25, attributes := #[] }])
  fields := #[{ name := "U", type := (.object "jdk/internal/misc/Unsafe"), accessFlags := 24, slot := 0, constantValue := 0 }, { name := "BIG_ENDIAN", type := .boolean, accessFlags := 26, slot := 1, constantValue := 0 }, { name := "LOG2_ARRAY_BOOLEAN_INDEX_SCALE", type := .int, accessFlags := 25, slot := 2, constantValue := 0 }, { name := "LOG2_ARRAY_BYTE_INDEX_SCALE", type := .int, accessFlags := 25, slot := 3, constantValue := 0 }, { name := "LOG2_ARRAY_CHAR_INDEX_SCALE", type := .int, accessFlags := 25, slot := 4, constantValue := 0 }, { name := "LOG2_ARRAY_SHORT_INDEX_SCALE", type := .int, accessFlags := 25, slot := 5, constantValue := 0 }, { name := "LOG2_ARRAY_INT_INDEX_SCALE", type := .int, accessFlags := 25, slot := 6, constantValue := 0 }, { name := "LOG2_ARRAY_LONG_INDEX_SCALE", type := .int, accessFlags := 25, slot := 7, constantValue := 0 }, { name := "LOG2_ARRAY_FLOAT_INDEX_SCALE", type := .int, accessFlags := 25, slot := 8, constantValue := 0 }, { name := "LOG2_ARRAY_DOUBLE_INDEX_SCALE", type := .int, accessFlags := 25, slot := 9, constantValue := 0 }, { name := "LOG2_BYTE_BIT_SIZE", type := .int, accessFlags := 26, slot := 10, constantValue := 0 }, { name := "T_BOOLEAN", type := .int, accessFlags := 25, slot := 11, constantValue := 0 }, { name := "T_CHAR", type := .int, accessFlags := 25, slot := 12, constantValue := 0 }, { name := "T_FLOAT", type := .int, accessFlags := 25, slot := 13, constantValue := 0 }, { name := "T_DOUBLE", type := .int, accessFlags := 25, slot := 14, constantValue := 0 }, { name := "T_BYTE", type := .int, accessFlags := 25, slot := 15, constantValue := 0 }, { name := "T_SHORT", type := .int, accessFlags := 25, slot := 16, constantValue := 0 }, { name := "T_INT", type := .int, accessFlags := 25, slot := 17, constantValue := 0 }, { name := "T_LONG", type := .int, accessFlags := 25, slot := 18, constantValue := 0 }, { name := "JLA", type := (.object "jdk/internal/access/JavaLangAccess"), accessFlags := 26, slot := 19, constantValue := 0 }, { name := "SOFT_MAX_ARRAY_LENGTH", type := .int, accessFlags := 25, slot := 20, constantValue := 0 }]
  methods := #[k25m0]
  instanceTypes := #[]
  staticTypes := #[(.object "jdk/internal/misc/Unsafe"), .boolean, .int, .int, .int, .int, .int, .int, .int, .int, .int, .int, .int, .int, .int, .int, .int, .int, .int, (.object "jdk/internal/access/JavaLangAccess"), .int]
  resolved := Array.replicate 378 none
  statics := none }

def pool26 : Array CpInfo := pool [(2, .class_ 4), (1, u "java/util/ImmutableCollections$AbstractImmutableList"), (3, .class_ 10), (1, u "java/util/ImmutableCollections$ListN"), (0, u "elements"), (0, u "[Ljava/lang/Object;"), (2, u "allowNulls"), (0, u "Z"), (42, .class_ 60), (0, u "java/io/Serializable"), (53, .class_ 115), (0, u "java/util/ImmutableCollections")] 3

/-- java/util/ImmutableCollections$ListN -/
def k26 : Class := { plain "java/util/ImmutableCollections$ListN" (some 19) with
  accessFlags := 48
  interfaces := #[2]
  cf := some (fileOf pool26 8 #[.nestHost 114] #[] 48 2 #[59] #[{ accessFlags := 18, nameIndex := 11, descriptorIndex := 12, attributes := #[] }, { accessFlags := 18, nameIndex := 15, descriptorIndex := 16, attributes := #[] }])
  fields := #[{ name := "elements", type := (.array (.object "java/lang/Object")), accessFlags := 18, slot := 0, constantValue := 0 }, { name := "allowNulls", type := .boolean, accessFlags := 18, slot := 1, constantValue := 0 }]
  methods := #[]
  instanceTypes := #[(.array (.object "java/lang/Object")), .boolean]
  staticTypes := #[]
  resolved := Array.replicate 119 none
  statics := none }

def pool27 : Array CpInfo := pool [(1, u "java/lang/Cloneable"), (0, .class_ 1), (0, u "java/lang/Object"), (0, .class_ 3)] 3

/-- java/lang/Cloneable -/
def k27 : Class := { plain "java/lang/Cloneable" (some 0) with
  accessFlags := 1537
  interfaces := #[]
  cf := some (fileOf pool27 2 #[] #[] 1537 4 #[] #[])
  fields := #[]
  methods := #[]
  instanceTypes := #[]
  staticTypes := #[]
  resolved := Array.replicate 8 none
  statics := none }

/-- the primitive byte -/
def k28 : Class := { plain "byte" none with kind := .primitive 'B', accessFlags := 0x411 }
/-- [B -/
def k29 : Class := { plain "[B" (some 0) with kind := .array 28 .byte, interfaces := #[27, 2], accessFlags := 1041 }

/-- the primitive char -/
def k30 : Class := { plain "char" none with kind := .primitive 'C', accessFlags := 0x411 }
/-- [C -/
def k31 : Class := { plain "[C" (some 0) with kind := .array 30 .char, interfaces := #[27, 2], accessFlags := 1041 }

/-- the primitive int -/
def k32 : Class := { plain "int" none with kind := .primitive 'I', accessFlags := 0x411 }
/-- [I -/
def k33 : Class := { plain "[I" (some 0) with kind := .array 32 .int, interfaces := #[27, 2], accessFlags := 1041 }

def heap : Heap := #[{ cls := 7, slots := #[.long 0, .int 1, .null, .int 0, .null, .int 0, .int 0], vm := .statics 7 },
  { cls := 22, slots := #[.long 0, .int 0, .null, .ref 3, .ref 4, .null, .null, .null, .int 0, .int 1], vm := .statics 22 },
  { cls := 24, slots := #[.null, .null, .null], vm := .statics 24 },
  { cls := 0, slots := #[], vm := .none },
  { cls := 26, slots := #[.null, .int 0], vm := .none }]
def classes : Array Class := #[k0, k1, k2, k3, k4, k5, k6, k7, k8, k9, k10, k11, k12, k13, k14, k15, k16, k17, k18, k19, k20, k21, k22, k23, k24, k25, k26, k27, k28, k29, k30, k31, k32, k33]
def interned : List (Array UInt16 × Addr) := []
def slotsUsed : Nat := 22
def theMethod : MethodId := ⟨1, 1⟩
def args0 : Array Value := #[.int 5, .int 5, .int 5, .int 5, .int 5]
def aboutOver (below : List Frame) : State where
  vm := { classes := classes, interned := interned.toArray }
  heap := heap
  slotsUsed := slotsUsed
  threads := #[{ frames := .invoking theMethod args0 :: below }]
def below0 : List Frame := [.native { method := ⟨0, 0⟩, args := #[] }]
def about1 : State := aboutOver below0
def p0 : Program := .bare "" "" ""
def e0 : Env := launch0.env 0 0 0
theorem w_frames : about1.frames = Frame.invoking theMethod args0 :: below0 := rfl
set_option maxRecDepth 65536 in
theorem w_args : argsFit about1.vm theMethod args0 = true := by decide +kernel
set_option maxRecDepth 65536 in
theorem w_heap : heapFits about1 = true := by decide +kernel
set_option maxRecDepth 65536 in
theorem w_runnable : about1.curStatus? = some .runnable := by decide +kernel
set_option maxRecDepth 65536 in
theorem w_alone : about1.alone = true := by decide +kernel
set_option maxRecDepth 65536 in
theorem w_named : about1.methodNamed? x = some theMethod := by decide +kernel
set_option maxRecDepth 65536 in
theorem w_hears : about1.hears theMethod below0 = true := by decide +kernel
set_option maxRecDepth 65536 in
theorem w_ripe : about1.ripe theMethod args0 below0 = true := by decide +kernel
theorem w_running : about1.status = .running := rfl
set_option maxRecDepth 65536 in
theorem w_room : about1.hasRoom e0.platform room_1 = true :=
  launch0.hasRoom_least _ room_1 (by decide +kernel) (by decide +kernel) (by decide +kernel) (by decide +kernel) (by decide +kernel) (by decide +kernel)
theorem allAtoms_all (ts : List Jvm.Cond) (a : Array Jvm.Value) (st : Jvm.State) : (allAtoms ts).before a st = ts.all (fun c => c.before a st) := by
  induction ts with
  | nil => rfl
  | cons c t ih =>
    show (Jvm.Cond.and c (allAtoms t)).before a st = _
    rw [Jvm.Cond.before_and, ih, List.all_cons]
def words1 : List Jvm.Cond := Jvm.Cond.code x code maxLocals ret :: tables_1
/-- a 'code' word, met by the world's own term for the bytes: nothing is compared byte by byte -/
theorem code_word {y : MethodName} {bytes : ByteArray} {mx : Nat} {rt : Option FieldType} {a : Array Value} {s : State} {m : MethodId} {meth : Method} {c : Code} (h1 : s.methodNamed? y = some m) (h2 : s.vm.method? m = some meth) (h3 : meth.code = some c) (h4 : c.code = bytes)
    (h5 : (c.maxLocals == mx && c.exceptionTable.isEmpty && decide (c.maxStack ≤ mostOperands) && decide (meth.sig.returnType = rt) && !meth.locks && decide (parseMethodDescriptor y.desc = some meth.sig)) = true) : (Jvm.Cond.code y bytes mx rt).before a s = true := by
  simp only [Bool.and_eq_true, beq_iff_eq, Bool.not_eq_true', decide_eq_true_eq] at h5
  obtain ⟨⟨⟨⟨⟨g1, g2⟩, g3⟩, g4⟩, g5⟩, g6⟩ := h5
  simp [Cond.before, Cond.holds, Cond.value, h1, h2, h3, h4, g1, g2, g3, g4, g5, g6]
def isCode : Jvm.Cond → Bool
  | .code _ _ _ _ => true
  | _ => false
theorem all_split {L : List Jvm.Cond} {P : Jvm.Cond → Bool} (h1 : L.all (fun c => isCode c || P c) = true) (h2 : ∀ c ∈ L.filter isCode, P c = true) : L.all P = true := by
  refine List.all_eq_true.mpr fun c hc => ?_
  have h := List.all_eq_true.mp h1 c hc
  rcases Bool.eq_false_or_eq_true (isCode c) with hi | hi
  · exact h2 c (List.mem_filter.mpr ⟨hc, hi⟩)
  · simpa [hi] using h
set_option maxRecDepth 65536 in
theorem w_c0 : (Jvm.Cond.code x code maxLocals ret).before args0 about1 = true := code_word (m := ⟨1, 1⟩) (meth := k1m1) (c := k1c1) (by decide +kernel) rfl rfl rfl (by decide +kernel)
set_option maxRecDepth 65536 in
theorem w_c1 : (Jvm.Cond.code ({ cls := "java/lang/String", name := "<init>", desc := "([C)V" } : Jvm.MethodName) jdk_42_method_3_code (2 : Nat) (Option.none : Option Jvm.ClassFile.FieldType)).before args0 about1 = true := code_word (m := ⟨7, 1⟩) (meth := k7m1) (c := k7c1) (by decide +kernel) rfl rfl rfl (by decide +kernel)
set_option maxRecDepth 65536 in
theorem w_c2 : (Jvm.Cond.code ({ cls := "java/lang/String", name := "<init>", desc := "([CIILjava/lang/Void;)V" } : Jvm.MethodName) jdk_42_method_149_code (6 : Nat) (Option.none : Option Jvm.ClassFile.FieldType)).before args0 about1 = true := code_word (m := ⟨7, 4⟩) (meth := k7m4) (c := k7c4) (by decide +kernel) rfl rfl rfl (by decide +kernel)
set_option maxRecDepth 65536 in
theorem w_c3 : (Jvm.Cond.code ({ cls := "java/lang/Object", name := "<init>", desc := "()V" } : Jvm.MethodName) object_method_1_code (1 : Nat) (Option.none : Option Jvm.ClassFile.FieldType)).before args0 about1 = true := code_word (m := ⟨0, 0⟩) (meth := k0m0) (c := k0c0) (by decide +kernel) rfl rfl rfl (by decide +kernel)
set_option maxRecDepth 65536 in
theorem w_c4 : (Jvm.Cond.code ({ cls := "java/lang/StringUTF16", name := "compress", desc := "([CII)[B" } : Jvm.MethodName) jdk_52_method_16_code (6 : Nat) (Option.some (Jvm.ClassFile.FieldType.array Jvm.ClassFile.FieldType.byte))).before args0 about1 = true := code_word (m := ⟨8, 2⟩) (meth := k8m2) (c := k8c2) (by decide +kernel) rfl rfl rfl (by decide +kernel)
set_option maxRecDepth 65536 in
theorem w_c5 : (Jvm.Cond.code ({ cls := "java/lang/StringUTF16", name := "compress", desc := "([CI[BII)I" } : Jvm.MethodName) jdk_52_method_21_code (7 : Nat) (Option.some Jvm.ClassFile.FieldType.int)).before args0 about1 = true := code_word (m := ⟨8, 3⟩) (meth := k8m3) (c := k8c3) (by decide +kernel) rfl rfl rfl (by decide +kernel)
set_option maxRecDepth 65536 in
theorem w_c6 : (Jvm.Cond.code ({ cls := "java/lang/StringUTF16", name := "coderFromArrayLen", desc := "([BI)B" } : Jvm.MethodName) jdk_52_method_15_code (2 : Nat) (Option.some Jvm.ClassFile.FieldType.byte)).before args0 about1 = true := code_word (m := ⟨8, 1⟩) (meth := k8m1) (c := k8c1) (by decide +kernel) rfl rfl rfl (by decide +kernel)
set_option maxRecDepth 65536 in
theorem w_c7 : (Jvm.Cond.code ({ cls := "ephemera/cli/Flags$Term", name := "required", desc := "(Ljava/lang/String;Ljava/lang/String;)Lephemera/cli/Flags$Term;" } : Jvm.MethodName) prog_4_method_2_code (2 : Nat) (Option.some (Jvm.ClassFile.FieldType.object "ephemera/cli/Flags$Term"))).before args0 about1 = true := code_word (m := ⟨10, 1⟩) (meth := k10m1) (c := k10c1) (by decide +kernel) rfl rfl rfl (by decide +kernel)
set_option maxRecDepth 65536 in
theorem w_c8 : (Jvm.Cond.code ({ cls := "ephemera/cli/Flags$Flag", name := "<init>", desc := "(Ljava/lang/String;Ljava/lang/String;)V" } : Jvm.MethodName) prog_3_method_1_code (3 : Nat) (Option.none : Option Jvm.ClassFile.FieldType)).before args0 about1 = true := code_word (m := ⟨11, 0⟩) (meth := k11m0) (c := k11c0) (by decide +kernel) rfl rfl rfl (by decide +kernel)
set_option maxRecDepth 65536 in
theorem w_c9 : (Jvm.Cond.code ({ cls := "java/lang/Record", name := "<init>", desc := "()V" } : Jvm.MethodName) jdk_30_method_1_code (1 : Nat) (Option.none : Option Jvm.ClassFile.FieldType)).before args0 about1 = true := code_word (m := ⟨9, 0⟩) (meth := k9m0) (c := k9c0) (by decide +kernel) rfl rfl rfl (by decide +kernel)
set_option maxRecDepth 65536 in
theorem w_c10 : (Jvm.Cond.code ({ cls := "java/util/List", name := "of", desc := "(Ljava/lang/Object;)Ljava/util/List;" } : Jvm.MethodName) jdk_40_method_37_code (1 : Nat) (Option.some (Jvm.ClassFile.FieldType.object "java/util/List"))).before args0 about1 = true := code_word (m := ⟨15, 2⟩) (meth := k15m2) (c := k15c2) (by decide +kernel) rfl rfl rfl (by decide +kernel)
set_option maxRecDepth 65536 in
theorem w_c11 : (Jvm.Cond.code ({ cls := "java/util/ImmutableCollections$List12", name := "<init>", desc := "(Ljava/lang/Object;)V" } : Jvm.MethodName) jdk_44_method_1_code (2 : Nat) (Option.none : Option Jvm.ClassFile.FieldType)).before args0 about1 = true := code_word (m := ⟨20, 0⟩) (meth := k20m0) (c := k20c0) (by decide +kernel) rfl rfl rfl (by decide +kernel)
set_option maxRecDepth 65536 in
theorem w_c12 : (Jvm.Cond.code ({ cls := "java/util/ImmutableCollections$AbstractImmutableList", name := "<init>", desc := "()V" } : Jvm.MethodName) jdk_46_method_1_code (1 : Nat) (Option.none : Option Jvm.ClassFile.FieldType)).before args0 about1 = true := code_word (m := ⟨19, 0⟩) (meth := k19m0) (c := k19c0) (by decide +kernel) rfl rfl rfl (by decide +kernel)
set_option maxRecDepth 65536 in
theorem w_c13 : (Jvm.Cond.code ({ cls := "java/util/ImmutableCollections$AbstractImmutableCollection", name := "<init>", desc := "()V" } : Jvm.MethodName) jdk_47_method_1_code (1 : Nat) (Option.none : Option Jvm.ClassFile.FieldType)).before args0 about1 = true := code_word (m := ⟨17, 0⟩) (meth := k17m0) (c := k17c0) (by decide +kernel) rfl rfl rfl (by decide +kernel)
set_option maxRecDepth 65536 in
theorem w_c14 : (Jvm.Cond.code ({ cls := "java/util/AbstractCollection", name := "<init>", desc := "()V" } : Jvm.MethodName) jdk_22_method_1_code (1 : Nat) (Option.none : Option Jvm.ClassFile.FieldType)).before args0 about1 = true := code_word (m := ⟨16, 0⟩) (meth := k16m0) (c := k16c0) (by decide +kernel) rfl rfl rfl (by decide +kernel)
set_option maxRecDepth 65536 in
theorem w_c15 : (Jvm.Cond.code ({ cls := "java/util/Objects", name := "requireNonNull", desc := "(Ljava/lang/Object;)Ljava/lang/Object;" } : Jvm.MethodName) jdk_31_method_10_code (1 : Nat) (Option.some (Jvm.ClassFile.FieldType.object "java/lang/Object"))).before args0 about1 = true := code_word (m := ⟨21, 1⟩) (meth := k21m1) (c := k21c1) (by decide +kernel) rfl rfl rfl (by decide +kernel)
set_option maxRecDepth 65536 in
theorem w_c16 : (Jvm.Cond.code ({ cls := "ephemera/cli/Flags$Term", name := "<init>", desc := "(Ljava/util/List;Z)V" } : Jvm.MethodName) prog_4_method_1_code (3 : Nat) (Option.none : Option Jvm.ClassFile.FieldType)).before args0 about1 = true := code_word (m := ⟨10, 0⟩) (meth := k10m0) (c := k10c0) (by decide +kernel) rfl rfl rfl (by decide +kernel)
set_option maxRecDepth 65536 in
theorem w_c17 : (Jvm.Cond.code ({ cls := "ephemera/cli/Flags$Term", name := "optional", desc := "()Z" } : Jvm.MethodName) prog_4_method_10_code (1 : Nat) (Option.some Jvm.ClassFile.FieldType.boolean)).before args0 about1 = true := code_word (m := ⟨10, 3⟩) (meth := k10m3) (c := k10c3) (by decide +kernel) rfl rfl rfl (by decide +kernel)
set_option maxRecDepth 65536 in
theorem w_c18 : (Jvm.Cond.code ({ cls := "ephemera/cli/Flags$Term", name := "flags", desc := "()Ljava/util/List;" } : Jvm.MethodName) prog_4_method_9_code (1 : Nat) (Option.some (Jvm.ClassFile.FieldType.object "java/util/List"))).before args0 about1 = true := code_word (m := ⟨10, 2⟩) (meth := k10m2) (c := k10c2) (by decide +kernel) rfl rfl rfl (by decide +kernel)
set_option maxRecDepth 65536 in
theorem w_c19 : (Jvm.Cond.code ({ cls := "java/util/ImmutableCollections$List12", name := "size", desc := "()I" } : Jvm.MethodName) jdk_44_method_3_code (1 : Nat) (Option.some Jvm.ClassFile.FieldType.int)).before args0 about1 = true := code_word (m := ⟨20, 1⟩) (meth := k20m1) (c := k20c1) (by decide +kernel) rfl rfl rfl (by decide +kernel)
set_option maxRecDepth 65536 in
theorem w_c20 : (Jvm.Cond.code ({ cls := "java/util/ImmutableCollections$List12", name := "get", desc := "(I)Ljava/lang/Object;" } : Jvm.MethodName) jdk_44_method_5_code (2 : Nat) (Option.some (Jvm.ClassFile.FieldType.object "java/lang/Object"))).before args0 about1 = true := code_word (m := ⟨20, 2⟩) (meth := k20m2) (c := k20c2) (by decide +kernel) rfl rfl rfl (by decide +kernel)
set_option maxRecDepth 65536 in
theorem w_c21 : (Jvm.Cond.code ({ cls := "ephemera/cli/Flags$Flag", name := "name", desc := "()Ljava/lang/String;" } : Jvm.MethodName) prog_3_method_7_code (1 : Nat) (Option.some (Jvm.ClassFile.FieldType.object "java/lang/String"))).before args0 about1 = true := code_word (m := ⟨11, 2⟩) (meth := k11m2) (c := k11c2) (by decide +kernel) rfl rfl rfl (by decide +kernel)
set_option maxRecDepth 65536 in
theorem w_c22 : (Jvm.Cond.code ({ cls := "java/lang/String", name := "equals", desc := "(Ljava/lang/Object;)Z" } : Jvm.MethodName) jdk_42_method_66_code (3 : Nat) (Option.some Jvm.ClassFile.FieldType.boolean)).before args0 about1 = true := code_word (m := ⟨7, 3⟩) (meth := k7m3) (c := k7c3) (by decide +kernel) rfl rfl rfl (by decide +kernel)
set_option maxRecDepth 65536 in
theorem w_c23 : (Jvm.Cond.code ({ cls := "ephemera/cli/Flags$Flag", name := "value", desc := "()Ljava/lang/String;" } : Jvm.MethodName) prog_3_method_8_code (1 : Nat) (Option.some (Jvm.ClassFile.FieldType.object "java/lang/String"))).before args0 about1 = true := code_word (m := ⟨11, 3⟩) (meth := k11m3) (c := k11c3) (by decide +kernel) rfl rfl rfl (by decide +kernel)
set_option maxRecDepth 65536 in
theorem w_c24 : (Jvm.Cond.code ({ cls := "ephemera/cli/Flags$Flag", name := "isSwitch", desc := "()Z" } : Jvm.MethodName) prog_3_method_3_code (1 : Nat) (Option.some Jvm.ClassFile.FieldType.boolean)).before args0 about1 = true := code_word (m := ⟨11, 1⟩) (meth := k11m1) (c := k11c1) (by decide +kernel) rfl rfl rfl (by decide +kernel)
set_option maxRecDepth 65536 in
theorem w_c25 : (Jvm.Cond.code ({ cls := "java/lang/String", name := "isEmpty", desc := "()Z" } : Jvm.MethodName) jdk_42_method_55_code (1 : Nat) (Option.some Jvm.ClassFile.FieldType.boolean)).before args0 about1 = true := code_word (m := ⟨7, 2⟩) (meth := k7m2) (c := k7c2) (by decide +kernel) rfl rfl rfl (by decide +kernel)
def codes1 : List Jvm.Cond := [Jvm.Cond.code x code maxLocals ret, Jvm.Cond.code ({ cls := "java/lang/String", name := "<init>", desc := "([C)V" } : Jvm.MethodName) jdk_42_method_3_code (2 : Nat) (Option.none : Option Jvm.ClassFile.FieldType), Jvm.Cond.code ({ cls := "java/lang/String", name := "<init>", desc := "([CIILjava/lang/Void;)V" } : Jvm.MethodName) jdk_42_method_149_code (6 : Nat) (Option.none : Option Jvm.ClassFile.FieldType), Jvm.Cond.code ({ cls := "java/lang/Object", name := "<init>", desc := "()V" } : Jvm.MethodName) object_method_1_code (1 : Nat) (Option.none : Option Jvm.ClassFile.FieldType), Jvm.Cond.code ({ cls := "java/lang/StringUTF16", name := "compress", desc := "([CII)[B" } : Jvm.MethodName) jdk_52_method_16_code (6 : Nat) (Option.some (Jvm.ClassFile.FieldType.array Jvm.ClassFile.FieldType.byte)), Jvm.Cond.code ({ cls := "java/lang/StringUTF16", name := "compress", desc := "([CI[BII)I" } : Jvm.MethodName) jdk_52_method_21_code (7 : Nat) (Option.some Jvm.ClassFile.FieldType.int), Jvm.Cond.code ({ cls := "java/lang/StringUTF16", name := "coderFromArrayLen", desc := "([BI)B" } : Jvm.MethodName) jdk_52_method_15_code (2 : Nat) (Option.some Jvm.ClassFile.FieldType.byte), Jvm.Cond.code ({ cls := "ephemera/cli/Flags$Term", name := "required", desc := "(Ljava/lang/String;Ljava/lang/String;)Lephemera/cli/Flags$Term;" } : Jvm.MethodName) prog_4_method_2_code (2 : Nat) (Option.some (Jvm.ClassFile.FieldType.object "ephemera/cli/Flags$Term")), Jvm.Cond.code ({ cls := "ephemera/cli/Flags$Flag", name := "<init>", desc := "(Ljava/lang/String;Ljava/lang/String;)V" } : Jvm.MethodName) prog_3_method_1_code (3 : Nat) (Option.none : Option Jvm.ClassFile.FieldType), Jvm.Cond.code ({ cls := "java/lang/Record", name := "<init>", desc := "()V" } : Jvm.MethodName) jdk_30_method_1_code (1 : Nat) (Option.none : Option Jvm.ClassFile.FieldType), Jvm.Cond.code ({ cls := "java/util/List", name := "of", desc := "(Ljava/lang/Object;)Ljava/util/List;" } : Jvm.MethodName) jdk_40_method_37_code (1 : Nat) (Option.some (Jvm.ClassFile.FieldType.object "java/util/List")), Jvm.Cond.code ({ cls := "java/util/ImmutableCollections$List12", name := "<init>", desc := "(Ljava/lang/Object;)V" } : Jvm.MethodName) jdk_44_method_1_code (2 : Nat) (Option.none : Option Jvm.ClassFile.FieldType), Jvm.Cond.code ({ cls := "java/util/ImmutableCollections$AbstractImmutableList", name := "<init>", desc := "()V" } : Jvm.MethodName) jdk_46_method_1_code (1 : Nat) (Option.none : Option Jvm.ClassFile.FieldType), Jvm.Cond.code ({ cls := "java/util/ImmutableCollections$AbstractImmutableCollection", name := "<init>", desc := "()V" } : Jvm.MethodName) jdk_47_method_1_code (1 : Nat) (Option.none : Option Jvm.ClassFile.FieldType), Jvm.Cond.code ({ cls := "java/util/AbstractCollection", name := "<init>", desc := "()V" } : Jvm.MethodName) jdk_22_method_1_code (1 : Nat) (Option.none : Option Jvm.ClassFile.FieldType), Jvm.Cond.code ({ cls := "java/util/Objects", name := "requireNonNull", desc := "(Ljava/lang/Object;)Ljava/lang/Object;" } : Jvm.MethodName) jdk_31_method_10_code (1 : Nat) (Option.some (Jvm.ClassFile.FieldType.object "java/lang/Object")), Jvm.Cond.code ({ cls := "ephemera/cli/Flags$Term", name := "<init>", desc := "(Ljava/util/List;Z)V" } : Jvm.MethodName) prog_4_method_1_code (3 : Nat) (Option.none : Option Jvm.ClassFile.FieldType), Jvm.Cond.code ({ cls := "ephemera/cli/Flags$Term", name := "optional", desc := "()Z" } : Jvm.MethodName) prog_4_method_10_code (1 : Nat) (Option.some Jvm.ClassFile.FieldType.boolean), Jvm.Cond.code ({ cls := "ephemera/cli/Flags$Term", name := "flags", desc := "()Ljava/util/List;" } : Jvm.MethodName) prog_4_method_9_code (1 : Nat) (Option.some (Jvm.ClassFile.FieldType.object "java/util/List")), Jvm.Cond.code ({ cls := "java/util/ImmutableCollections$List12", name := "size", desc := "()I" } : Jvm.MethodName) jdk_44_method_3_code (1 : Nat) (Option.some Jvm.ClassFile.FieldType.int), Jvm.Cond.code ({ cls := "java/util/ImmutableCollections$List12", name := "get", desc := "(I)Ljava/lang/Object;" } : Jvm.MethodName) jdk_44_method_5_code (2 : Nat) (Option.some (Jvm.ClassFile.FieldType.object "java/lang/Object")), Jvm.Cond.code ({ cls := "ephemera/cli/Flags$Flag", name := "name", desc := "()Ljava/lang/String;" } : Jvm.MethodName) prog_3_method_7_code (1 : Nat) (Option.some (Jvm.ClassFile.FieldType.object "java/lang/String")), Jvm.Cond.code ({ cls := "java/lang/String", name := "equals", desc := "(Ljava/lang/Object;)Z" } : Jvm.MethodName) jdk_42_method_66_code (3 : Nat) (Option.some Jvm.ClassFile.FieldType.boolean), Jvm.Cond.code ({ cls := "ephemera/cli/Flags$Flag", name := "value", desc := "()Ljava/lang/String;" } : Jvm.MethodName) prog_3_method_8_code (1 : Nat) (Option.some (Jvm.ClassFile.FieldType.object "java/lang/String")), Jvm.Cond.code ({ cls := "ephemera/cli/Flags$Flag", name := "isSwitch", desc := "()Z" } : Jvm.MethodName) prog_3_method_3_code (1 : Nat) (Option.some Jvm.ClassFile.FieldType.boolean), Jvm.Cond.code ({ cls := "java/lang/String", name := "isEmpty", desc := "()Z" } : Jvm.MethodName) jdk_42_method_55_code (1 : Nat) (Option.some Jvm.ClassFile.FieldType.boolean)]
set_option maxRecDepth 65536 in
theorem codes_eq : words1.filter isCode = codes1 := rfl
theorem w_codes : ∀ c ∈ words1.filter isCode, c.before args0 about1 = true := by
  rw [codes_eq]
  intro c hc
  simp only [codes1, List.mem_cons, List.not_mem_nil, or_false] at hc
  rcases hc with rfl | rfl | rfl | rfl | rfl | rfl | rfl | rfl | rfl | rfl | rfl | rfl | rfl | rfl | rfl | rfl | rfl | rfl | rfl | rfl | rfl | rfl | rfl | rfl | rfl | rfl
  · exact w_c0
  · exact w_c1
  · exact w_c2
  · exact w_c3
  · exact w_c4
  · exact w_c5
  · exact w_c6
  · exact w_c7
  · exact w_c8
  · exact w_c9
  · exact w_c10
  · exact w_c11
  · exact w_c12
  · exact w_c13
  · exact w_c14
  · exact w_c15
  · exact w_c16
  · exact w_c17
  · exact w_c18
  · exact w_c19
  · exact w_c20
  · exact w_c21
  · exact w_c22
  · exact w_c23
  · exact w_c24
  · exact w_c25
set_option maxRecDepth 65536 in
theorem w_t1 : (words1.take 24).all (fun c => isCode c || c.before args0 about1) = true := by decide +kernel
set_option maxRecDepth 65536 in
theorem w_t2 : ((words1.drop 24).take 24).all (fun c => isCode c || c.before args0 about1) = true := by decide +kernel
set_option maxRecDepth 65536 in
theorem w_t3 : (((words1.drop 24).drop 24).take 24).all (fun c => isCode c || c.before args0 about1) = true := by decide +kernel
set_option maxRecDepth 65536 in
theorem w_t4 : ((((words1.drop 24).drop 24).drop 24).take 24).all (fun c => isCode c || c.before args0 about1) = true := by decide +kernel
set_option maxRecDepth 65536 in
theorem w_t5 : (((((words1.drop 24).drop 24).drop 24).drop 24).take 24).all (fun c => isCode c || c.before args0 about1) = true := by decide +kernel
set_option maxRecDepth 65536 in
theorem w_t6 : ((((((words1.drop 24).drop 24).drop 24).drop 24).drop 24).take 24).all (fun c => isCode c || c.before args0 about1) = true := by decide +kernel
set_option maxRecDepth 65536 in
theorem w_t7 : ((((((words1.drop 24).drop 24).drop 24).drop 24).drop 24).drop 24).all (fun c => isCode c || c.before args0 about1) = true := by decide +kernel
theorem w_tables : (allAtoms (Jvm.Cond.code x code maxLocals ret :: tables_1)).before args0 about1 = true := by
  rw [allAtoms_all]
  show words1.all (fun c => c.before args0 about1) = true
  refine all_split ?_ w_codes
  rw [← List.take_append_drop 24 words1, List.all_append, w_t1, ← List.take_append_drop 24 (words1.drop 24), List.all_append, w_t2, ← List.take_append_drop 24 ((words1.drop 24).drop 24), List.all_append, w_t3, ← List.take_append_drop 24 (((words1.drop 24).drop 24).drop 24), List.all_append, w_t4, ← List.take_append_drop 24 ((((words1.drop 24).drop 24).drop 24).drop 24), List.all_append, w_t5, ← List.take_append_drop 24 (((((words1.drop 24).drop 24).drop 24).drop 24).drop 24), List.all_append, w_t6, w_t7]
  rfl
set_option maxRecDepth 65536 in
theorem w_rest : rest_1_c.before args0 about1 = true := by decide +kernel
set_option maxRecDepth 65536 in
theorem w_case : (Jvm.Cond.and given_1 narrow_1).before args0 about1 = true := by decide +kernel
set_option maxRecDepth 65536 in
theorem w_consts : constsHeld consts_1 about1 := Jvm.Lit.constsHeldB_iff.mp (by decide +kernel)
theorem w_applies : (headSpec (Jvm.Cond.code x code maxLocals ret :: tables_1) room_1).applies x e0.platform about1 = true :=
  (Spec.applies_iff w_frames).mpr ⟨w_running, w_runnable, w_alone, w_named, w_hears, w_ripe, w_room, w_tables⟩
theorem atStart : AtStart classFile x code maxLocals ret World_1 tables_1 room_1 Calls_1 rest_1 Pre_1 launch0 p0 e0 about1 theMethod args0 below0 :=
  ⟨lists_1, trivial, launch0.admits_env _ _ _, launch0.least_env, fairChoices_fair.cas, fairChoices_fair.clock, w_frames, w_args, w_heap, w_applies, ⟨w_consts, trivial⟩, w_rest, w_case⟩
end start1
theorem witness_1 : WitnessClaimed_1 := ⟨start1.p0, start1.e0, start1.about1, start1.theMethod, start1.args0, start1.below0, start1.atStart⟩
end Jvm.Pilot.@@N@@
