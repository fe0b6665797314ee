import JvmDerived
import JvmDerived.Pilot.@@N@@Statement
import JvmDerived.Pilot.@@N@@Code
set_option linter.unusedVariables false
set_option linter.unusedSimpArgs false
namespace Jvm.Own
open Sem ClassFile Op Lib Jvm.Stand Jvm.Free Jvm.LawKit Jvm.RoadKit
section Core
variable {p : Program} {l : Launch} {e : Env} {R : Room} {s : State} {m : MethodId} {args : Array Value} {below : List Frame} {meth : Method} {c : Code} {Z : State} {a0 : Array Value} {h h' : Heap} {k n k' n' : Nat} {Q : Option Value → Heap → Prop} {g g' : JFrame} {code : ByteArray} {ml : Nat} {own nm : String} {rty : Option FieldType} {pc pc' : Nat} {Ls : Array Slot} {St : List Value}
/-- what stays the same along the walk of one body -/
def Cx (p : Program) (s : State) (m : MethodId) (meth : Method) (c : Code) (code : ByteArray) (ml : Nat) (rty : Option FieldType) (nm own : String) (Z : State) : Prop :=
  p.tables.exec = Jvm.exec ∧ c.code = code ∧ c.maxLocals = ml ∧ Z.Warmed39 s.vm ∧ s.vm.findClass own = some m.cls ∧ meth.sig.returnType = rty ∧ meth.name = nm ∧ meth.locks = false
theorem Cx.hx (C : Cx p s m meth c code ml rty nm own Z) : p.tables.exec = Jvm.exec := C.1
theorem Cx.hby (C : Cx p s m meth c code ml rty nm own Z) : c.code = code := C.2.1
theorem Cx.hml (C : Cx p s m meth c code ml rty nm own Z) : c.maxLocals = ml := C.2.2.1
theorem Cx.hZ (C : Cx p s m meth c code ml rty nm own Z) : Z.Warmed39 s.vm := C.2.2.2.1
theorem Cx.hown (C : Cx p s m meth c code ml rty nm own Z) : s.vm.findClass own = some m.cls := C.2.2.2.2.1
theorem Cx.hret (C : Cx p s m meth c code ml rty nm own Z) : meth.sig.returnType = rty := C.2.2.2.2.2.1
theorem Cx.hnm (C : Cx p s m meth c code ml rty nm own Z) : meth.name = nm := C.2.2.2.2.2.2.1
theorem Cx.hlk (C : Cx p s m meth c code ml rty nm own Z) : meth.locks = false := C.2.2.2.2.2.2.2
theorem Cx.d (C : Cx p s m meth c code ml rty nm own Z) {r : Except DecodeError (Instr × Nat)} (hd : decode code pc = r) : decode c.code pc = r := C.hby ▸ hd
/-- from every state that stands so, with heap h and the frame g on top, the body comes to its end, and Q holds there; what stood at Z stands -/
def Go (p : Program) (l : Launch) (e : Env) (R : Room) (s : State) (m : MethodId) (args : Array Value) (below : List Frame) (meth : Method) (c : Code) (Z : State) (Q : Option Value → Heap → Prop) (h : Heap) (k n : Nat) (g : JFrame) : Prop :=
  ∀ T L, Ext Z.heap h → Fr Z.heap.size L → Stand p l e R s m args below meth c T L k n → T.heap = h → ∃ s₂ o, Steps p.tables e below (T.setTop g) s₂ ∧ s₂.status = .running ∧ Ended s₂ below o ∧ ∃ v L', o = .returned v ∧ (Q v s₂.heap ∧ Ext Z.heap s₂.heap ∧ Fr Z.heap.size L') ∧ FrameEnd s o s₂ L' R.cells R.slots
/-- what a method pays where it is called with these arguments at this heap -/
def Pays (l : Launch) (Z : State) (y : MethodName) (bytes : ByteArray) (ml : Nat) (rty : Option FieldType) (rm : Room) (as' : Array Value) (h0 : Heap) (Q : Option Value → Heap → Prop) : Prop :=
  Ext Z.heap h0 → ∀ ws, MetFree l y (head1 (Jvm.Cond.code y bytes ml rty :: ws) rm) (fun a U => a = as' ∧ Z.Warmed39 U.vm ∧ U.heap = h0) (fun _ _ _ _ _ => True) (fun _ U o U' => ∃ v L, o = .returned v ∧ (Q v U'.heap ∧ Ext Z.heap U'.heap ∧ Fr Z.heap.size L) ∧ FrameEnd U o U' L rm.cells rm.slots)
abbrev Vl (Q : Value → Heap → Prop) : Option Value → Heap → Prop := fun v h => ∃ w, v = some w ∧ Q w h
abbrev Nl (Q : Heap → Prop) : Option Value → Heap → Prop := fun v h => v = none ∧ Q h
theorem pays_of_go {y : MethodName} {bytes : ByteArray} {rm : Room} {as' : Array Value} {h0 : Heap} {F : MethodId → JFrame} (hpl : plainFor y = true) (hF : ∀ m, entryFrame m as' ml = F m)
    (body : ∀ p e s m below meth c, Cx p s m meth c bytes ml rty y.name y.cls Z → Go p l e rm s m as' below meth c Z Q h0 0 0 (F m)) : Pays l Z y bytes ml rty rm as' h0 Q := by
  intro hE ws
  refine MetFree.of_bodySF hpl hisR ?_
  intro p e s m args below meth c s₁ Bd hml0 hP hK
  obtain ⟨rfl, hZ, hh⟩ := hP
  have e0 : s₁.heap = h0 := by rw [← hh, Bd.state]; rfl
  have X0 : Stand p l e rm s m args below meth c s₁ [] 0 0 := Stand.of_body Bd
  have q := body p e s m below meth c ⟨Bd.exec, Bd.bytes, hml0, hZ, findClass_of_methodNamed Bd.named, Bd.returns, (name_of_methodNamed Bd.named Bd.method).1, Bd.notSynchronized⟩ s₁ [] hE (Fr.nil _) X0 e0
  rw [hF]
  exact q
theorem Pays.mono {y : MethodName} {bytes : ByteArray} {rm : Room} {as' : Array Value} {h0 : Heap} {Q' : Option Value → Heap → Prop} (P : Pays l Z y bytes ml rty rm as' h0 Q) (H : ∀ v h, Q v h → Q' v h) : Pays l Z y bytes ml rty rm as' h0 Q' := fun hE ws =>
  (P hE ws).mono (fun _ _ q => q) (fun _ _ _ _ _ q => q) (fun _ _ _ _ _ ⟨v, L, e, q, r⟩ => ⟨v, L, e, ⟨H _ _ q.1, q.2⟩, r⟩)
theorem Go.plain (H : ∀ T L, Stand p l e R s m args below meth c T L k n → ∀ t, Steps p.tables e below (T.setTop g') t → Steps p.tables e below (T.setTop g) t) (K : Go p l e R s m args below meth c Z Q h k n g') : Go p l e R s m args below meth c Z Q h k n g := fun T L hE hF X eT => by
  obtain ⟨s₂, o, st, r⟩ := K T L hE hF X eT
  exact ⟨s₂, o, H T L X _ st, r⟩
theorem Go.law0 (H : ∀ T L, Stand p l e R s m args below meth c T L k n → T.heap = h → ∃ T', Stand p l e R s m args below meth c T' L k n ∧ T'.heap = h ∧ ∀ t, Steps p.tables e below (T'.setTop g') t → Steps p.tables e below (T.setTop g) t) (K : Go p l e R s m args below meth c Z Q h k n g') : Go p l e R s m args below meth c Z Q h k n g := fun T L hE hF X eT => by
  obtain ⟨T', X', eT', st'⟩ := H T L X eT
  obtain ⟨s₂, o, st, r⟩ := K T' L hE hF X' eT'
  exact ⟨s₂, o, st' _ st, r⟩
theorem Go.old (K : Ext Z.heap h → Go p l e R s m args below meth c Z Q h k n g) : Go p l e R s m args below meth c Z Q h k n g := fun T L hE hF X eT => K hE T L hE hF X eT
theorem stand_more {T : State} {L : List Loc} (X : Stand p l e R s m args below meth c T L k n) (hk : k ≤ k') (hn : n ≤ n') : Stand p l e R s m args below meth c T L k' n' :=
  ⟨X.admits, X.cas, X.clock, X.frames, X.room, X.hears, X.method, X.code, X.here, X.tail, X.warmed, X.limits, X.bytes, X.same.mono hk hn⟩
/-- less may have been made than is booked -/
theorem Go.more (hk : k ≤ k') (hn : n ≤ n') (K : Go p l e R s m args below meth c Z Q h k' n' g) : Go p l e R s m args below meth c Z Q h k n g := fun T L hE hF X eT => K T L hE hF (stand_more X hk hn) eT
theorem ext_refl (h : Heap) : Ext h h := ⟨Nat.le_refl _, fun _ _ q => q⟩
theorem ext_trans {h1 h2 h3 : Heap} (E : Ext h1 h2) (E' : Ext h2 h3) : Ext h1 h3 := ⟨Nat.le_trans E.1 E'.1, fun a c q => E'.2 a c (E.2 a c q)⟩
theorem ext_wr {h1 h2 h3 : Heap} {a : Addr} {sl : Nat} {v : Value} (E : Ext h1 h2) (W : Wr h2 h3 a sl v) (q : h1.size ≤ a) : Ext h1 h3 :=
  have K := Keep.of_wr W
  ⟨Nat.le_trans E.1 K.1, fun x c r => K.2.1 x c (E.2 x c r) fun z => absurd (Array.getElem?_eq_some_iff.mp r).1 (Nat.not_lt.mpr (by cases List.mem_singleton.mp z; exact q))⟩
theorem ext_keep {h1 h2 h3 : Heap} {ws : List Addr} (E : Ext h1 h2) (K : Keep h2 h3 ws) (q : ∀ x ∈ ws, h1.size ≤ x) : Ext h1 h3 :=
  ⟨Nat.le_trans E.1 K.1, fun x c r => K.2.1 x c (E.2 x c r) fun z => absurd (Array.getElem?_eq_some_iff.mp r).1 (Nat.not_lt.mpr (q x z))⟩
theorem keep_ext {h1 h2 : Heap} (E : Ext h1 h2) (ws : List Addr) : Keep h1 h2 ws := (Keep.refl _ _).ext E
theorem ext_keep1 {h1 h2 h3 : Heap} {a : Addr} (E : Ext h1 h2) (K : Keep h2 h3 [a]) (q : h1.size ≤ a) : Ext h1 h3 := ext_keep E K (allS q all0)
theorem catV {v : Value} (h : v.isRef = true) : v.category = 1 := by rcases ref_cases h with rfl | ⟨_, rfl⟩ <;> rfl
theorem narR (ty : FieldType) (v : Value) (h : v.isRef = true) : narrow ty v = v := by rcases ref_cases h with rfl | ⟨_, rfl⟩ <;> cases ty <;> rfl
theorem fitR' {ty : FieldType} {v : Value} (ht : ty.isReference = true) (h : v.isRef = true) : fits ty v = true := by rcases ref_cases h with rfl | ⟨_, rfl⟩ <;> cases ty <;> first | rfl | (simp [FieldType.isReference] at ht)
theorem ins_keep {a : Addr} {cK : String} {b : Bool} {ws : List Addr} (F : Ins Z h a cK b) (K : Keep h h' ws) : Ins Z h' a cK b := by
  obtain ⟨cell, cT, h1, h2, h3⟩ := F
  obtain ⟨c', q, r1, r2, -⟩ := K.2.2 a cell h1
  exact ⟨c', cT, q, h2, by rw [r1, r2]; exact h3⟩
theorem faceOk {r fn d : String} (q : r ≠ "java/lang/invoke/MethodHandle" ∧ r ≠ "java/lang/invoke/VarHandle") : ((Jvm.Cond.interfaceMethod r r fn d).onTables && (Jvm.Cond.interfaceMethod r r fn d).keepsFace) = true := by
  show (true && (false || (r == r && r != "java/lang/invoke/MethodHandle" && r != "java/lang/invoke/VarHandle"))) = true
  simp [q.1, q.2]
/-! ### the single laws -/
theorem Go.ldcI (C : Cx p s m meth c code ml rty nm own Z) {idx : Nat} {v : Int32} (w : (Jvm.Cond.constant own idx v).before a0 Z = true) (hd : decode code pc = .ok (.ldc idx, 2)) (hp : pc + 2 = pc')
    (K : Go p l e R s m args below meth c Z Q h k n (mkF m pc' Ls (.int v :: St))) : Go p l e R s m args below meth c Z Q h k n (mkF m pc Ls St) := by
  subst hp
  exact Go.plain (fun T L X t q => X.ldcInt C.hx C.hown (mv C.hZ w) (g := mkF m pc Ls St) rfl (C.d hd) t q) K
theorem Go.irem (C : Cx p s m meth c code ml rty nm own Z) {x y : Int32} (hd : decode code pc = .ok (.irem, 1)) (hy : y ≠ 0) (hp : pc + 1 = pc')
    (K : Go p l e R s m args below meth c Z Q h k n (mkF m pc' Ls (.int (x % y) :: St))) : Go p l e R s m args below meth c Z Q h k n (mkF m pc Ls (.int y :: .int x :: St)) := by
  subst hp
  exact Go.plain (fun T L X t q => iremM (g := mkF m pc Ls (.int y :: .int x :: St)) X C.hx rfl (C.d hd) rfl hy q) K
theorem Go.getF (C : Cx p s m meth c code ml rty nm own Z) {R0 O fn d host : String} {idx : Nat} (w : (Jvm.Cond.fieldLink own idx R0 fn d).before a0 Z = true ∨ (Jvm.Cond.fieldLinkNest own idx R0 fn d host).before a0 Z = true) (via : Via Z R0 O fn d) {a : Addr} {v : Value} (F : Fld Z h a O fn d v)
    (hd : decode code pc = .ok (.getfield idx, 3)) (hp : pc + 3 = pc') (K : Go p l e R s m args below meth c Z Q h k n (mkF m pc' Ls (v :: St))) : Go p l e R s m args below meth c Z Q h k n (mkF m pc Ls (.ref a :: St)) := by
  subst hp
  exact Go.law0 (fun T L X eT => Jvm.RoadKit.getF X C.hx C.hZ C.hown w via eT F (g := mkF m pc Ls (.ref a :: St)) rfl rfl (C.d hd)) K
theorem Go.getS (C : Cx p s m meth c code ml rty nm own Z) {R0 O fn d host : String} {idx : Nat} (w : (Jvm.Cond.fieldLink own idx R0 fn d).before a0 Z = true ∨ (Jvm.Cond.fieldLinkNest own idx R0 fn d host).before a0 Z = true) (via : Via Z R0 O fn d) {v : Value} (F : Sta Z Z.heap O fn d v)
    (hd : decode code pc = .ok (.getstatic idx, 3)) (hp : pc + 3 = pc') (K : Go p l e R s m args below meth c Z Q h k n (mkF m pc' Ls (v :: St))) : Go p l e R s m args below meth c Z Q h k n (mkF m pc Ls St) := by
  subst hp
  exact Go.old fun hE => Go.law0 (fun T L X eT => Jvm.RoadKit.getS2 X C.hx C.hZ C.hown w via eT (F.ext hE) (g := mkF m pc Ls St) rfl (C.d hd)) K
theorem Go.new (C : Cx p s m meth c code ml rty nm own Z) {cl : String} {idx sl : Nat} (w : (Jvm.Cond.classLink own idx cl).before a0 Z = true) (wi : (Jvm.Cond.instantiable cl sl).before a0 Z = true) (wz : (Jvm.Cond.initialized cl).before a0 Z = true) (hd : decode code pc = .ok (.new idx, 3)) (hp : pc + 3 = pc')
    (hk : k + 1 = k') (hn : n + sl = n') (hc : k' ≤ R.cells) (hl : n' ≤ R.slots)
    (K : ∀ (a : Addr) (h' : Heap), a = h.size → Z.heap.size ≤ a → Ext h h' → Exa Z h' a cl → (∀ {O fn d : String} {ty : FieldType}, Laid Z a0 cl O fn d → parseFieldDescriptor d = some ty → Fld Z h' a O fn d (defaultValue ty)) → Go p l e R s m args below meth c Z Q h' k' n' (mkF m pc' Ls (.ref a :: St))) :
    Go p l e R s m args below meth c Z Q h k n (mkF m pc Ls St) := by
  subst hp hk hn
  intro T L hE hF X eT
  obtain ⟨T', h2, X', e', E', A', D', -, st'⟩ := newO X C.hx C.hZ C.hown w wi wz eT (g := mkF m pc Ls St) rfl (C.d hd) hc hl
  obtain ⟨s₂, o, st, r⟩ := K _ h2 rfl hE.1 E' A' D' T' L (ext_trans hE E') hF X' e'
  exact ⟨s₂, o, st' _ st, r⟩
theorem Go.putF (C : Cx p s m meth c code ml rty nm own Z) {R0 O fn d host cl : String} {idx kk : Nat} {ty : FieldType} (w : (Jvm.Cond.fieldLink own idx R0 fn d).before a0 Z = true ∨ (Jvm.Cond.fieldLinkNest own idx R0 fn d host).before a0 Z = true) (via : Via Z R0 O fn d) {a : Addr} {v old : Value} (F : Fld Z h a O fn d old) (E : Exa Z h a cl)
    (Ly : (Jvm.Cond.lays cl O fn d).before a0 Z = true ∨ ((Jvm.Cond.laysFinal cl O fn d).before a0 Z = true ∧ own = O ∧ nm = "<init>")) (wi : (Jvm.Cond.instantiable cl kk).before a0 Z = true) (hty : parseFieldDescriptor d = some ty) (hn1 : narrow ty v = v) (hf : fits ty v = true) (ha : Z.heap.size ≤ a)
    (hd : decode code pc = .ok (.putfield idx, 3)) (hp : pc + 3 = pc')
    (K : ∀ h', Wr h h' a (Jvm.RoadKit.slotOf Z O fn d) v → Go p l e R s m args below meth c Z Q h' k n (mkF m pc' Ls St)) : Go p l e R s m args below meth c Z Q h k n (mkF m pc Ls (v :: .ref a :: St)) := by
  subst hp
  intro T L hE hF X eT
  obtain ⟨T', h2, X', e', W', st'⟩ := Jvm.RoadKit.putF X C.hx C.hZ C.hown w via eT F E (Ly.imp id fun q => ⟨q.1, q.2.1, C.hnm.trans q.2.2⟩) wi hty hn1 hf (g := mkF m pc Ls (v :: .ref a :: St)) rfl rfl (C.d hd)
  obtain ⟨s₂, o, st, r⟩ := K h2 W' T' _ (ext_wr hE W' ha) (Fr.snoc X' hF ha) X' e'
  exact ⟨s₂, o, st' _ st, r⟩
/-- a putfield of a boolean, byte, char or short: what lies there is the narrowed value -/
theorem Go.putFN (C : Cx p s m meth c code ml rty nm own Z) {R0 O fn d cl : String} {idx kk : Nat} {ty : FieldType} (w : (Jvm.Cond.fieldLink own idx R0 fn d).before a0 Z = true) (via : Via Z R0 O fn d) {a : Addr} {v v' old : Value} (F : Fld Z h a O fn d old) (E : Exa Z h a cl)
    (Ly : (Jvm.Cond.lays cl O fn d).before a0 Z = true ∨ ((Jvm.Cond.laysFinal cl O fn d).before a0 Z = true ∧ own = O ∧ nm = "<init>")) (wi : (Jvm.Cond.instantiable cl kk).before a0 Z = true) (hty : parseFieldDescriptor d = some ty) (hn1 : narrow ty v = v') (hf : fits ty v' = true) (ha : Z.heap.size ≤ a)
    (hd : decode code pc = .ok (.putfield idx, 3)) (hp : pc + 3 = pc')
    (K : ∀ h', Wr h h' a (Jvm.RoadKit.slotOf Z O fn d) v' → Go p l e R s m args below meth c Z Q h' k n (mkF m pc' Ls St)) : Go p l e R s m args below meth c Z Q h k n (mkF m pc Ls (v :: .ref a :: St)) := by
  subst hp
  intro T L hE hF X eT
  obtain ⟨T', h2, X', e', W', st'⟩ := Jvm.RoadKit.putFN X C.hx C.hZ C.hown w via eT F E (Ly.imp id fun q => ⟨q.1, q.2.1, C.hnm.trans q.2.2⟩) wi hty hn1 hf (g := mkF m pc Ls (v :: .ref a :: St)) rfl rfl (C.d hd)
  obtain ⟨s₂, o, st, r⟩ := K h2 W' T' _ (ext_wr hE W' ha) (Fr.snoc X' hF ha) X' e'
  exact ⟨s₂, o, st' _ st, r⟩
theorem Go.initO (C : Cx p s m meth c code ml rty nm own Z) {idx : Nat} (w1 : (Jvm.Cond.methodLink own idx Lib.objectInit).before a0 Z = true) (w2 : (Jvm.Cond.instanceMethod Lib.objectInit).before a0 Z = true) (w3 : (Jvm.Cond.code Lib.objectInit ⟨#[0xb1]⟩ 1 none).before a0 Z = true) {a : Addr}
    (hd : decode code pc = .ok (.invokespecial idx, 3)) (hp : pc + 3 = pc') (hs : Ls.size = ml) (hf : 1 ≤ R.frames) {W : Nat} (hW : (St.map fun v => v.category).sum ≤ W) (hl : W + 12 ≤ R.locals)
    (K : Go p l e R s m args below meth c Z Q h k n (mkF m pc' Ls St)) : Go p l e R s m args below meth c Z Q h k n (mkF m pc Ls (.ref a :: St)) := by
  subst hp
  exact Go.law0 (fun T L X eT => Jvm.RoadKit.initO X C.hx C.hZ C.hown w1 w2 w3 eT (g := mkF m pc Ls (.ref a :: St)) rfl (hs.trans C.hml.symm) rfl (C.d hd) hf (W := W) (by show 2 * 0 + _ ≤ _; omega) hl) K
theorem Go.newP (C : Cx p s m meth c code ml rty nm own Z) {aty : ArrayType} (w : (Jvm.Cond.arrayClass (newarray.typeOf aty)).before a0 Z = true) {z : Int32} (hz : ¬ z < 0) {cap : Nat} (hcap : z.toNatClampNeg ≤ cap) (hb : cap * 8 ≤ 536870912) (hd : decode code pc = .ok (.newarray aty, 2)) (hp : pc + 2 = pc')
    (hk : k + 1 = k') (hn : n + cap = n') (hc : k' ≤ R.cells) (hl : n' ≤ R.slots)
    (K : ∀ (a : Addr) (h' : Heap) (kA : ClassId), a = h.size → Z.heap.size ≤ a → Ext h h' → Arv Z h' a kA (newarray.typeOf aty) z [] (defaultValue (newarray.typeOf aty)) → Go p l e R s m args below meth c Z Q h' k' n' (mkF m pc' Ls (.ref a :: St))) :
    Go p l e R s m args below meth c Z Q h k n (mkF m pc Ls (.int z :: St)) := by
  subst hp hk hn
  intro T L hE hF X eT
  obtain ⟨T', h2, kA, X', e', E', A', st'⟩ := Jvm.RoadKit.newP X C.hx C.hZ w eT (g := mkF m pc Ls (.int z :: St)) rfl (C.d hd) rfl hz hcap hb hc hl
  obtain ⟨s₂, o, st, r⟩ := K _ h2 kA rfl hE.1 E' (Arv.new A' hz) T' L (ext_trans hE E') hF X' e'
  exact ⟨s₂, o, st' _ st, r⟩
theorem Go.stC (C : Cx p s m meth c code ml rty nm own Z) {a : Addr} {kA : ClassId} {z j x : Int32} {vs : List Value} {dv : Value} (V : Arv Z h a kA .char z vs dv) (hj : ¬ j < 0 ∧ j < z) {i : Nat} (hi : j.toNatClampNeg = i) (hlen : i < vs.length) (ha : Z.heap.size ≤ a)
    (hd : decode code pc = .ok (.castore, 1)) (hp : pc + 1 = pc')
    (K : ∀ h', Wr h h' a j.toNatClampNeg (.int (nar .char x)) → Arv Z h' a kA .char z (vs.set i (.int (nar .char x))) dv → Go p l e R s m args below meth c Z Q h' k n (mkF m pc' Ls St)) :
    Go p l e R s m args below meth c Z Q h k n (mkF m pc Ls (.int x :: .int j :: .ref a :: St)) := by
  subst hp
  intro T L hE hF X eT
  obtain ⟨cl, Ar, q1, S, N, H, G⟩ := V
  obtain ⟨T', h2, X', e', W', st'⟩ := Jvm.RoadKit.stC X C.hx C.hZ eT Ar (j := j) (inb_of S hj) (g := mkF m pc Ls (.int x :: .int j :: .ref a :: St)) rfl rfl (C.d hd)
  obtain ⟨s₂, o, st, r⟩ := K h2 W' (Arv.set Ar q1 S N H G (fits_nar_char _) W' i hi hlen) T' _ (ext_wr hE W' ha) (Fr.snoc X' hF ha) X' e'
  exact ⟨s₂, o, st' _ st, r⟩
/-! ### ends -/
theorem Go.ret {ty : FieldType} (C : Cx p s m meth c code ml (some ty) nm own Z) {w : Value} {i : Instr} (hn : narrow ty w = w)
    (hi : (i = .ireturn ∧ (ty = .int ∨ ty = .boolean ∨ ty = .byte ∨ ty = .char ∨ ty = .short) ∧ ∃ z, w = .int z) ∨ (i = .lreturn ∧ ty = .long ∧ ∃ z, w = .long z) ∨ (i = .dreturn ∧ ty = .double ∧ ∃ z, w = .double z) ∨ (i = .freturn ∧ ty = .float ∧ ∃ z, w = .float z) ∨ (i = .areturn ∧ ty.isReference = true ∧ w.isRef = true))
    (hd : decode code pc = .ok (i, 1)) (hk : k ≤ R.cells) (hl : n ≤ R.slots) (hQ : Q (some w) h) : Go p l e R s m args below meth c Z Q h k n (mkF m pc Ls (w :: St)) := by
  intro T L hE hF X eT
  obtain ⟨fs, hr, hrun, hended, hW, hsame⟩ := X.leave (v := some w) (fun q => by rw [C.hret] at q; cases q) C.hlk
  refine ⟨_, _, retOut X C.hx C.hret hn hi (C.d hd) hr, hrun, hended, _, L, rfl, ⟨?_, ?_, hF⟩, ⟨_, rfl⟩, hW, hsame.mono hk hl⟩
  · show Q (some w) T.heap
    rw [eT]; exact hQ
  · show Ext Z.heap T.heap
    rw [eT]; exact hE
theorem Go.retI (C : Cx p s m meth c code ml (some .int) nm own Z) {z : Int32} (hd : decode code pc = .ok (.ireturn, 1)) (hk : k ≤ R.cells) (hl : n ≤ R.slots) (hQ : Q (some (.int z)) h) : Go p l e R s m args below meth c Z Q h k n (mkF m pc Ls (.int z :: St)) :=
  Go.ret C rfl (Or.inl ⟨rfl, Or.inl rfl, z, rfl⟩) hd hk hl hQ
theorem Go.retA {ty : FieldType} (C : Cx p s m meth c code ml (some ty) nm own Z) {w : Value} (ht : ty.isReference = true) (hw : w.isRef = true) (hn : narrow ty w = w) (hd : decode code pc = .ok (.areturn, 1)) (hk : k ≤ R.cells) (hl : n ≤ R.slots) (hQ : Q (some w) h) : Go p l e R s m args below meth c Z Q h k n (mkF m pc Ls (w :: St)) :=
  Go.ret C hn (Or.inr (Or.inr (Or.inr (Or.inr ⟨rfl, ht, hw⟩)))) hd hk hl hQ
/-- ireturn of a boolean, byte, char or short: what is handed back is narrowed -/
theorem Go.retN {ty : FieldType} (C : Cx p s m meth c code ml (some ty) nm own Z) {z : Int32} (ht : ty = .boolean ∨ ty = .byte ∨ ty = .char ∨ ty = .short) (hd : decode code pc = .ok (.ireturn, 1)) (hk : k ≤ R.cells) (hl : n ≤ R.slots) (hQ : Q (some (.int (nar ty z))) h) : Go p l e R s m args below meth c Z Q h k n (mkF m pc Ls (.int z :: St)) := by
  intro T L hE hF X eT
  obtain ⟨fs, hr, hrun, hended, hW, hsame⟩ := X.leave (v := some (.int (nar ty z))) (fun q => by rw [C.hret] at q; cases q) C.hlk
  refine ⟨_, _, Jvm.RoadKit.retN X C.hx C.hret ht (C.d hd) hr, hrun, hended, _, L, rfl, ⟨?_, ?_, hF⟩, ⟨_, rfl⟩, hW, hsame.mono hk hl⟩
  · show Q (some (.int (nar ty z))) T.heap
    rw [eT]; exact hQ
  · show Ext Z.heap T.heap
    rw [eT]; exact hE
theorem Go.retV (C : Cx p s m meth c code ml none nm own Z) (hd : decode code pc = .ok (.return_, 1)) (hk : k ≤ R.cells) (hl : n ≤ R.slots) (hQ : Q none h) : Go p l e R s m args below meth c Z Q h k n (mkF m pc Ls []) := by
  intro T L hE hF X eT
  obtain ⟨fs, hr, hrun, hended, hW, hsame⟩ := X.leave (v := none) (fun _ => rfl) C.hlk
  refine ⟨_, _, X.returnOut C.hx C.hret (C.d hd) hr, hrun, hended, _, L, rfl, ⟨?_, ?_, hF⟩, ⟨_, rfl⟩, hW, hsame.mono hk hl⟩
  · show Q none T.heap
    rw [eT]; exact hQ
  · show Ext Z.heap T.heap
    rw [eT]; exact hE
/-! ### calls by a contract -/
variable {y : MethodName} {bytes : ByteArray} {ml' : Nat} {ret' : Option FieldType} {rm : Room} {as' : Array Value} {Q' : Option Value → Heap → Prop} {idx W dc ds : Nat} {argsL rest : List Value} {ps : List FieldType} {rt : Option FieldType} {Qr : Option Value → Heap → List Loc → Prop}
/-- what pays a call in this family: the arguments as', the heap h, dc cells and ds slots at the most -/
abbrev Pay (l : Launch) (R : Room) (p : Program) (e : Env) (below : List Frame) (s : State) (args : Array Value) (y : MethodName) (len W : Nat) (as' : Array Value) (h : Heap) (dc ds : Nat) (Qr : Option Value → Heap → List Loc → Prop) : Prop :=
  Back l R p e below s args y len W (fun A a => a = as' ∧ A.U.heap = h ∧ A.cells + dc ≤ R.cells ∧ A.slots + ds ≤ R.slots) (fun A _ v B => ∃ L, Qr v B.U.heap L ∧ B.locs = A.locs ++ L ∧ B.cells = A.cells + dc ∧ B.slots = A.slots + ds)
theorem Pays.pay {len : Nat} (P : Pays l Z y bytes ml' ret' rm as' h Q') (hE : Ext Z.heap h) (hZ : Z.Warmed39 s.vm) (wc : (Jvm.Cond.code y bytes ml' ret').before a0 Z = true) (wz : (Jvm.Cond.initialized y.cls).before a0 Z = true) (hf : rm.frames + 1 ≤ R.frames) (hl : W + (ml' + 11) + rm.locals ≤ R.locals) :
    Pay l R p e below s args y len W as' h rm.cells rm.slots (fun v h' L => Q' v h' ∧ Ext Z.heap h' ∧ Fr Z.heap.size L) := backOf (W := W) (Q := fun v h' L => Q' v h' ∧ Ext Z.heap h' ∧ Fr Z.heap.size L) (P hE []) hZ wc wz hf hl
theorem Go.staticB (C : Cx p s m meth c code ml rty nm own Z) (P : ∀ s', Z.Warmed39 s'.vm → Ext Z.heap h → Pay l R p e below s' args y 3 W as' h dc ds Qr) (hQ : ∀ v h' L, Ext Z.heap h → Qr v h' L → Q' v h' ∧ Ext Z.heap h' ∧ Fr Z.heap.size L) (wl : (Jvm.Cond.methodLink own idx y).before a0 Z = true) (ws : (Jvm.Cond.static y).before a0 Z = true) (wz : (Jvm.Cond.initialized y.cls).before a0 Z = true) (wc : (Jvm.Cond.code y bytes ml' ret').before a0 Z = true)
    (hy : y.cls ≠ "java/lang/invoke/MethodHandle" ∧ y.cls ≠ "java/lang/invoke/VarHandle") (hpd : parseMethodDescriptor y.desc = some ⟨ps, rt⟩) (hlen : argsL.length = ps.length) (has : argsL.toArray = as') (hd : decode code pc = .ok (.invokestatic idx, 3)) (hp : pc + 3 = pc') (hs : Ls.size = ml) (hst : St = argsL.reverse ++ rest)
    (hW : (rest.map fun v => v.category).sum ≤ W) (hk : k + dc = k') (hn : n + ds = n') (hc : k' ≤ R.cells) (hsl : n' ≤ R.slots)
    (K : ∀ v h', Q' v h' → Go p l e R s m args below meth c Z Q h' k' n' (mkF m pc' Ls (v.toList ++ rest))) : Go p l e R s m args below meth c Z Q h k n (mkF m pc Ls St) := by
  subst hp hk hn
  intro T L hE hF X eT
  obtain ⟨v, vm₁, ⟨T', L', k', n'⟩, -, X', ⟨Lc, hq, hL, hk, hn⟩, st'⟩ := Jvm.LawKit.callS X C.hx (y := y) C.hown (mvT C.hZ wl) (mvT C.hZ ws) (mvT C.hZ wz) (mvT C.hZ wc) hy (P s C.hZ hE) (g := mkF m pc Ls St) rfl (hs.trans C.hml.symm) (argsL := argsL) (rest := rest) (lenOf hpd hlen) hst (by show 2 * 0 + _ ≤ _; omega) (C.d hd) (fun _ _ => ⟨has, eT, hc, hsl⟩)
  dsimp only [Pt.U, Pt.locs, Pt.cells, Pt.slots] at X' hL hk hn st' hq
  subst hL hk hn
  obtain ⟨hq, hE', hF'⟩ := hQ _ _ _ hE hq
  obtain ⟨s₂, o, st, r⟩ := K v _ hq T' _ hE' (Fr.app hF hF') X' rfl
  exact ⟨s₂, o, st' _ st, r⟩
/-- a constructor -/
theorem Go.specialB (C : Cx p s m meth c code ml rty nm own Z) {a : Addr} (P : ∀ s', Z.Warmed39 s'.vm → Ext Z.heap h → Pay l R p e below s' args y 3 W as' h dc ds Qr) (hQ : ∀ v h' L, Ext Z.heap h → Qr v h' L → Q' v h' ∧ Ext Z.heap h' ∧ Fr Z.heap.size L) (hy1 : y.name = "<init>") (wl : (Jvm.Cond.methodLink own idx y).before a0 Z = true) (wi : (Jvm.Cond.instanceMethod y).before a0 Z = true) (wc : (Jvm.Cond.code y bytes ml' none).before a0 Z = true)
    (hy : y.cls ≠ "java/lang/invoke/MethodHandle" ∧ y.cls ≠ "java/lang/invoke/VarHandle") (hpd : parseMethodDescriptor y.desc = some ⟨ps, rt⟩) (hlen : argsL.length = ps.length) (has : (.ref a :: argsL).toArray = as') (hd : decode code pc = .ok (.invokespecial idx, 3)) (hp : pc + 3 = pc') (hs : Ls.size = ml) (hst : St = argsL.reverse ++ .ref a :: rest)
    (hW : (rest.map fun v => v.category).sum ≤ W) (hk : k + dc = k') (hn : n + ds = n') (hc : k' ≤ R.cells) (hsl : n' ≤ R.slots)
    (K : ∀ v h', Q' v h' → Go p l e R s m args below meth c Z Q h' k' n' (mkF m pc' Ls (v.toList ++ rest))) : Go p l e R s m args below meth c Z Q h k n (mkF m pc Ls St) := by
  subst hp hk hn
  intro T L hE hF X eT
  obtain ⟨v, vm₁, ⟨T', L', k', n'⟩, -, X', ⟨Lc, hq, hL, hk, hn⟩, st'⟩ := X.specialBack C.hx (y := y) hy1 C.hown (mvT C.hZ wl) (mvT C.hZ wi) (mvT C.hZ wc) hy (P s C.hZ hE) (g := mkF m pc Ls St) rfl (hs.trans C.hml.symm) (Steps.refl _) (a := a) (argsL := argsL) (rest := rest) (lenOf hpd hlen) hst (by show 2 * 0 + _ ≤ _; omega) (C.d hd) (fun _ _ => ⟨has, eT, hc, hsl⟩)
  dsimp only [Pt.U, Pt.locs, Pt.cells, Pt.slots] at X' hL hk hn st' hq
  subst hL hk hn
  obtain ⟨hq, hE', hF'⟩ := hQ _ _ _ hE hq
  obtain ⟨s₂, o, st, r⟩ := K v _ hq T' _ hE' (Fr.app hF hF') X' rfl
  exact ⟨s₂, o, st'.trans st, r⟩
/-- an instance method, on an object of exactly the class cl -/
theorem Go.virtB (C : Cx p s m meth c code ml rty nm own Z) {a : Addr} {cl : String} (P : ∀ s', Z.Warmed39 s'.vm → Ext Z.heap h → Pay l R p e below s' args y 3 W as' h dc ds Qr) (hQ : ∀ v h' L, Ext Z.heap h → Qr v h' L → Q' v h' ∧ Ext Z.heap h' ∧ Fr Z.heap.size L) (E : Exa Z h a cl) (wl : (Jvm.Cond.methodLink own idx y).before a0 Z = true) (wd : (Jvm.Cond.declares y).before a0 Z = true) (wse : (Jvm.Cond.selects cl y y).before a0 Z = true) (wi : (Jvm.Cond.instanceMethod y).before a0 Z = true)
    (hy : y.cls ≠ "java/lang/invoke/MethodHandle" ∧ y.cls ≠ "java/lang/invoke/VarHandle") (hpd : parseMethodDescriptor y.desc = some ⟨ps, rt⟩) (hlen : argsL.length = ps.length) (has : (.ref a :: argsL).toArray = as') (hd : decode code pc = .ok (.invokevirtual idx, 3)) (hp : pc + 3 = pc') (hs : Ls.size = ml) (hst : St = argsL.reverse ++ .ref a :: rest)
    (hW : (rest.map fun v => v.category).sum ≤ W) (hk : k + dc = k') (hn : n + ds = n') (hc : k' ≤ R.cells) (hsl : n' ≤ R.slots)
    (K : ∀ v h', Q' v h' → Go p l e R s m args below meth c Z Q h' k' n' (mkF m pc' Ls (v.toList ++ rest))) : Go p l e R s m args below meth c Z Q h k n (mkF m pc Ls St) := by
  subst hp hk hn
  intro T L hE hF X eT
  obtain ⟨cq, kq, qa, qb, qc⟩ := isOf (T := T) C.hZ eT E
  obtain ⟨v, vm₁, ⟨T', L', k', n'⟩, -, X', ⟨Lc, hq, hL, hk, hn⟩, st'⟩ := X.virtualBack C.hx (y := y) (z := y) C.hown (mvT C.hZ wl) (mvT C.hZ wd) (notFace_of_selects (args := #[]) (mvT C.hZ wse)) (mvT C.hZ wse) (mvT C.hZ wi) hy (P s C.hZ hE) qa qc (g := mkF m pc Ls St) rfl (hs.trans C.hml.symm) (Steps.refl _) (argsL := argsL) (rest := rest) (lenOf hpd hlen) hst (by show 2 * 0 + _ ≤ _; omega) (C.d hd) (fun _ _ => ⟨has, eT, hc, hsl⟩)
  dsimp only [Pt.U, Pt.locs, Pt.cells, Pt.slots] at X' hL hk hn st' hq
  subst hL hk hn
  obtain ⟨hq, hE', hF'⟩ := hQ _ _ _ hE hq
  obtain ⟨s₂, o, st, r⟩ := K v _ hq T' _ hE' (Fr.app hF hF') X' rfl
  exact ⟨s₂, o, st'.trans st, r⟩
theorem Go.static (C : Cx p s m meth c code ml rty nm own Z) (P : Pays l Z y bytes ml' ret' rm as' h Q') (wl : (Jvm.Cond.methodLink own idx y).before a0 Z = true) (ws : (Jvm.Cond.static y).before a0 Z = true) (wz : (Jvm.Cond.initialized y.cls).before a0 Z = true) (wc : (Jvm.Cond.code y bytes ml' ret').before a0 Z = true)
    (hy : y.cls ≠ "java/lang/invoke/MethodHandle" ∧ y.cls ≠ "java/lang/invoke/VarHandle") (hpd : parseMethodDescriptor y.desc = some ⟨ps, rt⟩) (hlen : argsL.length = ps.length) (has : argsL.toArray = as') (hd : decode code pc = .ok (.invokestatic idx, 3)) (hp : pc + 3 = pc') (hs : Ls.size = ml) (hst : St = argsL.reverse ++ rest)
    (hW : (rest.map fun v => v.category).sum ≤ W) (hf : rm.frames + 1 ≤ R.frames) (hl : W + (ml' + 11) + rm.locals ≤ R.locals) (hk : k + rm.cells = k') (hn : n + rm.slots = n') (hc : k' ≤ R.cells) (hsl : n' ≤ R.slots)
    (K : ∀ v h', Q' v h' → Go p l e R s m args below meth c Z Q h' k' n' (mkF m pc' Ls (v.toList ++ rest))) : Go p l e R s m args below meth c Z Q h k n (mkF m pc Ls St) :=
  Go.staticB C (fun s' hZ hE => P.pay hE hZ wc wz hf hl) (fun _ _ _ _ q => q) wl ws wz wc hy hpd hlen has hd hp hs hst hW hk hn hc hsl K
theorem Go.special (C : Cx p s m meth c code ml rty nm own Z) {a : Addr} (P : Pays l Z y bytes ml' none rm as' h Q') (hy1 : y.name = "<init>") (wl : (Jvm.Cond.methodLink own idx y).before a0 Z = true) (wi : (Jvm.Cond.instanceMethod y).before a0 Z = true) (wz : (Jvm.Cond.initialized y.cls).before a0 Z = true) (wc : (Jvm.Cond.code y bytes ml' none).before a0 Z = true)
    (hy : y.cls ≠ "java/lang/invoke/MethodHandle" ∧ y.cls ≠ "java/lang/invoke/VarHandle") (hpd : parseMethodDescriptor y.desc = some ⟨ps, rt⟩) (hlen : argsL.length = ps.length) (has : (.ref a :: argsL).toArray = as') (hd : decode code pc = .ok (.invokespecial idx, 3)) (hp : pc + 3 = pc') (hs : Ls.size = ml) (hst : St = argsL.reverse ++ .ref a :: rest)
    (hW : (rest.map fun v => v.category).sum ≤ W) (hf : rm.frames + 1 ≤ R.frames) (hl : W + (ml' + 11) + rm.locals ≤ R.locals) (hk : k + rm.cells = k') (hn : n + rm.slots = n') (hc : k' ≤ R.cells) (hsl : n' ≤ R.slots)
    (K : ∀ v h', Q' v h' → Go p l e R s m args below meth c Z Q h' k' n' (mkF m pc' Ls (v.toList ++ rest))) : Go p l e R s m args below meth c Z Q h k n (mkF m pc Ls St) :=
  Go.specialB C (fun s' hZ hE => P.pay hE hZ wc wz hf hl) (fun _ _ _ _ q => q) hy1 wl wi wc hy hpd hlen has hd hp hs hst hW hk hn hc hsl K
theorem Go.virt (C : Cx p s m meth c code ml rty nm own Z) {a : Addr} {cl : String} (P : Pays l Z y bytes ml' ret' rm as' h Q') (E : Exa Z h a cl) (wl : (Jvm.Cond.methodLink own idx y).before a0 Z = true) (wd : (Jvm.Cond.declares y).before a0 Z = true) (wse : (Jvm.Cond.selects cl y y).before a0 Z = true) (wi : (Jvm.Cond.instanceMethod y).before a0 Z = true)
    (wz : (Jvm.Cond.initialized y.cls).before a0 Z = true) (wc : (Jvm.Cond.code y bytes ml' ret').before a0 Z = true)
    (hy : y.cls ≠ "java/lang/invoke/MethodHandle" ∧ y.cls ≠ "java/lang/invoke/VarHandle") (hpd : parseMethodDescriptor y.desc = some ⟨ps, rt⟩) (hlen : argsL.length = ps.length) (has : (.ref a :: argsL).toArray = as') (hd : decode code pc = .ok (.invokevirtual idx, 3)) (hp : pc + 3 = pc') (hs : Ls.size = ml) (hst : St = argsL.reverse ++ .ref a :: rest)
    (hW : (rest.map fun v => v.category).sum ≤ W) (hf : rm.frames + 1 ≤ R.frames) (hl : W + (ml' + 11) + rm.locals ≤ R.locals) (hk : k + rm.cells = k') (hn : n + rm.slots = n') (hc : k' ≤ R.cells) (hsl : n' ≤ R.slots)
    (K : ∀ v h', Q' v h' → Go p l e R s m args below meth c Z Q h' k' n' (mkF m pc' Ls (v.toList ++ rest))) : Go p l e R s m args below meth c Z Q h k n (mkF m pc Ls St) :=
  Go.virtB C (fun s' hZ hE => P.pay hE hZ wc wz hf hl) (fun _ _ _ _ q => q) E wl wd wse wi hy hpd hlen has hd hp hs hst hW hk hn hc hsl K
/-! ### more single laws -/
theorem Go.ldcJ (C : Cx p s m meth c code ml rty nm own Z) {ix : Nat} {v : Int64} (w : (Jvm.Cond.constantLong own ix v).before a0 Z = true) (hd : decode code pc = .ok (.ldc2_w ix, 3)) (hp : pc + 3 = pc')
    (K : Go p l e R s m args below meth c Z Q h k n (mkF m pc' Ls (.long v :: St))) : Go p l e R s m args below meth c Z Q h k n (mkF m pc Ls St) := by
  subst hp
  exact Go.plain (fun T L X t q => X.ldc2Long C.hx C.hown (mv C.hZ w) (g := mkF m pc Ls St) rfl (C.d hd) t q) K
theorem Go.cast (C : Cx p s m meth c code ml rty nm own Z) {ix : Nat} {cK : String} {a : Addr} (w : (Jvm.Cond.classLink own ix cK).before a0 Z = true) (F : Ins Z h a cK true) (hd : decode code pc = .ok (.checkcast ix, 3)) (hp : pc + 3 = pc')
    (K : Go p l e R s m args below meth c Z Q h k n (mkF m pc' Ls (.ref a :: St))) : Go p l e R s m args below meth c Z Q h k n (mkF m pc Ls (.ref a :: St)) := by
  subst hp
  exact Go.law0 (fun T L X eT => castY X C.hx C.hZ C.hown w eT F (g := mkF m pc Ls (.ref a :: St)) rfl rfl (C.d hd)) K
theorem Go.castN (C : Cx p s m meth c code ml rty nm own Z) {ix : Nat} (hd : decode code pc = .ok (.checkcast ix, 3)) (hp : pc + 3 = pc')
    (K : Go p l e R s m args below meth c Z Q h k n (mkF m pc' Ls (.null :: St))) : Go p l e R s m args below meth c Z Q h k n (mkF m pc Ls (.null :: St)) := by
  subst hp
  exact Go.plain (fun T L X t q => X.checkcastNull C.hx (g := mkF m pc Ls (.null :: St)) rfl rfl (C.d hd) t q) K
theorem Go.instY (C : Cx p s m meth c code ml rty nm own Z) {ix : Nat} {cK : String} {a : Addr} (w : (Jvm.Cond.classLink own ix cK).before a0 Z = true) (F : Ins Z h a cK true) (hd : decode code pc = .ok (.instanceof ix, 3)) (hp : pc + 3 = pc')
    (K : Go p l e R s m args below meth c Z Q h k n (mkF m pc' Ls (.int 1 :: St))) : Go p l e R s m args below meth c Z Q h k n (mkF m pc Ls (.ref a :: St)) := by
  subst hp
  exact Go.law0 (fun T L X eT => Jvm.RoadKit.instY X C.hx C.hZ C.hown w eT F (g := mkF m pc Ls (.ref a :: St)) rfl rfl (C.d hd)) K
theorem Go.len (C : Cx p s m meth c code ml rty nm own Z) {a : Addr} {kA : ClassId} {ty : FieldType} {z : Int32} {vs : List Value} {dv : Value} (V : Arv Z h a kA ty z vs dv) (hd : decode code pc = .ok (.arraylength, 1)) (hp : pc + 1 = pc')
    (K : Go p l e R s m args below meth c Z Q h k n (mkF m pc' Ls (.int z :: St))) : Go p l e R s m args below meth c Z Q h k n (mkF m pc Ls (.ref a :: St)) := by
  subst hp
  intro T L hE hF X eT
  obtain ⟨cl, Ar, q1, S, N, H, G⟩ := V
  obtain ⟨s₂, o, st, r⟩ := K T L hE hF X eT
  rw [← len_of S N] at st
  exact ⟨s₂, o, X.arraylength C.hx (by rw [eT]; exact Ar.1) (State.isArrayOf_alike C.hZ.alike Ar.2.1) (g := mkF m pc Ls (.ref a :: St)) rfl rfl (C.d hd) _ st, r⟩
theorem Go.caload (C : Cx p s m meth c code ml rty nm own Z) {a : Addr} {kA : ClassId} {z j : Int32} {vs : List Value} {dv w : Value} (V : Arv Z h a kA .char z vs dv) (hj : ¬ j < 0 ∧ j < z) (hv : vs.getD j.toNatClampNeg dv = w) (hd : decode code pc = .ok (.caload, 1)) (hp : pc + 1 = pc')
    (K : Go p l e R s m args below meth c Z Q h k n (mkF m pc' Ls (w :: St))) : Go p l e R s m args below meth c Z Q h k n (mkF m pc Ls (.int j :: .ref a :: St)) := by
  subst hp
  intro T L hE hF X eT
  obtain ⟨cl, Ar, q1, S, N, H, G⟩ := V
  obtain ⟨s₂, o, st, r⟩ := K T L hE hF X eT
  exact ⟨s₂, o, X.caload C.hx (j := j) (v := w) (by rw [eT]; exact Ar.1) (State.isArrayOf_alike C.hZ.alike Ar.2.1) Ar.2.2 (inb_of S hj) (H.at (inb_of S hj) hv) (g := mkF m pc Ls (.int j :: .ref a :: St)) rfl rfl (C.d hd) _ st, r⟩
theorem Go.baload (C : Cx p s m meth c code ml rty nm own Z) {a : Addr} {kA : ClassId} {z j : Int32} {vs : List Value} {dv w : Value} (V : Arv Z h a kA .byte z vs dv) (hj : ¬ j < 0 ∧ j < z) (hv : vs.getD j.toNatClampNeg dv = w) (hd : decode code pc = .ok (.baload, 1)) (hp : pc + 1 = pc')
    (K : Go p l e R s m args below meth c Z Q h k n (mkF m pc' Ls (w :: St))) : Go p l e R s m args below meth c Z Q h k n (mkF m pc Ls (.int j :: .ref a :: St)) := by
  subst hp
  intro T L hE hF X eT
  obtain ⟨cl, Ar, q1, S, N, H, G⟩ := V
  obtain ⟨s₂, o, st, r⟩ := K T L hE hF X eT
  exact ⟨s₂, o, X.baloadBytes C.hx (j := j) (v := w) (by rw [eT]; exact Ar.1) (State.isArrayOf_alike C.hZ.alike Ar.2.1) Ar.2.2 (inb_of S hj) (H.at (inb_of S hj) hv) (g := mkF m pc Ls (.int j :: .ref a :: St)) rfl rfl (C.d hd) _ st, r⟩
theorem Go.aaload (C : Cx p s m meth c code ml rty nm own Z) {a : Addr} {kA : ClassId} {ty : FieldType} {z j : Int32} {vs : List Value} {dv w : Value} (V : Arv Z h a kA ty z vs dv) (hty : ty.isReference = true) (hj : ¬ j < 0 ∧ j < z) (hv : vs.getD j.toNatClampNeg dv = w) (hd : decode code pc = .ok (.aaload, 1)) (hp : pc + 1 = pc')
    (K : Go p l e R s m args below meth c Z Q h k n (mkF m pc' Ls (w :: St))) : Go p l e R s m args below meth c Z Q h k n (mkF m pc Ls (.int j :: .ref a :: St)) := by
  subst hp
  intro T L hE hF X eT
  obtain ⟨cl, Ar, q1, S, N, H, G⟩ := V
  obtain ⟨s₂, o, st, r⟩ := K T L hE hF X eT
  exact ⟨s₂, o, X.aaload C.hx (j := j) (v := w) (by rw [eT]; exact Ar.1) (State.isArrayOf_alike C.hZ.alike Ar.2.1) hty Ar.2.2 (inb_of S hj) (H.at (inb_of S hj) hv) (g := mkF m pc Ls (.int j :: .ref a :: St)) rfl rfl (C.d hd) _ st, r⟩
theorem Go.stB (C : Cx p s m meth c code ml rty nm own Z) {a : Addr} {kA : ClassId} {z j x : Int32} {vs : List Value} {dv : Value} (V : Arv Z h a kA .byte z vs dv) (hj : ¬ j < 0 ∧ j < z) {i : Nat} (hi : j.toNatClampNeg = i) (hlen : i < vs.length) (ha : Z.heap.size ≤ a)
    (hd : decode code pc = .ok (.bastore, 1)) (hp : pc + 1 = pc')
    (K : ∀ h', Wr h h' a j.toNatClampNeg (.int (nar .byte x)) → Arv Z h' a kA .byte z (vs.set i (.int (nar .byte x))) dv → Go p l e R s m args below meth c Z Q h' k n (mkF m pc' Ls St)) :
    Go p l e R s m args below meth c Z Q h k n (mkF m pc Ls (.int x :: .int j :: .ref a :: St)) := by
  subst hp
  intro T L hE hF X eT
  obtain ⟨cl, Ar, q1, S, N, H, G⟩ := V
  obtain ⟨T', h2, X', e', W', st'⟩ := Jvm.RoadKit.stB X C.hx C.hZ eT Ar (j := j) (inb_of S hj) (g := mkF m pc Ls (.int x :: .int j :: .ref a :: St)) rfl rfl (C.d hd)
  obtain ⟨s₂, o, st, r⟩ := K h2 W' (Arv.set Ar q1 S N H G (fits_nar_byte _) W' i hi hlen) T' _ (ext_wr hE W' ha) (Fr.snoc X' hF ha) X' e'
  exact ⟨s₂, o, st' _ st, r⟩
theorem Go.stR (C : Cx p s m meth c code ml rty nm own Z) {a : Addr} {kA : ClassId} {ty : FieldType} {z j : Int32} {v : Value} {vs : List Value} {dv : Value} (V : Arv Z h a kA ty z vs dv) (hty : ty.isReference = true) (hv : v.isRef = true) (F : Sto Z h a v) (hj : ¬ j < 0 ∧ j < z) {i : Nat} (hi : j.toNatClampNeg = i) (hlen : i < vs.length) (ha : Z.heap.size ≤ a)
    (hd : decode code pc = .ok (.aastore, 1)) (hp : pc + 1 = pc')
    (K : ∀ h', Wr h h' a j.toNatClampNeg v → Arv Z h' a kA ty z (vs.set i v) dv → Go p l e R s m args below meth c Z Q h' k n (mkF m pc' Ls St)) :
    Go p l e R s m args below meth c Z Q h k n (mkF m pc Ls (v :: .int j :: .ref a :: St)) := by
  subst hp
  intro T L hE hF X eT
  obtain ⟨cl, Ar, q1, S, N, H, G⟩ := V
  obtain ⟨T', h2, X', e', W', st'⟩ := Jvm.RoadKit.stR X C.hx C.hZ eT Ar (j := j) (inb_of S hj) hty F (g := mkF m pc Ls (v :: .int j :: .ref a :: St)) rfl rfl (C.d hd)
  obtain ⟨s₂, o, st, r⟩ := K h2 W' (Arv.set Ar q1 S N H G (fitR' hty hv) W' i hi hlen) T' _ (ext_wr hE W' ha) (Fr.snoc X' hF ha) X' e'
  exact ⟨s₂, o, st' _ st, r⟩
theorem Go.newR (C : Cx p s m meth c code ml rty nm own Z) {cC : String} {ix : Nat} (w1 : (Jvm.Cond.classLink own ix cC).before a0 Z = true) (w2 : (Jvm.Cond.arrayOver (.object cC)).before a0 Z = true) {z : Int32} (hz : ¬ z < 0) {cap : Nat} (hcap : z.toNatClampNeg ≤ cap) (hb : cap * 8 ≤ 536870912) (hd : decode code pc = .ok (.anewarray ix, 3)) (hp : pc + 3 = pc')
    (hk : k + 1 = k') (hn : n + cap = n') (hc : k' ≤ R.cells) (hl : n' ≤ R.slots)
    (K : ∀ (a : Addr) (h' : Heap) (kA : ClassId), a = h.size → Z.heap.size ≤ a → Ext h h' → Ovr Z kA cC → Arv Z h' a kA (.object cC) z [] .null → Go p l e R s m args below meth c Z Q h' k' n' (mkF m pc' Ls (.ref a :: St))) :
    Go p l e R s m args below meth c Z Q h k n (mkF m pc Ls (.int z :: St)) := by
  subst hp hk hn
  intro T L hE hF X eT
  obtain ⟨T', h2, kA, X', e', E', A', O', st'⟩ := Jvm.RoadKit.newR X C.hx C.hZ C.hown w1 w2 eT (g := mkF m pc Ls (.int z :: St)) rfl (C.d hd) rfl hz hcap hb hc hl
  obtain ⟨s₂, o, st, r⟩ := K _ h2 kA rfl hE.1 E' O' (Arv.new A' hz) T' L (ext_trans hE E') hF X' e'
  exact ⟨s₂, o, st' _ st, r⟩
/-- invokevirtual of a private method -/
theorem Go.privB (C : Cx p s m meth c code ml rty nm own Z) {a : Addr} {cl : String} (P : ∀ s', Z.Warmed39 s'.vm → Ext Z.heap h → Pay l R p e below s' args y 3 W as' h dc ds Qr) (hQ : ∀ v h' L, Ext Z.heap h → Qr v h' L → Q' v h' ∧ Ext Z.heap h' ∧ Fr Z.heap.size L) (E : Exa Z h a cl) (wl : (Jvm.Cond.methodLink own idx y).before a0 Z = true) (wi : (Jvm.Cond.instanceMethod y).before a0 Z = true) (wse : (Jvm.Cond.selects y.cls y y).before a0 Z = true) (wp : (Jvm.Cond.privateMethod y).before a0 Z = true)
    (wc : (Jvm.Cond.code y bytes ml' ret').before a0 Z = true)
    (hy : y.cls ≠ "java/lang/invoke/MethodHandle" ∧ y.cls ≠ "java/lang/invoke/VarHandle") (hpd : parseMethodDescriptor y.desc = some ⟨ps, rt⟩) (hlen : argsL.length = ps.length) (has : (.ref a :: argsL).toArray = as') (hd : decode code pc = .ok (.invokevirtual idx, 3)) (hp : pc + 3 = pc') (hs : Ls.size = ml) (hst : St = argsL.reverse ++ .ref a :: rest)
    (hW : (rest.map fun v => v.category).sum ≤ W) (hk : k + dc = k') (hn : n + ds = n') (hc : k' ≤ R.cells) (hsl : n' ≤ R.slots)
    (K : ∀ v h', Q' v h' → Go p l e R s m args below meth c Z Q h' k' n' (mkF m pc' Ls (v.toList ++ rest))) : Go p l e R s m args below meth c Z Q h k n (mkF m pc Ls St) := by
  subst hp hk hn
  intro T L hE hF X eT
  obtain ⟨cq, q1, q2⟩ := E.cell
  obtain ⟨v, vm₁, ⟨T', L', k', n'⟩, -, X', ⟨Lc, hq, hL, hk, hn⟩, st'⟩ := X.privateBack C.hx (y := y) C.hown (mvT C.hZ wl) (mvT C.hZ wi) (mvT C.hZ wse) (Cond.privateMethod_at (mvP C.hZ wp (args := #[]))) (mvT C.hZ wc) hy (P s C.hZ hE) (g := mkF m pc Ls St) rfl (hs.trans C.hml.symm) (Steps.refl _) (a := a) (by rw [eT]; exact q1) q2 (argsL := argsL) (rest := rest) (lenOf hpd hlen) hst (by show 2 * 0 + _ ≤ _; omega) (C.d hd) (fun _ _ => ⟨has, eT, hc, hsl⟩)
  dsimp only [Pt.U, Pt.locs, Pt.cells, Pt.slots] at X' hL hk hn st' hq
  subst hL hk hn
  obtain ⟨hq, hE', hF'⟩ := hQ _ _ _ hE hq
  obtain ⟨s₂, o, st, r⟩ := K v _ hq T' _ hE' (Fr.app hF hF') X' rfl
  exact ⟨s₂, o, st'.trans st, r⟩
/-- invokeinterface, the interface's own method -/
theorem Go.ifaceB (C : Cx p s m meth c code ml rty nm own Z) {a : Addr} {cl : String} {xi : MethodName} {cnt : Nat} (P : ∀ s', Z.Warmed39 s'.vm → Ext Z.heap h → Pay l R p e below s' args y 5 W as' h dc ds Qr) (hQ : ∀ v h' L, Ext Z.heap h → Qr v h' L → Q' v h' ∧ Ext Z.heap h' ∧ Fr Z.heap.size L) (E : Exa Z h a cl) (wl : (Jvm.Cond.methodLink own idx xi).before a0 Z = true) (wd : (Jvm.Cond.declares xi).before a0 Z = true) (wf : (Jvm.Cond.interfaceMethod xi.cls xi.cls xi.name xi.desc).before a0 Z = true) (wse : (Jvm.Cond.selects cl xi y).before a0 Z = true)
    (wi : (Jvm.Cond.instanceMethod y).before a0 Z = true) (wpu : (Jvm.Cond.publicMethod y).before a0 Z = true) (wu : (Jvm.Cond.unhidden cl xi.name xi.desc).before a0 Z = true) (wca : (Jvm.Cond.castable cl xi.cls).before a0 Z = true)
    (hy : xi.cls ≠ "java/lang/invoke/MethodHandle" ∧ xi.cls ≠ "java/lang/invoke/VarHandle") (hpd : parseMethodDescriptor xi.desc = some ⟨ps, rt⟩) (hlen : argsL.length = ps.length) (has : (.ref a :: argsL).toArray = as') (hd : decode code pc = .ok (.invokeinterface idx cnt, 5)) (hp : pc + 5 = pc') (hs : Ls.size = ml) (hst : St = argsL.reverse ++ .ref a :: rest)
    (hW : (rest.map fun v => v.category).sum ≤ W) (hk : k + dc = k') (hn : n + ds = n') (hc : k' ≤ R.cells) (hsl : n' ≤ R.slots)
    (K : ∀ v h', Q' v h' → Go p l e R s m args below meth c Z Q h' k' n' (mkF m pc' Ls (v.toList ++ rest))) : Go p l e R s m args below meth c Z Q h k n (mkF m pc Ls St) := by
  subst hp hk hn
  intro T L hE hF X eT
  obtain ⟨cq, kq, qa, qb, qc⟩ := isOf (T := T) C.hZ eT E
  obtain ⟨v, vm₁, ⟨T', L', k', n'⟩, -, X', ⟨Lc, hq, hL, hk, hn⟩, st'⟩ := X.interfaceBack C.hx (xi := xi) (y := y) C.hown (mvT C.hZ wl) (mvT C.hZ wd) (mvT C.hZ wf (faceOk hy)) (mvT C.hZ wse) (mvT C.hZ wi) (mvT C.hZ wpu) (mvT C.hZ wu) (mvT C.hZ wca) hy (P s C.hZ hE) qa qb qc (g := mkF m pc Ls St) rfl (hs.trans C.hml.symm) (Steps.refl _) (argsL := argsL) (rest := rest) (lenOf hpd hlen) hst (by show 2 * 0 + _ ≤ _; omega) (C.d hd) (fun _ _ => ⟨has, eT, hc, hsl⟩)
  dsimp only [Pt.U, Pt.locs, Pt.cells, Pt.slots] at X' hL hk hn st' hq
  subst hL hk hn
  obtain ⟨hq, hE', hF'⟩ := hQ _ _ _ hE hq
  obtain ⟨s₂, o, st, r⟩ := K v _ hq T' _ hE' (Fr.app hF hF') X' rfl
  exact ⟨s₂, o, st'.trans st, r⟩
end Core
end Jvm.Own
namespace Jvm.Pilot.@@N@@
open Jvm Jvm.ClassFile Sem Op Lib Jvm.Free Jvm.Stand Jvm.LawKit Jvm.RoadKit Bundle Jvm.Own Jvm.Pilot.@@N@@.Jvm.D
theorem pd_0 : parseMethodDescriptor "()Z" = some ⟨[], some .boolean⟩ := by decide +kernel
theorem mod5 (x : Int32) : ((x &&& (2147483647 : Int32)) % (5 : Int32)) = 0 ∨ ((x &&& (2147483647 : Int32)) % (5 : Int32)) = 1 ∨ ((x &&& (2147483647 : Int32)) % (5 : Int32)) = 2 ∨ ((x &&& (2147483647 : Int32)) % (5 : Int32)) = 3 ∨ ((x &&& (2147483647 : Int32)) % (5 : Int32)) = 4 := by
  have h1 := c_mask x 2147483647 31 (by decide) (by decide)
  have h2 := (c_irem (x &&& 2147483647) 5 5 (by decide)).1 (by rw [h1]; omega)
  have e0 : (0 : Int32).toInt = 0 := rfl
  have e1 : (1 : Int32).toInt = 1 := rfl
  have e2 : (2 : Int32).toInt = 2 := rfl
  have e3 : (3 : Int32).toInt = 3 := rfl
  have e4 : (4 : Int32).toInt = 4 := rfl
  simp only [← Int32.toInt_inj, e0, e1, e2, e3, e4]
  omega
theorem fldI {args : Array Value} {first s : State} {o : Option Outcome} {idx : List Nat} {t : Term} {n : Int32} (h : (Jvm.Cond.eq t (.int n)).value args first o s idx = some true) : t.eval args first o idx s = some (.int n) := by
  obtain ⟨x, y, e1, e2, k1, k2⟩ := cmp_v (Or.inl h)
  have e3 : y = .int n := (Option.some.inj ((Term.int_eval n).symm.trans e2)).symm
  subst e3
  obtain ⟨z, rfl⟩ := k2
  have q : (Jvm.Cond.eq t (.int n)).value args first o s idx = some (decide (z = n)) := by simp [Jvm.Cond.value, e1, e2]
  rw [e1, gotT q h]
theorem d_cal0_0 : decode prog_72_method_6_code 0 = .ok (.aload_n 0, 1) := by decide +kernel
theorem d_cal0_1 : decode prog_72_method_6_code 1 = .ok (.getstatic 3, 3) := by decide +kernel
theorem d_cal0_4 : decode prog_72_method_6_code 4 = .ok (.if_acmp .eq 17, 3) := by decide +kernel
theorem d_cal0_21 : decode prog_72_method_6_code 21 = .ok (.iconst 1, 1) := by decide +kernel
theorem d_cal0_22 : decode prog_72_method_6_code 22 = .ok (.goto 4, 3) := by decide +kernel
theorem d_cal0_26 : decode prog_72_method_6_code 26 = .ok (.ireturn, 1) := by decide +kernel
theorem pn_cal0 : plainName "com/example/tejuelo/tejuelo/core/Verdict" = true := by first | (simp [plainName, overriddenIn]; done) | decide +kernel
theorem ef_cal0 (m : MethodId) (x0 : Addr)  : entryFrame m #[(.ref x0)] 1 = mkF m 0 #[.val (.ref x0)] [] := by first | (simp [entryFrame, mkF, argsToLocals, Value.category]; done) | rfl
set_option maxRecDepth 65536 in
set_option maxHeartbeats 40000000 in
theorem P_cal0 (l : Launch) (Z : State) (a0 : Array Value) (hw : ∀ d ∈ tables_1, d.before a0 Z = true) (c0 c1 c2 : Addr) (h0 : Heap) (S0 : Sta Z Z.heap "com/example/tejuelo/tejuelo/core/Verdict" "REJECTED" "Lcom/example/tejuelo/tejuelo/core/Verdict;" (.ref c0)) (S1 : Sta Z Z.heap "com/example/tejuelo/tejuelo/core/Verdict" "NOT_HARVESTED" "Lcom/example/tejuelo/tejuelo/core/Verdict;" (.ref c1)) (S2 : Sta Z Z.heap "com/example/tejuelo/tejuelo/core/Verdict" "INCOMPLETE" "Lcom/example/tejuelo/tejuelo/core/Verdict;" (.ref c2)) (n1 : ¬ c0 = c1) (n2 : ¬ c0 = c2) :
    Pays l Z (⟨"com/example/tejuelo/tejuelo/core/Verdict", "isFindingVerdict", "()Z"⟩ : MethodName) prog_72_method_6_code 1 (some .boolean) ({ frames := 0, cells := 0, slots := 0, locals := 0 } : Room) #[(.ref c0)] h0 (fun v h => v = some (.int (1 : Int32)) ∧ h0 = h) := by
  refine pays_of_go (plainFor_of_name pn_cal0) (fun m => ef_cal0 m c0) ?_
  intro p e s m below meth c C0
  have C : Cx p s m meth c prog_72_method_6_code 1 (some .boolean) "isFindingVerdict" "com/example/tejuelo/tejuelo/core/Verdict" Z := C0
  show Go p l e ({ frames := 0, cells := 0, slots := 0, locals := 0 } : Room) s m #[(.ref c0)] below meth c Z (fun v h => v = some (.int (1 : Int32)) ∧ h0 = h) h0 0 0 (mkF m 0 #[.val (.ref c0)] [])
  refine Go.plain (g' := (mkF m 1 #[.val (.ref c0)] [(.ref c0)])) (fun T L X t q => XS.aloadN X.here C.hx rfl (C.d d_cal0_0) rfl rfl q) ?_
  refine Go.getS C (host := "") (Or.inl (hw _ (List.mem_of_getElem? (i := 9) rfl))) Via.refl S0 d_cal0_1 (pc' := 4) rfl ?_
  refine Go.plain (g' := (mkF m 21 #[.val (.ref c0)] [])) (fun T L X t q => Jvm.RoadKit.acmp (g := (mkF m 4 #[.val (.ref c0)] [(.ref c0), (.ref c0)])) X C.hx rfl rfl rfl (pc0 := 4) (pc' := 21) (same := true) rfl (C.d d_cal0_4) rfl (decide_eq_true rfl) (by decide) (by decide) q) ?_
  refine Go.plain (g' := (mkF m 22 #[.val (.ref c0)] [(.int (1 : Int32))])) (fun T L X t q => XS.iconst X.here C.hx rfl (C.d d_cal0_21) q) ?_
  refine Go.plain (g' := (mkF m 26 #[.val (.ref c0)] [(.int (1 : Int32))])) (fun T L X t q => XS.goto X.here C.hx rfl (pc0 := 22) (pc' := 26) rfl (C.d d_cal0_22) (by decide) (by decide) q) ?_
  exact Go.retN C (by simp) d_cal0_26 (by decide) (by decide) ⟨rfl, rfl⟩
theorem d_cal1_0 : decode prog_72_method_6_code 0 = .ok (.aload_n 0, 1) := by decide +kernel
theorem d_cal1_1 : decode prog_72_method_6_code 1 = .ok (.getstatic 3, 3) := by decide +kernel
theorem d_cal1_4 : decode prog_72_method_6_code 4 = .ok (.if_acmp .eq 17, 3) := by decide +kernel
theorem d_cal1_7 : decode prog_72_method_6_code 7 = .ok (.aload_n 0, 1) := by decide +kernel
theorem d_cal1_8 : decode prog_72_method_6_code 8 = .ok (.getstatic 7, 3) := by decide +kernel
theorem d_cal1_11 : decode prog_72_method_6_code 11 = .ok (.if_acmp .eq 10, 3) := by decide +kernel
theorem d_cal1_21 : decode prog_72_method_6_code 21 = .ok (.iconst 1, 1) := by decide +kernel
theorem d_cal1_22 : decode prog_72_method_6_code 22 = .ok (.goto 4, 3) := by decide +kernel
theorem d_cal1_26 : decode prog_72_method_6_code 26 = .ok (.ireturn, 1) := by decide +kernel
theorem pn_cal1 : plainName "com/example/tejuelo/tejuelo/core/Verdict" = true := by first | (simp [plainName, overriddenIn]; done) | decide +kernel
theorem ef_cal1 (m : MethodId) (x0 : Addr)  : entryFrame m #[(.ref x0)] 1 = mkF m 0 #[.val (.ref x0)] [] := by first | (simp [entryFrame, mkF, argsToLocals, Value.category]; done) | rfl
set_option maxRecDepth 65536 in
set_option maxHeartbeats 40000000 in
theorem P_cal1 (l : Launch) (Z : State) (a0 : Array Value) (hw : ∀ d ∈ tables_1, d.before a0 Z = true) (c0 c1 c2 : Addr) (h0 : Heap) (S0 : Sta Z Z.heap "com/example/tejuelo/tejuelo/core/Verdict" "REJECTED" "Lcom/example/tejuelo/tejuelo/core/Verdict;" (.ref c0)) (S1 : Sta Z Z.heap "com/example/tejuelo/tejuelo/core/Verdict" "NOT_HARVESTED" "Lcom/example/tejuelo/tejuelo/core/Verdict;" (.ref c1)) (S2 : Sta Z Z.heap "com/example/tejuelo/tejuelo/core/Verdict" "INCOMPLETE" "Lcom/example/tejuelo/tejuelo/core/Verdict;" (.ref c2)) (n0 : ¬ c1 = c0) (n2 : ¬ c1 = c2) :
    Pays l Z (⟨"com/example/tejuelo/tejuelo/core/Verdict", "isFindingVerdict", "()Z"⟩ : MethodName) prog_72_method_6_code 1 (some .boolean) ({ frames := 0, cells := 0, slots := 0, locals := 0 } : Room) #[(.ref c1)] h0 (fun v h => v = some (.int (1 : Int32)) ∧ h0 = h) := by
  refine pays_of_go (plainFor_of_name pn_cal1) (fun m => ef_cal1 m c1) ?_
  intro p e s m below meth c C0
  have C : Cx p s m meth c prog_72_method_6_code 1 (some .boolean) "isFindingVerdict" "com/example/tejuelo/tejuelo/core/Verdict" Z := C0
  show Go p l e ({ frames := 0, cells := 0, slots := 0, locals := 0 } : Room) s m #[(.ref c1)] below meth c Z (fun v h => v = some (.int (1 : Int32)) ∧ h0 = h) h0 0 0 (mkF m 0 #[.val (.ref c1)] [])
  refine Go.plain (g' := (mkF m 1 #[.val (.ref c1)] [(.ref c1)])) (fun T L X t q => XS.aloadN X.here C.hx rfl (C.d d_cal1_0) rfl rfl q) ?_
  refine Go.getS C (host := "") (Or.inl (hw _ (List.mem_of_getElem? (i := 9) rfl))) Via.refl S0 d_cal1_1 (pc' := 4) rfl ?_
  refine Go.plain (g' := (mkF m 7 #[.val (.ref c1)] [])) (fun T L X t q => Jvm.RoadKit.acmp (g := (mkF m 4 #[.val (.ref c1)] [(.ref c0), (.ref c1)])) X C.hx rfl rfl rfl (pc0 := 4) (pc' := 7) (same := false) rfl (C.d d_cal1_4) rfl (decide_eq_false fun q => n0 (Value.ref.inj q)) (by decide) (by decide) q) ?_
  refine Go.plain (g' := (mkF m 8 #[.val (.ref c1)] [(.ref c1)])) (fun T L X t q => XS.aloadN X.here C.hx rfl (C.d d_cal1_7) rfl rfl q) ?_
  refine Go.getS C (host := "") (Or.inl (hw _ (List.mem_of_getElem? (i := 12) rfl))) Via.refl S1 d_cal1_8 (pc' := 11) rfl ?_
  refine Go.plain (g' := (mkF m 21 #[.val (.ref c1)] [])) (fun T L X t q => Jvm.RoadKit.acmp (g := (mkF m 11 #[.val (.ref c1)] [(.ref c1), (.ref c1)])) X C.hx rfl rfl rfl (pc0 := 11) (pc' := 21) (same := true) rfl (C.d d_cal1_11) rfl (decide_eq_true rfl) (by decide) (by decide) q) ?_
  refine Go.plain (g' := (mkF m 22 #[.val (.ref c1)] [(.int (1 : Int32))])) (fun T L X t q => XS.iconst X.here C.hx rfl (C.d d_cal1_21) q) ?_
  refine Go.plain (g' := (mkF m 26 #[.val (.ref c1)] [(.int (1 : Int32))])) (fun T L X t q => XS.goto X.here C.hx rfl (pc0 := 22) (pc' := 26) rfl (C.d d_cal1_22) (by decide) (by decide) q) ?_
  exact Go.retN C (by simp) d_cal1_26 (by decide) (by decide) ⟨rfl, rfl⟩
theorem d_cal2_0 : decode prog_72_method_6_code 0 = .ok (.aload_n 0, 1) := by decide +kernel
theorem d_cal2_1 : decode prog_72_method_6_code 1 = .ok (.getstatic 3, 3) := by decide +kernel
theorem d_cal2_4 : decode prog_72_method_6_code 4 = .ok (.if_acmp .eq 17, 3) := by decide +kernel
theorem d_cal2_7 : decode prog_72_method_6_code 7 = .ok (.aload_n 0, 1) := by decide +kernel
theorem d_cal2_8 : decode prog_72_method_6_code 8 = .ok (.getstatic 7, 3) := by decide +kernel
theorem d_cal2_11 : decode prog_72_method_6_code 11 = .ok (.if_acmp .eq 10, 3) := by decide +kernel
theorem d_cal2_14 : decode prog_72_method_6_code 14 = .ok (.aload_n 0, 1) := by decide +kernel
theorem d_cal2_15 : decode prog_72_method_6_code 15 = .ok (.getstatic 10, 3) := by decide +kernel
theorem d_cal2_18 : decode prog_72_method_6_code 18 = .ok (.if_acmp .ne 7, 3) := by decide +kernel
theorem d_cal2_21 : decode prog_72_method_6_code 21 = .ok (.iconst 1, 1) := by decide +kernel
theorem d_cal2_22 : decode prog_72_method_6_code 22 = .ok (.goto 4, 3) := by decide +kernel
theorem d_cal2_26 : decode prog_72_method_6_code 26 = .ok (.ireturn, 1) := by decide +kernel
theorem pn_cal2 : plainName "com/example/tejuelo/tejuelo/core/Verdict" = true := by first | (simp [plainName, overriddenIn]; done) | decide +kernel
theorem ef_cal2 (m : MethodId) (x0 : Addr)  : entryFrame m #[(.ref x0)] 1 = mkF m 0 #[.val (.ref x0)] [] := by first | (simp [entryFrame, mkF, argsToLocals, Value.category]; done) | rfl
set_option maxRecDepth 65536 in
set_option maxHeartbeats 40000000 in
theorem P_cal2 (l : Launch) (Z : State) (a0 : Array Value) (hw : ∀ d ∈ tables_1, d.before a0 Z = true) (c0 c1 c2 : Addr) (h0 : Heap) (S0 : Sta Z Z.heap "com/example/tejuelo/tejuelo/core/Verdict" "REJECTED" "Lcom/example/tejuelo/tejuelo/core/Verdict;" (.ref c0)) (S1 : Sta Z Z.heap "com/example/tejuelo/tejuelo/core/Verdict" "NOT_HARVESTED" "Lcom/example/tejuelo/tejuelo/core/Verdict;" (.ref c1)) (S2 : Sta Z Z.heap "com/example/tejuelo/tejuelo/core/Verdict" "INCOMPLETE" "Lcom/example/tejuelo/tejuelo/core/Verdict;" (.ref c2)) (n0 : ¬ c2 = c0) (n1 : ¬ c2 = c1) :
    Pays l Z (⟨"com/example/tejuelo/tejuelo/core/Verdict", "isFindingVerdict", "()Z"⟩ : MethodName) prog_72_method_6_code 1 (some .boolean) ({ frames := 0, cells := 0, slots := 0, locals := 0 } : Room) #[(.ref c2)] h0 (fun v h => v = some (.int (1 : Int32)) ∧ h0 = h) := by
  refine pays_of_go (plainFor_of_name pn_cal2) (fun m => ef_cal2 m c2) ?_
  intro p e s m below meth c C0
  have C : Cx p s m meth c prog_72_method_6_code 1 (some .boolean) "isFindingVerdict" "com/example/tejuelo/tejuelo/core/Verdict" Z := C0
  show Go p l e ({ frames := 0, cells := 0, slots := 0, locals := 0 } : Room) s m #[(.ref c2)] below meth c Z (fun v h => v = some (.int (1 : Int32)) ∧ h0 = h) h0 0 0 (mkF m 0 #[.val (.ref c2)] [])
  refine Go.plain (g' := (mkF m 1 #[.val (.ref c2)] [(.ref c2)])) (fun T L X t q => XS.aloadN X.here C.hx rfl (C.d d_cal2_0) rfl rfl q) ?_
  refine Go.getS C (host := "") (Or.inl (hw _ (List.mem_of_getElem? (i := 9) rfl))) Via.refl S0 d_cal2_1 (pc' := 4) rfl ?_
  refine Go.plain (g' := (mkF m 7 #[.val (.ref c2)] [])) (fun T L X t q => Jvm.RoadKit.acmp (g := (mkF m 4 #[.val (.ref c2)] [(.ref c0), (.ref c2)])) X C.hx rfl rfl rfl (pc0 := 4) (pc' := 7) (same := false) rfl (C.d d_cal2_4) rfl (decide_eq_false fun q => n0 (Value.ref.inj q)) (by decide) (by decide) q) ?_
  refine Go.plain (g' := (mkF m 8 #[.val (.ref c2)] [(.ref c2)])) (fun T L X t q => XS.aloadN X.here C.hx rfl (C.d d_cal2_7) rfl rfl q) ?_
  refine Go.getS C (host := "") (Or.inl (hw _ (List.mem_of_getElem? (i := 12) rfl))) Via.refl S1 d_cal2_8 (pc' := 11) rfl ?_
  refine Go.plain (g' := (mkF m 14 #[.val (.ref c2)] [])) (fun T L X t q => Jvm.RoadKit.acmp (g := (mkF m 11 #[.val (.ref c2)] [(.ref c1), (.ref c2)])) X C.hx rfl rfl rfl (pc0 := 11) (pc' := 14) (same := false) rfl (C.d d_cal2_11) rfl (decide_eq_false fun q => n1 (Value.ref.inj q)) (by decide) (by decide) q) ?_
  refine Go.plain (g' := (mkF m 15 #[.val (.ref c2)] [(.ref c2)])) (fun T L X t q => XS.aloadN X.here C.hx rfl (C.d d_cal2_14) rfl rfl q) ?_
  refine Go.getS C (host := "") (Or.inl (hw _ (List.mem_of_getElem? (i := 14) rfl))) Via.refl S2 d_cal2_15 (pc' := 18) rfl ?_
  refine Go.plain (g' := (mkF m 21 #[.val (.ref c2)] [])) (fun T L X t q => Jvm.RoadKit.acmp (g := (mkF m 18 #[.val (.ref c2)] [(.ref c2), (.ref c2)])) X C.hx rfl rfl rfl (pc0 := 18) (pc' := 21) (same := true) rfl (C.d d_cal2_18) rfl (decide_eq_true rfl) (by decide) (by decide) q) ?_
  refine Go.plain (g' := (mkF m 22 #[.val (.ref c2)] [(.int (1 : Int32))])) (fun T L X t q => XS.iconst X.here C.hx rfl (C.d d_cal2_21) q) ?_
  refine Go.plain (g' := (mkF m 26 #[.val (.ref c2)] [(.int (1 : Int32))])) (fun T L X t q => XS.goto X.here C.hx rfl (pc0 := 22) (pc' := 26) rfl (C.d d_cal2_22) (by decide) (by decide) q) ?_
  exact Go.retN C (by simp) d_cal2_26 (by decide) (by decide) ⟨rfl, rfl⟩
theorem d_cal3_0 : decode prog_72_method_6_code 0 = .ok (.aload_n 0, 1) := by decide +kernel
theorem d_cal3_1 : decode prog_72_method_6_code 1 = .ok (.getstatic 3, 3) := by decide +kernel
theorem d_cal3_4 : decode prog_72_method_6_code 4 = .ok (.if_acmp .eq 17, 3) := by decide +kernel
theorem d_cal3_7 : decode prog_72_method_6_code 7 = .ok (.aload_n 0, 1) := by decide +kernel
theorem d_cal3_8 : decode prog_72_method_6_code 8 = .ok (.getstatic 7, 3) := by decide +kernel
theorem d_cal3_11 : decode prog_72_method_6_code 11 = .ok (.if_acmp .eq 10, 3) := by decide +kernel
theorem d_cal3_14 : decode prog_72_method_6_code 14 = .ok (.aload_n 0, 1) := by decide +kernel
theorem d_cal3_15 : decode prog_72_method_6_code 15 = .ok (.getstatic 10, 3) := by decide +kernel
theorem d_cal3_18 : decode prog_72_method_6_code 18 = .ok (.if_acmp .ne 7, 3) := by decide +kernel
theorem d_cal3_25 : decode prog_72_method_6_code 25 = .ok (.iconst 0, 1) := by decide +kernel
theorem d_cal3_26 : decode prog_72_method_6_code 26 = .ok (.ireturn, 1) := by decide +kernel
theorem pn_cal3 : plainName "com/example/tejuelo/tejuelo/core/Verdict" = true := by first | (simp [plainName, overriddenIn]; done) | decide +kernel
theorem ef_cal3 (m : MethodId) (x0 : Addr)  : entryFrame m #[(.ref x0)] 1 = mkF m 0 #[.val (.ref x0)] [] := by first | (simp [entryFrame, mkF, argsToLocals, Value.category]; done) | rfl
set_option maxRecDepth 65536 in
set_option maxHeartbeats 40000000 in
theorem P_cal3 (l : Launch) (Z : State) (a0 : Array Value) (hw : ∀ d ∈ tables_1, d.before a0 Z = true) (c0 c1 c2 c3 : Addr) (h0 : Heap) (S0 : Sta Z Z.heap "com/example/tejuelo/tejuelo/core/Verdict" "REJECTED" "Lcom/example/tejuelo/tejuelo/core/Verdict;" (.ref c0)) (S1 : Sta Z Z.heap "com/example/tejuelo/tejuelo/core/Verdict" "NOT_HARVESTED" "Lcom/example/tejuelo/tejuelo/core/Verdict;" (.ref c1)) (S2 : Sta Z Z.heap "com/example/tejuelo/tejuelo/core/Verdict" "INCOMPLETE" "Lcom/example/tejuelo/tejuelo/core/Verdict;" (.ref c2)) (n0 : ¬ c3 = c0) (n1 : ¬ c3 = c1) (n2 : ¬ c3 = c2) :
    Pays l Z (⟨"com/example/tejuelo/tejuelo/core/Verdict", "isFindingVerdict", "()Z"⟩ : MethodName) prog_72_method_6_code 1 (some .boolean) ({ frames := 0, cells := 0, slots := 0, locals := 0 } : Room) #[(.ref c3)] h0 (fun v h => v = some (.int (0 : Int32)) ∧ h0 = h) := by
  refine pays_of_go (plainFor_of_name pn_cal3) (fun m => ef_cal3 m c3) ?_
  intro p e s m below meth c C0
  have C : Cx p s m meth c prog_72_method_6_code 1 (some .boolean) "isFindingVerdict" "com/example/tejuelo/tejuelo/core/Verdict" Z := C0
  show Go p l e ({ frames := 0, cells := 0, slots := 0, locals := 0 } : Room) s m #[(.ref c3)] below meth c Z (fun v h => v = some (.int (0 : Int32)) ∧ h0 = h) h0 0 0 (mkF m 0 #[.val (.ref c3)] [])
  refine Go.plain (g' := (mkF m 1 #[.val (.ref c3)] [(.ref c3)])) (fun T L X t q => XS.aloadN X.here C.hx rfl (C.d d_cal3_0) rfl rfl q) ?_
  refine Go.getS C (host := "") (Or.inl (hw _ (List.mem_of_getElem? (i := 9) rfl))) Via.refl S0 d_cal3_1 (pc' := 4) rfl ?_
  refine Go.plain (g' := (mkF m 7 #[.val (.ref c3)] [])) (fun T L X t q => Jvm.RoadKit.acmp (g := (mkF m 4 #[.val (.ref c3)] [(.ref c0), (.ref c3)])) X C.hx rfl rfl rfl (pc0 := 4) (pc' := 7) (same := false) rfl (C.d d_cal3_4) rfl (decide_eq_false fun q => n0 (Value.ref.inj q)) (by decide) (by decide) q) ?_
  refine Go.plain (g' := (mkF m 8 #[.val (.ref c3)] [(.ref c3)])) (fun T L X t q => XS.aloadN X.here C.hx rfl (C.d d_cal3_7) rfl rfl q) ?_
  refine Go.getS C (host := "") (Or.inl (hw _ (List.mem_of_getElem? (i := 12) rfl))) Via.refl S1 d_cal3_8 (pc' := 11) rfl ?_
  refine Go.plain (g' := (mkF m 14 #[.val (.ref c3)] [])) (fun T L X t q => Jvm.RoadKit.acmp (g := (mkF m 11 #[.val (.ref c3)] [(.ref c1), (.ref c3)])) X C.hx rfl rfl rfl (pc0 := 11) (pc' := 14) (same := false) rfl (C.d d_cal3_11) rfl (decide_eq_false fun q => n1 (Value.ref.inj q)) (by decide) (by decide) q) ?_
  refine Go.plain (g' := (mkF m 15 #[.val (.ref c3)] [(.ref c3)])) (fun T L X t q => XS.aloadN X.here C.hx rfl (C.d d_cal3_14) rfl rfl q) ?_
  refine Go.getS C (host := "") (Or.inl (hw _ (List.mem_of_getElem? (i := 14) rfl))) Via.refl S2 d_cal3_15 (pc' := 18) rfl ?_
  refine Go.plain (g' := (mkF m 25 #[.val (.ref c3)] [])) (fun T L X t q => Jvm.RoadKit.acmp (g := (mkF m 18 #[.val (.ref c3)] [(.ref c2), (.ref c3)])) X C.hx rfl rfl rfl (pc0 := 18) (pc' := 25) (same := false) rfl (C.d d_cal3_18) rfl (decide_eq_false fun q => n2 (Value.ref.inj q)) (by decide) (by decide) q) ?_
  refine Go.plain (g' := (mkF m 26 #[.val (.ref c3)] [(.int (0 : Int32))])) (fun T L X t q => XS.iconst X.here C.hx rfl (C.d d_cal3_25) q) ?_
  exact Go.retN C (by simp) d_cal3_26 (by decide) (by decide) ⟨rfl, rfl⟩
theorem d_cal4_0 : decode prog_72_method_6_code 0 = .ok (.aload_n 0, 1) := by decide +kernel
theorem d_cal4_1 : decode prog_72_method_6_code 1 = .ok (.getstatic 3, 3) := by decide +kernel
theorem d_cal4_4 : decode prog_72_method_6_code 4 = .ok (.if_acmp .eq 17, 3) := by decide +kernel
theorem d_cal4_7 : decode prog_72_method_6_code 7 = .ok (.aload_n 0, 1) := by decide +kernel
theorem d_cal4_8 : decode prog_72_method_6_code 8 = .ok (.getstatic 7, 3) := by decide +kernel
theorem d_cal4_11 : decode prog_72_method_6_code 11 = .ok (.if_acmp .eq 10, 3) := by decide +kernel
theorem d_cal4_14 : decode prog_72_method_6_code 14 = .ok (.aload_n 0, 1) := by decide +kernel
theorem d_cal4_15 : decode prog_72_method_6_code 15 = .ok (.getstatic 10, 3) := by decide +kernel
theorem d_cal4_18 : decode prog_72_method_6_code 18 = .ok (.if_acmp .ne 7, 3) := by decide +kernel
theorem d_cal4_25 : decode prog_72_method_6_code 25 = .ok (.iconst 0, 1) := by decide +kernel
theorem d_cal4_26 : decode prog_72_method_6_code 26 = .ok (.ireturn, 1) := by decide +kernel
theorem pn_cal4 : plainName "com/example/tejuelo/tejuelo/core/Verdict" = true := by first | (simp [plainName, overriddenIn]; done) | decide +kernel
theorem ef_cal4 (m : MethodId) (x0 : Addr)  : entryFrame m #[(.ref x0)] 1 = mkF m 0 #[.val (.ref x0)] [] := by first | (simp [entryFrame, mkF, argsToLocals, Value.category]; done) | rfl
set_option maxRecDepth 65536 in
set_option maxHeartbeats 40000000 in
theorem P_cal4 (l : Launch) (Z : State) (a0 : Array Value) (hw : ∀ d ∈ tables_1, d.before a0 Z = true) (c0 c1 c2 c4 : Addr) (h0 : Heap) (S0 : Sta Z Z.heap "com/example/tejuelo/tejuelo/core/Verdict" "REJECTED" "Lcom/example/tejuelo/tejuelo/core/Verdict;" (.ref c0)) (S1 : Sta Z Z.heap "com/example/tejuelo/tejuelo/core/Verdict" "NOT_HARVESTED" "Lcom/example/tejuelo/tejuelo/core/Verdict;" (.ref c1)) (S2 : Sta Z Z.heap "com/example/tejuelo/tejuelo/core/Verdict" "INCOMPLETE" "Lcom/example/tejuelo/tejuelo/core/Verdict;" (.ref c2)) (n0 : ¬ c4 = c0) (n1 : ¬ c4 = c1) (n2 : ¬ c4 = c2) :
    Pays l Z (⟨"com/example/tejuelo/tejuelo/core/Verdict", "isFindingVerdict", "()Z"⟩ : MethodName) prog_72_method_6_code 1 (some .boolean) ({ frames := 0, cells := 0, slots := 0, locals := 0 } : Room) #[(.ref c4)] h0 (fun v h => v = some (.int (0 : Int32)) ∧ h0 = h) := by
  refine pays_of_go (plainFor_of_name pn_cal4) (fun m => ef_cal4 m c4) ?_
  intro p e s m below meth c C0
  have C : Cx p s m meth c prog_72_method_6_code 1 (some .boolean) "isFindingVerdict" "com/example/tejuelo/tejuelo/core/Verdict" Z := C0
  show Go p l e ({ frames := 0, cells := 0, slots := 0, locals := 0 } : Room) s m #[(.ref c4)] below meth c Z (fun v h => v = some (.int (0 : Int32)) ∧ h0 = h) h0 0 0 (mkF m 0 #[.val (.ref c4)] [])
  refine Go.plain (g' := (mkF m 1 #[.val (.ref c4)] [(.ref c4)])) (fun T L X t q => XS.aloadN X.here C.hx rfl (C.d d_cal4_0) rfl rfl q) ?_
  refine Go.getS C (host := "") (Or.inl (hw _ (List.mem_of_getElem? (i := 9) rfl))) Via.refl S0 d_cal4_1 (pc' := 4) rfl ?_
  refine Go.plain (g' := (mkF m 7 #[.val (.ref c4)] [])) (fun T L X t q => Jvm.RoadKit.acmp (g := (mkF m 4 #[.val (.ref c4)] [(.ref c0), (.ref c4)])) X C.hx rfl rfl rfl (pc0 := 4) (pc' := 7) (same := false) rfl (C.d d_cal4_4) rfl (decide_eq_false fun q => n0 (Value.ref.inj q)) (by decide) (by decide) q) ?_
  refine Go.plain (g' := (mkF m 8 #[.val (.ref c4)] [(.ref c4)])) (fun T L X t q => XS.aloadN X.here C.hx rfl (C.d d_cal4_7) rfl rfl q) ?_
  refine Go.getS C (host := "") (Or.inl (hw _ (List.mem_of_getElem? (i := 12) rfl))) Via.refl S1 d_cal4_8 (pc' := 11) rfl ?_
  refine Go.plain (g' := (mkF m 14 #[.val (.ref c4)] [])) (fun T L X t q => Jvm.RoadKit.acmp (g := (mkF m 11 #[.val (.ref c4)] [(.ref c1), (.ref c4)])) X C.hx rfl rfl rfl (pc0 := 11) (pc' := 14) (same := false) rfl (C.d d_cal4_11) rfl (decide_eq_false fun q => n1 (Value.ref.inj q)) (by decide) (by decide) q) ?_
  refine Go.plain (g' := (mkF m 15 #[.val (.ref c4)] [(.ref c4)])) (fun T L X t q => XS.aloadN X.here C.hx rfl (C.d d_cal4_14) rfl rfl q) ?_
  refine Go.getS C (host := "") (Or.inl (hw _ (List.mem_of_getElem? (i := 14) rfl))) Via.refl S2 d_cal4_15 (pc' := 18) rfl ?_
  refine Go.plain (g' := (mkF m 25 #[.val (.ref c4)] [])) (fun T L X t q => Jvm.RoadKit.acmp (g := (mkF m 18 #[.val (.ref c4)] [(.ref c2), (.ref c4)])) X C.hx rfl rfl rfl (pc0 := 18) (pc' := 25) (same := false) rfl (C.d d_cal4_18) rfl (decide_eq_false fun q => n2 (Value.ref.inj q)) (by decide) (by decide) q) ?_
  refine Go.plain (g' := (mkF m 26 #[.val (.ref c4)] [(.int (0 : Int32))])) (fun T L X t q => XS.iconst X.here C.hx rfl (C.d d_cal4_25) q) ?_
  exact Go.retN C (by simp) d_cal4_26 (by decide) (by decide) ⟨rfl, rfl⟩
theorem pn_law : plainName "com/example/tejuelo/tejuelo/core/VerdictIsFindingVerdictPinLaw" = true := by first | (simp [plainName, overriddenIn]; done) | decide +kernel
theorem ef_law (m : MethodId) (x0 : Int32)  : entryFrame m #[(.int x0)] maxLocals = mkF m 0 #[.val (.int x0), .unset, .unset, .unset] [] := by first | (simp [entryFrame, mkF, argsToLocals, Value.category, maxLocals]; done) | rfl
set_option maxRecDepth 65536 in
set_option maxHeartbeats 40000000 in
theorem P_law (l : Launch) (Z : State) (a0 : Array Value) (hw : ∀ d ∈ tables_1, d.before a0 Z = true) (p1 : Int32) (c0 c1 c2 c3 c4 : Addr) (h0 : Heap) (S0 : Sta Z Z.heap "com/example/tejuelo/tejuelo/core/Verdict" "REJECTED" "Lcom/example/tejuelo/tejuelo/core/Verdict;" (.ref c0)) (S1 : Sta Z Z.heap "com/example/tejuelo/tejuelo/core/Verdict" "NOT_HARVESTED" "Lcom/example/tejuelo/tejuelo/core/Verdict;" (.ref c1)) (S2 : Sta Z Z.heap "com/example/tejuelo/tejuelo/core/Verdict" "INCOMPLETE" "Lcom/example/tejuelo/tejuelo/core/Verdict;" (.ref c2)) (S3 : Sta Z Z.heap "com/example/tejuelo/tejuelo/core/Verdict" "ACCEPTED" "Lcom/example/tejuelo/tejuelo/core/Verdict;" (.ref c3)) (S4 : Sta Z Z.heap "com/example/tejuelo/tejuelo/core/Verdict" "DELETED" "Lcom/example/tejuelo/tejuelo/core/Verdict;" (.ref c4)) (A0 : Exa Z h0 c0 "com/example/tejuelo/tejuelo/core/Verdict") (A1 : Exa Z h0 c1 "com/example/tejuelo/tejuelo/core/Verdict") (A2 : Exa Z h0 c2 "com/example/tejuelo/tejuelo/core/Verdict") (A3 : Exa Z h0 c3 "com/example/tejuelo/tejuelo/core/Verdict") (A4 : Exa Z h0 c4 "com/example/tejuelo/tejuelo/core/Verdict") (O0 : Fld Z h0 c0 "java/lang/Enum" "ordinal" "I" (.int (0 : Int32))) (O1 : Fld Z h0 c1 "java/lang/Enum" "ordinal" "I" (.int (1 : Int32))) (O2 : Fld Z h0 c2 "java/lang/Enum" "ordinal" "I" (.int (2 : Int32))) (O3 : Fld Z h0 c3 "java/lang/Enum" "ordinal" "I" (.int (3 : Int32))) (O4 : Fld Z h0 c4 "java/lang/Enum" "ordinal" "I" (.int (4 : Int32))) :
    Pays l Z x code maxLocals ret room_1 #[(.int p1)] h0 (fun v h => v = some (.int (1 : Int32))) := by
  refine pays_of_go (plainFor_of_name pn_law) (fun m => ef_law m p1) ?_
  intro p e s m below meth c C0
  have C : Cx p s m meth c code 4 (some .boolean) "law" "com/example/tejuelo/tejuelo/core/VerdictIsFindingVerdictPinLaw" Z := C0
  show Go p l e room_1 s m #[(.int p1)] below meth c Z (fun v h => v = some (.int (1 : Int32))) h0 0 0 (mkF m 0 #[.val (.int p1), .unset, .unset, .unset] [])
  refine Go.plain (g' := (mkF m 1 #[.val (.int p1), .unset, .unset, .unset] [(.int p1)])) (fun T L X t q => XS.iloadN X.here C.hx rfl (C.d at_0) rfl q) ?_
  refine Go.ldcI C (hw _ (List.mem_of_getElem? (i := 0) rfl)) at_1 (pc' := 3) rfl ?_
  refine Go.plain (g' := (mkF m 4 #[.val (.int p1), .unset, .unset, .unset] [(.int (p1 &&& (2147483647 : Int32)))])) (fun T L X t q => XS.iand X.here C.hx rfl (C.d at_3) rfl q) ?_
  refine Go.plain (g' := (mkF m 5 #[.val (.int p1), .unset, .unset, .unset] [(.int (5 : Int32)), (.int (p1 &&& (2147483647 : Int32)))])) (fun T L X t q => XS.iconst X.here C.hx rfl (C.d at_4) q) ?_
  refine Go.irem C at_5 (by decide) (pc' := 6) rfl ?_
  have hk5 := mod5 p1
  generalize ((p1 &&& (2147483647 : Int32)) % (5 : Int32)) = kk at hk5 ⊢
  rcases hk5 with rfl | rfl | rfl | rfl | rfl
  · refine Go.plain (g' := (mkF m 7 #[.val (.int p1), .val (.int (0 : Int32)), .unset, .unset] [])) (fun T L X t q => XS.istoreN X.here C.hx rfl (C.d at_6) rfl (l' := #[.val (.int p1), .val (.int (0 : Int32)), .unset, .unset]) rfl q) ?_
    refine Go.plain (g' := (mkF m 8 #[.val (.int p1), .val (.int (0 : Int32)), .unset, .unset] [(.int (0 : Int32))])) (fun T L X t q => XS.iloadN X.here C.hx rfl (C.d at_7) rfl q) ?_
    refine Go.plain (g' := (mkF m 11 #[.val (.int p1), .val (.int (0 : Int32)), .unset, .unset] [])) (fun T L X t q => XS.ifNo X.here C.hx rfl (C.d at_8) rfl ((if0 _ _).trans (teq (rfl : (0 : Int32) = (0 : Int32))).2) q) ?_
    refine Go.getS C (host := "") (Or.inl (hw _ (List.mem_of_getElem? (i := 1) rfl))) Via.refl S0 at_11 (pc' := 14) rfl ?_
    refine Go.plain (g' := (mkF m 15 #[.val (.int p1), .val (.int (0 : Int32)), .val (.ref c0), .unset] [])) (fun T L X t q => XS.astoreN X.here C.hx rfl (C.d at_14) rfl rfl (l' := #[.val (.int p1), .val (.int (0 : Int32)), .val (.ref c0), .unset]) rfl q) ?_
    refine Go.plain (g' := (mkF m 16 #[.val (.int p1), .val (.int (0 : Int32)), .val (.ref c0), .unset] [(.int (1 : Int32))])) (fun T L X t q => XS.iconst X.here C.hx rfl (C.d at_15) q) ?_
    refine Go.plain (g' := (mkF m 17 #[.val (.int p1), .val (.int (0 : Int32)), .val (.ref c0), .val (.int (1 : Int32))] [])) (fun T L X t q => XS.istoreN X.here C.hx rfl (C.d at_16) rfl (l' := #[.val (.int p1), .val (.int (0 : Int32)), .val (.ref c0), .val (.int (1 : Int32))]) rfl q) ?_
    refine Go.plain (g' := (mkF m 68 #[.val (.int p1), .val (.int (0 : Int32)), .val (.ref c0), .val (.int (1 : Int32))] [])) (fun T L X t q => XS.goto X.here C.hx rfl (pc0 := 17) (pc' := 68) rfl (C.d at_17) (by decide) (by decide) q) ?_
    refine Go.plain (g' := (mkF m 69 #[.val (.int p1), .val (.int (0 : Int32)), .val (.ref c0), .val (.int (1 : Int32))] [(.ref c0)])) (fun T L X t q => XS.aloadN X.here C.hx rfl (C.d at_68) rfl rfl q) ?_
    refine Go.virt C (a := c0) (P_cal0 l Z a0 hw c0 c1 c2 h0 S0 S1 S2 (Fld.ne O0 O1 (by decide)) (Fld.ne O0 O2 (by decide))) A0 (hw _ (List.mem_of_getElem? (i := 4) rfl)) (hw _ (List.mem_of_getElem? (i := 5) rfl)) (hw _ (List.mem_of_getElem? (i := 7) rfl)) (hw _ (List.mem_of_getElem? (i := 6) rfl)) (hw _ (List.mem_of_getElem? (i := 2) rfl)) (hw _ (List.mem_of_getElem? (i := 8) rfl)) (by decide) pd_0 (argsL := []) (rest := []) rfl rfl at_69 (pc' := 72) rfl rfl rfl (W := 0) (Nat.le_of_eq rfl) (by decide) (by decide) (k' := 0) (n' := 0) rfl rfl (by decide) (by decide) ?_
    rintro _ _ ⟨rfl, rfl⟩
    show Go p l e room_1 s m #[(.int p1)] below meth c Z (fun v h => v = some (.int (1 : Int32))) h0 0 0 (mkF m 72 #[.val (.int p1), .val (.int (0 : Int32)), .val (.ref c0), .val (.int (1 : Int32))] [(.int (1 : Int32))])
    refine Go.plain (g' := (mkF m 73 #[.val (.int p1), .val (.int (0 : Int32)), .val (.ref c0), .val (.int (1 : Int32))] [(.int (1 : Int32)), (.int (1 : Int32))])) (fun T L X t q => XS.iloadN X.here C.hx rfl (C.d at_72) rfl q) ?_
    refine Go.plain (g' := (mkF m 76 #[.val (.int p1), .val (.int (0 : Int32)), .val (.ref c0), .val (.int (1 : Int32))] [])) (fun T L X t q => XS.icmpNo X.here C.hx rfl (C.d at_73) rfl (teq (rfl : (1 : Int32) = (1 : Int32))).2 q) ?_
    refine Go.plain (g' := (mkF m 77 #[.val (.int p1), .val (.int (0 : Int32)), .val (.ref c0), .val (.int (1 : Int32))] [(.int (1 : Int32))])) (fun T L X t q => XS.iconst X.here C.hx rfl (C.d at_76) q) ?_
    refine Go.plain (g' := (mkF m 81 #[.val (.int p1), .val (.int (0 : Int32)), .val (.ref c0), .val (.int (1 : Int32))] [(.int (1 : Int32))])) (fun T L X t q => XS.goto X.here C.hx rfl (pc0 := 77) (pc' := 81) rfl (C.d at_77) (by decide) (by decide) q) ?_
    exact Go.retN C (by simp) at_81 (by decide) (by decide) rfl
  · refine Go.plain (g' := (mkF m 7 #[.val (.int p1), .val (.int (1 : Int32)), .unset, .unset] [])) (fun T L X t q => XS.istoreN X.here C.hx rfl (C.d at_6) rfl (l' := #[.val (.int p1), .val (.int (1 : Int32)), .unset, .unset]) rfl q) ?_
    refine Go.plain (g' := (mkF m 8 #[.val (.int p1), .val (.int (1 : Int32)), .unset, .unset] [(.int (1 : Int32))])) (fun T L X t q => XS.iloadN X.here C.hx rfl (C.d at_7) rfl q) ?_
    refine Go.plain (g' := (mkF m 20 #[.val (.int p1), .val (.int (1 : Int32)), .unset, .unset] [])) (fun T L X t q => XS.ifYes X.here C.hx rfl (pc0 := 8) (pc' := 20) rfl (C.d at_8) rfl ((if0 _ _).trans (feq (by decide : ¬ ((1 : Int32) = (0 : Int32)))).2) (by decide) (by decide) q) ?_
    refine Go.plain (g' := (mkF m 21 #[.val (.int p1), .val (.int (1 : Int32)), .unset, .unset] [(.int (1 : Int32))])) (fun T L X t q => XS.iloadN X.here C.hx rfl (C.d at_20) rfl q) ?_
    refine Go.plain (g' := (mkF m 22 #[.val (.int p1), .val (.int (1 : Int32)), .unset, .unset] [(.int (1 : Int32)), (.int (1 : Int32))])) (fun T L X t q => XS.iconst X.here C.hx rfl (C.d at_21) q) ?_
    refine Go.plain (g' := (mkF m 25 #[.val (.int p1), .val (.int (1 : Int32)), .unset, .unset] [])) (fun T L X t q => XS.icmpNo X.here C.hx rfl (C.d at_22) rfl (teq (rfl : (1 : Int32) = (1 : Int32))).2 q) ?_
    refine Go.getS C (host := "") (Or.inl (hw _ (List.mem_of_getElem? (i := 16) rfl))) Via.refl S1 at_25 (pc' := 28) rfl ?_
    refine Go.plain (g' := (mkF m 29 #[.val (.int p1), .val (.int (1 : Int32)), .val (.ref c1), .unset] [])) (fun T L X t q => XS.astoreN X.here C.hx rfl (C.d at_28) rfl rfl (l' := #[.val (.int p1), .val (.int (1 : Int32)), .val (.ref c1), .unset]) rfl q) ?_
    refine Go.plain (g' := (mkF m 30 #[.val (.int p1), .val (.int (1 : Int32)), .val (.ref c1), .unset] [(.int (1 : Int32))])) (fun T L X t q => XS.iconst X.here C.hx rfl (C.d at_29) q) ?_
    refine Go.plain (g' := (mkF m 31 #[.val (.int p1), .val (.int (1 : Int32)), .val (.ref c1), .val (.int (1 : Int32))] [])) (fun T L X t q => XS.istoreN X.here C.hx rfl (C.d at_30) rfl (l' := #[.val (.int p1), .val (.int (1 : Int32)), .val (.ref c1), .val (.int (1 : Int32))]) rfl q) ?_
    refine Go.plain (g' := (mkF m 68 #[.val (.int p1), .val (.int (1 : Int32)), .val (.ref c1), .val (.int (1 : Int32))] [])) (fun T L X t q => XS.goto X.here C.hx rfl (pc0 := 31) (pc' := 68) rfl (C.d at_31) (by decide) (by decide) q) ?_
    refine Go.plain (g' := (mkF m 69 #[.val (.int p1), .val (.int (1 : Int32)), .val (.ref c1), .val (.int (1 : Int32))] [(.ref c1)])) (fun T L X t q => XS.aloadN X.here C.hx rfl (C.d at_68) rfl rfl q) ?_
    refine Go.virt C (a := c1) (P_cal1 l Z a0 hw c0 c1 c2 h0 S0 S1 S2 (Fld.ne O1 O0 (by decide)) (Fld.ne O1 O2 (by decide))) A1 (hw _ (List.mem_of_getElem? (i := 4) rfl)) (hw _ (List.mem_of_getElem? (i := 5) rfl)) (hw _ (List.mem_of_getElem? (i := 7) rfl)) (hw _ (List.mem_of_getElem? (i := 6) rfl)) (hw _ (List.mem_of_getElem? (i := 2) rfl)) (hw _ (List.mem_of_getElem? (i := 8) rfl)) (by decide) pd_0 (argsL := []) (rest := []) rfl rfl at_69 (pc' := 72) rfl rfl rfl (W := 0) (Nat.le_of_eq rfl) (by decide) (by decide) (k' := 0) (n' := 0) rfl rfl (by decide) (by decide) ?_
    rintro _ _ ⟨rfl, rfl⟩
    show Go p l e room_1 s m #[(.int p1)] below meth c Z (fun v h => v = some (.int (1 : Int32))) h0 0 0 (mkF m 72 #[.val (.int p1), .val (.int (1 : Int32)), .val (.ref c1), .val (.int (1 : Int32))] [(.int (1 : Int32))])
    refine Go.plain (g' := (mkF m 73 #[.val (.int p1), .val (.int (1 : Int32)), .val (.ref c1), .val (.int (1 : Int32))] [(.int (1 : Int32)), (.int (1 : Int32))])) (fun T L X t q => XS.iloadN X.here C.hx rfl (C.d at_72) rfl q) ?_
    refine Go.plain (g' := (mkF m 76 #[.val (.int p1), .val (.int (1 : Int32)), .val (.ref c1), .val (.int (1 : Int32))] [])) (fun T L X t q => XS.icmpNo X.here C.hx rfl (C.d at_73) rfl (teq (rfl : (1 : Int32) = (1 : Int32))).2 q) ?_
    refine Go.plain (g' := (mkF m 77 #[.val (.int p1), .val (.int (1 : Int32)), .val (.ref c1), .val (.int (1 : Int32))] [(.int (1 : Int32))])) (fun T L X t q => XS.iconst X.here C.hx rfl (C.d at_76) q) ?_
    refine Go.plain (g' := (mkF m 81 #[.val (.int p1), .val (.int (1 : Int32)), .val (.ref c1), .val (.int (1 : Int32))] [(.int (1 : Int32))])) (fun T L X t q => XS.goto X.here C.hx rfl (pc0 := 77) (pc' := 81) rfl (C.d at_77) (by decide) (by decide) q) ?_
    exact Go.retN C (by simp) at_81 (by decide) (by decide) rfl
  · refine Go.plain (g' := (mkF m 7 #[.val (.int p1), .val (.int (2 : Int32)), .unset, .unset] [])) (fun T L X t q => XS.istoreN X.here C.hx rfl (C.d at_6) rfl (l' := #[.val (.int p1), .val (.int (2 : Int32)), .unset, .unset]) rfl q) ?_
    refine Go.plain (g' := (mkF m 8 #[.val (.int p1), .val (.int (2 : Int32)), .unset, .unset] [(.int (2 : Int32))])) (fun T L X t q => XS.iloadN X.here C.hx rfl (C.d at_7) rfl q) ?_
    refine Go.plain (g' := (mkF m 20 #[.val (.int p1), .val (.int (2 : Int32)), .unset, .unset] [])) (fun T L X t q => XS.ifYes X.here C.hx rfl (pc0 := 8) (pc' := 20) rfl (C.d at_8) rfl ((if0 _ _).trans (feq (by decide : ¬ ((2 : Int32) = (0 : Int32)))).2) (by decide) (by decide) q) ?_
    refine Go.plain (g' := (mkF m 21 #[.val (.int p1), .val (.int (2 : Int32)), .unset, .unset] [(.int (2 : Int32))])) (fun T L X t q => XS.iloadN X.here C.hx rfl (C.d at_20) rfl q) ?_
    refine Go.plain (g' := (mkF m 22 #[.val (.int p1), .val (.int (2 : Int32)), .unset, .unset] [(.int (1 : Int32)), (.int (2 : Int32))])) (fun T L X t q => XS.iconst X.here C.hx rfl (C.d at_21) q) ?_
    refine Go.plain (g' := (mkF m 34 #[.val (.int p1), .val (.int (2 : Int32)), .unset, .unset] [])) (fun T L X t q => XS.icmpYes X.here C.hx rfl (pc0 := 22) (pc' := 34) rfl (C.d at_22) rfl (feq (by decide : ¬ ((2 : Int32) = (1 : Int32)))).2 (by decide) (by decide) q) ?_
    refine Go.plain (g' := (mkF m 35 #[.val (.int p1), .val (.int (2 : Int32)), .unset, .unset] [(.int (2 : Int32))])) (fun T L X t q => XS.iloadN X.here C.hx rfl (C.d at_34) rfl q) ?_
    refine Go.plain (g' := (mkF m 36 #[.val (.int p1), .val (.int (2 : Int32)), .unset, .unset] [(.int (2 : Int32)), (.int (2 : Int32))])) (fun T L X t q => XS.iconst X.here C.hx rfl (C.d at_35) q) ?_
    refine Go.plain (g' := (mkF m 39 #[.val (.int p1), .val (.int (2 : Int32)), .unset, .unset] [])) (fun T L X t q => XS.icmpNo X.here C.hx rfl (C.d at_36) rfl (teq (rfl : (2 : Int32) = (2 : Int32))).2 q) ?_
    refine Go.getS C (host := "") (Or.inl (hw _ (List.mem_of_getElem? (i := 19) rfl))) Via.refl S2 at_39 (pc' := 42) rfl ?_
    refine Go.plain (g' := (mkF m 43 #[.val (.int p1), .val (.int (2 : Int32)), .val (.ref c2), .unset] [])) (fun T L X t q => XS.astoreN X.here C.hx rfl (C.d at_42) rfl rfl (l' := #[.val (.int p1), .val (.int (2 : Int32)), .val (.ref c2), .unset]) rfl q) ?_
    refine Go.plain (g' := (mkF m 44 #[.val (.int p1), .val (.int (2 : Int32)), .val (.ref c2), .unset] [(.int (1 : Int32))])) (fun T L X t q => XS.iconst X.here C.hx rfl (C.d at_43) q) ?_
    refine Go.plain (g' := (mkF m 45 #[.val (.int p1), .val (.int (2 : Int32)), .val (.ref c2), .val (.int (1 : Int32))] [])) (fun T L X t q => XS.istoreN X.here C.hx rfl (C.d at_44) rfl (l' := #[.val (.int p1), .val (.int (2 : Int32)), .val (.ref c2), .val (.int (1 : Int32))]) rfl q) ?_
    refine Go.plain (g' := (mkF m 68 #[.val (.int p1), .val (.int (2 : Int32)), .val (.ref c2), .val (.int (1 : Int32))] [])) (fun T L X t q => XS.goto X.here C.hx rfl (pc0 := 45) (pc' := 68) rfl (C.d at_45) (by decide) (by decide) q) ?_
    refine Go.plain (g' := (mkF m 69 #[.val (.int p1), .val (.int (2 : Int32)), .val (.ref c2), .val (.int (1 : Int32))] [(.ref c2)])) (fun T L X t q => XS.aloadN X.here C.hx rfl (C.d at_68) rfl rfl q) ?_
    refine Go.virt C (a := c2) (P_cal2 l Z a0 hw c0 c1 c2 h0 S0 S1 S2 (Fld.ne O2 O0 (by decide)) (Fld.ne O2 O1 (by decide))) A2 (hw _ (List.mem_of_getElem? (i := 4) rfl)) (hw _ (List.mem_of_getElem? (i := 5) rfl)) (hw _ (List.mem_of_getElem? (i := 7) rfl)) (hw _ (List.mem_of_getElem? (i := 6) rfl)) (hw _ (List.mem_of_getElem? (i := 2) rfl)) (hw _ (List.mem_of_getElem? (i := 8) rfl)) (by decide) pd_0 (argsL := []) (rest := []) rfl rfl at_69 (pc' := 72) rfl rfl rfl (W := 0) (Nat.le_of_eq rfl) (by decide) (by decide) (k' := 0) (n' := 0) rfl rfl (by decide) (by decide) ?_
    rintro _ _ ⟨rfl, rfl⟩
    show Go p l e room_1 s m #[(.int p1)] below meth c Z (fun v h => v = some (.int (1 : Int32))) h0 0 0 (mkF m 72 #[.val (.int p1), .val (.int (2 : Int32)), .val (.ref c2), .val (.int (1 : Int32))] [(.int (1 : Int32))])
    refine Go.plain (g' := (mkF m 73 #[.val (.int p1), .val (.int (2 : Int32)), .val (.ref c2), .val (.int (1 : Int32))] [(.int (1 : Int32)), (.int (1 : Int32))])) (fun T L X t q => XS.iloadN X.here C.hx rfl (C.d at_72) rfl q) ?_
    refine Go.plain (g' := (mkF m 76 #[.val (.int p1), .val (.int (2 : Int32)), .val (.ref c2), .val (.int (1 : Int32))] [])) (fun T L X t q => XS.icmpNo X.here C.hx rfl (C.d at_73) rfl (teq (rfl : (1 : Int32) = (1 : Int32))).2 q) ?_
    refine Go.plain (g' := (mkF m 77 #[.val (.int p1), .val (.int (2 : Int32)), .val (.ref c2), .val (.int (1 : Int32))] [(.int (1 : Int32))])) (fun T L X t q => XS.iconst X.here C.hx rfl (C.d at_76) q) ?_
    refine Go.plain (g' := (mkF m 81 #[.val (.int p1), .val (.int (2 : Int32)), .val (.ref c2), .val (.int (1 : Int32))] [(.int (1 : Int32))])) (fun T L X t q => XS.goto X.here C.hx rfl (pc0 := 77) (pc' := 81) rfl (C.d at_77) (by decide) (by decide) q) ?_
    exact Go.retN C (by simp) at_81 (by decide) (by decide) rfl
  · refine Go.plain (g' := (mkF m 7 #[.val (.int p1), .val (.int (3 : Int32)), .unset, .unset] [])) (fun T L X t q => XS.istoreN X.here C.hx rfl (C.d at_6) rfl (l' := #[.val (.int p1), .val (.int (3 : Int32)), .unset, .unset]) rfl q) ?_
    refine Go.plain (g' := (mkF m 8 #[.val (.int p1), .val (.int (3 : Int32)), .unset, .unset] [(.int (3 : Int32))])) (fun T L X t q => XS.iloadN X.here C.hx rfl (C.d at_7) rfl q) ?_
    refine Go.plain (g' := (mkF m 20 #[.val (.int p1), .val (.int (3 : Int32)), .unset, .unset] [])) (fun T L X t q => XS.ifYes X.here C.hx rfl (pc0 := 8) (pc' := 20) rfl (C.d at_8) rfl ((if0 _ _).trans (feq (by decide : ¬ ((3 : Int32) = (0 : Int32)))).2) (by decide) (by decide) q) ?_
    refine Go.plain (g' := (mkF m 21 #[.val (.int p1), .val (.int (3 : Int32)), .unset, .unset] [(.int (3 : Int32))])) (fun T L X t q => XS.iloadN X.here C.hx rfl (C.d at_20) rfl q) ?_
    refine Go.plain (g' := (mkF m 22 #[.val (.int p1), .val (.int (3 : Int32)), .unset, .unset] [(.int (1 : Int32)), (.int (3 : Int32))])) (fun T L X t q => XS.iconst X.here C.hx rfl (C.d at_21) q) ?_
    refine Go.plain (g' := (mkF m 34 #[.val (.int p1), .val (.int (3 : Int32)), .unset, .unset] [])) (fun T L X t q => XS.icmpYes X.here C.hx rfl (pc0 := 22) (pc' := 34) rfl (C.d at_22) rfl (feq (by decide : ¬ ((3 : Int32) = (1 : Int32)))).2 (by decide) (by decide) q) ?_
    refine Go.plain (g' := (mkF m 35 #[.val (.int p1), .val (.int (3 : Int32)), .unset, .unset] [(.int (3 : Int32))])) (fun T L X t q => XS.iloadN X.here C.hx rfl (C.d at_34) rfl q) ?_
    refine Go.plain (g' := (mkF m 36 #[.val (.int p1), .val (.int (3 : Int32)), .unset, .unset] [(.int (2 : Int32)), (.int (3 : Int32))])) (fun T L X t q => XS.iconst X.here C.hx rfl (C.d at_35) q) ?_
    refine Go.plain (g' := (mkF m 48 #[.val (.int p1), .val (.int (3 : Int32)), .unset, .unset] [])) (fun T L X t q => XS.icmpYes X.here C.hx rfl (pc0 := 36) (pc' := 48) rfl (C.d at_36) rfl (feq (by decide : ¬ ((3 : Int32) = (2 : Int32)))).2 (by decide) (by decide) q) ?_
    refine Go.plain (g' := (mkF m 49 #[.val (.int p1), .val (.int (3 : Int32)), .unset, .unset] [(.int (3 : Int32))])) (fun T L X t q => XS.iloadN X.here C.hx rfl (C.d at_48) rfl q) ?_
    refine Go.plain (g' := (mkF m 50 #[.val (.int p1), .val (.int (3 : Int32)), .unset, .unset] [(.int (3 : Int32)), (.int (3 : Int32))])) (fun T L X t q => XS.iconst X.here C.hx rfl (C.d at_49) q) ?_
    refine Go.plain (g' := (mkF m 53 #[.val (.int p1), .val (.int (3 : Int32)), .unset, .unset] [])) (fun T L X t q => XS.icmpNo X.here C.hx rfl (C.d at_50) rfl (teq (rfl : (3 : Int32) = (3 : Int32))).2 q) ?_
    refine Go.getS C (host := "") (Or.inl (hw _ (List.mem_of_getElem? (i := 10) rfl))) Via.refl S3 at_53 (pc' := 56) rfl ?_
    refine Go.plain (g' := (mkF m 57 #[.val (.int p1), .val (.int (3 : Int32)), .val (.ref c3), .unset] [])) (fun T L X t q => XS.astoreN X.here C.hx rfl (C.d at_56) rfl rfl (l' := #[.val (.int p1), .val (.int (3 : Int32)), .val (.ref c3), .unset]) rfl q) ?_
    refine Go.plain (g' := (mkF m 58 #[.val (.int p1), .val (.int (3 : Int32)), .val (.ref c3), .unset] [(.int (0 : Int32))])) (fun T L X t q => XS.iconst X.here C.hx rfl (C.d at_57) q) ?_
    refine Go.plain (g' := (mkF m 59 #[.val (.int p1), .val (.int (3 : Int32)), .val (.ref c3), .val (.int (0 : Int32))] [])) (fun T L X t q => XS.istoreN X.here C.hx rfl (C.d at_58) rfl (l' := #[.val (.int p1), .val (.int (3 : Int32)), .val (.ref c3), .val (.int (0 : Int32))]) rfl q) ?_
    refine Go.plain (g' := (mkF m 68 #[.val (.int p1), .val (.int (3 : Int32)), .val (.ref c3), .val (.int (0 : Int32))] [])) (fun T L X t q => XS.goto X.here C.hx rfl (pc0 := 59) (pc' := 68) rfl (C.d at_59) (by decide) (by decide) q) ?_
    refine Go.plain (g' := (mkF m 69 #[.val (.int p1), .val (.int (3 : Int32)), .val (.ref c3), .val (.int (0 : Int32))] [(.ref c3)])) (fun T L X t q => XS.aloadN X.here C.hx rfl (C.d at_68) rfl rfl q) ?_
    refine Go.virt C (a := c3) (P_cal3 l Z a0 hw c0 c1 c2 c3 h0 S0 S1 S2 (Fld.ne O3 O0 (by decide)) (Fld.ne O3 O1 (by decide)) (Fld.ne O3 O2 (by decide))) A3 (hw _ (List.mem_of_getElem? (i := 4) rfl)) (hw _ (List.mem_of_getElem? (i := 5) rfl)) (hw _ (List.mem_of_getElem? (i := 7) rfl)) (hw _ (List.mem_of_getElem? (i := 6) rfl)) (hw _ (List.mem_of_getElem? (i := 2) rfl)) (hw _ (List.mem_of_getElem? (i := 8) rfl)) (by decide) pd_0 (argsL := []) (rest := []) rfl rfl at_69 (pc' := 72) rfl rfl rfl (W := 0) (Nat.le_of_eq rfl) (by decide) (by decide) (k' := 0) (n' := 0) rfl rfl (by decide) (by decide) ?_
    rintro _ _ ⟨rfl, rfl⟩
    show Go p l e room_1 s m #[(.int p1)] below meth c Z (fun v h => v = some (.int (1 : Int32))) h0 0 0 (mkF m 72 #[.val (.int p1), .val (.int (3 : Int32)), .val (.ref c3), .val (.int (0 : Int32))] [(.int (0 : Int32))])
    refine Go.plain (g' := (mkF m 73 #[.val (.int p1), .val (.int (3 : Int32)), .val (.ref c3), .val (.int (0 : Int32))] [(.int (0 : Int32)), (.int (0 : Int32))])) (fun T L X t q => XS.iloadN X.here C.hx rfl (C.d at_72) rfl q) ?_
    refine Go.plain (g' := (mkF m 76 #[.val (.int p1), .val (.int (3 : Int32)), .val (.ref c3), .val (.int (0 : Int32))] [])) (fun T L X t q => XS.icmpNo X.here C.hx rfl (C.d at_73) rfl (teq (rfl : (0 : Int32) = (0 : Int32))).2 q) ?_
    refine Go.plain (g' := (mkF m 77 #[.val (.int p1), .val (.int (3 : Int32)), .val (.ref c3), .val (.int (0 : Int32))] [(.int (1 : Int32))])) (fun T L X t q => XS.iconst X.here C.hx rfl (C.d at_76) q) ?_
    refine Go.plain (g' := (mkF m 81 #[.val (.int p1), .val (.int (3 : Int32)), .val (.ref c3), .val (.int (0 : Int32))] [(.int (1 : Int32))])) (fun T L X t q => XS.goto X.here C.hx rfl (pc0 := 77) (pc' := 81) rfl (C.d at_77) (by decide) (by decide) q) ?_
    exact Go.retN C (by simp) at_81 (by decide) (by decide) rfl
  · refine Go.plain (g' := (mkF m 7 #[.val (.int p1), .val (.int (4 : Int32)), .unset, .unset] [])) (fun T L X t q => XS.istoreN X.here C.hx rfl (C.d at_6) rfl (l' := #[.val (.int p1), .val (.int (4 : Int32)), .unset, .unset]) rfl q) ?_
    refine Go.plain (g' := (mkF m 8 #[.val (.int p1), .val (.int (4 : Int32)), .unset, .unset] [(.int (4 : Int32))])) (fun T L X t q => XS.iloadN X.here C.hx rfl (C.d at_7) rfl q) ?_
    refine Go.plain (g' := (mkF m 20 #[.val (.int p1), .val (.int (4 : Int32)), .unset, .unset] [])) (fun T L X t q => XS.ifYes X.here C.hx rfl (pc0 := 8) (pc' := 20) rfl (C.d at_8) rfl ((if0 _ _).trans (feq (by decide : ¬ ((4 : Int32) = (0 : Int32)))).2) (by decide) (by decide) q) ?_
    refine Go.plain (g' := (mkF m 21 #[.val (.int p1), .val (.int (4 : Int32)), .unset, .unset] [(.int (4 : Int32))])) (fun T L X t q => XS.iloadN X.here C.hx rfl (C.d at_20) rfl q) ?_
    refine Go.plain (g' := (mkF m 22 #[.val (.int p1), .val (.int (4 : Int32)), .unset, .unset] [(.int (1 : Int32)), (.int (4 : Int32))])) (fun T L X t q => XS.iconst X.here C.hx rfl (C.d at_21) q) ?_
    refine Go.plain (g' := (mkF m 34 #[.val (.int p1), .val (.int (4 : Int32)), .unset, .unset] [])) (fun T L X t q => XS.icmpYes X.here C.hx rfl (pc0 := 22) (pc' := 34) rfl (C.d at_22) rfl (feq (by decide : ¬ ((4 : Int32) = (1 : Int32)))).2 (by decide) (by decide) q) ?_
    refine Go.plain (g' := (mkF m 35 #[.val (.int p1), .val (.int (4 : Int32)), .unset, .unset] [(.int (4 : Int32))])) (fun T L X t q => XS.iloadN X.here C.hx rfl (C.d at_34) rfl q) ?_
    refine Go.plain (g' := (mkF m 36 #[.val (.int p1), .val (.int (4 : Int32)), .unset, .unset] [(.int (2 : Int32)), (.int (4 : Int32))])) (fun T L X t q => XS.iconst X.here C.hx rfl (C.d at_35) q) ?_
    refine Go.plain (g' := (mkF m 48 #[.val (.int p1), .val (.int (4 : Int32)), .unset, .unset] [])) (fun T L X t q => XS.icmpYes X.here C.hx rfl (pc0 := 36) (pc' := 48) rfl (C.d at_36) rfl (feq (by decide : ¬ ((4 : Int32) = (2 : Int32)))).2 (by decide) (by decide) q) ?_
    refine Go.plain (g' := (mkF m 49 #[.val (.int p1), .val (.int (4 : Int32)), .unset, .unset] [(.int (4 : Int32))])) (fun T L X t q => XS.iloadN X.here C.hx rfl (C.d at_48) rfl q) ?_
    refine Go.plain (g' := (mkF m 50 #[.val (.int p1), .val (.int (4 : Int32)), .unset, .unset] [(.int (3 : Int32)), (.int (4 : Int32))])) (fun T L X t q => XS.iconst X.here C.hx rfl (C.d at_49) q) ?_
    refine Go.plain (g' := (mkF m 62 #[.val (.int p1), .val (.int (4 : Int32)), .unset, .unset] [])) (fun T L X t q => XS.icmpYes X.here C.hx rfl (pc0 := 50) (pc' := 62) rfl (C.d at_50) rfl (feq (by decide : ¬ ((4 : Int32) = (3 : Int32)))).2 (by decide) (by decide) q) ?_
    refine Go.getS C (host := "") (Or.inl (hw _ (List.mem_of_getElem? (i := 17) rfl))) Via.refl S4 at_62 (pc' := 65) rfl ?_
    refine Go.plain (g' := (mkF m 66 #[.val (.int p1), .val (.int (4 : Int32)), .val (.ref c4), .unset] [])) (fun T L X t q => XS.astoreN X.here C.hx rfl (C.d at_65) rfl rfl (l' := #[.val (.int p1), .val (.int (4 : Int32)), .val (.ref c4), .unset]) rfl q) ?_
    refine Go.plain (g' := (mkF m 67 #[.val (.int p1), .val (.int (4 : Int32)), .val (.ref c4), .unset] [(.int (0 : Int32))])) (fun T L X t q => XS.iconst X.here C.hx rfl (C.d at_66) q) ?_
    refine Go.plain (g' := (mkF m 68 #[.val (.int p1), .val (.int (4 : Int32)), .val (.ref c4), .val (.int (0 : Int32))] [])) (fun T L X t q => XS.istoreN X.here C.hx rfl (C.d at_67) rfl (l' := #[.val (.int p1), .val (.int (4 : Int32)), .val (.ref c4), .val (.int (0 : Int32))]) rfl q) ?_
    refine Go.plain (g' := (mkF m 69 #[.val (.int p1), .val (.int (4 : Int32)), .val (.ref c4), .val (.int (0 : Int32))] [(.ref c4)])) (fun T L X t q => XS.aloadN X.here C.hx rfl (C.d at_68) rfl rfl q) ?_
    refine Go.virt C (a := c4) (P_cal4 l Z a0 hw c0 c1 c2 c4 h0 S0 S1 S2 (Fld.ne O4 O0 (by decide)) (Fld.ne O4 O1 (by decide)) (Fld.ne O4 O2 (by decide))) A4 (hw _ (List.mem_of_getElem? (i := 4) rfl)) (hw _ (List.mem_of_getElem? (i := 5) rfl)) (hw _ (List.mem_of_getElem? (i := 7) rfl)) (hw _ (List.mem_of_getElem? (i := 6) rfl)) (hw _ (List.mem_of_getElem? (i := 2) rfl)) (hw _ (List.mem_of_getElem? (i := 8) rfl)) (by decide) pd_0 (argsL := []) (rest := []) rfl rfl at_69 (pc' := 72) rfl rfl rfl (W := 0) (Nat.le_of_eq rfl) (by decide) (by decide) (k' := 0) (n' := 0) rfl rfl (by decide) (by decide) ?_
    rintro _ _ ⟨rfl, rfl⟩
    show Go p l e room_1 s m #[(.int p1)] below meth c Z (fun v h => v = some (.int (1 : Int32))) h0 0 0 (mkF m 72 #[.val (.int p1), .val (.int (4 : Int32)), .val (.ref c4), .val (.int (0 : Int32))] [(.int (0 : Int32))])
    refine Go.plain (g' := (mkF m 73 #[.val (.int p1), .val (.int (4 : Int32)), .val (.ref c4), .val (.int (0 : Int32))] [(.int (0 : Int32)), (.int (0 : Int32))])) (fun T L X t q => XS.iloadN X.here C.hx rfl (C.d at_72) rfl q) ?_
    refine Go.plain (g' := (mkF m 76 #[.val (.int p1), .val (.int (4 : Int32)), .val (.ref c4), .val (.int (0 : Int32))] [])) (fun T L X t q => XS.icmpNo X.here C.hx rfl (C.d at_73) rfl (teq (rfl : (0 : Int32) = (0 : Int32))).2 q) ?_
    refine Go.plain (g' := (mkF m 77 #[.val (.int p1), .val (.int (4 : Int32)), .val (.ref c4), .val (.int (0 : Int32))] [(.int (1 : Int32))])) (fun T L X t q => XS.iconst X.here C.hx rfl (C.d at_76) q) ?_
    refine Go.plain (g' := (mkF m 81 #[.val (.int p1), .val (.int (4 : Int32)), .val (.ref c4), .val (.int (0 : Int32))] [(.int (1 : Int32))])) (fun T L X t q => XS.goto X.here C.hx rfl (pc0 := 77) (pc' := 81) rfl (C.d at_77) (by decide) (by decide) q) ?_
    exact Go.retN C (by simp) at_81 (by decide) (by decide) rfl
set_option maxRecDepth 65536 in
set_option maxHeartbeats 40000000 in
theorem comes_1 {Post : Tables → Env → Array Value → State → Outcome → State → Prop} (hpost : ∀ tb e args s v u, (limb_1_1.after args s (.returned v) u = true ∧ limb_1_2.after args s (.returned v) u = true ∧ True) → FrameEnd s (.returned v) u (Jvm.fieldLocs frame_1_writes args s ++ Jvm.arrayLocs frame_1_arrays args s ++ Jvm.staticLocs frame_1_statics s) 0 0 → Post tb e args s (.returned v) u) :
    ArmFor flags0 classFile x code maxLocals ret World_1 tables_1 room_1 Calls_1 rest_1 Pre_1 Post := by
  intro l hfl _ _ p e ha hc hk s m args below hf hA hF happ hP
  obtain ⟨hcalls, hrest, hpre⟩ := hP
  obtain ⟨-, -, -, hnamed, -, -, -, hat⟩ := (Spec.applies_iff hf).mp happ
  obtain ⟨hg, hn⟩ := and_e (Cond.before_iff.mp (show (Jvm.Cond.and given_1 narrow_1).before args s = true from hpre))
  obtain ⟨gg0, hg⟩ := and_e hg
  have gg1 := hg
  obtain ⟨w0, rfl⟩ : ∃ w0 : Value, args = #[w0] := by
    have hs : args.size = 1 := by simpa [Cond.value, given_1] using gg0
    obtain ⟨L⟩ := args
    match L, hs with
    | [w0], _ => exact ⟨w0, rfl⟩
  have hw := fun d (hd : d ∈ tables_1) => atoms_spec (ws := Jvm.Cond.code x code maxLocals ret :: tables_1) hat d (List.mem_cons_of_mem _ hd)
  obtain ⟨i0, ei0⟩ := is_v gg1
  obtain rfl : w0 = (.int i0) := Option.some.inj ei0
  have st0 : ∀ {f : String} {v : Value}, (Jvm.Term.static "com/example/tejuelo/tejuelo/core/Verdict" f "Lcom/example/tejuelo/tejuelo/core/Verdict;").eval #[.int i0] s none [] s = some v → (Jvm.Cond.laysStatic "com/example/tejuelo/tejuelo/core/Verdict" f "Lcom/example/tejuelo/tejuelo/core/Verdict;").before #[.int i0] s = true → Sta s s.heap "com/example/tejuelo/tejuelo/core/Verdict" f "Lcom/example/tejuelo/tejuelo/core/Verdict;" v := fun ev hl => Sta.start ev (Or.inr ⟨(hw _ (List.mem_of_getElem? (i := 2) rfl)), hl⟩)
  obtain ⟨x0, hn⟩ := and_e hn
  obtain ⟨x3, hn⟩ := and_e hn
  obtain ⟨y3, hn⟩ := and_e hn
  obtain ⟨y0, hn⟩ := and_e hn
  obtain ⟨x1, hn⟩ := and_e hn
  obtain ⟨y1, hn⟩ := and_e hn
  obtain ⟨x2, hn⟩ := and_e hn
  obtain ⟨y2, hn⟩ := and_e hn
  obtain ⟨x4, hn⟩ := and_e hn
  have y4 := hn
  obtain ⟨c0, ev0⟩ := exa_v x0
  have A0 := Exa.start ev0 x0
  have S0 := st0 ev0 (hw _ (List.mem_of_getElem? (i := 3) rfl))
  have O0 := Fld.start ((fld_at ev0).symm.trans (fldI y0))
  obtain ⟨c1, ev1⟩ := exa_v x1
  have A1 := Exa.start ev1 x1
  have S1 := st0 ev1 (hw _ (List.mem_of_getElem? (i := 13) rfl))
  have O1 := Fld.start ((fld_at ev1).symm.trans (fldI y1))
  obtain ⟨c2, ev2⟩ := exa_v x2
  have A2 := Exa.start ev2 x2
  have S2 := st0 ev2 (hw _ (List.mem_of_getElem? (i := 15) rfl))
  have O2 := Fld.start ((fld_at ev2).symm.trans (fldI y2))
  obtain ⟨c3, ev3⟩ := exa_v x3
  have A3 := Exa.start ev3 x3
  have S3 := st0 ev3 (hw _ (List.mem_of_getElem? (i := 11) rfl))
  have O3 := Fld.start ((fld_at ev3).symm.trans (fldI y3))
  obtain ⟨c4, ev4⟩ := exa_v x4
  have A4 := Exa.start ev4 x4
  have S4 := st0 ev4 (hw _ (List.mem_of_getElem? (i := 18) rfl))
  have O4 := Fld.start ((fld_at ev4).symm.trans (fldI y4))
  obtain ⟨n, o, h1, h2, h3, _, L, rfl, ⟨rfl, -, N⟩, hq⟩ := P_law l s _ hw i0 c0 c1 c2 c3 c4 s.heap S0 S1 S2 S3 S4 A0 A1 A2 A3 A4 O0 O1 O2 O3 O4 (ext_refl _) tables_1 p e ha hc hk s m _ below hf ((Spec.applies_iff_loose hf).mp happ).1 ⟨rfl, State.Warmed39.refl s, rfl⟩ trivial
  refine ⟨n, _, h1, h2, h3, hpost _ _ _ _ _ _ ⟨Cond.after_iff.mpr rfl, Cond.after_iff.mpr (eq_i res_at (Term.int_eval (1)) rfl), trivial⟩ ⟨hq.1, hq.2.1, (hq.2.2.sift fun y hy => Or.inr (N y hy)).mono (by decide) (by decide)⟩⟩
theorem main_1_1 : Claimed_1_1 := comes_1 fun _ _ _ _ _ _ h hF => ⟨h.1, hF⟩
theorem main_1_2 : Claimed_1_2 := comes_1 fun _ _ _ _ _ _ h hF => ⟨h.2.1, hF⟩
end Jvm.Pilot.@@N@@
namespace Jvm.Pilot.@@N@@
open Jvm Jvm.ClassFile Sem Op Lib Jvm.Free Jvm.Stand Jvm.Pilot.@@N@@.Jvm.D
/-! MADE BY PROGRAM (witnessworld.py) out of the Statement's table words and the real class files: 12 classes; the members and pool entries that the words name. The judged class is class 1, her method 1. -/
namespace start1
open Jvm.ClassFile
def u (s : String) : CpInfo := .utf8 (stringToUtf16 s)
/-- a pool by its gaps: so many unusable entries, then the entry; so many at the end -/
def gap : Nat → List CpInfo → List CpInfo
  | 0, r => r
  | n + 1, r => .unusable :: gap n r
def poolList (es : List (Nat × CpInfo)) (last : Nat) : List CpInfo := es.foldr (fun e r => gap e.1 (e.2 :: r)) (gap last [])
def pool (es : List (Nat × CpInfo)) (last : Nat) : Array CpInfo := ⟨poolList es last⟩
def fileOf (pool : Array CpInfo) (this : Nat) (attrs : Array Attribute := #[]) (ms : Array MethodInfo := #[]) (fl : Nat := 33) (sup : Nat := 0) (ifs : Array Nat := #[]) (fds : Array FieldInfo := #[]) : ClassFile where
  minorVersion := 0
  majorVersion := 65
  constantPool := pool
  accessFlags := fl
  thisClass := this
  superClass := sup
  interfaces := ifs
  fields := fds
  methods := ms
  attributes := attrs
def plain (name : String) (sup : Option ClassId) : Class where
  name := name
  kind := .ordinary
  loader := none
  accessFlags := 33
  super := sup
  interfaces := #[]
  cf := none
  fields := #[]
  methods := #[]
  instanceTypes := #[]
  staticTypes := #[]
  resolved := #[]
  callSites := []
  init := .initialized
  statics := none
  mirror := none

def pool0 : Array CpInfo := pool [(5, u "<init>"), (0, u "()V"), (1, .class_ 10), (1, u "java/lang/Object")] 113

def k0m0 : Method := { name := "<init>", desc := "()V", sig := { parameters := [], returnType := none }, accessFlags := 1, code := none }
/-- java/lang/Object -/
def k0 : Class := { plain "java/lang/Object" none with
  accessFlags := 33
  interfaces := #[]
  cf := some (fileOf pool0 8 #[] #[{ accessFlags := 1, nameIndex := 5, descriptorIndex := 6, attributes := #[] }] 33 0 #[] #[])
  fields := #[]
  methods := #[k0m0]
  instanceTypes := #[]
  staticTypes := #[]
  resolved := Array.replicate 124 none
  statics := none }

def pool1 : Array CpInfo := pool [(2, .class_ 4), (1, u "java/lang/Object"), (0, u "<init>"), (0, u "()V"), (0, .integer 2147483647), (0, .fieldref 9 10), (0, .class_ 11), (0, .nameAndType 12 13), (0, u "com/example/tejuelo/tejuelo/core/Verdict"), (0, u "REJECTED"), (0, u "Lcom/example/tejuelo/tejuelo/core/Verdict;"), (0, .fieldref 9 15), (0, .nameAndType 16 13), (0, u "NOT_HARVESTED"), (0, .fieldref 9 18), (0, .nameAndType 19 13), (0, u "INCOMPLETE"), (0, .fieldref 9 21), (0, .nameAndType 22 13), (0, u "ACCEPTED"), (0, .fieldref 9 24), (0, .nameAndType 25 13), (0, u "DELETED"), (0, .methodref 9 27), (0, .nameAndType 28 29), (0, u "isFindingVerdict"), (0, u "()Z"), (0, .class_ 31), (0, u "com/example/tejuelo/tejuelo/core/VerdictIsFindingVerdictPinLaw"), (2, u "law"), (0, u "(I)Z")] 3

def k1m0 : Method := { name := "<init>", desc := "()V", sig := { parameters := [], returnType := none }, accessFlags := 1, code := none }
def k1c1 : Code := { maxStack := 2, maxLocals := 4, code := code, exceptionTable := #[], attributes := #[] }
def k1m1 : Method := { name := "law", desc := "(I)Z", sig := { parameters := [.int], returnType := some .boolean }, accessFlags := 9, code := some k1c1 }
/-- com/example/tejuelo/tejuelo/core/VerdictIsFindingVerdictPinLaw -/
def k1 : Class := { plain "com/example/tejuelo/tejuelo/core/VerdictIsFindingVerdictPinLaw" (some 0) with
  accessFlags := 49
  interfaces := #[]
  cf := some (fileOf pool1 30 #[] #[{ accessFlags := 1, nameIndex := 5, descriptorIndex := 6, attributes := #[] }, { accessFlags := 9, nameIndex := 34, descriptorIndex := 35, attributes := #[] }] 49 2 #[] #[])
  fields := #[]
  methods := #[k1m0, k1m1]
  instanceTypes := #[]
  staticTypes := #[]
  resolved := Array.replicate 39 none
  statics := none }

def pool2 : Array CpInfo := pool [(1, .class_ 2), (0, u "java/lang/constant/Constable"), (0, .class_ 4), (0, u "java/lang/Object")] 6

/-- java/lang/constant/Constable -/
def k2 : Class := { plain "java/lang/constant/Constable" (some 0) with
  accessFlags := 1537
  interfaces := #[]
  cf := some (fileOf pool2 1 #[] #[] 1537 3 #[] #[])
  fields := #[]
  methods := #[]
  instanceTypes := #[]
  staticTypes := #[]
  resolved := Array.replicate 11 none
  statics := none }

def pool3 : Array CpInfo := pool [(1, .class_ 2), (0, u "java/lang/Comparable"), (0, .class_ 4), (0, u "java/lang/Object")] 7

/-- java/lang/Comparable -/
def k3 : Class := { plain "java/lang/Comparable" (some 0) with
  accessFlags := 1537
  interfaces := #[]
  cf := some (fileOf pool3 1 #[] #[] 1537 3 #[] #[])
  fields := #[]
  methods := #[]
  instanceTypes := #[]
  staticTypes := #[]
  resolved := Array.replicate 12 none
  statics := none }

def pool4 : Array CpInfo := pool [(1, .class_ 2), (0, u "java/io/Serializable"), (0, .class_ 4), (0, u "java/lang/Object")] 2

/-- java/io/Serializable -/
def k4 : Class := { plain "java/io/Serializable" (some 0) with
  accessFlags := 1537
  interfaces := #[]
  cf := some (fileOf pool4 1 #[] #[] 1537 3 #[] #[])
  fields := #[]
  methods := #[]
  instanceTypes := #[]
  staticTypes := #[]
  resolved := Array.replicate 7 none
  statics := none }

def pool5 : Array CpInfo := pool [(2, .class_ 4), (1, u "java/lang/Enum"), (0, u "name"), (0, u "Ljava/lang/String;"), (2, u "ordinal"), (0, u "I"), (1, .class_ 14), (1, u "java/lang/Object"), (4, u "hash"), (86, .class_ 108), (1, u "java/lang/Enum$EnumDesc"), (2, .class_ 112), (0, u "java/lang/constant/Constable"), (0, .class_ 114), (0, u "java/lang/Comparable"), (0, .class_ 116), (0, u "java/io/Serializable")] 87

/-- java/lang/Enum -/
def k5 : Class := { plain "java/lang/Enum" (some 0) with
  accessFlags := 1057
  interfaces := #[2, 3, 4]
  cf := some (fileOf pool5 2 #[.nestMembers #[106]] #[] 1057 12 #[111, 113, 115] #[{ accessFlags := 18, nameIndex := 5, descriptorIndex := 6, attributes := #[] }, { accessFlags := 18, nameIndex := 9, descriptorIndex := 10, attributes := #[] }, { accessFlags := 2, nameIndex := 19, descriptorIndex := 10, attributes := #[] }])
  fields := #[{ name := "name", type := (.object "java/lang/String"), accessFlags := 18, slot := 0, constantValue := 0 }, { name := "ordinal", type := .int, accessFlags := 18, slot := 1, constantValue := 0 }, { name := "hash", type := .int, accessFlags := 2, slot := 2, constantValue := 0 }]
  methods := #[]
  instanceTypes := #[(.object "java/lang/String"), .int, .int]
  staticTypes := #[]
  resolved := Array.replicate 204 none
  statics := none }

def pool6 : Array CpInfo := pool [(1, .class_ 2), (0, u "com/example/tejuelo/tejuelo/core/Verdict"), (0, .fieldref 1 4), (0, .nameAndType 5 6), (0, u "REJECTED"), (0, u "Lcom/example/tejuelo/tejuelo/core/Verdict;"), (0, .fieldref 1 8), (0, .nameAndType 9 6), (0, u "NOT_HARVESTED"), (0, .fieldref 1 11), (0, .nameAndType 12 6), (0, u "INCOMPLETE"), (2, u "ACCEPTED"), (2, u "DELETED"), (2, u "$VALUES"), (0, u "[Lcom/example/tejuelo/tejuelo/core/Verdict;"), (6, .class_ 31), (1, u "java/lang/Enum"), (8, u "word"), (0, u "Ljava/lang/String;"), (2, u "plural"), (72, u "isFindingVerdict"), (0, u "()Z")] 33

def k6c0 : Code := { maxStack := 2, maxLocals := 1, code := prog_72_method_6_code, exceptionTable := #[], attributes := #[] }
def k6m0 : Method := { name := "isFindingVerdict", desc := "()Z", sig := { parameters := [], returnType := some .boolean }, accessFlags := 1, code := some k6c0 }
/-- com/example/tejuelo/tejuelo/core/Verdict -/
def k6 : Class := { plain "com/example/tejuelo/tejuelo/core/Verdict" (some 5) with
  accessFlags := 16433
  interfaces := #[]
  cf := some (fileOf pool6 1 #[] #[{ accessFlags := 1, nameIndex := 117, descriptorIndex := 118, attributes := #[] }] 16433 29 #[] #[{ accessFlags := 16409, nameIndex := 5, descriptorIndex := 6, attributes := #[] }, { accessFlags := 16409, nameIndex := 9, descriptorIndex := 6, attributes := #[] }, { accessFlags := 16409, nameIndex := 12, descriptorIndex := 6, attributes := #[] }, { accessFlags := 16409, nameIndex := 15, descriptorIndex := 6, attributes := #[] }, { accessFlags := 16409, nameIndex := 18, descriptorIndex := 6, attributes := #[] }, { accessFlags := 18, nameIndex := 40, descriptorIndex := 41, attributes := #[] }, { accessFlags := 18, nameIndex := 44, descriptorIndex := 41, attributes := #[] }, { accessFlags := 4122, nameIndex := 21, descriptorIndex := 22, attributes := #[] }])
  fields := #[{ name := "REJECTED", type := (.object "com/example/tejuelo/tejuelo/core/Verdict"), accessFlags := 16409, slot := 0, constantValue := 0 }, { name := "NOT_HARVESTED", type := (.object "com/example/tejuelo/tejuelo/core/Verdict"), accessFlags := 16409, slot := 1, constantValue := 0 }, { name := "INCOMPLETE", type := (.object "com/example/tejuelo/tejuelo/core/Verdict"), accessFlags := 16409, slot := 2, constantValue := 0 }, { name := "ACCEPTED", type := (.object "com/example/tejuelo/tejuelo/core/Verdict"), accessFlags := 16409, slot := 3, constantValue := 0 }, { name := "DELETED", type := (.object "com/example/tejuelo/tejuelo/core/Verdict"), accessFlags := 16409, slot := 4, constantValue := 0 }, { name := "word", type := (.object "java/lang/String"), accessFlags := 18, slot := 3, constantValue := 0 }, { name := "plural", type := (.object "java/lang/String"), accessFlags := 18, slot := 4, constantValue := 0 }, { name := "$VALUES", type := (.array (.object "com/example/tejuelo/tejuelo/core/Verdict")), accessFlags := 4122, slot := 5, constantValue := 0 }]
  methods := #[k6m0]
  instanceTypes := #[(.object "java/lang/String"), .int, .int, (.object "java/lang/String"), (.object "java/lang/String")]
  staticTypes := #[(.object "com/example/tejuelo/tejuelo/core/Verdict"), (.object "com/example/tejuelo/tejuelo/core/Verdict"), (.object "com/example/tejuelo/tejuelo/core/Verdict"), (.object "com/example/tejuelo/tejuelo/core/Verdict"), (.object "com/example/tejuelo/tejuelo/core/Verdict"), (.array (.object "com/example/tejuelo/tejuelo/core/Verdict"))]
  resolved := Array.replicate 152 none
  statics := some 0 }

def pool7 : Array CpInfo := pool [(1, u "java/lang/Cloneable"), (0, .class_ 1), (0, u "java/lang/Object"), (0, .class_ 3)] 3

/-- java/lang/Cloneable -/
def k7 : Class := { plain "java/lang/Cloneable" (some 0) with
  accessFlags := 1537
  interfaces := #[]
  cf := some (fileOf pool7 2 #[] #[] 1537 4 #[] #[])
  fields := #[]
  methods := #[]
  instanceTypes := #[]
  staticTypes := #[]
  resolved := Array.replicate 8 none
  statics := none }

/-- the primitive byte -/
def k8 : Class := { plain "byte" none with kind := .primitive 'B', accessFlags := 0x411 }
/-- [B -/
def k9 : Class := { plain "[B" (some 0) with kind := .array 8 .byte, interfaces := #[7, 4], accessFlags := 1041 }

/-- the primitive int -/
def k10 : Class := { plain "int" none with kind := .primitive 'I', accessFlags := 0x411 }
/-- [I -/
def k11 : Class := { plain "[I" (some 0) with kind := .array 10 .int, interfaces := #[7, 4], accessFlags := 1041 }

def heap : Heap := #[{ cls := 6, slots := #[.ref 1, .ref 2, .ref 3, .ref 4, .ref 5, .null], vm := .statics 6 },
  { cls := 6, slots := #[.null, .int 0, .int 0, .null, .null], vm := .none },
  { cls := 6, slots := #[.null, .int 1, .int 0, .null, .null], vm := .none },
  { cls := 6, slots := #[.null, .int 2, .int 0, .null, .null], vm := .none },
  { cls := 6, slots := #[.null, .int 3, .int 0, .null, .null], vm := .none },
  { cls := 6, slots := #[.null, .int 4, .int 0, .null, .null], vm := .none }]
def classes : Array Class := #[k0, k1, k2, k3, k4, k5, k6, k7, k8, k9, k10, k11]
def interned : List (Array UInt16 × Addr) := []
def slotsUsed : Nat := 31
def theMethod : MethodId := ⟨1, 1⟩
def args0 : Array Value := #[.int 5]
def aboutOver (below : List Frame) : State where
  vm := { classes := classes, interned := interned.toArray }
  heap := heap
  slotsUsed := slotsUsed
  threads := #[{ frames := .invoking theMethod args0 :: below }]
def below0 : List Frame := [.native { method := ⟨0, 0⟩, args := #[] }]
def about1 : State := aboutOver below0
def p0 : Program := .bare "" "" ""
def e0 : Env := launch0.env 0 0 0
theorem w_frames : about1.frames = Frame.invoking theMethod args0 :: below0 := rfl
set_option maxRecDepth 65536 in
theorem w_args : argsFit about1.vm theMethod args0 = true := by decide +kernel
set_option maxRecDepth 65536 in
theorem w_heap : heapFits about1 = true := by decide +kernel
set_option maxRecDepth 65536 in
theorem w_runnable : about1.curStatus? = some .runnable := by decide +kernel
set_option maxRecDepth 65536 in
theorem w_alone : about1.alone = true := by decide +kernel
set_option maxRecDepth 65536 in
theorem w_named : about1.methodNamed? x = some theMethod := by decide +kernel
set_option maxRecDepth 65536 in
theorem w_hears : about1.hears theMethod below0 = true := by decide +kernel
set_option maxRecDepth 65536 in
theorem w_ripe : about1.ripe theMethod args0 below0 = true := by decide +kernel
theorem w_running : about1.status = .running := rfl
set_option maxRecDepth 65536 in
theorem w_room : about1.hasRoom e0.platform room_1 = true :=
  launch0.hasRoom_least _ room_1 (by decide +kernel) (by decide +kernel) (by decide +kernel) (by decide +kernel) (by decide +kernel) (by decide +kernel)
theorem allAtoms_all (ts : List Jvm.Cond) (a : Array Jvm.Value) (st : Jvm.State) : (allAtoms ts).before a st = ts.all (fun c => c.before a st) := by
  induction ts with
  | nil => rfl
  | cons c t ih =>
    show (Jvm.Cond.and c (allAtoms t)).before a st = _
    rw [Jvm.Cond.before_and, ih, List.all_cons]
def words1 : List Jvm.Cond := Jvm.Cond.code x code maxLocals ret :: tables_1
/-- a 'code' word, met by the world's own term for the bytes: nothing is compared byte by byte -/
theorem code_word {y : MethodName} {bytes : ByteArray} {mx : Nat} {rt : Option FieldType} {a : Array Value} {s : State} {m : MethodId} {meth : Method} {c : Code} (h1 : s.methodNamed? y = some m) (h2 : s.vm.method? m = some meth) (h3 : meth.code = some c) (h4 : c.code = bytes)
    (h5 : (c.maxLocals == mx && c.exceptionTable.isEmpty && decide (c.maxStack ≤ mostOperands) && decide (meth.sig.returnType = rt) && !meth.locks && decide (parseMethodDescriptor y.desc = some meth.sig)) = true) : (Jvm.Cond.code y bytes mx rt).before a s = true := by
  simp only [Bool.and_eq_true, beq_iff_eq, Bool.not_eq_true', decide_eq_true_eq] at h5
  obtain ⟨⟨⟨⟨⟨g1, g2⟩, g3⟩, g4⟩, g5⟩, g6⟩ := h5
  simp [Cond.before, Cond.holds, Cond.value, h1, h2, h3, h4, g1, g2, g3, g4, g5, g6]
def isCode : Jvm.Cond → Bool
  | .code _ _ _ _ => true
  | _ => false
theorem all_split {L : List Jvm.Cond} {P : Jvm.Cond → Bool} (h1 : L.all (fun c => isCode c || P c) = true) (h2 : ∀ c ∈ L.filter isCode, P c = true) : L.all P = true := by
  refine List.all_eq_true.mpr fun c hc => ?_
  have h := List.all_eq_true.mp h1 c hc
  rcases Bool.eq_false_or_eq_true (isCode c) with hi | hi
  · exact h2 c (List.mem_filter.mpr ⟨hc, hi⟩)
  · simpa [hi] using h
set_option maxRecDepth 65536 in
theorem w_c0 : (Jvm.Cond.code x code maxLocals ret).before args0 about1 = true := code_word (m := ⟨1, 1⟩) (meth := k1m1) (c := k1c1) (by decide +kernel) rfl rfl rfl (by decide +kernel)
set_option maxRecDepth 65536 in
theorem w_c1 : (Jvm.Cond.code ({ cls := "com/example/tejuelo/tejuelo/core/Verdict", name := "isFindingVerdict", desc := "()Z" } : Jvm.MethodName) prog_72_method_6_code (1 : Nat) (Option.some Jvm.ClassFile.FieldType.boolean)).before args0 about1 = true := code_word (m := ⟨6, 0⟩) (meth := k6m0) (c := k6c0) (by decide +kernel) rfl rfl rfl (by decide +kernel)
def codes1 : List Jvm.Cond := [Jvm.Cond.code x code maxLocals ret, Jvm.Cond.code ({ cls := "com/example/tejuelo/tejuelo/core/Verdict", name := "isFindingVerdict", desc := "()Z" } : Jvm.MethodName) prog_72_method_6_code (1 : Nat) (Option.some Jvm.ClassFile.FieldType.boolean)]
set_option maxRecDepth 65536 in
theorem codes_eq : words1.filter isCode = codes1 := rfl
theorem w_codes : ∀ c ∈ words1.filter isCode, c.before args0 about1 = true := by
  rw [codes_eq]
  intro c hc
  simp only [codes1, List.mem_cons, List.not_mem_nil, or_false] at hc
  rcases hc with rfl | rfl
  · exact w_c0
  · exact w_c1
set_option maxRecDepth 65536 in
theorem w_t1 : words1.all (fun c => isCode c || c.before args0 about1) = true := by decide +kernel
theorem w_tables : (allAtoms (Jvm.Cond.code x code maxLocals ret :: tables_1)).before args0 about1 = true := by
  rw [allAtoms_all]
  show words1.all (fun c => c.before args0 about1) = true
  refine all_split ?_ w_codes
  rw [w_t1]
set_option maxRecDepth 65536 in
theorem w_case : (Jvm.Cond.and given_1 narrow_1).before args0 about1 = true := by decide +kernel
theorem w_applies : (headSpec (Jvm.Cond.code x code maxLocals ret :: tables_1) room_1).applies x e0.platform about1 = true :=
  (Spec.applies_iff w_frames).mpr ⟨w_running, w_runnable, w_alone, w_named, w_hears, w_ripe, w_room, w_tables⟩
theorem atStart : AtStart classFile x code maxLocals ret World_1 tables_1 room_1 Calls_1 rest_1 Pre_1 launch0 p0 e0 about1 theMethod args0 below0 :=
  ⟨lists_1, trivial, launch0.admits_env _ _ _, launch0.least_env, fairChoices_fair.cas, fairChoices_fair.clock, w_frames, w_args, w_heap, w_applies, trivial, trivial, w_case⟩
end start1
theorem witness_1 : WitnessClaimed_1 := ⟨start1.p0, start1.e0, start1.about1, start1.theMethod, start1.args0, start1.below0, start1.atStart⟩
end Jvm.Pilot.@@N@@
