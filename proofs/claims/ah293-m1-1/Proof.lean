import JvmDerived
import JvmDerived.Pilot.@@N@@Statement
import JvmDerived.Pilot.@@N@@Code
set_option linter.unusedVariables false
set_option linter.unusedSimpArgs false
namespace Jvm.Own
open Sem ClassFile Op Lib Jvm.Stand Jvm.Free Jvm.LawKit Jvm.RoadKit
section Core
variable {p : Program} {l : Launch} {e : Env} {R : Room} {s : State} {m : MethodId} {args : Array Value} {below : List Frame} {meth : Method} {c : Code} {Z : State} {a0 : Array Value} {EL : List (String × Nat)} {Sf : List Addr} {h h' : Heap} {k n k' n' : Nat} {Q : Option Value → Heap → Prop} {g g' : JFrame} {code : ByteArray} {ml : Nat} {own nm : String} {rty : Option FieldType} {pc pc' : Nat} {Ls : Array Slot} {St : List Value}
/-- what stays the same along the walk of one body -/
def Cx (p : Program) (s : State) (m : MethodId) (meth : Method) (c : Code) (code : ByteArray) (ml : Nat) (rty : Option FieldType) (nm own : String) (Z : State) (a0 : Array Value) (EL : List (String × Nat)) : Prop :=
  p.tables.exec = Jvm.exec ∧ c.code = code ∧ c.maxLocals = ml ∧ EW Z a0 EL ∧ s.vm.findClass own = some m.cls ∧ meth.sig.returnType = rty ∧ meth.name = nm ∧ meth.locks = false
theorem Cx.hx (C : Cx p s m meth c code ml rty nm own Z a0 EL) : p.tables.exec = Jvm.exec := C.1
theorem Cx.hby (C : Cx p s m meth c code ml rty nm own Z a0 EL) : c.code = code := C.2.1
theorem Cx.hml (C : Cx p s m meth c code ml rty nm own Z a0 EL) : c.maxLocals = ml := C.2.2.1
theorem Cx.hEL (C : Cx p s m meth c code ml rty nm own Z a0 EL) : EW Z a0 EL := C.2.2.2.1
theorem Cx.hret (C : Cx p s m meth c code ml rty nm own Z a0 EL) : meth.sig.returnType = rty := C.2.2.2.2.2.1
theorem Cx.hnm (C : Cx p s m meth c code ml rty nm own Z a0 EL) : meth.name = nm := C.2.2.2.2.2.2.1
theorem Cx.hlk (C : Cx p s m meth c code ml rty nm own Z a0 EL) : meth.locks = false := C.2.2.2.2.2.2.2
theorem Cx.d (C : Cx p s m meth c code ml rty nm own Z a0 EL) {r : Except DecodeError (Instr × Nat)} (hd : decode code pc = r) : decode c.code pc = r := C.hby ▸ hd
theorem ext_refl (h : Heap) : Ext h h := ⟨Nat.le_refl _, fun _ _ q => q⟩
theorem ext_trans {h1 h2 h3 : Heap} (E : Ext h1 h2) (E' : Ext h2 h3) : Ext h1 h3 := ⟨Nat.le_trans E.1 E'.1, fun a c q => E'.2 a c (E.2 a c q)⟩
theorem ext_wr {h1 h2 h3 : Heap} {a : Addr} {sl : Nat} {v : Value} (E : Ext h1 h2) (W : Wr h2 h3 a sl v) (q : h1.size ≤ a) : Ext h1 h3 :=
  have K := Keep.of_wr W
  ⟨Nat.le_trans E.1 K.1, fun x c r => K.2.1 x c (E.2 x c r) fun z => absurd (Array.getElem?_eq_some_iff.mp r).1 (Nat.not_lt.mpr (by cases List.mem_singleton.mp z; exact q))⟩
theorem ext_keep {h1 h2 h3 : Heap} {ws : List Addr} (E : Ext h1 h2) (K : Keep h2 h3 ws) (q : ∀ x ∈ ws, h1.size ≤ x) : Ext h1 h3 :=
  ⟨Nat.le_trans E.1 K.1, fun x c r => K.2.1 x c (E.2 x c r) fun z => absurd (Array.getElem?_eq_some_iff.mp r).1 (Nat.not_lt.mpr (q x z))⟩
theorem keep_ext {h1 h2 : Heap} (E : Ext h1 h2) (ws : List Addr) : Keep h1 h2 ws := (Keep.refl _ _).ext E
theorem ext_keep1 {h1 h2 h3 : Heap} {a : Addr} (E : Ext h1 h2) (K : Keep h2 h3 [a]) (q : h1.size ≤ a) : Ext h1 h3 := ext_keep E K (allS q all0)
/-- what is known besides, along the walk: vm0 the tables at hand (as the last loaded constant left them), the constants' invariant since the body's start, and that the Strings and byte arrays at Sf, made by this run, are no constant's -/
def Hid (Z : State) (EL : List (String × Nat)) (Sf : List Addr) (s : State) (m : MethodId) (own : String) (h : Heap) (vm0 : Vm) (k0 : Nat) : Prop :=
  Ext Z.heap h ∧ s.Since vm0 k0 ∧ k0 ≤ h.size ∧ Z.Warmed39 vm0 ∧ vm0.findClass own = some m.cls ∧ CHr Z EL s.vm s.heap vm0 h ∧ ∀ x ∈ Sf, x < h.size ∧ Safe Z EL vm0 h x
section HidLaws
variable {vm0 : Vm} {k0 : Nat}
theorem Hid.hE (H : Hid Z EL Sf s m own h vm0 k0) : Ext Z.heap h := H.1
theorem Hid.since (H : Hid Z EL Sf s m own h vm0 k0) : s.Since vm0 k0 := H.2.1
theorem Hid.le (H : Hid Z EL Sf s m own h vm0 k0) : k0 ≤ h.size := H.2.2.1
theorem Hid.hZ (H : Hid Z EL Sf s m own h vm0 k0) : Z.Warmed39 (s.setVm vm0).vm := H.2.2.2.1
theorem Hid.hown (H : Hid Z EL Sf s m own h vm0 k0) : (s.setVm vm0).vm.findClass own = some m.cls := H.2.2.2.2.1
theorem Hid.ch (H : Hid Z EL Sf s m own h vm0 k0) : CHr Z EL s.vm s.heap vm0 h := H.2.2.2.2.2.1
theorem Hid.sf (H : Hid Z EL Sf s m own h vm0 k0) {x : Addr} (q : x ∈ Sf) : Safe Z EL vm0 h x := (H.2.2.2.2.2.2 x q).2
theorem Hid.ext (H : Hid Z EL Sf s m own h vm0 k0) (E : Ext h h') : Hid Z EL Sf s m own h' vm0 k0 :=
  ⟨ext_trans H.hE E, H.since, Nat.le_trans H.le E.1, H.hZ, H.hown, H.ch.trans (CHr.ext E H.ch.1), fun x q => ⟨Nat.lt_of_lt_of_le (H.2.2.2.2.2.2 x q).1 E.1, Safe.ext E H.ch.1 (H.sf q)⟩⟩
theorem Hid.keep {ws : List Addr} (H : Hid Z EL Sf s m own h vm0 k0) (K : Keep h h' ws) (q : ∀ x ∈ ws, Z.heap.size ≤ x) (S : ∀ x ∈ ws, Safe Z EL vm0 h x) : Hid Z EL Sf s m own h' vm0 k0 :=
  ⟨ext_keep H.hE K q, H.since, Nat.le_trans H.le K.1, H.hZ, H.hown, H.ch.trans (CHr.keep K S H.ch.1), fun x r => ⟨Nat.lt_of_lt_of_le (H.2.2.2.2.2.2 x r).1 K.1, Safe.keep K S H.ch.1 (H.sf r)⟩⟩
theorem Hid.wr {a : Addr} {sl : Nat} {v : Value} (H : Hid Z EL Sf s m own h vm0 k0) (W : Wr h h' a sl v) (q : Z.heap.size ≤ a) (S : Safe Z EL vm0 h a) : Hid Z EL Sf s m own h' vm0 k0 := H.keep (Keep.of_wr W) (allS q all0) (sfS S sf0)
/-- a cell made now is no constant's -/
theorem Hid.fresh (H : Hid Z EL Sf s m own h vm0 k0) (E : Ext h h') (hlt : h.size < h'.size) : Hid Z EL (h.size :: Sf) s m own h' vm0 k0 := by
  obtain ⟨a1, a2, a3, a4, a5, a6, a7⟩ := H.ext E
  refine ⟨a1, a2, a3, a4, a5, a6, fun x q => ?_⟩
  rcases List.mem_cons.mp q with rfl | q
  · exact ⟨hlt, Safe.ext E H.ch.1 (Safe.new (Nat.le_refl _))⟩
  · exact a7 x q
theorem Hid.drop {Sf' : List Addr} (H : Hid Z EL Sf s m own h vm0 k0) (q : ∀ x ∈ Sf', x ∈ Sf) : Hid Z EL Sf' s m own h vm0 k0 := ⟨H.1, H.2.1, H.2.2.1, H.2.2.2.1, H.2.2.2.2.1, H.2.2.2.2.2.1, fun x r => H.2.2.2.2.2.2 x (q x r)⟩
/-- tables that go on -/
theorem Hid.later {vm1 : Vm} {k1 : Nat} (H : Hid Z EL Sf s m own h vm0 k0) (hE : Ext Z.heap h') (hS : s.Since vm1 k1) (hk : k1 ≤ h'.size) (hZ : Z.Warmed39 vm1) (ho : vm1.findClass own = some m.cls) (A : CHr Z EL vm0 h vm1 h') : Hid Z EL Sf s m own h' vm1 k1 :=
  ⟨hE, hS, hk, hZ, ho, H.ch.trans A, fun x q => ⟨Nat.lt_of_lt_of_le (H.2.2.2.2.2.2 x q).1 A.2.1, A.safe (H.2.2.2.2.2.2 x q).1 (H.sf q)⟩⟩
end HidLaws
/-- from every state that stands so, with heap h and the frame g on top, the body comes to its end, and Q holds there; what stood at Z stands; the constants' invariant holds -/
def Go (p : Program) (l : Launch) (e : Env) (R : Room) (s : State) (m : MethodId) (args : Array Value) (below : List Frame) (meth : Method) (c : Code) (own : String) (Z : State) (EL : List (String × Nat)) (Sf : List Addr) (Q : Option Value → Heap → Prop) (h : Heap) (k n : Nat) (g : JFrame) : Prop :=
  ∀ vm0 k0 T L, Hid Z EL Sf s m own h vm0 k0 → Fr Z.heap.size L → Stand p l e R (s.setVm vm0) m args below meth c T L k n → T.heap = h → ∃ s₂ o, Steps p.tables e below (T.setTop g) s₂ ∧ s₂.status = .running ∧ Ended s₂ below o ∧ ∃ v L', o = .returned v ∧ (Q v s₂.heap ∧ Ext Z.heap s₂.heap ∧ Fr Z.heap.size L') ∧ CHr Z EL s.vm s.heap s₂.vm s₂.heap ∧ ReturnedEndW s o s₂ L' R.cells R.slots
/-- what a method pays where it is called with these arguments at this heap; the Strings and byte arrays of Sf aren't constants' -/
def Pays (l : Launch) (Z : State) (EL : List (String × Nat)) (Sf : List Addr) (y : MethodName) (bytes : ByteArray) (ml : Nat) (rty : Option FieldType) (rm : Room) (as' : Array Value) (h0 : Heap) (Q : Option Value → Heap → Prop) : Prop :=
  Ext Z.heap h0 → (∀ x ∈ Sf, x < h0.size) → ∀ ws, MetFree l y (head1 (Jvm.Cond.code y bytes ml rty :: ws) rm) (fun a U => a = as' ∧ Z.Warmed39 U.vm ∧ U.heap = h0 ∧ CHv Z EL U.vm h0 ∧ ∀ x ∈ Sf, Safe Z EL U.vm h0 x) (fun _ _ _ _ _ => True) (fun _ U o U' => ∃ v L, o = .returned v ∧ (Q v U'.heap ∧ Ext Z.heap U'.heap ∧ Fr Z.heap.size L) ∧ CHr Z EL U.vm U.heap U'.vm U'.heap ∧ ReturnedEndW U o U' L rm.cells rm.slots)
theorem pays_of_go {y : MethodName} {bytes : ByteArray} {rm : Room} {as' : Array Value} {h0 : Heap} {F : MethodId → JFrame} (hEL : EW Z a0 EL) (hpl : plainFor y = true) (hF : ∀ m, entryFrame m as' ml = F m)
    (body : ∀ p e s m below meth c, Cx p s m meth c bytes ml rty y.name y.cls Z a0 EL → Go p l e rm s m as' below meth c y.cls Z EL Sf Q h0 0 0 (F m)) : Pays l Z EL Sf y bytes ml rty rm as' h0 Q := by
  intro hE hlt ws
  refine MetFree.of_bodySF hpl hisR ?_
  intro p e s m args below meth c s₁ Bd hml0 hP hK
  obtain ⟨rfl, hZ, hh, hC, hSf⟩ := hP
  have e0 : s₁.heap = h0 := by rw [← hh, Bd.state]; rfl
  have X0 : Stand p l e rm s m args below meth c s₁ [] 0 0 := Stand.of_body Bd
  have X1 : Stand p l e rm (s.setVm s.vm) m args below meth c s₁ [] 0 0 := X0
  have hown : s.vm.findClass y.cls = some m.cls := findClass_of_methodNamed Bd.named
  have hH : Hid Z EL Sf s m y.cls h0 s.vm h0.size := ⟨hE, by rw [← hh]; exact (State.WarmedH.refl s).since _, Nat.le_refl _, hZ, hown, by rw [hh]; exact CHr.refl hC, fun x q => ⟨hlt x q, hSf x q⟩⟩
  have q := body p e s m below meth c ⟨Bd.exec, Bd.bytes, hml0, hEL, hown, Bd.returns, (name_of_methodNamed Bd.named Bd.method).1, Bd.notSynchronized⟩ s.vm _ s₁ [] hH (Fr.nil _) X1 e0
  rw [hF]
  exact q
theorem Go.plain (H : ∀ s' T L, Stand p l e R s' m args below meth c T L k n → ∀ t, Steps p.tables e below (T.setTop g') t → Steps p.tables e below (T.setTop g) t) (K : Go p l e R s m args below meth c own Z EL Sf Q h k n g') : Go p l e R s m args below meth c own Z EL Sf Q h k n g := fun vm0 k0 T L hH hF X eT => by
  obtain ⟨s₂, o, st, r⟩ := K vm0 k0 T L hH hF X eT
  exact ⟨s₂, o, H _ T L X _ st, r⟩
theorem Go.law0 (H : ∀ s' T L, Z.Warmed39 s'.vm → s'.vm.findClass own = some m.cls → Ext Z.heap h → Stand p l e R s' m args below meth c T L k n → T.heap = h → ∃ T', Stand p l e R s' m args below meth c T' L k n ∧ T'.heap = h ∧ ∀ t, Steps p.tables e below (T'.setTop g') t → Steps p.tables e below (T.setTop g) t) (K : Go p l e R s m args below meth c own Z EL Sf Q h k n g') : Go p l e R s m args below meth c own Z EL Sf Q h k n g := fun vm0 k0 T L hH hF X eT => by
  obtain ⟨T', X', eT', st'⟩ := H _ T L hH.hZ hH.hown hH.hE X eT
  obtain ⟨s₂, o, st, r⟩ := K vm0 k0 T' L hH hF X' eT'
  exact ⟨s₂, o, st' _ st, r⟩
theorem Go.old (K : Ext Z.heap h → Go p l e R s m args below meth c own Z EL Sf Q h k n g) : Go p l e R s m args below meth c own Z EL Sf Q h k n g := fun vm0 k0 T L hH hF X eT => K hH.hE vm0 k0 T L hH hF X eT
/-- a String or byte array of the run's own is none of a constant's: so it differs from one that was there at the start or.. (what Hid says, handed out) -/
theorem Go.drop {Sf' : List Addr} (q : ∀ x ∈ Sf', x ∈ Sf) (K : Go p l e R s m args below meth c own Z EL Sf' Q h k n g) : Go p l e R s m args below meth c own Z EL Sf Q h k n g := fun vm0 k0 T L hH hF X eT => K vm0 k0 T L (hH.drop q) hF X eT
theorem stand_more {T : State} {L : List Loc} (X : Stand p l e R s m args below meth c T L k n) (hk : k ≤ k') (hn : n ≤ n') : Stand p l e R s m args below meth c T L k' n' :=
  ⟨X.admits, X.cas, X.clock, X.frames, X.room, X.hears, X.method, X.code, X.here, X.tail, X.warmed, X.limits, X.bytes, X.same.mono hk hn⟩
/-- less may have been made than is booked -/
theorem Go.more (hk : k ≤ k') (hn : n ≤ n') (K : Go p l e R s m args below meth c own Z EL Sf Q h k' n' g) : Go p l e R s m args below meth c own Z EL Sf Q h k n g := fun vm0 k0 T L hH hF X eT => K vm0 k0 T L hH hF (stand_more X hk hn) eT
theorem catV {v : Value} (h : v.isRef = true) : v.category = 1 := by rcases ref_cases h with rfl | ⟨_, rfl⟩ <;> rfl
theorem narR (ty : FieldType) (v : Value) (h : v.isRef = true) : narrow ty v = v := by rcases ref_cases h with rfl | ⟨_, rfl⟩ <;> cases ty <;> rfl
theorem fitR' {ty : FieldType} {v : Value} (ht : ty.isReference = true) (h : v.isRef = true) : fits ty v = true := by rcases ref_cases h with rfl | ⟨_, rfl⟩ <;> cases ty <;> first | rfl | (simp [FieldType.isReference] at ht)
theorem ins_keep {a : Addr} {cK : String} {b : Bool} {ws : List Addr} (F : Ins Z h a cK b) (K : Keep h h' ws) : Ins Z h' a cK b := by
  obtain ⟨cell, cT, h1, h2, h3⟩ := F
  obtain ⟨c', q, r1, r2, -⟩ := K.2.2 a cell h1
  exact ⟨c', cT, q, h2, by rw [r1, r2]; exact h3⟩
theorem faceOk {r fn d : String} (q : r ≠ "java/lang/invoke/MethodHandle" ∧ r ≠ "java/lang/invoke/VarHandle") : ((Jvm.Cond.interfaceMethod r r fn d).onTables && (Jvm.Cond.interfaceMethod r r fn d).keepsFace) = true := by
  show (true && (false || (r == r && r != "java/lang/invoke/MethodHandle" && r != "java/lang/invoke/VarHandle"))) = true
  simp [q.1, q.2]
/-! ### the single laws -/
theorem Go.ldcI (C : Cx p s m meth c code ml rty nm own Z a0 EL) {idx : Nat} {v : Int32} (w : (Jvm.Cond.constant own idx v).before a0 Z = true) (hd : decode code pc = .ok (.ldc idx, 2)) (hp : pc + 2 = pc')
    (K : Go p l e R s m args below meth c own Z EL Sf Q h k n (mkF m pc' Ls (.int v :: St))) : Go p l e R s m args below meth c own Z EL Sf Q h k n (mkF m pc Ls St) := by
  subst hp
  exact Go.law0 (fun s' T L hZ hown hE X eT => ⟨T, X, eT, fun t q => X.ldcInt C.hx hown (mv hZ w) (g := mkF m pc Ls St) rfl (C.d hd) t q⟩) K
theorem Go.irem (C : Cx p s m meth c code ml rty nm own Z a0 EL) {x y : Int32} (hd : decode code pc = .ok (.irem, 1)) (hy : y ≠ 0) (hp : pc + 1 = pc')
    (K : Go p l e R s m args below meth c own Z EL Sf Q h k n (mkF m pc' Ls (.int (x % y) :: St))) : Go p l e R s m args below meth c own Z EL Sf Q h k n (mkF m pc Ls (.int y :: .int x :: St)) := by
  subst hp
  exact Go.plain (fun s' T L X t q => iremM (g := mkF m pc Ls (.int y :: .int x :: St)) X C.hx rfl (C.d hd) rfl hy q) K
theorem Go.getF (C : Cx p s m meth c code ml rty nm own Z a0 EL) {R0 O fn d host : String} {idx : Nat} (w : (Jvm.Cond.fieldLink own idx R0 fn d).before a0 Z = true ∨ (Jvm.Cond.fieldLinkNest own idx R0 fn d host).before a0 Z = true) (via : Via Z R0 O fn d) {a : Addr} {v : Value} (F : Fld Z h a O fn d v)
    (hd : decode code pc = .ok (.getfield idx, 3)) (hp : pc + 3 = pc') (K : Go p l e R s m args below meth c own Z EL Sf Q h k n (mkF m pc' Ls (v :: St))) : Go p l e R s m args below meth c own Z EL Sf Q h k n (mkF m pc Ls (.ref a :: St)) := by
  subst hp
  exact Go.law0 (fun s' T L hZ hown hE X eT => Jvm.RoadKit.getF X C.hx hZ hown w via eT F (g := mkF m pc Ls (.ref a :: St)) rfl rfl (C.d hd)) K
theorem Go.getS (C : Cx p s m meth c code ml rty nm own Z a0 EL) {R0 O fn d host : String} {idx : Nat} (w : (Jvm.Cond.fieldLink own idx R0 fn d).before a0 Z = true ∨ (Jvm.Cond.fieldLinkNest own idx R0 fn d host).before a0 Z = true) (via : Via Z R0 O fn d) {v : Value} (F : Sta Z Z.heap O fn d v)
    (hd : decode code pc = .ok (.getstatic idx, 3)) (hp : pc + 3 = pc') (K : Go p l e R s m args below meth c own Z EL Sf Q h k n (mkF m pc' Ls (v :: St))) : Go p l e R s m args below meth c own Z EL Sf Q h k n (mkF m pc Ls St) := by
  subst hp
  exact Go.law0 (fun s' T L hZ hown hE X eT => Jvm.RoadKit.getS2 X C.hx hZ hown w via eT (F.ext hE) (g := mkF m pc Ls St) rfl (C.d hd)) K
theorem Go.new (C : Cx p s m meth c code ml rty nm own Z a0 EL) {cl : String} {idx sl : Nat} (w : (Jvm.Cond.classLink own idx cl).before a0 Z = true) (wi : (Jvm.Cond.instantiable cl sl).before a0 Z = true) (wz : (Jvm.Cond.initialized cl).before a0 Z = true) (hd : decode code pc = .ok (.new idx, 3)) (hp : pc + 3 = pc')
    (hk : k + 1 = k') (hn : n + sl = n') (hc : k' ≤ R.cells) (hl : n' ≤ R.slots)
    (K : ∀ (a : Addr) (h' : Heap), a = h.size → Z.heap.size ≤ a → Ext h h' → Exa Z h' a cl → (∀ {O fn d : String} {ty : FieldType}, Laid Z a0 cl O fn d → parseFieldDescriptor d = some ty → Fld Z h' a O fn d (defaultValue ty)) → Go p l e R s m args below meth c own Z EL Sf Q h' k' n' (mkF m pc' Ls (.ref a :: St))) :
    Go p l e R s m args below meth c own Z EL Sf Q h k n (mkF m pc Ls St) := by
  subst hp hk hn
  intro vm0 k0 T L hH hF X eT
  obtain ⟨T', h2, X', e', E', A', D', -, st'⟩ := newO X C.hx hH.hZ hH.hown w wi wz eT (g := mkF m pc Ls St) rfl (C.d hd) hc hl
  obtain ⟨s₂, o, st, r⟩ := K _ h2 rfl hH.hE.1 E' A' D' vm0 k0 T' L (hH.ext E') hF X' e'
  exact ⟨s₂, o, st' _ st, r⟩
theorem Go.newF (C : Cx p s m meth c code ml rty nm own Z a0 EL) {cl : String} {idx sl : Nat} (w : (Jvm.Cond.classLink own idx cl).before a0 Z = true) (wi : (Jvm.Cond.instantiable cl sl).before a0 Z = true) (wz : (Jvm.Cond.initialized cl).before a0 Z = true) (hd : decode code pc = .ok (.new idx, 3)) (hp : pc + 3 = pc')
    (hk : k + 1 = k') (hn : n + sl = n') (hc : k' ≤ R.cells) (hl : n' ≤ R.slots)
    (K : ∀ (a : Addr) (h' : Heap), a = h.size → Z.heap.size ≤ a → Ext h h' → Exa Z h' a cl → (∀ {O fn d : String} {ty : FieldType}, Laid Z a0 cl O fn d → parseFieldDescriptor d = some ty → Fld Z h' a O fn d (defaultValue ty)) → Go p l e R s m args below meth c own Z EL (a :: Sf) Q h' k' n' (mkF m pc' Ls (.ref a :: St))) :
    Go p l e R s m args below meth c own Z EL Sf Q h k n (mkF m pc Ls St) := by
  subst hp hk hn
  intro vm0 k0 T L hH hF X eT
  obtain ⟨T', h2, X', e', E', A', D', -, st'⟩ := newO X C.hx hH.hZ hH.hown w wi wz eT (g := mkF m pc Ls St) rfl (C.d hd) hc hl
  obtain ⟨s₂, o, st, r⟩ := K _ h2 rfl hH.hE.1 E' A' D' vm0 k0 T' L (hH.fresh E' A'.lt) hF X' e'
  exact ⟨s₂, o, st' _ st, r⟩
theorem Go.putF (C : Cx p s m meth c code ml rty nm own Z a0 EL) {R0 O fn d host cl : String} {idx kk : Nat} {ty : FieldType} (w : (Jvm.Cond.fieldLink own idx R0 fn d).before a0 Z = true ∨ (Jvm.Cond.fieldLinkNest own idx R0 fn d host).before a0 Z = true) (via : Via Z R0 O fn d) {a : Addr} {v old : Value} (F : Fld Z h a O fn d old) (E : Exa Z h a cl)
    (Ly : (Jvm.Cond.lays cl O fn d).before a0 Z = true ∨ ((Jvm.Cond.laysFinal cl O fn d).before a0 Z = true ∧ own = O ∧ nm = "<init>")) (wi : (Jvm.Cond.instantiable cl kk).before a0 Z = true) (hty : parseFieldDescriptor d = some ty) (hn1 : narrow ty v = v) (hf : fits ty v = true) (ha : Z.heap.size ≤ a) (hsf : a ∈ Sf ∨ (cl ≠ "java/lang/String" ∧ cl ≠ "[B"))
    (hd : decode code pc = .ok (.putfield idx, 3)) (hp : pc + 3 = pc')
    (K : ∀ h', Wr h h' a (Jvm.RoadKit.slotOf Z O fn d) v → Go p l e R s m args below meth c own Z EL Sf Q h' k n (mkF m pc' Ls St)) : Go p l e R s m args below meth c own Z EL Sf Q h k n (mkF m pc Ls (v :: .ref a :: St)) := by
  subst hp
  intro vm0 k0 T L hH hF X eT
  obtain ⟨T', h2, X', e', W', st'⟩ := Jvm.RoadKit.putF X C.hx hH.hZ hH.hown w via eT F E (Ly.imp id fun q => ⟨q.1, q.2.1, C.hnm.trans q.2.2⟩) wi hty hn1 hf (g := mkF m pc Ls (v :: .ref a :: St)) rfl rfl (C.d hd)
  obtain ⟨s₂, o, st, r⟩ := K h2 W' vm0 k0 T' _ (hH.wr W' ha (hsf.elim hH.sf fun q => Safe.exa hH.hZ.alike E q.1 q.2)) (Fr.snoc X' hF ha) X' e'
  exact ⟨s₂, o, st' _ st, r⟩
/-- a putfield of a boolean, byte, char or short: what lies there is the narrowed value -/
theorem Go.putFN (C : Cx p s m meth c code ml rty nm own Z a0 EL) {R0 O fn d cl : String} {idx kk : Nat} {ty : FieldType} (w : (Jvm.Cond.fieldLink own idx R0 fn d).before a0 Z = true) (via : Via Z R0 O fn d) {a : Addr} {v v' old : Value} (F : Fld Z h a O fn d old) (E : Exa Z h a cl)
    (Ly : (Jvm.Cond.lays cl O fn d).before a0 Z = true ∨ ((Jvm.Cond.laysFinal cl O fn d).before a0 Z = true ∧ own = O ∧ nm = "<init>")) (wi : (Jvm.Cond.instantiable cl kk).before a0 Z = true) (hty : parseFieldDescriptor d = some ty) (hn1 : narrow ty v = v') (hf : fits ty v' = true) (ha : Z.heap.size ≤ a) (hsf : a ∈ Sf ∨ (cl ≠ "java/lang/String" ∧ cl ≠ "[B"))
    (hd : decode code pc = .ok (.putfield idx, 3)) (hp : pc + 3 = pc')
    (K : ∀ h', Wr h h' a (Jvm.RoadKit.slotOf Z O fn d) v' → Go p l e R s m args below meth c own Z EL Sf Q h' k n (mkF m pc' Ls St)) : Go p l e R s m args below meth c own Z EL Sf Q h k n (mkF m pc Ls (v :: .ref a :: St)) := by
  subst hp
  intro vm0 k0 T L hH hF X eT
  obtain ⟨T', h2, X', e', W', st'⟩ := Jvm.RoadKit.putFN X C.hx hH.hZ hH.hown w via eT F E (Ly.imp id fun q => ⟨q.1, q.2.1, C.hnm.trans q.2.2⟩) wi hty hn1 hf (g := mkF m pc Ls (v :: .ref a :: St)) rfl rfl (C.d hd)
  obtain ⟨s₂, o, st, r⟩ := K h2 W' vm0 k0 T' _ (hH.wr W' ha (hsf.elim hH.sf fun q => Safe.exa hH.hZ.alike E q.1 q.2)) (Fr.snoc X' hF ha) X' e'
  exact ⟨s₂, o, st' _ st, r⟩
theorem Go.initO (C : Cx p s m meth c code ml rty nm own Z a0 EL) {idx : Nat} (w1 : (Jvm.Cond.methodLink own idx Lib.objectInit).before a0 Z = true) (w2 : (Jvm.Cond.instanceMethod Lib.objectInit).before a0 Z = true) (w3 : (Jvm.Cond.code Lib.objectInit ⟨#[0xb1]⟩ 1 none).before a0 Z = true) {a : Addr}
    (hd : decode code pc = .ok (.invokespecial idx, 3)) (hp : pc + 3 = pc') (hs : Ls.size = ml) (hf : 1 ≤ R.frames) {W : Nat} (hW : (St.map fun v => v.category).sum ≤ W) (hl : W + 12 ≤ R.locals)
    (K : Go p l e R s m args below meth c own Z EL Sf Q h k n (mkF m pc' Ls St)) : Go p l e R s m args below meth c own Z EL Sf Q h k n (mkF m pc Ls (.ref a :: St)) := by
  subst hp
  exact Go.law0 (fun s' T L hZ hown hE X eT => Jvm.RoadKit.initO X C.hx hZ hown w1 w2 w3 eT (g := mkF m pc Ls (.ref a :: St)) rfl (hs.trans C.hml.symm) rfl (C.d hd) hf (W := W) (by show 2 * 0 + _ ≤ _; omega) hl) K
theorem Go.newP (C : Cx p s m meth c code ml rty nm own Z a0 EL) {aty : ArrayType} (w : (Jvm.Cond.arrayClass (newarray.typeOf aty)).before a0 Z = true) {z : Int32} (hz : ¬ z < 0) {cap : Nat} (hcap : z.toNatClampNeg ≤ cap) (hb : cap * 8 ≤ 536870912) (hd : decode code pc = .ok (.newarray aty, 2)) (hp : pc + 2 = pc')
    (hk : k + 1 = k') (hn : n + cap = n') (hc : k' ≤ R.cells) (hl : n' ≤ R.slots)
    (K : ∀ (a : Addr) (h' : Heap) (kA : ClassId), a = h.size → Z.heap.size ≤ a → Ext h h' → Arv Z h' a kA (newarray.typeOf aty) z [] (defaultValue (newarray.typeOf aty)) → Go p l e R s m args below meth c own Z EL Sf Q h' k' n' (mkF m pc' Ls (.ref a :: St))) :
    Go p l e R s m args below meth c own Z EL Sf Q h k n (mkF m pc Ls (.int z :: St)) := by
  subst hp hk hn
  intro vm0 k0 T L hH hF X eT
  obtain ⟨T', h2, kA, X', e', E', A', st'⟩ := Jvm.RoadKit.newP X C.hx hH.hZ w eT (g := mkF m pc Ls (.int z :: St)) rfl (C.d hd) rfl hz hcap hb hc hl
  obtain ⟨s₂, o, st, r⟩ := K _ h2 kA rfl hH.hE.1 E' (Arv.new A' hz) vm0 k0 T' L (hH.ext E') hF X' e'
  exact ⟨s₂, o, st' _ st, r⟩
theorem Go.newPF (C : Cx p s m meth c code ml rty nm own Z a0 EL) {aty : ArrayType} (w : (Jvm.Cond.arrayClass (newarray.typeOf aty)).before a0 Z = true) {z : Int32} (hz : ¬ z < 0) {cap : Nat} (hcap : z.toNatClampNeg ≤ cap) (hb : cap * 8 ≤ 536870912) (hd : decode code pc = .ok (.newarray aty, 2)) (hp : pc + 2 = pc')
    (hk : k + 1 = k') (hn : n + cap = n') (hc : k' ≤ R.cells) (hl : n' ≤ R.slots)
    (K : ∀ (a : Addr) (h' : Heap) (kA : ClassId), a = h.size → Z.heap.size ≤ a → Ext h h' → Arv Z h' a kA (newarray.typeOf aty) z [] (defaultValue (newarray.typeOf aty)) → Go p l e R s m args below meth c own Z EL (a :: Sf) Q h' k' n' (mkF m pc' Ls (.ref a :: St))) :
    Go p l e R s m args below meth c own Z EL Sf Q h k n (mkF m pc Ls (.int z :: St)) := by
  subst hp hk hn
  intro vm0 k0 T L hH hF X eT
  obtain ⟨T', h2, kA, X', e', E', A', st'⟩ := Jvm.RoadKit.newP X C.hx hH.hZ w eT (g := mkF m pc Ls (.int z :: St)) rfl (C.d hd) rfl hz hcap hb hc hl
  obtain ⟨s₂, o, st, r⟩ := K _ h2 kA rfl hH.hE.1 E' (Arv.new A' hz) vm0 k0 T' L (hH.fresh E' A'.lt) hF X' e'
  exact ⟨s₂, o, st' _ st, r⟩
theorem Go.stC (C : Cx p s m meth c code ml rty nm own Z a0 EL) {a : Addr} {kA : ClassId} {z j x : Int32} {vs : List Value} {dv : Value} (V : Arv Z h a kA .char z vs dv) (hj : ¬ j < 0 ∧ j < z) {i : Nat} (hi : j.toNatClampNeg = i) (hlen : i < vs.length) (ha : Z.heap.size ≤ a)
    (hd : decode code pc = .ok (.castore, 1)) (hp : pc + 1 = pc')
    (K : ∀ h', Wr h h' a j.toNatClampNeg (.int (nar .char x)) → Arv Z h' a kA .char z (vs.set i (.int (nar .char x))) dv → Go p l e R s m args below meth c own Z EL Sf Q h' k n (mkF m pc' Ls St)) :
    Go p l e R s m args below meth c own Z EL Sf Q h k n (mkF m pc Ls (.int x :: .int j :: .ref a :: St)) := by
  subst hp
  intro vm0 k0 T L hH hF X eT
  obtain ⟨cl, Ar, q1, S, N, H, G⟩ := V
  obtain ⟨T', h2, X', e', W', st'⟩ := Jvm.RoadKit.stC X C.hx hH.hZ eT Ar (j := j) (inb_of S hj) (g := mkF m pc Ls (.int x :: .int j :: .ref a :: St)) rfl rfl (C.d hd)
  obtain ⟨s₂, o, st, r⟩ := K h2 W' (Arv.set Ar q1 S N H G (fits_nar_char _) W' i hi hlen) vm0 k0 T' _ (hH.wr W' ha (Safe.arr hH.hZ.alike Ar (by decide))) (Fr.snoc X' hF ha) X' e'
  exact ⟨s₂, o, st' _ st, r⟩
/-! ### ends -/
theorem Go.ret {ty : FieldType} (C : Cx p s m meth c code ml (some ty) nm own Z a0 EL) {w : Value} {i : Instr} (hn : narrow ty w = w)
    (hi : (i = .ireturn ∧ (ty = .int ∨ ty = .boolean ∨ ty = .byte ∨ ty = .char ∨ ty = .short) ∧ ∃ z, w = .int z) ∨ (i = .lreturn ∧ ty = .long ∧ ∃ z, w = .long z) ∨ (i = .dreturn ∧ ty = .double ∧ ∃ z, w = .double z) ∨ (i = .freturn ∧ ty = .float ∧ ∃ z, w = .float z) ∨ (i = .areturn ∧ ty.isReference = true ∧ w.isRef = true))
    (hd : decode code pc = .ok (i, 1)) (hk : k ≤ R.cells) (hl : n ≤ R.slots) (hQ : Q (some w) h) : Go p l e R s m args below meth c own Z EL Sf Q h k n (mkF m pc Ls (w :: St)) := by
  intro vm0 k0 T L hH hF X eT
  obtain ⟨fs, hr, hrun, hended, hW⟩ := X.leaveW hH.since (by rw [eT]; exact hH.le) (v := some w) (fun q => by rw [C.hret] at q; cases q) C.hlk
  refine ⟨_, _, retOut X C.hx C.hret hn hi (C.d hd) hr, hrun, hended, _, L, rfl, ⟨?_, ?_, hF⟩, ?_, hW.1, hW.2.1, hW.2.2.1, hW.2.2.2.mono hk hl⟩
  · show Q (some w) T.heap
    rw [eT]; exact hQ
  · show Ext Z.heap T.heap
    rw [eT]; exact hH.hE
  · show CHr Z EL s.vm s.heap T.vm T.heap
    rw [eT]; exact hH.ch.trans (CHv.at X hH.hZ C.hEL hH.ch.1)
theorem Go.retI (C : Cx p s m meth c code ml (some .int) nm own Z a0 EL) {z : Int32} (hd : decode code pc = .ok (.ireturn, 1)) (hk : k ≤ R.cells) (hl : n ≤ R.slots) (hQ : Q (some (.int z)) h) : Go p l e R s m args below meth c own Z EL Sf Q h k n (mkF m pc Ls (.int z :: St)) :=
  Go.ret C rfl (Or.inl ⟨rfl, Or.inl rfl, z, rfl⟩) hd hk hl hQ
theorem Go.retA {ty : FieldType} (C : Cx p s m meth c code ml (some ty) nm own Z a0 EL) {w : Value} (ht : ty.isReference = true) (hw : w.isRef = true) (hn : narrow ty w = w) (hd : decode code pc = .ok (.areturn, 1)) (hk : k ≤ R.cells) (hl : n ≤ R.slots) (hQ : Q (some w) h) : Go p l e R s m args below meth c own Z EL Sf Q h k n (mkF m pc Ls (w :: St)) :=
  Go.ret C hn (Or.inr (Or.inr (Or.inr (Or.inr ⟨rfl, ht, hw⟩)))) hd hk hl hQ
/-- ireturn of a boolean, byte, char or short: what is handed back is narrowed -/
theorem Go.retN {ty : FieldType} (C : Cx p s m meth c code ml (some ty) nm own Z a0 EL) {z : Int32} (ht : ty = .boolean ∨ ty = .byte ∨ ty = .char ∨ ty = .short) (hd : decode code pc = .ok (.ireturn, 1)) (hk : k ≤ R.cells) (hl : n ≤ R.slots) (hQ : Q (some (.int (nar ty z))) h) : Go p l e R s m args below meth c own Z EL Sf Q h k n (mkF m pc Ls (.int z :: St)) := by
  intro vm0 k0 T L hH hF X eT
  obtain ⟨fs, hr, hrun, hended, hW⟩ := X.leaveW hH.since (by rw [eT]; exact hH.le) (v := some (.int (nar ty z))) (fun q => by rw [C.hret] at q; cases q) C.hlk
  refine ⟨_, _, Jvm.RoadKit.retN X C.hx C.hret ht (C.d hd) hr, hrun, hended, _, L, rfl, ⟨?_, ?_, hF⟩, ?_, hW.1, hW.2.1, hW.2.2.1, hW.2.2.2.mono hk hl⟩
  · show Q (some (.int (nar ty z))) T.heap
    rw [eT]; exact hQ
  · show Ext Z.heap T.heap
    rw [eT]; exact hH.hE
  · show CHr Z EL s.vm s.heap T.vm T.heap
    rw [eT]; exact hH.ch.trans (CHv.at X hH.hZ C.hEL hH.ch.1)
theorem Go.retV (C : Cx p s m meth c code ml none nm own Z a0 EL) (hd : decode code pc = .ok (.return_, 1)) (hk : k ≤ R.cells) (hl : n ≤ R.slots) (hQ : Q none h) : Go p l e R s m args below meth c own Z EL Sf Q h k n (mkF m pc Ls []) := by
  intro vm0 k0 T L hH hF X eT
  obtain ⟨fs, hr, hrun, hended, hW⟩ := X.leaveW hH.since (by rw [eT]; exact hH.le) (v := none) (fun _ => rfl) C.hlk
  refine ⟨_, _, X.returnOut C.hx C.hret (C.d hd) hr, hrun, hended, _, L, rfl, ⟨?_, ?_, hF⟩, ?_, hW.1, hW.2.1, hW.2.2.1, hW.2.2.2.mono hk hl⟩
  · show Q none T.heap
    rw [eT]; exact hQ
  · show Ext Z.heap T.heap
    rw [eT]; exact hH.hE
  · show CHr Z EL s.vm s.heap T.vm T.heap
    rw [eT]; exact hH.ch.trans (CHv.at X hH.hZ C.hEL hH.ch.1)
/-! ### calls by a contract -/
variable {y : MethodName} {bytes : ByteArray} {ml' : Nat} {ret' : Option FieldType} {rm : Room} {as' : Array Value} {Q' : Option Value → Heap → Prop} {idx W dc ds : Nat} {argsL rest : List Value} {ps : List FieldType} {rt : Option FieldType} {Qr : Option Value → Heap → List Loc → Prop}
/-- what pays a call in this family, narrow: the arguments as', the heap h, dc cells and ds slots at the most -/
abbrev Pay (l : Launch) (R : Room) (p : Program) (e : Env) (below : List Frame) (s : State) (args : Array Value) (y : MethodName) (len W : Nat) (as' : Array Value) (h : Heap) (dc ds : Nat) (Qr : Option Value → Heap → List Loc → Prop) : Prop :=
  Back l R p e below s args y len W (fun A a => a = as' ∧ A.U.heap = h ∧ A.cells + dc ≤ R.cells ∧ A.slots + ds ≤ R.slots) (fun A _ v B => ∃ L, Qr v B.U.heap L ∧ B.locs = A.locs ++ L ∧ B.cells = A.cells + dc ∧ B.slots = A.slots + ds)
/-- .. wide: it may load constants -/
theorem Pays.payS {len : Nat} {vm0 : Vm} {Sp : List Addr} (P : Pays l Z EL Sp y bytes ml' ret' rm as' h Q') (hEL : EW Z a0 EL) (hE : Ext Z.heap h) (hZ : Z.Warmed39 vm0) (H : CHv Z EL vm0 h) (hS : ∀ x ∈ Sp, x < h.size ∧ Safe Z EL vm0 h x) (wc : (Jvm.Cond.code y bytes ml' ret').before a0 Z = true) (wz : (Jvm.Cond.initialized y.cls).before a0 Z = true) (hf : rm.frames + 1 ≤ R.frames) (hl : W + (ml' + 11) + rm.locals ≤ R.locals) :
    BackS l R p e below (s.setVm vm0) args y len W (fun A a => a = as' ∧ A.U.heap = h ∧ A.cells + rm.cells ≤ R.cells ∧ A.slots + rm.slots ≤ R.slots)
      (fun A _ v B => ∃ L, (Q' v B.U.heap ∧ Ext Z.heap B.U.heap ∧ Fr Z.heap.size L) ∧ B.locs = A.locs ++ L ∧ B.cells = A.cells + rm.cells ∧ B.slots = A.slots + rm.slots ∧ CHr Z EL vm0 h B.U.vm B.U.heap) :=
  BackS.of_freeW (bytes := bytes) (maxL := ml') (ret := ret') (E := fun _ first o t L k n => k = rm.cells ∧ n = rm.slots ∧ (∃ v, o = .returned v ∧ (Q' v t.heap ∧ Ext Z.heap t.heap ∧ Fr Z.heap.size L)) ∧ CHr Z EL first.vm first.heap t.vm t.heap) (P hE (fun x q => (hS x q).1) []) hf hl
    (fun m meth c A a Y hp => have hU : Z.Warmed39 A.U.vm := wtrans (s := s.setVm vm0) hZ Y.warmed
      ⟨by show (Jvm.Cond.and _ .tt).before a A.U = true; rw [Cond.before_and, mv hU wc]; rfl, mv hU wc, mv hU wz, hp.2.2.1, hp.2.2.2⟩)
    (fun m meth c A a g mk Y hp => ⟨hp.1, wtrans (s := s.setVm vm0) hZ Y.warmed, hp.2.1, (CHv.at Y hZ hEL H).1, fun x q => (CHv.at Y hZ hEL H).safe (hS x q).1 (hS x q).2⟩) (fun _ _ _ _ _ _ _ _ _ => trivial)
    (fun _ _ _ _ ⟨v, L, h1, h2, h3, h4⟩ => ⟨L, _, _, h4, rfl, rfl, ⟨v, h1, h2⟩, h3⟩)
    (fun m meth c A a g mk v t L k n Y hp _ _ ⟨e1, e2, ⟨v', e3, e4⟩, e5⟩ => by
      cases e3; subst e1 e2
      refine ⟨L, e4, rfl, rfl, rfl, (CHv.at Y hZ hEL H).trans ?_⟩
      rw [← hp.2.1]; exact e5)
theorem Go.staticB (C : Cx p s m meth c code ml rty nm own Z a0 EL)  (P : ∀ s', Z.Warmed39 s'.vm → Ext Z.heap h → Pay l R p e below s' args y 3 W as' h dc ds Qr) (hQ : ∀ v h' L, Ext Z.heap h → Qr v h' L → Q' v h' ∧ Fr Z.heap.size L ∧ ∃ ws, Keep h h' ws ∧ (∀ x ∈ ws, Z.heap.size ≤ x) ∧ ∀ x ∈ ws, x ∈ Sf) (wl : (Jvm.Cond.methodLink own idx y).before a0 Z = true) (ws : (Jvm.Cond.static y).before a0 Z = true) (wz : (Jvm.Cond.initialized y.cls).before a0 Z = true) (wc : (Jvm.Cond.code y bytes ml' ret').before a0 Z = true)
    (hy : y.cls ≠ "java/lang/invoke/MethodHandle" ∧ y.cls ≠ "java/lang/invoke/VarHandle") (hpd : parseMethodDescriptor y.desc = some ⟨ps, rt⟩) (hlen : argsL.length = ps.length) (has : argsL.toArray = as') (hd : decode code pc = .ok (.invokestatic idx, 3)) (hp : pc + 3 = pc') (hs : Ls.size = ml) (hst : St = argsL.reverse ++ rest)
    (hW : (rest.map fun v => v.category).sum ≤ W) (hk : k + dc = k') (hn : n + ds = n') (hc : k' ≤ R.cells) (hsl : n' ≤ R.slots)
    (K : ∀ v h', Q' v h' → Go p l e R s m args below meth c own Z EL Sf Q h' k' n' (mkF m pc' Ls (v.toList ++ rest))) : Go p l e R s m args below meth c own Z EL Sf Q h k n (mkF m pc Ls St) := by
  subst hp hk hn
  intro vm0 k0 T L hH hF X eT
  obtain ⟨v, vm₁, ⟨T', L', k', n'⟩, -, X', ⟨Lc, hq, hL, hk, hn⟩, st'⟩ := Jvm.LawKit.callS X C.hx (y := y) hH.hown (mvT hH.hZ wl) (mvT hH.hZ ws) (mvT hH.hZ wz) (mvT hH.hZ wc) hy (P (s.setVm vm0) hH.hZ hH.hE) (g := mkF m pc Ls St) rfl (hs.trans C.hml.symm) (argsL := argsL) (rest := rest) (lenOf hpd hlen) hst (by show 2 * 0 + _ ≤ _; omega) (C.d hd) (fun _ _ => ⟨has, eT, hc, hsl⟩)
  dsimp only [Pt.U, Pt.locs, Pt.cells, Pt.slots] at X' hL hk hn st' hq
  subst hL hk hn
  obtain ⟨hq, hF', ws, hK, hw1, hw2⟩ := hQ _ _ _ hH.hE hq
  obtain ⟨s₂, o, st, r⟩ := K v _ hq vm0 k0 T' _ (hH.keep hK hw1 fun x q => hH.sf (hw2 x q)) (Fr.app hF hF') X' rfl
  exact ⟨s₂, o, st' _ st, r⟩
theorem Go.static (C : Cx p s m meth c code ml rty nm own Z a0 EL)  {Sp : List Addr} (P : Pays l Z EL Sp y bytes ml' ret' rm as' h Q') (hSp : ∀ x ∈ Sp, x ∈ Sf) (wl : (Jvm.Cond.methodLink own idx y).before a0 Z = true) (ws : (Jvm.Cond.static y).before a0 Z = true) (wz : (Jvm.Cond.initialized y.cls).before a0 Z = true) (wc : (Jvm.Cond.code y bytes ml' ret').before a0 Z = true)
    (hy : y.cls ≠ "java/lang/invoke/MethodHandle" ∧ y.cls ≠ "java/lang/invoke/VarHandle") (hpd : parseMethodDescriptor y.desc = some ⟨ps, rt⟩) (hlen : argsL.length = ps.length) (has : argsL.toArray = as') (hd : decode code pc = .ok (.invokestatic idx, 3)) (hp : pc + 3 = pc') (hs : Ls.size = ml) (hst : St = argsL.reverse ++ rest)
    (hW : (rest.map fun v => v.category).sum ≤ W) (hf : rm.frames + 1 ≤ R.frames) (hl : W + (ml' + 11) + rm.locals ≤ R.locals) (hk : k + rm.cells = k') (hn : n + rm.slots = n') (hc : k' ≤ R.cells) (hsl : n' ≤ R.slots)
    (K : ∀ v h', Q' v h' → Go p l e R s m args below meth c own Z EL Sf Q h' k' n' (mkF m pc' Ls (v.toList ++ rest))) : Go p l e R s m args below meth c own Z EL Sf Q h k n (mkF m pc Ls St) := by
  subst hp hk hn
  intro vm0 k0 T L hH hF X eT
  obtain ⟨v, vm₁, ⟨T', L', k', n'⟩, -, X', hS, hgr, ⟨Lc, ⟨hq, hE', hF'⟩, hL, hk, hn, hCH⟩, st'⟩ := callSS X C.hx (y := y) hH.hown (mvT hH.hZ wl) (mvT hH.hZ ws) (mvT hH.hZ wz) (mvT hH.hZ wc) hy (P.payS (s := s) C.hEL hH.hE hH.hZ hH.ch.1 (fun x q => hH.2.2.2.2.2.2 x (hSp x q)) wc wz hf hl) (g := mkF m pc Ls St) rfl (hs.trans C.hml.symm) (argsL := argsL) (rest := rest) (lenOf hpd hlen) hst (by show 2 * 0 + _ ≤ _; omega) (C.d hd) (fun _ _ => ⟨has, eT, hc, hsl⟩)
  dsimp only [Pt.U, Pt.locs, Pt.cells, Pt.slots] at X' hL hk hn st' hq hS hgr hE' hF' hCH
  subst hL hk hn
  have hS' : s.Since T'.vm T'.heap.size := foldS hH.since (by rw [eT]; exact hH.le) hS hgr
  have hZ' : Z.Warmed39 T'.vm := State.Warmed39.trans (t := s.setVm vm0) hH.hZ hS.1
  have ho' : T'.vm.findClass own = some m.cls := by rw [hS.1.alike.findClass]; exact hH.hown
  obtain ⟨s₂, o, st, r⟩ := K v _ hq T'.vm _ T' _ (hH.later hE' hS' (Nat.le_refl _) hZ' ho' hCH) (Fr.app hF hF') X' rfl
  exact ⟨s₂, o, st'.trans st, r⟩
theorem Go.specialB (C : Cx p s m meth c code ml rty nm own Z a0 EL) {a : Addr} (P : ∀ s', Z.Warmed39 s'.vm → Ext Z.heap h → Pay l R p e below s' args y 3 W as' h dc ds Qr) (hQ : ∀ v h' L, Ext Z.heap h → Qr v h' L → Q' v h' ∧ Fr Z.heap.size L ∧ ∃ ws, Keep h h' ws ∧ (∀ x ∈ ws, Z.heap.size ≤ x) ∧ ∀ x ∈ ws, x ∈ Sf) (hy1 : y.name = "<init>") (wl : (Jvm.Cond.methodLink own idx y).before a0 Z = true) (wi : (Jvm.Cond.instanceMethod y).before a0 Z = true) (wc : (Jvm.Cond.code y bytes ml' none).before a0 Z = true)
    (hy : y.cls ≠ "java/lang/invoke/MethodHandle" ∧ y.cls ≠ "java/lang/invoke/VarHandle") (hpd : parseMethodDescriptor y.desc = some ⟨ps, rt⟩) (hlen : argsL.length = ps.length) (has : (.ref a :: argsL).toArray = as') (hd : decode code pc = .ok (.invokespecial idx, 3)) (hp : pc + 3 = pc') (hs : Ls.size = ml) (hst : St = argsL.reverse ++ .ref a :: rest)
    (hW : (rest.map fun v => v.category).sum ≤ W) (hk : k + dc = k') (hn : n + ds = n') (hc : k' ≤ R.cells) (hsl : n' ≤ R.slots)
    (K : ∀ v h', Q' v h' → Go p l e R s m args below meth c own Z EL Sf Q h' k' n' (mkF m pc' Ls (v.toList ++ rest))) : Go p l e R s m args below meth c own Z EL Sf Q h k n (mkF m pc Ls St) := by
  subst hp hk hn
  intro vm0 k0 T L hH hF X eT
  obtain ⟨v, vm₁, ⟨T', L', k', n'⟩, -, X', ⟨Lc, hq, hL, hk, hn⟩, st'⟩ := X.specialBack C.hx (y := y) hy1 hH.hown (mvT hH.hZ wl) (mvT hH.hZ wi) (mvT hH.hZ wc) hy (P (s.setVm vm0) hH.hZ hH.hE) (g := mkF m pc Ls St) rfl (hs.trans C.hml.symm) (Steps.refl _) (a := a) (argsL := argsL) (rest := rest) (lenOf hpd hlen) hst (by show 2 * 0 + _ ≤ _; omega) (C.d hd) (fun _ _ => ⟨has, eT, hc, hsl⟩)
  dsimp only [Pt.U, Pt.locs, Pt.cells, Pt.slots] at X' hL hk hn st' hq
  subst hL hk hn
  obtain ⟨hq, hF', ws, hK, hw1, hw2⟩ := hQ _ _ _ hH.hE hq
  obtain ⟨s₂, o, st, r⟩ := K v _ hq vm0 k0 T' _ (hH.keep hK hw1 fun x q => hH.sf (hw2 x q)) (Fr.app hF hF') X' rfl
  exact ⟨s₂, o, st'.trans st, r⟩
theorem Go.special (C : Cx p s m meth c code ml rty nm own Z a0 EL) {a : Addr} {Sp : List Addr} (P : Pays l Z EL Sp y bytes ml' none rm as' h Q') (hSp : ∀ x ∈ Sp, x ∈ Sf) (hy1 : y.name = "<init>") (wl : (Jvm.Cond.methodLink own idx y).before a0 Z = true) (wi : (Jvm.Cond.instanceMethod y).before a0 Z = true) (wz : (Jvm.Cond.initialized y.cls).before a0 Z = true) (wc : (Jvm.Cond.code y bytes ml' none).before a0 Z = true)
    (hy : y.cls ≠ "java/lang/invoke/MethodHandle" ∧ y.cls ≠ "java/lang/invoke/VarHandle") (hpd : parseMethodDescriptor y.desc = some ⟨ps, rt⟩) (hlen : argsL.length = ps.length) (has : (.ref a :: argsL).toArray = as') (hd : decode code pc = .ok (.invokespecial idx, 3)) (hp : pc + 3 = pc') (hs : Ls.size = ml) (hst : St = argsL.reverse ++ .ref a :: rest)
    (hW : (rest.map fun v => v.category).sum ≤ W) (hf : rm.frames + 1 ≤ R.frames) (hl : W + (ml' + 11) + rm.locals ≤ R.locals) (hk : k + rm.cells = k') (hn : n + rm.slots = n') (hc : k' ≤ R.cells) (hsl : n' ≤ R.slots)
    (K : ∀ v h', Q' v h' → Go p l e R s m args below meth c own Z EL Sf Q h' k' n' (mkF m pc' Ls (v.toList ++ rest))) : Go p l e R s m args below meth c own Z EL Sf Q h k n (mkF m pc Ls St) := by
  subst hp hk hn
  intro vm0 k0 T L hH hF X eT
  obtain ⟨v, vm₁, ⟨T', L', k', n'⟩, -, X', hS, hgr, ⟨Lc, ⟨hq, hE', hF'⟩, hL, hk, hn, hCH⟩, st'⟩ := X.specialBackS C.hx (y := y) hy1 hH.hown (mvT hH.hZ wl) (mvT hH.hZ wi) (mvT hH.hZ wc) hy (P.payS (s := s) C.hEL hH.hE hH.hZ hH.ch.1 (fun x q => hH.2.2.2.2.2.2 x (hSp x q)) wc wz hf hl) (g := mkF m pc Ls St) rfl (hs.trans C.hml.symm) (Steps.refl _) (a := a) (argsL := argsL) (rest := rest) (lenOf hpd hlen) hst (by show 2 * 0 + _ ≤ _; omega) (C.d hd) (fun _ _ => ⟨has, eT, hc, hsl⟩)
  dsimp only [Pt.U, Pt.locs, Pt.cells, Pt.slots] at X' hL hk hn st' hq hS hgr hE' hF' hCH
  subst hL hk hn
  have hS' : s.Since T'.vm T'.heap.size := foldS hH.since (by rw [eT]; exact hH.le) hS hgr
  have hZ' : Z.Warmed39 T'.vm := State.Warmed39.trans (t := s.setVm vm0) hH.hZ hS.1
  have ho' : T'.vm.findClass own = some m.cls := by rw [hS.1.alike.findClass]; exact hH.hown
  obtain ⟨s₂, o, st, r⟩ := K v _ hq T'.vm _ T' _ (hH.later hE' hS' (Nat.le_refl _) hZ' ho' hCH) (Fr.app hF hF') X' rfl
  exact ⟨s₂, o, st'.trans st, r⟩
theorem Go.virtB (C : Cx p s m meth c code ml rty nm own Z a0 EL) {a : Addr} {cl : String} (P : ∀ s', Z.Warmed39 s'.vm → Ext Z.heap h → Pay l R p e below s' args y 3 W as' h dc ds Qr) (hQ : ∀ v h' L, Ext Z.heap h → Qr v h' L → Q' v h' ∧ Fr Z.heap.size L ∧ ∃ ws, Keep h h' ws ∧ (∀ x ∈ ws, Z.heap.size ≤ x) ∧ ∀ x ∈ ws, x ∈ Sf) (E : Exa Z h a cl) (wl : (Jvm.Cond.methodLink own idx y).before a0 Z = true) (wd : (Jvm.Cond.declares y).before a0 Z = true) (wse : (Jvm.Cond.selects cl y y).before a0 Z = true) (wi : (Jvm.Cond.instanceMethod y).before a0 Z = true)
    (hy : y.cls ≠ "java/lang/invoke/MethodHandle" ∧ y.cls ≠ "java/lang/invoke/VarHandle") (hpd : parseMethodDescriptor y.desc = some ⟨ps, rt⟩) (hlen : argsL.length = ps.length) (has : (.ref a :: argsL).toArray = as') (hd : decode code pc = .ok (.invokevirtual idx, 3)) (hp : pc + 3 = pc') (hs : Ls.size = ml) (hst : St = argsL.reverse ++ .ref a :: rest)
    (hW : (rest.map fun v => v.category).sum ≤ W) (hk : k + dc = k') (hn : n + ds = n') (hc : k' ≤ R.cells) (hsl : n' ≤ R.slots)
    (K : ∀ v h', Q' v h' → Go p l e R s m args below meth c own Z EL Sf Q h' k' n' (mkF m pc' Ls (v.toList ++ rest))) : Go p l e R s m args below meth c own Z EL Sf Q h k n (mkF m pc Ls St) := by
  subst hp hk hn
  intro vm0 k0 T L hH hF X eT
  obtain ⟨cq, kq, qa, qb, qc⟩ := isOf (T := T) hH.hZ eT E
  obtain ⟨v, vm₁, ⟨T', L', k', n'⟩, -, X', ⟨Lc, hq, hL, hk, hn⟩, st'⟩ := X.virtualBack C.hx (y := y) (z := y) hH.hown (mvT hH.hZ wl) (mvT hH.hZ wd) (notFace_of_selects (args := #[]) (mvT hH.hZ wse)) (mvT hH.hZ wse) (mvT hH.hZ wi) hy (P (s.setVm vm0) hH.hZ hH.hE) qa qc (g := mkF m pc Ls St) rfl (hs.trans C.hml.symm) (Steps.refl _) (argsL := argsL) (rest := rest) (lenOf hpd hlen) hst (by show 2 * 0 + _ ≤ _; omega) (C.d hd) (fun _ _ => ⟨has, eT, hc, hsl⟩)
  dsimp only [Pt.U, Pt.locs, Pt.cells, Pt.slots] at X' hL hk hn st' hq
  subst hL hk hn
  obtain ⟨hq, hF', ws, hK, hw1, hw2⟩ := hQ _ _ _ hH.hE hq
  obtain ⟨s₂, o, st, r⟩ := K v _ hq vm0 k0 T' _ (hH.keep hK hw1 fun x q => hH.sf (hw2 x q)) (Fr.app hF hF') X' rfl
  exact ⟨s₂, o, st'.trans st, r⟩
theorem Go.virt (C : Cx p s m meth c code ml rty nm own Z a0 EL) {a : Addr} {cl : String} {Sp : List Addr} (P : Pays l Z EL Sp y bytes ml' ret' rm as' h Q') (hSp : ∀ x ∈ Sp, x ∈ Sf) (E : Exa Z h a cl) (wl : (Jvm.Cond.methodLink own idx y).before a0 Z = true) (wd : (Jvm.Cond.declares y).before a0 Z = true) (wse : (Jvm.Cond.selects cl y y).before a0 Z = true) (wi : (Jvm.Cond.instanceMethod y).before a0 Z = true) (wz : (Jvm.Cond.initialized y.cls).before a0 Z = true) (wc : (Jvm.Cond.code y bytes ml' ret').before a0 Z = true)
    (hy : y.cls ≠ "java/lang/invoke/MethodHandle" ∧ y.cls ≠ "java/lang/invoke/VarHandle") (hpd : parseMethodDescriptor y.desc = some ⟨ps, rt⟩) (hlen : argsL.length = ps.length) (has : (.ref a :: argsL).toArray = as') (hd : decode code pc = .ok (.invokevirtual idx, 3)) (hp : pc + 3 = pc') (hs : Ls.size = ml) (hst : St = argsL.reverse ++ .ref a :: rest)
    (hW : (rest.map fun v => v.category).sum ≤ W) (hf : rm.frames + 1 ≤ R.frames) (hl : W + (ml' + 11) + rm.locals ≤ R.locals) (hk : k + rm.cells = k') (hn : n + rm.slots = n') (hc : k' ≤ R.cells) (hsl : n' ≤ R.slots)
    (K : ∀ v h', Q' v h' → Go p l e R s m args below meth c own Z EL Sf Q h' k' n' (mkF m pc' Ls (v.toList ++ rest))) : Go p l e R s m args below meth c own Z EL Sf Q h k n (mkF m pc Ls St) := by
  subst hp hk hn
  intro vm0 k0 T L hH hF X eT
  obtain ⟨cq, kq, qa, qb, qc⟩ := isOf (T := T) hH.hZ eT E
  obtain ⟨v, vm₁, ⟨T', L', k', n'⟩, -, X', hS, hgr, ⟨Lc, ⟨hq, hE', hF'⟩, hL, hk, hn, hCH⟩, st'⟩ := X.virtualBackS C.hx (y := y) (z := y) hH.hown (mvT hH.hZ wl) (mvT hH.hZ wd) (notFace_of_selects (args := #[]) (mvT hH.hZ wse)) (mvT hH.hZ wse) (mvT hH.hZ wi) hy (P.payS (s := s) C.hEL hH.hE hH.hZ hH.ch.1 (fun x q => hH.2.2.2.2.2.2 x (hSp x q)) wc wz hf hl) qa qc (g := mkF m pc Ls St) rfl (hs.trans C.hml.symm) (Steps.refl _) (argsL := argsL) (rest := rest) (lenOf hpd hlen) hst (by show 2 * 0 + _ ≤ _; omega) (C.d hd) (fun _ _ => ⟨has, eT, hc, hsl⟩)
  dsimp only [Pt.U, Pt.locs, Pt.cells, Pt.slots] at X' hL hk hn st' hq hS hgr hE' hF' hCH
  subst hL hk hn
  have hS' : s.Since T'.vm T'.heap.size := foldS hH.since (by rw [eT]; exact hH.le) hS hgr
  have hZ' : Z.Warmed39 T'.vm := State.Warmed39.trans (t := s.setVm vm0) hH.hZ hS.1
  have ho' : T'.vm.findClass own = some m.cls := by rw [hS.1.alike.findClass]; exact hH.hown
  obtain ⟨s₂, o, st, r⟩ := K v _ hq T'.vm _ T' _ (hH.later hE' hS' (Nat.le_refl _) hZ' ho' hCH) (Fr.app hF hF') X' rfl
  exact ⟨s₂, o, st'.trans st, r⟩
theorem Go.privB (C : Cx p s m meth c code ml rty nm own Z a0 EL) {a : Addr} {cl : String} (P : ∀ s', Z.Warmed39 s'.vm → Ext Z.heap h → Pay l R p e below s' args y 3 W as' h dc ds Qr) (hQ : ∀ v h' L, Ext Z.heap h → Qr v h' L → Q' v h' ∧ Fr Z.heap.size L ∧ ∃ ws, Keep h h' ws ∧ (∀ x ∈ ws, Z.heap.size ≤ x) ∧ ∀ x ∈ ws, x ∈ Sf) (E : Exa Z h a cl) (wl : (Jvm.Cond.methodLink own idx y).before a0 Z = true) (wi : (Jvm.Cond.instanceMethod y).before a0 Z = true) (wse : (Jvm.Cond.selects y.cls y y).before a0 Z = true) (wp : (Jvm.Cond.privateMethod y).before a0 Z = true) (wc : (Jvm.Cond.code y bytes ml' ret').before a0 Z = true)
    (hy : y.cls ≠ "java/lang/invoke/MethodHandle" ∧ y.cls ≠ "java/lang/invoke/VarHandle") (hpd : parseMethodDescriptor y.desc = some ⟨ps, rt⟩) (hlen : argsL.length = ps.length) (has : (.ref a :: argsL).toArray = as') (hd : decode code pc = .ok (.invokevirtual idx, 3)) (hp : pc + 3 = pc') (hs : Ls.size = ml) (hst : St = argsL.reverse ++ .ref a :: rest)
    (hW : (rest.map fun v => v.category).sum ≤ W) (hk : k + dc = k') (hn : n + ds = n') (hc : k' ≤ R.cells) (hsl : n' ≤ R.slots)
    (K : ∀ v h', Q' v h' → Go p l e R s m args below meth c own Z EL Sf Q h' k' n' (mkF m pc' Ls (v.toList ++ rest))) : Go p l e R s m args below meth c own Z EL Sf Q h k n (mkF m pc Ls St) := by
  subst hp hk hn
  intro vm0 k0 T L hH hF X eT
  obtain ⟨cq, q1, q2⟩ := E.cell
  obtain ⟨v, vm₁, ⟨T', L', k', n'⟩, -, X', ⟨Lc, hq, hL, hk, hn⟩, st'⟩ := X.privateBack C.hx (y := y) hH.hown (mvT hH.hZ wl) (mvT hH.hZ wi) (mvT hH.hZ wse) (Cond.privateMethod_at (mvP hH.hZ wp (args := #[]))) (mvT hH.hZ wc) hy (P (s.setVm vm0) hH.hZ hH.hE) (g := mkF m pc Ls St) rfl (hs.trans C.hml.symm) (Steps.refl _) (a := a) (by rw [eT]; exact q1) q2 (argsL := argsL) (rest := rest) (lenOf hpd hlen) hst (by show 2 * 0 + _ ≤ _; omega) (C.d hd) (fun _ _ => ⟨has, eT, hc, hsl⟩)
  dsimp only [Pt.U, Pt.locs, Pt.cells, Pt.slots] at X' hL hk hn st' hq
  subst hL hk hn
  obtain ⟨hq, hF', ws, hK, hw1, hw2⟩ := hQ _ _ _ hH.hE hq
  obtain ⟨s₂, o, st, r⟩ := K v _ hq vm0 k0 T' _ (hH.keep hK hw1 fun x q => hH.sf (hw2 x q)) (Fr.app hF hF') X' rfl
  exact ⟨s₂, o, st'.trans st, r⟩
theorem Go.priv (C : Cx p s m meth c code ml rty nm own Z a0 EL) {a : Addr} {cl : String} {Sp : List Addr} (P : Pays l Z EL Sp y bytes ml' ret' rm as' h Q') (hSp : ∀ x ∈ Sp, x ∈ Sf) (E : Exa Z h a cl) (wl : (Jvm.Cond.methodLink own idx y).before a0 Z = true) (wi : (Jvm.Cond.instanceMethod y).before a0 Z = true) (wse : (Jvm.Cond.selects y.cls y y).before a0 Z = true) (wp : (Jvm.Cond.privateMethod y).before a0 Z = true) (wz : (Jvm.Cond.initialized y.cls).before a0 Z = true) (wc : (Jvm.Cond.code y bytes ml' ret').before a0 Z = true)
    (hy : y.cls ≠ "java/lang/invoke/MethodHandle" ∧ y.cls ≠ "java/lang/invoke/VarHandle") (hpd : parseMethodDescriptor y.desc = some ⟨ps, rt⟩) (hlen : argsL.length = ps.length) (has : (.ref a :: argsL).toArray = as') (hd : decode code pc = .ok (.invokevirtual idx, 3)) (hp : pc + 3 = pc') (hs : Ls.size = ml) (hst : St = argsL.reverse ++ .ref a :: rest)
    (hW : (rest.map fun v => v.category).sum ≤ W) (hf : rm.frames + 1 ≤ R.frames) (hl : W + (ml' + 11) + rm.locals ≤ R.locals) (hk : k + rm.cells = k') (hn : n + rm.slots = n') (hc : k' ≤ R.cells) (hsl : n' ≤ R.slots)
    (K : ∀ v h', Q' v h' → Go p l e R s m args below meth c own Z EL Sf Q h' k' n' (mkF m pc' Ls (v.toList ++ rest))) : Go p l e R s m args below meth c own Z EL Sf Q h k n (mkF m pc Ls St) := by
  subst hp hk hn
  intro vm0 k0 T L hH hF X eT
  obtain ⟨cq, q1, q2⟩ := E.cell
  obtain ⟨v, vm₁, ⟨T', L', k', n'⟩, -, X', hS, hgr, ⟨Lc, ⟨hq, hE', hF'⟩, hL, hk, hn, hCH⟩, st'⟩ := X.privateBackS C.hx (y := y) hH.hown (mvT hH.hZ wl) (mvT hH.hZ wi) (mvT hH.hZ wse) (Cond.privateMethod_at (mvP hH.hZ wp (args := #[]))) (mvT hH.hZ wc) hy (P.payS (s := s) C.hEL hH.hE hH.hZ hH.ch.1 (fun x q => hH.2.2.2.2.2.2 x (hSp x q)) wc wz hf hl) (g := mkF m pc Ls St) rfl (hs.trans C.hml.symm) (Steps.refl _) (a := a) (by rw [eT]; exact q1) q2 (argsL := argsL) (rest := rest) (lenOf hpd hlen) hst (by show 2 * 0 + _ ≤ _; omega) (C.d hd) (fun _ _ => ⟨has, eT, hc, hsl⟩)
  dsimp only [Pt.U, Pt.locs, Pt.cells, Pt.slots] at X' hL hk hn st' hq hS hgr hE' hF' hCH
  subst hL hk hn
  have hS' : s.Since T'.vm T'.heap.size := foldS hH.since (by rw [eT]; exact hH.le) hS hgr
  have hZ' : Z.Warmed39 T'.vm := State.Warmed39.trans (t := s.setVm vm0) hH.hZ hS.1
  have ho' : T'.vm.findClass own = some m.cls := by rw [hS.1.alike.findClass]; exact hH.hown
  obtain ⟨s₂, o, st, r⟩ := K v _ hq T'.vm _ T' _ (hH.later hE' hS' (Nat.le_refl _) hZ' ho' hCH) (Fr.app hF hF') X' rfl
  exact ⟨s₂, o, st'.trans st, r⟩
theorem Go.iface (C : Cx p s m meth c code ml rty nm own Z a0 EL) {a : Addr} {cl : String} {xi : MethodName} {cnt : Nat} {Sp : List Addr} (P : Pays l Z EL Sp y bytes ml' ret' rm as' h Q') (hSp : ∀ x ∈ Sp, x ∈ Sf) (E : Exa Z h a cl) (wl : (Jvm.Cond.methodLink own idx xi).before a0 Z = true) (wd : (Jvm.Cond.declares xi).before a0 Z = true) (wf : (Jvm.Cond.interfaceMethod xi.cls xi.cls xi.name xi.desc).before a0 Z = true) (wse : (Jvm.Cond.selects cl xi y).before a0 Z = true) (wi : (Jvm.Cond.instanceMethod y).before a0 Z = true) (wpu : (Jvm.Cond.publicMethod y).before a0 Z = true) (wu : (Jvm.Cond.unhidden cl xi.name xi.desc).before a0 Z = true) (wca : (Jvm.Cond.castable cl xi.cls).before a0 Z = true) (wz : (Jvm.Cond.initialized y.cls).before a0 Z = true) (wc : (Jvm.Cond.code y bytes ml' ret').before a0 Z = true)
    (hy : xi.cls ≠ "java/lang/invoke/MethodHandle" ∧ xi.cls ≠ "java/lang/invoke/VarHandle") (hpd : parseMethodDescriptor xi.desc = some ⟨ps, rt⟩) (hlen : argsL.length = ps.length) (has : (.ref a :: argsL).toArray = as') (hd : decode code pc = .ok (.invokeinterface idx cnt, 5)) (hp : pc + 5 = pc') (hs : Ls.size = ml) (hst : St = argsL.reverse ++ .ref a :: rest)
    (hW : (rest.map fun v => v.category).sum ≤ W) (hf : rm.frames + 1 ≤ R.frames) (hl : W + (ml' + 11) + rm.locals ≤ R.locals) (hk : k + rm.cells = k') (hn : n + rm.slots = n') (hc : k' ≤ R.cells) (hsl : n' ≤ R.slots)
    (K : ∀ v h', Q' v h' → Go p l e R s m args below meth c own Z EL Sf Q h' k' n' (mkF m pc' Ls (v.toList ++ rest))) : Go p l e R s m args below meth c own Z EL Sf Q h k n (mkF m pc Ls St) := by
  subst hp hk hn
  intro vm0 k0 T L hH hF X eT
  obtain ⟨cq, kq, qa, qb, qc⟩ := isOf (T := T) hH.hZ eT E
  obtain ⟨v, vm₁, ⟨T', L', k', n'⟩, -, X', hS, hgr, ⟨Lc, ⟨hq, hE', hF'⟩, hL, hk, hn, hCH⟩, st'⟩ := X.interfaceBackS C.hx (xi := xi) (y := y) hH.hown (mvT hH.hZ wl) (mvT hH.hZ wd) (mvT hH.hZ wf (faceOk hy)) (mvT hH.hZ wse) (mvT hH.hZ wi) (mvT hH.hZ wpu) (mvT hH.hZ wu) (mvT hH.hZ wca) hy (P.payS (s := s) C.hEL hH.hE hH.hZ hH.ch.1 (fun x q => hH.2.2.2.2.2.2 x (hSp x q)) wc wz hf hl) qa qb qc (g := mkF m pc Ls St) rfl (hs.trans C.hml.symm) (Steps.refl _) (argsL := argsL) (rest := rest) (lenOf hpd hlen) hst (by show 2 * 0 + _ ≤ _; omega) (C.d hd) (fun _ _ => ⟨has, eT, hc, hsl⟩)
  dsimp only [Pt.U, Pt.locs, Pt.cells, Pt.slots] at X' hL hk hn st' hq hS hgr hE' hF' hCH
  subst hL hk hn
  have hS' : s.Since T'.vm T'.heap.size := foldS hH.since (by rw [eT]; exact hH.le) hS hgr
  have hZ' : Z.Warmed39 T'.vm := State.Warmed39.trans (t := s.setVm vm0) hH.hZ hS.1
  have ho' : T'.vm.findClass own = some m.cls := by rw [hS.1.alike.findClass]; exact hH.hown
  obtain ⟨s₂, o, st, r⟩ := K v _ hq T'.vm _ T' _ (hH.later hE' hS' (Nat.le_refl _) hZ' ho' hCH) (Fr.app hF hF') X' rfl
  exact ⟨s₂, o, st'.trans st, r⟩
/-! ### more single laws -/
theorem Go.ldcJ (C : Cx p s m meth c code ml rty nm own Z a0 EL) {ix : Nat} {v : Int64} (w : (Jvm.Cond.constantLong own ix v).before a0 Z = true) (hd : decode code pc = .ok (.ldc2_w ix, 3)) (hp : pc + 3 = pc')
    (K : Go p l e R s m args below meth c own Z EL Sf Q h k n (mkF m pc' Ls (.long v :: St))) : Go p l e R s m args below meth c own Z EL Sf Q h k n (mkF m pc Ls St) := by
  subst hp
  exact Go.law0 (fun s' T L hZ hown hE X eT => ⟨T, X, eT, fun t q => X.ldc2Long C.hx hown (mv hZ w) (g := mkF m pc Ls St) rfl (C.d hd) t q⟩) K
theorem Go.cast (C : Cx p s m meth c code ml rty nm own Z a0 EL) {ix : Nat} {cK : String} {a : Addr} (w : (Jvm.Cond.classLink own ix cK).before a0 Z = true) (F : Ins Z h a cK true) (hd : decode code pc = .ok (.checkcast ix, 3)) (hp : pc + 3 = pc')
    (K : Go p l e R s m args below meth c own Z EL Sf Q h k n (mkF m pc' Ls (.ref a :: St))) : Go p l e R s m args below meth c own Z EL Sf Q h k n (mkF m pc Ls (.ref a :: St)) := by
  subst hp
  exact Go.law0 (fun s' T L hZ hown hE X eT => castY X C.hx hZ hown w eT F (g := mkF m pc Ls (.ref a :: St)) rfl rfl (C.d hd)) K
theorem Go.castN (C : Cx p s m meth c code ml rty nm own Z a0 EL) {ix : Nat} (hd : decode code pc = .ok (.checkcast ix, 3)) (hp : pc + 3 = pc')
    (K : Go p l e R s m args below meth c own Z EL Sf Q h k n (mkF m pc' Ls (.null :: St))) : Go p l e R s m args below meth c own Z EL Sf Q h k n (mkF m pc Ls (.null :: St)) := by
  subst hp
  exact Go.plain (fun s' T L X t q => X.checkcastNull C.hx (g := mkF m pc Ls (.null :: St)) rfl rfl (C.d hd) t q) K
theorem Go.instY (C : Cx p s m meth c code ml rty nm own Z a0 EL) {ix : Nat} {cK : String} {a : Addr} (w : (Jvm.Cond.classLink own ix cK).before a0 Z = true) (F : Ins Z h a cK true) (hd : decode code pc = .ok (.instanceof ix, 3)) (hp : pc + 3 = pc')
    (K : Go p l e R s m args below meth c own Z EL Sf Q h k n (mkF m pc' Ls (.int 1 :: St))) : Go p l e R s m args below meth c own Z EL Sf Q h k n (mkF m pc Ls (.ref a :: St)) := by
  subst hp
  exact Go.law0 (fun s' T L hZ hown hE X eT => Jvm.RoadKit.instY X C.hx hZ hown w eT F (g := mkF m pc Ls (.ref a :: St)) rfl rfl (C.d hd)) K
theorem Go.len (C : Cx p s m meth c code ml rty nm own Z a0 EL) {a : Addr} {kA : ClassId} {ty : FieldType} {z : Int32} {vs : List Value} {dv : Value} (V : Arv Z h a kA ty z vs dv) (hd : decode code pc = .ok (.arraylength, 1)) (hp : pc + 1 = pc')
    (K : Go p l e R s m args below meth c own Z EL Sf Q h k n (mkF m pc' Ls (.int z :: St))) : Go p l e R s m args below meth c own Z EL Sf Q h k n (mkF m pc Ls (.ref a :: St)) := by
  subst hp
  intro vm0 k0 T L hH hF X eT
  obtain ⟨cl, Ar, q1, S, N, H, G⟩ := V
  obtain ⟨s₂, o, st, r⟩ := K vm0 k0 T L hH hF X eT
  rw [← len_of S N] at st
  exact ⟨s₂, o, X.arraylength C.hx (by rw [eT]; exact Ar.1) (State.isArrayOf_alike hH.hZ.alike Ar.2.1) (g := mkF m pc Ls (.ref a :: St)) rfl rfl (C.d hd) _ st, r⟩
theorem Go.caload (C : Cx p s m meth c code ml rty nm own Z a0 EL) {a : Addr} {kA : ClassId} {z j : Int32} {vs : List Value} {dv w : Value} (V : Arv Z h a kA .char z vs dv) (hj : ¬ j < 0 ∧ j < z) (hv : vs.getD j.toNatClampNeg dv = w) (hd : decode code pc = .ok (.caload, 1)) (hp : pc + 1 = pc')
    (K : Go p l e R s m args below meth c own Z EL Sf Q h k n (mkF m pc' Ls (w :: St))) : Go p l e R s m args below meth c own Z EL Sf Q h k n (mkF m pc Ls (.int j :: .ref a :: St)) := by
  subst hp
  intro vm0 k0 T L hH hF X eT
  obtain ⟨cl, Ar, q1, S, N, H, G⟩ := V
  obtain ⟨s₂, o, st, r⟩ := K vm0 k0 T L hH hF X eT
  exact ⟨s₂, o, X.caload C.hx (j := j) (v := w) (by rw [eT]; exact Ar.1) (State.isArrayOf_alike hH.hZ.alike Ar.2.1) Ar.2.2 (inb_of S hj) (H.at (inb_of S hj) hv) (g := mkF m pc Ls (.int j :: .ref a :: St)) rfl rfl (C.d hd) _ st, r⟩
theorem Go.baload (C : Cx p s m meth c code ml rty nm own Z a0 EL) {a : Addr} {kA : ClassId} {z j : Int32} {vs : List Value} {dv w : Value} (V : Arv Z h a kA .byte z vs dv) (hj : ¬ j < 0 ∧ j < z) (hv : vs.getD j.toNatClampNeg dv = w) (hd : decode code pc = .ok (.baload, 1)) (hp : pc + 1 = pc')
    (K : Go p l e R s m args below meth c own Z EL Sf Q h k n (mkF m pc' Ls (w :: St))) : Go p l e R s m args below meth c own Z EL Sf Q h k n (mkF m pc Ls (.int j :: .ref a :: St)) := by
  subst hp
  intro vm0 k0 T L hH hF X eT
  obtain ⟨cl, Ar, q1, S, N, H, G⟩ := V
  obtain ⟨s₂, o, st, r⟩ := K vm0 k0 T L hH hF X eT
  exact ⟨s₂, o, X.baloadBytes C.hx (j := j) (v := w) (by rw [eT]; exact Ar.1) (State.isArrayOf_alike hH.hZ.alike Ar.2.1) Ar.2.2 (inb_of S hj) (H.at (inb_of S hj) hv) (g := mkF m pc Ls (.int j :: .ref a :: St)) rfl rfl (C.d hd) _ st, r⟩
theorem Go.aaload (C : Cx p s m meth c code ml rty nm own Z a0 EL) {a : Addr} {kA : ClassId} {ty : FieldType} {z j : Int32} {vs : List Value} {dv w : Value} (V : Arv Z h a kA ty z vs dv) (hty : ty.isReference = true) (hj : ¬ j < 0 ∧ j < z) (hv : vs.getD j.toNatClampNeg dv = w) (hd : decode code pc = .ok (.aaload, 1)) (hp : pc + 1 = pc')
    (K : Go p l e R s m args below meth c own Z EL Sf Q h k n (mkF m pc' Ls (w :: St))) : Go p l e R s m args below meth c own Z EL Sf Q h k n (mkF m pc Ls (.int j :: .ref a :: St)) := by
  subst hp
  intro vm0 k0 T L hH hF X eT
  obtain ⟨cl, Ar, q1, S, N, H, G⟩ := V
  obtain ⟨s₂, o, st, r⟩ := K vm0 k0 T L hH hF X eT
  exact ⟨s₂, o, X.aaload C.hx (j := j) (v := w) (by rw [eT]; exact Ar.1) (State.isArrayOf_alike hH.hZ.alike Ar.2.1) hty Ar.2.2 (inb_of S hj) (H.at (inb_of S hj) hv) (g := mkF m pc Ls (.int j :: .ref a :: St)) rfl rfl (C.d hd) _ st, r⟩
theorem Go.stB (C : Cx p s m meth c code ml rty nm own Z a0 EL) {a : Addr} {kA : ClassId} {z j x : Int32} {vs : List Value} {dv : Value} (V : Arv Z h a kA .byte z vs dv) (hj : ¬ j < 0 ∧ j < z) {i : Nat} (hi : j.toNatClampNeg = i) (hlen : i < vs.length) (ha : Z.heap.size ≤ a) (hsf : a ∈ Sf)
    (hd : decode code pc = .ok (.bastore, 1)) (hp : pc + 1 = pc')
    (K : ∀ h', Wr h h' a j.toNatClampNeg (.int (nar .byte x)) → Arv Z h' a kA .byte z (vs.set i (.int (nar .byte x))) dv → Go p l e R s m args below meth c own Z EL Sf Q h' k n (mkF m pc' Ls St)) :
    Go p l e R s m args below meth c own Z EL Sf Q h k n (mkF m pc Ls (.int x :: .int j :: .ref a :: St)) := by
  subst hp
  intro vm0 k0 T L hH hF X eT
  obtain ⟨cl, Ar, q1, S, N, H, G⟩ := V
  obtain ⟨T', h2, X', e', W', st'⟩ := Jvm.RoadKit.stB X C.hx hH.hZ eT Ar (j := j) (inb_of S hj) (g := mkF m pc Ls (.int x :: .int j :: .ref a :: St)) rfl rfl (C.d hd)
  obtain ⟨s₂, o, st, r⟩ := K h2 W' (Arv.set Ar q1 S N H G (fits_nar_byte _) W' i hi hlen) vm0 k0 T' _ (hH.wr W' ha (hH.sf hsf)) (Fr.snoc X' hF ha) X' e'
  exact ⟨s₂, o, st' _ st, r⟩
theorem Go.stR (C : Cx p s m meth c code ml rty nm own Z a0 EL) {a : Addr} {kA : ClassId} {ty : FieldType} {z j : Int32} {v : Value} {vs : List Value} {dv : Value} (V : Arv Z h a kA ty z vs dv) (hty : ty.isReference = true) (hv : v.isRef = true) (F : Sto Z h a v) (hj : ¬ j < 0 ∧ j < z) {i : Nat} (hi : j.toNatClampNeg = i) (hlen : i < vs.length) (ha : Z.heap.size ≤ a)
    (hd : decode code pc = .ok (.aastore, 1)) (hp : pc + 1 = pc')
    (K : ∀ h', Wr h h' a j.toNatClampNeg v → Arv Z h' a kA ty z (vs.set i v) dv → Go p l e R s m args below meth c own Z EL Sf Q h' k n (mkF m pc' Ls St)) :
    Go p l e R s m args below meth c own Z EL Sf Q h k n (mkF m pc Ls (v :: .int j :: .ref a :: St)) := by
  subst hp
  intro vm0 k0 T L hH hF X eT
  obtain ⟨cl, Ar, q1, S, N, H, G⟩ := V
  obtain ⟨T', h2, X', e', W', st'⟩ := Jvm.RoadKit.stR X C.hx hH.hZ eT Ar (j := j) (inb_of S hj) hty F (g := mkF m pc Ls (v :: .int j :: .ref a :: St)) rfl rfl (C.d hd)
  obtain ⟨s₂, o, st, r⟩ := K h2 W' (Arv.set Ar q1 S N H G (fitR' hty hv) W' i hi hlen) vm0 k0 T' _ (hH.wr W' ha (Safe.arr hH.hZ.alike Ar (fun q => by rw [q] at hty; cases hty))) (Fr.snoc X' hF ha) X' e'
  exact ⟨s₂, o, st' _ st, r⟩
theorem Go.newR (C : Cx p s m meth c code ml rty nm own Z a0 EL) {cC : String} {ix : Nat} (w1 : (Jvm.Cond.classLink own ix cC).before a0 Z = true) (w2 : (Jvm.Cond.arrayOver (.object cC)).before a0 Z = true) {z : Int32} (hz : ¬ z < 0) {cap : Nat} (hcap : z.toNatClampNeg ≤ cap) (hb : cap * 8 ≤ 536870912) (hd : decode code pc = .ok (.anewarray ix, 3)) (hp : pc + 3 = pc')
    (hk : k + 1 = k') (hn : n + cap = n') (hc : k' ≤ R.cells) (hl : n' ≤ R.slots)
    (K : ∀ (a : Addr) (h' : Heap) (kA : ClassId), a = h.size → Z.heap.size ≤ a → Ext h h' → Ovr Z kA cC → Arv Z h' a kA (.object cC) z [] .null → Go p l e R s m args below meth c own Z EL Sf Q h' k' n' (mkF m pc' Ls (.ref a :: St))) :
    Go p l e R s m args below meth c own Z EL Sf Q h k n (mkF m pc Ls (.int z :: St)) := by
  subst hp hk hn
  intro vm0 k0 T L hH hF X eT
  obtain ⟨T', h2, kA, X', e', E', A', O', st'⟩ := Jvm.RoadKit.newR X C.hx hH.hZ hH.hown w1 w2 eT (g := mkF m pc Ls (.int z :: St)) rfl (C.d hd) rfl hz hcap hb hc hl
  obtain ⟨s₂, o, st, r⟩ := K _ h2 kA rfl hH.hE.1 E' O' (Arv.new A' hz) vm0 k0 T' L (hH.ext E') hF X' e'
  exact ⟨s₂, o, st' _ st, r⟩
/-! ### String constants -/
/-- a constant of which nothing is read -/
theorem Go.ldcO (C : Cx p s m meth c code ml rty nm own Z a0 EL) {ix nn : Nat} {text : String} (w : (Jvm.Cond.stringLink own ix text).before a0 Z = true) (wS : ∀ a ∈ Bundle.stringAtoms, a.before a0 Z = true) (hd : decode code pc = .ok (.ldc ix, 2)) (hp : pc + 2 = pc') (hnn : 4 * text.toList.length ≤ nn) (hbig : nn ≤ 536870912)
    (hk : k + 2 = k') (hn : n + (nn + 4) = n') (hc : k' ≤ R.cells) (hl : n' ≤ R.slots)
    (K : ∀ (a : Addr) (h' : Heap), Ext h h' → Go p l e R s m args below meth c own Z EL Sf Q h' k' n' (mkF m pc' Ls (.ref a :: St))) : Go p l e R s m args below meth c own Z EL Sf Q h k n (mkF m pc Ls St) := by
  subst hp hk hn
  intro vm0 k0 T L hH hF X eT
  obtain ⟨a, T', h2, k1, X', e', E', hS, hk1, hZ, ho, hCH, -, st'⟩ := ldcOH X C.hx hH.hZ hH.hown w wS eT hH.since hH.le C.hEL hH.ch.1 (g := mkF m pc Ls St) rfl (C.d hd) hnn hbig hc hl
  obtain ⟨s₂, o, st, r⟩ := K a h2 E' T'.vm k1 T' L (hH.later (ext_trans hH.hE E') hS hk1 hZ ho hCH) hF X' e'
  exact ⟨s₂, o, st' _ st, r⟩
/-- a constant that is read: its text's bytes, in an array of its own; neither is one of Sf -/
theorem Go.ldcT (C : Cx p s m meth c code ml rty nm own Z a0 EL) {ix nn : Nat} {text : String} {vs : List Value} {z : Int32} (w : (Jvm.Cond.stringLink own ix text).before a0 Z = true) (wS : ∀ a ∈ Bundle.stringAtoms, a.before a0 Z = true) (hmem : (own, ix) ∈ EL) (ht : (∀ c ∈ text.toList, c.toNat < 256) ∧ text.toList.map (fun c => Value.int (Jvm.Lit.byteI c.toNat.toUInt16)) = vs) (hz : ¬ z < 0) (hlz : z.toNatClampNeg = vs.length)
    (hd : decode code pc = .ok (.ldc ix, 2)) (hp : pc + 2 = pc') (hnn : 4 * text.toList.length ≤ nn) (hbig : nn ≤ 536870912)
    (hk : k + 2 = k') (hn : n + (nn + 4) = n') (hc : k' ≤ R.cells) (hl : n' ≤ R.slots)
    (K : ∀ (a b : Addr) (kb : ClassId) (h' : Heap), Ext h h' → Exa Z h' a "java/lang/String" → Fld Z h' a "java/lang/String" "coder" "B" (.int 0) → Fld Z h' a "java/lang/String" "value" "[B" (.ref b) → Arv Z h' b kb .byte z vs (.int 0) → (∀ x ∈ Sf, x ≠ a ∧ x ≠ b) → Go p l e R s m args below meth c own Z EL Sf Q h' k' n' (mkF m pc' Ls (.ref a :: St))) : Go p l e R s m args below meth c own Z EL Sf Q h k n (mkF m pc Ls St) := by
  subst hp hk hn
  intro vm0 k0 T L hH hF X eT
  obtain ⟨a, T', h2, k1, b, kb, X', e', E', hS, hk1, hZ, ho, hEx, hCo, hVa, hAr, -, -, hCH, -, hne, st'⟩ := ldcCH X C.hx hH.hZ hH.hown w wS eT hH.since hH.le C.hEL hmem hH.ch.1 ht hz hlz (g := mkF m pc Ls St) rfl (C.d hd) hnn hbig hc hl
  have hH' := hH.later (ext_trans hH.hE E') hS hk1 hZ ho hCH
  obtain ⟨s₂, o, st, r⟩ := K a b kb h2 E' hEx hCo hVa hAr (fun x q => hne x (hH'.sf q)) T'.vm k1 T' L hH' hF X' e'
  exact ⟨s₂, o, st' _ st, r⟩
end Core
end Jvm.Own
namespace Jvm.Own
open Sem ClassFile Op Lib Jvm.Stand Jvm.Free Jvm.LawKit Jvm.RoadKit
/-- a String of these chars, each 0 to 255, its bytes in an array of its own -/
def Str (Z : State) (h : Heap) (a : Addr) (cs : List Int32) : Prop := ∃ (t : Addr) (kb : ClassId), ¬ t = a ∧ Exa Z h a "java/lang/String" ∧ Fld Z h a "java/lang/String" "coder" "B" (.int 0) ∧ Fld Z h a "java/lang/String" "value" "[B" (.ref t) ∧
  Arv Z h t kb .byte (Int32.ofNat cs.length) ((cs.map fun c => c.toInt8.toInt32).map Value.int) (.int 0) ∧ (∀ c ∈ cs, ¬ c < 0 ∧ ¬ (255 : Int32) < c) ∧ cs.length ≤ 4000
theorem Str.ext {Z : State} {h h' : Heap} {a : Addr} {cs : List Int32} (S : Str Z h a cs) (E : Ext h h') : Str Z h' a cs := by
  obtain ⟨t, kb, h0, h1, h2, h3, h4, r⟩ := S
  exact ⟨t, kb, h0, h1.ext E, h2.ext E, h3.ext E, h4.ext E, r⟩
theorem Str.exa {Z : State} {h : Heap} {a : Addr} {cs : List Int32} (S : Str Z h a cs) : Exa Z h a "java/lang/String" := by obtain ⟨t, kb, -, h1, -⟩ := S; exact h1
theorem Str.lt {Z : State} {h : Heap} {a : Addr} {cs : List Int32} (S : Str Z h a cs) : a < h.size := S.exa.lt
theorem mask_rng (x : Int32) : ¬ (x &&& (255 : Int32)) < 0 ∧ ¬ (255 : Int32) < (x &&& (255 : Int32)) := by
  have h := c_mask x 255 8 (by decide) (by decide)
  have e0 : (0 : Int32).toInt = 0 := rfl
  have e1 : (255 : Int32).toInt = 255 := rfl
  simp only [Int32.lt_iff_toInt_lt, e0, e1, h]
  constructor <;> omega
/-- a char of one byte is itself -/
theorem i2c_id {x : Int32} (h : ¬ x < 0 ∧ ¬ (255 : Int32) < x) : x.toUInt32.toUInt16.toUInt32.toInt32 = x := by
  have h1 := c_i2c x
  have e0 : (0 : Int32).toInt = 0 := rfl
  have e1 : (255 : Int32).toInt = 255 := rfl
  simp only [Int32.lt_iff_toInt_lt, e0, e1] at h
  rw [← Int32.toInt_inj]; omega
theorem nar_i2c_mask (x : Int32) : nar .char ((x &&& (255 : Int32)).toUInt32.toUInt16.toUInt32.toInt32) = x &&& (255 : Int32) := by
  show ((x &&& (255 : Int32)).toUInt32.toUInt16.toUInt32.toInt32).toUInt32.toUInt16.toUInt32.toInt32 = _
  rw [i2c_id (mask_rng x), i2c_id (mask_rng x)]
end Jvm.Own
/- laws to paste: Road.backV (cut by pick.py; bodies as the Statement names them) -/
namespace Jvm.Pilot.@@N@@
namespace StrChars
open Jvm Sem ClassFile Op Lib Jvm.Stand Jvm.Free.XT Jvm.Free.ALB Jvm.Free.JM Jvm.Free
open Jvm.Lib.Cold (StaticIs)
/-- a char array whose places are chars -/
def Ch (a : Addr) (A : Cell) (U : State) : Prop := Arr .char a A U ∧ Typed .char A
theorem Ch.mv {a : Addr} {A : Cell} {U U' : State} (h : Ch a A U) (hal : U.vm.Alike U'.vm) (hh : U'.heap = U.heap) : Ch a A U' := ⟨h.1.mv hal hh, h.2⟩
theorem Ch.keep {a : Addr} {A : Cell} {U U' : State} (h : Ch a A U) (hal : U.vm.Alike U'.vm) (hk : U'.heap[a]? = some A) : Ch a A U' := ⟨h.1.keep hal hk, h.2⟩
/-- what place i of a char[]'s cell holds -/
def cv (A : Cell) (i : Nat) : Int32 := match A.slots[i]? with | some (.int x) => x | _ => 0
theorem Ch.get {a : Addr} {A : Cell} {U : State} (h : Ch a A U) {i : Nat} (hi : i < A.slots.size) : A.slots[i]? = some (.int (cv A i)) := by
  have e := Array.getElem?_eq_getElem hi
  have f := h.2 i _ e
  unfold cv; rw [e]
  generalize A.slots[i] = v at f
  cases v <;> simp [fits] at f ⊢
/-- the byte that i2b leaves of a char -/
def lo8 (x : Int32) : Int32 := x.toInt8.toInt32
theorem fits_lo8 (y : Int32) : fits .byte (.int (lo8 y)) = true := by
  have h1 := y.toInt8.le_toInt
  have h2 := y.toInt8.toInt_lt
  simp only [lo8, fits, Bool.and_eq_true, decide_eq_true_eq, Int32.le_iff_toInt_le, Int8.toInt_toInt32, show (-128 : Int32).toInt = -128 from by decide, show (127 : Int32).toInt = 127 from by decide]
  omega
/-- A' is A but that each place j of lo .. hi - 1 holds f j -/
def Laid (A A' : Cell) (lo hi : Nat) (f : Nat → Value) : Prop := A'.cls = A.cls ∧ A'.vm = A.vm ∧ A'.slots.size = A.slots.size ∧ ∀ i, A'.slots[i]? = if lo ≤ i ∧ i < hi then some (f i) else A.slots[i]?
theorem Laid.zero (A : Cell) (lo : Nat) (f : Nat → Value) : Laid A A lo (lo + 0) f := ⟨rfl, rfl, rfl, fun i => by rw [if_neg (by omega)]⟩
theorem Laid.step {A Ak : Cell} {lo k : Nat} {f : Nat → Value} {v : Value} (h : Laid A Ak lo k f) (hlo : lo ≤ k) (hk : k < Ak.slots.size) (hv : v = f k) : Laid A (Ak.setSlot k v) lo (k + 1) f := by
  refine ⟨h.1, h.2.1, by simpa [Cell.setSlot] using h.2.2.1, fun i => ?_⟩
  by_cases e : k = i
  · subst e; rw [Cell.slots_setSlot_self v hk, if_pos (by omega), hv]
  · rw [Cell.slots_setSlot_ne v e, h.2.2.2 i]
    by_cases q : lo ≤ i ∧ i < k
    · rw [if_pos q, if_pos (by omega)]
    · rw [if_neg q, if_neg (by omega)]
def U16 : String := "java/lang/StringUTF16"
namespace Cmp5
def yN : MethodName := ⟨"java/lang/StringUTF16", "compress", "([CI[BII)I"⟩
abbrev yB : ByteArray := jdk_52_method_21_code
theorem d0 : decode yB 0 = .ok (.iconst 0, 1) := by decide +kernel
theorem d1 : decode yB 1 = .ok (.istore 5, 2) := by decide +kernel
theorem d3 : decode yB 3 = .ok (.iload 5, 2) := by decide +kernel
theorem d5 : decode yB 5 = .ok (.iload 4, 2) := by decide +kernel
theorem d7 : decode yB 7 = .ok (.if_icmp (.ge) 37, 3) := by decide +kernel
theorem d10 : decode yB 10 = .ok (.aload_n 0, 1) := by decide +kernel
theorem d11 : decode yB 11 = .ok (.iload_n 1, 1) := by decide +kernel
theorem d12 : decode yB 12 = .ok (.caload, 1) := by decide +kernel
theorem d13 : decode yB 13 = .ok (.istore 6, 2) := by decide +kernel
theorem d15 : decode yB 15 = .ok (.iload 6, 2) := by decide +kernel
theorem d17 : decode yB 17 = .ok (.sipush 255, 3) := by decide +kernel
theorem d20 : decode yB 20 = .ok (.if_icmp (.le) 6, 3) := by decide +kernel
theorem d26 : decode yB 26 = .ok (.aload_n 2, 1) := by decide +kernel
theorem d27 : decode yB 27 = .ok (.iload_n 3, 1) := by decide +kernel
theorem d28 : decode yB 28 = .ok (.iload 6, 2) := by decide +kernel
theorem d30 : decode yB 30 = .ok (.i2b, 1) := by decide +kernel
theorem d31 : decode yB 31 = .ok (.bastore, 1) := by decide +kernel
theorem d32 : decode yB 32 = .ok (.iinc 1 1, 3) := by decide +kernel
theorem d35 : decode yB 35 = .ok (.iinc 3 1, 3) := by decide +kernel
theorem d38 : decode yB 38 = .ok (.iinc 5 1, 3) := by decide +kernel
theorem d41 : decode yB 41 = .ok (.goto (-38), 3) := by decide +kernel
theorem d44 : decode yB 44 = .ok (.iload 4, 2) := by decide +kernel
theorem d46 : decode yB 46 = .ok (.ireturn, 1) := by decide +kernel
def site : List Cond := []
def tab : Cond := tabOf yN yB 7 (some .int) site
def P (b : Addr) (A : Cell) (d : Addr) (B : Cell) (o q len : Nat) (args : Array Value) (s : State) : Prop := args = #[.ref b, .int (Int32.ofNat o), .ref d, .int (Int32.ofNat q), .int (Int32.ofNat len)] ∧ Ch b A s ∧ Arr .byte d B s ∧ b ≠ d ∧ o + len ≤ A.slots.size ∧ q + len ≤ B.slots.size ∧ ∀ i, i < len → ¬ 255 < cv A (o + i)
def E (b : Addr) (A : Cell) (d : Addr) (B : Cell) (o q len : Nat) (r : Option Value) (s u : State) : Prop := r = some (.int (Int32.ofNat len)) ∧ ∃ B', Put d B' s u ∧ Laid B B' q (q + len) (fun j => Value.int (lo8 (cv A (o + (j - q)))))
/-- no char of the range above 255: len; the places written hold each char's low byte -/
theorem law (l : Launch) (b : Addr) (A : Cell) (d : Addr) (B : Cell) (o q len : Nat) : Law l yN 5 5 0 0 yB 7 (some .int) site (P b A d B o q len) (E b A d B o q len) (copyLocs d q len) 0 0 := by
  refine Law.of_walk (plainFor_of_name (by decide +kernel)) (by decide +kernel) (by decide +kernel) (by decide) (fun _ _ h => by rw [h.1]; rfl) (fun _ U U' hal hh h => ⟨h.1, h.2.1.mv hal hh, h.2.2.1.mv hal hh, h.2.2.2⟩) (fun r U U' V V' h1 hal h2 h => ⟨h.1, h.2.elim fun B' q => ⟨B', q.1.mv h1 h2, q.2⟩⟩) ?_
  intro p e s m args below meth c s₁ X0 hexec hbytes hml hret hlk hnm hown hh0 W hP
  obtain ⟨rfl, hA, hB, hne, l1, l2, hp⟩ := hP
  have c1 : Steps p.tables e below (s₁.setTop (entryFrame m #[.ref b, .int (Int32.ofNat o), .ref d, .int (Int32.ofNat q), .int (Int32.ofNat len)] 7)) (s₁.setTop (mkF m 0 #[.val (.ref b), .val (.int (Int32.ofNat o)), .val (.ref d), .val (.int (Int32.ofNat q)), .val (.int (Int32.ofNat len)), .unset, .unset] [])) := entry rfl
  have hA0 := hA.1.mv X0.warmed.alike hh0
  have hB0 := hB.mv X0.warmed.alike hh0
  have a31 := hA.1.2.2.2
  have c2 : Steps p.tables e below (s₁.setTop (entryFrame m #[.ref b, .int (Int32.ofNat o), .ref d, .int (Int32.ofNat q), .int (Int32.ofNat len)] 7)) (s₁.setTop (mkF m 3 #[.val (.ref b), .val (.int (Int32.ofNat o)), .val (.ref d), .val (.int (Int32.ofNat q)), .val (.int (Int32.ofNat len)), .val (.int 0), .unset] [])) := c1.trans (by
    refine iconstV X0.here hexec rfl 0 (hb hbytes d0) (by decide) ?_
    refine XS.istore X0.here hexec rfl (hb hbytes d1) rfl rfl ?_
    exact Steps.refl _)
  have loop : ∀ (r i : Nat), i + r = len → ∀ (z : Slot), (z = .unset ∨ ∃ w, z = .val w ∧ w.category = 1) → ∀ (Tl : State) (Bk : Cell), Stand p l e { frames := 0, locals := 0, cells := 0, slots := 0 } s m #[.ref b, .int (Int32.ofNat o), .ref d, .int (Int32.ofNat q), .int (Int32.ofNat len)] below meth c Tl ([] ++ copyLocs d q i) 0 0 → Put d Bk s₁ Tl → Laid B Bk q (q + i) (fun j => Value.int (lo8 (cv A (o + (j - q))))) →
      Steps p.tables e below (s₁.setTop (entryFrame m #[.ref b, .int (Int32.ofNat o), .ref d, .int (Int32.ofNat q), .int (Int32.ofNat len)] 7)) (Tl.setTop (mkF m 3 #[.val (.ref b), .val (.int (Int32.ofNat (o + i))), .val (.ref d), .val (.int (Int32.ofNat (q + i))), .val (.int (Int32.ofNat len)), .val (.int (Int32.ofNat i)), z] [])) → ∃ (T' : State) (B' : Cell) (z' : Slot), Stand p l e { frames := 0, locals := 0, cells := 0, slots := 0 } s m #[.ref b, .int (Int32.ofNat o), .ref d, .int (Int32.ofNat q), .int (Int32.ofNat len)] below meth c T' ([] ++ copyLocs d q len) 0 0 ∧ Put d B' s₁ T' ∧ Laid B B' q (q + len) (fun j => Value.int (lo8 (cv A (o + (j - q))))) ∧
      Steps p.tables e below (s₁.setTop (entryFrame m #[.ref b, .int (Int32.ofNat o), .ref d, .int (Int32.ofNat q), .int (Int32.ofNat len)] 7)) (T'.setTop (mkF m 3 #[.val (.ref b), .val (.int (Int32.ofNat (o + len))), .val (.ref d), .val (.int (Int32.ofNat (q + len))), .val (.int (Int32.ofNat len)), .val (.int (Int32.ofNat len)), z'] [])) := by
    intro r
    induction r with
    | zero =>
      intro i hi z hz Tl Bk Xl pl fl cl
      have hil : i = len := by omega
      rw [hil] at Xl fl cl
      exact ⟨Tl, Bk, z, Xl, pl, fl, cl⟩
    | succ r ih =>
      intro i hi z hz Tl Bk Xl pl fl cl
      have all := X0.warmed.alike.symm.trans Xl.warmed.alike
      have hAl := hA0.keep all (pl.other hne hA0.1)
      have hBk := hB0.like all pl.1 fl.1 fl.2.1 fl.2.2.1
      have hlt : q + i < Bk.slots.size := by rw [fl.2.2.1]; omega
      have c3 : Steps p.tables e below (s₁.setTop (entryFrame m #[.ref b, .int (Int32.ofNat o), .ref d, .int (Int32.ofNat q), .int (Int32.ofNat len)] 7)) (Tl.setTop (mkF m 12 #[.val (.ref b), .val (.int (Int32.ofNat (o + i))), .val (.ref d), .val (.int (Int32.ofNat (q + i))), .val (.int (Int32.ofNat len)), .val (.int (Int32.ofNat i)), z] [.int (Int32.ofNat (o + i)), .ref b])) := cl.trans (by
        refine XS.iload Xl.here hexec rfl (hb hbytes d3) rfl ?_
        refine XS.iload Xl.here hexec rfl (hb hbytes d5) rfl ?_
        refine XS.icmpNo Xl.here hexec rfl (hb hbytes d7) rfl (ii_ge_f (lt32 (by omega) (by omega))) ?_
        refine XS.aloadN Xl.here hexec rfl (hb hbytes d10) rfl rfl ?_
        refine XS.iloadN Xl.here hexec rfl (hb hbytes d11) rfl ?_
        exact Steps.refl _)
      have c4 : Steps p.tables e below (s₁.setTop (entryFrame m #[.ref b, .int (Int32.ofNat o), .ref d, .int (Int32.ofNat q), .int (Int32.ofNat len)] 7)) (Tl.setTop (mkF m 13 #[.val (.ref b), .val (.int (Int32.ofNat (o + i))), .val (.ref d), .val (.int (Int32.ofNat (q + i))), .val (.int (Int32.ofNat len)), .val (.int (Int32.ofNat i)), z] [.int (cv A (o + i))])) := c3.trans (by
        refine Xl.aget hexec hAl rfl (hA.get (i := o + i) (by omega)) rfl rfl (hb hbytes d12) ?_
        exact Steps.refl _)
      have c5 : Steps p.tables e below (s₁.setTop (entryFrame m #[.ref b, .int (Int32.ofNat o), .ref d, .int (Int32.ofNat q), .int (Int32.ofNat len)] 7)) (Tl.setTop (mkF m 15 #[.val (.ref b), .val (.int (Int32.ofNat (o + i))), .val (.ref d), .val (.int (Int32.ofNat (q + i))), .val (.int (Int32.ofNat len)), .val (.int (Int32.ofNat i)), .val (.int (cv A (o + i)))] [])) := c4.trans (by
        refine XS.istoreS Xl.here hexec rfl (hb hbytes d13) rfl rfl hz ?_
        exact Steps.refl _)
      have c6 : Steps p.tables e below (s₁.setTop (entryFrame m #[.ref b, .int (Int32.ofNat o), .ref d, .int (Int32.ofNat q), .int (Int32.ofNat len)] 7)) (Tl.setTop (mkF m 31 #[.val (.ref b), .val (.int (Int32.ofNat (o + i))), .val (.ref d), .val (.int (Int32.ofNat (q + i))), .val (.int (Int32.ofNat len)), .val (.int (Int32.ofNat i)), .val (.int (cv A (o + i)))] [.int (lo8 (cv A (o + i))), .int (Int32.ofNat (q + i)), .ref d])) := c5.trans (by
        refine XS.iload Xl.here hexec rfl (hb hbytes d15) rfl ?_
        refine sipushV Xl.here hexec rfl 255 (hb hbytes d17) (by decide) ?_
        refine XS.icmpYes Xl.here hexec rfl (pc0 := 20) rfl (hb hbytes d20) rfl (ii_le_t (hp i (by omega))) (by decide) rfl ?_
        refine XS.aloadN Xl.here hexec rfl (hb hbytes d26) rfl rfl ?_
        refine XS.iloadN Xl.here hexec rfl (hb hbytes d27) rfl ?_
        refine XS.iload Xl.here hexec rfl (hb hbytes d28) rfl ?_
        refine i2b Xl.here hexec rfl (hb hbytes d30) rfl ?_
        exact Steps.refl _)
      obtain ⟨T7, X7, p7, st7⟩ := Xl.aput hexec hBk rfl hlt rfl (fits_lo8 (cv A (o + i))) (g := (mkF m 31 #[.val (.ref b), .val (.int (Int32.ofNat (o + i))), .val (.ref d), .val (.int (Int32.ofNat (q + i))), .val (.int (Int32.ofNat len)), .val (.int (Int32.ofNat i)), .val (.int (cv A (o + i)))] [.int (lo8 (cv A (o + i))), .int (Int32.ofNat (q + i)), .ref d])) rfl (rest := []) rfl (hb hbytes d31)
      have c8 : Steps p.tables e below (s₁.setTop (entryFrame m #[.ref b, .int (Int32.ofNat o), .ref d, .int (Int32.ofNat q), .int (Int32.ofNat len)] 7)) (T7.setTop (mkF m 32 #[.val (.ref b), .val (.int (Int32.ofNat (o + i))), .val (.ref d), .val (.int (Int32.ofNat (q + i))), .val (.int (Int32.ofNat len)), .val (.int (Int32.ofNat i)), .val (.int (cv A (o + i)))] [])) := c6.trans (st7 _ (Steps.refl _))
      have c9 : Steps p.tables e below (s₁.setTop (entryFrame m #[.ref b, .int (Int32.ofNat o), .ref d, .int (Int32.ofNat q), .int (Int32.ofNat len)] 7)) (T7.setTop (mkF m 3 #[.val (.ref b), .val (.int (Int32.ofNat (o + i) + 1)), .val (.ref d), .val (.int (Int32.ofNat (q + i) + 1)), .val (.int (Int32.ofNat len)), .val (.int (Int32.ofNat i + 1)), .val (.int (cv A (o + i)))] [])) := c8.trans (by
        refine iincV X7.here hexec rfl 1 (hb hbytes d32) (by decide) rfl rfl ?_
        refine iincV X7.here hexec rfl 1 (hb hbytes d35) (by decide) rfl rfl ?_
        refine iincV X7.here hexec rfl 1 (hb hbytes d38) (by decide) rfl rfl ?_
        refine XS.goto X7.here hexec rfl (pc0 := 41) rfl (hb hbytes d41) (by decide) rfl ?_
        exact Steps.refl _)
      have c10 : Steps p.tables e below (s₁.setTop (entryFrame m #[.ref b, .int (Int32.ofNat o), .ref d, .int (Int32.ofNat q), .int (Int32.ofNat len)] 7)) (T7.setTop (mkF m 3 #[.val (.ref b), .val (.int (Int32.ofNat (o + (i + 1)))), .val (.ref d), .val (.int (Int32.ofNat (q + (i + 1)))), .val (.int (Int32.ofNat len)), .val (.int (Int32.ofNat (i + 1))), .val (.int (cv A (o + i)))] [])) := by
        have := c9
        rw [succ32, succ32, succ32] at this
        exact this
      exact ih (i + 1) (by omega) _ (Or.inr ⟨_, rfl, rfl⟩) T7 _ (by rw [copyLocs_step, ← List.append_assoc]; exact X7) (pl.trans p7) (fl.step (by omega) hlt (by simp)) c10
  obtain ⟨T9, B9, z9, X9, p9, f9, g9⟩ := loop len 0 (by omega) .unset (Or.inl rfl) s₁ B (by simpa [copyLocs] using X0) ⟨hB0.1, fun _ _ => rfl, rfl⟩ (Laid.zero _ _ _) c2
  have c11 : Steps p.tables e below (s₁.setTop (entryFrame m #[.ref b, .int (Int32.ofNat o), .ref d, .int (Int32.ofNat q), .int (Int32.ofNat len)] 7)) (T9.setTop (mkF m 46 #[.val (.ref b), .val (.int (Int32.ofNat (o + len))), .val (.ref d), .val (.int (Int32.ofNat (q + len))), .val (.int (Int32.ofNat len)), .val (.int (Int32.ofNat len)), z9] [.int (Int32.ofNat len)])) := g9.trans (by
    refine XS.iload X9.here hexec rfl (hb hbytes d3) rfl ?_
    refine XS.iload X9.here hexec rfl (hb hbytes d5) rfl ?_
    refine XS.icmpYes X9.here hexec rfl (pc0 := 7) rfl (hb hbytes d7) rfl (ii_ge_t (nlt32 (by omega) (Nat.le_refl _))) (by decide) rfl ?_
    refine XS.iload X9.here hexec rfl (hb hbytes d44) rfl ?_
    exact Steps.refl _)
  exact ⟨T9, some (.int (Int32.ofNat len)), _, _, _, X9, by simp, rfl, rfl, (fun h => by cases h), ⟨rfl, B9, p9.from hh0, f9⟩, fun fs hl => c11.trans (X9.ireturnOut hexec hret rfl (Or.inl rfl) (hb hbytes d46) hl)⟩
end Cmp5
namespace Cmp3
def yN : MethodName := ⟨"java/lang/StringUTF16", "compress", "([CII)[B"⟩
abbrev yB : ByteArray := jdk_52_method_16_code
theorem d0 : decode yB 0 = .ok (.iload_n 2, 1) := by decide +kernel
theorem d1 : decode yB 1 = .ok (.newarray .byte, 2) := by decide +kernel
theorem d3 : decode yB 3 = .ok (.astore_n 3, 1) := by decide +kernel
theorem d4 : decode yB 4 = .ok (.aload_n 0, 1) := by decide +kernel
theorem d5 : decode yB 5 = .ok (.iload_n 1, 1) := by decide +kernel
theorem d6 : decode yB 6 = .ok (.aload_n 3, 1) := by decide +kernel
theorem d7 : decode yB 7 = .ok (.iconst 0, 1) := by decide +kernel
theorem d8 : decode yB 8 = .ok (.iload_n 2, 1) := by decide +kernel
theorem d9 : decode yB 9 = .ok (.invokestatic 115, 3) := by decide +kernel
theorem d12 : decode yB 12 = .ok (.istore 4, 2) := by decide +kernel
theorem d14 : decode yB 14 = .ok (.iload 4, 2) := by decide +kernel
theorem d16 : decode yB 16 = .ok (.iload_n 2, 1) := by decide +kernel
theorem d17 : decode yB 17 = .ok (.if_icmp (.eq) 40, 3) := by decide +kernel
theorem d57 : decode yB 57 = .ok (.aload_n 3, 1) := by decide +kernel
theorem d58 : decode yB 58 = .ok (.areturn, 1) := by decide +kernel
def site : List Cond := [.arrayClass .byte, Cmp5.tab] ++ staticW U16 115 Cmp5.yN
def tab : Cond := tabOf yN yB 6 (some (.array .byte)) site
def P (b : Addr) (A : Cell) (o len : Nat) (args : Array Value) (s : State) : Prop := args = #[.ref b, .int (Int32.ofNat o), .int (Int32.ofNat len)] ∧ Ch b A s ∧ o + len ≤ A.slots.size ∧ len ≤ 536870912 ∧ ∀ i, i < len → ¬ 255 < cv A (o + i)
def E (b : Addr) (A : Cell) (o len : Nat) (r : Option Value) (s u : State) : Prop := NewArr .byte "[B" len (fun j => .int (lo8 (cv A (o + j)))) r s u ∧ u.heap.size = s.heap.size + 1
/-- no char of the range above 255: a new byte[] of their low bytes -/
theorem law (l : Launch) (b : Addr) (A : Cell) (o len : Nat) : Law l yN 3 3 1 18 yB 6 (some (.array .byte)) site (P b A o len) (E b A o len) [] 1 len := by
  refine Law.of_walk (plainFor_of_name (by decide +kernel)) (by decide +kernel) (by decide +kernel) (by decide) (fun _ _ h => by rw [h.1]; rfl) (fun _ U U' hal hh h => ⟨h.1, h.2.1.mv hal hh, h.2.2⟩) (fun r U U' V V' h1 hal h2 h => ⟨NewArr.mv r U U' V V' h1 hal h2 h.1, by rw [h1, h2]; exact h.2⟩) ?_
  intro p e s m args below meth c s₁ X0 hexec hbytes hml hret hlk hnm hown hh0 W hP
  obtain ⟨rfl, hA, l1, l2, hp⟩ := hP
  have a31 := hA.1.2.2.2
  have c1 : Steps p.tables e below (s₁.setTop (entryFrame m #[.ref b, .int (Int32.ofNat o), .int (Int32.ofNat len)] 6)) (s₁.setTop (mkF m 0 #[.val (.ref b), .val (.int (Int32.ofNat o)), .val (.int (Int32.ofNat len)), .unset, .unset, .unset] [])) := entry rfl
  have c2 : Steps p.tables e below (s₁.setTop (entryFrame m #[.ref b, .int (Int32.ofNat o), .int (Int32.ofNat len)] 6)) (s₁.setTop (mkF m 1 #[.val (.ref b), .val (.int (Int32.ofNat o)), .val (.int (Int32.ofNat len)), .unset, .unset, .unset] [.int (Int32.ofNat len)])) := c1.trans (by
    refine XS.iloadN X0.here hexec rfl (hb hbytes d0) rfl ?_
    exact Steps.refl _)
  obtain ⟨T3, B3, X3, ba3, bs3, bv3, bh3, bf3, st3⟩ := X0.anew hexec (atype := .byte) (wk W (.arrayClass .byte)) rfl (by show len * 1 ≤ _; omega) (by omega) (g := (mkF m 1 #[.val (.ref b), .val (.int (Int32.ofNat o)), .val (.int (Int32.ofNat len)), .unset, .unset, .unset] [.int (Int32.ofNat len)])) rfl (hb hbytes d1) (rest := []) rfl (Nat.le_refl _) (by show 0 + len ≤ len; omega)
  rw [hh0] at ba3 st3
  have kp3 : XT.Kept s T3 := (XT.Kept.of_eq hh0).push bh3
  have hA3 := hA.keep X3.warmed.alike (kp3 _ _ hA.1.1)
  have hne : b ≠ s.heap.size := hA.1.ne
  have c4 : Steps p.tables e below (s₁.setTop (entryFrame m #[.ref b, .int (Int32.ofNat o), .int (Int32.ofNat len)] 6)) (T3.setTop (mkF m 3 #[.val (.ref b), .val (.int (Int32.ofNat o)), .val (.int (Int32.ofNat len)), .unset, .unset, .unset] [.ref s.heap.size])) := c2.trans (st3 _ (Steps.refl _))
  have c5 : Steps p.tables e below (s₁.setTop (entryFrame m #[.ref b, .int (Int32.ofNat o), .int (Int32.ofNat len)] 6)) (T3.setTop (mkF m 9 #[.val (.ref b), .val (.int (Int32.ofNat o)), .val (.int (Int32.ofNat len)), .val (.ref s.heap.size), .unset, .unset] [.int (Int32.ofNat len), .int 0, .ref s.heap.size, .int (Int32.ofNat o), .ref b])) := c4.trans (by
    refine XS.astoreN X3.here hexec rfl (hb hbytes d3) rfl rfl rfl ?_
    refine XS.aloadN X3.here hexec rfl (hb hbytes d4) rfl rfl ?_
    refine XS.iloadN X3.here hexec rfl (hb hbytes d5) rfl ?_
    refine XS.aloadN X3.here hexec rfl (hb hbytes d6) rfl rfl ?_
    refine iconstV X3.here hexec rfl 0 (hb hbytes d7) (by decide) ?_
    refine XS.iloadN X3.here hexec rfl (hb hbytes d8) rfl ?_
    exact Steps.refl _)
  obtain ⟨v6, T6, X6, E6, g6⟩ := X3.callS hexec (Cmp5.law l b A s.heap.size B3 o 0 len) hown (wks W (staticW U16 115 Cmp5.yN)) (wk W Cmp5.tab) (W := 0) (Nat.le_of_ble_eq_true rfl) (Nat.le_of_ble_eq_true rfl) (Nat.le_refl _) (by show 0 + len + 0 ≤ len; omega) (g := (mkF m 9 #[.val (.ref b), .val (.int (Int32.ofNat o)), .val (.int (Int32.ofNat len)), .val (.ref s.heap.size), .unset, .unset] [.int (Int32.ofNat len), .int (Int32.ofNat 0), .ref s.heap.size, .int (Int32.ofNat o), .ref b])) rfl (by rw [hml]; rfl) c5 (argsL := [.ref b, .int (Int32.ofNat o), .ref s.heap.size, .int (Int32.ofNat 0), .int (Int32.ofNat len)]) (rest := []) rfl rfl (by show 2 * 0 + 0 ≤ _; decide) (hb hbytes d9) (⟨rfl, hA3, ba3, hne, l1, by rw [bs3]; simp, hp⟩)
  obtain ⟨rfl, B6, p6, f6⟩ := E6
  have c7 : Steps p.tables e below (s₁.setTop (entryFrame m #[.ref b, .int (Int32.ofNat o), .int (Int32.ofNat len)] 6)) (T6.setTop (mkF m 12 #[.val (.ref b), .val (.int (Int32.ofNat o)), .val (.int (Int32.ofNat len)), .val (.ref s.heap.size), .unset, .unset] [.int (Int32.ofNat len)])) := g6
  have c8 : Steps p.tables e below (s₁.setTop (entryFrame m #[.ref b, .int (Int32.ofNat o), .int (Int32.ofNat len)] 6)) (T6.setTop (mkF m 58 #[.val (.ref b), .val (.int (Int32.ofNat o)), .val (.int (Int32.ofNat len)), .val (.ref s.heap.size), .val (.int (Int32.ofNat len)), .unset] [.ref s.heap.size])) := c7.trans (by
    refine XS.istore X6.here hexec rfl (hb hbytes d12) rfl rfl ?_
    refine XS.iload X6.here hexec rfl (hb hbytes d14) rfl ?_
    refine XS.iloadN X6.here hexec rfl (hb hbytes d16) rfl ?_
    refine XS.icmpYes X6.here hexec rfl (pc0 := 17) rfl (hb hbytes d17) rfl (ii_eq_t rfl) (by decide) rfl ?_
    refine XS.aloadN X6.here hexec rfl (hb hbytes d57) rfl rfl ?_
    exact Steps.refl _)
  have X8 := X6.wide (L' := []) (cells' := 1) (slots' := len) (fun x hx hlt => by
    simp only [List.nil_append, copyLocs, List.mem_map, List.mem_range] at hx
    obtain ⟨i, -, rfl⟩ := hx
    exact absurd hlt (Nat.lt_irrefl _)) (Nat.le_refl _) (by omega)
  exact ⟨T6, some (.ref s.heap.size), _, _, _, X8, rfl, rfl, rfl, (fun h => by cases h), ⟨⟨rfl, B6, ba3.like (X3.warmed.alike.symm.trans X6.warmed.alike) p6.1 f6.1 f6.2.1 f6.2.2.1, f6.2.1.trans bv3, by rw [X6.warmed.alike.findClass, f6.1]; exact bf3, by rw [f6.2.2.1, bs3]; simp, fun j hj => by rw [f6.2.2.2 j, if_pos (by omega)]; rfl, kp3.put p6 (Nat.le_refl _)⟩, by rw [p6.2.2, bh3, hh0]; simp⟩, fun fs hl => c8.trans (X8.areturnOut hexec rfl hret rfl (hb hbytes d58) hl)⟩
end Cmp3
namespace CodL
def yN : MethodName := ⟨"java/lang/StringUTF16", "coderFromArrayLen", "([BI)B"⟩
abbrev yB : ByteArray := jdk_52_method_15_code
theorem d0 : decode yB 0 = .ok (.iload_n 1, 1) := by decide +kernel
theorem d1 : decode yB 1 = .ok (.aload_n 0, 1) := by decide +kernel
theorem d2 : decode yB 2 = .ok (.arraylength, 1) := by decide +kernel
theorem d3 : decode yB 3 = .ok (.isub, 1) := by decide +kernel
theorem d4 : decode yB 4 = .ok (.bipush 31, 2) := by decide +kernel
theorem d6 : decode yB 6 = .ok (.iushr, 1) := by decide +kernel
theorem d7 : decode yB 7 = .ok (.i2b, 1) := by decide +kernel
theorem d8 : decode yB 8 = .ok (.ireturn, 1) := by decide +kernel
def site : List Cond := []
def tab : Cond := tabOf yN yB 2 (some .byte) site
def P (d : Addr) (B : Cell) (args : Array Value) (s : State) : Prop := args = #[.ref d, .int (Int32.ofNat B.slots.size)] ∧ Arr .byte d B s
def E (r : Option Value) (s u : State) : Prop := XT.PureE (some (.int 0)) r s u
/-- an array as long as the number of chars: LATIN1 -/
theorem law (l : Launch) (d : Addr) (B : Cell) : Law l yN 2 2 0 0 yB 2 (some .byte) site (P d B) E [] 0 0 := by
  refine Law.of_walk (plainFor_of_name (by decide +kernel)) (by decide +kernel) (by decide +kernel) (by decide) (fun _ _ h => by rw [h.1]; rfl) (fun _ U U' hal hh h => ⟨h.1, h.2.mv hal hh⟩) (fun r U U' V V' h1 hal h2 h => XT.PureE.mv r U U' V V' h1 hal h2 h) ?_
  intro p e s m args below meth c s₁ X0 hexec hbytes hml hret hlk hnm hown hh0 W hP
  obtain ⟨rfl, hB⟩ := hP
  have hB0 := hB.mv X0.warmed.alike hh0
  have c1 : Steps p.tables e below (s₁.setTop (entryFrame m #[.ref d, .int (Int32.ofNat B.slots.size)] 2)) (s₁.setTop (mkF m 0 #[.val (.ref d), .val (.int (Int32.ofNat B.slots.size))] [])) := entry rfl
  have c2 : Steps p.tables e below (s₁.setTop (entryFrame m #[.ref d, .int (Int32.ofNat B.slots.size)] 2)) (s₁.setTop (mkF m 2 #[.val (.ref d), .val (.int (Int32.ofNat B.slots.size))] [.ref d, .int (Int32.ofNat B.slots.size)])) := c1.trans (by
    refine XS.iloadN X0.here hexec rfl (hb hbytes d0) rfl ?_
    refine XS.aloadN X0.here hexec rfl (hb hbytes d1) rfl rfl ?_
    exact Steps.refl _)
  have c3 : Steps p.tables e below (s₁.setTop (entryFrame m #[.ref d, .int (Int32.ofNat B.slots.size)] 2)) (s₁.setTop (mkF m 8 #[.val (.ref d), .val (.int (Int32.ofNat B.slots.size))] [.int (lo8 (ushr (Int32.ofNat B.slots.size - Int32.ofNat B.slots.size) 31))])) := c2.trans (by
    refine X0.alen hexec hB0 rfl rfl (hb hbytes d2) ?_
    refine XS.isub X0.here hexec rfl (hb hbytes d3) rfl ?_
    refine bipushV X0.here hexec rfl 31 (hb hbytes d4) (by decide) ?_
    refine iushr X0.here hexec rfl (hb hbytes d6) rfl ?_
    refine i2b X0.here hexec rfl (hb hbytes d7) rfl ?_
    exact Steps.refl _)
  have e0 : lo8 (ushr (Int32.ofNat B.slots.size - Int32.ofNat B.slots.size) 31) = 0 := by rw [Int32.sub_self]; decide
  rw [e0] at c3
  exact ⟨s₁, some (.int 0), _, _, _, X0, rfl, rfl, rfl, (fun h => by cases h), ⟨rfl, hh0⟩, fun fs hl => c3.trans (X0.ireturnOut hexec hret rfl (Or.inr (Or.inr (Or.inl rfl))) (hb hbytes d8) hl)⟩
end CodL
/-- the String at a is Latin-1 over a new byte[] (the heap's one new cell): the low bytes of the len chars of A from o on; every cell but a is kept -/
def Got (a : Addr) (D : Cell) (fV fC : Field) (A : Cell) (o len : Nat) (r : Option Value) (s u : State) : Prop := r = none ∧ ∃ D' V : Cell, Blank "java/lang/String" a D' u ∧ Same D D' [fV.slot, fC.slot] ∧ D'.slots[fV.slot]? = some (.ref s.heap.size) ∧ D'.slots[fC.slot]? = some (.int 0) ∧ Arr .byte s.heap.size V u ∧ V.vm = .none ∧ u.vm.findClass "[B" = some V.cls ∧ V.slots.size = len ∧ (∀ j, j < len → V.slots[j]? = some (.int (lo8 (cv A (o + j))))) ∧ (∀ (y : Addr) (c : Cell), y ≠ a → s.heap[y]? = some c → u.heap[y]? = some c) ∧ u.heap.size = s.heap.size + 1
theorem Got.mv {a : Addr} {D A : Cell} {fV fC : Field} {o len : Nat} : ∀ r (U U' V V' : State), U'.heap = U.heap → V.vm.Alike V'.vm → V'.heap = V.heap → Got a D fV fC A o len r U V → Got a D fV fC A o len r U' V' :=
  fun r U U' V V' h1 hal h2 ⟨e0, D', X, a1, a2, a3, a4, a5, a6, a7, a8, a9, a10, a11⟩ => ⟨e0, D', X, a1.mv hal h2, a2, by rw [h1]; exact a3, a4, by rw [h1]; exact a5.mv hal h2, a6, by rw [hal.findClass]; exact a7, a8, a9, by rw [h1, h2]; exact a10, by rw [h1, h2]; exact a11⟩
namespace New4
def yN : MethodName := ⟨"java/lang/String", "<init>", "([CIILjava/lang/Void;)V"⟩
abbrev yB : ByteArray := jdk_42_method_149_code
theorem d0 : decode yB 0 = .ok (.aload_n 0, 1) := by decide +kernel
theorem d1 : decode yB 1 = .ok (.invokespecial 1, 3) := by decide +kernel
theorem d4 : decode yB 4 = .ok (.iload_n 3, 1) := by decide +kernel
theorem d5 : decode yB 5 = .ok (.ifCond (.ne) 22, 3) := by decide +kernel
theorem d27 : decode yB 27 = .ok (.getstatic 38, 3) := by decide +kernel
theorem d30 : decode yB 30 = .ok (.ifCond (.eq) 28, 3) := by decide +kernel
theorem d33 : decode yB 33 = .ok (.aload_n 1, 1) := by decide +kernel
theorem d34 : decode yB 34 = .ok (.iload_n 2, 1) := by decide +kernel
theorem d35 : decode yB 35 = .ok (.iload_n 3, 1) := by decide +kernel
theorem d36 : decode yB 36 = .ok (.invokestatic 177, 3) := by decide +kernel
theorem d39 : decode yB 39 = .ok (.astore 5, 2) := by decide +kernel
theorem d41 : decode yB 41 = .ok (.aload_n 0, 1) := by decide +kernel
theorem d42 : decode yB 42 = .ok (.aload 5, 2) := by decide +kernel
theorem d44 : decode yB 44 = .ok (.iload_n 3, 1) := by decide +kernel
theorem d45 : decode yB 45 = .ok (.invokestatic 47, 3) := by decide +kernel
theorem d48 : decode yB 48 = .ok (.putfield 15, 3) := by decide +kernel
theorem d51 : decode yB 51 = .ok (.aload_n 0, 1) := by decide +kernel
theorem d52 : decode yB 52 = .ok (.aload 5, 2) := by decide +kernel
theorem d54 : decode yB 54 = .ok (.putfield 9, 3) := by decide +kernel
theorem d57 : decode yB 57 = .ok (.return_, 1) := by decide +kernel
def site : List Cond := [.fieldLink "java/lang/String" 38 "java/lang/String" "COMPACT_STRINGS" "Z", Cmp3.tab, CodL.tab, .laysFinal "java/lang/String" "java/lang/String" "value" "[B", .fieldLink "java/lang/String" 9 "java/lang/String" "value" "[B", .laysFinal "java/lang/String" "java/lang/String" "coder" "B", .fieldLink "java/lang/String" 15 "java/lang/String" "coder" "B"] ++ objW "java/lang/String" 1 ++ staticW "java/lang/String" 177 Cmp3.yN ++ staticW "java/lang/String" 47 CodL.yN
def tab : Cond := tabOf yN yB 6 none site
def P (a : Addr) (D : Cell) (fV fC : Field) (b : Addr) (A : Cell) (z : Int32) (o len : Nat) (args : Array Value) (s : State) : Prop := args = #[.ref a, .ref b, .int (Int32.ofNat o), .int (Int32.ofNat len), .null] ∧ Blank "java/lang/String" a D s ∧ Found "java/lang/String" "value" "[B" fV s ∧ Found "java/lang/String" "coder" "B" fC s ∧ Ch b A s ∧ StaticIs s "java/lang/String" "COMPACT_STRINGS" "Z" (.int z) ∧ ¬ z = 0 ∧ 0 < len ∧ o + len ≤ A.slots.size ∧ len ≤ 536870912 ∧ ∀ i, i < len → ¬ 255 < cv A (o + i)
def E (a : Addr) (D : Cell) (fV fC : Field) (A : Cell) (o len : Nat) (r : Option Value) (s u : State) : Prop := Got a D fV fC A o len r s u
/-- len > 0, no char of the range above 255: a Latin-1 String of their low bytes -/
theorem law (l : Launch) (a : Addr) (D : Cell) (fV fC : Field) (b : Addr) (A : Cell) (z : Int32) (o len : Nat) : Law l yN 5 4 2 35 yB 6 none site (P a D fV fC b A z o len) (E a D fV fC A o len) [⟨a, fC.slot⟩, ⟨a, fV.slot⟩] 1 len := by
  refine Law.of_walk (plainFor_of_name (by decide +kernel)) (by decide +kernel) (by decide +kernel) (by decide) (fun _ _ h => by rw [h.1]; rfl) (fun _ U U' hal hh h => ⟨h.1, h.2.1.mv hal hh, h.2.2.1.al hal, h.2.2.2.1.al hal, h.2.2.2.2.1.mv hal hh, h.2.2.2.2.2.1.there hal hh, h.2.2.2.2.2.2⟩) (fun r U U' V V' h1 hal h2 h => Got.mv r U U' V V' h1 hal h2 h) ?_
  intro p e s m args below meth c s₁ X0 hexec hbytes hml hret hlk hnm hown hh0 W hP
  obtain ⟨rfl, hB, f1, f2, hA, s1, hz, l0, l1, l2, hp⟩ := hP
  have a31 := hA.1.2.2.2
  have c1 : Steps p.tables e below (s₁.setTop (entryFrame m #[.ref a, .ref b, .int (Int32.ofNat o), .int (Int32.ofNat len), .null] 6)) (s₁.setTop (mkF m 0 #[.val (.ref a), .val (.ref b), .val (.int (Int32.ofNat o)), .val (.int (Int32.ofNat len)), .val .null, .unset] [])) := entry rfl
  have c2 : Steps p.tables e below (s₁.setTop (entryFrame m #[.ref a, .ref b, .int (Int32.ofNat o), .int (Int32.ofNat len), .null] 6)) (s₁.setTop (mkF m 1 #[.val (.ref a), .val (.ref b), .val (.int (Int32.ofNat o)), .val (.int (Int32.ofNat len)), .val .null, .unset] [.ref a])) := c1.trans (by
    refine XS.aloadN X0.here hexec rfl (hb hbytes d0) rfl rfl ?_
    exact Steps.refl _)
  obtain ⟨T3, X3, q3, st3⟩ := X0.oinit hexec hown (wks W (objW "java/lang/String" 1)) (g := (mkF m 1 #[.val (.ref a), .val (.ref b), .val (.int (Int32.ofNat o)), .val (.int (Int32.ofNat len)), .val .null, .unset] [.ref a])) rfl (by rw [hml]; rfl) (rest := []) rfl (hb hbytes d1) (W := 0) (by show 2 * 0 + 0 ≤ _; decide) (Nat.le_of_ble_eq_true rfl) (Nat.le_of_ble_eq_true rfl)
  have hh3 := q3.trans hh0
  have c4 : Steps p.tables e below (s₁.setTop (entryFrame m #[.ref a, .ref b, .int (Int32.ofNat o), .int (Int32.ofNat len), .null] 6)) (T3.setTop (mkF m 27 #[.val (.ref a), .val (.ref b), .val (.int (Int32.ofNat o)), .val (.int (Int32.ofNat len)), .val .null, .unset] [])) := (c2.trans (st3 _ (Steps.refl _))).trans (by
    refine XS.iloadN X3.here hexec rfl (hb hbytes d4) rfl ?_
    refine XS.ifYes X3.here hexec rfl (pc0 := 5) rfl (hb hbytes d5) rfl (i0_ne_t (nz32 (by omega) l0)) (by decide) rfl ?_
    exact Steps.refl _)
  obtain ⟨T5, X5, q5, st5⟩ := X3.sget hexec hown (wk W (.fieldLink "java/lang/String" 38 "java/lang/String" "COMPACT_STRINGS" "Z")) s1 (fun _ _ h => by rw [hh3]; exact h) (g := (mkF m 27 #[.val (.ref a), .val (.ref b), .val (.int (Int32.ofNat o)), .val (.int (Int32.ofNat len)), .val .null, .unset] [])) rfl (hb hbytes d27)
  have hh5 := q5.trans hh3
  have c6 : Steps p.tables e below (s₁.setTop (entryFrame m #[.ref a, .ref b, .int (Int32.ofNat o), .int (Int32.ofNat len), .null] 6)) (T5.setTop (mkF m 30 #[.val (.ref a), .val (.ref b), .val (.int (Int32.ofNat o)), .val (.int (Int32.ofNat len)), .val .null, .unset] [.int z])) := c4.trans (st5 _ (Steps.refl _))
  have c7 : Steps p.tables e below (s₁.setTop (entryFrame m #[.ref a, .ref b, .int (Int32.ofNat o), .int (Int32.ofNat len), .null] 6)) (T5.setTop (mkF m 36 #[.val (.ref a), .val (.ref b), .val (.int (Int32.ofNat o)), .val (.int (Int32.ofNat len)), .val .null, .unset] [.int (Int32.ofNat len), .int (Int32.ofNat o), .ref b])) := c6.trans (by
    refine XS.ifNo X5.here hexec rfl (hb hbytes d30) rfl (i0_eq_f hz) ?_
    refine XS.aloadN X5.here hexec rfl (hb hbytes d33) rfl rfl ?_
    refine XS.iloadN X5.here hexec rfl (hb hbytes d34) rfl ?_
    refine XS.iloadN X5.here hexec rfl (hb hbytes d35) rfl ?_
    exact Steps.refl _)
  obtain ⟨v8, T8, X8, E8, g8⟩ := X5.callS hexec (Cmp3.law l b A o len) hown (wks W (staticW "java/lang/String" 177 Cmp3.yN)) (wk W Cmp3.tab) (W := 0) (Nat.le_of_ble_eq_true rfl) (Nat.le_of_ble_eq_true rfl) (Nat.le_refl _) (by show 0 + len ≤ len; omega) (g := (mkF m 36 #[.val (.ref a), .val (.ref b), .val (.int (Int32.ofNat o)), .val (.int (Int32.ofNat len)), .val .null, .unset] [.int (Int32.ofNat len), .int (Int32.ofNat o), .ref b])) rfl (by rw [hml]; rfl) c7 (argsL := [.ref b, .int (Int32.ofNat o), .int (Int32.ofNat len)]) (rest := []) rfl rfl (by show 2 * 0 + 0 ≤ _; decide) (hb hbytes d36) (⟨rfl, hA.mv X5.warmed.alike hh5, l1, l2, hp⟩)
  obtain ⟨e8, z8⟩ := E8
  obtain ⟨rfl, N, n1, n2, n3, n4, n5, n6⟩ := NewArr.mv _ T5 s _ _ hh5.symm (Vm.Alike.refl _) rfl e8
  rw [hh5] at z8
  have hB1 := hB.keep X8.warmed.alike (n6 _ _ hB.1)
  have hne : s.heap.size ≠ a := (Nat.ne_of_lt (Array.getElem?_eq_some_iff.mp hB.1).1).symm
  have c9 : Steps p.tables e below (s₁.setTop (entryFrame m #[.ref a, .ref b, .int (Int32.ofNat o), .int (Int32.ofNat len), .null] 6)) (T8.setTop (mkF m 39 #[.val (.ref a), .val (.ref b), .val (.int (Int32.ofNat o)), .val (.int (Int32.ofNat len)), .val .null, .unset] [.ref s.heap.size])) := g8
  have c10 : Steps p.tables e below (s₁.setTop (entryFrame m #[.ref a, .ref b, .int (Int32.ofNat o), .int (Int32.ofNat len), .null] 6)) (T8.setTop (mkF m 45 #[.val (.ref a), .val (.ref b), .val (.int (Int32.ofNat o)), .val (.int (Int32.ofNat len)), .val .null, .val (.ref s.heap.size)] [.int (Int32.ofNat N.slots.size), .ref s.heap.size, .ref a])) := by
    have hc : Steps p.tables e below (s₁.setTop (entryFrame m #[.ref a, .ref b, .int (Int32.ofNat o), .int (Int32.ofNat len), .null] 6)) (T8.setTop (mkF m 45 #[.val (.ref a), .val (.ref b), .val (.int (Int32.ofNat o)), .val (.int (Int32.ofNat len)), .val .null, .val (.ref s.heap.size)] [.int (Int32.ofNat len), .ref s.heap.size, .ref a])) := c9.trans (by
      refine XS.astore X8.here hexec rfl (hb hbytes d39) rfl rfl rfl ?_
      refine XS.aloadN X8.here hexec rfl (hb hbytes d41) rfl rfl ?_
      refine XS.aload X8.here hexec rfl (hb hbytes d42) rfl rfl ?_
      refine XS.iloadN X8.here hexec rfl (hb hbytes d44) rfl ?_
      exact Steps.refl _)
    rw [n4]; exact hc
  obtain ⟨v11, T11, X11, E11, g11⟩ := X8.callS hexec (CodL.law l s.heap.size N) hown (wks W (staticW "java/lang/String" 47 CodL.yN)) (wk W CodL.tab) (W := 1) (Nat.le_of_ble_eq_true rfl) (Nat.le_of_ble_eq_true rfl) (Nat.le_refl _) (by show 0 + len + 0 ≤ len; omega) (g := (mkF m 45 #[.val (.ref a), .val (.ref b), .val (.int (Int32.ofNat o)), .val (.int (Int32.ofNat len)), .val .null, .val (.ref s.heap.size)] [.int (Int32.ofNat N.slots.size), .ref s.heap.size, .ref a])) rfl (by rw [hml]; rfl) c10 (argsL := [.ref s.heap.size, .int (Int32.ofNat N.slots.size)]) (rest := [.ref a]) rfl rfl (by show 2 * 0 + (1 + 0) ≤ _; decide) (hb hbytes d45) (⟨rfl, n1⟩)
  obtain ⟨rfl, q11⟩ := E11
  have hB11 := hB1.mv (X8.warmed.alike.symm.trans X11.warmed.alike) q11
  have c12 : Steps p.tables e below (s₁.setTop (entryFrame m #[.ref a, .ref b, .int (Int32.ofNat o), .int (Int32.ofNat len), .null] 6)) (T11.setTop (mkF m 48 #[.val (.ref a), .val (.ref b), .val (.int (Int32.ofNat o)), .val (.int (Int32.ofNat len)), .val .null, .val (.ref s.heap.size)] [.int 0, .ref a])) := g11
  obtain ⟨T13, X13, p13, bl13, sl13, st13⟩ := X11.finit hexec hown (wk W (.fieldLink "java/lang/String" 15 "java/lang/String" "coder" "B")) (Or.inr ⟨_, (wk W (.laysFinal "java/lang/String" "java/lang/String" "coder" "B"))⟩) (Or.inl ⟨rfl, hnm⟩) f2 (Or.inl rfl) hB11 (t := .byte) (by decide +kernel) rfl (g := (mkF m 48 #[.val (.ref a), .val (.ref b), .val (.int (Int32.ofNat o)), .val (.int (Int32.ofNat len)), .val .null, .val (.ref s.heap.size)] [.int 0, .ref a])) rfl (rest := []) rfl (hb hbytes d48)
  have c14 : Steps p.tables e below (s₁.setTop (entryFrame m #[.ref a, .ref b, .int (Int32.ofNat o), .int (Int32.ofNat len), .null] 6)) (T13.setTop (mkF m 54 #[.val (.ref a), .val (.ref b), .val (.int (Int32.ofNat o)), .val (.int (Int32.ofNat len)), .val .null, .val (.ref s.heap.size)] [.ref s.heap.size, .ref a])) := (c12.trans (st13 _ (Steps.refl _))).trans (by
    refine XS.aloadN X13.here hexec rfl (hb hbytes d51) rfl rfl ?_
    refine XS.aload X13.here hexec rfl (hb hbytes d52) rfl rfl ?_
    exact Steps.refl _)
  obtain ⟨T15, X15, p15, bl15, sl15, st15⟩ := X13.finit hexec hown (wk W (.fieldLink "java/lang/String" 9 "java/lang/String" "value" "[B")) (Or.inr ⟨_, (wk W (.laysFinal "java/lang/String" "java/lang/String" "value" "[B"))⟩) (Or.inl ⟨rfl, hnm⟩) f1 (Or.inl rfl) bl13 (t := (.array .byte)) (by decide +kernel) rfl (g := (mkF m 54 #[.val (.ref a), .val (.ref b), .val (.int (Int32.ofNat o)), .val (.int (Int32.ofNat len)), .val .null, .val (.ref s.heap.size)] [.ref s.heap.size, .ref a])) rfl (rest := []) rfl (hb hbytes d54)
  have c16 : Steps p.tables e below (s₁.setTop (entryFrame m #[.ref a, .ref b, .int (Int32.ofNat o), .int (Int32.ofNat len), .null] 6)) (T15.setTop (mkF m 57 #[.val (.ref a), .val (.ref b), .val (.int (Int32.ofNat o)), .val (.int (Int32.ofNat len)), .val .null, .val (.ref s.heap.size)] [])) := c14.trans (st15 _ (Steps.refl _))
  have ap := apart (Or.inr ⟨_, (wk W (.laysFinal "java/lang/String" "java/lang/String" "value" "[B"))⟩) (Or.inr ⟨_, (wk W (.laysFinal "java/lang/String" "java/lang/String" "coder" "B"))⟩) f1 f2 (t₁ := .array .byte) (t₂ := .byte) (by decide +kernel) (by decide +kernel) (by decide)
  have al := X8.warmed.alike.symm.trans X15.warmed.alike
  have n7 : T11.heap[s.heap.size]? = some N := by rw [q11]; exact n1.1
  exact ⟨T15, none, _, _, _, X15, by simp, rfl, by omega, (fun _ => rfl), ⟨rfl, _, N, bl15, ((Same.refl D _).set _ (by simp)).set _ (by simp), sl15, (Cell.slots_setSlot_ne _ ap).trans sl13, n1.keep al (p15.other hne (p13.other hne n7)), n2, by rw [al.findClass]; exact n3, n4, n5, fun y c h1 h2 => p15.other h1 (p13.other h1 (by rw [q11]; exact n6 y c h2)), by rw [p15.2.2, p13.2.2, q11]; exact z8⟩, fun fs hl => c16.trans (X15.returnOut hexec hret (hb hbytes d57) hl)⟩
end New4
namespace New1
def yN : MethodName := ⟨"java/lang/String", "<init>", "([C)V"⟩
abbrev yB : ByteArray := jdk_42_method_3_code
theorem d0 : decode yB 0 = .ok (.aload_n 0, 1) := by decide +kernel
theorem d1 : decode yB 1 = .ok (.aload_n 1, 1) := by decide +kernel
theorem d2 : decode yB 2 = .ok (.iconst 0, 1) := by decide +kernel
theorem d3 : decode yB 3 = .ok (.aload_n 1, 1) := by decide +kernel
theorem d4 : decode yB 4 = .ok (.arraylength, 1) := by decide +kernel
theorem d5 : decode yB 5 = .ok (.aconst_null, 1) := by decide +kernel
theorem d6 : decode yB 6 = .ok (.invokespecial 27, 3) := by decide +kernel
theorem d9 : decode yB 9 = .ok (.return_, 1) := by decide +kernel
def site : List Cond := [New4.tab] ++ initW "java/lang/String" 27 New4.yN
def tab : Cond := tabOf yN yB 2 none site
def P (a : Addr) (D : Cell) (fV fC : Field) (b : Addr) (A : Cell) (z : Int32) (args : Array Value) (s : State) : Prop := args = #[.ref a, .ref b] ∧ Blank "java/lang/String" a D s ∧ Found "java/lang/String" "value" "[B" fV s ∧ Found "java/lang/String" "coder" "B" fC s ∧ Ch b A s ∧ StaticIs s "java/lang/String" "COMPACT_STRINGS" "Z" (.int z) ∧ ¬ z = 0 ∧ 0 < A.slots.size ∧ A.slots.size ≤ 536870912 ∧ ∀ i, i < A.slots.size → ¬ 255 < cv A i
def E (a : Addr) (D : Cell) (fV fC : Field) (A : Cell) (r : Option Value) (s u : State) : Prop := Got a D fV fC A 0 A.slots.size r s u
/-- new String(chars), not empty, no char above 255: a Latin-1 String of their low bytes -/
theorem law (l : Launch) (a : Addr) (D : Cell) (fV fC : Field) (b : Addr) (A : Cell) (z : Int32) : Law l yN 2 1 3 52 yB 2 none site (P a D fV fC b A z) (E a D fV fC A) [⟨a, fC.slot⟩, ⟨a, fV.slot⟩] 1 A.slots.size := by
  refine Law.of_walk (plainFor_of_name (by decide +kernel)) (by decide +kernel) (by decide +kernel) (by decide) (fun _ _ h => by rw [h.1]; rfl) (fun _ U U' hal hh h => ⟨h.1, h.2.1.mv hal hh, h.2.2.1.al hal, h.2.2.2.1.al hal, h.2.2.2.2.1.mv hal hh, h.2.2.2.2.2.1.there hal hh, h.2.2.2.2.2.2⟩) (fun r U U' V V' h1 hal h2 h => Got.mv r U U' V V' h1 hal h2 h) ?_
  intro p e s m args below meth c s₁ X0 hexec hbytes hml hret hlk hnm hown hh0 W hP
  obtain ⟨rfl, hB, f1, f2, hA, s1, hz, l0, l2, hp⟩ := hP
  have c1 : Steps p.tables e below (s₁.setTop (entryFrame m #[.ref a, .ref b] 2)) (s₁.setTop (mkF m 0 #[.val (.ref a), .val (.ref b)] [])) := entry rfl
  have c2 : Steps p.tables e below (s₁.setTop (entryFrame m #[.ref a, .ref b] 2)) (s₁.setTop (mkF m 6 #[.val (.ref a), .val (.ref b)] [.null, .int (Int32.ofNat A.slots.size), .int 0, .ref b, .ref a])) := c1.trans (by
    refine XS.aloadN X0.here hexec rfl (hb hbytes d0) rfl rfl ?_
    refine XS.aloadN X0.here hexec rfl (hb hbytes d1) rfl rfl ?_
    refine iconstV X0.here hexec rfl 0 (hb hbytes d2) (by decide) ?_
    refine XS.aloadN X0.here hexec rfl (hb hbytes d3) rfl rfl ?_
    refine X0.alen hexec (hA.1.mv X0.warmed.alike hh0) rfl rfl (hb hbytes d4) ?_
    refine XS.aconstNull X0.here hexec rfl (hb hbytes d5) ?_
    exact Steps.refl _)
  obtain ⟨v3, T3, X3, E3, g3⟩ := X0.callN hexec (New4.law l a D fV fC b A z 0 A.slots.size) rfl hown (wks W (initW "java/lang/String" 27 New4.yN)) (W New4.tab (by simp only [site, List.mem_cons, List.mem_append, true_or, or_true])) (W := 0) (Nat.le_of_ble_eq_true rfl) (Nat.le_of_ble_eq_true rfl) (Nat.le_refl _) (by show 0 + A.slots.size ≤ A.slots.size; omega) (g := (mkF m 6 #[.val (.ref a), .val (.ref b)] [.null, .int (Int32.ofNat A.slots.size), .int (Int32.ofNat 0), .ref b, .ref a])) rfl (by rw [hml]; rfl) c2 (argsL := [.ref b, .int (Int32.ofNat 0), .int (Int32.ofNat A.slots.size), .null]) (rest := []) rfl rfl (by show 2 * 0 + 0 ≤ _; decide) (hb hbytes d6) (⟨rfl, hB.mv X0.warmed.alike hh0, f1.al X0.warmed.alike, f2.al X0.warmed.alike, hA.mv X0.warmed.alike hh0, s1.there X0.warmed.alike hh0, hz, l0, by omega, l2, fun i hi => by rw [Nat.zero_add]; exact hp i hi⟩)
  have e0 := Got.mv _ s₁ s _ _ hh0.symm (Vm.Alike.refl _) rfl E3
  obtain rfl := e0.1
  have c4 : Steps p.tables e below (s₁.setTop (entryFrame m #[.ref a, .ref b] 2)) (T3.setTop (mkF m 9 #[.val (.ref a), .val (.ref b)] [])) := g3
  exact ⟨T3, none, _, _, _, X3, by simp, rfl, by omega, (fun _ => rfl), e0, fun fs hl => c4.trans (X3.returnOut hexec hret (hb hbytes d9) hl)⟩
theorem pays {l : Launch} {R : Room} {p : Program} {e : Env} {below : List Frame} {s : State} {sargs : Array Value} {len W : Nat} (a : Addr) (D : Cell) (fV fC : Field) (b : Addr) (A : Cell) (z : Int32) (htab : tab.before sargs s = true) (hfr : 4 ≤ R.frames) (hlo : W + 65 ≤ R.locals) :
    Back l R p e below s sargs yN len W (fun A₁ a₁ => A₁.cells + 1 ≤ R.cells ∧ A₁.slots + A.slots.size ≤ R.slots ∧ P a D fV fC b A z a₁ A₁.U) (fun A₁ _ v₁ B₁ => E a D fV fC A v₁ A₁.U B₁.U ∧ B₁.locs = A₁.locs ++ [⟨a, fC.slot⟩, ⟨a, fV.slot⟩] ∧ B₁.cells = A₁.cells + 1 ∧ B₁.slots = A₁.slots + A.slots.size) :=
  (law l a D fV fC b A z).pays htab hfr (by omega)
end New1
end StrChars
namespace StrChars.Road
open Jvm Sem ClassFile Op Lib Jvm.Stand Jvm.Free Jvm.Free.XT
open Jvm.Lib.Cold (StaticIs)
abbrev ST : String := "java/lang/String"
/-- every table word that New1's law asks, flat -/
abbrev words : List Jvm.Cond := [.code New1.yN New1.yB 2 none, .initialized ST, .methodLink ST 27 New4.yN, .instanceMethod New4.yN,
  .code New4.yN New4.yB 6 none, .fieldLink ST 38 ST "COMPACT_STRINGS" "Z", .laysFinal ST ST "value" "[B", .fieldLink ST 9 ST "value" "[B", .laysFinal ST ST "coder" "B", .fieldLink ST 15 ST "coder" "B",
  .methodLink ST 1 Lib.objectInit, .instanceMethod Lib.objectInit, .code Lib.objectInit ⟨#[0xb1]⟩ 1 none, .methodLink ST 177 Cmp3.yN, .static Cmp3.yN, .methodLink ST 47 CodL.yN, .static CodL.yN,
  .code Cmp3.yN Cmp3.yB 6 (some (.array .byte)), .initialized U16, .arrayClass .byte, .methodLink U16 115 Cmp5.yN, .static Cmp5.yN, .code Cmp5.yN Cmp5.yB 7 (some .int), .code CodL.yN CodL.yB 2 (some .byte)]
theorem tab_of {a : Array Value} {s : State} (h : ∀ w ∈ words, w.before a s = true) : New1.tab.before a s = true := by
  have h5 : Cmp5.tab.before a s = true := unparts (wk h (.code Cmp5.yN Cmp5.yB 7 (some .int))) (wks h (.initialized Cmp5.yN.cls :: Cmp5.site))
  have hc : CodL.tab.before a s = true := unparts (wk h (.code CodL.yN CodL.yB 2 (some .byte))) (wks h (.initialized CodL.yN.cls :: CodL.site))
  have q5 : ∀ w ∈ Cmp5.tab :: words, w.before a s = true := fun w hw => (List.mem_cons.mp hw).elim (fun e => e ▸ h5) (h w)
  have h3 : Cmp3.tab.before a s = true := unparts (wk q5 (.code Cmp3.yN Cmp3.yB 6 (some (.array .byte)))) (wks q5 (.initialized Cmp3.yN.cls :: Cmp3.site))
  have q3 : ∀ w ∈ Cmp3.tab :: CodL.tab :: words, w.before a s = true := fun w hw => (List.mem_cons.mp hw).elim (fun e => e ▸ h3) fun hw => (List.mem_cons.mp hw).elim (fun e => e ▸ hc) (h w)
  have h4 : New4.tab.before a s = true := unparts (wk q3 (.code New4.yN New4.yB 6 none)) (wks q3 (.initialized New4.yN.cls :: New4.site))
  have q4 : ∀ w ∈ New4.tab :: words, w.before a s = true := fun w hw => (List.mem_cons.mp hw).elim (fun e => e ▸ h4) (h w)
  exact unparts (wk q4 (.code New1.yN New1.yB 2 none)) (wks q4 (.initialized New1.yN.cls :: New1.site))
/-- the words ride from the start Z to the walk's own state -/
theorem moved {Z s : State} {a0 args : Array Value} (hZ : Z.Warmed39 s.vm) (hw : ∀ d ∈ words, d.before a0 Z = true) : ∀ d ∈ words, d.before args s = true := fun d hd => by
  have q := hw d hd
  have t : ∀ d ∈ words, d = .arrayClass .byte ∨ (d.onTables && d.keepsFace) = true := by decide +kernel
  rcases t d hd with rfl | t
  · exact RoadKit.mvA hZ q
  · exact RoadKit.mv hZ q t
/-- WHAT COMES BACK, over the tables of the start Z: h the heap at the call, h' behind it -/
def Q (Z : State) (x : Addr) (A : Cell) (h : Heap) (v : Option Value) (h' : Heap) (L : List Loc) : Prop := v = none ∧ (∀ y ∈ L, y.base = x) ∧ RoadKit.Keep h h' [x] ∧ h'.size = h.size + 1 ∧ RoadKit.Exa Z h' x ST ∧ RoadKit.Fld Z h' x ST "value" "[B" (.ref h.size) ∧ RoadKit.Fld Z h' x ST "coder" "B" (.int 0) ∧
  (∃ V : Cell, RoadKit.Arr Z h' h.size V .byte ∧ V.vm = .none ∧ Z.vm.findClass "[B" = some V.cls ∧ V.slots.size = A.slots.size ∧ ∀ j, j < A.slots.size → V.slots[j]? = some (.int (lo8 (cv A j)))) ∧
  ∀ (O n d : String) (w : Value), RoadKit.Fld Z h x O n d w → RoadKit.slotOf Z O n d ≠ RoadKit.slotOf Z ST "value" "[B" → RoadKit.slotOf Z O n d ≠ RoadKit.slotOf Z ST "coder" "B" → RoadKit.Fld Z h' x O n d w
/-- **new String(chars) AT A CALL, IN THE ROAD'S FORM**: for specialBack behind newO: x the fresh String, b the char[] with the cell A -/
theorem back {p : Program} {l : Launch} {e : Env} {R : Room} {s : State} {args : Array Value} {below : List Frame} {len W : Nat} {Z : State} {a0 : Array Value} {h : Heap} (hZ : Z.Warmed39 s.vm) (hw : ∀ d ∈ words, d.before a0 Z = true) {kI : Nat} (wi : (Jvm.Cond.instantiable ST kI).before a0 Z = true)
    {x b : Addr} {A : Cell} {z : Int32} {v0 c0 : Value} (E : RoadKit.Exa Z h x ST) (V : RoadKit.Fld Z h x ST "value" "[B" v0) (C : RoadKit.Fld Z h x ST "coder" "B" c0) (K : RoadKit.Arr Z h b A .char) (hty : Typed .char A) (S : RoadKit.Sta Z h ST "COMPACT_STRINGS" "Z" (.int z)) (hz : ¬ z = 0)
    (l0 : 0 < A.slots.size) (l2 : A.slots.size ≤ 536870912) (hp : ∀ i, i < A.slots.size → ¬ 255 < cv A i) (hfr : 4 ≤ R.frames) (hlo : W + 65 ≤ R.locals) :
    Back l R p e below s args New1.yN len W (fun P a => a = #[.ref x, .ref b] ∧ P.U.heap = h ∧ P.cells + 1 ≤ R.cells ∧ P.slots + A.slots.size ≤ R.slots)
      (fun P _ v B => ∃ L, Q Z x A h v B.U.heap L ∧ B.locs = P.locs ++ L ∧ B.cells = P.cells + 1 ∧ B.slots = P.slots + A.slots.size) := by
  intro m meth c P g ig mk a X hg hsize hdg hW hn hp'
  obtain ⟨rfl, rfl, r1, r2⟩ := hp'
  have al : Z.vm.Alike P.U.vm := hZ.alike.trans X.warmed.alike
  obtain ⟨D, cfV, kV, iV, fV, hD, gV, stV, knV, obV, asV, slV⟩ := id V
  obtain ⟨D', cfC, kC, iC, fC, hD', gC, stC, -, -, asC, slC⟩ := id C
  cases hD.symm.trans hD'
  obtain ⟨D2, kD, e1, e2, e3, e4, e5⟩ := id E
  cases hD.symm.trans e1
  obtain ⟨c2, k2, i1, i2, i3, -⟩ := Cond.instantiable_spec wi
  cases e2.symm.trans i1
  cases e3.symm.trans i2
  obtain ⟨kU, u1, u2⟩ := al.2.2 _ _ e3
  have hB : Blank ST x D P.U := ⟨hD, ⟨knV, fun q hq => by rw [hq] at obV; cases obV⟩, by rw [al.findClass]; exact e2, kU, u1, by rw [u2]; exact i3, by rw [u2]; exact e5 i3⟩
  have F1 : Found ST "value" "[B" fV P.U := ⟨SBG.found_only al ⟨cfV, kV, iV, gV⟩, stV⟩
  have F2 : Found ST "coder" "B" fC P.U := ⟨SBG.found_only al ⟨cfC, kC, iC, gC⟩, stC⟩
  have hA : Ch b A P.U := ⟨⟨K.1, State.isArrayOf_alike al K.2.1, K.2.2, by omega⟩, hty⟩
  have hS : StaticIs P.U ST "COMPACT_STRINGS" "Z" (.int z) := by
    obtain ⟨cfS, iS, kS, fS, st, cS, t1, t2, t3, t4, t5, t6, t7⟩ := S
    exact StaticIs.there (s := { Z with heap := P.U.heap }) ⟨cfS, iS, kS, fS, st, cS, t1, t2, t3, t4, t5, (fun q => by rw [q] at t6; cases t6), t7⟩ al rfl
  obtain ⟨v, B, X', ⟨⟨hv, E', V', q1, q2, q3, q4, q5, q6, q7, q8, q9, q10, q11⟩, hl, hc, hs⟩, st⟩ := New1.pays x D fV fC b A z (tab_of (moved hZ hw)) hfr hlo m meth c P g ig mk _ X hg hsize hdg hW hn ⟨r1, r2, rfl, hB, F1, F2, hA, hS, hz, l0, l2, hp⟩
  have al' : Z.vm.Alike B.U.vm := hZ.alike.trans X'.warmed.alike
  have hsz : E'.slots.size = D.slots.size := by
    obtain ⟨-, -, -, kB, w1, w2, w3⟩ := q1
    obtain ⟨kB', y1, y2⟩ := al'.2.2 _ _ e3
    rw [q2.2.1] at w1
    cases w1.symm.trans y1
    rw [w3, e5 i3, y2]
  refine ⟨v, B, X', ⟨_, ⟨hv, ?_, ⟨by omega, fun y cy hy hn' => q10 y cy (by simpa using hn') hy, fun y cy hy => ?_⟩, q11, ⟨E', _, q1.1, by rw [q2.2.1]; exact e2, by rw [q2.2.1]; exact e3, by rw [q2.1]; exact obV, fun _ => by rw [hsz]; exact e5 i3⟩,
    ⟨E', cfV, kV, iV, fV, q1.1, gV, stV, by rw [q2.1]; exact knV, by rw [q2.1]; exact obV, by rw [q2.2.1]; exact asV, q3⟩, ⟨E', cfC, kC, iC, fC, q1.1, gC, stC, by rw [q2.1]; exact knV, by rw [q2.1]; exact obV, by rw [q2.2.1]; exact asC, q4⟩,
    ⟨V', ⟨q5.1, State.isArrayOf_alike al'.symm q5.2.1, q5.2.2.1⟩, q6, by rw [← al'.findClass]; exact q7, q8, fun j hj => by have := q9 j hj; rwa [Nat.zero_add] at this⟩, fun O n d w F n1 n2 => ?_⟩, hl, hc, hs⟩, st⟩
  · intro y hy
    simp only [List.mem_cons, List.not_mem_nil, or_false] at hy
    rcases hy with rfl | rfl <;> rfl
  · by_cases q : y = x
    · subst q
      cases hD.symm.trans hy
      exact ⟨E', q1.1, q2.2.1, q2.1, hsz⟩
    · exact ⟨cy, q10 y cy q hy, rfl, rfl, rfl⟩
  · obtain ⟨D3, cf, k, i, f, g1, g2, g3, g4, g5, g6, g7⟩ := F
    cases hD.symm.trans g1
    simp only [RoadKit.slotOf, g2, gV, gC, Option.map_some, Option.getD_some] at n1 n2
    exact ⟨E', cf, k, i, f, q1.1, g2, g3, by rw [q2.1]; exact g4, by rw [q2.1]; exact g5, by rw [q2.2.1]; exact g6, by rw [q2.2.2 f.slot (by simp [n1, n2])]; exact g7⟩
end StrChars.Road
namespace StrChars.Road
open Jvm Sem ClassFile Op Lib Jvm.Stand Jvm.Free Jvm.Free.XT
/-- WHAT COMES BACK, the byte[] as a list of values -/
def QA (Z : State) (x : Addr) (zn : Int32) (cs : List Int32) (h : Heap) (v : Option Value) (h' : Heap) (L : List Loc) : Prop := v = none ∧ (∀ y ∈ L, y.base = x) ∧ RoadKit.Keep h h' [x] ∧ h'.size = h.size + 1 ∧ RoadKit.Exa Z h' x ST ∧ RoadKit.Fld Z h' x ST "value" "[B" (.ref h.size) ∧ RoadKit.Fld Z h' x ST "coder" "B" (.int 0) ∧
  (∃ kb, Z.vm.findClass "[B" = some kb ∧ RoadKit.Arv Z h' h.size kb .byte zn (cs.map fun c => .int (lo8 c)) (.int 0)) ∧
  ∀ (O n d : String) (w : Value), RoadKit.Fld Z h x O n d w → RoadKit.slotOf Z O n d ≠ RoadKit.slotOf Z ST "value" "[B" → RoadKit.slotOf Z O n d ≠ RoadKit.slotOf Z ST "coder" "B" → RoadKit.Fld Z h' x O n d w
/-- **new String(chars) AT A CALL, THE ARRAYS AS LISTS**: the char[] at b holds cs, not empty, no char above 255 -/
theorem backArv {p : Program} {l : Launch} {e : Env} {R : Room} {s : State} {args : Array Value} {below : List Frame} {len W : Nat} {Z : State} {a0 : Array Value} {h : Heap} (hZ : Z.Warmed39 s.vm) (hw : ∀ d ∈ words, d.before a0 Z = true) {kI : Nat} (wi : (Jvm.Cond.instantiable ST kI).before a0 Z = true)
    {x b : Addr} {k : ClassId} {zn z : Int32} {cs : List Int32} {dv v0 c0 : Value} (E : RoadKit.Exa Z h x ST) (V : RoadKit.Fld Z h x ST "value" "[B" v0) (C : RoadKit.Fld Z h x ST "coder" "B" c0) (K : RoadKit.Arv Z h b k .char zn (cs.map Value.int) dv) (S : RoadKit.Sta Z h ST "COMPACT_STRINGS" "Z" (.int z)) (hz : ¬ z = 0)
    (hlen : zn.toNatClampNeg = cs.length) (h0 : 0 < cs.length) (hbig : cs.length ≤ 536870912) (hall : ∀ c ∈ cs, ¬ 255 < c) (hfr : 4 ≤ R.frames) (hlo : W + 65 ≤ R.locals) :
    Back l R p e below s args New1.yN len W (fun P a => a = #[.ref x, .ref b] ∧ P.U.heap = h ∧ P.cells + 1 ≤ R.cells ∧ P.slots + cs.length ≤ R.slots)
      (fun P _ v B => ∃ L, QA Z x zn cs h v B.U.heap L ∧ B.locs = P.locs ++ L ∧ B.cells = P.cells + 1 ∧ B.slots = P.slots + cs.length) := by
  obtain ⟨A, K1, K2, K3, K4, K5, K6⟩ := K
  have e : A.slots.size = cs.length := K3.trans hlen
  have hat : ∀ (i : Nat) (hi : i < cs.length), A.slots[i]? = some (.int cs[i]) := fun i hi => by rw [K5 i (by omega)]; simp [List.getD_eq_getElem?_getD, hi]
  have hcv : ∀ (i : Nat) (hi : i < cs.length), cv A i = cs[i] := fun i hi => by unfold cv; rw [hat i hi]
  have hty : Typed .char A := fun i v hv => by
    have hi : i < A.slots.size := (Array.getElem?_eq_some_iff.mp hv).1
    have q := K5 i hi
    rw [hv] at q
    rw [Option.some.inj q]
    exact K6 i hi
  refine Back.mono (back hZ hw wi E V C K1 hty S hz (by omega) (by omega) (fun i hi => by rw [hcv i (by omega)]; exact hall _ (List.getElem_mem _)) hfr hlo) (fun P a hp => ⟨hp.1, hp.2.1, hp.2.2.1, by rw [e]; exact hp.2.2.2⟩) (fun P a v B hp hq => ?_)
  obtain ⟨L, ⟨q1, q2, q3, q4, q5, q6, q7, ⟨V', v1, v2, v3, v4, v5⟩, q9⟩, hl, hc, hs⟩ := hq
  refine ⟨L, ⟨q1, q2, q3, q4, q5, q6, q7, ⟨V'.cls, v3, V', v1, rfl, by rw [v4, e, hlen], K4, fun i hi => ?_, fun i hi => ?_⟩, q9⟩, hl, hc, by rw [hs, e]⟩
  · have hi' : i < cs.length := by omega
    rw [v5 i (by omega), hcv i hi']; simp [List.getD_eq_getElem?_getD, hi']
  · have hi' : i < cs.length := by omega
    simp only [List.getD_eq_getElem?_getD, List.getElem?_map, List.getElem?_eq_getElem hi', Option.map_some, Option.getD_some]
    exact fits_lo8 _
end StrChars.Road
namespace StrChars.Road
open Jvm Sem ClassFile Op Lib Jvm.Stand Jvm.Free Jvm.Free.XT
/-- WHAT COMES BACK, in the writer's own shape -/
def QV (Z : State) (x : Addr) (N : Int32) (bs : List Int32) (h : Heap) (n0 : Nat) (v : Option Value) (h' : Heap) (L : List Loc) : Prop := v = none ∧ RoadKit.Fr n0 L ∧ RoadKit.Keep h h' [x] ∧ RoadKit.Exa Z h' x ST ∧ RoadKit.Fld Z h' x ST "coder" "B" (.int 0) ∧
  ∃ (t : Addr) (kb : ClassId), n0 ≤ t ∧ h.size ≤ t ∧ ¬ t = x ∧ RoadKit.Fld Z h' x ST "value" "[B" (.ref t) ∧ RoadKit.Arv Z h' t kb .byte N (bs.map Value.int) (.int 0)
/-- **new String(chars) AT A CALL, FOR THE WRITER**: a char[] of n known ints, each 0 to 255 -/
theorem backV {p : Program} {l : Launch} {e : Env} {R : Room} {s : State} {args : Array Value} {below : List Frame} {len W : Nat} {Z : State} {a0 : Array Value} {h : Heap} (hZ : Z.Warmed39 s.vm) (hw : ∀ d ∈ words, d.before a0 Z = true) {kI : Nat} (wi : (Jvm.Cond.instantiable ST kI).before a0 Z = true)
    {x b : Addr} {kC : ClassId} {cs bs : List Int32} {d v0 c0 : Value} {z N : Int32} {n n0 : Nat} (hx0 : n0 ≤ x) (hh0 : n0 ≤ h.size) (E : RoadKit.Exa Z h x ST) (V : RoadKit.Fld Z h x ST "value" "[B" v0) (C : RoadKit.Fld Z h x ST "coder" "B" c0) (K : RoadKit.Arv Z h b kC .char N (cs.map Value.int) d) (S : RoadKit.Sta Z h ST "COMPACT_STRINGS" "Z" (.int z)) (hz : ¬ z = 0)
    (hn : cs.length = n) (hN : N = Int32.ofNat n) (l0 : 0 < n) (l2 : n ≤ 4000) (hp : ∀ c ∈ cs, ¬ c < 0 ∧ ¬ (255 : Int32) < c) (hb : bs = cs.map (fun c => c.toInt8.toInt32)) (hfr : 4 ≤ R.frames) (hlo : W + 65 ≤ R.locals) :
    Back l R p e below s args (⟨"java/lang/String", "<init>", "([C)V"⟩ : MethodName) len W (fun P a => a = #[.ref x, .ref b] ∧ P.U.heap = h ∧ P.cells + 1 ≤ R.cells ∧ P.slots + n ≤ R.slots)
      (fun P _ v B => ∃ L, QV Z x N bs h n0 v B.U.heap L ∧ B.locs = P.locs ++ L ∧ B.cells = P.cells + 1 ∧ B.slots = P.slots + n) := by
  subst hn hN hb
  refine Back.mono (backArv hZ hw wi E V C K S hz (n32 (by omega)) l0 (by omega) (fun c hc => (hp c hc).2) hfr hlo) (fun P a hp => hp) (fun P a v B hp hq => ?_)
  obtain ⟨L, ⟨q1, q2, q3, q4, q5, q6, q7, ⟨kb, v1, v2⟩, q9⟩, hl, hc, hs⟩ := hq
  exact ⟨L, ⟨q1, fun y hy => by rw [q2 y hy]; exact hx0, q3, q5, q7, h.size, kb, hh0, Nat.le_refl _, Nat.ne_of_gt E.lt, q6, by rw [List.map_map]; exact v2⟩, hl, hc, hs⟩
end StrChars.Road
end Jvm.Pilot.@@N@@
namespace Jvm.Pilot.@@N@@
open Jvm Jvm.ClassFile Sem Op Lib Jvm.Free Jvm.Stand Jvm.LawKit Jvm.RoadKit Bundle Jvm.Own Jvm.Pilot.@@N@@.Jvm.D
section
variable {p : Program} {l : Launch} {e : Env} {R : Room} {s : State} {m : MethodId} {args : Array Value} {below : List Frame} {meth : Method} {c : Code} {Z : State} {a0 : Array Value} {EL : List (String × Nat)} {Sf : List Addr} {h h' : Heap} {k n k' n' : Nat} {Q : Option Value → Heap → Prop} {code : ByteArray} {ml : Nat} {own nm : String} {ret : Option FieldType} {pc pc' : Nat} {Ls : Array Slot} {St rest : List Value} {idx W : Nat}
theorem strWords (hw : ∀ d ∈ tables_1, d.before a0 Z = true) : ∀ d ∈ StrChars.Road.words, d.before a0 Z = true := fun d hd => hw d ((by decide +kernel : ∀ d ∈ StrChars.Road.words, d ∈ tables_1) d hd)
/-- the call of String.<init>([C) on the fresh object x -/
theorem Go.strInit (hw : ∀ d ∈ tables_1, d.before a0 Z = true) (C : Cx p s m meth c code ml ret nm own Z a0 EL) {x b : Addr} {kC : ClassId} {cs : List Int32} {d v0 c0 : Value} {z N : Int32} {nn kI : Nat} (hx0 : Z.heap.size ≤ x) (hsf : x ∈ Sf) (E : Exa Z h x "java/lang/String") (V : Fld Z h x "java/lang/String" "value" "[B" v0) (Cd : Fld Z h x "java/lang/String" "coder" "B" c0)
    (Ka : Arv Z h b kC .char N (cs.map Value.int) d) (S : Sta Z Z.heap "java/lang/String" "COMPACT_STRINGS" "Z" (.int z)) (hz : ¬ z = 0) (hn : cs.length = nn) (hN : N = Int32.ofNat nn) (l0 : 0 < nn) (l2 : nn ≤ 4000) (hpr : ∀ c ∈ cs, ¬ c < 0 ∧ ¬ (255 : Int32) < c)
    (wI : (Jvm.Cond.instantiable "java/lang/String" kI).before a0 Z = true) (wl : (Jvm.Cond.methodLink own idx ⟨"java/lang/String", "<init>", "([C)V"⟩).before a0 Z = true) (wi : (Jvm.Cond.instanceMethod ⟨"java/lang/String", "<init>", "([C)V"⟩).before a0 Z = true)
    (hd : decode code pc = .ok (.invokespecial idx, 3)) (hp : pc + 3 = pc') (hs : Ls.size = ml) (hW : (rest.map fun v => v.category).sum ≤ W) (hf : 4 ≤ R.frames) (hlo : W + 65 ≤ R.locals) (hk : k + 1 = k') (hnn : n + nn = n') (hc : k' ≤ R.cells) (hsl : n' ≤ R.slots)
    (K : ∀ h', Keep h h' [x] → Str Z h' x cs → Go p l e R s m args below meth c own Z EL Sf Q h' k' n' (mkF m pc' Ls rest)) : Go p l e R s m args below meth c own Z EL Sf Q h k n (mkF m pc Ls (.ref b :: .ref x :: rest)) := by
  have hws := strWords hw
  refine Go.specialB C (a := x) (Q' := fun v h' => v = none ∧ Keep h h' [x] ∧ Str Z h' x cs) (fun s' hZ hE => StrChars.Road.backV (W := W) (n0 := Z.heap.size) hZ hws wI hx0 hE.1 E V Cd Ka (S.ext hE) hz hn hN l0 l2 hpr (bs := cs.map fun c => c.toInt8.toInt32) rfl hf hlo) ?_ rfl wl wi (hws _ (List.mem_cons_self ..)) (by decide) (ps := [.array .char]) (rt := none) (by decide +kernel) (argsL := [.ref b]) (rest := rest) rfl rfl hd hp hs rfl hW hk hnn hc hsl ?_
  · rintro v h' L hE ⟨rfl, hF, hK, hEx, hCo, t, kb, ht, ht2, hne, hV, hA⟩
    refine ⟨⟨rfl, hK, t, kb, hne, hEx, hCo, hV, ?_, hpr, by omega⟩, hF, [x], hK, allS hx0 all0, allS hsf all0⟩
    rw [hn, ← hN]; exact hA
  · rintro v h' ⟨rfl, hK, hS⟩
    exact K h' hK hS
end
end Jvm.Pilot.@@N@@
namespace Jvm.Pilot.@@N@@
open Jvm Jvm.ClassFile Sem Op Lib Jvm.Free Jvm.Stand Jvm.LawKit Jvm.RoadKit Bundle Jvm.Own Jvm.Pilot.@@N@@.Jvm.D
theorem pd_0 : parseMethodDescriptor "([CIILjava/lang/Void;)V" = some ⟨[(.array .char), .int, .int, (.object "java/lang/Void")], none⟩ := by decide +kernel
theorem pd_1 : parseMethodDescriptor "(Ljava/lang/Object;)Ljava/lang/Object;" = some ⟨[(.object "java/lang/Object")], some (.object "java/lang/Object")⟩ := by decide +kernel
theorem pd_2 : parseMethodDescriptor "(I)Lcom/example/tenderbook/tenderbook/model/CallFailure;" = some ⟨[.int], some (.object "com/example/tenderbook/tenderbook/model/CallFailure")⟩ := by decide +kernel
theorem pd_3 : parseMethodDescriptor "(Ljava/lang/String;Lcom/example/tenderbook/tenderbook/model/CallFailure;Ljava/lang/String;)V" = some ⟨[(.object "java/lang/String"), (.object "com/example/tenderbook/tenderbook/model/CallFailure"), (.object "java/lang/String")], none⟩ := by decide +kernel
theorem pd_4 : parseMethodDescriptor "()Z" = some ⟨[], some .boolean⟩ := by decide +kernel
theorem pd_5 : parseMethodDescriptor "([C)V" = some ⟨[(.array .char)], none⟩ := by decide +kernel
theorem mod6 (x : Int32) : ((x &&& (2147483647 : Int32)) % (6 : Int32)) = 0 ∨ ((x &&& (2147483647 : Int32)) % (6 : Int32)) = 1 ∨ ((x &&& (2147483647 : Int32)) % (6 : Int32)) = 2 ∨ ((x &&& (2147483647 : Int32)) % (6 : Int32)) = 3 ∨ ((x &&& (2147483647 : Int32)) % (6 : Int32)) = 4 ∨ ((x &&& (2147483647 : Int32)) % (6 : Int32)) = 5 := by
  have h1 := c_mask x 2147483647 31 (by decide) (by decide)
  have h2 := (c_irem (x &&& 2147483647) 6 6 (by decide)).1 (by rw [h1]; omega)
  have e0 : (0 : Int32).toInt = 0 := rfl
  have e1 : (1 : Int32).toInt = 1 := rfl
  have e2 : (2 : Int32).toInt = 2 := rfl
  have e3 : (3 : Int32).toInt = 3 := rfl
  have e4 : (4 : Int32).toInt = 4 := rfl
  have e5 : (5 : Int32).toInt = 5 := rfl
  simp only [← Int32.toInt_inj, e0, e1, e2, e3, e4, e5]
  omega
theorem eq_I0 {args : Array Value} {first s : State} {o : Option Outcome} {idx : List Nat} {t : Term} {z : Int32} (h : t.eval args first o idx s = some (.int z)) : (Jvm.Cond.eq t (.int 0)).value args first o s idx = some (decide (z = 0)) := by
  have e2 : (Term.int 0).eval args first o idx s = some (.int 0) := Term.int_eval 0
  simp [Jvm.Cond.value, h, e2]
theorem sAtoms {Z : State} {a0 : Array Value} (hw : ∀ d ∈ tables_1, d.before a0 Z = true) : ∀ a ∈ Bundle.stringAtoms, a.before a0 Z = true := fun d hd => hw d ((by decide +kernel : ∀ d ∈ Bundle.stringAtoms, d ∈ tables_1) d hd)
theorem two_rng (x y : Int32) : ∀ c ∈ [x &&& (255 : Int32), y &&& (255 : Int32)], ¬ c < 0 ∧ ¬ (255 : Int32) < c := by
  intro c hc
  simp only [List.mem_cons, List.not_mem_nil, or_false] at hc
  rcases hc with rfl | rfl <;> exact mask_rng _
theorem one_rng (x : Int32) : ∀ c ∈ [x &&& (255 : Int32)], ¬ c < 0 ∧ ¬ (255 : Int32) < c := by
  intro c hc
  simp only [List.mem_cons, List.not_mem_nil, or_false] at hc
  subst hc; exact mask_rng _
theorem d_pick_0 : decode method_2_code 0 = .ok (.iload_n 0, 1) := by decide +kernel
theorem d_pick_1 : decode method_2_code 1 = .ok (.iconst 1, 1) := by decide +kernel
theorem d_pick_2 : decode method_2_code 2 = .ok (.if_icmp .ne 7, 3) := by decide +kernel
theorem d_pick_5 : decode method_2_code 5 = .ok (.getstatic 7, 3) := by decide +kernel
theorem d_pick_8 : decode method_2_code 8 = .ok (.areturn, 1) := by decide +kernel
theorem d_pick_9 : decode method_2_code 9 = .ok (.iload_n 0, 1) := by decide +kernel
theorem d_pick_10 : decode method_2_code 10 = .ok (.iconst 2, 1) := by decide +kernel
theorem d_pick_11 : decode method_2_code 11 = .ok (.if_icmp .ne 7, 3) := by decide +kernel
theorem d_pick_14 : decode method_2_code 14 = .ok (.getstatic 13, 3) := by decide +kernel
theorem d_pick_17 : decode method_2_code 17 = .ok (.areturn, 1) := by decide +kernel
theorem d_pick_18 : decode method_2_code 18 = .ok (.iload_n 0, 1) := by decide +kernel
theorem d_pick_19 : decode method_2_code 19 = .ok (.iconst 3, 1) := by decide +kernel
theorem d_pick_20 : decode method_2_code 20 = .ok (.if_icmp .ne 7, 3) := by decide +kernel
theorem d_pick_23 : decode method_2_code 23 = .ok (.getstatic 16, 3) := by decide +kernel
theorem d_pick_26 : decode method_2_code 26 = .ok (.areturn, 1) := by decide +kernel
theorem d_pick_27 : decode method_2_code 27 = .ok (.iload_n 0, 1) := by decide +kernel
theorem d_pick_28 : decode method_2_code 28 = .ok (.iconst 4, 1) := by decide +kernel
theorem d_pick_29 : decode method_2_code 29 = .ok (.if_icmp .ne 7, 3) := by decide +kernel
theorem d_pick_32 : decode method_2_code 32 = .ok (.getstatic 19, 3) := by decide +kernel
theorem d_pick_35 : decode method_2_code 35 = .ok (.areturn, 1) := by decide +kernel
theorem d_pick_36 : decode method_2_code 36 = .ok (.iload_n 0, 1) := by decide +kernel
theorem d_pick_37 : decode method_2_code 37 = .ok (.iconst 5, 1) := by decide +kernel
theorem d_pick_38 : decode method_2_code 38 = .ok (.if_icmp .ne 7, 3) := by decide +kernel
theorem d_pick_41 : decode method_2_code 41 = .ok (.getstatic 22, 3) := by decide +kernel
theorem d_pick_44 : decode method_2_code 44 = .ok (.areturn, 1) := by decide +kernel
theorem d_pick_45 : decode method_2_code 45 = .ok (.aconst_null, 1) := by decide +kernel
theorem d_pick_46 : decode method_2_code 46 = .ok (.areturn, 1) := by decide +kernel
theorem pn_pick : plainName "com/example/tenderbook/tenderbook/model/CallIsAwaitedPinLaw" = true := by first | (simp [plainName, overriddenIn]; done) | decide +kernel
theorem ef_pick (m : MethodId) (x0 : Int32)  : entryFrame m #[(.int x0)] 1 = mkF m 0 #[.val (.int x0)] [] := by first | (simp [entryFrame, mkF, argsToLocals, Value.category]; done) | rfl
set_option maxRecDepth 65536 in
set_option maxHeartbeats 40000000 in
theorem P_pick (l : Launch) (Z : State) (a0 : Array Value) (hw : ∀ d ∈ tables_1, d.before a0 Z = true) (hEL : EW Z a0 consts_1) (kk : Int32) (c0 c1 c2 c3 c4 : Addr) (h0 : Heap) (S0 : Sta Z Z.heap "com/example/tenderbook/tenderbook/model/CallFailure" "NOT_SENT" "Lcom/example/tenderbook/tenderbook/model/CallFailure;" (.ref c0)) (S1 : Sta Z Z.heap "com/example/tenderbook/tenderbook/model/CallFailure" "TIMEOUT" "Lcom/example/tenderbook/tenderbook/model/CallFailure;" (.ref c1)) (S2 : Sta Z Z.heap "com/example/tenderbook/tenderbook/model/CallFailure" "ERROR_STATUS" "Lcom/example/tenderbook/tenderbook/model/CallFailure;" (.ref c2)) (S3 : Sta Z Z.heap "com/example/tenderbook/tenderbook/model/CallFailure" "UNREADABLE_ANSWER" "Lcom/example/tenderbook/tenderbook/model/CallFailure;" (.ref c3)) (S4 : Sta Z Z.heap "com/example/tenderbook/tenderbook/model/CallFailure" "INTERRUPTED" "Lcom/example/tenderbook/tenderbook/model/CallFailure;" (.ref c4)) :
    Pays l Z consts_1 [] (⟨"com/example/tenderbook/tenderbook/model/CallIsAwaitedPinLaw", "pickReason", "(I)Lcom/example/tenderbook/tenderbook/model/CallFailure;"⟩ : MethodName) method_2_code 1 (some (.object "com/example/tenderbook/tenderbook/model/CallFailure")) ({ frames := 0, cells := 0, slots := 0, locals := 0 } : Room) #[(.int kk)] h0 (fun v h => ∃ r : Value, v = some r ∧ h0 = h ∧ ((r = .null ∧ ¬ kk = (1 : Int32) ∧ ¬ kk = (2 : Int32) ∧ ¬ kk = (3 : Int32) ∧ ¬ kk = (4 : Int32) ∧ ¬ kk = (5 : Int32)) ∨ (∃ x, r = .ref x ∧ ¬ kk = (0 : Int32)))) := by
  refine pays_of_go hEL (plainFor_of_name pn_pick) (fun m => ef_pick m kk) ?_
  intro p e s m below meth c C0
  have C : Cx p s m meth c method_2_code 1 (some (.object "com/example/tenderbook/tenderbook/model/CallFailure")) "pickReason" "com/example/tenderbook/tenderbook/model/CallIsAwaitedPinLaw" Z a0 consts_1 := C0
  show Go p l e ({ frames := 0, cells := 0, slots := 0, locals := 0 } : Room) s m #[(.int kk)] below meth c "com/example/tenderbook/tenderbook/model/CallIsAwaitedPinLaw" Z consts_1 [] (fun v h => ∃ r : Value, v = some r ∧ h0 = h ∧ ((r = .null ∧ ¬ kk = (1 : Int32) ∧ ¬ kk = (2 : Int32) ∧ ¬ kk = (3 : Int32) ∧ ¬ kk = (4 : Int32) ∧ ¬ kk = (5 : Int32)) ∨ (∃ x, r = .ref x ∧ ¬ kk = (0 : Int32)))) h0 0 0 (mkF m 0 #[.val (.int kk)] [])
  refine Go.plain (g' := (mkF m 1 #[.val (.int kk)] [(.int kk)])) (fun s_ T_ L_ X_ t_ q_ => XS.iloadN X_.here C.hx rfl (C.d d_pick_0) rfl q_) ?_
  refine Go.plain (g' := (mkF m 2 #[.val (.int kk)] [(.int (1 : Int32)), (.int kk)])) (fun s_ T_ L_ X_ t_ q_ => XS.iconst X_.here C.hx rfl (C.d d_pick_1) q_) ?_
  by_cases hk0 : kk = (1 : Int32)
  · refine Go.plain (g' := (mkF m 5 #[.val (.int kk)] [])) (fun s_ T_ L_ X_ t_ q_ => XS.icmpNo X_.here C.hx rfl (C.d d_pick_2) rfl (teq hk0).2 q_) ?_
    refine Go.getS C (host := "") (Or.inl (hw _ (List.mem_of_getElem? (i := 58) rfl))) Via.refl S0 d_pick_5 (pc' := 8) rfl ?_
    exact Go.retA C rfl rfl rfl d_pick_8 (by decide) (by decide) ⟨_, rfl, rfl, Or.inr ⟨c0, rfl, by rw [hk0]; decide⟩⟩
  refine Go.plain (g' := (mkF m 9 #[.val (.int kk)] [])) (fun s_ T_ L_ X_ t_ q_ => XS.icmpYes X_.here C.hx rfl (pc0 := 2) (pc' := 9) rfl (C.d d_pick_2) rfl (feq hk0).2 (by decide) (by decide) q_) ?_
  refine Go.plain (g' := (mkF m 10 #[.val (.int kk)] [(.int kk)])) (fun s_ T_ L_ X_ t_ q_ => XS.iloadN X_.here C.hx rfl (C.d d_pick_9) rfl q_) ?_
  refine Go.plain (g' := (mkF m 11 #[.val (.int kk)] [(.int (2 : Int32)), (.int kk)])) (fun s_ T_ L_ X_ t_ q_ => XS.iconst X_.here C.hx rfl (C.d d_pick_10) q_) ?_
  by_cases hk1 : kk = (2 : Int32)
  · refine Go.plain (g' := (mkF m 14 #[.val (.int kk)] [])) (fun s_ T_ L_ X_ t_ q_ => XS.icmpNo X_.here C.hx rfl (C.d d_pick_11) rfl (teq hk1).2 q_) ?_
    refine Go.getS C (host := "") (Or.inl (hw _ (List.mem_of_getElem? (i := 70) rfl))) Via.refl S1 d_pick_14 (pc' := 17) rfl ?_
    exact Go.retA C rfl rfl rfl d_pick_17 (by decide) (by decide) ⟨_, rfl, rfl, Or.inr ⟨c1, rfl, by rw [hk1]; decide⟩⟩
  refine Go.plain (g' := (mkF m 18 #[.val (.int kk)] [])) (fun s_ T_ L_ X_ t_ q_ => XS.icmpYes X_.here C.hx rfl (pc0 := 11) (pc' := 18) rfl (C.d d_pick_11) rfl (feq hk1).2 (by decide) (by decide) q_) ?_
  refine Go.plain (g' := (mkF m 19 #[.val (.int kk)] [(.int kk)])) (fun s_ T_ L_ X_ t_ q_ => XS.iloadN X_.here C.hx rfl (C.d d_pick_18) rfl q_) ?_
  refine Go.plain (g' := (mkF m 20 #[.val (.int kk)] [(.int (3 : Int32)), (.int kk)])) (fun s_ T_ L_ X_ t_ q_ => XS.iconst X_.here C.hx rfl (C.d d_pick_19) q_) ?_
  by_cases hk2 : kk = (3 : Int32)
  · refine Go.plain (g' := (mkF m 23 #[.val (.int kk)] [])) (fun s_ T_ L_ X_ t_ q_ => XS.icmpNo X_.here C.hx rfl (C.d d_pick_20) rfl (teq hk2).2 q_) ?_
    refine Go.getS C (host := "") (Or.inl (hw _ (List.mem_of_getElem? (i := 66) rfl))) Via.refl S2 d_pick_23 (pc' := 26) rfl ?_
    exact Go.retA C rfl rfl rfl d_pick_26 (by decide) (by decide) ⟨_, rfl, rfl, Or.inr ⟨c2, rfl, by rw [hk2]; decide⟩⟩
  refine Go.plain (g' := (mkF m 27 #[.val (.int kk)] [])) (fun s_ T_ L_ X_ t_ q_ => XS.icmpYes X_.here C.hx rfl (pc0 := 20) (pc' := 27) rfl (C.d d_pick_20) rfl (feq hk2).2 (by decide) (by decide) q_) ?_
  refine Go.plain (g' := (mkF m 28 #[.val (.int kk)] [(.int kk)])) (fun s_ T_ L_ X_ t_ q_ => XS.iloadN X_.here C.hx rfl (C.d d_pick_27) rfl q_) ?_
  refine Go.plain (g' := (mkF m 29 #[.val (.int kk)] [(.int (4 : Int32)), (.int kk)])) (fun s_ T_ L_ X_ t_ q_ => XS.iconst X_.here C.hx rfl (C.d d_pick_28) q_) ?_
  by_cases hk3 : kk = (4 : Int32)
  · refine Go.plain (g' := (mkF m 32 #[.val (.int kk)] [])) (fun s_ T_ L_ X_ t_ q_ => XS.icmpNo X_.here C.hx rfl (C.d d_pick_29) rfl (teq hk3).2 q_) ?_
    refine Go.getS C (host := "") (Or.inl (hw _ (List.mem_of_getElem? (i := 61) rfl))) Via.refl S3 d_pick_32 (pc' := 35) rfl ?_
    exact Go.retA C rfl rfl rfl d_pick_35 (by decide) (by decide) ⟨_, rfl, rfl, Or.inr ⟨c3, rfl, by rw [hk3]; decide⟩⟩
  refine Go.plain (g' := (mkF m 36 #[.val (.int kk)] [])) (fun s_ T_ L_ X_ t_ q_ => XS.icmpYes X_.here C.hx rfl (pc0 := 29) (pc' := 36) rfl (C.d d_pick_29) rfl (feq hk3).2 (by decide) (by decide) q_) ?_
  refine Go.plain (g' := (mkF m 37 #[.val (.int kk)] [(.int kk)])) (fun s_ T_ L_ X_ t_ q_ => XS.iloadN X_.here C.hx rfl (C.d d_pick_36) rfl q_) ?_
  refine Go.plain (g' := (mkF m 38 #[.val (.int kk)] [(.int (5 : Int32)), (.int kk)])) (fun s_ T_ L_ X_ t_ q_ => XS.iconst X_.here C.hx rfl (C.d d_pick_37) q_) ?_
  by_cases hk4 : kk = (5 : Int32)
  · refine Go.plain (g' := (mkF m 41 #[.val (.int kk)] [])) (fun s_ T_ L_ X_ t_ q_ => XS.icmpNo X_.here C.hx rfl (C.d d_pick_38) rfl (teq hk4).2 q_) ?_
    refine Go.getS C (host := "") (Or.inl (hw _ (List.mem_of_getElem? (i := 68) rfl))) Via.refl S4 d_pick_41 (pc' := 44) rfl ?_
    exact Go.retA C rfl rfl rfl d_pick_44 (by decide) (by decide) ⟨_, rfl, rfl, Or.inr ⟨c4, rfl, by rw [hk4]; decide⟩⟩
  refine Go.plain (g' := (mkF m 45 #[.val (.int kk)] [])) (fun s_ T_ L_ X_ t_ q_ => XS.icmpYes X_.here C.hx rfl (pc0 := 38) (pc' := 45) rfl (C.d d_pick_38) rfl (feq hk4).2 (by decide) (by decide) q_) ?_
  refine Go.plain (g' := (mkF m 46 #[.val (.int kk)] [.null])) (fun s_ T_ L_ X_ t_ q_ => XS.aconstNull X_.here C.hx rfl (C.d d_pick_45) q_) ?_
  exact Go.retA C rfl rfl rfl d_pick_46 (by decide) (by decide) ⟨_, rfl, rfl, Or.inl ⟨rfl, hk0, hk1, hk2, hk3, hk4⟩⟩
theorem d_rnn_0 : decode jdk_31_method_10_code 0 = .ok (.aload_n 0, 1) := by decide +kernel
theorem d_rnn_1 : decode jdk_31_method_10_code 1 = .ok (.ifnonnull 11, 3) := by decide +kernel
theorem d_rnn_12 : decode jdk_31_method_10_code 12 = .ok (.aload_n 0, 1) := by decide +kernel
theorem d_rnn_13 : decode jdk_31_method_10_code 13 = .ok (.areturn, 1) := by decide +kernel
theorem pn_rnn : plainName "java/util/Objects" = true := by first | (simp [plainName, overriddenIn]; done) | decide +kernel
theorem ef_rnn (m : MethodId) (x0 : Addr)  : entryFrame m #[(.ref x0)] 1 = mkF m 0 #[.val (.ref x0)] [] := by first | (simp [entryFrame, mkF, argsToLocals, Value.category]; done) | rfl
set_option maxRecDepth 65536 in
set_option maxHeartbeats 40000000 in
theorem P_rnn (l : Launch) (Z : State) (a0 : Array Value) (hw : ∀ d ∈ tables_1, d.before a0 Z = true) (hEL : EW Z a0 consts_1) (b : Addr) (h0 : Heap)  :
    Pays l Z consts_1 [] (⟨"java/util/Objects", "requireNonNull", "(Ljava/lang/Object;)Ljava/lang/Object;"⟩ : MethodName) jdk_31_method_10_code 1 (some (.object "java/lang/Object")) ({ frames := 0, cells := 0, slots := 0, locals := 0 } : Room) #[(.ref b)] h0 (fun v h => v = some (.ref b) ∧ h0 = h) := by
  refine pays_of_go hEL (plainFor_of_name pn_rnn) (fun m => ef_rnn m b) ?_
  intro p e s m below meth c C0
  have C : Cx p s m meth c jdk_31_method_10_code 1 (some (.object "java/lang/Object")) "requireNonNull" "java/util/Objects" Z a0 consts_1 := C0
  show Go p l e ({ frames := 0, cells := 0, slots := 0, locals := 0 } : Room) s m #[(.ref b)] below meth c "java/util/Objects" Z consts_1 [] (fun v h => v = some (.ref b) ∧ h0 = h) h0 0 0 (mkF m 0 #[.val (.ref b)] [])
  refine Go.plain (g' := (mkF m 1 #[.val (.ref b)] [(.ref b)])) (fun s_ T_ L_ X_ t_ q_ => XS.aloadN X_.here C.hx rfl (C.d d_rnn_0) rfl rfl q_) ?_
  refine Go.plain (g' := (mkF m 12 #[.val (.ref b)] [])) (fun s_ T_ L_ X_ t_ q_ => XS.ifnonnullYes X_.here C.hx rfl (pc0 := 1) (pc' := 12) rfl (C.d d_rnn_1) rfl (by decide) (by decide) q_) ?_
  refine Go.plain (g' := (mkF m 13 #[.val (.ref b)] [(.ref b)])) (fun s_ T_ L_ X_ t_ q_ => XS.aloadN X_.here C.hx rfl (C.d d_rnn_12) rfl rfl q_) ?_
  exact Go.retA C rfl rfl rfl d_rnn_13 (by decide) (by decide) ⟨rfl, rfl⟩
theorem d_s4_0 : decode jdk_42_method_149_code 0 = .ok (.aload_n 0, 1) := by decide +kernel
theorem d_s4_1 : decode jdk_42_method_149_code 1 = .ok (.invokespecial 1, 3) := by decide +kernel
theorem d_s4_4 : decode jdk_42_method_149_code 4 = .ok (.iload_n 3, 1) := by decide +kernel
theorem d_s4_5 : decode jdk_42_method_149_code 5 = .ok (.ifCond .ne 22, 3) := by decide +kernel
theorem d_s4_8 : decode jdk_42_method_149_code 8 = .ok (.aload_n 0, 1) := by decide +kernel
theorem d_s4_9 : decode jdk_42_method_149_code 9 = .ok (.ldc 7, 2) := by decide +kernel
theorem d_s4_11 : decode jdk_42_method_149_code 11 = .ok (.getfield 9, 3) := by decide +kernel
theorem d_s4_14 : decode jdk_42_method_149_code 14 = .ok (.putfield 9, 3) := by decide +kernel
theorem d_s4_17 : decode jdk_42_method_149_code 17 = .ok (.aload_n 0, 1) := by decide +kernel
theorem d_s4_18 : decode jdk_42_method_149_code 18 = .ok (.ldc 7, 2) := by decide +kernel
theorem d_s4_20 : decode jdk_42_method_149_code 20 = .ok (.getfield 15, 3) := by decide +kernel
theorem d_s4_23 : decode jdk_42_method_149_code 23 = .ok (.putfield 15, 3) := by decide +kernel
theorem d_s4_26 : decode jdk_42_method_149_code 26 = .ok (.return_, 1) := by decide +kernel
theorem pn_s4 : plainName "java/lang/String" = true := by first | (simp [plainName, overriddenIn]; done) | decide +kernel
theorem ef_s4 (m : MethodId) (x0 : Addr) (x1 : Addr) (x2 : Int32) (x3 : Int32)  : entryFrame m #[(.ref x0), (.ref x1), (.int x2), (.int x3), .null] 6 = mkF m 0 #[.val (.ref x0), .val (.ref x1), .val (.int x2), .val (.int x3), .val .null, .unset] [] := by first | (simp [entryFrame, mkF, argsToLocals, Value.category]; done) | rfl
set_option maxRecDepth 65536 in
set_option maxHeartbeats 40000000 in
theorem P_s4 (l : Launch) (Z : State) (a0 : Array Value) (hw : ∀ d ∈ tables_1, d.before a0 Z = true) (hEL : EW Z a0 consts_1) (a ca : Addr) (h0 : Heap) (E : Exa Z h0 a "java/lang/String") (F1 : Fld Z h0 a "java/lang/String" "value" "[B" .null) (F2 : Fld Z h0 a "java/lang/String" "coder" "B" (.int 0)) (ge : Z.heap.size ≤ a) :
    Pays l Z consts_1 [a] (⟨"java/lang/String", "<init>", "([CIILjava/lang/Void;)V"⟩ : MethodName) jdk_42_method_149_code 6 none ({ frames := 1, cells := 4, slots := 8, locals := 12 } : Room) #[(.ref a), (.ref ca), (.int (0 : Int32)), (.int (0 : Int32)), .null] h0 (fun v h => v = none ∧ Keep h0 h [a] ∧ Exa Z h a "java/lang/String") := by
  refine pays_of_go hEL (plainFor_of_name pn_s4) (fun m => ef_s4 m a ca (0 : Int32) (0 : Int32)) ?_
  intro p e s m below meth c C0
  have C : Cx p s m meth c jdk_42_method_149_code 6 none "<init>" "java/lang/String" Z a0 consts_1 := C0
  show Go p l e ({ frames := 1, cells := 4, slots := 8, locals := 12 } : Room) s m #[(.ref a), (.ref ca), (.int (0 : Int32)), (.int (0 : Int32)), .null] below meth c "java/lang/String" Z consts_1 [a] (fun v h => v = none ∧ Keep h0 h [a] ∧ Exa Z h a "java/lang/String") h0 0 0 (mkF m 0 #[.val (.ref a), .val (.ref ca), .val (.int (0 : Int32)), .val (.int (0 : Int32)), .val .null, .unset] [])
  have K0 : Keep h0 h0 [a] := Keep.refl _ _
  refine Go.plain (g' := (mkF m 1 #[.val (.ref a), .val (.ref ca), .val (.int (0 : Int32)), .val (.int (0 : Int32)), .val .null, .unset] [(.ref a)])) (fun s_ T_ L_ X_ t_ q_ => XS.aloadN X_.here C.hx rfl (C.d d_s4_0) rfl rfl q_) ?_
  refine Go.initO C (hw _ (List.mem_of_getElem? (i := 16) rfl)) (hw _ (List.mem_of_getElem? (i := 17) rfl)) (hw _ (List.mem_of_getElem? (i := 18) rfl)) d_s4_1 (pc' := 4) rfl rfl (by decide) (W := 0) (Nat.le_of_eq rfl) (by decide) ?_
  refine Go.plain (g' := (mkF m 5 #[.val (.ref a), .val (.ref ca), .val (.int (0 : Int32)), .val (.int (0 : Int32)), .val .null, .unset] [(.int (0 : Int32))])) (fun s_ T_ L_ X_ t_ q_ => XS.iloadN X_.here C.hx rfl (C.d d_s4_4) rfl q_) ?_
  refine Go.plain (g' := (mkF m 8 #[.val (.ref a), .val (.ref ca), .val (.int (0 : Int32)), .val (.int (0 : Int32)), .val .null, .unset] [])) (fun s_ T_ L_ X_ t_ q_ => XS.ifNo X_.here C.hx rfl (C.d d_s4_5) rfl ((if0 _ _).trans (teq (rfl : (0 : Int32) = (0 : Int32))).2) q_) ?_
  refine Go.plain (g' := (mkF m 9 #[.val (.ref a), .val (.ref ca), .val (.int (0 : Int32)), .val (.int (0 : Int32)), .val .null, .unset] [(.ref a)])) (fun s_ T_ L_ X_ t_ q_ => XS.aloadN X_.here C.hx rfl (C.d d_s4_8) rfl rfl q_) ?_
  refine Go.ldcT C (vs := []) (z := (0 : Int32)) (hw _ (List.mem_of_getElem? (i := 63) rfl)) (sAtoms hw) (List.mem_cons_self ..) ⟨by decide, by decide⟩ (by decide) (by decide) d_s4_9 (pc' := 11) rfl (nn := 0) (by decide) (by decide) (k' := 2) (n' := 4) rfl rfl (by decide) (by decide) ?_
  intro e1 t_e1 kb_e1 h1 X_e1 A_e1 FC_e1 FV_e1 V_e1 N_e1
  have E := E.ext X_e1
  have F1 := F1.ext X_e1
  have F2 := F2.ext X_e1
  have K0 := K0.ext X_e1
  refine Go.getF C (host := "") (Or.inl (hw _ (List.mem_of_getElem? (i := 33) rfl))) Via.refl FV_e1 d_s4_11 (pc' := 14) rfl ?_
  refine Go.putF C (host := "") (Or.inl (hw _ (List.mem_of_getElem? (i := 33) rfl))) Via.refl F1 E (Or.inr ⟨(hw _ (List.mem_of_getElem? (i := 34) rfl)), rfl, rfl⟩) (hw _ (List.mem_of_getElem? (i := 6) rfl)) (ty := (.array .byte)) (by decide) rfl rfl ge (Or.inl (List.mem_of_getElem? (i := 0) rfl)) d_s4_14 (pc' := 17) rfl ?_
  intro h2 Wh2
  have F1 := F1.same Wh2
  have F2 := F2.other Wh2 (Or.inr (slot_ne (Or.inr (hw _ (List.mem_of_getElem? (i := 32) rfl))) (Or.inr (hw _ (List.mem_of_getElem? (i := 34) rfl))) (by decide) (t := .byte) (t' := (.array .byte)) (by decide) (by decide)))
  have E := E.wr Wh2
  have K0 := K0.wr Wh2 (Or.inl (List.mem_cons_self ..))
  refine Go.plain (g' := (mkF m 18 #[.val (.ref a), .val (.ref ca), .val (.int (0 : Int32)), .val (.int (0 : Int32)), .val .null, .unset] [(.ref a)])) (fun s_ T_ L_ X_ t_ q_ => XS.aloadN X_.here C.hx rfl (C.d d_s4_17) rfl rfl q_) ?_
  refine Go.ldcT C (vs := []) (z := (0 : Int32)) (hw _ (List.mem_of_getElem? (i := 63) rfl)) (sAtoms hw) (List.mem_cons_self ..) ⟨by decide, by decide⟩ (by decide) (by decide) d_s4_18 (pc' := 20) rfl (nn := 0) (by decide) (by decide) (k' := 4) (n' := 8) rfl rfl (by decide) (by decide) ?_
  intro e2 t_e2 kb_e2 h3 X_e2 A_e2 FC_e2 FV_e2 V_e2 N_e2
  have E := E.ext X_e2
  have F1 := F1.ext X_e2
  have F2 := F2.ext X_e2
  have K0 := K0.ext X_e2
  refine Go.getF C (host := "") (Or.inl (hw _ (List.mem_of_getElem? (i := 31) rfl))) Via.refl FC_e2 d_s4_20 (pc' := 23) rfl ?_
  refine Go.putFN C (hw _ (List.mem_of_getElem? (i := 31) rfl)) Via.refl F2 E (Or.inr ⟨(hw _ (List.mem_of_getElem? (i := 32) rfl)), rfl, rfl⟩) (hw _ (List.mem_of_getElem? (i := 6) rfl)) (ty := .byte) (v' := .int (nar .byte (0 : Int32))) (by decide) rfl (fits_nar_byte _) ge (Or.inl (List.mem_of_getElem? (i := 0) rfl)) d_s4_23 (pc' := 26) rfl ?_
  intro h4 Wh4
  have F1 := F1.other Wh4 (Or.inr (slot_ne (Or.inr (hw _ (List.mem_of_getElem? (i := 34) rfl))) (Or.inr (hw _ (List.mem_of_getElem? (i := 32) rfl))) (by decide) (t := (.array .byte)) (t' := .byte) (by decide) (by decide)))
  have F2 := F2.same Wh4
  have E := E.wr Wh4
  have K0 := K0.wr Wh4 (Or.inl (List.mem_cons_self ..))
  exact Go.retV C d_s4_26 (by decide) (by decide) ⟨rfl, K0, E⟩
theorem d_s1_0 : decode jdk_42_method_3_code 0 = .ok (.aload_n 0, 1) := by decide +kernel
theorem d_s1_1 : decode jdk_42_method_3_code 1 = .ok (.aload_n 1, 1) := by decide +kernel
theorem d_s1_2 : decode jdk_42_method_3_code 2 = .ok (.iconst 0, 1) := by decide +kernel
theorem d_s1_3 : decode jdk_42_method_3_code 3 = .ok (.aload_n 1, 1) := by decide +kernel
theorem d_s1_4 : decode jdk_42_method_3_code 4 = .ok (.arraylength, 1) := by decide +kernel
theorem d_s1_5 : decode jdk_42_method_3_code 5 = .ok (.aconst_null, 1) := by decide +kernel
theorem d_s1_6 : decode jdk_42_method_3_code 6 = .ok (.invokespecial 27, 3) := by decide +kernel
theorem d_s1_9 : decode jdk_42_method_3_code 9 = .ok (.return_, 1) := by decide +kernel
theorem pn_s1 : plainName "java/lang/String" = true := by first | (simp [plainName, overriddenIn]; done) | decide +kernel
theorem ef_s1 (m : MethodId) (x0 : Addr) (x1 : Addr)  : entryFrame m #[(.ref x0), (.ref x1)] 2 = mkF m 0 #[.val (.ref x0), .val (.ref x1)] [] := by first | (simp [entryFrame, mkF, argsToLocals, Value.category]; done) | rfl
set_option maxRecDepth 65536 in
set_option maxHeartbeats 40000000 in
theorem P_s1 (l : Launch) (Z : State) (a0 : Array Value) (hw : ∀ d ∈ tables_1, d.before a0 Z = true) (hEL : EW Z a0 consts_1) (a ca : Addr) (kC : ClassId) (h0 : Heap) (E : Exa Z h0 a "java/lang/String") (F1 : Fld Z h0 a "java/lang/String" "value" "[B" .null) (F2 : Fld Z h0 a "java/lang/String" "coder" "B" (.int 0)) (ge : Z.heap.size ≤ a) (V : Arv Z h0 ca kC .char (0 : Int32) [] (.int 0)) :
    Pays l Z consts_1 [a] (⟨"java/lang/String", "<init>", "([C)V"⟩ : MethodName) jdk_42_method_3_code 2 none ({ frames := 2, cells := 4, slots := 8, locals := 29 } : Room) #[(.ref a), (.ref ca)] h0 (fun v h => v = none ∧ Keep h0 h [a] ∧ Exa Z h a "java/lang/String") := by
  refine pays_of_go hEL (plainFor_of_name pn_s1) (fun m => ef_s1 m a ca) ?_
  intro p e s m below meth c C0
  have C : Cx p s m meth c jdk_42_method_3_code 2 none "<init>" "java/lang/String" Z a0 consts_1 := C0
  show Go p l e ({ frames := 2, cells := 4, slots := 8, locals := 29 } : Room) s m #[(.ref a), (.ref ca)] below meth c "java/lang/String" Z consts_1 [a] (fun v h => v = none ∧ Keep h0 h [a] ∧ Exa Z h a "java/lang/String") h0 0 0 (mkF m 0 #[.val (.ref a), .val (.ref ca)] [])
  refine Go.plain (g' := (mkF m 1 #[.val (.ref a), .val (.ref ca)] [(.ref a)])) (fun s_ T_ L_ X_ t_ q_ => XS.aloadN X_.here C.hx rfl (C.d d_s1_0) rfl rfl q_) ?_
  refine Go.plain (g' := (mkF m 2 #[.val (.ref a), .val (.ref ca)] [(.ref ca), (.ref a)])) (fun s_ T_ L_ X_ t_ q_ => XS.aloadN X_.here C.hx rfl (C.d d_s1_1) rfl rfl q_) ?_
  refine Go.plain (g' := (mkF m 3 #[.val (.ref a), .val (.ref ca)] [(.int (0 : Int32)), (.ref ca), (.ref a)])) (fun s_ T_ L_ X_ t_ q_ => XS.iconst X_.here C.hx rfl (C.d d_s1_2) q_) ?_
  refine Go.plain (g' := (mkF m 4 #[.val (.ref a), .val (.ref ca)] [(.ref ca), (.int (0 : Int32)), (.ref ca), (.ref a)])) (fun s_ T_ L_ X_ t_ q_ => XS.aloadN X_.here C.hx rfl (C.d d_s1_3) rfl rfl q_) ?_
  refine Go.len C V d_s1_4 (pc' := 5) rfl ?_
  refine Go.plain (g' := (mkF m 6 #[.val (.ref a), .val (.ref ca)] [.null, (.int (0 : Int32)), (.int (0 : Int32)), (.ref ca), (.ref a)])) (fun s_ T_ L_ X_ t_ q_ => XS.aconstNull X_.here C.hx rfl (C.d d_s1_5) q_) ?_
  refine Go.special C (a := a) (P_s4 l Z a0 hw hEL a ca h0 E F1 F2 ge) (allS (List.mem_of_getElem? (i := 0) rfl) all0) rfl (hw _ (List.mem_of_getElem? (i := 12) rfl)) (hw _ (List.mem_of_getElem? (i := 13) rfl)) (hw _ (List.mem_of_getElem? (i := 7) rfl)) (hw _ (List.mem_of_getElem? (i := 15) rfl)) (by decide) pd_0 (argsL := [(.ref ca), (.int (0 : Int32)), (.int (0 : Int32)), .null]) (rest := []) rfl rfl d_s1_6 (pc' := 9) rfl rfl rfl (W := 0) (Nat.le_of_eq rfl) (by decide) (by decide) (k' := 4) (n' := 8) rfl rfl (by decide) (by decide) ?_
  rintro _ h1 ⟨rfl, K1, E1⟩
  show Go p l e ({ frames := 2, cells := 4, slots := 8, locals := 29 } : Room) s m #[(.ref a), (.ref ca)] below meth c "java/lang/String" Z consts_1 [a] (fun v h => v = none ∧ Keep h0 h [a] ∧ Exa Z h a "java/lang/String") h1 4 8 (mkF m 9 #[.val (.ref a), .val (.ref ca)] [])
  exact Go.retV C d_s1_9 (by decide) (by decide) ⟨rfl, K1, E1⟩
theorem d_callNN_0 : decode prog_15_method_1_code 0 = .ok (.aload_n 0, 1) := by decide +kernel
theorem d_callNN_1 : decode prog_15_method_1_code 1 = .ok (.invokespecial 1, 3) := by decide +kernel
theorem d_callNN_4 : decode prog_15_method_1_code 4 = .ok (.aload_n 0, 1) := by decide +kernel
theorem d_callNN_5 : decode prog_15_method_1_code 5 = .ok (.aload_n 1, 1) := by decide +kernel
theorem d_callNN_6 : decode prog_15_method_1_code 6 = .ok (.invokestatic 7, 3) := by decide +kernel
theorem d_callNN_9 : decode prog_15_method_1_code 9 = .ok (.checkcast 13, 3) := by decide +kernel
theorem d_callNN_12 : decode prog_15_method_1_code 12 = .ok (.putfield 15, 3) := by decide +kernel
theorem d_callNN_15 : decode prog_15_method_1_code 15 = .ok (.aload_n 0, 1) := by decide +kernel
theorem d_callNN_16 : decode prog_15_method_1_code 16 = .ok (.aload_n 2, 1) := by decide +kernel
theorem d_callNN_17 : decode prog_15_method_1_code 17 = .ok (.putfield 21, 3) := by decide +kernel
theorem d_callNN_20 : decode prog_15_method_1_code 20 = .ok (.aload_n 0, 1) := by decide +kernel
theorem d_callNN_21 : decode prog_15_method_1_code 21 = .ok (.aload_n 3, 1) := by decide +kernel
theorem d_callNN_22 : decode prog_15_method_1_code 22 = .ok (.putfield 25, 3) := by decide +kernel
theorem d_callNN_25 : decode prog_15_method_1_code 25 = .ok (.return_, 1) := by decide +kernel
theorem pn_callNN : plainName "com/example/tenderbook/tenderbook/model/Call" = true := by first | (simp [plainName, overriddenIn]; done) | decide +kernel
theorem ef_callNN (m : MethodId) (x0 : Addr) (x1 : Addr)  : entryFrame m #[(.ref x0), (.ref x1), .null, .null] 4 = mkF m 0 #[.val (.ref x0), .val (.ref x1), .val .null, .val .null] [] := by first | (simp [entryFrame, mkF, argsToLocals, Value.category]; done) | rfl
set_option maxRecDepth 65536 in
set_option maxHeartbeats 40000000 in
theorem P_callNN (l : Launch) (Z : State) (a0 : Array Value) (hw : ∀ d ∈ tables_1, d.before a0 Z = true) (hEL : EW Z a0 consts_1) (a b : Addr) (h0 : Heap) (E : Exa Z h0 a "com/example/tenderbook/tenderbook/model/Call") (F1 : Fld Z h0 a "com/example/tenderbook/tenderbook/model/Call" "requestId" "Ljava/lang/String;" .null) (F2 : Fld Z h0 a "com/example/tenderbook/tenderbook/model/Call" "reason" "Lcom/example/tenderbook/tenderbook/model/CallFailure;" .null) (F3 : Fld Z h0 a "com/example/tenderbook/tenderbook/model/Call" "closedBy" "Ljava/lang/String;" .null) (ge : Z.heap.size ≤ a) (EB : Exa Z h0 b "java/lang/String") :
    Pays l Z consts_1 [] (⟨"com/example/tenderbook/tenderbook/model/Call", "<init>", "(Ljava/lang/String;Lcom/example/tenderbook/tenderbook/model/CallFailure;Ljava/lang/String;)V"⟩ : MethodName) prog_15_method_1_code 4 none ({ frames := 1, cells := 0, slots := 0, locals := 13 } : Room) #[(.ref a), (.ref b), .null, .null] h0 (fun v h => v = none ∧ Exa Z h a "com/example/tenderbook/tenderbook/model/Call" ∧ Fld Z h a "com/example/tenderbook/tenderbook/model/Call" "reason" "Lcom/example/tenderbook/tenderbook/model/CallFailure;" .null ∧ Fld Z h a "com/example/tenderbook/tenderbook/model/Call" "closedBy" "Ljava/lang/String;" .null) := by
  refine pays_of_go hEL (plainFor_of_name pn_callNN) (fun m => ef_callNN m a b) ?_
  intro p e s m below meth c C0
  have C : Cx p s m meth c prog_15_method_1_code 4 none "<init>" "com/example/tenderbook/tenderbook/model/Call" Z a0 consts_1 := C0
  show Go p l e ({ frames := 1, cells := 0, slots := 0, locals := 13 } : Room) s m #[(.ref a), (.ref b), .null, .null] below meth c "com/example/tenderbook/tenderbook/model/Call" Z consts_1 [] (fun v h => v = none ∧ Exa Z h a "com/example/tenderbook/tenderbook/model/Call" ∧ Fld Z h a "com/example/tenderbook/tenderbook/model/Call" "reason" "Lcom/example/tenderbook/tenderbook/model/CallFailure;" .null ∧ Fld Z h a "com/example/tenderbook/tenderbook/model/Call" "closedBy" "Ljava/lang/String;" .null) h0 0 0 (mkF m 0 #[.val (.ref a), .val (.ref b), .val .null, .val .null] [])
  have K0 : Keep h0 h0 [a] := Keep.refl _ _
  refine Go.plain (g' := (mkF m 1 #[.val (.ref a), .val (.ref b), .val .null, .val .null] [(.ref a)])) (fun s_ T_ L_ X_ t_ q_ => XS.aloadN X_.here C.hx rfl (C.d d_callNN_0) rfl rfl q_) ?_
  refine Go.initO C (hw _ (List.mem_of_getElem? (i := 41) rfl)) (hw _ (List.mem_of_getElem? (i := 17) rfl)) (hw _ (List.mem_of_getElem? (i := 18) rfl)) d_callNN_1 (pc' := 4) rfl rfl (by decide) (W := 0) (Nat.le_of_eq rfl) (by decide) ?_
  refine Go.plain (g' := (mkF m 5 #[.val (.ref a), .val (.ref b), .val .null, .val .null] [(.ref a)])) (fun s_ T_ L_ X_ t_ q_ => XS.aloadN X_.here C.hx rfl (C.d d_callNN_4) rfl rfl q_) ?_
  refine Go.plain (g' := (mkF m 6 #[.val (.ref a), .val (.ref b), .val .null, .val .null] [(.ref b), (.ref a)])) (fun s_ T_ L_ X_ t_ q_ => XS.aloadN X_.here C.hx rfl (C.d d_callNN_5) rfl rfl q_) ?_
  refine Go.static C (P_rnn l Z a0 hw hEL b h0) (fun _ q => nomatch q) (hw _ (List.mem_of_getElem? (i := 42) rfl)) (hw _ (List.mem_of_getElem? (i := 43) rfl)) (hw _ (List.mem_of_getElem? (i := 44) rfl)) (hw _ (List.mem_of_getElem? (i := 45) rfl)) (by decide) pd_1 (argsL := [(.ref b)]) (rest := [(.ref a)]) rfl rfl d_callNN_6 (pc' := 9) rfl rfl rfl (W := 1) (Nat.le_of_eq rfl) (by decide) (by decide) (k' := 0) (n' := 0) rfl rfl (by decide) (by decide) ?_
  rintro _ _ ⟨rfl, rfl⟩
  show Go p l e ({ frames := 1, cells := 0, slots := 0, locals := 13 } : Room) s m #[(.ref a), (.ref b), .null, .null] below meth c "com/example/tenderbook/tenderbook/model/Call" Z consts_1 [] (fun v h => v = none ∧ Exa Z h a "com/example/tenderbook/tenderbook/model/Call" ∧ Fld Z h a "com/example/tenderbook/tenderbook/model/Call" "reason" "Lcom/example/tenderbook/tenderbook/model/CallFailure;" .null ∧ Fld Z h a "com/example/tenderbook/tenderbook/model/Call" "closedBy" "Ljava/lang/String;" .null) h0 0 0 (mkF m 9 #[.val (.ref a), .val (.ref b), .val .null, .val .null] [(.ref b), (.ref a)])
  refine Go.cast C (hw _ (List.mem_of_getElem? (i := 46) rfl)) (Ins.self EB) d_callNN_9 (pc' := 12) rfl ?_
  refine Go.putF C (host := "") (Or.inl (hw _ (List.mem_of_getElem? (i := 47) rfl))) Via.refl F1 E (Or.inr ⟨(hw _ (List.mem_of_getElem? (i := 48) rfl)), rfl, rfl⟩) (hw _ (List.mem_of_getElem? (i := 36) rfl)) (ty := (.object "java/lang/String")) (by decide) rfl rfl ge (Or.inr ⟨by decide, by decide⟩) d_callNN_12 (pc' := 15) rfl ?_
  intro h1 Wh1
  have F1 := F1.same Wh1
  have F2 := F2.other Wh1 (Or.inr (slot_ne (Or.inr (hw _ (List.mem_of_getElem? (i := 50) rfl))) (Or.inr (hw _ (List.mem_of_getElem? (i := 48) rfl))) (by decide) (t := (.object "com/example/tenderbook/tenderbook/model/CallFailure")) (t' := (.object "java/lang/String")) (by decide) (by decide)))
  have F3 := F3.other Wh1 (Or.inr (slot_ne (Or.inr (hw _ (List.mem_of_getElem? (i := 52) rfl))) (Or.inr (hw _ (List.mem_of_getElem? (i := 48) rfl))) (by decide) (t := (.object "java/lang/String")) (t' := (.object "java/lang/String")) (by decide) (by decide)))
  have E := E.wr Wh1
  have K0 := K0.wr Wh1 (Or.inl (List.mem_cons_self ..))
  refine Go.plain (g' := (mkF m 16 #[.val (.ref a), .val (.ref b), .val .null, .val .null] [(.ref a)])) (fun s_ T_ L_ X_ t_ q_ => XS.aloadN X_.here C.hx rfl (C.d d_callNN_15) rfl rfl q_) ?_
  refine Go.plain (g' := (mkF m 17 #[.val (.ref a), .val (.ref b), .val .null, .val .null] [.null, (.ref a)])) (fun s_ T_ L_ X_ t_ q_ => XS.aloadN X_.here C.hx rfl (C.d d_callNN_16) rfl rfl q_) ?_
  refine Go.putF C (host := "") (Or.inl (hw _ (List.mem_of_getElem? (i := 49) rfl))) Via.refl F2 E (Or.inr ⟨(hw _ (List.mem_of_getElem? (i := 50) rfl)), rfl, rfl⟩) (hw _ (List.mem_of_getElem? (i := 36) rfl)) (ty := (.object "com/example/tenderbook/tenderbook/model/CallFailure")) (by decide) rfl rfl ge (Or.inr ⟨by decide, by decide⟩) d_callNN_17 (pc' := 20) rfl ?_
  intro h2 Wh2
  have F1 := F1.other Wh2 (Or.inr (slot_ne (Or.inr (hw _ (List.mem_of_getElem? (i := 48) rfl))) (Or.inr (hw _ (List.mem_of_getElem? (i := 50) rfl))) (by decide) (t := (.object "java/lang/String")) (t' := (.object "com/example/tenderbook/tenderbook/model/CallFailure")) (by decide) (by decide)))
  have F2 := F2.same Wh2
  have F3 := F3.other Wh2 (Or.inr (slot_ne (Or.inr (hw _ (List.mem_of_getElem? (i := 52) rfl))) (Or.inr (hw _ (List.mem_of_getElem? (i := 50) rfl))) (by decide) (t := (.object "java/lang/String")) (t' := (.object "com/example/tenderbook/tenderbook/model/CallFailure")) (by decide) (by decide)))
  have E := E.wr Wh2
  have K0 := K0.wr Wh2 (Or.inl (List.mem_cons_self ..))
  refine Go.plain (g' := (mkF m 21 #[.val (.ref a), .val (.ref b), .val .null, .val .null] [(.ref a)])) (fun s_ T_ L_ X_ t_ q_ => XS.aloadN X_.here C.hx rfl (C.d d_callNN_20) rfl rfl q_) ?_
  refine Go.plain (g' := (mkF m 22 #[.val (.ref a), .val (.ref b), .val .null, .val .null] [.null, (.ref a)])) (fun s_ T_ L_ X_ t_ q_ => XS.aloadN X_.here C.hx rfl (C.d d_callNN_21) rfl rfl q_) ?_
  refine Go.putF C (host := "") (Or.inl (hw _ (List.mem_of_getElem? (i := 51) rfl))) Via.refl F3 E (Or.inr ⟨(hw _ (List.mem_of_getElem? (i := 52) rfl)), rfl, rfl⟩) (hw _ (List.mem_of_getElem? (i := 36) rfl)) (ty := (.object "java/lang/String")) (by decide) rfl rfl ge (Or.inr ⟨by decide, by decide⟩) d_callNN_22 (pc' := 25) rfl ?_
  intro h3 Wh3
  have F1 := F1.other Wh3 (Or.inr (slot_ne (Or.inr (hw _ (List.mem_of_getElem? (i := 48) rfl))) (Or.inr (hw _ (List.mem_of_getElem? (i := 52) rfl))) (by decide) (t := (.object "java/lang/String")) (t' := (.object "java/lang/String")) (by decide) (by decide)))
  have F2 := F2.other Wh3 (Or.inr (slot_ne (Or.inr (hw _ (List.mem_of_getElem? (i := 50) rfl))) (Or.inr (hw _ (List.mem_of_getElem? (i := 52) rfl))) (by decide) (t := (.object "com/example/tenderbook/tenderbook/model/CallFailure")) (t' := (.object "java/lang/String")) (by decide) (by decide)))
  have F3 := F3.same Wh3
  have E := E.wr Wh3
  have K0 := K0.wr Wh3 (Or.inl (List.mem_cons_self ..))
  exact Go.retV C d_callNN_25 (by decide) (by decide) ⟨rfl, E, F2, F3⟩
theorem d_opNN_0 : decode prog_15_method_8_code 0 = .ok (.aload_n 0, 1) := by decide +kernel
theorem d_opNN_1 : decode prog_15_method_8_code 1 = .ok (.getfield 21, 3) := by decide +kernel
theorem d_opNN_4 : decode prog_15_method_8_code 4 = .ok (.ifnull 14, 3) := by decide +kernel
theorem d_opNN_18 : decode prog_15_method_8_code 18 = .ok (.iconst 0, 1) := by decide +kernel
theorem d_opNN_19 : decode prog_15_method_8_code 19 = .ok (.ireturn, 1) := by decide +kernel
theorem pn_opNN : plainName "com/example/tenderbook/tenderbook/model/Call" = true := by first | (simp [plainName, overriddenIn]; done) | decide +kernel
theorem ef_opNN (m : MethodId) (x0 : Addr)  : entryFrame m #[(.ref x0)] 1 = mkF m 0 #[.val (.ref x0)] [] := by first | (simp [entryFrame, mkF, argsToLocals, Value.category]; done) | rfl
set_option maxRecDepth 65536 in
set_option maxHeartbeats 40000000 in
theorem P_opNN (l : Launch) (Z : State) (a0 : Array Value) (hw : ∀ d ∈ tables_1, d.before a0 Z = true) (hEL : EW Z a0 consts_1) (a : Addr) (h0 : Heap) (F2 : Fld Z h0 a "com/example/tenderbook/tenderbook/model/Call" "reason" "Lcom/example/tenderbook/tenderbook/model/CallFailure;" .null) (F3 : Fld Z h0 a "com/example/tenderbook/tenderbook/model/Call" "closedBy" "Ljava/lang/String;" .null) :
    Pays l Z consts_1 [] (⟨"com/example/tenderbook/tenderbook/model/Call", "isOpenItem", "()Z"⟩ : MethodName) prog_15_method_8_code 1 (some .boolean) ({ frames := 0, cells := 0, slots := 0, locals := 0 } : Room) #[(.ref a)] h0 (fun v h => v = some (.int (0 : Int32)) ∧ h0 = h) := by
  refine pays_of_go hEL (plainFor_of_name pn_opNN) (fun m => ef_opNN m a) ?_
  intro p e s m below meth c C0
  have C : Cx p s m meth c prog_15_method_8_code 1 (some .boolean) "isOpenItem" "com/example/tenderbook/tenderbook/model/Call" Z a0 consts_1 := C0
  show Go p l e ({ frames := 0, cells := 0, slots := 0, locals := 0 } : Room) s m #[(.ref a)] below meth c "com/example/tenderbook/tenderbook/model/Call" Z consts_1 [] (fun v h => v = some (.int (0 : Int32)) ∧ h0 = h) h0 0 0 (mkF m 0 #[.val (.ref a)] [])
  refine Go.plain (g' := (mkF m 1 #[.val (.ref a)] [(.ref a)])) (fun s_ T_ L_ X_ t_ q_ => XS.aloadN X_.here C.hx rfl (C.d d_opNN_0) rfl rfl q_) ?_
  refine Go.getF C (host := "") (Or.inl (hw _ (List.mem_of_getElem? (i := 49) rfl))) Via.refl F2 d_opNN_1 (pc' := 4) rfl ?_
  refine Go.plain (g' := (mkF m 18 #[.val (.ref a)] [])) (fun s_ T_ L_ X_ t_ q_ => XS.ifnullYes X_.here C.hx rfl (pc0 := 4) (pc' := 18) rfl (C.d d_opNN_4) rfl (by decide) (by decide) q_) ?_
  refine Go.plain (g' := (mkF m 19 #[.val (.ref a)] [(.int (0 : Int32))])) (fun s_ T_ L_ X_ t_ q_ => XS.iconst X_.here C.hx rfl (C.d d_opNN_18) q_) ?_
  exact Go.retN C (by simp) d_opNN_19 (by decide) (by decide) ⟨rfl, rfl⟩
theorem d_awNN_0 : decode prog_15_method_7_code 0 = .ok (.aload_n 0, 1) := by decide +kernel
theorem d_awNN_1 : decode prog_15_method_7_code 1 = .ok (.getfield 21, 3) := by decide +kernel
theorem d_awNN_4 : decode prog_15_method_7_code 4 = .ok (.ifnonnull 14, 3) := by decide +kernel
theorem d_awNN_7 : decode prog_15_method_7_code 7 = .ok (.aload_n 0, 1) := by decide +kernel
theorem d_awNN_8 : decode prog_15_method_7_code 8 = .ok (.getfield 25, 3) := by decide +kernel
theorem d_awNN_11 : decode prog_15_method_7_code 11 = .ok (.ifnonnull 7, 3) := by decide +kernel
theorem d_awNN_14 : decode prog_15_method_7_code 14 = .ok (.iconst 1, 1) := by decide +kernel
theorem d_awNN_15 : decode prog_15_method_7_code 15 = .ok (.goto 4, 3) := by decide +kernel
theorem d_awNN_19 : decode prog_15_method_7_code 19 = .ok (.ireturn, 1) := by decide +kernel
theorem pn_awNN : plainName "com/example/tenderbook/tenderbook/model/Call" = true := by first | (simp [plainName, overriddenIn]; done) | decide +kernel
theorem ef_awNN (m : MethodId) (x0 : Addr)  : entryFrame m #[(.ref x0)] 1 = mkF m 0 #[.val (.ref x0)] [] := by first | (simp [entryFrame, mkF, argsToLocals, Value.category]; done) | rfl
set_option maxRecDepth 65536 in
set_option maxHeartbeats 40000000 in
theorem P_awNN (l : Launch) (Z : State) (a0 : Array Value) (hw : ∀ d ∈ tables_1, d.before a0 Z = true) (hEL : EW Z a0 consts_1) (a : Addr) (h0 : Heap) (F2 : Fld Z h0 a "com/example/tenderbook/tenderbook/model/Call" "reason" "Lcom/example/tenderbook/tenderbook/model/CallFailure;" .null) (F3 : Fld Z h0 a "com/example/tenderbook/tenderbook/model/Call" "closedBy" "Ljava/lang/String;" .null) :
    Pays l Z consts_1 [] (⟨"com/example/tenderbook/tenderbook/model/Call", "isAwaited", "()Z"⟩ : MethodName) prog_15_method_7_code 1 (some .boolean) ({ frames := 0, cells := 0, slots := 0, locals := 0 } : Room) #[(.ref a)] h0 (fun v h => v = some (.int (1 : Int32)) ∧ h0 = h) := by
  refine pays_of_go hEL (plainFor_of_name pn_awNN) (fun m => ef_awNN m a) ?_
  intro p e s m below meth c C0
  have C : Cx p s m meth c prog_15_method_7_code 1 (some .boolean) "isAwaited" "com/example/tenderbook/tenderbook/model/Call" Z a0 consts_1 := C0
  show Go p l e ({ frames := 0, cells := 0, slots := 0, locals := 0 } : Room) s m #[(.ref a)] below meth c "com/example/tenderbook/tenderbook/model/Call" Z consts_1 [] (fun v h => v = some (.int (1 : Int32)) ∧ h0 = h) h0 0 0 (mkF m 0 #[.val (.ref a)] [])
  refine Go.plain (g' := (mkF m 1 #[.val (.ref a)] [(.ref a)])) (fun s_ T_ L_ X_ t_ q_ => XS.aloadN X_.here C.hx rfl (C.d d_awNN_0) rfl rfl q_) ?_
  refine Go.getF C (host := "") (Or.inl (hw _ (List.mem_of_getElem? (i := 49) rfl))) Via.refl F2 d_awNN_1 (pc' := 4) rfl ?_
  refine Go.plain (g' := (mkF m 7 #[.val (.ref a)] [])) (fun s_ T_ L_ X_ t_ q_ => XS.ifnonnullNo X_.here C.hx rfl (C.d d_awNN_4) rfl q_) ?_
  refine Go.plain (g' := (mkF m 8 #[.val (.ref a)] [(.ref a)])) (fun s_ T_ L_ X_ t_ q_ => XS.aloadN X_.here C.hx rfl (C.d d_awNN_7) rfl rfl q_) ?_
  refine Go.getF C (host := "") (Or.inl (hw _ (List.mem_of_getElem? (i := 51) rfl))) Via.refl F3 d_awNN_8 (pc' := 11) rfl ?_
  refine Go.plain (g' := (mkF m 14 #[.val (.ref a)] [])) (fun s_ T_ L_ X_ t_ q_ => XS.ifnonnullNo X_.here C.hx rfl (C.d d_awNN_11) rfl q_) ?_
  refine Go.plain (g' := (mkF m 15 #[.val (.ref a)] [(.int (1 : Int32))])) (fun s_ T_ L_ X_ t_ q_ => XS.iconst X_.here C.hx rfl (C.d d_awNN_14) q_) ?_
  refine Go.plain (g' := (mkF m 19 #[.val (.ref a)] [(.int (1 : Int32))])) (fun s_ T_ L_ X_ t_ q_ => XS.goto X_.here C.hx rfl (pc0 := 15) (pc' := 19) rfl (C.d d_awNN_15) (by decide) (by decide) q_) ?_
  exact Go.retN C (by simp) d_awNN_19 (by decide) (by decide) ⟨rfl, rfl⟩
theorem d_callNR_0 : decode prog_15_method_1_code 0 = .ok (.aload_n 0, 1) := by decide +kernel
theorem d_callNR_1 : decode prog_15_method_1_code 1 = .ok (.invokespecial 1, 3) := by decide +kernel
theorem d_callNR_4 : decode prog_15_method_1_code 4 = .ok (.aload_n 0, 1) := by decide +kernel
theorem d_callNR_5 : decode prog_15_method_1_code 5 = .ok (.aload_n 1, 1) := by decide +kernel
theorem d_callNR_6 : decode prog_15_method_1_code 6 = .ok (.invokestatic 7, 3) := by decide +kernel
theorem d_callNR_9 : decode prog_15_method_1_code 9 = .ok (.checkcast 13, 3) := by decide +kernel
theorem d_callNR_12 : decode prog_15_method_1_code 12 = .ok (.putfield 15, 3) := by decide +kernel
theorem d_callNR_15 : decode prog_15_method_1_code 15 = .ok (.aload_n 0, 1) := by decide +kernel
theorem d_callNR_16 : decode prog_15_method_1_code 16 = .ok (.aload_n 2, 1) := by decide +kernel
theorem d_callNR_17 : decode prog_15_method_1_code 17 = .ok (.putfield 21, 3) := by decide +kernel
theorem d_callNR_20 : decode prog_15_method_1_code 20 = .ok (.aload_n 0, 1) := by decide +kernel
theorem d_callNR_21 : decode prog_15_method_1_code 21 = .ok (.aload_n 3, 1) := by decide +kernel
theorem d_callNR_22 : decode prog_15_method_1_code 22 = .ok (.putfield 25, 3) := by decide +kernel
theorem d_callNR_25 : decode prog_15_method_1_code 25 = .ok (.return_, 1) := by decide +kernel
theorem pn_callNR : plainName "com/example/tenderbook/tenderbook/model/Call" = true := by first | (simp [plainName, overriddenIn]; done) | decide +kernel
theorem ef_callNR (m : MethodId) (x0 : Addr) (x1 : Addr) (x3 : Addr)  : entryFrame m #[(.ref x0), (.ref x1), .null, (.ref x3)] 4 = mkF m 0 #[.val (.ref x0), .val (.ref x1), .val .null, .val (.ref x3)] [] := by first | (simp [entryFrame, mkF, argsToLocals, Value.category]; done) | rfl
set_option maxRecDepth 65536 in
set_option maxHeartbeats 40000000 in
theorem P_callNR (l : Launch) (Z : State) (a0 : Array Value) (hw : ∀ d ∈ tables_1, d.before a0 Z = true) (hEL : EW Z a0 consts_1) (a b qq : Addr) (h0 : Heap) (E : Exa Z h0 a "com/example/tenderbook/tenderbook/model/Call") (F1 : Fld Z h0 a "com/example/tenderbook/tenderbook/model/Call" "requestId" "Ljava/lang/String;" .null) (F2 : Fld Z h0 a "com/example/tenderbook/tenderbook/model/Call" "reason" "Lcom/example/tenderbook/tenderbook/model/CallFailure;" .null) (F3 : Fld Z h0 a "com/example/tenderbook/tenderbook/model/Call" "closedBy" "Ljava/lang/String;" .null) (ge : Z.heap.size ≤ a) (EB : Exa Z h0 b "java/lang/String") :
    Pays l Z consts_1 [] (⟨"com/example/tenderbook/tenderbook/model/Call", "<init>", "(Ljava/lang/String;Lcom/example/tenderbook/tenderbook/model/CallFailure;Ljava/lang/String;)V"⟩ : MethodName) prog_15_method_1_code 4 none ({ frames := 1, cells := 0, slots := 0, locals := 13 } : Room) #[(.ref a), (.ref b), .null, (.ref qq)] h0 (fun v h => v = none ∧ Exa Z h a "com/example/tenderbook/tenderbook/model/Call" ∧ Fld Z h a "com/example/tenderbook/tenderbook/model/Call" "reason" "Lcom/example/tenderbook/tenderbook/model/CallFailure;" .null ∧ Fld Z h a "com/example/tenderbook/tenderbook/model/Call" "closedBy" "Ljava/lang/String;" (.ref qq)) := by
  refine pays_of_go hEL (plainFor_of_name pn_callNR) (fun m => ef_callNR m a b qq) ?_
  intro p e s m below meth c C0
  have C : Cx p s m meth c prog_15_method_1_code 4 none "<init>" "com/example/tenderbook/tenderbook/model/Call" Z a0 consts_1 := C0
  show Go p l e ({ frames := 1, cells := 0, slots := 0, locals := 13 } : Room) s m #[(.ref a), (.ref b), .null, (.ref qq)] below meth c "com/example/tenderbook/tenderbook/model/Call" Z consts_1 [] (fun v h => v = none ∧ Exa Z h a "com/example/tenderbook/tenderbook/model/Call" ∧ Fld Z h a "com/example/tenderbook/tenderbook/model/Call" "reason" "Lcom/example/tenderbook/tenderbook/model/CallFailure;" .null ∧ Fld Z h a "com/example/tenderbook/tenderbook/model/Call" "closedBy" "Ljava/lang/String;" (.ref qq)) h0 0 0 (mkF m 0 #[.val (.ref a), .val (.ref b), .val .null, .val (.ref qq)] [])
  have K0 : Keep h0 h0 [a] := Keep.refl _ _
  refine Go.plain (g' := (mkF m 1 #[.val (.ref a), .val (.ref b), .val .null, .val (.ref qq)] [(.ref a)])) (fun s_ T_ L_ X_ t_ q_ => XS.aloadN X_.here C.hx rfl (C.d d_callNR_0) rfl rfl q_) ?_
  refine Go.initO C (hw _ (List.mem_of_getElem? (i := 41) rfl)) (hw _ (List.mem_of_getElem? (i := 17) rfl)) (hw _ (List.mem_of_getElem? (i := 18) rfl)) d_callNR_1 (pc' := 4) rfl rfl (by decide) (W := 0) (Nat.le_of_eq rfl) (by decide) ?_
  refine Go.plain (g' := (mkF m 5 #[.val (.ref a), .val (.ref b), .val .null, .val (.ref qq)] [(.ref a)])) (fun s_ T_ L_ X_ t_ q_ => XS.aloadN X_.here C.hx rfl (C.d d_callNR_4) rfl rfl q_) ?_
  refine Go.plain (g' := (mkF m 6 #[.val (.ref a), .val (.ref b), .val .null, .val (.ref qq)] [(.ref b), (.ref a)])) (fun s_ T_ L_ X_ t_ q_ => XS.aloadN X_.here C.hx rfl (C.d d_callNR_5) rfl rfl q_) ?_
  refine Go.static C (P_rnn l Z a0 hw hEL b h0) (fun _ q => nomatch q) (hw _ (List.mem_of_getElem? (i := 42) rfl)) (hw _ (List.mem_of_getElem? (i := 43) rfl)) (hw _ (List.mem_of_getElem? (i := 44) rfl)) (hw _ (List.mem_of_getElem? (i := 45) rfl)) (by decide) pd_1 (argsL := [(.ref b)]) (rest := [(.ref a)]) rfl rfl d_callNR_6 (pc' := 9) rfl rfl rfl (W := 1) (Nat.le_of_eq rfl) (by decide) (by decide) (k' := 0) (n' := 0) rfl rfl (by decide) (by decide) ?_
  rintro _ _ ⟨rfl, rfl⟩
  show Go p l e ({ frames := 1, cells := 0, slots := 0, locals := 13 } : Room) s m #[(.ref a), (.ref b), .null, (.ref qq)] below meth c "com/example/tenderbook/tenderbook/model/Call" Z consts_1 [] (fun v h => v = none ∧ Exa Z h a "com/example/tenderbook/tenderbook/model/Call" ∧ Fld Z h a "com/example/tenderbook/tenderbook/model/Call" "reason" "Lcom/example/tenderbook/tenderbook/model/CallFailure;" .null ∧ Fld Z h a "com/example/tenderbook/tenderbook/model/Call" "closedBy" "Ljava/lang/String;" (.ref qq)) h0 0 0 (mkF m 9 #[.val (.ref a), .val (.ref b), .val .null, .val (.ref qq)] [(.ref b), (.ref a)])
  refine Go.cast C (hw _ (List.mem_of_getElem? (i := 46) rfl)) (Ins.self EB) d_callNR_9 (pc' := 12) rfl ?_
  refine Go.putF C (host := "") (Or.inl (hw _ (List.mem_of_getElem? (i := 47) rfl))) Via.refl F1 E (Or.inr ⟨(hw _ (List.mem_of_getElem? (i := 48) rfl)), rfl, rfl⟩) (hw _ (List.mem_of_getElem? (i := 36) rfl)) (ty := (.object "java/lang/String")) (by decide) rfl rfl ge (Or.inr ⟨by decide, by decide⟩) d_callNR_12 (pc' := 15) rfl ?_
  intro h1 Wh1
  have F1 := F1.same Wh1
  have F2 := F2.other Wh1 (Or.inr (slot_ne (Or.inr (hw _ (List.mem_of_getElem? (i := 50) rfl))) (Or.inr (hw _ (List.mem_of_getElem? (i := 48) rfl))) (by decide) (t := (.object "com/example/tenderbook/tenderbook/model/CallFailure")) (t' := (.object "java/lang/String")) (by decide) (by decide)))
  have F3 := F3.other Wh1 (Or.inr (slot_ne (Or.inr (hw _ (List.mem_of_getElem? (i := 52) rfl))) (Or.inr (hw _ (List.mem_of_getElem? (i := 48) rfl))) (by decide) (t := (.object "java/lang/String")) (t' := (.object "java/lang/String")) (by decide) (by decide)))
  have E := E.wr Wh1
  have K0 := K0.wr Wh1 (Or.inl (List.mem_cons_self ..))
  refine Go.plain (g' := (mkF m 16 #[.val (.ref a), .val (.ref b), .val .null, .val (.ref qq)] [(.ref a)])) (fun s_ T_ L_ X_ t_ q_ => XS.aloadN X_.here C.hx rfl (C.d d_callNR_15) rfl rfl q_) ?_
  refine Go.plain (g' := (mkF m 17 #[.val (.ref a), .val (.ref b), .val .null, .val (.ref qq)] [.null, (.ref a)])) (fun s_ T_ L_ X_ t_ q_ => XS.aloadN X_.here C.hx rfl (C.d d_callNR_16) rfl rfl q_) ?_
  refine Go.putF C (host := "") (Or.inl (hw _ (List.mem_of_getElem? (i := 49) rfl))) Via.refl F2 E (Or.inr ⟨(hw _ (List.mem_of_getElem? (i := 50) rfl)), rfl, rfl⟩) (hw _ (List.mem_of_getElem? (i := 36) rfl)) (ty := (.object "com/example/tenderbook/tenderbook/model/CallFailure")) (by decide) rfl rfl ge (Or.inr ⟨by decide, by decide⟩) d_callNR_17 (pc' := 20) rfl ?_
  intro h2 Wh2
  have F1 := F1.other Wh2 (Or.inr (slot_ne (Or.inr (hw _ (List.mem_of_getElem? (i := 48) rfl))) (Or.inr (hw _ (List.mem_of_getElem? (i := 50) rfl))) (by decide) (t := (.object "java/lang/String")) (t' := (.object "com/example/tenderbook/tenderbook/model/CallFailure")) (by decide) (by decide)))
  have F2 := F2.same Wh2
  have F3 := F3.other Wh2 (Or.inr (slot_ne (Or.inr (hw _ (List.mem_of_getElem? (i := 52) rfl))) (Or.inr (hw _ (List.mem_of_getElem? (i := 50) rfl))) (by decide) (t := (.object "java/lang/String")) (t' := (.object "com/example/tenderbook/tenderbook/model/CallFailure")) (by decide) (by decide)))
  have E := E.wr Wh2
  have K0 := K0.wr Wh2 (Or.inl (List.mem_cons_self ..))
  refine Go.plain (g' := (mkF m 21 #[.val (.ref a), .val (.ref b), .val .null, .val (.ref qq)] [(.ref a)])) (fun s_ T_ L_ X_ t_ q_ => XS.aloadN X_.here C.hx rfl (C.d d_callNR_20) rfl rfl q_) ?_
  refine Go.plain (g' := (mkF m 22 #[.val (.ref a), .val (.ref b), .val .null, .val (.ref qq)] [(.ref qq), (.ref a)])) (fun s_ T_ L_ X_ t_ q_ => XS.aloadN X_.here C.hx rfl (C.d d_callNR_21) rfl rfl q_) ?_
  refine Go.putF C (host := "") (Or.inl (hw _ (List.mem_of_getElem? (i := 51) rfl))) Via.refl F3 E (Or.inr ⟨(hw _ (List.mem_of_getElem? (i := 52) rfl)), rfl, rfl⟩) (hw _ (List.mem_of_getElem? (i := 36) rfl)) (ty := (.object "java/lang/String")) (by decide) rfl rfl ge (Or.inr ⟨by decide, by decide⟩) d_callNR_22 (pc' := 25) rfl ?_
  intro h3 Wh3
  have F1 := F1.other Wh3 (Or.inr (slot_ne (Or.inr (hw _ (List.mem_of_getElem? (i := 48) rfl))) (Or.inr (hw _ (List.mem_of_getElem? (i := 52) rfl))) (by decide) (t := (.object "java/lang/String")) (t' := (.object "java/lang/String")) (by decide) (by decide)))
  have F2 := F2.other Wh3 (Or.inr (slot_ne (Or.inr (hw _ (List.mem_of_getElem? (i := 50) rfl))) (Or.inr (hw _ (List.mem_of_getElem? (i := 52) rfl))) (by decide) (t := (.object "com/example/tenderbook/tenderbook/model/CallFailure")) (t' := (.object "java/lang/String")) (by decide) (by decide)))
  have F3 := F3.same Wh3
  have E := E.wr Wh3
  have K0 := K0.wr Wh3 (Or.inl (List.mem_cons_self ..))
  exact Go.retV C d_callNR_25 (by decide) (by decide) ⟨rfl, E, F2, F3⟩
theorem d_opNR_0 : decode prog_15_method_8_code 0 = .ok (.aload_n 0, 1) := by decide +kernel
theorem d_opNR_1 : decode prog_15_method_8_code 1 = .ok (.getfield 21, 3) := by decide +kernel
theorem d_opNR_4 : decode prog_15_method_8_code 4 = .ok (.ifnull 14, 3) := by decide +kernel
theorem d_opNR_18 : decode prog_15_method_8_code 18 = .ok (.iconst 0, 1) := by decide +kernel
theorem d_opNR_19 : decode prog_15_method_8_code 19 = .ok (.ireturn, 1) := by decide +kernel
theorem pn_opNR : plainName "com/example/tenderbook/tenderbook/model/Call" = true := by first | (simp [plainName, overriddenIn]; done) | decide +kernel
theorem ef_opNR (m : MethodId) (x0 : Addr)  : entryFrame m #[(.ref x0)] 1 = mkF m 0 #[.val (.ref x0)] [] := by first | (simp [entryFrame, mkF, argsToLocals, Value.category]; done) | rfl
set_option maxRecDepth 65536 in
set_option maxHeartbeats 40000000 in
theorem P_opNR (l : Launch) (Z : State) (a0 : Array Value) (hw : ∀ d ∈ tables_1, d.before a0 Z = true) (hEL : EW Z a0 consts_1) (a qq : Addr) (h0 : Heap) (F2 : Fld Z h0 a "com/example/tenderbook/tenderbook/model/Call" "reason" "Lcom/example/tenderbook/tenderbook/model/CallFailure;" .null) (F3 : Fld Z h0 a "com/example/tenderbook/tenderbook/model/Call" "closedBy" "Ljava/lang/String;" (.ref qq)) :
    Pays l Z consts_1 [] (⟨"com/example/tenderbook/tenderbook/model/Call", "isOpenItem", "()Z"⟩ : MethodName) prog_15_method_8_code 1 (some .boolean) ({ frames := 0, cells := 0, slots := 0, locals := 0 } : Room) #[(.ref a)] h0 (fun v h => v = some (.int (0 : Int32)) ∧ h0 = h) := by
  refine pays_of_go hEL (plainFor_of_name pn_opNR) (fun m => ef_opNR m a) ?_
  intro p e s m below meth c C0
  have C : Cx p s m meth c prog_15_method_8_code 1 (some .boolean) "isOpenItem" "com/example/tenderbook/tenderbook/model/Call" Z a0 consts_1 := C0
  show Go p l e ({ frames := 0, cells := 0, slots := 0, locals := 0 } : Room) s m #[(.ref a)] below meth c "com/example/tenderbook/tenderbook/model/Call" Z consts_1 [] (fun v h => v = some (.int (0 : Int32)) ∧ h0 = h) h0 0 0 (mkF m 0 #[.val (.ref a)] [])
  refine Go.plain (g' := (mkF m 1 #[.val (.ref a)] [(.ref a)])) (fun s_ T_ L_ X_ t_ q_ => XS.aloadN X_.here C.hx rfl (C.d d_opNR_0) rfl rfl q_) ?_
  refine Go.getF C (host := "") (Or.inl (hw _ (List.mem_of_getElem? (i := 49) rfl))) Via.refl F2 d_opNR_1 (pc' := 4) rfl ?_
  refine Go.plain (g' := (mkF m 18 #[.val (.ref a)] [])) (fun s_ T_ L_ X_ t_ q_ => XS.ifnullYes X_.here C.hx rfl (pc0 := 4) (pc' := 18) rfl (C.d d_opNR_4) rfl (by decide) (by decide) q_) ?_
  refine Go.plain (g' := (mkF m 19 #[.val (.ref a)] [(.int (0 : Int32))])) (fun s_ T_ L_ X_ t_ q_ => XS.iconst X_.here C.hx rfl (C.d d_opNR_18) q_) ?_
  exact Go.retN C (by simp) d_opNR_19 (by decide) (by decide) ⟨rfl, rfl⟩
theorem d_awNR_0 : decode prog_15_method_7_code 0 = .ok (.aload_n 0, 1) := by decide +kernel
theorem d_awNR_1 : decode prog_15_method_7_code 1 = .ok (.getfield 21, 3) := by decide +kernel
theorem d_awNR_4 : decode prog_15_method_7_code 4 = .ok (.ifnonnull 14, 3) := by decide +kernel
theorem d_awNR_7 : decode prog_15_method_7_code 7 = .ok (.aload_n 0, 1) := by decide +kernel
theorem d_awNR_8 : decode prog_15_method_7_code 8 = .ok (.getfield 25, 3) := by decide +kernel
theorem d_awNR_11 : decode prog_15_method_7_code 11 = .ok (.ifnonnull 7, 3) := by decide +kernel
theorem d_awNR_18 : decode prog_15_method_7_code 18 = .ok (.iconst 0, 1) := by decide +kernel
theorem d_awNR_19 : decode prog_15_method_7_code 19 = .ok (.ireturn, 1) := by decide +kernel
theorem pn_awNR : plainName "com/example/tenderbook/tenderbook/model/Call" = true := by first | (simp [plainName, overriddenIn]; done) | decide +kernel
theorem ef_awNR (m : MethodId) (x0 : Addr)  : entryFrame m #[(.ref x0)] 1 = mkF m 0 #[.val (.ref x0)] [] := by first | (simp [entryFrame, mkF, argsToLocals, Value.category]; done) | rfl
set_option maxRecDepth 65536 in
set_option maxHeartbeats 40000000 in
theorem P_awNR (l : Launch) (Z : State) (a0 : Array Value) (hw : ∀ d ∈ tables_1, d.before a0 Z = true) (hEL : EW Z a0 consts_1) (a qq : Addr) (h0 : Heap) (F2 : Fld Z h0 a "com/example/tenderbook/tenderbook/model/Call" "reason" "Lcom/example/tenderbook/tenderbook/model/CallFailure;" .null) (F3 : Fld Z h0 a "com/example/tenderbook/tenderbook/model/Call" "closedBy" "Ljava/lang/String;" (.ref qq)) :
    Pays l Z consts_1 [] (⟨"com/example/tenderbook/tenderbook/model/Call", "isAwaited", "()Z"⟩ : MethodName) prog_15_method_7_code 1 (some .boolean) ({ frames := 0, cells := 0, slots := 0, locals := 0 } : Room) #[(.ref a)] h0 (fun v h => v = some (.int (0 : Int32)) ∧ h0 = h) := by
  refine pays_of_go hEL (plainFor_of_name pn_awNR) (fun m => ef_awNR m a) ?_
  intro p e s m below meth c C0
  have C : Cx p s m meth c prog_15_method_7_code 1 (some .boolean) "isAwaited" "com/example/tenderbook/tenderbook/model/Call" Z a0 consts_1 := C0
  show Go p l e ({ frames := 0, cells := 0, slots := 0, locals := 0 } : Room) s m #[(.ref a)] below meth c "com/example/tenderbook/tenderbook/model/Call" Z consts_1 [] (fun v h => v = some (.int (0 : Int32)) ∧ h0 = h) h0 0 0 (mkF m 0 #[.val (.ref a)] [])
  refine Go.plain (g' := (mkF m 1 #[.val (.ref a)] [(.ref a)])) (fun s_ T_ L_ X_ t_ q_ => XS.aloadN X_.here C.hx rfl (C.d d_awNR_0) rfl rfl q_) ?_
  refine Go.getF C (host := "") (Or.inl (hw _ (List.mem_of_getElem? (i := 49) rfl))) Via.refl F2 d_awNR_1 (pc' := 4) rfl ?_
  refine Go.plain (g' := (mkF m 7 #[.val (.ref a)] [])) (fun s_ T_ L_ X_ t_ q_ => XS.ifnonnullNo X_.here C.hx rfl (C.d d_awNR_4) rfl q_) ?_
  refine Go.plain (g' := (mkF m 8 #[.val (.ref a)] [(.ref a)])) (fun s_ T_ L_ X_ t_ q_ => XS.aloadN X_.here C.hx rfl (C.d d_awNR_7) rfl rfl q_) ?_
  refine Go.getF C (host := "") (Or.inl (hw _ (List.mem_of_getElem? (i := 51) rfl))) Via.refl F3 d_awNR_8 (pc' := 11) rfl ?_
  refine Go.plain (g' := (mkF m 18 #[.val (.ref a)] [])) (fun s_ T_ L_ X_ t_ q_ => XS.ifnonnullYes X_.here C.hx rfl (pc0 := 11) (pc' := 18) rfl (C.d d_awNR_11) rfl (by decide) (by decide) q_) ?_
  refine Go.plain (g' := (mkF m 19 #[.val (.ref a)] [(.int (0 : Int32))])) (fun s_ T_ L_ X_ t_ q_ => XS.iconst X_.here C.hx rfl (C.d d_awNR_18) q_) ?_
  exact Go.retN C (by simp) d_awNR_19 (by decide) (by decide) ⟨rfl, rfl⟩
theorem d_callRN_0 : decode prog_15_method_1_code 0 = .ok (.aload_n 0, 1) := by decide +kernel
theorem d_callRN_1 : decode prog_15_method_1_code 1 = .ok (.invokespecial 1, 3) := by decide +kernel
theorem d_callRN_4 : decode prog_15_method_1_code 4 = .ok (.aload_n 0, 1) := by decide +kernel
theorem d_callRN_5 : decode prog_15_method_1_code 5 = .ok (.aload_n 1, 1) := by decide +kernel
theorem d_callRN_6 : decode prog_15_method_1_code 6 = .ok (.invokestatic 7, 3) := by decide +kernel
theorem d_callRN_9 : decode prog_15_method_1_code 9 = .ok (.checkcast 13, 3) := by decide +kernel
theorem d_callRN_12 : decode prog_15_method_1_code 12 = .ok (.putfield 15, 3) := by decide +kernel
theorem d_callRN_15 : decode prog_15_method_1_code 15 = .ok (.aload_n 0, 1) := by decide +kernel
theorem d_callRN_16 : decode prog_15_method_1_code 16 = .ok (.aload_n 2, 1) := by decide +kernel
theorem d_callRN_17 : decode prog_15_method_1_code 17 = .ok (.putfield 21, 3) := by decide +kernel
theorem d_callRN_20 : decode prog_15_method_1_code 20 = .ok (.aload_n 0, 1) := by decide +kernel
theorem d_callRN_21 : decode prog_15_method_1_code 21 = .ok (.aload_n 3, 1) := by decide +kernel
theorem d_callRN_22 : decode prog_15_method_1_code 22 = .ok (.putfield 25, 3) := by decide +kernel
theorem d_callRN_25 : decode prog_15_method_1_code 25 = .ok (.return_, 1) := by decide +kernel
theorem pn_callRN : plainName "com/example/tenderbook/tenderbook/model/Call" = true := by first | (simp [plainName, overriddenIn]; done) | decide +kernel
theorem ef_callRN (m : MethodId) (x0 : Addr) (x1 : Addr) (x2 : Addr)  : entryFrame m #[(.ref x0), (.ref x1), (.ref x2), .null] 4 = mkF m 0 #[.val (.ref x0), .val (.ref x1), .val (.ref x2), .val .null] [] := by first | (simp [entryFrame, mkF, argsToLocals, Value.category]; done) | rfl
set_option maxRecDepth 65536 in
set_option maxHeartbeats 40000000 in
theorem P_callRN (l : Launch) (Z : State) (a0 : Array Value) (hw : ∀ d ∈ tables_1, d.before a0 Z = true) (hEL : EW Z a0 consts_1) (a b rr : Addr) (h0 : Heap) (E : Exa Z h0 a "com/example/tenderbook/tenderbook/model/Call") (F1 : Fld Z h0 a "com/example/tenderbook/tenderbook/model/Call" "requestId" "Ljava/lang/String;" .null) (F2 : Fld Z h0 a "com/example/tenderbook/tenderbook/model/Call" "reason" "Lcom/example/tenderbook/tenderbook/model/CallFailure;" .null) (F3 : Fld Z h0 a "com/example/tenderbook/tenderbook/model/Call" "closedBy" "Ljava/lang/String;" .null) (ge : Z.heap.size ≤ a) (EB : Exa Z h0 b "java/lang/String") :
    Pays l Z consts_1 [] (⟨"com/example/tenderbook/tenderbook/model/Call", "<init>", "(Ljava/lang/String;Lcom/example/tenderbook/tenderbook/model/CallFailure;Ljava/lang/String;)V"⟩ : MethodName) prog_15_method_1_code 4 none ({ frames := 1, cells := 0, slots := 0, locals := 13 } : Room) #[(.ref a), (.ref b), (.ref rr), .null] h0 (fun v h => v = none ∧ Exa Z h a "com/example/tenderbook/tenderbook/model/Call" ∧ Fld Z h a "com/example/tenderbook/tenderbook/model/Call" "reason" "Lcom/example/tenderbook/tenderbook/model/CallFailure;" (.ref rr) ∧ Fld Z h a "com/example/tenderbook/tenderbook/model/Call" "closedBy" "Ljava/lang/String;" .null) := by
  refine pays_of_go hEL (plainFor_of_name pn_callRN) (fun m => ef_callRN m a b rr) ?_
  intro p e s m below meth c C0
  have C : Cx p s m meth c prog_15_method_1_code 4 none "<init>" "com/example/tenderbook/tenderbook/model/Call" Z a0 consts_1 := C0
  show Go p l e ({ frames := 1, cells := 0, slots := 0, locals := 13 } : Room) s m #[(.ref a), (.ref b), (.ref rr), .null] below meth c "com/example/tenderbook/tenderbook/model/Call" Z consts_1 [] (fun v h => v = none ∧ Exa Z h a "com/example/tenderbook/tenderbook/model/Call" ∧ Fld Z h a "com/example/tenderbook/tenderbook/model/Call" "reason" "Lcom/example/tenderbook/tenderbook/model/CallFailure;" (.ref rr) ∧ Fld Z h a "com/example/tenderbook/tenderbook/model/Call" "closedBy" "Ljava/lang/String;" .null) h0 0 0 (mkF m 0 #[.val (.ref a), .val (.ref b), .val (.ref rr), .val .null] [])
  have K0 : Keep h0 h0 [a] := Keep.refl _ _
  refine Go.plain (g' := (mkF m 1 #[.val (.ref a), .val (.ref b), .val (.ref rr), .val .null] [(.ref a)])) (fun s_ T_ L_ X_ t_ q_ => XS.aloadN X_.here C.hx rfl (C.d d_callRN_0) rfl rfl q_) ?_
  refine Go.initO C (hw _ (List.mem_of_getElem? (i := 41) rfl)) (hw _ (List.mem_of_getElem? (i := 17) rfl)) (hw _ (List.mem_of_getElem? (i := 18) rfl)) d_callRN_1 (pc' := 4) rfl rfl (by decide) (W := 0) (Nat.le_of_eq rfl) (by decide) ?_
  refine Go.plain (g' := (mkF m 5 #[.val (.ref a), .val (.ref b), .val (.ref rr), .val .null] [(.ref a)])) (fun s_ T_ L_ X_ t_ q_ => XS.aloadN X_.here C.hx rfl (C.d d_callRN_4) rfl rfl q_) ?_
  refine Go.plain (g' := (mkF m 6 #[.val (.ref a), .val (.ref b), .val (.ref rr), .val .null] [(.ref b), (.ref a)])) (fun s_ T_ L_ X_ t_ q_ => XS.aloadN X_.here C.hx rfl (C.d d_callRN_5) rfl rfl q_) ?_
  refine Go.static C (P_rnn l Z a0 hw hEL b h0) (fun _ q => nomatch q) (hw _ (List.mem_of_getElem? (i := 42) rfl)) (hw _ (List.mem_of_getElem? (i := 43) rfl)) (hw _ (List.mem_of_getElem? (i := 44) rfl)) (hw _ (List.mem_of_getElem? (i := 45) rfl)) (by decide) pd_1 (argsL := [(.ref b)]) (rest := [(.ref a)]) rfl rfl d_callRN_6 (pc' := 9) rfl rfl rfl (W := 1) (Nat.le_of_eq rfl) (by decide) (by decide) (k' := 0) (n' := 0) rfl rfl (by decide) (by decide) ?_
  rintro _ _ ⟨rfl, rfl⟩
  show Go p l e ({ frames := 1, cells := 0, slots := 0, locals := 13 } : Room) s m #[(.ref a), (.ref b), (.ref rr), .null] below meth c "com/example/tenderbook/tenderbook/model/Call" Z consts_1 [] (fun v h => v = none ∧ Exa Z h a "com/example/tenderbook/tenderbook/model/Call" ∧ Fld Z h a "com/example/tenderbook/tenderbook/model/Call" "reason" "Lcom/example/tenderbook/tenderbook/model/CallFailure;" (.ref rr) ∧ Fld Z h a "com/example/tenderbook/tenderbook/model/Call" "closedBy" "Ljava/lang/String;" .null) h0 0 0 (mkF m 9 #[.val (.ref a), .val (.ref b), .val (.ref rr), .val .null] [(.ref b), (.ref a)])
  refine Go.cast C (hw _ (List.mem_of_getElem? (i := 46) rfl)) (Ins.self EB) d_callRN_9 (pc' := 12) rfl ?_
  refine Go.putF C (host := "") (Or.inl (hw _ (List.mem_of_getElem? (i := 47) rfl))) Via.refl F1 E (Or.inr ⟨(hw _ (List.mem_of_getElem? (i := 48) rfl)), rfl, rfl⟩) (hw _ (List.mem_of_getElem? (i := 36) rfl)) (ty := (.object "java/lang/String")) (by decide) rfl rfl ge (Or.inr ⟨by decide, by decide⟩) d_callRN_12 (pc' := 15) rfl ?_
  intro h1 Wh1
  have F1 := F1.same Wh1
  have F2 := F2.other Wh1 (Or.inr (slot_ne (Or.inr (hw _ (List.mem_of_getElem? (i := 50) rfl))) (Or.inr (hw _ (List.mem_of_getElem? (i := 48) rfl))) (by decide) (t := (.object "com/example/tenderbook/tenderbook/model/CallFailure")) (t' := (.object "java/lang/String")) (by decide) (by decide)))
  have F3 := F3.other Wh1 (Or.inr (slot_ne (Or.inr (hw _ (List.mem_of_getElem? (i := 52) rfl))) (Or.inr (hw _ (List.mem_of_getElem? (i := 48) rfl))) (by decide) (t := (.object "java/lang/String")) (t' := (.object "java/lang/String")) (by decide) (by decide)))
  have E := E.wr Wh1
  have K0 := K0.wr Wh1 (Or.inl (List.mem_cons_self ..))
  refine Go.plain (g' := (mkF m 16 #[.val (.ref a), .val (.ref b), .val (.ref rr), .val .null] [(.ref a)])) (fun s_ T_ L_ X_ t_ q_ => XS.aloadN X_.here C.hx rfl (C.d d_callRN_15) rfl rfl q_) ?_
  refine Go.plain (g' := (mkF m 17 #[.val (.ref a), .val (.ref b), .val (.ref rr), .val .null] [(.ref rr), (.ref a)])) (fun s_ T_ L_ X_ t_ q_ => XS.aloadN X_.here C.hx rfl (C.d d_callRN_16) rfl rfl q_) ?_
  refine Go.putF C (host := "") (Or.inl (hw _ (List.mem_of_getElem? (i := 49) rfl))) Via.refl F2 E (Or.inr ⟨(hw _ (List.mem_of_getElem? (i := 50) rfl)), rfl, rfl⟩) (hw _ (List.mem_of_getElem? (i := 36) rfl)) (ty := (.object "com/example/tenderbook/tenderbook/model/CallFailure")) (by decide) rfl rfl ge (Or.inr ⟨by decide, by decide⟩) d_callRN_17 (pc' := 20) rfl ?_
  intro h2 Wh2
  have F1 := F1.other Wh2 (Or.inr (slot_ne (Or.inr (hw _ (List.mem_of_getElem? (i := 48) rfl))) (Or.inr (hw _ (List.mem_of_getElem? (i := 50) rfl))) (by decide) (t := (.object "java/lang/String")) (t' := (.object "com/example/tenderbook/tenderbook/model/CallFailure")) (by decide) (by decide)))
  have F2 := F2.same Wh2
  have F3 := F3.other Wh2 (Or.inr (slot_ne (Or.inr (hw _ (List.mem_of_getElem? (i := 52) rfl))) (Or.inr (hw _ (List.mem_of_getElem? (i := 50) rfl))) (by decide) (t := (.object "java/lang/String")) (t' := (.object "com/example/tenderbook/tenderbook/model/CallFailure")) (by decide) (by decide)))
  have E := E.wr Wh2
  have K0 := K0.wr Wh2 (Or.inl (List.mem_cons_self ..))
  refine Go.plain (g' := (mkF m 21 #[.val (.ref a), .val (.ref b), .val (.ref rr), .val .null] [(.ref a)])) (fun s_ T_ L_ X_ t_ q_ => XS.aloadN X_.here C.hx rfl (C.d d_callRN_20) rfl rfl q_) ?_
  refine Go.plain (g' := (mkF m 22 #[.val (.ref a), .val (.ref b), .val (.ref rr), .val .null] [.null, (.ref a)])) (fun s_ T_ L_ X_ t_ q_ => XS.aloadN X_.here C.hx rfl (C.d d_callRN_21) rfl rfl q_) ?_
  refine Go.putF C (host := "") (Or.inl (hw _ (List.mem_of_getElem? (i := 51) rfl))) Via.refl F3 E (Or.inr ⟨(hw _ (List.mem_of_getElem? (i := 52) rfl)), rfl, rfl⟩) (hw _ (List.mem_of_getElem? (i := 36) rfl)) (ty := (.object "java/lang/String")) (by decide) rfl rfl ge (Or.inr ⟨by decide, by decide⟩) d_callRN_22 (pc' := 25) rfl ?_
  intro h3 Wh3
  have F1 := F1.other Wh3 (Or.inr (slot_ne (Or.inr (hw _ (List.mem_of_getElem? (i := 48) rfl))) (Or.inr (hw _ (List.mem_of_getElem? (i := 52) rfl))) (by decide) (t := (.object "java/lang/String")) (t' := (.object "java/lang/String")) (by decide) (by decide)))
  have F2 := F2.other Wh3 (Or.inr (slot_ne (Or.inr (hw _ (List.mem_of_getElem? (i := 50) rfl))) (Or.inr (hw _ (List.mem_of_getElem? (i := 52) rfl))) (by decide) (t := (.object "com/example/tenderbook/tenderbook/model/CallFailure")) (t' := (.object "java/lang/String")) (by decide) (by decide)))
  have F3 := F3.same Wh3
  have E := E.wr Wh3
  have K0 := K0.wr Wh3 (Or.inl (List.mem_cons_self ..))
  exact Go.retV C d_callRN_25 (by decide) (by decide) ⟨rfl, E, F2, F3⟩
theorem d_opRN_0 : decode prog_15_method_8_code 0 = .ok (.aload_n 0, 1) := by decide +kernel
theorem d_opRN_1 : decode prog_15_method_8_code 1 = .ok (.getfield 21, 3) := by decide +kernel
theorem d_opRN_4 : decode prog_15_method_8_code 4 = .ok (.ifnull 14, 3) := by decide +kernel
theorem d_opRN_7 : decode prog_15_method_8_code 7 = .ok (.aload_n 0, 1) := by decide +kernel
theorem d_opRN_8 : decode prog_15_method_8_code 8 = .ok (.getfield 25, 3) := by decide +kernel
theorem d_opRN_11 : decode prog_15_method_8_code 11 = .ok (.ifnonnull 7, 3) := by decide +kernel
theorem d_opRN_14 : decode prog_15_method_8_code 14 = .ok (.iconst 1, 1) := by decide +kernel
theorem d_opRN_15 : decode prog_15_method_8_code 15 = .ok (.goto 4, 3) := by decide +kernel
theorem d_opRN_19 : decode prog_15_method_8_code 19 = .ok (.ireturn, 1) := by decide +kernel
theorem pn_opRN : plainName "com/example/tenderbook/tenderbook/model/Call" = true := by first | (simp [plainName, overriddenIn]; done) | decide +kernel
theorem ef_opRN (m : MethodId) (x0 : Addr)  : entryFrame m #[(.ref x0)] 1 = mkF m 0 #[.val (.ref x0)] [] := by first | (simp [entryFrame, mkF, argsToLocals, Value.category]; done) | rfl
set_option maxRecDepth 65536 in
set_option maxHeartbeats 40000000 in
theorem P_opRN (l : Launch) (Z : State) (a0 : Array Value) (hw : ∀ d ∈ tables_1, d.before a0 Z = true) (hEL : EW Z a0 consts_1) (a rr : Addr) (h0 : Heap) (F2 : Fld Z h0 a "com/example/tenderbook/tenderbook/model/Call" "reason" "Lcom/example/tenderbook/tenderbook/model/CallFailure;" (.ref rr)) (F3 : Fld Z h0 a "com/example/tenderbook/tenderbook/model/Call" "closedBy" "Ljava/lang/String;" .null) :
    Pays l Z consts_1 [] (⟨"com/example/tenderbook/tenderbook/model/Call", "isOpenItem", "()Z"⟩ : MethodName) prog_15_method_8_code 1 (some .boolean) ({ frames := 0, cells := 0, slots := 0, locals := 0 } : Room) #[(.ref a)] h0 (fun v h => v = some (.int (1 : Int32)) ∧ h0 = h) := by
  refine pays_of_go hEL (plainFor_of_name pn_opRN) (fun m => ef_opRN m a) ?_
  intro p e s m below meth c C0
  have C : Cx p s m meth c prog_15_method_8_code 1 (some .boolean) "isOpenItem" "com/example/tenderbook/tenderbook/model/Call" Z a0 consts_1 := C0
  show Go p l e ({ frames := 0, cells := 0, slots := 0, locals := 0 } : Room) s m #[(.ref a)] below meth c "com/example/tenderbook/tenderbook/model/Call" Z consts_1 [] (fun v h => v = some (.int (1 : Int32)) ∧ h0 = h) h0 0 0 (mkF m 0 #[.val (.ref a)] [])
  refine Go.plain (g' := (mkF m 1 #[.val (.ref a)] [(.ref a)])) (fun s_ T_ L_ X_ t_ q_ => XS.aloadN X_.here C.hx rfl (C.d d_opRN_0) rfl rfl q_) ?_
  refine Go.getF C (host := "") (Or.inl (hw _ (List.mem_of_getElem? (i := 49) rfl))) Via.refl F2 d_opRN_1 (pc' := 4) rfl ?_
  refine Go.plain (g' := (mkF m 7 #[.val (.ref a)] [])) (fun s_ T_ L_ X_ t_ q_ => XS.ifnullNo X_.here C.hx rfl (C.d d_opRN_4) rfl q_) ?_
  refine Go.plain (g' := (mkF m 8 #[.val (.ref a)] [(.ref a)])) (fun s_ T_ L_ X_ t_ q_ => XS.aloadN X_.here C.hx rfl (C.d d_opRN_7) rfl rfl q_) ?_
  refine Go.getF C (host := "") (Or.inl (hw _ (List.mem_of_getElem? (i := 51) rfl))) Via.refl F3 d_opRN_8 (pc' := 11) rfl ?_
  refine Go.plain (g' := (mkF m 14 #[.val (.ref a)] [])) (fun s_ T_ L_ X_ t_ q_ => XS.ifnonnullNo X_.here C.hx rfl (C.d d_opRN_11) rfl q_) ?_
  refine Go.plain (g' := (mkF m 15 #[.val (.ref a)] [(.int (1 : Int32))])) (fun s_ T_ L_ X_ t_ q_ => XS.iconst X_.here C.hx rfl (C.d d_opRN_14) q_) ?_
  refine Go.plain (g' := (mkF m 19 #[.val (.ref a)] [(.int (1 : Int32))])) (fun s_ T_ L_ X_ t_ q_ => XS.goto X_.here C.hx rfl (pc0 := 15) (pc' := 19) rfl (C.d d_opRN_15) (by decide) (by decide) q_) ?_
  exact Go.retN C (by simp) d_opRN_19 (by decide) (by decide) ⟨rfl, rfl⟩
theorem d_awRN_0 : decode prog_15_method_7_code 0 = .ok (.aload_n 0, 1) := by decide +kernel
theorem d_awRN_1 : decode prog_15_method_7_code 1 = .ok (.getfield 21, 3) := by decide +kernel
theorem d_awRN_4 : decode prog_15_method_7_code 4 = .ok (.ifnonnull 14, 3) := by decide +kernel
theorem d_awRN_18 : decode prog_15_method_7_code 18 = .ok (.iconst 0, 1) := by decide +kernel
theorem d_awRN_19 : decode prog_15_method_7_code 19 = .ok (.ireturn, 1) := by decide +kernel
theorem pn_awRN : plainName "com/example/tenderbook/tenderbook/model/Call" = true := by first | (simp [plainName, overriddenIn]; done) | decide +kernel
theorem ef_awRN (m : MethodId) (x0 : Addr)  : entryFrame m #[(.ref x0)] 1 = mkF m 0 #[.val (.ref x0)] [] := by first | (simp [entryFrame, mkF, argsToLocals, Value.category]; done) | rfl
set_option maxRecDepth 65536 in
set_option maxHeartbeats 40000000 in
theorem P_awRN (l : Launch) (Z : State) (a0 : Array Value) (hw : ∀ d ∈ tables_1, d.before a0 Z = true) (hEL : EW Z a0 consts_1) (a rr : Addr) (h0 : Heap) (F2 : Fld Z h0 a "com/example/tenderbook/tenderbook/model/Call" "reason" "Lcom/example/tenderbook/tenderbook/model/CallFailure;" (.ref rr)) (F3 : Fld Z h0 a "com/example/tenderbook/tenderbook/model/Call" "closedBy" "Ljava/lang/String;" .null) :
    Pays l Z consts_1 [] (⟨"com/example/tenderbook/tenderbook/model/Call", "isAwaited", "()Z"⟩ : MethodName) prog_15_method_7_code 1 (some .boolean) ({ frames := 0, cells := 0, slots := 0, locals := 0 } : Room) #[(.ref a)] h0 (fun v h => v = some (.int (0 : Int32)) ∧ h0 = h) := by
  refine pays_of_go hEL (plainFor_of_name pn_awRN) (fun m => ef_awRN m a) ?_
  intro p e s m below meth c C0
  have C : Cx p s m meth c prog_15_method_7_code 1 (some .boolean) "isAwaited" "com/example/tenderbook/tenderbook/model/Call" Z a0 consts_1 := C0
  show Go p l e ({ frames := 0, cells := 0, slots := 0, locals := 0 } : Room) s m #[(.ref a)] below meth c "com/example/tenderbook/tenderbook/model/Call" Z consts_1 [] (fun v h => v = some (.int (0 : Int32)) ∧ h0 = h) h0 0 0 (mkF m 0 #[.val (.ref a)] [])
  refine Go.plain (g' := (mkF m 1 #[.val (.ref a)] [(.ref a)])) (fun s_ T_ L_ X_ t_ q_ => XS.aloadN X_.here C.hx rfl (C.d d_awRN_0) rfl rfl q_) ?_
  refine Go.getF C (host := "") (Or.inl (hw _ (List.mem_of_getElem? (i := 49) rfl))) Via.refl F2 d_awRN_1 (pc' := 4) rfl ?_
  refine Go.plain (g' := (mkF m 18 #[.val (.ref a)] [])) (fun s_ T_ L_ X_ t_ q_ => XS.ifnonnullYes X_.here C.hx rfl (pc0 := 4) (pc' := 18) rfl (C.d d_awRN_4) rfl (by decide) (by decide) q_) ?_
  refine Go.plain (g' := (mkF m 19 #[.val (.ref a)] [(.int (0 : Int32))])) (fun s_ T_ L_ X_ t_ q_ => XS.iconst X_.here C.hx rfl (C.d d_awRN_18) q_) ?_
  exact Go.retN C (by simp) d_awRN_19 (by decide) (by decide) ⟨rfl, rfl⟩
theorem d_callRR_0 : decode prog_15_method_1_code 0 = .ok (.aload_n 0, 1) := by decide +kernel
theorem d_callRR_1 : decode prog_15_method_1_code 1 = .ok (.invokespecial 1, 3) := by decide +kernel
theorem d_callRR_4 : decode prog_15_method_1_code 4 = .ok (.aload_n 0, 1) := by decide +kernel
theorem d_callRR_5 : decode prog_15_method_1_code 5 = .ok (.aload_n 1, 1) := by decide +kernel
theorem d_callRR_6 : decode prog_15_method_1_code 6 = .ok (.invokestatic 7, 3) := by decide +kernel
theorem d_callRR_9 : decode prog_15_method_1_code 9 = .ok (.checkcast 13, 3) := by decide +kernel
theorem d_callRR_12 : decode prog_15_method_1_code 12 = .ok (.putfield 15, 3) := by decide +kernel
theorem d_callRR_15 : decode prog_15_method_1_code 15 = .ok (.aload_n 0, 1) := by decide +kernel
theorem d_callRR_16 : decode prog_15_method_1_code 16 = .ok (.aload_n 2, 1) := by decide +kernel
theorem d_callRR_17 : decode prog_15_method_1_code 17 = .ok (.putfield 21, 3) := by decide +kernel
theorem d_callRR_20 : decode prog_15_method_1_code 20 = .ok (.aload_n 0, 1) := by decide +kernel
theorem d_callRR_21 : decode prog_15_method_1_code 21 = .ok (.aload_n 3, 1) := by decide +kernel
theorem d_callRR_22 : decode prog_15_method_1_code 22 = .ok (.putfield 25, 3) := by decide +kernel
theorem d_callRR_25 : decode prog_15_method_1_code 25 = .ok (.return_, 1) := by decide +kernel
theorem pn_callRR : plainName "com/example/tenderbook/tenderbook/model/Call" = true := by first | (simp [plainName, overriddenIn]; done) | decide +kernel
theorem ef_callRR (m : MethodId) (x0 : Addr) (x1 : Addr) (x2 : Addr) (x3 : Addr)  : entryFrame m #[(.ref x0), (.ref x1), (.ref x2), (.ref x3)] 4 = mkF m 0 #[.val (.ref x0), .val (.ref x1), .val (.ref x2), .val (.ref x3)] [] := by first | (simp [entryFrame, mkF, argsToLocals, Value.category]; done) | rfl
set_option maxRecDepth 65536 in
set_option maxHeartbeats 40000000 in
theorem P_callRR (l : Launch) (Z : State) (a0 : Array Value) (hw : ∀ d ∈ tables_1, d.before a0 Z = true) (hEL : EW Z a0 consts_1) (a b rr qq : Addr) (h0 : Heap) (E : Exa Z h0 a "com/example/tenderbook/tenderbook/model/Call") (F1 : Fld Z h0 a "com/example/tenderbook/tenderbook/model/Call" "requestId" "Ljava/lang/String;" .null) (F2 : Fld Z h0 a "com/example/tenderbook/tenderbook/model/Call" "reason" "Lcom/example/tenderbook/tenderbook/model/CallFailure;" .null) (F3 : Fld Z h0 a "com/example/tenderbook/tenderbook/model/Call" "closedBy" "Ljava/lang/String;" .null) (ge : Z.heap.size ≤ a) (EB : Exa Z h0 b "java/lang/String") :
    Pays l Z consts_1 [] (⟨"com/example/tenderbook/tenderbook/model/Call", "<init>", "(Ljava/lang/String;Lcom/example/tenderbook/tenderbook/model/CallFailure;Ljava/lang/String;)V"⟩ : MethodName) prog_15_method_1_code 4 none ({ frames := 1, cells := 0, slots := 0, locals := 13 } : Room) #[(.ref a), (.ref b), (.ref rr), (.ref qq)] h0 (fun v h => v = none ∧ Exa Z h a "com/example/tenderbook/tenderbook/model/Call" ∧ Fld Z h a "com/example/tenderbook/tenderbook/model/Call" "reason" "Lcom/example/tenderbook/tenderbook/model/CallFailure;" (.ref rr) ∧ Fld Z h a "com/example/tenderbook/tenderbook/model/Call" "closedBy" "Ljava/lang/String;" (.ref qq)) := by
  refine pays_of_go hEL (plainFor_of_name pn_callRR) (fun m => ef_callRR m a b rr qq) ?_
  intro p e s m below meth c C0
  have C : Cx p s m meth c prog_15_method_1_code 4 none "<init>" "com/example/tenderbook/tenderbook/model/Call" Z a0 consts_1 := C0
  show Go p l e ({ frames := 1, cells := 0, slots := 0, locals := 13 } : Room) s m #[(.ref a), (.ref b), (.ref rr), (.ref qq)] below meth c "com/example/tenderbook/tenderbook/model/Call" Z consts_1 [] (fun v h => v = none ∧ Exa Z h a "com/example/tenderbook/tenderbook/model/Call" ∧ Fld Z h a "com/example/tenderbook/tenderbook/model/Call" "reason" "Lcom/example/tenderbook/tenderbook/model/CallFailure;" (.ref rr) ∧ Fld Z h a "com/example/tenderbook/tenderbook/model/Call" "closedBy" "Ljava/lang/String;" (.ref qq)) h0 0 0 (mkF m 0 #[.val (.ref a), .val (.ref b), .val (.ref rr), .val (.ref qq)] [])
  have K0 : Keep h0 h0 [a] := Keep.refl _ _
  refine Go.plain (g' := (mkF m 1 #[.val (.ref a), .val (.ref b), .val (.ref rr), .val (.ref qq)] [(.ref a)])) (fun s_ T_ L_ X_ t_ q_ => XS.aloadN X_.here C.hx rfl (C.d d_callRR_0) rfl rfl q_) ?_
  refine Go.initO C (hw _ (List.mem_of_getElem? (i := 41) rfl)) (hw _ (List.mem_of_getElem? (i := 17) rfl)) (hw _ (List.mem_of_getElem? (i := 18) rfl)) d_callRR_1 (pc' := 4) rfl rfl (by decide) (W := 0) (Nat.le_of_eq rfl) (by decide) ?_
  refine Go.plain (g' := (mkF m 5 #[.val (.ref a), .val (.ref b), .val (.ref rr), .val (.ref qq)] [(.ref a)])) (fun s_ T_ L_ X_ t_ q_ => XS.aloadN X_.here C.hx rfl (C.d d_callRR_4) rfl rfl q_) ?_
  refine Go.plain (g' := (mkF m 6 #[.val (.ref a), .val (.ref b), .val (.ref rr), .val (.ref qq)] [(.ref b), (.ref a)])) (fun s_ T_ L_ X_ t_ q_ => XS.aloadN X_.here C.hx rfl (C.d d_callRR_5) rfl rfl q_) ?_
  refine Go.static C (P_rnn l Z a0 hw hEL b h0) (fun _ q => nomatch q) (hw _ (List.mem_of_getElem? (i := 42) rfl)) (hw _ (List.mem_of_getElem? (i := 43) rfl)) (hw _ (List.mem_of_getElem? (i := 44) rfl)) (hw _ (List.mem_of_getElem? (i := 45) rfl)) (by decide) pd_1 (argsL := [(.ref b)]) (rest := [(.ref a)]) rfl rfl d_callRR_6 (pc' := 9) rfl rfl rfl (W := 1) (Nat.le_of_eq rfl) (by decide) (by decide) (k' := 0) (n' := 0) rfl rfl (by decide) (by decide) ?_
  rintro _ _ ⟨rfl, rfl⟩
  show Go p l e ({ frames := 1, cells := 0, slots := 0, locals := 13 } : Room) s m #[(.ref a), (.ref b), (.ref rr), (.ref qq)] below meth c "com/example/tenderbook/tenderbook/model/Call" Z consts_1 [] (fun v h => v = none ∧ Exa Z h a "com/example/tenderbook/tenderbook/model/Call" ∧ Fld Z h a "com/example/tenderbook/tenderbook/model/Call" "reason" "Lcom/example/tenderbook/tenderbook/model/CallFailure;" (.ref rr) ∧ Fld Z h a "com/example/tenderbook/tenderbook/model/Call" "closedBy" "Ljava/lang/String;" (.ref qq)) h0 0 0 (mkF m 9 #[.val (.ref a), .val (.ref b), .val (.ref rr), .val (.ref qq)] [(.ref b), (.ref a)])
  refine Go.cast C (hw _ (List.mem_of_getElem? (i := 46) rfl)) (Ins.self EB) d_callRR_9 (pc' := 12) rfl ?_
  refine Go.putF C (host := "") (Or.inl (hw _ (List.mem_of_getElem? (i := 47) rfl))) Via.refl F1 E (Or.inr ⟨(hw _ (List.mem_of_getElem? (i := 48) rfl)), rfl, rfl⟩) (hw _ (List.mem_of_getElem? (i := 36) rfl)) (ty := (.object "java/lang/String")) (by decide) rfl rfl ge (Or.inr ⟨by decide, by decide⟩) d_callRR_12 (pc' := 15) rfl ?_
  intro h1 Wh1
  have F1 := F1.same Wh1
  have F2 := F2.other Wh1 (Or.inr (slot_ne (Or.inr (hw _ (List.mem_of_getElem? (i := 50) rfl))) (Or.inr (hw _ (List.mem_of_getElem? (i := 48) rfl))) (by decide) (t := (.object "com/example/tenderbook/tenderbook/model/CallFailure")) (t' := (.object "java/lang/String")) (by decide) (by decide)))
  have F3 := F3.other Wh1 (Or.inr (slot_ne (Or.inr (hw _ (List.mem_of_getElem? (i := 52) rfl))) (Or.inr (hw _ (List.mem_of_getElem? (i := 48) rfl))) (by decide) (t := (.object "java/lang/String")) (t' := (.object "java/lang/String")) (by decide) (by decide)))
  have E := E.wr Wh1
  have K0 := K0.wr Wh1 (Or.inl (List.mem_cons_self ..))
  refine Go.plain (g' := (mkF m 16 #[.val (.ref a), .val (.ref b), .val (.ref rr), .val (.ref qq)] [(.ref a)])) (fun s_ T_ L_ X_ t_ q_ => XS.aloadN X_.here C.hx rfl (C.d d_callRR_15) rfl rfl q_) ?_
  refine Go.plain (g' := (mkF m 17 #[.val (.ref a), .val (.ref b), .val (.ref rr), .val (.ref qq)] [(.ref rr), (.ref a)])) (fun s_ T_ L_ X_ t_ q_ => XS.aloadN X_.here C.hx rfl (C.d d_callRR_16) rfl rfl q_) ?_
  refine Go.putF C (host := "") (Or.inl (hw _ (List.mem_of_getElem? (i := 49) rfl))) Via.refl F2 E (Or.inr ⟨(hw _ (List.mem_of_getElem? (i := 50) rfl)), rfl, rfl⟩) (hw _ (List.mem_of_getElem? (i := 36) rfl)) (ty := (.object "com/example/tenderbook/tenderbook/model/CallFailure")) (by decide) rfl rfl ge (Or.inr ⟨by decide, by decide⟩) d_callRR_17 (pc' := 20) rfl ?_
  intro h2 Wh2
  have F1 := F1.other Wh2 (Or.inr (slot_ne (Or.inr (hw _ (List.mem_of_getElem? (i := 48) rfl))) (Or.inr (hw _ (List.mem_of_getElem? (i := 50) rfl))) (by decide) (t := (.object "java/lang/String")) (t' := (.object "com/example/tenderbook/tenderbook/model/CallFailure")) (by decide) (by decide)))
  have F2 := F2.same Wh2
  have F3 := F3.other Wh2 (Or.inr (slot_ne (Or.inr (hw _ (List.mem_of_getElem? (i := 52) rfl))) (Or.inr (hw _ (List.mem_of_getElem? (i := 50) rfl))) (by decide) (t := (.object "java/lang/String")) (t' := (.object "com/example/tenderbook/tenderbook/model/CallFailure")) (by decide) (by decide)))
  have E := E.wr Wh2
  have K0 := K0.wr Wh2 (Or.inl (List.mem_cons_self ..))
  refine Go.plain (g' := (mkF m 21 #[.val (.ref a), .val (.ref b), .val (.ref rr), .val (.ref qq)] [(.ref a)])) (fun s_ T_ L_ X_ t_ q_ => XS.aloadN X_.here C.hx rfl (C.d d_callRR_20) rfl rfl q_) ?_
  refine Go.plain (g' := (mkF m 22 #[.val (.ref a), .val (.ref b), .val (.ref rr), .val (.ref qq)] [(.ref qq), (.ref a)])) (fun s_ T_ L_ X_ t_ q_ => XS.aloadN X_.here C.hx rfl (C.d d_callRR_21) rfl rfl q_) ?_
  refine Go.putF C (host := "") (Or.inl (hw _ (List.mem_of_getElem? (i := 51) rfl))) Via.refl F3 E (Or.inr ⟨(hw _ (List.mem_of_getElem? (i := 52) rfl)), rfl, rfl⟩) (hw _ (List.mem_of_getElem? (i := 36) rfl)) (ty := (.object "java/lang/String")) (by decide) rfl rfl ge (Or.inr ⟨by decide, by decide⟩) d_callRR_22 (pc' := 25) rfl ?_
  intro h3 Wh3
  have F1 := F1.other Wh3 (Or.inr (slot_ne (Or.inr (hw _ (List.mem_of_getElem? (i := 48) rfl))) (Or.inr (hw _ (List.mem_of_getElem? (i := 52) rfl))) (by decide) (t := (.object "java/lang/String")) (t' := (.object "java/lang/String")) (by decide) (by decide)))
  have F2 := F2.other Wh3 (Or.inr (slot_ne (Or.inr (hw _ (List.mem_of_getElem? (i := 50) rfl))) (Or.inr (hw _ (List.mem_of_getElem? (i := 52) rfl))) (by decide) (t := (.object "com/example/tenderbook/tenderbook/model/CallFailure")) (t' := (.object "java/lang/String")) (by decide) (by decide)))
  have F3 := F3.same Wh3
  have E := E.wr Wh3
  have K0 := K0.wr Wh3 (Or.inl (List.mem_cons_self ..))
  exact Go.retV C d_callRR_25 (by decide) (by decide) ⟨rfl, E, F2, F3⟩
theorem d_opRR_0 : decode prog_15_method_8_code 0 = .ok (.aload_n 0, 1) := by decide +kernel
theorem d_opRR_1 : decode prog_15_method_8_code 1 = .ok (.getfield 21, 3) := by decide +kernel
theorem d_opRR_4 : decode prog_15_method_8_code 4 = .ok (.ifnull 14, 3) := by decide +kernel
theorem d_opRR_7 : decode prog_15_method_8_code 7 = .ok (.aload_n 0, 1) := by decide +kernel
theorem d_opRR_8 : decode prog_15_method_8_code 8 = .ok (.getfield 25, 3) := by decide +kernel
theorem d_opRR_11 : decode prog_15_method_8_code 11 = .ok (.ifnonnull 7, 3) := by decide +kernel
theorem d_opRR_18 : decode prog_15_method_8_code 18 = .ok (.iconst 0, 1) := by decide +kernel
theorem d_opRR_19 : decode prog_15_method_8_code 19 = .ok (.ireturn, 1) := by decide +kernel
theorem pn_opRR : plainName "com/example/tenderbook/tenderbook/model/Call" = true := by first | (simp [plainName, overriddenIn]; done) | decide +kernel
theorem ef_opRR (m : MethodId) (x0 : Addr)  : entryFrame m #[(.ref x0)] 1 = mkF m 0 #[.val (.ref x0)] [] := by first | (simp [entryFrame, mkF, argsToLocals, Value.category]; done) | rfl
set_option maxRecDepth 65536 in
set_option maxHeartbeats 40000000 in
theorem P_opRR (l : Launch) (Z : State) (a0 : Array Value) (hw : ∀ d ∈ tables_1, d.before a0 Z = true) (hEL : EW Z a0 consts_1) (a rr qq : Addr) (h0 : Heap) (F2 : Fld Z h0 a "com/example/tenderbook/tenderbook/model/Call" "reason" "Lcom/example/tenderbook/tenderbook/model/CallFailure;" (.ref rr)) (F3 : Fld Z h0 a "com/example/tenderbook/tenderbook/model/Call" "closedBy" "Ljava/lang/String;" (.ref qq)) :
    Pays l Z consts_1 [] (⟨"com/example/tenderbook/tenderbook/model/Call", "isOpenItem", "()Z"⟩ : MethodName) prog_15_method_8_code 1 (some .boolean) ({ frames := 0, cells := 0, slots := 0, locals := 0 } : Room) #[(.ref a)] h0 (fun v h => v = some (.int (0 : Int32)) ∧ h0 = h) := by
  refine pays_of_go hEL (plainFor_of_name pn_opRR) (fun m => ef_opRR m a) ?_
  intro p e s m below meth c C0
  have C : Cx p s m meth c prog_15_method_8_code 1 (some .boolean) "isOpenItem" "com/example/tenderbook/tenderbook/model/Call" Z a0 consts_1 := C0
  show Go p l e ({ frames := 0, cells := 0, slots := 0, locals := 0 } : Room) s m #[(.ref a)] below meth c "com/example/tenderbook/tenderbook/model/Call" Z consts_1 [] (fun v h => v = some (.int (0 : Int32)) ∧ h0 = h) h0 0 0 (mkF m 0 #[.val (.ref a)] [])
  refine Go.plain (g' := (mkF m 1 #[.val (.ref a)] [(.ref a)])) (fun s_ T_ L_ X_ t_ q_ => XS.aloadN X_.here C.hx rfl (C.d d_opRR_0) rfl rfl q_) ?_
  refine Go.getF C (host := "") (Or.inl (hw _ (List.mem_of_getElem? (i := 49) rfl))) Via.refl F2 d_opRR_1 (pc' := 4) rfl ?_
  refine Go.plain (g' := (mkF m 7 #[.val (.ref a)] [])) (fun s_ T_ L_ X_ t_ q_ => XS.ifnullNo X_.here C.hx rfl (C.d d_opRR_4) rfl q_) ?_
  refine Go.plain (g' := (mkF m 8 #[.val (.ref a)] [(.ref a)])) (fun s_ T_ L_ X_ t_ q_ => XS.aloadN X_.here C.hx rfl (C.d d_opRR_7) rfl rfl q_) ?_
  refine Go.getF C (host := "") (Or.inl (hw _ (List.mem_of_getElem? (i := 51) rfl))) Via.refl F3 d_opRR_8 (pc' := 11) rfl ?_
  refine Go.plain (g' := (mkF m 18 #[.val (.ref a)] [])) (fun s_ T_ L_ X_ t_ q_ => XS.ifnonnullYes X_.here C.hx rfl (pc0 := 11) (pc' := 18) rfl (C.d d_opRR_11) rfl (by decide) (by decide) q_) ?_
  refine Go.plain (g' := (mkF m 19 #[.val (.ref a)] [(.int (0 : Int32))])) (fun s_ T_ L_ X_ t_ q_ => XS.iconst X_.here C.hx rfl (C.d d_opRR_18) q_) ?_
  exact Go.retN C (by simp) d_opRR_19 (by decide) (by decide) ⟨rfl, rfl⟩
theorem d_awRR_0 : decode prog_15_method_7_code 0 = .ok (.aload_n 0, 1) := by decide +kernel
theorem d_awRR_1 : decode prog_15_method_7_code 1 = .ok (.getfield 21, 3) := by decide +kernel
theorem d_awRR_4 : decode prog_15_method_7_code 4 = .ok (.ifnonnull 14, 3) := by decide +kernel
theorem d_awRR_18 : decode prog_15_method_7_code 18 = .ok (.iconst 0, 1) := by decide +kernel
theorem d_awRR_19 : decode prog_15_method_7_code 19 = .ok (.ireturn, 1) := by decide +kernel
theorem pn_awRR : plainName "com/example/tenderbook/tenderbook/model/Call" = true := by first | (simp [plainName, overriddenIn]; done) | decide +kernel
theorem ef_awRR (m : MethodId) (x0 : Addr)  : entryFrame m #[(.ref x0)] 1 = mkF m 0 #[.val (.ref x0)] [] := by first | (simp [entryFrame, mkF, argsToLocals, Value.category]; done) | rfl
set_option maxRecDepth 65536 in
set_option maxHeartbeats 40000000 in
theorem P_awRR (l : Launch) (Z : State) (a0 : Array Value) (hw : ∀ d ∈ tables_1, d.before a0 Z = true) (hEL : EW Z a0 consts_1) (a rr qq : Addr) (h0 : Heap) (F2 : Fld Z h0 a "com/example/tenderbook/tenderbook/model/Call" "reason" "Lcom/example/tenderbook/tenderbook/model/CallFailure;" (.ref rr)) (F3 : Fld Z h0 a "com/example/tenderbook/tenderbook/model/Call" "closedBy" "Ljava/lang/String;" (.ref qq)) :
    Pays l Z consts_1 [] (⟨"com/example/tenderbook/tenderbook/model/Call", "isAwaited", "()Z"⟩ : MethodName) prog_15_method_7_code 1 (some .boolean) ({ frames := 0, cells := 0, slots := 0, locals := 0 } : Room) #[(.ref a)] h0 (fun v h => v = some (.int (0 : Int32)) ∧ h0 = h) := by
  refine pays_of_go hEL (plainFor_of_name pn_awRR) (fun m => ef_awRR m a) ?_
  intro p e s m below meth c C0
  have C : Cx p s m meth c prog_15_method_7_code 1 (some .boolean) "isAwaited" "com/example/tenderbook/tenderbook/model/Call" Z a0 consts_1 := C0
  show Go p l e ({ frames := 0, cells := 0, slots := 0, locals := 0 } : Room) s m #[(.ref a)] below meth c "com/example/tenderbook/tenderbook/model/Call" Z consts_1 [] (fun v h => v = some (.int (0 : Int32)) ∧ h0 = h) h0 0 0 (mkF m 0 #[.val (.ref a)] [])
  refine Go.plain (g' := (mkF m 1 #[.val (.ref a)] [(.ref a)])) (fun s_ T_ L_ X_ t_ q_ => XS.aloadN X_.here C.hx rfl (C.d d_awRR_0) rfl rfl q_) ?_
  refine Go.getF C (host := "") (Or.inl (hw _ (List.mem_of_getElem? (i := 49) rfl))) Via.refl F2 d_awRR_1 (pc' := 4) rfl ?_
  refine Go.plain (g' := (mkF m 18 #[.val (.ref a)] [])) (fun s_ T_ L_ X_ t_ q_ => XS.ifnonnullYes X_.here C.hx rfl (pc0 := 4) (pc' := 18) rfl (C.d d_awRR_4) rfl (by decide) (by decide) q_) ?_
  refine Go.plain (g' := (mkF m 19 #[.val (.ref a)] [(.int (0 : Int32))])) (fun s_ T_ L_ X_ t_ q_ => XS.iconst X_.here C.hx rfl (C.d d_awRR_18) q_) ?_
  exact Go.retN C (by simp) d_awRR_19 (by decide) (by decide) ⟨rfl, rfl⟩
theorem pn_law : plainName "com/example/tenderbook/tenderbook/model/CallIsAwaitedPinLaw" = true := by first | (simp [plainName, overriddenIn]; done) | decide +kernel
theorem ef_law (m : MethodId) (x0 : Int32) (x1 : Int32) (x2 : Int32) (x3 : Int32)  : entryFrame m #[(.int x0), (.int x1), (.int x2), (.int x3)] maxLocals = mkF m 0 #[.val (.int x0), .val (.int x1), .val (.int x2), .val (.int x3), .unset, .unset, .unset, .unset, .unset, .unset, .unset, .unset] [] := by first | (simp [entryFrame, mkF, argsToLocals, Value.category, maxLocals]; done) | rfl
set_option maxRecDepth 65536 in
set_option maxHeartbeats 40000000 in
theorem P_law (l : Launch) (Z : State) (a0 : Array Value) (hw : ∀ d ∈ tables_1, d.before a0 Z = true) (hEL : EW Z a0 consts_1) (p0 p1 p2 p3 zc : Int32) (c0 c1 c2 c3 c4 : Addr) (h0 : Heap) (S0 : Sta Z Z.heap "java/lang/String" "COMPACT_STRINGS" "Z" (.int zc)) (hz : ¬ zc = 0) (S1 : Sta Z Z.heap "com/example/tenderbook/tenderbook/model/CallFailure" "NOT_SENT" "Lcom/example/tenderbook/tenderbook/model/CallFailure;" (.ref c0)) (S2 : Sta Z Z.heap "com/example/tenderbook/tenderbook/model/CallFailure" "TIMEOUT" "Lcom/example/tenderbook/tenderbook/model/CallFailure;" (.ref c1)) (S3 : Sta Z Z.heap "com/example/tenderbook/tenderbook/model/CallFailure" "ERROR_STATUS" "Lcom/example/tenderbook/tenderbook/model/CallFailure;" (.ref c2)) (S4 : Sta Z Z.heap "com/example/tenderbook/tenderbook/model/CallFailure" "UNREADABLE_ANSWER" "Lcom/example/tenderbook/tenderbook/model/CallFailure;" (.ref c3)) (S5 : Sta Z Z.heap "com/example/tenderbook/tenderbook/model/CallFailure" "INTERRUPTED" "Lcom/example/tenderbook/tenderbook/model/CallFailure;" (.ref c4)) :
    Pays l Z consts_1 [] x code maxLocals ret room_1 #[(.int p0), (.int p1), (.int p2), (.int p3)] h0 (fun v h => v = some (.int (1 : Int32))) := by
  refine pays_of_go hEL (plainFor_of_name pn_law) (fun m => ef_law m p0 p1 p2 p3) ?_
  intro p e s m below meth c C0
  have C : Cx p s m meth c code 12 (some .boolean) "law" "com/example/tenderbook/tenderbook/model/CallIsAwaitedPinLaw" Z a0 consts_1 := C0
  show Go p l e room_1 s m #[(.int p0), (.int p1), (.int p2), (.int p3)] below meth c "com/example/tenderbook/tenderbook/model/CallIsAwaitedPinLaw" Z consts_1 [] (fun v h => v = some (.int (1 : Int32))) h0 0 0 (mkF m 0 #[.val (.int p0), .val (.int p1), .val (.int p2), .val (.int p3), .unset, .unset, .unset, .unset, .unset, .unset, .unset, .unset] [])
  refine Go.plain (g' := (mkF m 1 #[.val (.int p0), .val (.int p1), .val (.int p2), .val (.int p3), .unset, .unset, .unset, .unset, .unset, .unset, .unset, .unset] [(.int p0)])) (fun s_ T_ L_ X_ t_ q_ => XS.iloadN X_.here C.hx rfl (C.d at_0) rfl q_) ?_
  refine Go.ldcI C (hw _ (List.mem_of_getElem? (i := 0) rfl)) at_1 (pc' := 3) rfl ?_
  refine Go.plain (g' := (mkF m 4 #[.val (.int p0), .val (.int p1), .val (.int p2), .val (.int p3), .unset, .unset, .unset, .unset, .unset, .unset, .unset, .unset] [(.int (p0 &&& (2147483647 : Int32)))])) (fun s_ T_ L_ X_ t_ q_ => XS.iand X_.here C.hx rfl (C.d at_3) rfl q_) ?_
  refine Go.plain (g' := (mkF m 6 #[.val (.int p0), .val (.int p1), .val (.int p2), .val (.int p3), .unset, .unset, .unset, .unset, .unset, .unset, .unset, .unset] [(.int (6 : Int32)), (.int (p0 &&& (2147483647 : Int32)))])) (fun s_ T_ L_ X_ t_ q_ => XS.bipush X_.here C.hx rfl (C.d at_4) q_) ?_
  refine Go.irem C at_6 (by decide) (pc' := 7) rfl ?_
  have hk6 := mod6 p0
  generalize ((p0 &&& (2147483647 : Int32)) % (6 : Int32)) = kk at hk6 ⊢
  refine Go.plain (g' := (mkF m 9 #[.val (.int p0), .val (.int p1), .val (.int p2), .val (.int p3), .val (.int kk), .unset, .unset, .unset, .unset, .unset, .unset, .unset] [])) (fun s_ T_ L_ X_ t_ q_ => XS.istore X_.here C.hx rfl (C.d at_7) rfl (l' := #[.val (.int p0), .val (.int p1), .val (.int p2), .val (.int p3), .val (.int kk), .unset, .unset, .unset, .unset, .unset, .unset, .unset]) rfl q_) ?_
  refine Go.plain (g' := (mkF m 11 #[.val (.int p0), .val (.int p1), .val (.int p2), .val (.int p3), .val (.int kk), .unset, .unset, .unset, .unset, .unset, .unset, .unset] [(.int kk)])) (fun s_ T_ L_ X_ t_ q_ => XS.iload X_.here C.hx rfl (C.d at_9) rfl q_) ?_
  refine Go.static C (P_pick l Z a0 hw hEL kk c0 c1 c2 c3 c4 h0 S1 S2 S3 S4 S5) (fun _ q => nomatch q) (hw _ (List.mem_of_getElem? (i := 1) rfl)) (hw _ (List.mem_of_getElem? (i := 2) rfl)) (hw _ (List.mem_of_getElem? (i := 3) rfl)) (hw _ (List.mem_of_getElem? (i := 4) rfl)) (by decide) pd_2 (argsL := [(.int kk)]) (rest := []) rfl rfl at_11 (pc' := 14) rfl rfl rfl (W := 0) (Nat.le_of_eq rfl) (by decide) (by decide) (k' := 0) (n' := 0) rfl rfl (by decide) (by decide) ?_
  rintro _ _ ⟨_, rfl, rfl, ⟨rfl, n1, n2, n3, n4, n5⟩ | ⟨rr, rfl, hk0⟩⟩
  · show Go p l e room_1 s m #[(.int p0), (.int p1), (.int p2), (.int p3)] below meth c "com/example/tenderbook/tenderbook/model/CallIsAwaitedPinLaw" Z consts_1 [] (fun v h => v = some (.int (1 : Int32))) h0 0 0 (mkF m 14 #[.val (.int p0), .val (.int p1), .val (.int p2), .val (.int p3), .val (.int kk), .unset, .unset, .unset, .unset, .unset, .unset, .unset] [.null])
    have hk0 : kk = (0 : Int32) := by rcases hk6 with h | h | h | h | h | h <;> first | exact h | exact absurd h n1 | exact absurd h n2 | exact absurd h n3 | exact absurd h n4 | exact absurd h n5
    refine Go.plain (g' := (mkF m 16 #[.val (.int p0), .val (.int p1), .val (.int p2), .val (.int p3), .val (.int kk), .val .null, .unset, .unset, .unset, .unset, .unset, .unset] [])) (fun s_ T_ L_ X_ t_ q_ => XS.astore X_.here C.hx rfl (C.d at_14) rfl rfl (l' := #[.val (.int p0), .val (.int p1), .val (.int p2), .val (.int p3), .val (.int kk), .val .null, .unset, .unset, .unset, .unset, .unset, .unset]) rfl q_) ?_
    refine Go.plain (g' := (mkF m 17 #[.val (.int p0), .val (.int p1), .val (.int p2), .val (.int p3), .val (.int kk), .val .null, .unset, .unset, .unset, .unset, .unset, .unset] [(.int p1)])) (fun s_ T_ L_ X_ t_ q_ => XS.iloadN X_.here C.hx rfl (C.d at_16) rfl q_) ?_
    refine Go.plain (g' := (mkF m 18 #[.val (.int p0), .val (.int p1), .val (.int p2), .val (.int p3), .val (.int kk), .val .null, .unset, .unset, .unset, .unset, .unset, .unset] [(.int (1 : Int32)), (.int p1)])) (fun s_ T_ L_ X_ t_ q_ => XS.iconst X_.here C.hx rfl (C.d at_17) q_) ?_
    refine Go.plain (g' := (mkF m 19 #[.val (.int p0), .val (.int p1), .val (.int p2), .val (.int p3), .val (.int kk), .val .null, .unset, .unset, .unset, .unset, .unset, .unset] [(.int (p1 &&& (1 : Int32)))])) (fun s_ T_ L_ X_ t_ q_ => XS.iand X_.here C.hx rfl (C.d at_18) rfl q_) ?_
    by_cases h1 : (p1 &&& (1 : Int32)) = (0 : Int32)
    · refine Go.plain (g' := (mkF m 26 #[.val (.int p0), .val (.int p1), .val (.int p2), .val (.int p3), .val (.int kk), .val .null, .unset, .unset, .unset, .unset, .unset, .unset] [])) (fun s_ T_ L_ X_ t_ q_ => XS.ifYes X_.here C.hx rfl (pc0 := 19) (pc' := 26) rfl (C.d at_19) rfl ((if0 _ _).trans (teq h1).1) (by decide) (by decide) q_) ?_
      refine Go.plain (g' := (mkF m 27 #[.val (.int p0), .val (.int p1), .val (.int p2), .val (.int p3), .val (.int kk), .val .null, .unset, .unset, .unset, .unset, .unset, .unset] [(.int (0 : Int32))])) (fun s_ T_ L_ X_ t_ q_ => XS.iconst X_.here C.hx rfl (C.d at_26) q_) ?_
      refine Go.plain (g' := (mkF m 29 #[.val (.int p0), .val (.int p1), .val (.int p2), .val (.int p3), .val (.int kk), .val .null, .val (.int (0 : Int32)), .unset, .unset, .unset, .unset, .unset] [])) (fun s_ T_ L_ X_ t_ q_ => XS.istore X_.here C.hx rfl (C.d at_27) rfl (l' := #[.val (.int p0), .val (.int p1), .val (.int p2), .val (.int p3), .val (.int kk), .val .null, .val (.int (0 : Int32)), .unset, .unset, .unset, .unset, .unset]) rfl q_) ?_
      refine Go.plain (g' := (mkF m 30 #[.val (.int p0), .val (.int p1), .val (.int p2), .val (.int p3), .val (.int kk), .val .null, .val (.int (0 : Int32)), .unset, .unset, .unset, .unset, .unset] [.null])) (fun s_ T_ L_ X_ t_ q_ => XS.aconstNull X_.here C.hx rfl (C.d at_29) q_) ?_
      refine Go.plain (g' := (mkF m 32 #[.val (.int p0), .val (.int p1), .val (.int p2), .val (.int p3), .val (.int kk), .val .null, .val (.int (0 : Int32)), .val .null, .unset, .unset, .unset, .unset] [])) (fun s_ T_ L_ X_ t_ q_ => XS.astore X_.here C.hx rfl (C.d at_30) rfl rfl (l' := #[.val (.int p0), .val (.int p1), .val (.int p2), .val (.int p3), .val (.int kk), .val .null, .val (.int (0 : Int32)), .val .null, .unset, .unset, .unset, .unset]) rfl q_) ?_
      refine Go.plain (g' := (mkF m 34 #[.val (.int p0), .val (.int p1), .val (.int p2), .val (.int p3), .val (.int kk), .val .null, .val (.int (0 : Int32)), .val .null, .unset, .unset, .unset, .unset] [(.int (0 : Int32))])) (fun s_ T_ L_ X_ t_ q_ => XS.iload X_.here C.hx rfl (C.d at_32) rfl q_) ?_
      refine Go.plain (g' := (mkF m 79 #[.val (.int p0), .val (.int p1), .val (.int p2), .val (.int p3), .val (.int kk), .val .null, .val (.int (0 : Int32)), .val .null, .unset, .unset, .unset, .unset] [])) (fun s_ T_ L_ X_ t_ q_ => XS.ifYes X_.here C.hx rfl (pc0 := 34) (pc' := 79) rfl (C.d at_34) rfl ((if0 _ _).trans (teq (rfl : (0 : Int32) = (0 : Int32))).1) (by decide) (by decide) q_) ?_
      refine Go.newF C (hw _ (List.mem_of_getElem? (i := 5) rfl)) (hw _ (List.mem_of_getElem? (i := 6) rfl)) (hw _ (List.mem_of_getElem? (i := 7) rfl)) at_79 (pc' := 82) rfl (k' := 1) (n' := 4) rfl rfl (by decide) (by decide) ?_
      intro sid h1 q_sid z_sid E_sid A_sid D_sid
      have Fa_sid : Fld Z h1 sid "java/lang/String" "value" "[B" .null := D_sid (Or.inr (hw _ (List.mem_of_getElem? (i := 34) rfl))) (ty := (.array .byte)) (by decide)
      have Fb_sid : Fld Z h1 sid "java/lang/String" "coder" "B" (.int (0 : Int32)) := D_sid (Or.inr (hw _ (List.mem_of_getElem? (i := 32) rfl))) (ty := .byte) (by decide)
      refine Go.plain (g' := (mkF m 83 #[.val (.int p0), .val (.int p1), .val (.int p2), .val (.int p3), .val (.int kk), .val .null, .val (.int (0 : Int32)), .val .null, .unset, .unset, .unset, .unset] [(.ref sid), (.ref sid)])) (fun s_ T_ L_ X_ t_ q_ => XS.dup X_.here C.hx rfl (C.d at_82) rfl rfl q_) ?_
      refine Go.plain (g' := (mkF m 84 #[.val (.int p0), .val (.int p1), .val (.int p2), .val (.int p3), .val (.int kk), .val .null, .val (.int (0 : Int32)), .val .null, .unset, .unset, .unset, .unset] [(.int (1 : Int32)), (.ref sid), (.ref sid)])) (fun s_ T_ L_ X_ t_ q_ => XS.iconst X_.here C.hx rfl (C.d at_83) q_) ?_
      have lt_sid := A_sid.lt
      refine Go.newP C (hw _ (List.mem_of_getElem? (i := 8) rfl)) (by decide) (cap := 1) (by decide) (by decide) at_84 (pc' := 86) rfl (k' := 2) (n' := 5) rfl rfl (by decide) (by decide) ?_
      intro cc h2 k_cc q_cc z_cc E_cc V_cc
      have A_sid := A_sid.ext E_cc
      have Fa_sid := Fa_sid.ext E_cc
      have Fb_sid := Fb_sid.ext E_cc
      have V_cc : Arv Z h2 cc k_cc .char (1 : Int32) [.int 0] (.int 0) := V_cc.pad (pad_rep [] (.int 0) 1)
      have ne_sid_cc : sid ≠ cc := Nat.ne_of_lt (by rw [q_cc]; exact lt_sid)
      have ne_cc_sid : cc ≠ sid := Ne.symm ne_sid_cc
      refine Go.plain (g' := (mkF m 87 #[.val (.int p0), .val (.int p1), .val (.int p2), .val (.int p3), .val (.int kk), .val .null, .val (.int (0 : Int32)), .val .null, .unset, .unset, .unset, .unset] [(.ref cc), (.ref cc), (.ref sid), (.ref sid)])) (fun s_ T_ L_ X_ t_ q_ => XS.dup X_.here C.hx rfl (C.d at_86) rfl rfl q_) ?_
      refine Go.plain (g' := (mkF m 88 #[.val (.int p0), .val (.int p1), .val (.int p2), .val (.int p3), .val (.int kk), .val .null, .val (.int (0 : Int32)), .val .null, .unset, .unset, .unset, .unset] [(.int (0 : Int32)), (.ref cc), (.ref cc), (.ref sid), (.ref sid)])) (fun s_ T_ L_ X_ t_ q_ => XS.iconst X_.here C.hx rfl (C.d at_87) q_) ?_
      refine Go.plain (g' := (mkF m 89 #[.val (.int p0), .val (.int p1), .val (.int p2), .val (.int p3), .val (.int kk), .val .null, .val (.int (0 : Int32)), .val .null, .unset, .unset, .unset, .unset] [(.int p3), (.int (0 : Int32)), (.ref cc), (.ref cc), (.ref sid), (.ref sid)])) (fun s_ T_ L_ X_ t_ q_ => XS.iloadN X_.here C.hx rfl (C.d at_88) rfl q_) ?_
      refine Go.plain (g' := (mkF m 92 #[.val (.int p0), .val (.int p1), .val (.int p2), .val (.int p3), .val (.int kk), .val .null, .val (.int (0 : Int32)), .val .null, .unset, .unset, .unset, .unset] [(.int (255 : Int32)), (.int p3), (.int (0 : Int32)), (.ref cc), (.ref cc), (.ref sid), (.ref sid)])) (fun s_ T_ L_ X_ t_ q_ => XS.sipush X_.here C.hx rfl (C.d at_89) q_) ?_
      refine Go.plain (g' := (mkF m 93 #[.val (.int p0), .val (.int p1), .val (.int p2), .val (.int p3), .val (.int kk), .val .null, .val (.int (0 : Int32)), .val .null, .unset, .unset, .unset, .unset] [(.int (p3 &&& (255 : Int32))), (.int (0 : Int32)), (.ref cc), (.ref cc), (.ref sid), (.ref sid)])) (fun s_ T_ L_ X_ t_ q_ => XS.iand X_.here C.hx rfl (C.d at_92) rfl q_) ?_
      refine Go.plain (g' := (mkF m 94 #[.val (.int p0), .val (.int p1), .val (.int p2), .val (.int p3), .val (.int kk), .val .null, .val (.int (0 : Int32)), .val .null, .unset, .unset, .unset, .unset] [(.int ((p3 &&& (255 : Int32)).toUInt32.toUInt16.toUInt32.toInt32)), (.int (0 : Int32)), (.ref cc), (.ref cc), (.ref sid), (.ref sid)])) (fun s_ T_ L_ X_ t_ q_ => XS.i2c X_.here C.hx rfl (C.d at_93) rfl q_) ?_
      refine Go.stC C V_cc ⟨by decide, by decide⟩ (i := 0) rfl (Nat.le_of_ble_eq_true rfl) z_cc at_94 (pc' := 95) rfl ?_
      intro h3 W_h3 V_cc
      rw [nar_i2c_mask] at V_cc
      have A_sid := A_sid.wr W_h3
      have Fa_sid := Fa_sid.other W_h3 (Or.inl ne_sid_cc)
      have Fb_sid := Fb_sid.other W_h3 (Or.inl ne_sid_cc)
      have V_cc : Arv Z h3 cc k_cc .char (1 : Int32) ([p3 &&& (255 : Int32)].map Value.int) (.int 0) := V_cc
      refine Go.strInit hw C (cs := [p3 &&& (255 : Int32)]) (nn := 1) z_sid (List.mem_of_getElem? (i := 0) rfl) A_sid Fa_sid Fb_sid V_cc S0 hz rfl rfl (by decide) (by decide) (one_rng _) (hw _ (List.mem_of_getElem? (i := 6) rfl)) (hw _ (List.mem_of_getElem? (i := 9) rfl)) (hw _ (List.mem_of_getElem? (i := 10) rfl)) at_95 (pc' := 98) rfl rfl (W := 1) (Nat.le_of_eq rfl) (by decide) (by decide) (k' := 3) (n' := 6) rfl rfl (by decide) (by decide) ?_
      intro h4 K_sid T_sid
      have V_cc := V_cc.keep K_sid (ninS ne_cc_sid nin0)
      have A_sid := T_sid.exa
      refine Go.plain (g' := (mkF m 100 #[.val (.int p0), .val (.int p1), .val (.int p2), .val (.int p3), .val (.int kk), .val .null, .val (.int (0 : Int32)), .val .null, .val (.ref sid), .unset, .unset, .unset] [])) (fun s_ T_ L_ X_ t_ q_ => XS.astore X_.here C.hx rfl (C.d at_98) rfl rfl (l' := #[.val (.int p0), .val (.int p1), .val (.int p2), .val (.int p3), .val (.int kk), .val .null, .val (.int (0 : Int32)), .val .null, .val (.ref sid), .unset, .unset, .unset]) rfl q_) ?_
      refine Go.new C (hw _ (List.mem_of_getElem? (i := 35) rfl)) (hw _ (List.mem_of_getElem? (i := 36) rfl)) (hw _ (List.mem_of_getElem? (i := 37) rfl)) at_100 (pc' := 103) rfl (k' := 4) (n' := 9) rfl rfl (by decide) (by decide) ?_
      intro o h5 q_o z_o E_o A_o D_o
      have V_cc := V_cc.ext E_o
      have A_sid := A_sid.ext E_o
      have CF1 : Fld Z h5 o "com/example/tenderbook/tenderbook/model/Call" "requestId" "Ljava/lang/String;" .null := D_o (Or.inr (hw _ (List.mem_of_getElem? (i := 48) rfl))) (ty := (.object "java/lang/String")) (by decide)
      have CF2 : Fld Z h5 o "com/example/tenderbook/tenderbook/model/Call" "reason" "Lcom/example/tenderbook/tenderbook/model/CallFailure;" .null := D_o (Or.inr (hw _ (List.mem_of_getElem? (i := 50) rfl))) (ty := (.object "com/example/tenderbook/tenderbook/model/CallFailure")) (by decide)
      have CF3 : Fld Z h5 o "com/example/tenderbook/tenderbook/model/Call" "closedBy" "Ljava/lang/String;" .null := D_o (Or.inr (hw _ (List.mem_of_getElem? (i := 52) rfl))) (ty := (.object "java/lang/String")) (by decide)
      refine Go.plain (g' := (mkF m 104 #[.val (.int p0), .val (.int p1), .val (.int p2), .val (.int p3), .val (.int kk), .val .null, .val (.int (0 : Int32)), .val .null, .val (.ref sid), .unset, .unset, .unset] [(.ref o), (.ref o)])) (fun s_ T_ L_ X_ t_ q_ => XS.dup X_.here C.hx rfl (C.d at_103) rfl rfl q_) ?_
      refine Go.plain (g' := (mkF m 106 #[.val (.int p0), .val (.int p1), .val (.int p2), .val (.int p3), .val (.int kk), .val .null, .val (.int (0 : Int32)), .val .null, .val (.ref sid), .unset, .unset, .unset] [(.ref sid), (.ref o), (.ref o)])) (fun s_ T_ L_ X_ t_ q_ => XS.aload X_.here C.hx rfl (C.d at_104) rfl rfl q_) ?_
      refine Go.plain (g' := (mkF m 108 #[.val (.int p0), .val (.int p1), .val (.int p2), .val (.int p3), .val (.int kk), .val .null, .val (.int (0 : Int32)), .val .null, .val (.ref sid), .unset, .unset, .unset] [.null, (.ref sid), (.ref o), (.ref o)])) (fun s_ T_ L_ X_ t_ q_ => XS.aload X_.here C.hx rfl (C.d at_106) rfl rfl q_) ?_
      refine Go.plain (g' := (mkF m 110 #[.val (.int p0), .val (.int p1), .val (.int p2), .val (.int p3), .val (.int kk), .val .null, .val (.int (0 : Int32)), .val .null, .val (.ref sid), .unset, .unset, .unset] [.null, .null, (.ref sid), (.ref o), (.ref o)])) (fun s_ T_ L_ X_ t_ q_ => XS.aload X_.here C.hx rfl (C.d at_108) rfl rfl q_) ?_
      refine Go.special C (a := o) (P_callNN l Z a0 hw hEL o sid h5 A_o CF1 CF2 CF3 z_o A_sid) (fun _ q => nomatch q) rfl (hw _ (List.mem_of_getElem? (i := 38) rfl)) (hw _ (List.mem_of_getElem? (i := 39) rfl)) (hw _ (List.mem_of_getElem? (i := 37) rfl)) (hw _ (List.mem_of_getElem? (i := 40) rfl)) (by decide) pd_3 (argsL := [(.ref sid), .null, .null]) (rest := [(.ref o)]) rfl rfl at_110 (pc' := 113) rfl rfl rfl (W := 1) (Nat.le_of_eq rfl) (by decide) (by decide) (k' := 4) (n' := 9) rfl rfl (by decide) (by decide) ?_
      rintro _ h90 ⟨rfl, EO, G2, G3⟩
      show Go p l e room_1 s m #[(.int p0), (.int p1), (.int p2), (.int p3)] below meth c "com/example/tenderbook/tenderbook/model/CallIsAwaitedPinLaw" Z consts_1 [sid] (fun v h => v = some (.int (1 : Int32))) h90 4 9 (mkF m 113 #[.val (.int p0), .val (.int p1), .val (.int p2), .val (.int p3), .val (.int kk), .val .null, .val (.int (0 : Int32)), .val .null, .val (.ref sid), .unset, .unset, .unset] [(.ref o)])
      refine Go.plain (g' := (mkF m 115 #[.val (.int p0), .val (.int p1), .val (.int p2), .val (.int p3), .val (.int kk), .val .null, .val (.int (0 : Int32)), .val .null, .val (.ref sid), .val (.ref o), .unset, .unset] [])) (fun s_ T_ L_ X_ t_ q_ => XS.astore X_.here C.hx rfl (C.d at_113) rfl rfl (l' := #[.val (.int p0), .val (.int p1), .val (.int p2), .val (.int p3), .val (.int kk), .val .null, .val (.int (0 : Int32)), .val .null, .val (.ref sid), .val (.ref o), .unset, .unset]) rfl q_) ?_
      refine Go.plain (g' := (mkF m 117 #[.val (.int p0), .val (.int p1), .val (.int p2), .val (.int p3), .val (.int kk), .val .null, .val (.int (0 : Int32)), .val .null, .val (.ref sid), .val (.ref o), .unset, .unset] [(.int kk)])) (fun s_ T_ L_ X_ t_ q_ => XS.iload X_.here C.hx rfl (C.d at_115) rfl q_) ?_
      refine Go.plain (g' := (mkF m 120 #[.val (.int p0), .val (.int p1), .val (.int p2), .val (.int p3), .val (.int kk), .val .null, .val (.int (0 : Int32)), .val .null, .val (.ref sid), .val (.ref o), .unset, .unset] [])) (fun s_ T_ L_ X_ t_ q_ => XS.ifNo X_.here C.hx rfl (C.d at_117) rfl ((if0 _ _).trans (teq (hk0 : kk = (0 : Int32))).2) q_) ?_
      refine Go.plain (g' := (mkF m 122 #[.val (.int p0), .val (.int p1), .val (.int p2), .val (.int p3), .val (.int kk), .val .null, .val (.int (0 : Int32)), .val .null, .val (.ref sid), .val (.ref o), .unset, .unset] [(.int (0 : Int32))])) (fun s_ T_ L_ X_ t_ q_ => XS.iload X_.here C.hx rfl (C.d at_120) rfl q_) ?_
      refine Go.plain (g' := (mkF m 125 #[.val (.int p0), .val (.int p1), .val (.int p2), .val (.int p3), .val (.int kk), .val .null, .val (.int (0 : Int32)), .val .null, .val (.ref sid), .val (.ref o), .unset, .unset] [])) (fun s_ T_ L_ X_ t_ q_ => XS.ifNo X_.here C.hx rfl (C.d at_122) rfl ((if0 _ _).trans (teq (rfl : (0 : Int32) = (0 : Int32))).2) q_) ?_
      refine Go.plain (g' := (mkF m 126 #[.val (.int p0), .val (.int p1), .val (.int p2), .val (.int p3), .val (.int kk), .val .null, .val (.int (0 : Int32)), .val .null, .val (.ref sid), .val (.ref o), .unset, .unset] [(.int (1 : Int32))])) (fun s_ T_ L_ X_ t_ q_ => XS.iconst X_.here C.hx rfl (C.d at_125) q_) ?_
      refine Go.plain (g' := (mkF m 130 #[.val (.int p0), .val (.int p1), .val (.int p2), .val (.int p3), .val (.int kk), .val .null, .val (.int (0 : Int32)), .val .null, .val (.ref sid), .val (.ref o), .unset, .unset] [(.int (1 : Int32))])) (fun s_ T_ L_ X_ t_ q_ => XS.goto X_.here C.hx rfl (pc0 := 126) (pc' := 130) rfl (C.d at_126) (by decide) (by decide) q_) ?_
      refine Go.plain (g' := (mkF m 132 #[.val (.int p0), .val (.int p1), .val (.int p2), .val (.int p3), .val (.int kk), .val .null, .val (.int (0 : Int32)), .val .null, .val (.ref sid), .val (.ref o), .val (.int (1 : Int32)), .unset] [])) (fun s_ T_ L_ X_ t_ q_ => XS.istore X_.here C.hx rfl (C.d at_130) rfl (l' := #[.val (.int p0), .val (.int p1), .val (.int p2), .val (.int p3), .val (.int kk), .val .null, .val (.int (0 : Int32)), .val .null, .val (.ref sid), .val (.ref o), .val (.int (1 : Int32)), .unset]) rfl q_) ?_
      refine Go.plain (g' := (mkF m 134 #[.val (.int p0), .val (.int p1), .val (.int p2), .val (.int p3), .val (.int kk), .val .null, .val (.int (0 : Int32)), .val .null, .val (.ref sid), .val (.ref o), .val (.int (1 : Int32)), .unset] [(.ref o)])) (fun s_ T_ L_ X_ t_ q_ => XS.aload X_.here C.hx rfl (C.d at_132) rfl rfl q_) ?_
      refine Go.virt C (a := o) (P_awNN l Z a0 hw hEL o h90 G2 G3) (fun _ q => nomatch q) EO (hw _ (List.mem_of_getElem? (i := 53) rfl)) (hw _ (List.mem_of_getElem? (i := 54) rfl)) (hw _ (List.mem_of_getElem? (i := 56) rfl)) (hw _ (List.mem_of_getElem? (i := 55) rfl)) (hw _ (List.mem_of_getElem? (i := 37) rfl)) (hw _ (List.mem_of_getElem? (i := 57) rfl)) (by decide) pd_4 (argsL := []) (rest := []) rfl rfl at_134 (pc' := 137) rfl rfl rfl (W := 0) (Nat.le_of_eq rfl) (by decide) (by decide) (k' := 4) (n' := 9) rfl rfl (by decide) (by decide) ?_
      rintro _ _ ⟨rfl, rfl⟩
      show Go p l e room_1 s m #[(.int p0), (.int p1), (.int p2), (.int p3)] below meth c "com/example/tenderbook/tenderbook/model/CallIsAwaitedPinLaw" Z consts_1 [sid] (fun v h => v = some (.int (1 : Int32))) h90 4 9 (mkF m 137 #[.val (.int p0), .val (.int p1), .val (.int p2), .val (.int p3), .val (.int kk), .val .null, .val (.int (0 : Int32)), .val .null, .val (.ref sid), .val (.ref o), .val (.int (1 : Int32)), .unset] [(.int (1 : Int32))])
      refine Go.plain (g' := (mkF m 139 #[.val (.int p0), .val (.int p1), .val (.int p2), .val (.int p3), .val (.int kk), .val .null, .val (.int (0 : Int32)), .val .null, .val (.ref sid), .val (.ref o), .val (.int (1 : Int32)), .val (.int (1 : Int32))] [])) (fun s_ T_ L_ X_ t_ q_ => XS.istore X_.here C.hx rfl (C.d at_137) rfl (l' := #[.val (.int p0), .val (.int p1), .val (.int p2), .val (.int p3), .val (.int kk), .val .null, .val (.int (0 : Int32)), .val .null, .val (.ref sid), .val (.ref o), .val (.int (1 : Int32)), .val (.int (1 : Int32))]) rfl q_) ?_
      refine Go.plain (g' := (mkF m 141 #[.val (.int p0), .val (.int p1), .val (.int p2), .val (.int p3), .val (.int kk), .val .null, .val (.int (0 : Int32)), .val .null, .val (.ref sid), .val (.ref o), .val (.int (1 : Int32)), .val (.int (1 : Int32))] [(.int (1 : Int32))])) (fun s_ T_ L_ X_ t_ q_ => XS.iload X_.here C.hx rfl (C.d at_139) rfl q_) ?_
      refine Go.plain (g' := (mkF m 143 #[.val (.int p0), .val (.int p1), .val (.int p2), .val (.int p3), .val (.int kk), .val .null, .val (.int (0 : Int32)), .val .null, .val (.ref sid), .val (.ref o), .val (.int (1 : Int32)), .val (.int (1 : Int32))] [(.int (1 : Int32)), (.int (1 : Int32))])) (fun s_ T_ L_ X_ t_ q_ => XS.iload X_.here C.hx rfl (C.d at_141) rfl q_) ?_
      refine Go.plain (g' := (mkF m 148 #[.val (.int p0), .val (.int p1), .val (.int p2), .val (.int p3), .val (.int kk), .val .null, .val (.int (0 : Int32)), .val .null, .val (.ref sid), .val (.ref o), .val (.int (1 : Int32)), .val (.int (1 : Int32))] [])) (fun s_ T_ L_ X_ t_ q_ => XS.icmpYes X_.here C.hx rfl (pc0 := 143) (pc' := 148) rfl (C.d at_143) rfl (teq (rfl : (1 : Int32) = (1 : Int32))).1 (by decide) (by decide) q_) ?_
      refine Go.plain (g' := (mkF m 150 #[.val (.int p0), .val (.int p1), .val (.int p2), .val (.int p3), .val (.int kk), .val .null, .val (.int (0 : Int32)), .val .null, .val (.ref sid), .val (.ref o), .val (.int (1 : Int32)), .val (.int (1 : Int32))] [(.int (1 : Int32))])) (fun s_ T_ L_ X_ t_ q_ => XS.iload X_.here C.hx rfl (C.d at_148) rfl q_) ?_
      refine Go.plain (g' := (mkF m 153 #[.val (.int p0), .val (.int p1), .val (.int p2), .val (.int p3), .val (.int kk), .val .null, .val (.int (0 : Int32)), .val .null, .val (.ref sid), .val (.ref o), .val (.int (1 : Int32)), .val (.int (1 : Int32))] [])) (fun s_ T_ L_ X_ t_ q_ => XS.ifNo X_.here C.hx rfl (C.d at_150) rfl ((if0 _ _).trans (feq (by decide : ¬ ((1 : Int32) = (0 : Int32)))).1) q_) ?_
      refine Go.plain (g' := (mkF m 155 #[.val (.int p0), .val (.int p1), .val (.int p2), .val (.int p3), .val (.int kk), .val .null, .val (.int (0 : Int32)), .val .null, .val (.ref sid), .val (.ref o), .val (.int (1 : Int32)), .val (.int (1 : Int32))] [(.ref o)])) (fun s_ T_ L_ X_ t_ q_ => XS.aload X_.here C.hx rfl (C.d at_153) rfl rfl q_) ?_
      refine Go.virt C (a := o) (P_opNN l Z a0 hw hEL o h90 G2 G3) (fun _ q => nomatch q) EO (hw _ (List.mem_of_getElem? (i := 72) rfl)) (hw _ (List.mem_of_getElem? (i := 73) rfl)) (hw _ (List.mem_of_getElem? (i := 75) rfl)) (hw _ (List.mem_of_getElem? (i := 74) rfl)) (hw _ (List.mem_of_getElem? (i := 37) rfl)) (hw _ (List.mem_of_getElem? (i := 76) rfl)) (by decide) pd_4 (argsL := []) (rest := []) rfl rfl at_155 (pc' := 158) rfl rfl rfl (W := 0) (Nat.le_of_eq rfl) (by decide) (by decide) (k' := 4) (n' := 9) rfl rfl (by decide) (by decide) ?_
      rintro _ _ ⟨rfl, rfl⟩
      show Go p l e room_1 s m #[(.int p0), (.int p1), (.int p2), (.int p3)] below meth c "com/example/tenderbook/tenderbook/model/CallIsAwaitedPinLaw" Z consts_1 [sid] (fun v h => v = some (.int (1 : Int32))) h90 4 9 (mkF m 158 #[.val (.int p0), .val (.int p1), .val (.int p2), .val (.int p3), .val (.int kk), .val .null, .val (.int (0 : Int32)), .val .null, .val (.ref sid), .val (.ref o), .val (.int (1 : Int32)), .val (.int (1 : Int32))] [(.int (0 : Int32))])
      refine Go.plain (g' := (mkF m 163 #[.val (.int p0), .val (.int p1), .val (.int p2), .val (.int p3), .val (.int kk), .val .null, .val (.int (0 : Int32)), .val .null, .val (.ref sid), .val (.ref o), .val (.int (1 : Int32)), .val (.int (1 : Int32))] [])) (fun s_ T_ L_ X_ t_ q_ => XS.ifYes X_.here C.hx rfl (pc0 := 158) (pc' := 163) rfl (C.d at_158) rfl ((if0 _ _).trans (teq (rfl : (0 : Int32) = (0 : Int32))).1) (by decide) (by decide) q_) ?_
      refine Go.plain (g' := (mkF m 164 #[.val (.int p0), .val (.int p1), .val (.int p2), .val (.int p3), .val (.int kk), .val .null, .val (.int (0 : Int32)), .val .null, .val (.ref sid), .val (.ref o), .val (.int (1 : Int32)), .val (.int (1 : Int32))] [(.int (1 : Int32))])) (fun s_ T_ L_ X_ t_ q_ => XS.iconst X_.here C.hx rfl (C.d at_163) q_) ?_
      exact Go.retN C (by simp) at_164 (by decide) (by decide) rfl
    · refine Go.plain (g' := (mkF m 22 #[.val (.int p0), .val (.int p1), .val (.int p2), .val (.int p3), .val (.int kk), .val .null, .unset, .unset, .unset, .unset, .unset, .unset] [])) (fun s_ T_ L_ X_ t_ q_ => XS.ifNo X_.here C.hx rfl (C.d at_19) rfl ((if0 _ _).trans (feq h1).1) q_) ?_
      refine Go.plain (g' := (mkF m 23 #[.val (.int p0), .val (.int p1), .val (.int p2), .val (.int p3), .val (.int kk), .val .null, .unset, .unset, .unset, .unset, .unset, .unset] [(.int (1 : Int32))])) (fun s_ T_ L_ X_ t_ q_ => XS.iconst X_.here C.hx rfl (C.d at_22) q_) ?_
      refine Go.plain (g' := (mkF m 27 #[.val (.int p0), .val (.int p1), .val (.int p2), .val (.int p3), .val (.int kk), .val .null, .unset, .unset, .unset, .unset, .unset, .unset] [(.int (1 : Int32))])) (fun s_ T_ L_ X_ t_ q_ => XS.goto X_.here C.hx rfl (pc0 := 23) (pc' := 27) rfl (C.d at_23) (by decide) (by decide) q_) ?_
      refine Go.plain (g' := (mkF m 29 #[.val (.int p0), .val (.int p1), .val (.int p2), .val (.int p3), .val (.int kk), .val .null, .val (.int (1 : Int32)), .unset, .unset, .unset, .unset, .unset] [])) (fun s_ T_ L_ X_ t_ q_ => XS.istore X_.here C.hx rfl (C.d at_27) rfl (l' := #[.val (.int p0), .val (.int p1), .val (.int p2), .val (.int p3), .val (.int kk), .val .null, .val (.int (1 : Int32)), .unset, .unset, .unset, .unset, .unset]) rfl q_) ?_
      refine Go.plain (g' := (mkF m 30 #[.val (.int p0), .val (.int p1), .val (.int p2), .val (.int p3), .val (.int kk), .val .null, .val (.int (1 : Int32)), .unset, .unset, .unset, .unset, .unset] [.null])) (fun s_ T_ L_ X_ t_ q_ => XS.aconstNull X_.here C.hx rfl (C.d at_29) q_) ?_
      refine Go.plain (g' := (mkF m 32 #[.val (.int p0), .val (.int p1), .val (.int p2), .val (.int p3), .val (.int kk), .val .null, .val (.int (1 : Int32)), .val .null, .unset, .unset, .unset, .unset] [])) (fun s_ T_ L_ X_ t_ q_ => XS.astore X_.here C.hx rfl (C.d at_30) rfl rfl (l' := #[.val (.int p0), .val (.int p1), .val (.int p2), .val (.int p3), .val (.int kk), .val .null, .val (.int (1 : Int32)), .val .null, .unset, .unset, .unset, .unset]) rfl q_) ?_
      refine Go.plain (g' := (mkF m 34 #[.val (.int p0), .val (.int p1), .val (.int p2), .val (.int p3), .val (.int kk), .val .null, .val (.int (1 : Int32)), .val .null, .unset, .unset, .unset, .unset] [(.int (1 : Int32))])) (fun s_ T_ L_ X_ t_ q_ => XS.iload X_.here C.hx rfl (C.d at_32) rfl q_) ?_
      refine Go.plain (g' := (mkF m 37 #[.val (.int p0), .val (.int p1), .val (.int p2), .val (.int p3), .val (.int kk), .val .null, .val (.int (1 : Int32)), .val .null, .unset, .unset, .unset, .unset] [])) (fun s_ T_ L_ X_ t_ q_ => XS.ifNo X_.here C.hx rfl (C.d at_34) rfl ((if0 _ _).trans (feq (by decide : ¬ ((1 : Int32) = (0 : Int32)))).1) q_) ?_
      refine Go.plain (g' := (mkF m 38 #[.val (.int p0), .val (.int p1), .val (.int p2), .val (.int p3), .val (.int kk), .val .null, .val (.int (1 : Int32)), .val .null, .unset, .unset, .unset, .unset] [(.int p1)])) (fun s_ T_ L_ X_ t_ q_ => XS.iloadN X_.here C.hx rfl (C.d at_37) rfl q_) ?_
      refine Go.plain (g' := (mkF m 39 #[.val (.int p0), .val (.int p1), .val (.int p2), .val (.int p3), .val (.int kk), .val .null, .val (.int (1 : Int32)), .val .null, .unset, .unset, .unset, .unset] [(.int (2 : Int32)), (.int p1)])) (fun s_ T_ L_ X_ t_ q_ => XS.iconst X_.here C.hx rfl (C.d at_38) q_) ?_
      refine Go.plain (g' := (mkF m 40 #[.val (.int p0), .val (.int p1), .val (.int p2), .val (.int p3), .val (.int kk), .val .null, .val (.int (1 : Int32)), .val .null, .unset, .unset, .unset, .unset] [(.int (p1 &&& (2 : Int32)))])) (fun s_ T_ L_ X_ t_ q_ => XS.iand X_.here C.hx rfl (C.d at_39) rfl q_) ?_
      by_cases h2 : (p1 &&& (2 : Int32)) = (0 : Int32)
      · refine Go.plain (g' := (mkF m 67 #[.val (.int p0), .val (.int p1), .val (.int p2), .val (.int p3), .val (.int kk), .val .null, .val (.int (1 : Int32)), .val .null, .unset, .unset, .unset, .unset] [])) (fun s_ T_ L_ X_ t_ q_ => XS.ifYes X_.here C.hx rfl (pc0 := 40) (pc' := 67) rfl (C.d at_40) rfl ((if0 _ _).trans (teq h2).1) (by decide) (by decide) q_) ?_
        refine Go.newF C (hw _ (List.mem_of_getElem? (i := 5) rfl)) (hw _ (List.mem_of_getElem? (i := 6) rfl)) (hw _ (List.mem_of_getElem? (i := 7) rfl)) at_67 (pc' := 70) rfl (k' := 1) (n' := 4) rfl rfl (by decide) (by decide) ?_
        intro sq h6 q_sq z_sq E_sq A_sq D_sq
        have Fa_sq : Fld Z h6 sq "java/lang/String" "value" "[B" .null := D_sq (Or.inr (hw _ (List.mem_of_getElem? (i := 34) rfl))) (ty := (.array .byte)) (by decide)
        have Fb_sq : Fld Z h6 sq "java/lang/String" "coder" "B" (.int (0 : Int32)) := D_sq (Or.inr (hw _ (List.mem_of_getElem? (i := 32) rfl))) (ty := .byte) (by decide)
        refine Go.plain (g' := (mkF m 71 #[.val (.int p0), .val (.int p1), .val (.int p2), .val (.int p3), .val (.int kk), .val .null, .val (.int (1 : Int32)), .val .null, .unset, .unset, .unset, .unset] [(.ref sq), (.ref sq)])) (fun s_ T_ L_ X_ t_ q_ => XS.dup X_.here C.hx rfl (C.d at_70) rfl rfl q_) ?_
        refine Go.plain (g' := (mkF m 72 #[.val (.int p0), .val (.int p1), .val (.int p2), .val (.int p3), .val (.int kk), .val .null, .val (.int (1 : Int32)), .val .null, .unset, .unset, .unset, .unset] [(.int (0 : Int32)), (.ref sq), (.ref sq)])) (fun s_ T_ L_ X_ t_ q_ => XS.iconst X_.here C.hx rfl (C.d at_71) q_) ?_
        have lt_sq := A_sq.lt
        refine Go.newP C (hw _ (List.mem_of_getElem? (i := 8) rfl)) (by decide) (cap := 0) (by decide) (by decide) at_72 (pc' := 74) rfl (k' := 2) (n' := 4) rfl rfl (by decide) (by decide) ?_
        intro cb h7 k_cb q_cb z_cb E_cb V_cb
        have A_sq := A_sq.ext E_cb
        have Fa_sq := Fa_sq.ext E_cb
        have Fb_sq := Fb_sq.ext E_cb
        refine Go.special C (a := sq) (P_s1 l Z a0 hw hEL sq cb k_cb h7 A_sq Fa_sq Fb_sq z_sq V_cb) (allS (List.mem_of_getElem? (i := 0) rfl) all0) rfl (hw _ (List.mem_of_getElem? (i := 9) rfl)) (hw _ (List.mem_of_getElem? (i := 10) rfl)) (hw _ (List.mem_of_getElem? (i := 7) rfl)) (hw _ (List.mem_of_getElem? (i := 11) rfl)) (by decide) pd_5 (argsL := [(.ref cb)]) (rest := [(.ref sq)]) rfl rfl at_74 (pc' := 77) rfl rfl rfl (W := 1) (Nat.le_of_eq rfl) (by decide) (by decide) (k' := 6) (n' := 12) rfl rfl (by decide) (by decide) ?_
        rintro _ h8 ⟨rfl, K_sq, E9_sq⟩
        show Go p l e room_1 s m #[(.int p0), (.int p1), (.int p2), (.int p3)] below meth c "com/example/tenderbook/tenderbook/model/CallIsAwaitedPinLaw" Z consts_1 [sq] (fun v h => v = some (.int (1 : Int32))) h8 6 12 (mkF m 77 #[.val (.int p0), .val (.int p1), .val (.int p2), .val (.int p3), .val (.int kk), .val .null, .val (.int (1 : Int32)), .val .null, .unset, .unset, .unset, .unset] [(.ref sq)])
        have A_sq := E9_sq
        refine Go.plain (g' := (mkF m 79 #[.val (.int p0), .val (.int p1), .val (.int p2), .val (.int p3), .val (.int kk), .val .null, .val (.int (1 : Int32)), .val (.ref sq), .unset, .unset, .unset, .unset] [])) (fun s_ T_ L_ X_ t_ q_ => XS.astore X_.here C.hx rfl (C.d at_77) rfl rfl (l' := #[.val (.int p0), .val (.int p1), .val (.int p2), .val (.int p3), .val (.int kk), .val .null, .val (.int (1 : Int32)), .val (.ref sq), .unset, .unset, .unset, .unset]) rfl q_) ?_
        have lt_sq := A_sq.lt
        refine Go.newF C (hw _ (List.mem_of_getElem? (i := 5) rfl)) (hw _ (List.mem_of_getElem? (i := 6) rfl)) (hw _ (List.mem_of_getElem? (i := 7) rfl)) at_79 (pc' := 82) rfl (k' := 7) (n' := 16) rfl rfl (by decide) (by decide) ?_
        intro sid h9 q_sid z_sid E_sid A_sid D_sid
        have A_sq := A_sq.ext E_sid
        have Fa_sid : Fld Z h9 sid "java/lang/String" "value" "[B" .null := D_sid (Or.inr (hw _ (List.mem_of_getElem? (i := 34) rfl))) (ty := (.array .byte)) (by decide)
        have Fb_sid : Fld Z h9 sid "java/lang/String" "coder" "B" (.int (0 : Int32)) := D_sid (Or.inr (hw _ (List.mem_of_getElem? (i := 32) rfl))) (ty := .byte) (by decide)
        have ne_sq_sid : sq ≠ sid := Nat.ne_of_lt (by rw [q_sid]; exact lt_sq)
        refine Go.plain (g' := (mkF m 83 #[.val (.int p0), .val (.int p1), .val (.int p2), .val (.int p3), .val (.int kk), .val .null, .val (.int (1 : Int32)), .val (.ref sq), .unset, .unset, .unset, .unset] [(.ref sid), (.ref sid)])) (fun s_ T_ L_ X_ t_ q_ => XS.dup X_.here C.hx rfl (C.d at_82) rfl rfl q_) ?_
        refine Go.plain (g' := (mkF m 84 #[.val (.int p0), .val (.int p1), .val (.int p2), .val (.int p3), .val (.int kk), .val .null, .val (.int (1 : Int32)), .val (.ref sq), .unset, .unset, .unset, .unset] [(.int (1 : Int32)), (.ref sid), (.ref sid)])) (fun s_ T_ L_ X_ t_ q_ => XS.iconst X_.here C.hx rfl (C.d at_83) q_) ?_
        have lt_sid := A_sid.lt
        refine Go.newP C (hw _ (List.mem_of_getElem? (i := 8) rfl)) (by decide) (cap := 1) (by decide) (by decide) at_84 (pc' := 86) rfl (k' := 8) (n' := 17) rfl rfl (by decide) (by decide) ?_
        intro cc h10 k_cc q_cc z_cc E_cc V_cc
        have A_sq := A_sq.ext E_cc
        have A_sid := A_sid.ext E_cc
        have Fa_sid := Fa_sid.ext E_cc
        have Fb_sid := Fb_sid.ext E_cc
        have V_cc : Arv Z h10 cc k_cc .char (1 : Int32) [.int 0] (.int 0) := V_cc.pad (pad_rep [] (.int 0) 1)
        have ne_sid_cc : sid ≠ cc := Nat.ne_of_lt (by rw [q_cc]; exact lt_sid)
        have ne_cc_sid : cc ≠ sid := Ne.symm ne_sid_cc
        refine Go.plain (g' := (mkF m 87 #[.val (.int p0), .val (.int p1), .val (.int p2), .val (.int p3), .val (.int kk), .val .null, .val (.int (1 : Int32)), .val (.ref sq), .unset, .unset, .unset, .unset] [(.ref cc), (.ref cc), (.ref sid), (.ref sid)])) (fun s_ T_ L_ X_ t_ q_ => XS.dup X_.here C.hx rfl (C.d at_86) rfl rfl q_) ?_
        refine Go.plain (g' := (mkF m 88 #[.val (.int p0), .val (.int p1), .val (.int p2), .val (.int p3), .val (.int kk), .val .null, .val (.int (1 : Int32)), .val (.ref sq), .unset, .unset, .unset, .unset] [(.int (0 : Int32)), (.ref cc), (.ref cc), (.ref sid), (.ref sid)])) (fun s_ T_ L_ X_ t_ q_ => XS.iconst X_.here C.hx rfl (C.d at_87) q_) ?_
        refine Go.plain (g' := (mkF m 89 #[.val (.int p0), .val (.int p1), .val (.int p2), .val (.int p3), .val (.int kk), .val .null, .val (.int (1 : Int32)), .val (.ref sq), .unset, .unset, .unset, .unset] [(.int p3), (.int (0 : Int32)), (.ref cc), (.ref cc), (.ref sid), (.ref sid)])) (fun s_ T_ L_ X_ t_ q_ => XS.iloadN X_.here C.hx rfl (C.d at_88) rfl q_) ?_
        refine Go.plain (g' := (mkF m 92 #[.val (.int p0), .val (.int p1), .val (.int p2), .val (.int p3), .val (.int kk), .val .null, .val (.int (1 : Int32)), .val (.ref sq), .unset, .unset, .unset, .unset] [(.int (255 : Int32)), (.int p3), (.int (0 : Int32)), (.ref cc), (.ref cc), (.ref sid), (.ref sid)])) (fun s_ T_ L_ X_ t_ q_ => XS.sipush X_.here C.hx rfl (C.d at_89) q_) ?_
        refine Go.plain (g' := (mkF m 93 #[.val (.int p0), .val (.int p1), .val (.int p2), .val (.int p3), .val (.int kk), .val .null, .val (.int (1 : Int32)), .val (.ref sq), .unset, .unset, .unset, .unset] [(.int (p3 &&& (255 : Int32))), (.int (0 : Int32)), (.ref cc), (.ref cc), (.ref sid), (.ref sid)])) (fun s_ T_ L_ X_ t_ q_ => XS.iand X_.here C.hx rfl (C.d at_92) rfl q_) ?_
        refine Go.plain (g' := (mkF m 94 #[.val (.int p0), .val (.int p1), .val (.int p2), .val (.int p3), .val (.int kk), .val .null, .val (.int (1 : Int32)), .val (.ref sq), .unset, .unset, .unset, .unset] [(.int ((p3 &&& (255 : Int32)).toUInt32.toUInt16.toUInt32.toInt32)), (.int (0 : Int32)), (.ref cc), (.ref cc), (.ref sid), (.ref sid)])) (fun s_ T_ L_ X_ t_ q_ => XS.i2c X_.here C.hx rfl (C.d at_93) rfl q_) ?_
        refine Go.stC C V_cc ⟨by decide, by decide⟩ (i := 0) rfl (Nat.le_of_ble_eq_true rfl) z_cc at_94 (pc' := 95) rfl ?_
        intro h11 W_h11 V_cc
        rw [nar_i2c_mask] at V_cc
        have A_sq := A_sq.wr W_h11
        have A_sid := A_sid.wr W_h11
        have Fa_sid := Fa_sid.other W_h11 (Or.inl ne_sid_cc)
        have Fb_sid := Fb_sid.other W_h11 (Or.inl ne_sid_cc)
        have V_cc : Arv Z h11 cc k_cc .char (1 : Int32) ([p3 &&& (255 : Int32)].map Value.int) (.int 0) := V_cc
        refine Go.strInit hw C (cs := [p3 &&& (255 : Int32)]) (nn := 1) z_sid (List.mem_of_getElem? (i := 0) rfl) A_sid Fa_sid Fb_sid V_cc S0 hz rfl rfl (by decide) (by decide) (one_rng _) (hw _ (List.mem_of_getElem? (i := 6) rfl)) (hw _ (List.mem_of_getElem? (i := 9) rfl)) (hw _ (List.mem_of_getElem? (i := 10) rfl)) at_95 (pc' := 98) rfl rfl (W := 1) (Nat.le_of_eq rfl) (by decide) (by decide) (k' := 9) (n' := 18) rfl rfl (by decide) (by decide) ?_
        intro h12 K_sid T_sid
        have A_sq := A_sq.keep K_sid
        have V_cc := V_cc.keep K_sid (ninS ne_cc_sid nin0)
        have A_sid := T_sid.exa
        refine Go.plain (g' := (mkF m 100 #[.val (.int p0), .val (.int p1), .val (.int p2), .val (.int p3), .val (.int kk), .val .null, .val (.int (1 : Int32)), .val (.ref sq), .val (.ref sid), .unset, .unset, .unset] [])) (fun s_ T_ L_ X_ t_ q_ => XS.astore X_.here C.hx rfl (C.d at_98) rfl rfl (l' := #[.val (.int p0), .val (.int p1), .val (.int p2), .val (.int p3), .val (.int kk), .val .null, .val (.int (1 : Int32)), .val (.ref sq), .val (.ref sid), .unset, .unset, .unset]) rfl q_) ?_
        refine Go.new C (hw _ (List.mem_of_getElem? (i := 35) rfl)) (hw _ (List.mem_of_getElem? (i := 36) rfl)) (hw _ (List.mem_of_getElem? (i := 37) rfl)) at_100 (pc' := 103) rfl (k' := 10) (n' := 21) rfl rfl (by decide) (by decide) ?_
        intro o h13 q_o z_o E_o A_o D_o
        have A_sq := A_sq.ext E_o
        have V_cc := V_cc.ext E_o
        have A_sid := A_sid.ext E_o
        have CF1 : Fld Z h13 o "com/example/tenderbook/tenderbook/model/Call" "requestId" "Ljava/lang/String;" .null := D_o (Or.inr (hw _ (List.mem_of_getElem? (i := 48) rfl))) (ty := (.object "java/lang/String")) (by decide)
        have CF2 : Fld Z h13 o "com/example/tenderbook/tenderbook/model/Call" "reason" "Lcom/example/tenderbook/tenderbook/model/CallFailure;" .null := D_o (Or.inr (hw _ (List.mem_of_getElem? (i := 50) rfl))) (ty := (.object "com/example/tenderbook/tenderbook/model/CallFailure")) (by decide)
        have CF3 : Fld Z h13 o "com/example/tenderbook/tenderbook/model/Call" "closedBy" "Ljava/lang/String;" .null := D_o (Or.inr (hw _ (List.mem_of_getElem? (i := 52) rfl))) (ty := (.object "java/lang/String")) (by decide)
        refine Go.plain (g' := (mkF m 104 #[.val (.int p0), .val (.int p1), .val (.int p2), .val (.int p3), .val (.int kk), .val .null, .val (.int (1 : Int32)), .val (.ref sq), .val (.ref sid), .unset, .unset, .unset] [(.ref o), (.ref o)])) (fun s_ T_ L_ X_ t_ q_ => XS.dup X_.here C.hx rfl (C.d at_103) rfl rfl q_) ?_
        refine Go.plain (g' := (mkF m 106 #[.val (.int p0), .val (.int p1), .val (.int p2), .val (.int p3), .val (.int kk), .val .null, .val (.int (1 : Int32)), .val (.ref sq), .val (.ref sid), .unset, .unset, .unset] [(.ref sid), (.ref o), (.ref o)])) (fun s_ T_ L_ X_ t_ q_ => XS.aload X_.here C.hx rfl (C.d at_104) rfl rfl q_) ?_
        refine Go.plain (g' := (mkF m 108 #[.val (.int p0), .val (.int p1), .val (.int p2), .val (.int p3), .val (.int kk), .val .null, .val (.int (1 : Int32)), .val (.ref sq), .val (.ref sid), .unset, .unset, .unset] [.null, (.ref sid), (.ref o), (.ref o)])) (fun s_ T_ L_ X_ t_ q_ => XS.aload X_.here C.hx rfl (C.d at_106) rfl rfl q_) ?_
        refine Go.plain (g' := (mkF m 110 #[.val (.int p0), .val (.int p1), .val (.int p2), .val (.int p3), .val (.int kk), .val .null, .val (.int (1 : Int32)), .val (.ref sq), .val (.ref sid), .unset, .unset, .unset] [(.ref sq), .null, (.ref sid), (.ref o), (.ref o)])) (fun s_ T_ L_ X_ t_ q_ => XS.aload X_.here C.hx rfl (C.d at_108) rfl rfl q_) ?_
        refine Go.special C (a := o) (P_callNR l Z a0 hw hEL o sid sq h13 A_o CF1 CF2 CF3 z_o A_sid) (fun _ q => nomatch q) rfl (hw _ (List.mem_of_getElem? (i := 38) rfl)) (hw _ (List.mem_of_getElem? (i := 39) rfl)) (hw _ (List.mem_of_getElem? (i := 37) rfl)) (hw _ (List.mem_of_getElem? (i := 40) rfl)) (by decide) pd_3 (argsL := [(.ref sid), .null, (.ref sq)]) (rest := [(.ref o)]) rfl rfl at_110 (pc' := 113) rfl rfl rfl (W := 1) (Nat.le_of_eq rfl) (by decide) (by decide) (k' := 10) (n' := 21) rfl rfl (by decide) (by decide) ?_
        rintro _ h90 ⟨rfl, EO, G2, G3⟩
        show Go p l e room_1 s m #[(.int p0), (.int p1), (.int p2), (.int p3)] below meth c "com/example/tenderbook/tenderbook/model/CallIsAwaitedPinLaw" Z consts_1 [sid, sq] (fun v h => v = some (.int (1 : Int32))) h90 10 21 (mkF m 113 #[.val (.int p0), .val (.int p1), .val (.int p2), .val (.int p3), .val (.int kk), .val .null, .val (.int (1 : Int32)), .val (.ref sq), .val (.ref sid), .unset, .unset, .unset] [(.ref o)])
        refine Go.plain (g' := (mkF m 115 #[.val (.int p0), .val (.int p1), .val (.int p2), .val (.int p3), .val (.int kk), .val .null, .val (.int (1 : Int32)), .val (.ref sq), .val (.ref sid), .val (.ref o), .unset, .unset] [])) (fun s_ T_ L_ X_ t_ q_ => XS.astore X_.here C.hx rfl (C.d at_113) rfl rfl (l' := #[.val (.int p0), .val (.int p1), .val (.int p2), .val (.int p3), .val (.int kk), .val .null, .val (.int (1 : Int32)), .val (.ref sq), .val (.ref sid), .val (.ref o), .unset, .unset]) rfl q_) ?_
        refine Go.plain (g' := (mkF m 117 #[.val (.int p0), .val (.int p1), .val (.int p2), .val (.int p3), .val (.int kk), .val .null, .val (.int (1 : Int32)), .val (.ref sq), .val (.ref sid), .val (.ref o), .unset, .unset] [(.int kk)])) (fun s_ T_ L_ X_ t_ q_ => XS.iload X_.here C.hx rfl (C.d at_115) rfl q_) ?_
        refine Go.plain (g' := (mkF m 120 #[.val (.int p0), .val (.int p1), .val (.int p2), .val (.int p3), .val (.int kk), .val .null, .val (.int (1 : Int32)), .val (.ref sq), .val (.ref sid), .val (.ref o), .unset, .unset] [])) (fun s_ T_ L_ X_ t_ q_ => XS.ifNo X_.here C.hx rfl (C.d at_117) rfl ((if0 _ _).trans (teq (hk0 : kk = (0 : Int32))).2) q_) ?_
        refine Go.plain (g' := (mkF m 122 #[.val (.int p0), .val (.int p1), .val (.int p2), .val (.int p3), .val (.int kk), .val .null, .val (.int (1 : Int32)), .val (.ref sq), .val (.ref sid), .val (.ref o), .unset, .unset] [(.int (1 : Int32))])) (fun s_ T_ L_ X_ t_ q_ => XS.iload X_.here C.hx rfl (C.d at_120) rfl q_) ?_
        refine Go.plain (g' := (mkF m 129 #[.val (.int p0), .val (.int p1), .val (.int p2), .val (.int p3), .val (.int kk), .val .null, .val (.int (1 : Int32)), .val (.ref sq), .val (.ref sid), .val (.ref o), .unset, .unset] [])) (fun s_ T_ L_ X_ t_ q_ => XS.ifYes X_.here C.hx rfl (pc0 := 122) (pc' := 129) rfl (C.d at_122) rfl ((if0 _ _).trans (feq (by decide : ¬ ((1 : Int32) = (0 : Int32)))).2) (by decide) (by decide) q_) ?_
        refine Go.plain (g' := (mkF m 130 #[.val (.int p0), .val (.int p1), .val (.int p2), .val (.int p3), .val (.int kk), .val .null, .val (.int (1 : Int32)), .val (.ref sq), .val (.ref sid), .val (.ref o), .unset, .unset] [(.int (0 : Int32))])) (fun s_ T_ L_ X_ t_ q_ => XS.iconst X_.here C.hx rfl (C.d at_129) q_) ?_
        refine Go.plain (g' := (mkF m 132 #[.val (.int p0), .val (.int p1), .val (.int p2), .val (.int p3), .val (.int kk), .val .null, .val (.int (1 : Int32)), .val (.ref sq), .val (.ref sid), .val (.ref o), .val (.int (0 : Int32)), .unset] [])) (fun s_ T_ L_ X_ t_ q_ => XS.istore X_.here C.hx rfl (C.d at_130) rfl (l' := #[.val (.int p0), .val (.int p1), .val (.int p2), .val (.int p3), .val (.int kk), .val .null, .val (.int (1 : Int32)), .val (.ref sq), .val (.ref sid), .val (.ref o), .val (.int (0 : Int32)), .unset]) rfl q_) ?_
        refine Go.plain (g' := (mkF m 134 #[.val (.int p0), .val (.int p1), .val (.int p2), .val (.int p3), .val (.int kk), .val .null, .val (.int (1 : Int32)), .val (.ref sq), .val (.ref sid), .val (.ref o), .val (.int (0 : Int32)), .unset] [(.ref o)])) (fun s_ T_ L_ X_ t_ q_ => XS.aload X_.here C.hx rfl (C.d at_132) rfl rfl q_) ?_
        refine Go.virt C (a := o) (P_awNR l Z a0 hw hEL o sq h90 G2 G3) (fun _ q => nomatch q) EO (hw _ (List.mem_of_getElem? (i := 53) rfl)) (hw _ (List.mem_of_getElem? (i := 54) rfl)) (hw _ (List.mem_of_getElem? (i := 56) rfl)) (hw _ (List.mem_of_getElem? (i := 55) rfl)) (hw _ (List.mem_of_getElem? (i := 37) rfl)) (hw _ (List.mem_of_getElem? (i := 57) rfl)) (by decide) pd_4 (argsL := []) (rest := []) rfl rfl at_134 (pc' := 137) rfl rfl rfl (W := 0) (Nat.le_of_eq rfl) (by decide) (by decide) (k' := 10) (n' := 21) rfl rfl (by decide) (by decide) ?_
        rintro _ _ ⟨rfl, rfl⟩
        show Go p l e room_1 s m #[(.int p0), (.int p1), (.int p2), (.int p3)] below meth c "com/example/tenderbook/tenderbook/model/CallIsAwaitedPinLaw" Z consts_1 [sid, sq] (fun v h => v = some (.int (1 : Int32))) h90 10 21 (mkF m 137 #[.val (.int p0), .val (.int p1), .val (.int p2), .val (.int p3), .val (.int kk), .val .null, .val (.int (1 : Int32)), .val (.ref sq), .val (.ref sid), .val (.ref o), .val (.int (0 : Int32)), .unset] [(.int (0 : Int32))])
        refine Go.plain (g' := (mkF m 139 #[.val (.int p0), .val (.int p1), .val (.int p2), .val (.int p3), .val (.int kk), .val .null, .val (.int (1 : Int32)), .val (.ref sq), .val (.ref sid), .val (.ref o), .val (.int (0 : Int32)), .val (.int (0 : Int32))] [])) (fun s_ T_ L_ X_ t_ q_ => XS.istore X_.here C.hx rfl (C.d at_137) rfl (l' := #[.val (.int p0), .val (.int p1), .val (.int p2), .val (.int p3), .val (.int kk), .val .null, .val (.int (1 : Int32)), .val (.ref sq), .val (.ref sid), .val (.ref o), .val (.int (0 : Int32)), .val (.int (0 : Int32))]) rfl q_) ?_
        refine Go.plain (g' := (mkF m 141 #[.val (.int p0), .val (.int p1), .val (.int p2), .val (.int p3), .val (.int kk), .val .null, .val (.int (1 : Int32)), .val (.ref sq), .val (.ref sid), .val (.ref o), .val (.int (0 : Int32)), .val (.int (0 : Int32))] [(.int (0 : Int32))])) (fun s_ T_ L_ X_ t_ q_ => XS.iload X_.here C.hx rfl (C.d at_139) rfl q_) ?_
        refine Go.plain (g' := (mkF m 143 #[.val (.int p0), .val (.int p1), .val (.int p2), .val (.int p3), .val (.int kk), .val .null, .val (.int (1 : Int32)), .val (.ref sq), .val (.ref sid), .val (.ref o), .val (.int (0 : Int32)), .val (.int (0 : Int32))] [(.int (0 : Int32)), (.int (0 : Int32))])) (fun s_ T_ L_ X_ t_ q_ => XS.iload X_.here C.hx rfl (C.d at_141) rfl q_) ?_
        refine Go.plain (g' := (mkF m 148 #[.val (.int p0), .val (.int p1), .val (.int p2), .val (.int p3), .val (.int kk), .val .null, .val (.int (1 : Int32)), .val (.ref sq), .val (.ref sid), .val (.ref o), .val (.int (0 : Int32)), .val (.int (0 : Int32))] [])) (fun s_ T_ L_ X_ t_ q_ => XS.icmpYes X_.here C.hx rfl (pc0 := 143) (pc' := 148) rfl (C.d at_143) rfl (teq (rfl : (0 : Int32) = (0 : Int32))).1 (by decide) (by decide) q_) ?_
        refine Go.plain (g' := (mkF m 150 #[.val (.int p0), .val (.int p1), .val (.int p2), .val (.int p3), .val (.int kk), .val .null, .val (.int (1 : Int32)), .val (.ref sq), .val (.ref sid), .val (.ref o), .val (.int (0 : Int32)), .val (.int (0 : Int32))] [(.int (0 : Int32))])) (fun s_ T_ L_ X_ t_ q_ => XS.iload X_.here C.hx rfl (C.d at_148) rfl q_) ?_
        refine Go.plain (g' := (mkF m 163 #[.val (.int p0), .val (.int p1), .val (.int p2), .val (.int p3), .val (.int kk), .val .null, .val (.int (1 : Int32)), .val (.ref sq), .val (.ref sid), .val (.ref o), .val (.int (0 : Int32)), .val (.int (0 : Int32))] [])) (fun s_ T_ L_ X_ t_ q_ => XS.ifYes X_.here C.hx rfl (pc0 := 150) (pc' := 163) rfl (C.d at_150) rfl ((if0 _ _).trans (teq (rfl : (0 : Int32) = (0 : Int32))).1) (by decide) (by decide) q_) ?_
        refine Go.plain (g' := (mkF m 164 #[.val (.int p0), .val (.int p1), .val (.int p2), .val (.int p3), .val (.int kk), .val .null, .val (.int (1 : Int32)), .val (.ref sq), .val (.ref sid), .val (.ref o), .val (.int (0 : Int32)), .val (.int (0 : Int32))] [(.int (1 : Int32))])) (fun s_ T_ L_ X_ t_ q_ => XS.iconst X_.here C.hx rfl (C.d at_163) q_) ?_
        exact Go.retN C (by simp) at_164 (by decide) (by decide) rfl
      · refine Go.plain (g' := (mkF m 43 #[.val (.int p0), .val (.int p1), .val (.int p2), .val (.int p3), .val (.int kk), .val .null, .val (.int (1 : Int32)), .val .null, .unset, .unset, .unset, .unset] [])) (fun s_ T_ L_ X_ t_ q_ => XS.ifNo X_.here C.hx rfl (C.d at_40) rfl ((if0 _ _).trans (feq h2).1) q_) ?_
        refine Go.newF C (hw _ (List.mem_of_getElem? (i := 5) rfl)) (hw _ (List.mem_of_getElem? (i := 6) rfl)) (hw _ (List.mem_of_getElem? (i := 7) rfl)) at_43 (pc' := 46) rfl (k' := 1) (n' := 4) rfl rfl (by decide) (by decide) ?_
        intro sq h14 q_sq z_sq E_sq A_sq D_sq
        have Fa_sq : Fld Z h14 sq "java/lang/String" "value" "[B" .null := D_sq (Or.inr (hw _ (List.mem_of_getElem? (i := 34) rfl))) (ty := (.array .byte)) (by decide)
        have Fb_sq : Fld Z h14 sq "java/lang/String" "coder" "B" (.int (0 : Int32)) := D_sq (Or.inr (hw _ (List.mem_of_getElem? (i := 32) rfl))) (ty := .byte) (by decide)
        refine Go.plain (g' := (mkF m 47 #[.val (.int p0), .val (.int p1), .val (.int p2), .val (.int p3), .val (.int kk), .val .null, .val (.int (1 : Int32)), .val .null, .unset, .unset, .unset, .unset] [(.ref sq), (.ref sq)])) (fun s_ T_ L_ X_ t_ q_ => XS.dup X_.here C.hx rfl (C.d at_46) rfl rfl q_) ?_
        refine Go.plain (g' := (mkF m 48 #[.val (.int p0), .val (.int p1), .val (.int p2), .val (.int p3), .val (.int kk), .val .null, .val (.int (1 : Int32)), .val .null, .unset, .unset, .unset, .unset] [(.int (1 : Int32)), (.ref sq), (.ref sq)])) (fun s_ T_ L_ X_ t_ q_ => XS.iconst X_.here C.hx rfl (C.d at_47) q_) ?_
        have lt_sq := A_sq.lt
        refine Go.newP C (hw _ (List.mem_of_getElem? (i := 8) rfl)) (by decide) (cap := 1) (by decide) (by decide) at_48 (pc' := 50) rfl (k' := 2) (n' := 5) rfl rfl (by decide) (by decide) ?_
        intro cb h15 k_cb q_cb z_cb E_cb V_cb
        have A_sq := A_sq.ext E_cb
        have Fa_sq := Fa_sq.ext E_cb
        have Fb_sq := Fb_sq.ext E_cb
        have V_cb : Arv Z h15 cb k_cb .char (1 : Int32) [.int 0] (.int 0) := V_cb.pad (pad_rep [] (.int 0) 1)
        have ne_sq_cb : sq ≠ cb := Nat.ne_of_lt (by rw [q_cb]; exact lt_sq)
        have ne_cb_sq : cb ≠ sq := Ne.symm ne_sq_cb
        refine Go.plain (g' := (mkF m 51 #[.val (.int p0), .val (.int p1), .val (.int p2), .val (.int p3), .val (.int kk), .val .null, .val (.int (1 : Int32)), .val .null, .unset, .unset, .unset, .unset] [(.ref cb), (.ref cb), (.ref sq), (.ref sq)])) (fun s_ T_ L_ X_ t_ q_ => XS.dup X_.here C.hx rfl (C.d at_50) rfl rfl q_) ?_
        refine Go.plain (g' := (mkF m 52 #[.val (.int p0), .val (.int p1), .val (.int p2), .val (.int p3), .val (.int kk), .val .null, .val (.int (1 : Int32)), .val .null, .unset, .unset, .unset, .unset] [(.int (0 : Int32)), (.ref cb), (.ref cb), (.ref sq), (.ref sq)])) (fun s_ T_ L_ X_ t_ q_ => XS.iconst X_.here C.hx rfl (C.d at_51) q_) ?_
        refine Go.plain (g' := (mkF m 53 #[.val (.int p0), .val (.int p1), .val (.int p2), .val (.int p3), .val (.int kk), .val .null, .val (.int (1 : Int32)), .val .null, .unset, .unset, .unset, .unset] [(.int p2), (.int (0 : Int32)), (.ref cb), (.ref cb), (.ref sq), (.ref sq)])) (fun s_ T_ L_ X_ t_ q_ => XS.iloadN X_.here C.hx rfl (C.d at_52) rfl q_) ?_
        refine Go.plain (g' := (mkF m 56 #[.val (.int p0), .val (.int p1), .val (.int p2), .val (.int p3), .val (.int kk), .val .null, .val (.int (1 : Int32)), .val .null, .unset, .unset, .unset, .unset] [(.int (255 : Int32)), (.int p2), (.int (0 : Int32)), (.ref cb), (.ref cb), (.ref sq), (.ref sq)])) (fun s_ T_ L_ X_ t_ q_ => XS.sipush X_.here C.hx rfl (C.d at_53) q_) ?_
        refine Go.plain (g' := (mkF m 57 #[.val (.int p0), .val (.int p1), .val (.int p2), .val (.int p3), .val (.int kk), .val .null, .val (.int (1 : Int32)), .val .null, .unset, .unset, .unset, .unset] [(.int (p2 &&& (255 : Int32))), (.int (0 : Int32)), (.ref cb), (.ref cb), (.ref sq), (.ref sq)])) (fun s_ T_ L_ X_ t_ q_ => XS.iand X_.here C.hx rfl (C.d at_56) rfl q_) ?_
        refine Go.plain (g' := (mkF m 58 #[.val (.int p0), .val (.int p1), .val (.int p2), .val (.int p3), .val (.int kk), .val .null, .val (.int (1 : Int32)), .val .null, .unset, .unset, .unset, .unset] [(.int ((p2 &&& (255 : Int32)).toUInt32.toUInt16.toUInt32.toInt32)), (.int (0 : Int32)), (.ref cb), (.ref cb), (.ref sq), (.ref sq)])) (fun s_ T_ L_ X_ t_ q_ => XS.i2c X_.here C.hx rfl (C.d at_57) rfl q_) ?_
        refine Go.stC C V_cb ⟨by decide, by decide⟩ (i := 0) rfl (Nat.le_of_ble_eq_true rfl) z_cb at_58 (pc' := 59) rfl ?_
        intro h16 W_h16 V_cb
        rw [nar_i2c_mask] at V_cb
        have A_sq := A_sq.wr W_h16
        have Fa_sq := Fa_sq.other W_h16 (Or.inl ne_sq_cb)
        have Fb_sq := Fb_sq.other W_h16 (Or.inl ne_sq_cb)
        have V_cb : Arv Z h16 cb k_cb .char (1 : Int32) ([p2 &&& (255 : Int32)].map Value.int) (.int 0) := V_cb
        refine Go.strInit hw C (cs := [p2 &&& (255 : Int32)]) (nn := 1) z_sq (List.mem_of_getElem? (i := 0) rfl) A_sq Fa_sq Fb_sq V_cb S0 hz rfl rfl (by decide) (by decide) (one_rng _) (hw _ (List.mem_of_getElem? (i := 6) rfl)) (hw _ (List.mem_of_getElem? (i := 9) rfl)) (hw _ (List.mem_of_getElem? (i := 10) rfl)) at_59 (pc' := 62) rfl rfl (W := 1) (Nat.le_of_eq rfl) (by decide) (by decide) (k' := 3) (n' := 6) rfl rfl (by decide) (by decide) ?_
        intro h17 K_sq T_sq
        have V_cb := V_cb.keep K_sq (ninS ne_cb_sq nin0)
        have A_sq := T_sq.exa
        refine Go.plain (g' := (mkF m 64 #[.val (.int p0), .val (.int p1), .val (.int p2), .val (.int p3), .val (.int kk), .val .null, .val (.int (1 : Int32)), .val (.ref sq), .unset, .unset, .unset, .unset] [])) (fun s_ T_ L_ X_ t_ q_ => XS.astore X_.here C.hx rfl (C.d at_62) rfl rfl (l' := #[.val (.int p0), .val (.int p1), .val (.int p2), .val (.int p3), .val (.int kk), .val .null, .val (.int (1 : Int32)), .val (.ref sq), .unset, .unset, .unset, .unset]) rfl q_) ?_
        refine Go.plain (g' := (mkF m 79 #[.val (.int p0), .val (.int p1), .val (.int p2), .val (.int p3), .val (.int kk), .val .null, .val (.int (1 : Int32)), .val (.ref sq), .unset, .unset, .unset, .unset] [])) (fun s_ T_ L_ X_ t_ q_ => XS.goto X_.here C.hx rfl (pc0 := 64) (pc' := 79) rfl (C.d at_64) (by decide) (by decide) q_) ?_
        have lt_sq := A_sq.lt
        refine Go.newF C (hw _ (List.mem_of_getElem? (i := 5) rfl)) (hw _ (List.mem_of_getElem? (i := 6) rfl)) (hw _ (List.mem_of_getElem? (i := 7) rfl)) at_79 (pc' := 82) rfl (k' := 4) (n' := 10) rfl rfl (by decide) (by decide) ?_
        intro sid h18 q_sid z_sid E_sid A_sid D_sid
        have A_sq := A_sq.ext E_sid
        have Fa_sid : Fld Z h18 sid "java/lang/String" "value" "[B" .null := D_sid (Or.inr (hw _ (List.mem_of_getElem? (i := 34) rfl))) (ty := (.array .byte)) (by decide)
        have Fb_sid : Fld Z h18 sid "java/lang/String" "coder" "B" (.int (0 : Int32)) := D_sid (Or.inr (hw _ (List.mem_of_getElem? (i := 32) rfl))) (ty := .byte) (by decide)
        have ne_sq_sid : sq ≠ sid := Nat.ne_of_lt (by rw [q_sid]; exact lt_sq)
        refine Go.plain (g' := (mkF m 83 #[.val (.int p0), .val (.int p1), .val (.int p2), .val (.int p3), .val (.int kk), .val .null, .val (.int (1 : Int32)), .val (.ref sq), .unset, .unset, .unset, .unset] [(.ref sid), (.ref sid)])) (fun s_ T_ L_ X_ t_ q_ => XS.dup X_.here C.hx rfl (C.d at_82) rfl rfl q_) ?_
        refine Go.plain (g' := (mkF m 84 #[.val (.int p0), .val (.int p1), .val (.int p2), .val (.int p3), .val (.int kk), .val .null, .val (.int (1 : Int32)), .val (.ref sq), .unset, .unset, .unset, .unset] [(.int (1 : Int32)), (.ref sid), (.ref sid)])) (fun s_ T_ L_ X_ t_ q_ => XS.iconst X_.here C.hx rfl (C.d at_83) q_) ?_
        have lt_sid := A_sid.lt
        refine Go.newP C (hw _ (List.mem_of_getElem? (i := 8) rfl)) (by decide) (cap := 1) (by decide) (by decide) at_84 (pc' := 86) rfl (k' := 5) (n' := 11) rfl rfl (by decide) (by decide) ?_
        intro cc h19 k_cc q_cc z_cc E_cc V_cc
        have A_sq := A_sq.ext E_cc
        have A_sid := A_sid.ext E_cc
        have Fa_sid := Fa_sid.ext E_cc
        have Fb_sid := Fb_sid.ext E_cc
        have V_cc : Arv Z h19 cc k_cc .char (1 : Int32) [.int 0] (.int 0) := V_cc.pad (pad_rep [] (.int 0) 1)
        have ne_sid_cc : sid ≠ cc := Nat.ne_of_lt (by rw [q_cc]; exact lt_sid)
        have ne_cc_sid : cc ≠ sid := Ne.symm ne_sid_cc
        refine Go.plain (g' := (mkF m 87 #[.val (.int p0), .val (.int p1), .val (.int p2), .val (.int p3), .val (.int kk), .val .null, .val (.int (1 : Int32)), .val (.ref sq), .unset, .unset, .unset, .unset] [(.ref cc), (.ref cc), (.ref sid), (.ref sid)])) (fun s_ T_ L_ X_ t_ q_ => XS.dup X_.here C.hx rfl (C.d at_86) rfl rfl q_) ?_
        refine Go.plain (g' := (mkF m 88 #[.val (.int p0), .val (.int p1), .val (.int p2), .val (.int p3), .val (.int kk), .val .null, .val (.int (1 : Int32)), .val (.ref sq), .unset, .unset, .unset, .unset] [(.int (0 : Int32)), (.ref cc), (.ref cc), (.ref sid), (.ref sid)])) (fun s_ T_ L_ X_ t_ q_ => XS.iconst X_.here C.hx rfl (C.d at_87) q_) ?_
        refine Go.plain (g' := (mkF m 89 #[.val (.int p0), .val (.int p1), .val (.int p2), .val (.int p3), .val (.int kk), .val .null, .val (.int (1 : Int32)), .val (.ref sq), .unset, .unset, .unset, .unset] [(.int p3), (.int (0 : Int32)), (.ref cc), (.ref cc), (.ref sid), (.ref sid)])) (fun s_ T_ L_ X_ t_ q_ => XS.iloadN X_.here C.hx rfl (C.d at_88) rfl q_) ?_
        refine Go.plain (g' := (mkF m 92 #[.val (.int p0), .val (.int p1), .val (.int p2), .val (.int p3), .val (.int kk), .val .null, .val (.int (1 : Int32)), .val (.ref sq), .unset, .unset, .unset, .unset] [(.int (255 : Int32)), (.int p3), (.int (0 : Int32)), (.ref cc), (.ref cc), (.ref sid), (.ref sid)])) (fun s_ T_ L_ X_ t_ q_ => XS.sipush X_.here C.hx rfl (C.d at_89) q_) ?_
        refine Go.plain (g' := (mkF m 93 #[.val (.int p0), .val (.int p1), .val (.int p2), .val (.int p3), .val (.int kk), .val .null, .val (.int (1 : Int32)), .val (.ref sq), .unset, .unset, .unset, .unset] [(.int (p3 &&& (255 : Int32))), (.int (0 : Int32)), (.ref cc), (.ref cc), (.ref sid), (.ref sid)])) (fun s_ T_ L_ X_ t_ q_ => XS.iand X_.here C.hx rfl (C.d at_92) rfl q_) ?_
        refine Go.plain (g' := (mkF m 94 #[.val (.int p0), .val (.int p1), .val (.int p2), .val (.int p3), .val (.int kk), .val .null, .val (.int (1 : Int32)), .val (.ref sq), .unset, .unset, .unset, .unset] [(.int ((p3 &&& (255 : Int32)).toUInt32.toUInt16.toUInt32.toInt32)), (.int (0 : Int32)), (.ref cc), (.ref cc), (.ref sid), (.ref sid)])) (fun s_ T_ L_ X_ t_ q_ => XS.i2c X_.here C.hx rfl (C.d at_93) rfl q_) ?_
        refine Go.stC C V_cc ⟨by decide, by decide⟩ (i := 0) rfl (Nat.le_of_ble_eq_true rfl) z_cc at_94 (pc' := 95) rfl ?_
        intro h20 W_h20 V_cc
        rw [nar_i2c_mask] at V_cc
        have A_sq := A_sq.wr W_h20
        have A_sid := A_sid.wr W_h20
        have Fa_sid := Fa_sid.other W_h20 (Or.inl ne_sid_cc)
        have Fb_sid := Fb_sid.other W_h20 (Or.inl ne_sid_cc)
        have V_cc : Arv Z h20 cc k_cc .char (1 : Int32) ([p3 &&& (255 : Int32)].map Value.int) (.int 0) := V_cc
        refine Go.strInit hw C (cs := [p3 &&& (255 : Int32)]) (nn := 1) z_sid (List.mem_of_getElem? (i := 0) rfl) A_sid Fa_sid Fb_sid V_cc S0 hz rfl rfl (by decide) (by decide) (one_rng _) (hw _ (List.mem_of_getElem? (i := 6) rfl)) (hw _ (List.mem_of_getElem? (i := 9) rfl)) (hw _ (List.mem_of_getElem? (i := 10) rfl)) at_95 (pc' := 98) rfl rfl (W := 1) (Nat.le_of_eq rfl) (by decide) (by decide) (k' := 6) (n' := 12) rfl rfl (by decide) (by decide) ?_
        intro h21 K_sid T_sid
        have A_sq := A_sq.keep K_sid
        have V_cc := V_cc.keep K_sid (ninS ne_cc_sid nin0)
        have A_sid := T_sid.exa
        refine Go.plain (g' := (mkF m 100 #[.val (.int p0), .val (.int p1), .val (.int p2), .val (.int p3), .val (.int kk), .val .null, .val (.int (1 : Int32)), .val (.ref sq), .val (.ref sid), .unset, .unset, .unset] [])) (fun s_ T_ L_ X_ t_ q_ => XS.astore X_.here C.hx rfl (C.d at_98) rfl rfl (l' := #[.val (.int p0), .val (.int p1), .val (.int p2), .val (.int p3), .val (.int kk), .val .null, .val (.int (1 : Int32)), .val (.ref sq), .val (.ref sid), .unset, .unset, .unset]) rfl q_) ?_
        refine Go.new C (hw _ (List.mem_of_getElem? (i := 35) rfl)) (hw _ (List.mem_of_getElem? (i := 36) rfl)) (hw _ (List.mem_of_getElem? (i := 37) rfl)) at_100 (pc' := 103) rfl (k' := 7) (n' := 15) rfl rfl (by decide) (by decide) ?_
        intro o h22 q_o z_o E_o A_o D_o
        have A_sq := A_sq.ext E_o
        have V_cc := V_cc.ext E_o
        have A_sid := A_sid.ext E_o
        have CF1 : Fld Z h22 o "com/example/tenderbook/tenderbook/model/Call" "requestId" "Ljava/lang/String;" .null := D_o (Or.inr (hw _ (List.mem_of_getElem? (i := 48) rfl))) (ty := (.object "java/lang/String")) (by decide)
        have CF2 : Fld Z h22 o "com/example/tenderbook/tenderbook/model/Call" "reason" "Lcom/example/tenderbook/tenderbook/model/CallFailure;" .null := D_o (Or.inr (hw _ (List.mem_of_getElem? (i := 50) rfl))) (ty := (.object "com/example/tenderbook/tenderbook/model/CallFailure")) (by decide)
        have CF3 : Fld Z h22 o "com/example/tenderbook/tenderbook/model/Call" "closedBy" "Ljava/lang/String;" .null := D_o (Or.inr (hw _ (List.mem_of_getElem? (i := 52) rfl))) (ty := (.object "java/lang/String")) (by decide)
        refine Go.plain (g' := (mkF m 104 #[.val (.int p0), .val (.int p1), .val (.int p2), .val (.int p3), .val (.int kk), .val .null, .val (.int (1 : Int32)), .val (.ref sq), .val (.ref sid), .unset, .unset, .unset] [(.ref o), (.ref o)])) (fun s_ T_ L_ X_ t_ q_ => XS.dup X_.here C.hx rfl (C.d at_103) rfl rfl q_) ?_
        refine Go.plain (g' := (mkF m 106 #[.val (.int p0), .val (.int p1), .val (.int p2), .val (.int p3), .val (.int kk), .val .null, .val (.int (1 : Int32)), .val (.ref sq), .val (.ref sid), .unset, .unset, .unset] [(.ref sid), (.ref o), (.ref o)])) (fun s_ T_ L_ X_ t_ q_ => XS.aload X_.here C.hx rfl (C.d at_104) rfl rfl q_) ?_
        refine Go.plain (g' := (mkF m 108 #[.val (.int p0), .val (.int p1), .val (.int p2), .val (.int p3), .val (.int kk), .val .null, .val (.int (1 : Int32)), .val (.ref sq), .val (.ref sid), .unset, .unset, .unset] [.null, (.ref sid), (.ref o), (.ref o)])) (fun s_ T_ L_ X_ t_ q_ => XS.aload X_.here C.hx rfl (C.d at_106) rfl rfl q_) ?_
        refine Go.plain (g' := (mkF m 110 #[.val (.int p0), .val (.int p1), .val (.int p2), .val (.int p3), .val (.int kk), .val .null, .val (.int (1 : Int32)), .val (.ref sq), .val (.ref sid), .unset, .unset, .unset] [(.ref sq), .null, (.ref sid), (.ref o), (.ref o)])) (fun s_ T_ L_ X_ t_ q_ => XS.aload X_.here C.hx rfl (C.d at_108) rfl rfl q_) ?_
        refine Go.special C (a := o) (P_callNR l Z a0 hw hEL o sid sq h22 A_o CF1 CF2 CF3 z_o A_sid) (fun _ q => nomatch q) rfl (hw _ (List.mem_of_getElem? (i := 38) rfl)) (hw _ (List.mem_of_getElem? (i := 39) rfl)) (hw _ (List.mem_of_getElem? (i := 37) rfl)) (hw _ (List.mem_of_getElem? (i := 40) rfl)) (by decide) pd_3 (argsL := [(.ref sid), .null, (.ref sq)]) (rest := [(.ref o)]) rfl rfl at_110 (pc' := 113) rfl rfl rfl (W := 1) (Nat.le_of_eq rfl) (by decide) (by decide) (k' := 7) (n' := 15) rfl rfl (by decide) (by decide) ?_
        rintro _ h90 ⟨rfl, EO, G2, G3⟩
        show Go p l e room_1 s m #[(.int p0), (.int p1), (.int p2), (.int p3)] below meth c "com/example/tenderbook/tenderbook/model/CallIsAwaitedPinLaw" Z consts_1 [sid, sq] (fun v h => v = some (.int (1 : Int32))) h90 7 15 (mkF m 113 #[.val (.int p0), .val (.int p1), .val (.int p2), .val (.int p3), .val (.int kk), .val .null, .val (.int (1 : Int32)), .val (.ref sq), .val (.ref sid), .unset, .unset, .unset] [(.ref o)])
        refine Go.plain (g' := (mkF m 115 #[.val (.int p0), .val (.int p1), .val (.int p2), .val (.int p3), .val (.int kk), .val .null, .val (.int (1 : Int32)), .val (.ref sq), .val (.ref sid), .val (.ref o), .unset, .unset] [])) (fun s_ T_ L_ X_ t_ q_ => XS.astore X_.here C.hx rfl (C.d at_113) rfl rfl (l' := #[.val (.int p0), .val (.int p1), .val (.int p2), .val (.int p3), .val (.int kk), .val .null, .val (.int (1 : Int32)), .val (.ref sq), .val (.ref sid), .val (.ref o), .unset, .unset]) rfl q_) ?_
        refine Go.plain (g' := (mkF m 117 #[.val (.int p0), .val (.int p1), .val (.int p2), .val (.int p3), .val (.int kk), .val .null, .val (.int (1 : Int32)), .val (.ref sq), .val (.ref sid), .val (.ref o), .unset, .unset] [(.int kk)])) (fun s_ T_ L_ X_ t_ q_ => XS.iload X_.here C.hx rfl (C.d at_115) rfl q_) ?_
        refine Go.plain (g' := (mkF m 120 #[.val (.int p0), .val (.int p1), .val (.int p2), .val (.int p3), .val (.int kk), .val .null, .val (.int (1 : Int32)), .val (.ref sq), .val (.ref sid), .val (.ref o), .unset, .unset] [])) (fun s_ T_ L_ X_ t_ q_ => XS.ifNo X_.here C.hx rfl (C.d at_117) rfl ((if0 _ _).trans (teq (hk0 : kk = (0 : Int32))).2) q_) ?_
        refine Go.plain (g' := (mkF m 122 #[.val (.int p0), .val (.int p1), .val (.int p2), .val (.int p3), .val (.int kk), .val .null, .val (.int (1 : Int32)), .val (.ref sq), .val (.ref sid), .val (.ref o), .unset, .unset] [(.int (1 : Int32))])) (fun s_ T_ L_ X_ t_ q_ => XS.iload X_.here C.hx rfl (C.d at_120) rfl q_) ?_
        refine Go.plain (g' := (mkF m 129 #[.val (.int p0), .val (.int p1), .val (.int p2), .val (.int p3), .val (.int kk), .val .null, .val (.int (1 : Int32)), .val (.ref sq), .val (.ref sid), .val (.ref o), .unset, .unset] [])) (fun s_ T_ L_ X_ t_ q_ => XS.ifYes X_.here C.hx rfl (pc0 := 122) (pc' := 129) rfl (C.d at_122) rfl ((if0 _ _).trans (feq (by decide : ¬ ((1 : Int32) = (0 : Int32)))).2) (by decide) (by decide) q_) ?_
        refine Go.plain (g' := (mkF m 130 #[.val (.int p0), .val (.int p1), .val (.int p2), .val (.int p3), .val (.int kk), .val .null, .val (.int (1 : Int32)), .val (.ref sq), .val (.ref sid), .val (.ref o), .unset, .unset] [(.int (0 : Int32))])) (fun s_ T_ L_ X_ t_ q_ => XS.iconst X_.here C.hx rfl (C.d at_129) q_) ?_
        refine Go.plain (g' := (mkF m 132 #[.val (.int p0), .val (.int p1), .val (.int p2), .val (.int p3), .val (.int kk), .val .null, .val (.int (1 : Int32)), .val (.ref sq), .val (.ref sid), .val (.ref o), .val (.int (0 : Int32)), .unset] [])) (fun s_ T_ L_ X_ t_ q_ => XS.istore X_.here C.hx rfl (C.d at_130) rfl (l' := #[.val (.int p0), .val (.int p1), .val (.int p2), .val (.int p3), .val (.int kk), .val .null, .val (.int (1 : Int32)), .val (.ref sq), .val (.ref sid), .val (.ref o), .val (.int (0 : Int32)), .unset]) rfl q_) ?_
        refine Go.plain (g' := (mkF m 134 #[.val (.int p0), .val (.int p1), .val (.int p2), .val (.int p3), .val (.int kk), .val .null, .val (.int (1 : Int32)), .val (.ref sq), .val (.ref sid), .val (.ref o), .val (.int (0 : Int32)), .unset] [(.ref o)])) (fun s_ T_ L_ X_ t_ q_ => XS.aload X_.here C.hx rfl (C.d at_132) rfl rfl q_) ?_
        refine Go.virt C (a := o) (P_awNR l Z a0 hw hEL o sq h90 G2 G3) (fun _ q => nomatch q) EO (hw _ (List.mem_of_getElem? (i := 53) rfl)) (hw _ (List.mem_of_getElem? (i := 54) rfl)) (hw _ (List.mem_of_getElem? (i := 56) rfl)) (hw _ (List.mem_of_getElem? (i := 55) rfl)) (hw _ (List.mem_of_getElem? (i := 37) rfl)) (hw _ (List.mem_of_getElem? (i := 57) rfl)) (by decide) pd_4 (argsL := []) (rest := []) rfl rfl at_134 (pc' := 137) rfl rfl rfl (W := 0) (Nat.le_of_eq rfl) (by decide) (by decide) (k' := 7) (n' := 15) rfl rfl (by decide) (by decide) ?_
        rintro _ _ ⟨rfl, rfl⟩
        show Go p l e room_1 s m #[(.int p0), (.int p1), (.int p2), (.int p3)] below meth c "com/example/tenderbook/tenderbook/model/CallIsAwaitedPinLaw" Z consts_1 [sid, sq] (fun v h => v = some (.int (1 : Int32))) h90 7 15 (mkF m 137 #[.val (.int p0), .val (.int p1), .val (.int p2), .val (.int p3), .val (.int kk), .val .null, .val (.int (1 : Int32)), .val (.ref sq), .val (.ref sid), .val (.ref o), .val (.int (0 : Int32)), .unset] [(.int (0 : Int32))])
        refine Go.plain (g' := (mkF m 139 #[.val (.int p0), .val (.int p1), .val (.int p2), .val (.int p3), .val (.int kk), .val .null, .val (.int (1 : Int32)), .val (.ref sq), .val (.ref sid), .val (.ref o), .val (.int (0 : Int32)), .val (.int (0 : Int32))] [])) (fun s_ T_ L_ X_ t_ q_ => XS.istore X_.here C.hx rfl (C.d at_137) rfl (l' := #[.val (.int p0), .val (.int p1), .val (.int p2), .val (.int p3), .val (.int kk), .val .null, .val (.int (1 : Int32)), .val (.ref sq), .val (.ref sid), .val (.ref o), .val (.int (0 : Int32)), .val (.int (0 : Int32))]) rfl q_) ?_
        refine Go.plain (g' := (mkF m 141 #[.val (.int p0), .val (.int p1), .val (.int p2), .val (.int p3), .val (.int kk), .val .null, .val (.int (1 : Int32)), .val (.ref sq), .val (.ref sid), .val (.ref o), .val (.int (0 : Int32)), .val (.int (0 : Int32))] [(.int (0 : Int32))])) (fun s_ T_ L_ X_ t_ q_ => XS.iload X_.here C.hx rfl (C.d at_139) rfl q_) ?_
        refine Go.plain (g' := (mkF m 143 #[.val (.int p0), .val (.int p1), .val (.int p2), .val (.int p3), .val (.int kk), .val .null, .val (.int (1 : Int32)), .val (.ref sq), .val (.ref sid), .val (.ref o), .val (.int (0 : Int32)), .val (.int (0 : Int32))] [(.int (0 : Int32)), (.int (0 : Int32))])) (fun s_ T_ L_ X_ t_ q_ => XS.iload X_.here C.hx rfl (C.d at_141) rfl q_) ?_
        refine Go.plain (g' := (mkF m 148 #[.val (.int p0), .val (.int p1), .val (.int p2), .val (.int p3), .val (.int kk), .val .null, .val (.int (1 : Int32)), .val (.ref sq), .val (.ref sid), .val (.ref o), .val (.int (0 : Int32)), .val (.int (0 : Int32))] [])) (fun s_ T_ L_ X_ t_ q_ => XS.icmpYes X_.here C.hx rfl (pc0 := 143) (pc' := 148) rfl (C.d at_143) rfl (teq (rfl : (0 : Int32) = (0 : Int32))).1 (by decide) (by decide) q_) ?_
        refine Go.plain (g' := (mkF m 150 #[.val (.int p0), .val (.int p1), .val (.int p2), .val (.int p3), .val (.int kk), .val .null, .val (.int (1 : Int32)), .val (.ref sq), .val (.ref sid), .val (.ref o), .val (.int (0 : Int32)), .val (.int (0 : Int32))] [(.int (0 : Int32))])) (fun s_ T_ L_ X_ t_ q_ => XS.iload X_.here C.hx rfl (C.d at_148) rfl q_) ?_
        refine Go.plain (g' := (mkF m 163 #[.val (.int p0), .val (.int p1), .val (.int p2), .val (.int p3), .val (.int kk), .val .null, .val (.int (1 : Int32)), .val (.ref sq), .val (.ref sid), .val (.ref o), .val (.int (0 : Int32)), .val (.int (0 : Int32))] [])) (fun s_ T_ L_ X_ t_ q_ => XS.ifYes X_.here C.hx rfl (pc0 := 150) (pc' := 163) rfl (C.d at_150) rfl ((if0 _ _).trans (teq (rfl : (0 : Int32) = (0 : Int32))).1) (by decide) (by decide) q_) ?_
        refine Go.plain (g' := (mkF m 164 #[.val (.int p0), .val (.int p1), .val (.int p2), .val (.int p3), .val (.int kk), .val .null, .val (.int (1 : Int32)), .val (.ref sq), .val (.ref sid), .val (.ref o), .val (.int (0 : Int32)), .val (.int (0 : Int32))] [(.int (1 : Int32))])) (fun s_ T_ L_ X_ t_ q_ => XS.iconst X_.here C.hx rfl (C.d at_163) q_) ?_
        exact Go.retN C (by simp) at_164 (by decide) (by decide) rfl
  · show Go p l e room_1 s m #[(.int p0), (.int p1), (.int p2), (.int p3)] below meth c "com/example/tenderbook/tenderbook/model/CallIsAwaitedPinLaw" Z consts_1 [] (fun v h => v = some (.int (1 : Int32))) h0 0 0 (mkF m 14 #[.val (.int p0), .val (.int p1), .val (.int p2), .val (.int p3), .val (.int kk), .unset, .unset, .unset, .unset, .unset, .unset, .unset] [(.ref rr)])
    refine Go.plain (g' := (mkF m 16 #[.val (.int p0), .val (.int p1), .val (.int p2), .val (.int p3), .val (.int kk), .val (.ref rr), .unset, .unset, .unset, .unset, .unset, .unset] [])) (fun s_ T_ L_ X_ t_ q_ => XS.astore X_.here C.hx rfl (C.d at_14) rfl rfl (l' := #[.val (.int p0), .val (.int p1), .val (.int p2), .val (.int p3), .val (.int kk), .val (.ref rr), .unset, .unset, .unset, .unset, .unset, .unset]) rfl q_) ?_
    refine Go.plain (g' := (mkF m 17 #[.val (.int p0), .val (.int p1), .val (.int p2), .val (.int p3), .val (.int kk), .val (.ref rr), .unset, .unset, .unset, .unset, .unset, .unset] [(.int p1)])) (fun s_ T_ L_ X_ t_ q_ => XS.iloadN X_.here C.hx rfl (C.d at_16) rfl q_) ?_
    refine Go.plain (g' := (mkF m 18 #[.val (.int p0), .val (.int p1), .val (.int p2), .val (.int p3), .val (.int kk), .val (.ref rr), .unset, .unset, .unset, .unset, .unset, .unset] [(.int (1 : Int32)), (.int p1)])) (fun s_ T_ L_ X_ t_ q_ => XS.iconst X_.here C.hx rfl (C.d at_17) q_) ?_
    refine Go.plain (g' := (mkF m 19 #[.val (.int p0), .val (.int p1), .val (.int p2), .val (.int p3), .val (.int kk), .val (.ref rr), .unset, .unset, .unset, .unset, .unset, .unset] [(.int (p1 &&& (1 : Int32)))])) (fun s_ T_ L_ X_ t_ q_ => XS.iand X_.here C.hx rfl (C.d at_18) rfl q_) ?_
    by_cases h1 : (p1 &&& (1 : Int32)) = (0 : Int32)
    · refine Go.plain (g' := (mkF m 26 #[.val (.int p0), .val (.int p1), .val (.int p2), .val (.int p3), .val (.int kk), .val (.ref rr), .unset, .unset, .unset, .unset, .unset, .unset] [])) (fun s_ T_ L_ X_ t_ q_ => XS.ifYes X_.here C.hx rfl (pc0 := 19) (pc' := 26) rfl (C.d at_19) rfl ((if0 _ _).trans (teq h1).1) (by decide) (by decide) q_) ?_
      refine Go.plain (g' := (mkF m 27 #[.val (.int p0), .val (.int p1), .val (.int p2), .val (.int p3), .val (.int kk), .val (.ref rr), .unset, .unset, .unset, .unset, .unset, .unset] [(.int (0 : Int32))])) (fun s_ T_ L_ X_ t_ q_ => XS.iconst X_.here C.hx rfl (C.d at_26) q_) ?_
      refine Go.plain (g' := (mkF m 29 #[.val (.int p0), .val (.int p1), .val (.int p2), .val (.int p3), .val (.int kk), .val (.ref rr), .val (.int (0 : Int32)), .unset, .unset, .unset, .unset, .unset] [])) (fun s_ T_ L_ X_ t_ q_ => XS.istore X_.here C.hx rfl (C.d at_27) rfl (l' := #[.val (.int p0), .val (.int p1), .val (.int p2), .val (.int p3), .val (.int kk), .val (.ref rr), .val (.int (0 : Int32)), .unset, .unset, .unset, .unset, .unset]) rfl q_) ?_
      refine Go.plain (g' := (mkF m 30 #[.val (.int p0), .val (.int p1), .val (.int p2), .val (.int p3), .val (.int kk), .val (.ref rr), .val (.int (0 : Int32)), .unset, .unset, .unset, .unset, .unset] [.null])) (fun s_ T_ L_ X_ t_ q_ => XS.aconstNull X_.here C.hx rfl (C.d at_29) q_) ?_
      refine Go.plain (g' := (mkF m 32 #[.val (.int p0), .val (.int p1), .val (.int p2), .val (.int p3), .val (.int kk), .val (.ref rr), .val (.int (0 : Int32)), .val .null, .unset, .unset, .unset, .unset] [])) (fun s_ T_ L_ X_ t_ q_ => XS.astore X_.here C.hx rfl (C.d at_30) rfl rfl (l' := #[.val (.int p0), .val (.int p1), .val (.int p2), .val (.int p3), .val (.int kk), .val (.ref rr), .val (.int (0 : Int32)), .val .null, .unset, .unset, .unset, .unset]) rfl q_) ?_
      refine Go.plain (g' := (mkF m 34 #[.val (.int p0), .val (.int p1), .val (.int p2), .val (.int p3), .val (.int kk), .val (.ref rr), .val (.int (0 : Int32)), .val .null, .unset, .unset, .unset, .unset] [(.int (0 : Int32))])) (fun s_ T_ L_ X_ t_ q_ => XS.iload X_.here C.hx rfl (C.d at_32) rfl q_) ?_
      refine Go.plain (g' := (mkF m 79 #[.val (.int p0), .val (.int p1), .val (.int p2), .val (.int p3), .val (.int kk), .val (.ref rr), .val (.int (0 : Int32)), .val .null, .unset, .unset, .unset, .unset] [])) (fun s_ T_ L_ X_ t_ q_ => XS.ifYes X_.here C.hx rfl (pc0 := 34) (pc' := 79) rfl (C.d at_34) rfl ((if0 _ _).trans (teq (rfl : (0 : Int32) = (0 : Int32))).1) (by decide) (by decide) q_) ?_
      refine Go.newF C (hw _ (List.mem_of_getElem? (i := 5) rfl)) (hw _ (List.mem_of_getElem? (i := 6) rfl)) (hw _ (List.mem_of_getElem? (i := 7) rfl)) at_79 (pc' := 82) rfl (k' := 1) (n' := 4) rfl rfl (by decide) (by decide) ?_
      intro sid h23 q_sid z_sid E_sid A_sid D_sid
      have Fa_sid : Fld Z h23 sid "java/lang/String" "value" "[B" .null := D_sid (Or.inr (hw _ (List.mem_of_getElem? (i := 34) rfl))) (ty := (.array .byte)) (by decide)
      have Fb_sid : Fld Z h23 sid "java/lang/String" "coder" "B" (.int (0 : Int32)) := D_sid (Or.inr (hw _ (List.mem_of_getElem? (i := 32) rfl))) (ty := .byte) (by decide)
      refine Go.plain (g' := (mkF m 83 #[.val (.int p0), .val (.int p1), .val (.int p2), .val (.int p3), .val (.int kk), .val (.ref rr), .val (.int (0 : Int32)), .val .null, .unset, .unset, .unset, .unset] [(.ref sid), (.ref sid)])) (fun s_ T_ L_ X_ t_ q_ => XS.dup X_.here C.hx rfl (C.d at_82) rfl rfl q_) ?_
      refine Go.plain (g' := (mkF m 84 #[.val (.int p0), .val (.int p1), .val (.int p2), .val (.int p3), .val (.int kk), .val (.ref rr), .val (.int (0 : Int32)), .val .null, .unset, .unset, .unset, .unset] [(.int (1 : Int32)), (.ref sid), (.ref sid)])) (fun s_ T_ L_ X_ t_ q_ => XS.iconst X_.here C.hx rfl (C.d at_83) q_) ?_
      have lt_sid := A_sid.lt
      refine Go.newP C (hw _ (List.mem_of_getElem? (i := 8) rfl)) (by decide) (cap := 1) (by decide) (by decide) at_84 (pc' := 86) rfl (k' := 2) (n' := 5) rfl rfl (by decide) (by decide) ?_
      intro cc h24 k_cc q_cc z_cc E_cc V_cc
      have A_sid := A_sid.ext E_cc
      have Fa_sid := Fa_sid.ext E_cc
      have Fb_sid := Fb_sid.ext E_cc
      have V_cc : Arv Z h24 cc k_cc .char (1 : Int32) [.int 0] (.int 0) := V_cc.pad (pad_rep [] (.int 0) 1)
      have ne_sid_cc : sid ≠ cc := Nat.ne_of_lt (by rw [q_cc]; exact lt_sid)
      have ne_cc_sid : cc ≠ sid := Ne.symm ne_sid_cc
      refine Go.plain (g' := (mkF m 87 #[.val (.int p0), .val (.int p1), .val (.int p2), .val (.int p3), .val (.int kk), .val (.ref rr), .val (.int (0 : Int32)), .val .null, .unset, .unset, .unset, .unset] [(.ref cc), (.ref cc), (.ref sid), (.ref sid)])) (fun s_ T_ L_ X_ t_ q_ => XS.dup X_.here C.hx rfl (C.d at_86) rfl rfl q_) ?_
      refine Go.plain (g' := (mkF m 88 #[.val (.int p0), .val (.int p1), .val (.int p2), .val (.int p3), .val (.int kk), .val (.ref rr), .val (.int (0 : Int32)), .val .null, .unset, .unset, .unset, .unset] [(.int (0 : Int32)), (.ref cc), (.ref cc), (.ref sid), (.ref sid)])) (fun s_ T_ L_ X_ t_ q_ => XS.iconst X_.here C.hx rfl (C.d at_87) q_) ?_
      refine Go.plain (g' := (mkF m 89 #[.val (.int p0), .val (.int p1), .val (.int p2), .val (.int p3), .val (.int kk), .val (.ref rr), .val (.int (0 : Int32)), .val .null, .unset, .unset, .unset, .unset] [(.int p3), (.int (0 : Int32)), (.ref cc), (.ref cc), (.ref sid), (.ref sid)])) (fun s_ T_ L_ X_ t_ q_ => XS.iloadN X_.here C.hx rfl (C.d at_88) rfl q_) ?_
      refine Go.plain (g' := (mkF m 92 #[.val (.int p0), .val (.int p1), .val (.int p2), .val (.int p3), .val (.int kk), .val (.ref rr), .val (.int (0 : Int32)), .val .null, .unset, .unset, .unset, .unset] [(.int (255 : Int32)), (.int p3), (.int (0 : Int32)), (.ref cc), (.ref cc), (.ref sid), (.ref sid)])) (fun s_ T_ L_ X_ t_ q_ => XS.sipush X_.here C.hx rfl (C.d at_89) q_) ?_
      refine Go.plain (g' := (mkF m 93 #[.val (.int p0), .val (.int p1), .val (.int p2), .val (.int p3), .val (.int kk), .val (.ref rr), .val (.int (0 : Int32)), .val .null, .unset, .unset, .unset, .unset] [(.int (p3 &&& (255 : Int32))), (.int (0 : Int32)), (.ref cc), (.ref cc), (.ref sid), (.ref sid)])) (fun s_ T_ L_ X_ t_ q_ => XS.iand X_.here C.hx rfl (C.d at_92) rfl q_) ?_
      refine Go.plain (g' := (mkF m 94 #[.val (.int p0), .val (.int p1), .val (.int p2), .val (.int p3), .val (.int kk), .val (.ref rr), .val (.int (0 : Int32)), .val .null, .unset, .unset, .unset, .unset] [(.int ((p3 &&& (255 : Int32)).toUInt32.toUInt16.toUInt32.toInt32)), (.int (0 : Int32)), (.ref cc), (.ref cc), (.ref sid), (.ref sid)])) (fun s_ T_ L_ X_ t_ q_ => XS.i2c X_.here C.hx rfl (C.d at_93) rfl q_) ?_
      refine Go.stC C V_cc ⟨by decide, by decide⟩ (i := 0) rfl (Nat.le_of_ble_eq_true rfl) z_cc at_94 (pc' := 95) rfl ?_
      intro h25 W_h25 V_cc
      rw [nar_i2c_mask] at V_cc
      have A_sid := A_sid.wr W_h25
      have Fa_sid := Fa_sid.other W_h25 (Or.inl ne_sid_cc)
      have Fb_sid := Fb_sid.other W_h25 (Or.inl ne_sid_cc)
      have V_cc : Arv Z h25 cc k_cc .char (1 : Int32) ([p3 &&& (255 : Int32)].map Value.int) (.int 0) := V_cc
      refine Go.strInit hw C (cs := [p3 &&& (255 : Int32)]) (nn := 1) z_sid (List.mem_of_getElem? (i := 0) rfl) A_sid Fa_sid Fb_sid V_cc S0 hz rfl rfl (by decide) (by decide) (one_rng _) (hw _ (List.mem_of_getElem? (i := 6) rfl)) (hw _ (List.mem_of_getElem? (i := 9) rfl)) (hw _ (List.mem_of_getElem? (i := 10) rfl)) at_95 (pc' := 98) rfl rfl (W := 1) (Nat.le_of_eq rfl) (by decide) (by decide) (k' := 3) (n' := 6) rfl rfl (by decide) (by decide) ?_
      intro h26 K_sid T_sid
      have V_cc := V_cc.keep K_sid (ninS ne_cc_sid nin0)
      have A_sid := T_sid.exa
      refine Go.plain (g' := (mkF m 100 #[.val (.int p0), .val (.int p1), .val (.int p2), .val (.int p3), .val (.int kk), .val (.ref rr), .val (.int (0 : Int32)), .val .null, .val (.ref sid), .unset, .unset, .unset] [])) (fun s_ T_ L_ X_ t_ q_ => XS.astore X_.here C.hx rfl (C.d at_98) rfl rfl (l' := #[.val (.int p0), .val (.int p1), .val (.int p2), .val (.int p3), .val (.int kk), .val (.ref rr), .val (.int (0 : Int32)), .val .null, .val (.ref sid), .unset, .unset, .unset]) rfl q_) ?_
      refine Go.new C (hw _ (List.mem_of_getElem? (i := 35) rfl)) (hw _ (List.mem_of_getElem? (i := 36) rfl)) (hw _ (List.mem_of_getElem? (i := 37) rfl)) at_100 (pc' := 103) rfl (k' := 4) (n' := 9) rfl rfl (by decide) (by decide) ?_
      intro o h27 q_o z_o E_o A_o D_o
      have V_cc := V_cc.ext E_o
      have A_sid := A_sid.ext E_o
      have CF1 : Fld Z h27 o "com/example/tenderbook/tenderbook/model/Call" "requestId" "Ljava/lang/String;" .null := D_o (Or.inr (hw _ (List.mem_of_getElem? (i := 48) rfl))) (ty := (.object "java/lang/String")) (by decide)
      have CF2 : Fld Z h27 o "com/example/tenderbook/tenderbook/model/Call" "reason" "Lcom/example/tenderbook/tenderbook/model/CallFailure;" .null := D_o (Or.inr (hw _ (List.mem_of_getElem? (i := 50) rfl))) (ty := (.object "com/example/tenderbook/tenderbook/model/CallFailure")) (by decide)
      have CF3 : Fld Z h27 o "com/example/tenderbook/tenderbook/model/Call" "closedBy" "Ljava/lang/String;" .null := D_o (Or.inr (hw _ (List.mem_of_getElem? (i := 52) rfl))) (ty := (.object "java/lang/String")) (by decide)
      refine Go.plain (g' := (mkF m 104 #[.val (.int p0), .val (.int p1), .val (.int p2), .val (.int p3), .val (.int kk), .val (.ref rr), .val (.int (0 : Int32)), .val .null, .val (.ref sid), .unset, .unset, .unset] [(.ref o), (.ref o)])) (fun s_ T_ L_ X_ t_ q_ => XS.dup X_.here C.hx rfl (C.d at_103) rfl rfl q_) ?_
      refine Go.plain (g' := (mkF m 106 #[.val (.int p0), .val (.int p1), .val (.int p2), .val (.int p3), .val (.int kk), .val (.ref rr), .val (.int (0 : Int32)), .val .null, .val (.ref sid), .unset, .unset, .unset] [(.ref sid), (.ref o), (.ref o)])) (fun s_ T_ L_ X_ t_ q_ => XS.aload X_.here C.hx rfl (C.d at_104) rfl rfl q_) ?_
      refine Go.plain (g' := (mkF m 108 #[.val (.int p0), .val (.int p1), .val (.int p2), .val (.int p3), .val (.int kk), .val (.ref rr), .val (.int (0 : Int32)), .val .null, .val (.ref sid), .unset, .unset, .unset] [(.ref rr), (.ref sid), (.ref o), (.ref o)])) (fun s_ T_ L_ X_ t_ q_ => XS.aload X_.here C.hx rfl (C.d at_106) rfl rfl q_) ?_
      refine Go.plain (g' := (mkF m 110 #[.val (.int p0), .val (.int p1), .val (.int p2), .val (.int p3), .val (.int kk), .val (.ref rr), .val (.int (0 : Int32)), .val .null, .val (.ref sid), .unset, .unset, .unset] [.null, (.ref rr), (.ref sid), (.ref o), (.ref o)])) (fun s_ T_ L_ X_ t_ q_ => XS.aload X_.here C.hx rfl (C.d at_108) rfl rfl q_) ?_
      refine Go.special C (a := o) (P_callRN l Z a0 hw hEL o sid rr h27 A_o CF1 CF2 CF3 z_o A_sid) (fun _ q => nomatch q) rfl (hw _ (List.mem_of_getElem? (i := 38) rfl)) (hw _ (List.mem_of_getElem? (i := 39) rfl)) (hw _ (List.mem_of_getElem? (i := 37) rfl)) (hw _ (List.mem_of_getElem? (i := 40) rfl)) (by decide) pd_3 (argsL := [(.ref sid), (.ref rr), .null]) (rest := [(.ref o)]) rfl rfl at_110 (pc' := 113) rfl rfl rfl (W := 1) (Nat.le_of_eq rfl) (by decide) (by decide) (k' := 4) (n' := 9) rfl rfl (by decide) (by decide) ?_
      rintro _ h90 ⟨rfl, EO, G2, G3⟩
      show Go p l e room_1 s m #[(.int p0), (.int p1), (.int p2), (.int p3)] below meth c "com/example/tenderbook/tenderbook/model/CallIsAwaitedPinLaw" Z consts_1 [sid] (fun v h => v = some (.int (1 : Int32))) h90 4 9 (mkF m 113 #[.val (.int p0), .val (.int p1), .val (.int p2), .val (.int p3), .val (.int kk), .val (.ref rr), .val (.int (0 : Int32)), .val .null, .val (.ref sid), .unset, .unset, .unset] [(.ref o)])
      refine Go.plain (g' := (mkF m 115 #[.val (.int p0), .val (.int p1), .val (.int p2), .val (.int p3), .val (.int kk), .val (.ref rr), .val (.int (0 : Int32)), .val .null, .val (.ref sid), .val (.ref o), .unset, .unset] [])) (fun s_ T_ L_ X_ t_ q_ => XS.astore X_.here C.hx rfl (C.d at_113) rfl rfl (l' := #[.val (.int p0), .val (.int p1), .val (.int p2), .val (.int p3), .val (.int kk), .val (.ref rr), .val (.int (0 : Int32)), .val .null, .val (.ref sid), .val (.ref o), .unset, .unset]) rfl q_) ?_
      refine Go.plain (g' := (mkF m 117 #[.val (.int p0), .val (.int p1), .val (.int p2), .val (.int p3), .val (.int kk), .val (.ref rr), .val (.int (0 : Int32)), .val .null, .val (.ref sid), .val (.ref o), .unset, .unset] [(.int kk)])) (fun s_ T_ L_ X_ t_ q_ => XS.iload X_.here C.hx rfl (C.d at_115) rfl q_) ?_
      refine Go.plain (g' := (mkF m 129 #[.val (.int p0), .val (.int p1), .val (.int p2), .val (.int p3), .val (.int kk), .val (.ref rr), .val (.int (0 : Int32)), .val .null, .val (.ref sid), .val (.ref o), .unset, .unset] [])) (fun s_ T_ L_ X_ t_ q_ => XS.ifYes X_.here C.hx rfl (pc0 := 117) (pc' := 129) rfl (C.d at_117) rfl ((if0 _ _).trans (feq (hk0 : ¬ kk = (0 : Int32))).2) (by decide) (by decide) q_) ?_
      refine Go.plain (g' := (mkF m 130 #[.val (.int p0), .val (.int p1), .val (.int p2), .val (.int p3), .val (.int kk), .val (.ref rr), .val (.int (0 : Int32)), .val .null, .val (.ref sid), .val (.ref o), .unset, .unset] [(.int (0 : Int32))])) (fun s_ T_ L_ X_ t_ q_ => XS.iconst X_.here C.hx rfl (C.d at_129) q_) ?_
      refine Go.plain (g' := (mkF m 132 #[.val (.int p0), .val (.int p1), .val (.int p2), .val (.int p3), .val (.int kk), .val (.ref rr), .val (.int (0 : Int32)), .val .null, .val (.ref sid), .val (.ref o), .val (.int (0 : Int32)), .unset] [])) (fun s_ T_ L_ X_ t_ q_ => XS.istore X_.here C.hx rfl (C.d at_130) rfl (l' := #[.val (.int p0), .val (.int p1), .val (.int p2), .val (.int p3), .val (.int kk), .val (.ref rr), .val (.int (0 : Int32)), .val .null, .val (.ref sid), .val (.ref o), .val (.int (0 : Int32)), .unset]) rfl q_) ?_
      refine Go.plain (g' := (mkF m 134 #[.val (.int p0), .val (.int p1), .val (.int p2), .val (.int p3), .val (.int kk), .val (.ref rr), .val (.int (0 : Int32)), .val .null, .val (.ref sid), .val (.ref o), .val (.int (0 : Int32)), .unset] [(.ref o)])) (fun s_ T_ L_ X_ t_ q_ => XS.aload X_.here C.hx rfl (C.d at_132) rfl rfl q_) ?_
      refine Go.virt C (a := o) (P_awRN l Z a0 hw hEL o rr h90 G2 G3) (fun _ q => nomatch q) EO (hw _ (List.mem_of_getElem? (i := 53) rfl)) (hw _ (List.mem_of_getElem? (i := 54) rfl)) (hw _ (List.mem_of_getElem? (i := 56) rfl)) (hw _ (List.mem_of_getElem? (i := 55) rfl)) (hw _ (List.mem_of_getElem? (i := 37) rfl)) (hw _ (List.mem_of_getElem? (i := 57) rfl)) (by decide) pd_4 (argsL := []) (rest := []) rfl rfl at_134 (pc' := 137) rfl rfl rfl (W := 0) (Nat.le_of_eq rfl) (by decide) (by decide) (k' := 4) (n' := 9) rfl rfl (by decide) (by decide) ?_
      rintro _ _ ⟨rfl, rfl⟩
      show Go p l e room_1 s m #[(.int p0), (.int p1), (.int p2), (.int p3)] below meth c "com/example/tenderbook/tenderbook/model/CallIsAwaitedPinLaw" Z consts_1 [sid] (fun v h => v = some (.int (1 : Int32))) h90 4 9 (mkF m 137 #[.val (.int p0), .val (.int p1), .val (.int p2), .val (.int p3), .val (.int kk), .val (.ref rr), .val (.int (0 : Int32)), .val .null, .val (.ref sid), .val (.ref o), .val (.int (0 : Int32)), .unset] [(.int (0 : Int32))])
      refine Go.plain (g' := (mkF m 139 #[.val (.int p0), .val (.int p1), .val (.int p2), .val (.int p3), .val (.int kk), .val (.ref rr), .val (.int (0 : Int32)), .val .null, .val (.ref sid), .val (.ref o), .val (.int (0 : Int32)), .val (.int (0 : Int32))] [])) (fun s_ T_ L_ X_ t_ q_ => XS.istore X_.here C.hx rfl (C.d at_137) rfl (l' := #[.val (.int p0), .val (.int p1), .val (.int p2), .val (.int p3), .val (.int kk), .val (.ref rr), .val (.int (0 : Int32)), .val .null, .val (.ref sid), .val (.ref o), .val (.int (0 : Int32)), .val (.int (0 : Int32))]) rfl q_) ?_
      refine Go.plain (g' := (mkF m 141 #[.val (.int p0), .val (.int p1), .val (.int p2), .val (.int p3), .val (.int kk), .val (.ref rr), .val (.int (0 : Int32)), .val .null, .val (.ref sid), .val (.ref o), .val (.int (0 : Int32)), .val (.int (0 : Int32))] [(.int (0 : Int32))])) (fun s_ T_ L_ X_ t_ q_ => XS.iload X_.here C.hx rfl (C.d at_139) rfl q_) ?_
      refine Go.plain (g' := (mkF m 143 #[.val (.int p0), .val (.int p1), .val (.int p2), .val (.int p3), .val (.int kk), .val (.ref rr), .val (.int (0 : Int32)), .val .null, .val (.ref sid), .val (.ref o), .val (.int (0 : Int32)), .val (.int (0 : Int32))] [(.int (0 : Int32)), (.int (0 : Int32))])) (fun s_ T_ L_ X_ t_ q_ => XS.iload X_.here C.hx rfl (C.d at_141) rfl q_) ?_
      refine Go.plain (g' := (mkF m 148 #[.val (.int p0), .val (.int p1), .val (.int p2), .val (.int p3), .val (.int kk), .val (.ref rr), .val (.int (0 : Int32)), .val .null, .val (.ref sid), .val (.ref o), .val (.int (0 : Int32)), .val (.int (0 : Int32))] [])) (fun s_ T_ L_ X_ t_ q_ => XS.icmpYes X_.here C.hx rfl (pc0 := 143) (pc' := 148) rfl (C.d at_143) rfl (teq (rfl : (0 : Int32) = (0 : Int32))).1 (by decide) (by decide) q_) ?_
      refine Go.plain (g' := (mkF m 150 #[.val (.int p0), .val (.int p1), .val (.int p2), .val (.int p3), .val (.int kk), .val (.ref rr), .val (.int (0 : Int32)), .val .null, .val (.ref sid), .val (.ref o), .val (.int (0 : Int32)), .val (.int (0 : Int32))] [(.int (0 : Int32))])) (fun s_ T_ L_ X_ t_ q_ => XS.iload X_.here C.hx rfl (C.d at_148) rfl q_) ?_
      refine Go.plain (g' := (mkF m 163 #[.val (.int p0), .val (.int p1), .val (.int p2), .val (.int p3), .val (.int kk), .val (.ref rr), .val (.int (0 : Int32)), .val .null, .val (.ref sid), .val (.ref o), .val (.int (0 : Int32)), .val (.int (0 : Int32))] [])) (fun s_ T_ L_ X_ t_ q_ => XS.ifYes X_.here C.hx rfl (pc0 := 150) (pc' := 163) rfl (C.d at_150) rfl ((if0 _ _).trans (teq (rfl : (0 : Int32) = (0 : Int32))).1) (by decide) (by decide) q_) ?_
      refine Go.plain (g' := (mkF m 164 #[.val (.int p0), .val (.int p1), .val (.int p2), .val (.int p3), .val (.int kk), .val (.ref rr), .val (.int (0 : Int32)), .val .null, .val (.ref sid), .val (.ref o), .val (.int (0 : Int32)), .val (.int (0 : Int32))] [(.int (1 : Int32))])) (fun s_ T_ L_ X_ t_ q_ => XS.iconst X_.here C.hx rfl (C.d at_163) q_) ?_
      exact Go.retN C (by simp) at_164 (by decide) (by decide) rfl
    · refine Go.plain (g' := (mkF m 22 #[.val (.int p0), .val (.int p1), .val (.int p2), .val (.int p3), .val (.int kk), .val (.ref rr), .unset, .unset, .unset, .unset, .unset, .unset] [])) (fun s_ T_ L_ X_ t_ q_ => XS.ifNo X_.here C.hx rfl (C.d at_19) rfl ((if0 _ _).trans (feq h1).1) q_) ?_
      refine Go.plain (g' := (mkF m 23 #[.val (.int p0), .val (.int p1), .val (.int p2), .val (.int p3), .val (.int kk), .val (.ref rr), .unset, .unset, .unset, .unset, .unset, .unset] [(.int (1 : Int32))])) (fun s_ T_ L_ X_ t_ q_ => XS.iconst X_.here C.hx rfl (C.d at_22) q_) ?_
      refine Go.plain (g' := (mkF m 27 #[.val (.int p0), .val (.int p1), .val (.int p2), .val (.int p3), .val (.int kk), .val (.ref rr), .unset, .unset, .unset, .unset, .unset, .unset] [(.int (1 : Int32))])) (fun s_ T_ L_ X_ t_ q_ => XS.goto X_.here C.hx rfl (pc0 := 23) (pc' := 27) rfl (C.d at_23) (by decide) (by decide) q_) ?_
      refine Go.plain (g' := (mkF m 29 #[.val (.int p0), .val (.int p1), .val (.int p2), .val (.int p3), .val (.int kk), .val (.ref rr), .val (.int (1 : Int32)), .unset, .unset, .unset, .unset, .unset] [])) (fun s_ T_ L_ X_ t_ q_ => XS.istore X_.here C.hx rfl (C.d at_27) rfl (l' := #[.val (.int p0), .val (.int p1), .val (.int p2), .val (.int p3), .val (.int kk), .val (.ref rr), .val (.int (1 : Int32)), .unset, .unset, .unset, .unset, .unset]) rfl q_) ?_
      refine Go.plain (g' := (mkF m 30 #[.val (.int p0), .val (.int p1), .val (.int p2), .val (.int p3), .val (.int kk), .val (.ref rr), .val (.int (1 : Int32)), .unset, .unset, .unset, .unset, .unset] [.null])) (fun s_ T_ L_ X_ t_ q_ => XS.aconstNull X_.here C.hx rfl (C.d at_29) q_) ?_
      refine Go.plain (g' := (mkF m 32 #[.val (.int p0), .val (.int p1), .val (.int p2), .val (.int p3), .val (.int kk), .val (.ref rr), .val (.int (1 : Int32)), .val .null, .unset, .unset, .unset, .unset] [])) (fun s_ T_ L_ X_ t_ q_ => XS.astore X_.here C.hx rfl (C.d at_30) rfl rfl (l' := #[.val (.int p0), .val (.int p1), .val (.int p2), .val (.int p3), .val (.int kk), .val (.ref rr), .val (.int (1 : Int32)), .val .null, .unset, .unset, .unset, .unset]) rfl q_) ?_
      refine Go.plain (g' := (mkF m 34 #[.val (.int p0), .val (.int p1), .val (.int p2), .val (.int p3), .val (.int kk), .val (.ref rr), .val (.int (1 : Int32)), .val .null, .unset, .unset, .unset, .unset] [(.int (1 : Int32))])) (fun s_ T_ L_ X_ t_ q_ => XS.iload X_.here C.hx rfl (C.d at_32) rfl q_) ?_
      refine Go.plain (g' := (mkF m 37 #[.val (.int p0), .val (.int p1), .val (.int p2), .val (.int p3), .val (.int kk), .val (.ref rr), .val (.int (1 : Int32)), .val .null, .unset, .unset, .unset, .unset] [])) (fun s_ T_ L_ X_ t_ q_ => XS.ifNo X_.here C.hx rfl (C.d at_34) rfl ((if0 _ _).trans (feq (by decide : ¬ ((1 : Int32) = (0 : Int32)))).1) q_) ?_
      refine Go.plain (g' := (mkF m 38 #[.val (.int p0), .val (.int p1), .val (.int p2), .val (.int p3), .val (.int kk), .val (.ref rr), .val (.int (1 : Int32)), .val .null, .unset, .unset, .unset, .unset] [(.int p1)])) (fun s_ T_ L_ X_ t_ q_ => XS.iloadN X_.here C.hx rfl (C.d at_37) rfl q_) ?_
      refine Go.plain (g' := (mkF m 39 #[.val (.int p0), .val (.int p1), .val (.int p2), .val (.int p3), .val (.int kk), .val (.ref rr), .val (.int (1 : Int32)), .val .null, .unset, .unset, .unset, .unset] [(.int (2 : Int32)), (.int p1)])) (fun s_ T_ L_ X_ t_ q_ => XS.iconst X_.here C.hx rfl (C.d at_38) q_) ?_
      refine Go.plain (g' := (mkF m 40 #[.val (.int p0), .val (.int p1), .val (.int p2), .val (.int p3), .val (.int kk), .val (.ref rr), .val (.int (1 : Int32)), .val .null, .unset, .unset, .unset, .unset] [(.int (p1 &&& (2 : Int32)))])) (fun s_ T_ L_ X_ t_ q_ => XS.iand X_.here C.hx rfl (C.d at_39) rfl q_) ?_
      by_cases h2 : (p1 &&& (2 : Int32)) = (0 : Int32)
      · refine Go.plain (g' := (mkF m 67 #[.val (.int p0), .val (.int p1), .val (.int p2), .val (.int p3), .val (.int kk), .val (.ref rr), .val (.int (1 : Int32)), .val .null, .unset, .unset, .unset, .unset] [])) (fun s_ T_ L_ X_ t_ q_ => XS.ifYes X_.here C.hx rfl (pc0 := 40) (pc' := 67) rfl (C.d at_40) rfl ((if0 _ _).trans (teq h2).1) (by decide) (by decide) q_) ?_
        refine Go.newF C (hw _ (List.mem_of_getElem? (i := 5) rfl)) (hw _ (List.mem_of_getElem? (i := 6) rfl)) (hw _ (List.mem_of_getElem? (i := 7) rfl)) at_67 (pc' := 70) rfl (k' := 1) (n' := 4) rfl rfl (by decide) (by decide) ?_
        intro sq h28 q_sq z_sq E_sq A_sq D_sq
        have Fa_sq : Fld Z h28 sq "java/lang/String" "value" "[B" .null := D_sq (Or.inr (hw _ (List.mem_of_getElem? (i := 34) rfl))) (ty := (.array .byte)) (by decide)
        have Fb_sq : Fld Z h28 sq "java/lang/String" "coder" "B" (.int (0 : Int32)) := D_sq (Or.inr (hw _ (List.mem_of_getElem? (i := 32) rfl))) (ty := .byte) (by decide)
        refine Go.plain (g' := (mkF m 71 #[.val (.int p0), .val (.int p1), .val (.int p2), .val (.int p3), .val (.int kk), .val (.ref rr), .val (.int (1 : Int32)), .val .null, .unset, .unset, .unset, .unset] [(.ref sq), (.ref sq)])) (fun s_ T_ L_ X_ t_ q_ => XS.dup X_.here C.hx rfl (C.d at_70) rfl rfl q_) ?_
        refine Go.plain (g' := (mkF m 72 #[.val (.int p0), .val (.int p1), .val (.int p2), .val (.int p3), .val (.int kk), .val (.ref rr), .val (.int (1 : Int32)), .val .null, .unset, .unset, .unset, .unset] [(.int (0 : Int32)), (.ref sq), (.ref sq)])) (fun s_ T_ L_ X_ t_ q_ => XS.iconst X_.here C.hx rfl (C.d at_71) q_) ?_
        have lt_sq := A_sq.lt
        refine Go.newP C (hw _ (List.mem_of_getElem? (i := 8) rfl)) (by decide) (cap := 0) (by decide) (by decide) at_72 (pc' := 74) rfl (k' := 2) (n' := 4) rfl rfl (by decide) (by decide) ?_
        intro cb h29 k_cb q_cb z_cb E_cb V_cb
        have A_sq := A_sq.ext E_cb
        have Fa_sq := Fa_sq.ext E_cb
        have Fb_sq := Fb_sq.ext E_cb
        refine Go.special C (a := sq) (P_s1 l Z a0 hw hEL sq cb k_cb h29 A_sq Fa_sq Fb_sq z_sq V_cb) (allS (List.mem_of_getElem? (i := 0) rfl) all0) rfl (hw _ (List.mem_of_getElem? (i := 9) rfl)) (hw _ (List.mem_of_getElem? (i := 10) rfl)) (hw _ (List.mem_of_getElem? (i := 7) rfl)) (hw _ (List.mem_of_getElem? (i := 11) rfl)) (by decide) pd_5 (argsL := [(.ref cb)]) (rest := [(.ref sq)]) rfl rfl at_74 (pc' := 77) rfl rfl rfl (W := 1) (Nat.le_of_eq rfl) (by decide) (by decide) (k' := 6) (n' := 12) rfl rfl (by decide) (by decide) ?_
        rintro _ h30 ⟨rfl, K_sq, E9_sq⟩
        show Go p l e room_1 s m #[(.int p0), (.int p1), (.int p2), (.int p3)] below meth c "com/example/tenderbook/tenderbook/model/CallIsAwaitedPinLaw" Z consts_1 [sq] (fun v h => v = some (.int (1 : Int32))) h30 6 12 (mkF m 77 #[.val (.int p0), .val (.int p1), .val (.int p2), .val (.int p3), .val (.int kk), .val (.ref rr), .val (.int (1 : Int32)), .val .null, .unset, .unset, .unset, .unset] [(.ref sq)])
        have A_sq := E9_sq
        refine Go.plain (g' := (mkF m 79 #[.val (.int p0), .val (.int p1), .val (.int p2), .val (.int p3), .val (.int kk), .val (.ref rr), .val (.int (1 : Int32)), .val (.ref sq), .unset, .unset, .unset, .unset] [])) (fun s_ T_ L_ X_ t_ q_ => XS.astore X_.here C.hx rfl (C.d at_77) rfl rfl (l' := #[.val (.int p0), .val (.int p1), .val (.int p2), .val (.int p3), .val (.int kk), .val (.ref rr), .val (.int (1 : Int32)), .val (.ref sq), .unset, .unset, .unset, .unset]) rfl q_) ?_
        have lt_sq := A_sq.lt
        refine Go.newF C (hw _ (List.mem_of_getElem? (i := 5) rfl)) (hw _ (List.mem_of_getElem? (i := 6) rfl)) (hw _ (List.mem_of_getElem? (i := 7) rfl)) at_79 (pc' := 82) rfl (k' := 7) (n' := 16) rfl rfl (by decide) (by decide) ?_
        intro sid h31 q_sid z_sid E_sid A_sid D_sid
        have A_sq := A_sq.ext E_sid
        have Fa_sid : Fld Z h31 sid "java/lang/String" "value" "[B" .null := D_sid (Or.inr (hw _ (List.mem_of_getElem? (i := 34) rfl))) (ty := (.array .byte)) (by decide)
        have Fb_sid : Fld Z h31 sid "java/lang/String" "coder" "B" (.int (0 : Int32)) := D_sid (Or.inr (hw _ (List.mem_of_getElem? (i := 32) rfl))) (ty := .byte) (by decide)
        have ne_sq_sid : sq ≠ sid := Nat.ne_of_lt (by rw [q_sid]; exact lt_sq)
        refine Go.plain (g' := (mkF m 83 #[.val (.int p0), .val (.int p1), .val (.int p2), .val (.int p3), .val (.int kk), .val (.ref rr), .val (.int (1 : Int32)), .val (.ref sq), .unset, .unset, .unset, .unset] [(.ref sid), (.ref sid)])) (fun s_ T_ L_ X_ t_ q_ => XS.dup X_.here C.hx rfl (C.d at_82) rfl rfl q_) ?_
        refine Go.plain (g' := (mkF m 84 #[.val (.int p0), .val (.int p1), .val (.int p2), .val (.int p3), .val (.int kk), .val (.ref rr), .val (.int (1 : Int32)), .val (.ref sq), .unset, .unset, .unset, .unset] [(.int (1 : Int32)), (.ref sid), (.ref sid)])) (fun s_ T_ L_ X_ t_ q_ => XS.iconst X_.here C.hx rfl (C.d at_83) q_) ?_
        have lt_sid := A_sid.lt
        refine Go.newP C (hw _ (List.mem_of_getElem? (i := 8) rfl)) (by decide) (cap := 1) (by decide) (by decide) at_84 (pc' := 86) rfl (k' := 8) (n' := 17) rfl rfl (by decide) (by decide) ?_
        intro cc h32 k_cc q_cc z_cc E_cc V_cc
        have A_sq := A_sq.ext E_cc
        have A_sid := A_sid.ext E_cc
        have Fa_sid := Fa_sid.ext E_cc
        have Fb_sid := Fb_sid.ext E_cc
        have V_cc : Arv Z h32 cc k_cc .char (1 : Int32) [.int 0] (.int 0) := V_cc.pad (pad_rep [] (.int 0) 1)
        have ne_sid_cc : sid ≠ cc := Nat.ne_of_lt (by rw [q_cc]; exact lt_sid)
        have ne_cc_sid : cc ≠ sid := Ne.symm ne_sid_cc
        refine Go.plain (g' := (mkF m 87 #[.val (.int p0), .val (.int p1), .val (.int p2), .val (.int p3), .val (.int kk), .val (.ref rr), .val (.int (1 : Int32)), .val (.ref sq), .unset, .unset, .unset, .unset] [(.ref cc), (.ref cc), (.ref sid), (.ref sid)])) (fun s_ T_ L_ X_ t_ q_ => XS.dup X_.here C.hx rfl (C.d at_86) rfl rfl q_) ?_
        refine Go.plain (g' := (mkF m 88 #[.val (.int p0), .val (.int p1), .val (.int p2), .val (.int p3), .val (.int kk), .val (.ref rr), .val (.int (1 : Int32)), .val (.ref sq), .unset, .unset, .unset, .unset] [(.int (0 : Int32)), (.ref cc), (.ref cc), (.ref sid), (.ref sid)])) (fun s_ T_ L_ X_ t_ q_ => XS.iconst X_.here C.hx rfl (C.d at_87) q_) ?_
        refine Go.plain (g' := (mkF m 89 #[.val (.int p0), .val (.int p1), .val (.int p2), .val (.int p3), .val (.int kk), .val (.ref rr), .val (.int (1 : Int32)), .val (.ref sq), .unset, .unset, .unset, .unset] [(.int p3), (.int (0 : Int32)), (.ref cc), (.ref cc), (.ref sid), (.ref sid)])) (fun s_ T_ L_ X_ t_ q_ => XS.iloadN X_.here C.hx rfl (C.d at_88) rfl q_) ?_
        refine Go.plain (g' := (mkF m 92 #[.val (.int p0), .val (.int p1), .val (.int p2), .val (.int p3), .val (.int kk), .val (.ref rr), .val (.int (1 : Int32)), .val (.ref sq), .unset, .unset, .unset, .unset] [(.int (255 : Int32)), (.int p3), (.int (0 : Int32)), (.ref cc), (.ref cc), (.ref sid), (.ref sid)])) (fun s_ T_ L_ X_ t_ q_ => XS.sipush X_.here C.hx rfl (C.d at_89) q_) ?_
        refine Go.plain (g' := (mkF m 93 #[.val (.int p0), .val (.int p1), .val (.int p2), .val (.int p3), .val (.int kk), .val (.ref rr), .val (.int (1 : Int32)), .val (.ref sq), .unset, .unset, .unset, .unset] [(.int (p3 &&& (255 : Int32))), (.int (0 : Int32)), (.ref cc), (.ref cc), (.ref sid), (.ref sid)])) (fun s_ T_ L_ X_ t_ q_ => XS.iand X_.here C.hx rfl (C.d at_92) rfl q_) ?_
        refine Go.plain (g' := (mkF m 94 #[.val (.int p0), .val (.int p1), .val (.int p2), .val (.int p3), .val (.int kk), .val (.ref rr), .val (.int (1 : Int32)), .val (.ref sq), .unset, .unset, .unset, .unset] [(.int ((p3 &&& (255 : Int32)).toUInt32.toUInt16.toUInt32.toInt32)), (.int (0 : Int32)), (.ref cc), (.ref cc), (.ref sid), (.ref sid)])) (fun s_ T_ L_ X_ t_ q_ => XS.i2c X_.here C.hx rfl (C.d at_93) rfl q_) ?_
        refine Go.stC C V_cc ⟨by decide, by decide⟩ (i := 0) rfl (Nat.le_of_ble_eq_true rfl) z_cc at_94 (pc' := 95) rfl ?_
        intro h33 W_h33 V_cc
        rw [nar_i2c_mask] at V_cc
        have A_sq := A_sq.wr W_h33
        have A_sid := A_sid.wr W_h33
        have Fa_sid := Fa_sid.other W_h33 (Or.inl ne_sid_cc)
        have Fb_sid := Fb_sid.other W_h33 (Or.inl ne_sid_cc)
        have V_cc : Arv Z h33 cc k_cc .char (1 : Int32) ([p3 &&& (255 : Int32)].map Value.int) (.int 0) := V_cc
        refine Go.strInit hw C (cs := [p3 &&& (255 : Int32)]) (nn := 1) z_sid (List.mem_of_getElem? (i := 0) rfl) A_sid Fa_sid Fb_sid V_cc S0 hz rfl rfl (by decide) (by decide) (one_rng _) (hw _ (List.mem_of_getElem? (i := 6) rfl)) (hw _ (List.mem_of_getElem? (i := 9) rfl)) (hw _ (List.mem_of_getElem? (i := 10) rfl)) at_95 (pc' := 98) rfl rfl (W := 1) (Nat.le_of_eq rfl) (by decide) (by decide) (k' := 9) (n' := 18) rfl rfl (by decide) (by decide) ?_
        intro h34 K_sid T_sid
        have A_sq := A_sq.keep K_sid
        have V_cc := V_cc.keep K_sid (ninS ne_cc_sid nin0)
        have A_sid := T_sid.exa
        refine Go.plain (g' := (mkF m 100 #[.val (.int p0), .val (.int p1), .val (.int p2), .val (.int p3), .val (.int kk), .val (.ref rr), .val (.int (1 : Int32)), .val (.ref sq), .val (.ref sid), .unset, .unset, .unset] [])) (fun s_ T_ L_ X_ t_ q_ => XS.astore X_.here C.hx rfl (C.d at_98) rfl rfl (l' := #[.val (.int p0), .val (.int p1), .val (.int p2), .val (.int p3), .val (.int kk), .val (.ref rr), .val (.int (1 : Int32)), .val (.ref sq), .val (.ref sid), .unset, .unset, .unset]) rfl q_) ?_
        refine Go.new C (hw _ (List.mem_of_getElem? (i := 35) rfl)) (hw _ (List.mem_of_getElem? (i := 36) rfl)) (hw _ (List.mem_of_getElem? (i := 37) rfl)) at_100 (pc' := 103) rfl (k' := 10) (n' := 21) rfl rfl (by decide) (by decide) ?_
        intro o h35 q_o z_o E_o A_o D_o
        have A_sq := A_sq.ext E_o
        have V_cc := V_cc.ext E_o
        have A_sid := A_sid.ext E_o
        have CF1 : Fld Z h35 o "com/example/tenderbook/tenderbook/model/Call" "requestId" "Ljava/lang/String;" .null := D_o (Or.inr (hw _ (List.mem_of_getElem? (i := 48) rfl))) (ty := (.object "java/lang/String")) (by decide)
        have CF2 : Fld Z h35 o "com/example/tenderbook/tenderbook/model/Call" "reason" "Lcom/example/tenderbook/tenderbook/model/CallFailure;" .null := D_o (Or.inr (hw _ (List.mem_of_getElem? (i := 50) rfl))) (ty := (.object "com/example/tenderbook/tenderbook/model/CallFailure")) (by decide)
        have CF3 : Fld Z h35 o "com/example/tenderbook/tenderbook/model/Call" "closedBy" "Ljava/lang/String;" .null := D_o (Or.inr (hw _ (List.mem_of_getElem? (i := 52) rfl))) (ty := (.object "java/lang/String")) (by decide)
        refine Go.plain (g' := (mkF m 104 #[.val (.int p0), .val (.int p1), .val (.int p2), .val (.int p3), .val (.int kk), .val (.ref rr), .val (.int (1 : Int32)), .val (.ref sq), .val (.ref sid), .unset, .unset, .unset] [(.ref o), (.ref o)])) (fun s_ T_ L_ X_ t_ q_ => XS.dup X_.here C.hx rfl (C.d at_103) rfl rfl q_) ?_
        refine Go.plain (g' := (mkF m 106 #[.val (.int p0), .val (.int p1), .val (.int p2), .val (.int p3), .val (.int kk), .val (.ref rr), .val (.int (1 : Int32)), .val (.ref sq), .val (.ref sid), .unset, .unset, .unset] [(.ref sid), (.ref o), (.ref o)])) (fun s_ T_ L_ X_ t_ q_ => XS.aload X_.here C.hx rfl (C.d at_104) rfl rfl q_) ?_
        refine Go.plain (g' := (mkF m 108 #[.val (.int p0), .val (.int p1), .val (.int p2), .val (.int p3), .val (.int kk), .val (.ref rr), .val (.int (1 : Int32)), .val (.ref sq), .val (.ref sid), .unset, .unset, .unset] [(.ref rr), (.ref sid), (.ref o), (.ref o)])) (fun s_ T_ L_ X_ t_ q_ => XS.aload X_.here C.hx rfl (C.d at_106) rfl rfl q_) ?_
        refine Go.plain (g' := (mkF m 110 #[.val (.int p0), .val (.int p1), .val (.int p2), .val (.int p3), .val (.int kk), .val (.ref rr), .val (.int (1 : Int32)), .val (.ref sq), .val (.ref sid), .unset, .unset, .unset] [(.ref sq), (.ref rr), (.ref sid), (.ref o), (.ref o)])) (fun s_ T_ L_ X_ t_ q_ => XS.aload X_.here C.hx rfl (C.d at_108) rfl rfl q_) ?_
        refine Go.special C (a := o) (P_callRR l Z a0 hw hEL o sid rr sq h35 A_o CF1 CF2 CF3 z_o A_sid) (fun _ q => nomatch q) rfl (hw _ (List.mem_of_getElem? (i := 38) rfl)) (hw _ (List.mem_of_getElem? (i := 39) rfl)) (hw _ (List.mem_of_getElem? (i := 37) rfl)) (hw _ (List.mem_of_getElem? (i := 40) rfl)) (by decide) pd_3 (argsL := [(.ref sid), (.ref rr), (.ref sq)]) (rest := [(.ref o)]) rfl rfl at_110 (pc' := 113) rfl rfl rfl (W := 1) (Nat.le_of_eq rfl) (by decide) (by decide) (k' := 10) (n' := 21) rfl rfl (by decide) (by decide) ?_
        rintro _ h90 ⟨rfl, EO, G2, G3⟩
        show Go p l e room_1 s m #[(.int p0), (.int p1), (.int p2), (.int p3)] below meth c "com/example/tenderbook/tenderbook/model/CallIsAwaitedPinLaw" Z consts_1 [sid, sq] (fun v h => v = some (.int (1 : Int32))) h90 10 21 (mkF m 113 #[.val (.int p0), .val (.int p1), .val (.int p2), .val (.int p3), .val (.int kk), .val (.ref rr), .val (.int (1 : Int32)), .val (.ref sq), .val (.ref sid), .unset, .unset, .unset] [(.ref o)])
        refine Go.plain (g' := (mkF m 115 #[.val (.int p0), .val (.int p1), .val (.int p2), .val (.int p3), .val (.int kk), .val (.ref rr), .val (.int (1 : Int32)), .val (.ref sq), .val (.ref sid), .val (.ref o), .unset, .unset] [])) (fun s_ T_ L_ X_ t_ q_ => XS.astore X_.here C.hx rfl (C.d at_113) rfl rfl (l' := #[.val (.int p0), .val (.int p1), .val (.int p2), .val (.int p3), .val (.int kk), .val (.ref rr), .val (.int (1 : Int32)), .val (.ref sq), .val (.ref sid), .val (.ref o), .unset, .unset]) rfl q_) ?_
        refine Go.plain (g' := (mkF m 117 #[.val (.int p0), .val (.int p1), .val (.int p2), .val (.int p3), .val (.int kk), .val (.ref rr), .val (.int (1 : Int32)), .val (.ref sq), .val (.ref sid), .val (.ref o), .unset, .unset] [(.int kk)])) (fun s_ T_ L_ X_ t_ q_ => XS.iload X_.here C.hx rfl (C.d at_115) rfl q_) ?_
        refine Go.plain (g' := (mkF m 129 #[.val (.int p0), .val (.int p1), .val (.int p2), .val (.int p3), .val (.int kk), .val (.ref rr), .val (.int (1 : Int32)), .val (.ref sq), .val (.ref sid), .val (.ref o), .unset, .unset] [])) (fun s_ T_ L_ X_ t_ q_ => XS.ifYes X_.here C.hx rfl (pc0 := 117) (pc' := 129) rfl (C.d at_117) rfl ((if0 _ _).trans (feq (hk0 : ¬ kk = (0 : Int32))).2) (by decide) (by decide) q_) ?_
        refine Go.plain (g' := (mkF m 130 #[.val (.int p0), .val (.int p1), .val (.int p2), .val (.int p3), .val (.int kk), .val (.ref rr), .val (.int (1 : Int32)), .val (.ref sq), .val (.ref sid), .val (.ref o), .unset, .unset] [(.int (0 : Int32))])) (fun s_ T_ L_ X_ t_ q_ => XS.iconst X_.here C.hx rfl (C.d at_129) q_) ?_
        refine Go.plain (g' := (mkF m 132 #[.val (.int p0), .val (.int p1), .val (.int p2), .val (.int p3), .val (.int kk), .val (.ref rr), .val (.int (1 : Int32)), .val (.ref sq), .val (.ref sid), .val (.ref o), .val (.int (0 : Int32)), .unset] [])) (fun s_ T_ L_ X_ t_ q_ => XS.istore X_.here C.hx rfl (C.d at_130) rfl (l' := #[.val (.int p0), .val (.int p1), .val (.int p2), .val (.int p3), .val (.int kk), .val (.ref rr), .val (.int (1 : Int32)), .val (.ref sq), .val (.ref sid), .val (.ref o), .val (.int (0 : Int32)), .unset]) rfl q_) ?_
        refine Go.plain (g' := (mkF m 134 #[.val (.int p0), .val (.int p1), .val (.int p2), .val (.int p3), .val (.int kk), .val (.ref rr), .val (.int (1 : Int32)), .val (.ref sq), .val (.ref sid), .val (.ref o), .val (.int (0 : Int32)), .unset] [(.ref o)])) (fun s_ T_ L_ X_ t_ q_ => XS.aload X_.here C.hx rfl (C.d at_132) rfl rfl q_) ?_
        refine Go.virt C (a := o) (P_awRR l Z a0 hw hEL o rr sq h90 G2 G3) (fun _ q => nomatch q) EO (hw _ (List.mem_of_getElem? (i := 53) rfl)) (hw _ (List.mem_of_getElem? (i := 54) rfl)) (hw _ (List.mem_of_getElem? (i := 56) rfl)) (hw _ (List.mem_of_getElem? (i := 55) rfl)) (hw _ (List.mem_of_getElem? (i := 37) rfl)) (hw _ (List.mem_of_getElem? (i := 57) rfl)) (by decide) pd_4 (argsL := []) (rest := []) rfl rfl at_134 (pc' := 137) rfl rfl rfl (W := 0) (Nat.le_of_eq rfl) (by decide) (by decide) (k' := 10) (n' := 21) rfl rfl (by decide) (by decide) ?_
        rintro _ _ ⟨rfl, rfl⟩
        show Go p l e room_1 s m #[(.int p0), (.int p1), (.int p2), (.int p3)] below meth c "com/example/tenderbook/tenderbook/model/CallIsAwaitedPinLaw" Z consts_1 [sid, sq] (fun v h => v = some (.int (1 : Int32))) h90 10 21 (mkF m 137 #[.val (.int p0), .val (.int p1), .val (.int p2), .val (.int p3), .val (.int kk), .val (.ref rr), .val (.int (1 : Int32)), .val (.ref sq), .val (.ref sid), .val (.ref o), .val (.int (0 : Int32)), .unset] [(.int (0 : Int32))])
        refine Go.plain (g' := (mkF m 139 #[.val (.int p0), .val (.int p1), .val (.int p2), .val (.int p3), .val (.int kk), .val (.ref rr), .val (.int (1 : Int32)), .val (.ref sq), .val (.ref sid), .val (.ref o), .val (.int (0 : Int32)), .val (.int (0 : Int32))] [])) (fun s_ T_ L_ X_ t_ q_ => XS.istore X_.here C.hx rfl (C.d at_137) rfl (l' := #[.val (.int p0), .val (.int p1), .val (.int p2), .val (.int p3), .val (.int kk), .val (.ref rr), .val (.int (1 : Int32)), .val (.ref sq), .val (.ref sid), .val (.ref o), .val (.int (0 : Int32)), .val (.int (0 : Int32))]) rfl q_) ?_
        refine Go.plain (g' := (mkF m 141 #[.val (.int p0), .val (.int p1), .val (.int p2), .val (.int p3), .val (.int kk), .val (.ref rr), .val (.int (1 : Int32)), .val (.ref sq), .val (.ref sid), .val (.ref o), .val (.int (0 : Int32)), .val (.int (0 : Int32))] [(.int (0 : Int32))])) (fun s_ T_ L_ X_ t_ q_ => XS.iload X_.here C.hx rfl (C.d at_139) rfl q_) ?_
        refine Go.plain (g' := (mkF m 143 #[.val (.int p0), .val (.int p1), .val (.int p2), .val (.int p3), .val (.int kk), .val (.ref rr), .val (.int (1 : Int32)), .val (.ref sq), .val (.ref sid), .val (.ref o), .val (.int (0 : Int32)), .val (.int (0 : Int32))] [(.int (0 : Int32)), (.int (0 : Int32))])) (fun s_ T_ L_ X_ t_ q_ => XS.iload X_.here C.hx rfl (C.d at_141) rfl q_) ?_
        refine Go.plain (g' := (mkF m 148 #[.val (.int p0), .val (.int p1), .val (.int p2), .val (.int p3), .val (.int kk), .val (.ref rr), .val (.int (1 : Int32)), .val (.ref sq), .val (.ref sid), .val (.ref o), .val (.int (0 : Int32)), .val (.int (0 : Int32))] [])) (fun s_ T_ L_ X_ t_ q_ => XS.icmpYes X_.here C.hx rfl (pc0 := 143) (pc' := 148) rfl (C.d at_143) rfl (teq (rfl : (0 : Int32) = (0 : Int32))).1 (by decide) (by decide) q_) ?_
        refine Go.plain (g' := (mkF m 150 #[.val (.int p0), .val (.int p1), .val (.int p2), .val (.int p3), .val (.int kk), .val (.ref rr), .val (.int (1 : Int32)), .val (.ref sq), .val (.ref sid), .val (.ref o), .val (.int (0 : Int32)), .val (.int (0 : Int32))] [(.int (0 : Int32))])) (fun s_ T_ L_ X_ t_ q_ => XS.iload X_.here C.hx rfl (C.d at_148) rfl q_) ?_
        refine Go.plain (g' := (mkF m 163 #[.val (.int p0), .val (.int p1), .val (.int p2), .val (.int p3), .val (.int kk), .val (.ref rr), .val (.int (1 : Int32)), .val (.ref sq), .val (.ref sid), .val (.ref o), .val (.int (0 : Int32)), .val (.int (0 : Int32))] [])) (fun s_ T_ L_ X_ t_ q_ => XS.ifYes X_.here C.hx rfl (pc0 := 150) (pc' := 163) rfl (C.d at_150) rfl ((if0 _ _).trans (teq (rfl : (0 : Int32) = (0 : Int32))).1) (by decide) (by decide) q_) ?_
        refine Go.plain (g' := (mkF m 164 #[.val (.int p0), .val (.int p1), .val (.int p2), .val (.int p3), .val (.int kk), .val (.ref rr), .val (.int (1 : Int32)), .val (.ref sq), .val (.ref sid), .val (.ref o), .val (.int (0 : Int32)), .val (.int (0 : Int32))] [(.int (1 : Int32))])) (fun s_ T_ L_ X_ t_ q_ => XS.iconst X_.here C.hx rfl (C.d at_163) q_) ?_
        exact Go.retN C (by simp) at_164 (by decide) (by decide) rfl
      · refine Go.plain (g' := (mkF m 43 #[.val (.int p0), .val (.int p1), .val (.int p2), .val (.int p3), .val (.int kk), .val (.ref rr), .val (.int (1 : Int32)), .val .null, .unset, .unset, .unset, .unset] [])) (fun s_ T_ L_ X_ t_ q_ => XS.ifNo X_.here C.hx rfl (C.d at_40) rfl ((if0 _ _).trans (feq h2).1) q_) ?_
        refine Go.newF C (hw _ (List.mem_of_getElem? (i := 5) rfl)) (hw _ (List.mem_of_getElem? (i := 6) rfl)) (hw _ (List.mem_of_getElem? (i := 7) rfl)) at_43 (pc' := 46) rfl (k' := 1) (n' := 4) rfl rfl (by decide) (by decide) ?_
        intro sq h36 q_sq z_sq E_sq A_sq D_sq
        have Fa_sq : Fld Z h36 sq "java/lang/String" "value" "[B" .null := D_sq (Or.inr (hw _ (List.mem_of_getElem? (i := 34) rfl))) (ty := (.array .byte)) (by decide)
        have Fb_sq : Fld Z h36 sq "java/lang/String" "coder" "B" (.int (0 : Int32)) := D_sq (Or.inr (hw _ (List.mem_of_getElem? (i := 32) rfl))) (ty := .byte) (by decide)
        refine Go.plain (g' := (mkF m 47 #[.val (.int p0), .val (.int p1), .val (.int p2), .val (.int p3), .val (.int kk), .val (.ref rr), .val (.int (1 : Int32)), .val .null, .unset, .unset, .unset, .unset] [(.ref sq), (.ref sq)])) (fun s_ T_ L_ X_ t_ q_ => XS.dup X_.here C.hx rfl (C.d at_46) rfl rfl q_) ?_
        refine Go.plain (g' := (mkF m 48 #[.val (.int p0), .val (.int p1), .val (.int p2), .val (.int p3), .val (.int kk), .val (.ref rr), .val (.int (1 : Int32)), .val .null, .unset, .unset, .unset, .unset] [(.int (1 : Int32)), (.ref sq), (.ref sq)])) (fun s_ T_ L_ X_ t_ q_ => XS.iconst X_.here C.hx rfl (C.d at_47) q_) ?_
        have lt_sq := A_sq.lt
        refine Go.newP C (hw _ (List.mem_of_getElem? (i := 8) rfl)) (by decide) (cap := 1) (by decide) (by decide) at_48 (pc' := 50) rfl (k' := 2) (n' := 5) rfl rfl (by decide) (by decide) ?_
        intro cb h37 k_cb q_cb z_cb E_cb V_cb
        have A_sq := A_sq.ext E_cb
        have Fa_sq := Fa_sq.ext E_cb
        have Fb_sq := Fb_sq.ext E_cb
        have V_cb : Arv Z h37 cb k_cb .char (1 : Int32) [.int 0] (.int 0) := V_cb.pad (pad_rep [] (.int 0) 1)
        have ne_sq_cb : sq ≠ cb := Nat.ne_of_lt (by rw [q_cb]; exact lt_sq)
        have ne_cb_sq : cb ≠ sq := Ne.symm ne_sq_cb
        refine Go.plain (g' := (mkF m 51 #[.val (.int p0), .val (.int p1), .val (.int p2), .val (.int p3), .val (.int kk), .val (.ref rr), .val (.int (1 : Int32)), .val .null, .unset, .unset, .unset, .unset] [(.ref cb), (.ref cb), (.ref sq), (.ref sq)])) (fun s_ T_ L_ X_ t_ q_ => XS.dup X_.here C.hx rfl (C.d at_50) rfl rfl q_) ?_
        refine Go.plain (g' := (mkF m 52 #[.val (.int p0), .val (.int p1), .val (.int p2), .val (.int p3), .val (.int kk), .val (.ref rr), .val (.int (1 : Int32)), .val .null, .unset, .unset, .unset, .unset] [(.int (0 : Int32)), (.ref cb), (.ref cb), (.ref sq), (.ref sq)])) (fun s_ T_ L_ X_ t_ q_ => XS.iconst X_.here C.hx rfl (C.d at_51) q_) ?_
        refine Go.plain (g' := (mkF m 53 #[.val (.int p0), .val (.int p1), .val (.int p2), .val (.int p3), .val (.int kk), .val (.ref rr), .val (.int (1 : Int32)), .val .null, .unset, .unset, .unset, .unset] [(.int p2), (.int (0 : Int32)), (.ref cb), (.ref cb), (.ref sq), (.ref sq)])) (fun s_ T_ L_ X_ t_ q_ => XS.iloadN X_.here C.hx rfl (C.d at_52) rfl q_) ?_
        refine Go.plain (g' := (mkF m 56 #[.val (.int p0), .val (.int p1), .val (.int p2), .val (.int p3), .val (.int kk), .val (.ref rr), .val (.int (1 : Int32)), .val .null, .unset, .unset, .unset, .unset] [(.int (255 : Int32)), (.int p2), (.int (0 : Int32)), (.ref cb), (.ref cb), (.ref sq), (.ref sq)])) (fun s_ T_ L_ X_ t_ q_ => XS.sipush X_.here C.hx rfl (C.d at_53) q_) ?_
        refine Go.plain (g' := (mkF m 57 #[.val (.int p0), .val (.int p1), .val (.int p2), .val (.int p3), .val (.int kk), .val (.ref rr), .val (.int (1 : Int32)), .val .null, .unset, .unset, .unset, .unset] [(.int (p2 &&& (255 : Int32))), (.int (0 : Int32)), (.ref cb), (.ref cb), (.ref sq), (.ref sq)])) (fun s_ T_ L_ X_ t_ q_ => XS.iand X_.here C.hx rfl (C.d at_56) rfl q_) ?_
        refine Go.plain (g' := (mkF m 58 #[.val (.int p0), .val (.int p1), .val (.int p2), .val (.int p3), .val (.int kk), .val (.ref rr), .val (.int (1 : Int32)), .val .null, .unset, .unset, .unset, .unset] [(.int ((p2 &&& (255 : Int32)).toUInt32.toUInt16.toUInt32.toInt32)), (.int (0 : Int32)), (.ref cb), (.ref cb), (.ref sq), (.ref sq)])) (fun s_ T_ L_ X_ t_ q_ => XS.i2c X_.here C.hx rfl (C.d at_57) rfl q_) ?_
        refine Go.stC C V_cb ⟨by decide, by decide⟩ (i := 0) rfl (Nat.le_of_ble_eq_true rfl) z_cb at_58 (pc' := 59) rfl ?_
        intro h38 W_h38 V_cb
        rw [nar_i2c_mask] at V_cb
        have A_sq := A_sq.wr W_h38
        have Fa_sq := Fa_sq.other W_h38 (Or.inl ne_sq_cb)
        have Fb_sq := Fb_sq.other W_h38 (Or.inl ne_sq_cb)
        have V_cb : Arv Z h38 cb k_cb .char (1 : Int32) ([p2 &&& (255 : Int32)].map Value.int) (.int 0) := V_cb
        refine Go.strInit hw C (cs := [p2 &&& (255 : Int32)]) (nn := 1) z_sq (List.mem_of_getElem? (i := 0) rfl) A_sq Fa_sq Fb_sq V_cb S0 hz rfl rfl (by decide) (by decide) (one_rng _) (hw _ (List.mem_of_getElem? (i := 6) rfl)) (hw _ (List.mem_of_getElem? (i := 9) rfl)) (hw _ (List.mem_of_getElem? (i := 10) rfl)) at_59 (pc' := 62) rfl rfl (W := 1) (Nat.le_of_eq rfl) (by decide) (by decide) (k' := 3) (n' := 6) rfl rfl (by decide) (by decide) ?_
        intro h39 K_sq T_sq
        have V_cb := V_cb.keep K_sq (ninS ne_cb_sq nin0)
        have A_sq := T_sq.exa
        refine Go.plain (g' := (mkF m 64 #[.val (.int p0), .val (.int p1), .val (.int p2), .val (.int p3), .val (.int kk), .val (.ref rr), .val (.int (1 : Int32)), .val (.ref sq), .unset, .unset, .unset, .unset] [])) (fun s_ T_ L_ X_ t_ q_ => XS.astore X_.here C.hx rfl (C.d at_62) rfl rfl (l' := #[.val (.int p0), .val (.int p1), .val (.int p2), .val (.int p3), .val (.int kk), .val (.ref rr), .val (.int (1 : Int32)), .val (.ref sq), .unset, .unset, .unset, .unset]) rfl q_) ?_
        refine Go.plain (g' := (mkF m 79 #[.val (.int p0), .val (.int p1), .val (.int p2), .val (.int p3), .val (.int kk), .val (.ref rr), .val (.int (1 : Int32)), .val (.ref sq), .unset, .unset, .unset, .unset] [])) (fun s_ T_ L_ X_ t_ q_ => XS.goto X_.here C.hx rfl (pc0 := 64) (pc' := 79) rfl (C.d at_64) (by decide) (by decide) q_) ?_
        have lt_sq := A_sq.lt
        refine Go.newF C (hw _ (List.mem_of_getElem? (i := 5) rfl)) (hw _ (List.mem_of_getElem? (i := 6) rfl)) (hw _ (List.mem_of_getElem? (i := 7) rfl)) at_79 (pc' := 82) rfl (k' := 4) (n' := 10) rfl rfl (by decide) (by decide) ?_
        intro sid h40 q_sid z_sid E_sid A_sid D_sid
        have A_sq := A_sq.ext E_sid
        have Fa_sid : Fld Z h40 sid "java/lang/String" "value" "[B" .null := D_sid (Or.inr (hw _ (List.mem_of_getElem? (i := 34) rfl))) (ty := (.array .byte)) (by decide)
        have Fb_sid : Fld Z h40 sid "java/lang/String" "coder" "B" (.int (0 : Int32)) := D_sid (Or.inr (hw _ (List.mem_of_getElem? (i := 32) rfl))) (ty := .byte) (by decide)
        have ne_sq_sid : sq ≠ sid := Nat.ne_of_lt (by rw [q_sid]; exact lt_sq)
        refine Go.plain (g' := (mkF m 83 #[.val (.int p0), .val (.int p1), .val (.int p2), .val (.int p3), .val (.int kk), .val (.ref rr), .val (.int (1 : Int32)), .val (.ref sq), .unset, .unset, .unset, .unset] [(.ref sid), (.ref sid)])) (fun s_ T_ L_ X_ t_ q_ => XS.dup X_.here C.hx rfl (C.d at_82) rfl rfl q_) ?_
        refine Go.plain (g' := (mkF m 84 #[.val (.int p0), .val (.int p1), .val (.int p2), .val (.int p3), .val (.int kk), .val (.ref rr), .val (.int (1 : Int32)), .val (.ref sq), .unset, .unset, .unset, .unset] [(.int (1 : Int32)), (.ref sid), (.ref sid)])) (fun s_ T_ L_ X_ t_ q_ => XS.iconst X_.here C.hx rfl (C.d at_83) q_) ?_
        have lt_sid := A_sid.lt
        refine Go.newP C (hw _ (List.mem_of_getElem? (i := 8) rfl)) (by decide) (cap := 1) (by decide) (by decide) at_84 (pc' := 86) rfl (k' := 5) (n' := 11) rfl rfl (by decide) (by decide) ?_
        intro cc h41 k_cc q_cc z_cc E_cc V_cc
        have A_sq := A_sq.ext E_cc
        have A_sid := A_sid.ext E_cc
        have Fa_sid := Fa_sid.ext E_cc
        have Fb_sid := Fb_sid.ext E_cc
        have V_cc : Arv Z h41 cc k_cc .char (1 : Int32) [.int 0] (.int 0) := V_cc.pad (pad_rep [] (.int 0) 1)
        have ne_sid_cc : sid ≠ cc := Nat.ne_of_lt (by rw [q_cc]; exact lt_sid)
        have ne_cc_sid : cc ≠ sid := Ne.symm ne_sid_cc
        refine Go.plain (g' := (mkF m 87 #[.val (.int p0), .val (.int p1), .val (.int p2), .val (.int p3), .val (.int kk), .val (.ref rr), .val (.int (1 : Int32)), .val (.ref sq), .unset, .unset, .unset, .unset] [(.ref cc), (.ref cc), (.ref sid), (.ref sid)])) (fun s_ T_ L_ X_ t_ q_ => XS.dup X_.here C.hx rfl (C.d at_86) rfl rfl q_) ?_
        refine Go.plain (g' := (mkF m 88 #[.val (.int p0), .val (.int p1), .val (.int p2), .val (.int p3), .val (.int kk), .val (.ref rr), .val (.int (1 : Int32)), .val (.ref sq), .unset, .unset, .unset, .unset] [(.int (0 : Int32)), (.ref cc), (.ref cc), (.ref sid), (.ref sid)])) (fun s_ T_ L_ X_ t_ q_ => XS.iconst X_.here C.hx rfl (C.d at_87) q_) ?_
        refine Go.plain (g' := (mkF m 89 #[.val (.int p0), .val (.int p1), .val (.int p2), .val (.int p3), .val (.int kk), .val (.ref rr), .val (.int (1 : Int32)), .val (.ref sq), .unset, .unset, .unset, .unset] [(.int p3), (.int (0 : Int32)), (.ref cc), (.ref cc), (.ref sid), (.ref sid)])) (fun s_ T_ L_ X_ t_ q_ => XS.iloadN X_.here C.hx rfl (C.d at_88) rfl q_) ?_
        refine Go.plain (g' := (mkF m 92 #[.val (.int p0), .val (.int p1), .val (.int p2), .val (.int p3), .val (.int kk), .val (.ref rr), .val (.int (1 : Int32)), .val (.ref sq), .unset, .unset, .unset, .unset] [(.int (255 : Int32)), (.int p3), (.int (0 : Int32)), (.ref cc), (.ref cc), (.ref sid), (.ref sid)])) (fun s_ T_ L_ X_ t_ q_ => XS.sipush X_.here C.hx rfl (C.d at_89) q_) ?_
        refine Go.plain (g' := (mkF m 93 #[.val (.int p0), .val (.int p1), .val (.int p2), .val (.int p3), .val (.int kk), .val (.ref rr), .val (.int (1 : Int32)), .val (.ref sq), .unset, .unset, .unset, .unset] [(.int (p3 &&& (255 : Int32))), (.int (0 : Int32)), (.ref cc), (.ref cc), (.ref sid), (.ref sid)])) (fun s_ T_ L_ X_ t_ q_ => XS.iand X_.here C.hx rfl (C.d at_92) rfl q_) ?_
        refine Go.plain (g' := (mkF m 94 #[.val (.int p0), .val (.int p1), .val (.int p2), .val (.int p3), .val (.int kk), .val (.ref rr), .val (.int (1 : Int32)), .val (.ref sq), .unset, .unset, .unset, .unset] [(.int ((p3 &&& (255 : Int32)).toUInt32.toUInt16.toUInt32.toInt32)), (.int (0 : Int32)), (.ref cc), (.ref cc), (.ref sid), (.ref sid)])) (fun s_ T_ L_ X_ t_ q_ => XS.i2c X_.here C.hx rfl (C.d at_93) rfl q_) ?_
        refine Go.stC C V_cc ⟨by decide, by decide⟩ (i := 0) rfl (Nat.le_of_ble_eq_true rfl) z_cc at_94 (pc' := 95) rfl ?_
        intro h42 W_h42 V_cc
        rw [nar_i2c_mask] at V_cc
        have A_sq := A_sq.wr W_h42
        have A_sid := A_sid.wr W_h42
        have Fa_sid := Fa_sid.other W_h42 (Or.inl ne_sid_cc)
        have Fb_sid := Fb_sid.other W_h42 (Or.inl ne_sid_cc)
        have V_cc : Arv Z h42 cc k_cc .char (1 : Int32) ([p3 &&& (255 : Int32)].map Value.int) (.int 0) := V_cc
        refine Go.strInit hw C (cs := [p3 &&& (255 : Int32)]) (nn := 1) z_sid (List.mem_of_getElem? (i := 0) rfl) A_sid Fa_sid Fb_sid V_cc S0 hz rfl rfl (by decide) (by decide) (one_rng _) (hw _ (List.mem_of_getElem? (i := 6) rfl)) (hw _ (List.mem_of_getElem? (i := 9) rfl)) (hw _ (List.mem_of_getElem? (i := 10) rfl)) at_95 (pc' := 98) rfl rfl (W := 1) (Nat.le_of_eq rfl) (by decide) (by decide) (k' := 6) (n' := 12) rfl rfl (by decide) (by decide) ?_
        intro h43 K_sid T_sid
        have A_sq := A_sq.keep K_sid
        have V_cc := V_cc.keep K_sid (ninS ne_cc_sid nin0)
        have A_sid := T_sid.exa
        refine Go.plain (g' := (mkF m 100 #[.val (.int p0), .val (.int p1), .val (.int p2), .val (.int p3), .val (.int kk), .val (.ref rr), .val (.int (1 : Int32)), .val (.ref sq), .val (.ref sid), .unset, .unset, .unset] [])) (fun s_ T_ L_ X_ t_ q_ => XS.astore X_.here C.hx rfl (C.d at_98) rfl rfl (l' := #[.val (.int p0), .val (.int p1), .val (.int p2), .val (.int p3), .val (.int kk), .val (.ref rr), .val (.int (1 : Int32)), .val (.ref sq), .val (.ref sid), .unset, .unset, .unset]) rfl q_) ?_
        refine Go.new C (hw _ (List.mem_of_getElem? (i := 35) rfl)) (hw _ (List.mem_of_getElem? (i := 36) rfl)) (hw _ (List.mem_of_getElem? (i := 37) rfl)) at_100 (pc' := 103) rfl (k' := 7) (n' := 15) rfl rfl (by decide) (by decide) ?_
        intro o h44 q_o z_o E_o A_o D_o
        have A_sq := A_sq.ext E_o
        have V_cc := V_cc.ext E_o
        have A_sid := A_sid.ext E_o
        have CF1 : Fld Z h44 o "com/example/tenderbook/tenderbook/model/Call" "requestId" "Ljava/lang/String;" .null := D_o (Or.inr (hw _ (List.mem_of_getElem? (i := 48) rfl))) (ty := (.object "java/lang/String")) (by decide)
        have CF2 : Fld Z h44 o "com/example/tenderbook/tenderbook/model/Call" "reason" "Lcom/example/tenderbook/tenderbook/model/CallFailure;" .null := D_o (Or.inr (hw _ (List.mem_of_getElem? (i := 50) rfl))) (ty := (.object "com/example/tenderbook/tenderbook/model/CallFailure")) (by decide)
        have CF3 : Fld Z h44 o "com/example/tenderbook/tenderbook/model/Call" "closedBy" "Ljava/lang/String;" .null := D_o (Or.inr (hw _ (List.mem_of_getElem? (i := 52) rfl))) (ty := (.object "java/lang/String")) (by decide)
        refine Go.plain (g' := (mkF m 104 #[.val (.int p0), .val (.int p1), .val (.int p2), .val (.int p3), .val (.int kk), .val (.ref rr), .val (.int (1 : Int32)), .val (.ref sq), .val (.ref sid), .unset, .unset, .unset] [(.ref o), (.ref o)])) (fun s_ T_ L_ X_ t_ q_ => XS.dup X_.here C.hx rfl (C.d at_103) rfl rfl q_) ?_
        refine Go.plain (g' := (mkF m 106 #[.val (.int p0), .val (.int p1), .val (.int p2), .val (.int p3), .val (.int kk), .val (.ref rr), .val (.int (1 : Int32)), .val (.ref sq), .val (.ref sid), .unset, .unset, .unset] [(.ref sid), (.ref o), (.ref o)])) (fun s_ T_ L_ X_ t_ q_ => XS.aload X_.here C.hx rfl (C.d at_104) rfl rfl q_) ?_
        refine Go.plain (g' := (mkF m 108 #[.val (.int p0), .val (.int p1), .val (.int p2), .val (.int p3), .val (.int kk), .val (.ref rr), .val (.int (1 : Int32)), .val (.ref sq), .val (.ref sid), .unset, .unset, .unset] [(.ref rr), (.ref sid), (.ref o), (.ref o)])) (fun s_ T_ L_ X_ t_ q_ => XS.aload X_.here C.hx rfl (C.d at_106) rfl rfl q_) ?_
        refine Go.plain (g' := (mkF m 110 #[.val (.int p0), .val (.int p1), .val (.int p2), .val (.int p3), .val (.int kk), .val (.ref rr), .val (.int (1 : Int32)), .val (.ref sq), .val (.ref sid), .unset, .unset, .unset] [(.ref sq), (.ref rr), (.ref sid), (.ref o), (.ref o)])) (fun s_ T_ L_ X_ t_ q_ => XS.aload X_.here C.hx rfl (C.d at_108) rfl rfl q_) ?_
        refine Go.special C (a := o) (P_callRR l Z a0 hw hEL o sid rr sq h44 A_o CF1 CF2 CF3 z_o A_sid) (fun _ q => nomatch q) rfl (hw _ (List.mem_of_getElem? (i := 38) rfl)) (hw _ (List.mem_of_getElem? (i := 39) rfl)) (hw _ (List.mem_of_getElem? (i := 37) rfl)) (hw _ (List.mem_of_getElem? (i := 40) rfl)) (by decide) pd_3 (argsL := [(.ref sid), (.ref rr), (.ref sq)]) (rest := [(.ref o)]) rfl rfl at_110 (pc' := 113) rfl rfl rfl (W := 1) (Nat.le_of_eq rfl) (by decide) (by decide) (k' := 7) (n' := 15) rfl rfl (by decide) (by decide) ?_
        rintro _ h90 ⟨rfl, EO, G2, G3⟩
        show Go p l e room_1 s m #[(.int p0), (.int p1), (.int p2), (.int p3)] below meth c "com/example/tenderbook/tenderbook/model/CallIsAwaitedPinLaw" Z consts_1 [sid, sq] (fun v h => v = some (.int (1 : Int32))) h90 7 15 (mkF m 113 #[.val (.int p0), .val (.int p1), .val (.int p2), .val (.int p3), .val (.int kk), .val (.ref rr), .val (.int (1 : Int32)), .val (.ref sq), .val (.ref sid), .unset, .unset, .unset] [(.ref o)])
        refine Go.plain (g' := (mkF m 115 #[.val (.int p0), .val (.int p1), .val (.int p2), .val (.int p3), .val (.int kk), .val (.ref rr), .val (.int (1 : Int32)), .val (.ref sq), .val (.ref sid), .val (.ref o), .unset, .unset] [])) (fun s_ T_ L_ X_ t_ q_ => XS.astore X_.here C.hx rfl (C.d at_113) rfl rfl (l' := #[.val (.int p0), .val (.int p1), .val (.int p2), .val (.int p3), .val (.int kk), .val (.ref rr), .val (.int (1 : Int32)), .val (.ref sq), .val (.ref sid), .val (.ref o), .unset, .unset]) rfl q_) ?_
        refine Go.plain (g' := (mkF m 117 #[.val (.int p0), .val (.int p1), .val (.int p2), .val (.int p3), .val (.int kk), .val (.ref rr), .val (.int (1 : Int32)), .val (.ref sq), .val (.ref sid), .val (.ref o), .unset, .unset] [(.int kk)])) (fun s_ T_ L_ X_ t_ q_ => XS.iload X_.here C.hx rfl (C.d at_115) rfl q_) ?_
        refine Go.plain (g' := (mkF m 129 #[.val (.int p0), .val (.int p1), .val (.int p2), .val (.int p3), .val (.int kk), .val (.ref rr), .val (.int (1 : Int32)), .val (.ref sq), .val (.ref sid), .val (.ref o), .unset, .unset] [])) (fun s_ T_ L_ X_ t_ q_ => XS.ifYes X_.here C.hx rfl (pc0 := 117) (pc' := 129) rfl (C.d at_117) rfl ((if0 _ _).trans (feq (hk0 : ¬ kk = (0 : Int32))).2) (by decide) (by decide) q_) ?_
        refine Go.plain (g' := (mkF m 130 #[.val (.int p0), .val (.int p1), .val (.int p2), .val (.int p3), .val (.int kk), .val (.ref rr), .val (.int (1 : Int32)), .val (.ref sq), .val (.ref sid), .val (.ref o), .unset, .unset] [(.int (0 : Int32))])) (fun s_ T_ L_ X_ t_ q_ => XS.iconst X_.here C.hx rfl (C.d at_129) q_) ?_
        refine Go.plain (g' := (mkF m 132 #[.val (.int p0), .val (.int p1), .val (.int p2), .val (.int p3), .val (.int kk), .val (.ref rr), .val (.int (1 : Int32)), .val (.ref sq), .val (.ref sid), .val (.ref o), .val (.int (0 : Int32)), .unset] [])) (fun s_ T_ L_ X_ t_ q_ => XS.istore X_.here C.hx rfl (C.d at_130) rfl (l' := #[.val (.int p0), .val (.int p1), .val (.int p2), .val (.int p3), .val (.int kk), .val (.ref rr), .val (.int (1 : Int32)), .val (.ref sq), .val (.ref sid), .val (.ref o), .val (.int (0 : Int32)), .unset]) rfl q_) ?_
        refine Go.plain (g' := (mkF m 134 #[.val (.int p0), .val (.int p1), .val (.int p2), .val (.int p3), .val (.int kk), .val (.ref rr), .val (.int (1 : Int32)), .val (.ref sq), .val (.ref sid), .val (.ref o), .val (.int (0 : Int32)), .unset] [(.ref o)])) (fun s_ T_ L_ X_ t_ q_ => XS.aload X_.here C.hx rfl (C.d at_132) rfl rfl q_) ?_
        refine Go.virt C (a := o) (P_awRR l Z a0 hw hEL o rr sq h90 G2 G3) (fun _ q => nomatch q) EO (hw _ (List.mem_of_getElem? (i := 53) rfl)) (hw _ (List.mem_of_getElem? (i := 54) rfl)) (hw _ (List.mem_of_getElem? (i := 56) rfl)) (hw _ (List.mem_of_getElem? (i := 55) rfl)) (hw _ (List.mem_of_getElem? (i := 37) rfl)) (hw _ (List.mem_of_getElem? (i := 57) rfl)) (by decide) pd_4 (argsL := []) (rest := []) rfl rfl at_134 (pc' := 137) rfl rfl rfl (W := 0) (Nat.le_of_eq rfl) (by decide) (by decide) (k' := 7) (n' := 15) rfl rfl (by decide) (by decide) ?_
        rintro _ _ ⟨rfl, rfl⟩
        show Go p l e room_1 s m #[(.int p0), (.int p1), (.int p2), (.int p3)] below meth c "com/example/tenderbook/tenderbook/model/CallIsAwaitedPinLaw" Z consts_1 [sid, sq] (fun v h => v = some (.int (1 : Int32))) h90 7 15 (mkF m 137 #[.val (.int p0), .val (.int p1), .val (.int p2), .val (.int p3), .val (.int kk), .val (.ref rr), .val (.int (1 : Int32)), .val (.ref sq), .val (.ref sid), .val (.ref o), .val (.int (0 : Int32)), .unset] [(.int (0 : Int32))])
        refine Go.plain (g' := (mkF m 139 #[.val (.int p0), .val (.int p1), .val (.int p2), .val (.int p3), .val (.int kk), .val (.ref rr), .val (.int (1 : Int32)), .val (.ref sq), .val (.ref sid), .val (.ref o), .val (.int (0 : Int32)), .val (.int (0 : Int32))] [])) (fun s_ T_ L_ X_ t_ q_ => XS.istore X_.here C.hx rfl (C.d at_137) rfl (l' := #[.val (.int p0), .val (.int p1), .val (.int p2), .val (.int p3), .val (.int kk), .val (.ref rr), .val (.int (1 : Int32)), .val (.ref sq), .val (.ref sid), .val (.ref o), .val (.int (0 : Int32)), .val (.int (0 : Int32))]) rfl q_) ?_
        refine Go.plain (g' := (mkF m 141 #[.val (.int p0), .val (.int p1), .val (.int p2), .val (.int p3), .val (.int kk), .val (.ref rr), .val (.int (1 : Int32)), .val (.ref sq), .val (.ref sid), .val (.ref o), .val (.int (0 : Int32)), .val (.int (0 : Int32))] [(.int (0 : Int32))])) (fun s_ T_ L_ X_ t_ q_ => XS.iload X_.here C.hx rfl (C.d at_139) rfl q_) ?_
        refine Go.plain (g' := (mkF m 143 #[.val (.int p0), .val (.int p1), .val (.int p2), .val (.int p3), .val (.int kk), .val (.ref rr), .val (.int (1 : Int32)), .val (.ref sq), .val (.ref sid), .val (.ref o), .val (.int (0 : Int32)), .val (.int (0 : Int32))] [(.int (0 : Int32)), (.int (0 : Int32))])) (fun s_ T_ L_ X_ t_ q_ => XS.iload X_.here C.hx rfl (C.d at_141) rfl q_) ?_
        refine Go.plain (g' := (mkF m 148 #[.val (.int p0), .val (.int p1), .val (.int p2), .val (.int p3), .val (.int kk), .val (.ref rr), .val (.int (1 : Int32)), .val (.ref sq), .val (.ref sid), .val (.ref o), .val (.int (0 : Int32)), .val (.int (0 : Int32))] [])) (fun s_ T_ L_ X_ t_ q_ => XS.icmpYes X_.here C.hx rfl (pc0 := 143) (pc' := 148) rfl (C.d at_143) rfl (teq (rfl : (0 : Int32) = (0 : Int32))).1 (by decide) (by decide) q_) ?_
        refine Go.plain (g' := (mkF m 150 #[.val (.int p0), .val (.int p1), .val (.int p2), .val (.int p3), .val (.int kk), .val (.ref rr), .val (.int (1 : Int32)), .val (.ref sq), .val (.ref sid), .val (.ref o), .val (.int (0 : Int32)), .val (.int (0 : Int32))] [(.int (0 : Int32))])) (fun s_ T_ L_ X_ t_ q_ => XS.iload X_.here C.hx rfl (C.d at_148) rfl q_) ?_
        refine Go.plain (g' := (mkF m 163 #[.val (.int p0), .val (.int p1), .val (.int p2), .val (.int p3), .val (.int kk), .val (.ref rr), .val (.int (1 : Int32)), .val (.ref sq), .val (.ref sid), .val (.ref o), .val (.int (0 : Int32)), .val (.int (0 : Int32))] [])) (fun s_ T_ L_ X_ t_ q_ => XS.ifYes X_.here C.hx rfl (pc0 := 150) (pc' := 163) rfl (C.d at_150) rfl ((if0 _ _).trans (teq (rfl : (0 : Int32) = (0 : Int32))).1) (by decide) (by decide) q_) ?_
        refine Go.plain (g' := (mkF m 164 #[.val (.int p0), .val (.int p1), .val (.int p2), .val (.int p3), .val (.int kk), .val (.ref rr), .val (.int (1 : Int32)), .val (.ref sq), .val (.ref sid), .val (.ref o), .val (.int (0 : Int32)), .val (.int (0 : Int32))] [(.int (1 : Int32))])) (fun s_ T_ L_ X_ t_ q_ => XS.iconst X_.here C.hx rfl (C.d at_163) q_) ?_
        exact Go.retN C (by simp) at_164 (by decide) (by decide) rfl
set_option maxRecDepth 65536 in
set_option maxHeartbeats 40000000 in
theorem comes_1 {Post : Tables → Env → Array Value → State → Outcome → State → Prop} (hpost : ∀ tb e args s v u, (limb_1_1.after args s (.returned v) u = true ∧ limb_1_2.after args s (.returned v) u = true ∧ True) → ReturnedEndW s (.returned v) u (Jvm.fieldLocs frame_1_writes args s ++ Jvm.arrayLocs frame_1_arrays args s ++ Jvm.staticLocs frame_1_statics s) 24 1152 → Post tb e args s (.returned v) u) :
    ArmFor flags0 classFile x code maxLocals ret World_1 tables_1 room_1 Calls_1 rest_1 Pre_1 Post := by
  intro l hfl _ _ p e ha hc hk s m args below hf hA hF happ hP
  obtain ⟨hcalls, hrest, hpre⟩ := hP
  obtain ⟨-, -, -, hnamed, -, -, -, hat⟩ := (Spec.applies_iff hf).mp happ
  obtain ⟨hg, hn⟩ := and_e (Cond.before_iff.mp (show (Jvm.Cond.and given_1 narrow_1).before args s = true from hpre))
  obtain ⟨gg0, hg⟩ := and_e hg
  obtain ⟨gg1, hg⟩ := and_e hg
  obtain ⟨gg2, hg⟩ := and_e hg
  obtain ⟨gg3, hg⟩ := and_e hg
  have gg4 := hg
  obtain ⟨w0, w1, w2, w3, rfl⟩ : ∃ w0 w1 w2 w3 : Value, args = #[w0, w1, w2, w3] := by
    have hs : args.size = 4 := by simpa [Cond.value, given_1] using gg0
    obtain ⟨L⟩ := args
    match L, hs with
    | [w0, w1, w2, w3], _ => exact ⟨w0, w1, w2, w3, rfl⟩
  have hw := fun d (hd : d ∈ tables_1) => atoms_spec (ws := Jvm.Cond.code x code maxLocals ret :: tables_1) hat d (List.mem_cons_of_mem _ hd)
  obtain ⟨hsets, hown0⟩ := atoms_of _ (rest_1_c_eq ▸ (show rest_1_c.before _ s = true from hrest))
  obtain ⟨i0, ei0⟩ := is_v gg1
  obtain rfl : w0 = (.int i0) := Option.some.inj ei0
  obtain ⟨i1, ei1⟩ := is_v gg2
  obtain rfl : w1 = (.int i1) := Option.some.inj ei1
  obtain ⟨i2, ei2⟩ := is_v gg3
  obtain rfl : w2 = (.int i2) := Option.some.inj ei2
  obtain ⟨i3, ei3⟩ := is_v gg4
  obtain rfl : w3 = (.int i3) := Option.some.inj ei3
  have n3 := not_v (Cond.before_iff.mp (hsets _ (List.mem_of_getElem? (i := 2) rfl)))
  obtain ⟨zc, ez⟩ := is_v (Cond.before_iff.mp (hsets _ (List.mem_of_getElem? (i := 1) rfl)))
  have S0 := Sta.start ez (Or.inl (hsets _ (List.mem_of_getElem? (i := 0) rfl)))
  have hz : ¬ zc = 0 := gotF (eq_I0 ez) n3
  have hEL : EW s _ consts_1 := EW.cons (hw _ (List.mem_of_getElem? (i := 63) rfl)) (by decide) EW.nil
  have hheld : ∀ p ∈ consts_1, Jvm.Lit.constHeld s p.1 p.2 := fun p hp => hcalls.1 p hp
  have hcw : Jvm.Lit.compactW.before _ s = true := (hsets _ (List.mem_of_getElem? (i := 2) rfl))
  obtain ⟨x0, hn⟩ := and_e hn
  obtain ⟨c0, ev0⟩ := exa_v x0
  have S1 := Sta.start ev0 (Or.inr ⟨(hw _ (List.mem_of_getElem? (i := 59) rfl)), (hw _ (List.mem_of_getElem? (i := 60) rfl))⟩)
  obtain ⟨x3, hn⟩ := and_e hn
  obtain ⟨c3, ev3⟩ := exa_v x3
  have S4 := Sta.start ev3 (Or.inr ⟨(hw _ (List.mem_of_getElem? (i := 59) rfl)), (hw _ (List.mem_of_getElem? (i := 62) rfl))⟩)
  obtain ⟨x2, hn⟩ := and_e hn
  obtain ⟨c2, ev2⟩ := exa_v x2
  have S3 := Sta.start ev2 (Or.inr ⟨(hw _ (List.mem_of_getElem? (i := 59) rfl)), (hw _ (List.mem_of_getElem? (i := 67) rfl))⟩)
  obtain ⟨x4, hn⟩ := and_e hn
  obtain ⟨c4, ev4⟩ := exa_v x4
  have S5 := Sta.start ev4 (Or.inr ⟨(hw _ (List.mem_of_getElem? (i := 59) rfl)), (hw _ (List.mem_of_getElem? (i := 69) rfl))⟩)
  have x1 := hn
  obtain ⟨c1, ev1⟩ := exa_v x1
  have S2 := Sta.start ev1 (Or.inr ⟨(hw _ (List.mem_of_getElem? (i := 59) rfl)), (hw _ (List.mem_of_getElem? (i := 71) rfl))⟩)
  obtain ⟨n, o, h1, h2, h3, _, L, rfl, ⟨rfl, -, N⟩, -, hq⟩ := P_law l s _ hw hEL i0 i1 i2 i3 zc c0 c1 c2 c3 c4 s.heap S0 hz S1 S2 S3 S4 S5 (ext_refl _) (fun _ q => nomatch q) tables_1 p e ha hc hk s m _ below hf ((Spec.applies_iff_loose hf).mp happ).1 ⟨rfl, State.Warmed39.refl s, rfl, CHv.start hEL hheld hcw (hw _ (List.mem_of_getElem? (i := 24) rfl)) (hw _ (List.mem_of_getElem? (i := 6) rfl)), fun _ q => nomatch q⟩ trivial
  refine ⟨n, _, h1, h2, h3, hpost _ _ _ _ _ _ ⟨Cond.after_iff.mpr rfl, Cond.after_iff.mpr (eq_i res_at (Term.int_eval (1)) rfl), trivial⟩ ⟨hq.1, hq.2.1, hq.2.2.1, (hq.2.2.2.sift fun y hy => Or.inr (N y hy)).mono (by decide) (by decide)⟩⟩
theorem main_1_1 : Claimed_1_1 := comes_1 fun _ _ _ _ _ _ h hF => ⟨h.1, hF⟩
theorem main_1_2 : Claimed_1_2 := comes_1 fun _ _ _ _ _ _ h hF => ⟨h.2.1, hF⟩
end Jvm.Pilot.@@N@@
namespace Jvm.Pilot.@@N@@
open Jvm Jvm.ClassFile Sem Op Lib Jvm.Free Jvm.Stand Jvm.Pilot.@@N@@.Jvm.D
/-! MADE BY PROGRAM (witnessworld.py) out of the Statement's table words and the real class files: 23 classes; the members and pool entries that the words name. The judged class is class 1, her method 2. -/
namespace start1
open Jvm.ClassFile
def u (s : String) : CpInfo := .utf8 (stringToUtf16 s)
/-- a pool by its gaps: so many unusable entries, then the entry; so many at the end -/
def gap : Nat → List CpInfo → List CpInfo
  | 0, r => r
  | n + 1, r => .unusable :: gap n r
def poolList (es : List (Nat × CpInfo)) (last : Nat) : List CpInfo := es.foldr (fun e r => gap e.1 (e.2 :: r)) (gap last [])
def pool (es : List (Nat × CpInfo)) (last : Nat) : Array CpInfo := ⟨poolList es last⟩
def fileOf (pool : Array CpInfo) (this : Nat) (attrs : Array Attribute := #[]) (ms : Array MethodInfo := #[]) (fl : Nat := 33) (sup : Nat := 0) (ifs : Array Nat := #[]) (fds : Array FieldInfo := #[]) : ClassFile where
  minorVersion := 0
  majorVersion := 65
  constantPool := pool
  accessFlags := fl
  thisClass := this
  superClass := sup
  interfaces := ifs
  fields := fds
  methods := ms
  attributes := attrs
def plain (name : String) (sup : Option ClassId) : Class where
  name := name
  kind := .ordinary
  loader := none
  accessFlags := 33
  super := sup
  interfaces := #[]
  cf := none
  fields := #[]
  methods := #[]
  instanceTypes := #[]
  staticTypes := #[]
  resolved := #[]
  callSites := []
  init := .initialized
  statics := none
  mirror := none

def pool0 : Array CpInfo := pool [(5, u "<init>"), (0, u "()V"), (1, .class_ 10), (1, u "java/lang/Object")] 113

def k0c0 : Code := { maxStack := 0, maxLocals := 1, code := object_method_1_code, exceptionTable := #[], attributes := #[] }
def k0m0 : Method := { name := "<init>", desc := "()V", sig := { parameters := [], returnType := none }, accessFlags := 1, code := some k0c0 }
/-- java/lang/Object -/
def k0 : Class := { plain "java/lang/Object" none with
  accessFlags := 33
  interfaces := #[]
  cf := some (fileOf pool0 8 #[] #[{ accessFlags := 1, nameIndex := 5, descriptorIndex := 6, attributes := #[] }] 33 0 #[] #[])
  fields := #[]
  methods := #[k0m0]
  instanceTypes := #[]
  staticTypes := #[]
  resolved := Array.replicate 124 none
  statics := none }

def pool1 : Array CpInfo := pool [(2, .class_ 4), (1, u "java/lang/Object"), (0, u "<init>"), (0, u "()V"), (0, .fieldref 8 9), (0, .class_ 10), (0, .nameAndType 11 12), (0, u "com/example/tenderbook/tenderbook/model/CallFailure"), (0, u "NOT_SENT"), (0, u "Lcom/example/tenderbook/tenderbook/model/CallFailure;"), (0, .fieldref 8 14), (0, .nameAndType 15 12), (0, u "TIMEOUT"), (0, .fieldref 8 17), (0, .nameAndType 18 12), (0, u "ERROR_STATUS"), (0, .fieldref 8 20), (0, .nameAndType 21 12), (0, u "UNREADABLE_ANSWER"), (0, .fieldref 8 23), (0, .nameAndType 24 12), (0, u "INTERRUPTED"), (0, .integer 2147483647), (0, .methodref 27 28), (0, .class_ 29), (0, .nameAndType 30 31), (0, u "com/example/tenderbook/tenderbook/model/CallIsAwaitedPinLaw"), (0, u "pickReason"), (0, u "(I)Lcom/example/tenderbook/tenderbook/model/CallFailure;"), (0, .class_ 33), (0, u "java/lang/String"), (0, .methodref 32 35), (0, .nameAndType 5 36), (0, u "([C)V"), (0, .class_ 38), (0, u "com/example/tenderbook/tenderbook/model/Call"), (0, .methodref 37 40), (0, .nameAndType 5 41), (0, u "(Ljava/lang/String;Lcom/example/tenderbook/tenderbook/model/CallFailure;Ljava/lang/String;)V"), (0, .methodref 37 43), (0, .nameAndType 44 45), (0, u "isAwaited"), (0, u "()Z"), (0, .methodref 37 47), (0, .nameAndType 48 45), (0, u "isOpenItem"), (3, u "law"), (0, u "(IIII)Z")] 2

def k1m0 : Method := { name := "<init>", desc := "()V", sig := { parameters := [], returnType := none }, accessFlags := 1, code := none }
def k1c1 : Code := { maxStack := 2, maxLocals := 1, code := method_2_code, exceptionTable := #[], attributes := #[] }
def k1m1 : Method := { name := "pickReason", desc := "(I)Lcom/example/tenderbook/tenderbook/model/CallFailure;", sig := { parameters := [.int], returnType := some (.object "com/example/tenderbook/tenderbook/model/CallFailure") }, accessFlags := 10, code := some k1c1 }
def k1c2 : Code := { maxStack := 7, maxLocals := 12, code := code, exceptionTable := #[], attributes := #[] }
def k1m2 : Method := { name := "law", desc := "(IIII)Z", sig := { parameters := [.int, .int, .int, .int], returnType := some .boolean }, accessFlags := 9, code := some k1c2 }
/-- com/example/tenderbook/tenderbook/model/CallIsAwaitedPinLaw -/
def k1 : Class := { plain "com/example/tenderbook/tenderbook/model/CallIsAwaitedPinLaw" (some 0) with
  accessFlags := 49
  interfaces := #[]
  cf := some (fileOf pool1 27 #[] #[{ accessFlags := 1, nameIndex := 5, descriptorIndex := 6, attributes := #[] }, { accessFlags := 10, nameIndex := 30, descriptorIndex := 31, attributes := #[] }, { accessFlags := 9, nameIndex := 52, descriptorIndex := 53, attributes := #[] }] 49 2 #[] #[])
  fields := #[]
  methods := #[k1m0, k1m1, k1m2]
  instanceTypes := #[]
  staticTypes := #[]
  resolved := Array.replicate 56 none
  statics := none }

def pool2 : Array CpInfo := pool [(1, .class_ 2), (0, u "java/io/Serializable"), (0, .class_ 4), (0, u "java/lang/Object")] 2

/-- java/io/Serializable -/
def k2 : Class := { plain "java/io/Serializable" (some 0) with
  accessFlags := 1537
  interfaces := #[]
  cf := some (fileOf pool2 1 #[] #[] 1537 3 #[] #[])
  fields := #[]
  methods := #[]
  instanceTypes := #[]
  staticTypes := #[]
  resolved := Array.replicate 7 none
  statics := none }

def pool3 : Array CpInfo := pool [(1, .class_ 2), (0, u "java/lang/Comparable"), (0, .class_ 4), (0, u "java/lang/Object")] 7

/-- java/lang/Comparable -/
def k3 : Class := { plain "java/lang/Comparable" (some 0) with
  accessFlags := 1537
  interfaces := #[]
  cf := some (fileOf pool3 1 #[] #[] 1537 3 #[] #[])
  fields := #[]
  methods := #[]
  instanceTypes := #[]
  staticTypes := #[]
  resolved := Array.replicate 12 none
  statics := none }

def pool4 : Array CpInfo := pool [(2, .class_ 4), (1, u "java/lang/CharSequence"), (42, .class_ 48), (0, u "java/lang/CharSequence$1CodePointIterator"), (10, .class_ 60), (0, u "java/lang/CharSequence$1CharIterator"), (5, .class_ 67), (0, u "java/lang/Object")] 63

/-- java/lang/CharSequence -/
def k4 : Class := { plain "java/lang/CharSequence" (some 0) with
  accessFlags := 1537
  interfaces := #[]
  cf := some (fileOf pool4 2 #[.nestMembers #[47, 59]] #[] 1537 66 #[] #[])
  fields := #[]
  methods := #[]
  instanceTypes := #[]
  staticTypes := #[]
  resolved := Array.replicate 131 none
  statics := none }

def pool5 : Array CpInfo := pool [(1, .class_ 2), (0, u "java/lang/constant/Constable"), (0, .class_ 4), (0, u "java/lang/Object")] 6

/-- java/lang/constant/Constable -/
def k5 : Class := { plain "java/lang/constant/Constable" (some 0) with
  accessFlags := 1537
  interfaces := #[]
  cf := some (fileOf pool5 1 #[] #[] 1537 3 #[] #[])
  fields := #[]
  methods := #[]
  instanceTypes := #[]
  staticTypes := #[]
  resolved := Array.replicate 11 none
  statics := none }

def pool6 : Array CpInfo := pool [(1, .class_ 2), (0, u "java/lang/constant/ConstantDesc"), (0, .class_ 4), (0, u "java/lang/Object")] 32

/-- java/lang/constant/ConstantDesc -/
def k6 : Class := { plain "java/lang/constant/ConstantDesc" (some 0) with
  accessFlags := 1537
  interfaces := #[]
  cf := some (fileOf pool6 1 #[] #[] 1537 3 #[] #[])
  fields := #[]
  methods := #[]
  instanceTypes := #[]
  staticTypes := #[]
  resolved := Array.replicate 37 none
  statics := none }

def pool7 : Array CpInfo := pool [(1, .methodref 2 3), (0, .class_ 4), (0, .nameAndType 5 6), (0, u "java/lang/Object"), (0, u "<init>"), (0, u "()V"), (0, .string 8), (0, u ""), (0, .fieldref 10 11), (0, .class_ 12), (0, .nameAndType 13 14), (0, u "java/lang/String"), (0, u "value"), (0, u "[B"), (0, .fieldref 10 16), (0, .nameAndType 17 18), (0, u "coder"), (0, u "B"), (2, u "hash"), (0, u "I"), (2, u "hashIsZero"), (0, u "Z"), (0, .methodref 10 28), (0, .nameAndType 5 29), (0, u "([CIILjava/lang/Void;)V"), (8, .fieldref 10 39), (0, .nameAndType 40 26), (0, u "COMPACT_STRINGS"), (1, .class_ 44), (1, u "java/lang/StringUTF16"), (0, u "compress"), (1, .methodref 42 48), (0, .nameAndType 49 50), (0, u "coderFromArrayLen"), (0, u "([BI)B"), (126, .methodref 42 178), (0, .nameAndType 45 179), (0, u "([CII)[B"), (395, .class_ 576), (0, u "java/lang/CharSequence"), (22, u "CASE_INSENSITIVE_ORDER"), (0, u "Ljava/util/Comparator;"), (409, u "([C)V"), (90, u "serialPersistentFields"), (0, u "[Ljava/io/ObjectStreamField;"), (0, .class_ 1104), (0, u "java/lang/String$CaseInsensitiveComparator"), (1, .class_ 1107), (0, u "java/io/Serializable"), (0, .class_ 1109), (0, u "java/lang/Comparable"), (0, .class_ 1111), (0, u "java/lang/constant/Constable"), (0, .class_ 1113), (0, u "java/lang/constant/ConstantDesc"), (2, u "serialVersionUID"), (0, u "J"), (3, u "REPL"), (0, u "C"), (2, u "LATIN1"), (1, u "UTF16")] 323

def k7m0 : Method := { name := "<init>", desc := "()V", sig := { parameters := [], returnType := none }, accessFlags := 1, code := none }
def k7c1 : Code := { maxStack := 5, maxLocals := 2, code := jdk_42_method_3_code, exceptionTable := #[], attributes := #[] }
def k7m1 : Method := { name := "<init>", desc := "([C)V", sig := { parameters := [(.array .char)], returnType := none }, accessFlags := 1, code := some k7c1 }
def k7c2 : Code := { maxStack := 4, maxLocals := 6, code := jdk_42_method_149_code, exceptionTable := #[], attributes := #[] }
def k7m2 : Method := { name := "<init>", desc := "([CIILjava/lang/Void;)V", sig := { parameters := [(.array .char), .int, .int, (.object "java/lang/Void")], returnType := none }, accessFlags := 2, code := some k7c2 }
/-- java/lang/String -/
def k7 : Class := { plain "java/lang/String" (some 0) with
  accessFlags := 49
  interfaces := #[2, 3, 4, 5, 6]
  cf := some (fileOf pool7 10 #[.nestMembers #[1103]] #[{ accessFlags := 1, nameIndex := 5, descriptorIndex := 6, attributes := #[] }, { accessFlags := 1, nameIndex := 5, descriptorIndex := 1010, attributes := #[] }, { accessFlags := 2, nameIndex := 5, descriptorIndex := 29, attributes := #[] }] 49 2 #[1106, 1108, 575, 1110, 1112] #[{ accessFlags := 18, nameIndex := 13, descriptorIndex := 14, attributes := #[] }, { accessFlags := 18, nameIndex := 17, descriptorIndex := 18, attributes := #[] }, { accessFlags := 2, nameIndex := 21, descriptorIndex := 22, attributes := #[] }, { accessFlags := 2, nameIndex := 25, descriptorIndex := 26, attributes := #[] }, { accessFlags := 26, nameIndex := 1116, descriptorIndex := 1117, attributes := #[] }, { accessFlags := 24, nameIndex := 40, descriptorIndex := 26, attributes := #[] }, { accessFlags := 26, nameIndex := 1101, descriptorIndex := 1102, attributes := #[] }, { accessFlags := 26, nameIndex := 1121, descriptorIndex := 1122, attributes := #[] }, { accessFlags := 25, nameIndex := 599, descriptorIndex := 600, attributes := #[] }, { accessFlags := 24, nameIndex := 1125, descriptorIndex := 18, attributes := #[] }, { accessFlags := 24, nameIndex := 1127, descriptorIndex := 18, attributes := #[] }])
  fields := #[{ name := "value", type := (.array .byte), accessFlags := 18, slot := 0, constantValue := 0 }, { name := "coder", type := .byte, accessFlags := 18, slot := 1, constantValue := 0 }, { name := "hash", type := .int, accessFlags := 2, slot := 2, constantValue := 0 }, { name := "hashIsZero", type := .boolean, accessFlags := 2, slot := 3, constantValue := 0 }, { name := "serialVersionUID", type := .long, accessFlags := 26, slot := 0, constantValue := 0 }, { name := "COMPACT_STRINGS", type := .boolean, accessFlags := 24, slot := 1, constantValue := 0 }, { name := "serialPersistentFields", type := (.array (.object "java/io/ObjectStreamField")), accessFlags := 26, slot := 2, constantValue := 0 }, { name := "REPL", type := .char, accessFlags := 26, slot := 3, constantValue := 0 }, { name := "CASE_INSENSITIVE_ORDER", type := (.object "java/util/Comparator"), accessFlags := 25, slot := 4, constantValue := 0 }, { name := "LATIN1", type := .byte, accessFlags := 24, slot := 5, constantValue := 0 }, { name := "UTF16", type := .byte, accessFlags := 24, slot := 6, constantValue := 0 }]
  methods := #[k7m0, k7m1, k7m2]
  instanceTypes := #[(.array .byte), .byte, .int, .boolean]
  staticTypes := #[.long, .boolean, (.array (.object "java/io/ObjectStreamField")), .char, (.object "java/util/Comparator"), .byte, .byte]
  resolved := Array.replicate 1451 none
  statics := some 0 }

def pool8 : Array CpInfo := pool [(6, .class_ 8), (1, u "java/lang/Object"), (0, u "<init>"), (0, u "()V"), (1, .class_ 14), (1, u "java/lang/StringUTF16"), (31, u "$assertionsDisabled"), (0, u "Z"), (13, u "HI_BYTE_SHIFT"), (0, u "I"), (2, u "LO_BYTE_SHIFT"), (49, .methodref 12 116), (0, .nameAndType 117 118), (0, u "compress"), (0, u "([CI[BII)I"), (3, u "([CII)[B"), (138, u "coderFromArrayLen"), (0, u "([BI)B"), (106, .class_ 371), (1, u "java/lang/StringUTF16$LinesSpliterator"), (58, u "MAX_LENGTH"), (196, .class_ 628), (0, u "java/lang/StringUTF16$CodePointsSpliterator"), (0, .class_ 630), (0, u "java/lang/StringUTF16$CharsSpliterator")] 4

def k8m0 : Method := { name := "<init>", desc := "()V", sig := { parameters := [], returnType := none }, accessFlags := 0, code := none }
def k8c1 : Code := { maxStack := 2, maxLocals := 2, code := jdk_52_method_15_code, exceptionTable := #[], attributes := #[] }
def k8m1 : Method := { name := "coderFromArrayLen", desc := "([BI)B", sig := { parameters := [(.array .byte), .int], returnType := some .byte }, accessFlags := 8, code := some k8c1 }
def k8c2 : Code := { maxStack := 5, maxLocals := 6, code := jdk_52_method_16_code, exceptionTable := #[], attributes := #[] }
def k8m2 : Method := { name := "compress", desc := "([CII)[B", sig := { parameters := [(.array .char), .int, .int], returnType := some (.array .byte) }, accessFlags := 9, code := some k8c2 }
def k8c3 : Code := { maxStack := 3, maxLocals := 7, code := jdk_52_method_21_code, exceptionTable := #[], attributes := #[] }
def k8m3 : Method := { name := "compress", desc := "([CI[BII)I", sig := { parameters := [(.array .char), .int, (.array .byte), .int, .int], returnType := some .int }, accessFlags := 9, code := some k8c3 }
/-- java/lang/StringUTF16 -/
def k8 : Class := { plain "java/lang/StringUTF16" (some 0) with
  accessFlags := 48
  interfaces := #[]
  cf := some (fileOf pool8 12 #[.nestMembers #[627, 629, 369]] #[{ accessFlags := 0, nameIndex := 9, descriptorIndex := 10, attributes := #[] }, { accessFlags := 8, nameIndex := 261, descriptorIndex := 262, attributes := #[] }, { accessFlags := 9, nameIndex := 117, descriptorIndex := 122, attributes := #[] }, { accessFlags := 9, nameIndex := 117, descriptorIndex := 118, attributes := #[] }] 48 6 #[] #[{ accessFlags := 26, nameIndex := 61, descriptorIndex := 62, attributes := #[] }, { accessFlags := 26, nameIndex := 65, descriptorIndex := 62, attributes := #[] }, { accessFlags := 24, nameIndex := 430, descriptorIndex := 62, attributes := #[] }, { accessFlags := 4120, nameIndex := 46, descriptorIndex := 47, attributes := #[] }])
  fields := #[{ name := "HI_BYTE_SHIFT", type := .int, accessFlags := 26, slot := 0, constantValue := 0 }, { name := "LO_BYTE_SHIFT", type := .int, accessFlags := 26, slot := 1, constantValue := 0 }, { name := "MAX_LENGTH", type := .int, accessFlags := 24, slot := 2, constantValue := 0 }, { name := "$assertionsDisabled", type := .boolean, accessFlags := 4120, slot := 3, constantValue := 0 }]
  methods := #[k8m0, k8m1, k8m2, k8m3]
  instanceTypes := #[]
  staticTypes := #[.int, .int, .int, .boolean]
  resolved := Array.replicate 635 none
  statics := none }

def pool9 : Array CpInfo := pool [(1, .methodref 2 3), (0, .class_ 4), (0, .nameAndType 5 6), (0, u "java/lang/Object"), (0, u "<init>"), (0, u "()V"), (0, .methodref 8 9), (0, .class_ 10), (0, .nameAndType 11 12), (0, u "java/util/Objects"), (0, u "requireNonNull"), (0, u "(Ljava/lang/Object;)Ljava/lang/Object;"), (0, .class_ 14), (0, u "java/lang/String"), (0, .fieldref 16 17), (0, .class_ 18), (0, .nameAndType 19 20), (0, u "com/example/tenderbook/tenderbook/model/Call"), (0, u "requestId"), (0, u "Ljava/lang/String;"), (0, .fieldref 16 22), (0, .nameAndType 23 24), (0, u "reason"), (0, u "Lcom/example/tenderbook/tenderbook/model/CallFailure;"), (0, .fieldref 16 26), (0, .nameAndType 27 20), (0, u "closedBy"), (2, u "(Ljava/lang/String;Lcom/example/tenderbook/tenderbook/model/CallFailure;Ljava/lang/String;)V"), (10, u "isAwaited"), (0, u "()Z"), (1, u "isOpenItem")] 2

def k9c0 : Code := { maxStack := 2, maxLocals := 4, code := prog_15_method_1_code, exceptionTable := #[], attributes := #[] }
def k9m0 : Method := { name := "<init>", desc := "(Ljava/lang/String;Lcom/example/tenderbook/tenderbook/model/CallFailure;Ljava/lang/String;)V", sig := { parameters := [(.object "java/lang/String"), (.object "com/example/tenderbook/tenderbook/model/CallFailure"), (.object "java/lang/String")], returnType := none }, accessFlags := 1, code := some k9c0 }
def k9c1 : Code := { maxStack := 1, maxLocals := 1, code := prog_15_method_7_code, exceptionTable := #[], attributes := #[] }
def k9m1 : Method := { name := "isAwaited", desc := "()Z", sig := { parameters := [], returnType := some .boolean }, accessFlags := 1, code := some k9c1 }
def k9c2 : Code := { maxStack := 1, maxLocals := 1, code := prog_15_method_8_code, exceptionTable := #[], attributes := #[] }
def k9m2 : Method := { name := "isOpenItem", desc := "()Z", sig := { parameters := [], returnType := some .boolean }, accessFlags := 1, code := some k9c2 }
/-- com/example/tenderbook/tenderbook/model/Call -/
def k9 : Class := { plain "com/example/tenderbook/tenderbook/model/Call" (some 0) with
  accessFlags := 33
  interfaces := #[]
  cf := some (fileOf pool9 16 #[] #[{ accessFlags := 1, nameIndex := 5, descriptorIndex := 30, attributes := #[] }, { accessFlags := 1, nameIndex := 41, descriptorIndex := 42, attributes := #[] }, { accessFlags := 1, nameIndex := 44, descriptorIndex := 42, attributes := #[] }] 33 2 #[] #[{ accessFlags := 18, nameIndex := 19, descriptorIndex := 20, attributes := #[] }, { accessFlags := 18, nameIndex := 23, descriptorIndex := 24, attributes := #[] }, { accessFlags := 18, nameIndex := 27, descriptorIndex := 20, attributes := #[] }])
  fields := #[{ name := "requestId", type := (.object "java/lang/String"), accessFlags := 18, slot := 0, constantValue := 0 }, { name := "reason", type := (.object "com/example/tenderbook/tenderbook/model/CallFailure"), accessFlags := 18, slot := 1, constantValue := 0 }, { name := "closedBy", type := (.object "java/lang/String"), accessFlags := 18, slot := 2, constantValue := 0 }]
  methods := #[k9m0, k9m1, k9m2]
  instanceTypes := #[(.object "java/lang/String"), (.object "com/example/tenderbook/tenderbook/model/CallFailure"), (.object "java/lang/String")]
  staticTypes := #[]
  resolved := Array.replicate 47 none
  statics := none }

def pool10 : Array CpInfo := pool [(2, .class_ 4), (1, u "java/lang/Object"), (0, u "<init>"), (0, u "()V"), (35, .class_ 44), (1, u "java/util/Objects"), (0, u "requireNonNull"), (0, u "(Ljava/lang/Object;)Ljava/lang/Object;")] 137

def k10m0 : Method := { name := "<init>", desc := "()V", sig := { parameters := [], returnType := none }, accessFlags := 2, code := none }
def k10c1 : Code := { maxStack := 2, maxLocals := 1, code := jdk_31_method_10_code, exceptionTable := #[], attributes := #[] }
def k10m1 : Method := { name := "requireNonNull", desc := "(Ljava/lang/Object;)Ljava/lang/Object;", sig := { parameters := [(.object "java/lang/Object")], returnType := some (.object "java/lang/Object") }, accessFlags := 9, code := some k10c1 }
/-- java/util/Objects -/
def k10 : Class := { plain "java/util/Objects" (some 0) with
  accessFlags := 49
  interfaces := #[]
  cf := some (fileOf pool10 42 #[] #[{ accessFlags := 2, nameIndex := 5, descriptorIndex := 6, attributes := #[] }, { accessFlags := 9, nameIndex := 45, descriptorIndex := 46, attributes := #[] }] 49 2 #[] #[])
  fields := #[]
  methods := #[k10m0, k10m1]
  instanceTypes := #[]
  staticTypes := #[]
  resolved := Array.replicate 184 none
  statics := none }

def pool11 : Array CpInfo := pool [(2, .class_ 4), (1, u "java/lang/Enum"), (0, u "name"), (0, u "Ljava/lang/String;"), (2, u "ordinal"), (0, u "I"), (1, .class_ 14), (1, u "java/lang/Object"), (4, u "hash"), (86, .class_ 108), (1, u "java/lang/Enum$EnumDesc"), (2, .class_ 112), (0, u "java/lang/constant/Constable"), (0, .class_ 114), (0, u "java/lang/Comparable"), (0, .class_ 116), (0, u "java/io/Serializable")] 87

/-- java/lang/Enum -/
def k11 : Class := { plain "java/lang/Enum" (some 0) with
  accessFlags := 1057
  interfaces := #[5, 3, 2]
  cf := some (fileOf pool11 2 #[.nestMembers #[106]] #[] 1057 12 #[111, 113, 115] #[{ accessFlags := 18, nameIndex := 5, descriptorIndex := 6, attributes := #[] }, { accessFlags := 18, nameIndex := 9, descriptorIndex := 10, attributes := #[] }, { accessFlags := 2, nameIndex := 19, descriptorIndex := 10, attributes := #[] }])
  fields := #[{ name := "name", type := (.object "java/lang/String"), accessFlags := 18, slot := 0, constantValue := 0 }, { name := "ordinal", type := .int, accessFlags := 18, slot := 1, constantValue := 0 }, { name := "hash", type := .int, accessFlags := 2, slot := 2, constantValue := 0 }]
  methods := #[]
  instanceTypes := #[(.object "java/lang/String"), .int, .int]
  staticTypes := #[]
  resolved := Array.replicate 204 none
  statics := none }

def pool12 : Array CpInfo := pool [(1, .class_ 2), (0, u "com/example/tenderbook/tenderbook/model/CallFailure"), (2, u "NOT_SENT"), (0, u "Lcom/example/tenderbook/tenderbook/model/CallFailure;"), (2, u "TIMEOUT"), (2, u "ERROR_STATUS"), (2, u "UNREADABLE_ANSWER"), (2, u "INTERRUPTED"), (2, u "$VALUES"), (0, u "[Lcom/example/tenderbook/tenderbook/model/CallFailure;"), (6, .class_ 31), (1, u "java/lang/Enum")] 30

/-- com/example/tenderbook/tenderbook/model/CallFailure -/
def k12 : Class := { plain "com/example/tenderbook/tenderbook/model/CallFailure" (some 11) with
  accessFlags := 16433
  interfaces := #[]
  cf := some (fileOf pool12 1 #[] #[] 16433 29 #[] #[{ accessFlags := 16409, nameIndex := 5, descriptorIndex := 6, attributes := #[] }, { accessFlags := 16409, nameIndex := 9, descriptorIndex := 6, attributes := #[] }, { accessFlags := 16409, nameIndex := 12, descriptorIndex := 6, attributes := #[] }, { accessFlags := 16409, nameIndex := 15, descriptorIndex := 6, attributes := #[] }, { accessFlags := 16409, nameIndex := 18, descriptorIndex := 6, attributes := #[] }, { accessFlags := 4122, nameIndex := 21, descriptorIndex := 22, attributes := #[] }])
  fields := #[{ name := "NOT_SENT", type := (.object "com/example/tenderbook/tenderbook/model/CallFailure"), accessFlags := 16409, slot := 0, constantValue := 0 }, { name := "TIMEOUT", type := (.object "com/example/tenderbook/tenderbook/model/CallFailure"), accessFlags := 16409, slot := 1, constantValue := 0 }, { name := "ERROR_STATUS", type := (.object "com/example/tenderbook/tenderbook/model/CallFailure"), accessFlags := 16409, slot := 2, constantValue := 0 }, { name := "UNREADABLE_ANSWER", type := (.object "com/example/tenderbook/tenderbook/model/CallFailure"), accessFlags := 16409, slot := 3, constantValue := 0 }, { name := "INTERRUPTED", type := (.object "com/example/tenderbook/tenderbook/model/CallFailure"), accessFlags := 16409, slot := 4, constantValue := 0 }, { name := "$VALUES", type := (.array (.object "com/example/tenderbook/tenderbook/model/CallFailure")), accessFlags := 4122, slot := 5, constantValue := 0 }]
  methods := #[]
  instanceTypes := #[(.object "java/lang/String"), .int, .int]
  staticTypes := #[(.object "com/example/tenderbook/tenderbook/model/CallFailure"), (.object "com/example/tenderbook/tenderbook/model/CallFailure"), (.object "com/example/tenderbook/tenderbook/model/CallFailure"), (.object "com/example/tenderbook/tenderbook/model/CallFailure"), (.object "com/example/tenderbook/tenderbook/model/CallFailure"), (.array (.object "com/example/tenderbook/tenderbook/model/CallFailure"))]
  resolved := Array.replicate 62 none
  statics := some 1 }

def pool13 : Array CpInfo := pool [(4, .class_ 6), (1, u "java/lang/Object"), (0, u "<init>"), (0, u "()V"), (5, .class_ 16), (1, u "java/lang/StringLatin1"), (104, u "$assertionsDisabled"), (0, u "Z"), (98, .class_ 223), (1, u "java/lang/StringLatin1$LinesSpliterator"), (166, .class_ 391), (0, u "java/lang/StringLatin1$CharsSpliterator")] 3

def k13m0 : Method := { name := "<init>", desc := "()V", sig := { parameters := [], returnType := none }, accessFlags := 0, code := none }
/-- java/lang/StringLatin1 -/
def k13 : Class := { plain "java/lang/StringLatin1" (some 0) with
  accessFlags := 48
  interfaces := #[]
  cf := some (fileOf pool13 14 #[.nestMembers #[390, 221]] #[{ accessFlags := 0, nameIndex := 7, descriptorIndex := 8, attributes := #[] }] 48 4 #[] #[{ accessFlags := 4120, nameIndex := 121, descriptorIndex := 122, attributes := #[] }])
  fields := #[{ name := "$assertionsDisabled", type := .boolean, accessFlags := 4120, slot := 0, constantValue := 0 }]
  methods := #[k13m0]
  instanceTypes := #[]
  staticTypes := #[.boolean]
  resolved := Array.replicate 395 none
  statics := none }

def pool14 : Array CpInfo := pool [(2, .class_ 4), (1, u "java/lang/Object"), (0, u "<init>"), (0, u "()V"), (17, .class_ 26), (1, u "jdk/internal/util/Preconditions"), (28, .class_ 56), (0, u "jdk/internal/util/Preconditions$4"), (57, .class_ 115), (0, u "jdk/internal/util/Preconditions$1"), (7, u "SIOOBE_FORMATTER"), (0, u "Ljava/util/function/BiFunction;"), (0, .class_ 126), (0, u "jdk/internal/util/Preconditions$2"), (3, u "AIOOBE_FORMATTER"), (0, .class_ 132), (0, u "jdk/internal/util/Preconditions$3"), (3, u "IOOBE_FORMATTER")] 57

def k14m0 : Method := { name := "<init>", desc := "()V", sig := { parameters := [], returnType := none }, accessFlags := 1, code := none }
/-- jdk/internal/util/Preconditions -/
def k14 : Class := { plain "jdk/internal/util/Preconditions" (some 0) with
  accessFlags := 33
  interfaces := #[]
  cf := some (fileOf pool14 24 #[.nestMembers #[55, 131, 125, 114]] #[{ accessFlags := 1, nameIndex := 5, descriptorIndex := 6, attributes := #[] }] 33 2 #[] #[{ accessFlags := 25, nameIndex := 123, descriptorIndex := 124, attributes := #[] }, { accessFlags := 25, nameIndex := 130, descriptorIndex := 124, attributes := #[] }, { accessFlags := 25, nameIndex := 136, descriptorIndex := 124, attributes := #[] }])
  fields := #[{ name := "SIOOBE_FORMATTER", type := (.object "java/util/function/BiFunction"), accessFlags := 25, slot := 0, constantValue := 0 }, { name := "AIOOBE_FORMATTER", type := (.object "java/util/function/BiFunction"), accessFlags := 25, slot := 1, constantValue := 0 }, { name := "IOOBE_FORMATTER", type := (.object "java/util/function/BiFunction"), accessFlags := 25, slot := 2, constantValue := 0 }]
  methods := #[k14m0]
  instanceTypes := #[]
  staticTypes := #[(.object "java/util/function/BiFunction"), (.object "java/util/function/BiFunction"), (.object "java/util/function/BiFunction")]
  resolved := Array.replicate 194 none
  statics := some 2 }

def pool15 : Array CpInfo := pool [(9, u "<init>"), (6, .class_ 18), (1, u "java/lang/Object"), (0, u "()V"), (1, .class_ 23), (1, u "jdk/internal/util/ArraysSupport"), (0, u "LOG2_ARRAY_LONG_INDEX_SCALE"), (0, u "I"), (2, u "U"), (0, u "Ljdk/internal/misc/Unsafe;"), (8, u "BIG_ENDIAN"), (0, u "Z"), (8, u "LOG2_BYTE_BIT_SIZE"), (4, u "LOG2_ARRAY_INT_INDEX_SCALE"), (54, u "JLA"), (0, u "Ljdk/internal/access/JavaLangAccess;"), (11, u "LOG2_ARRAY_BOOLEAN_INDEX_SCALE"), (9, u "LOG2_ARRAY_BYTE_INDEX_SCALE"), (5, u "LOG2_ARRAY_CHAR_INDEX_SCALE"), (5, u "LOG2_ARRAY_SHORT_INDEX_SCALE"), (18, u "LOG2_ARRAY_FLOAT_INDEX_SCALE"), (24, u "LOG2_ARRAY_DOUBLE_INDEX_SCALE"), (89, u "T_BOOLEAN"), (2, u "T_CHAR"), (1, u "T_FLOAT"), (1, u "T_DOUBLE"), (1, u "T_BYTE"), (1, u "T_SHORT"), (1, u "T_INT"), (1, u "T_LONG"), (1, u "SOFT_MAX_ARRAY_LENGTH")] 83

def k15m0 : Method := { name := "<init>", desc := "()V", sig := { parameters := [], returnType := none }, accessFlags := 2, code := none }
/-- jdk/internal/util/ArraysSupport -/
def k15 : Class := { plain "jdk/internal/util/ArraysSupport" (some 0) with
  accessFlags := 33
  interfaces := #[]
  cf := some (fileOf pool15 21 #[] #[{ accessFlags := 2, nameIndex := 9, descriptorIndex := 19, attributes := #[] }] 33 16 #[] #[{ accessFlags := 24, nameIndex := 28, descriptorIndex := 29, attributes := #[] }, { accessFlags := 26, nameIndex := 38, descriptorIndex := 39, attributes := #[] }, { accessFlags := 25, nameIndex := 121, descriptorIndex := 25, attributes := #[] }, { accessFlags := 25, nameIndex := 131, descriptorIndex := 25, attributes := #[] }, { accessFlags := 25, nameIndex := 137, descriptorIndex := 25, attributes := #[] }, { accessFlags := 25, nameIndex := 143, descriptorIndex := 25, attributes := #[] }, { accessFlags := 25, nameIndex := 53, descriptorIndex := 25, attributes := #[] }, { accessFlags := 25, nameIndex := 24, descriptorIndex := 25, attributes := #[] }, { accessFlags := 25, nameIndex := 162, descriptorIndex := 25, attributes := #[] }, { accessFlags := 25, nameIndex := 187, descriptorIndex := 25, attributes := #[] }, { accessFlags := 26, nameIndex := 48, descriptorIndex := 25, attributes := #[] }, { accessFlags := 25, nameIndex := 277, descriptorIndex := 25, attributes := #[] }, { accessFlags := 25, nameIndex := 280, descriptorIndex := 25, attributes := #[] }, { accessFlags := 25, nameIndex := 282, descriptorIndex := 25, attributes := #[] }, { accessFlags := 25, nameIndex := 284, descriptorIndex := 25, attributes := #[] }, { accessFlags := 25, nameIndex := 286, descriptorIndex := 25, attributes := #[] }, { accessFlags := 25, nameIndex := 288, descriptorIndex := 25, attributes := #[] }, { accessFlags := 25, nameIndex := 290, descriptorIndex := 25, attributes := #[] }, { accessFlags := 25, nameIndex := 292, descriptorIndex := 25, attributes := #[] }, { accessFlags := 26, nameIndex := 108, descriptorIndex := 109, attributes := #[] }, { accessFlags := 25, nameIndex := 294, descriptorIndex := 25, attributes := #[] }])
  fields := #[{ name := "U", type := (.object "jdk/internal/misc/Unsafe"), accessFlags := 24, slot := 0, constantValue := 0 }, { name := "BIG_ENDIAN", type := .boolean, accessFlags := 26, slot := 1, constantValue := 0 }, { name := "LOG2_ARRAY_BOOLEAN_INDEX_SCALE", type := .int, accessFlags := 25, slot := 2, constantValue := 0 }, { name := "LOG2_ARRAY_BYTE_INDEX_SCALE", type := .int, accessFlags := 25, slot := 3, constantValue := 0 }, { name := "LOG2_ARRAY_CHAR_INDEX_SCALE", type := .int, accessFlags := 25, slot := 4, constantValue := 0 }, { name := "LOG2_ARRAY_SHORT_INDEX_SCALE", type := .int, accessFlags := 25, slot := 5, constantValue := 0 }, { name := "LOG2_ARRAY_INT_INDEX_SCALE", type := .int, accessFlags := 25, slot := 6, constantValue := 0 }, { name := "LOG2_ARRAY_LONG_INDEX_SCALE", type := .int, accessFlags := 25, slot := 7, constantValue := 0 }, { name := "LOG2_ARRAY_FLOAT_INDEX_SCALE", type := .int, accessFlags := 25, slot := 8, constantValue := 0 }, { name := "LOG2_ARRAY_DOUBLE_INDEX_SCALE", type := .int, accessFlags := 25, slot := 9, constantValue := 0 }, { name := "LOG2_BYTE_BIT_SIZE", type := .int, accessFlags := 26, slot := 10, constantValue := 0 }, { name := "T_BOOLEAN", type := .int, accessFlags := 25, slot := 11, constantValue := 0 }, { name := "T_CHAR", type := .int, accessFlags := 25, slot := 12, constantValue := 0 }, { name := "T_FLOAT", type := .int, accessFlags := 25, slot := 13, constantValue := 0 }, { name := "T_DOUBLE", type := .int, accessFlags := 25, slot := 14, constantValue := 0 }, { name := "T_BYTE", type := .int, accessFlags := 25, slot := 15, constantValue := 0 }, { name := "T_SHORT", type := .int, accessFlags := 25, slot := 16, constantValue := 0 }, { name := "T_INT", type := .int, accessFlags := 25, slot := 17, constantValue := 0 }, { name := "T_LONG", type := .int, accessFlags := 25, slot := 18, constantValue := 0 }, { name := "JLA", type := (.object "jdk/internal/access/JavaLangAccess"), accessFlags := 26, slot := 19, constantValue := 0 }, { name := "SOFT_MAX_ARRAY_LENGTH", type := .int, accessFlags := 25, slot := 20, constantValue := 0 }]
  methods := #[k15m0]
  instanceTypes := #[]
  staticTypes := #[(.object "jdk/internal/misc/Unsafe"), .boolean, .int, .int, .int, .int, .int, .int, .int, .int, .int, .int, .int, .int, .int, .int, .int, .int, .int, (.object "jdk/internal/access/JavaLangAccess"), .int]
  resolved := Array.replicate 378 none
  statics := none }

def pool16 : Array CpInfo := pool [(1, u "java/lang/Cloneable"), (0, .class_ 1), (0, u "java/lang/Object"), (0, .class_ 3)] 3

/-- java/lang/Cloneable -/
def k16 : Class := { plain "java/lang/Cloneable" (some 0) with
  accessFlags := 1537
  interfaces := #[]
  cf := some (fileOf pool16 2 #[] #[] 1537 4 #[] #[])
  fields := #[]
  methods := #[]
  instanceTypes := #[]
  staticTypes := #[]
  resolved := Array.replicate 8 none
  statics := none }

/-- the primitive byte -/
def k17 : Class := { plain "byte" none with kind := .primitive 'B', accessFlags := 0x411 }
/-- [B -/
def k18 : Class := { plain "[B" (some 0) with kind := .array 17 .byte, interfaces := #[16, 2], accessFlags := 1041 }

/-- the primitive char -/
def k19 : Class := { plain "char" none with kind := .primitive 'C', accessFlags := 0x411 }
/-- [C -/
def k20 : Class := { plain "[C" (some 0) with kind := .array 19 .char, interfaces := #[16, 2], accessFlags := 1041 }

/-- the primitive int -/
def k21 : Class := { plain "int" none with kind := .primitive 'I', accessFlags := 0x411 }
/-- [I -/
def k22 : Class := { plain "[I" (some 0) with kind := .array 21 .int, interfaces := #[16, 2], accessFlags := 1041 }

def heap : Heap := #[{ cls := 7, slots := #[.long 0, .int 1, .null, .int 0, .null, .int 0, .int 0], vm := .statics 7 },
  { cls := 12, slots := #[.ref 3, .ref 4, .ref 5, .ref 6, .ref 7, .null], vm := .statics 12 },
  { cls := 14, slots := #[.null, .null, .null], vm := .statics 14 },
  { cls := 12, slots := #[.null, .int 0, .int 0], vm := .none },
  { cls := 12, slots := #[.null, .int 1, .int 0], vm := .none },
  { cls := 12, slots := #[.null, .int 2, .int 0], vm := .none },
  { cls := 12, slots := #[.null, .int 3, .int 0], vm := .none },
  { cls := 12, slots := #[.null, .int 4, .int 0], vm := .none }]
def classes : Array Class := #[k0, k1, k2, k3, k4, k5, k6, k7, k8, k9, k10, k11, k12, k13, k14, k15, k16, k17, k18, k19, k20, k21, k22]
def interned : List (Array UInt16 × Addr) := []
def slotsUsed : Nat := 31
def theMethod : MethodId := ⟨1, 2⟩
def args0 : Array Value := #[.int 5, .int 1, .int 65, .int 66]
def aboutOver (below : List Frame) : State where
  vm := { classes := classes, interned := interned.toArray }
  heap := heap
  slotsUsed := slotsUsed
  threads := #[{ frames := .invoking theMethod args0 :: below }]
def below0 : List Frame := [.native { method := ⟨0, 0⟩, args := #[] }]
def about1 : State := aboutOver below0
def p0 : Program := .bare "" "" ""
def e0 : Env := launch0.env 0 0 0
theorem w_frames : about1.frames = Frame.invoking theMethod args0 :: below0 := rfl
set_option maxRecDepth 65536 in
theorem w_args : argsFit about1.vm theMethod args0 = true := by decide +kernel
set_option maxRecDepth 65536 in
theorem w_heap : heapFits about1 = true := by decide +kernel
set_option maxRecDepth 65536 in
theorem w_runnable : about1.curStatus? = some .runnable := by decide +kernel
set_option maxRecDepth 65536 in
theorem w_alone : about1.alone = true := by decide +kernel
set_option maxRecDepth 65536 in
theorem w_named : about1.methodNamed? x = some theMethod := by decide +kernel
set_option maxRecDepth 65536 in
theorem w_hears : about1.hears theMethod below0 = true := by decide +kernel
set_option maxRecDepth 65536 in
theorem w_ripe : about1.ripe theMethod args0 below0 = true := by decide +kernel
theorem w_running : about1.status = .running := rfl
set_option maxRecDepth 65536 in
theorem w_room : about1.hasRoom e0.platform room_1 = true :=
  launch0.hasRoom_least _ room_1 (by decide +kernel) (by decide +kernel) (by decide +kernel) (by decide +kernel) (by decide +kernel) (by decide +kernel)
theorem allAtoms_all (ts : List Jvm.Cond) (a : Array Jvm.Value) (st : Jvm.State) : (allAtoms ts).before a st = ts.all (fun c => c.before a st) := by
  induction ts with
  | nil => rfl
  | cons c t ih =>
    show (Jvm.Cond.and c (allAtoms t)).before a st = _
    rw [Jvm.Cond.before_and, ih, List.all_cons]
def words1 : List Jvm.Cond := Jvm.Cond.code x code maxLocals ret :: tables_1
/-- a 'code' word, met by the world's own term for the bytes: nothing is compared byte by byte -/
theorem code_word {y : MethodName} {bytes : ByteArray} {mx : Nat} {rt : Option FieldType} {a : Array Value} {s : State} {m : MethodId} {meth : Method} {c : Code} (h1 : s.methodNamed? y = some m) (h2 : s.vm.method? m = some meth) (h3 : meth.code = some c) (h4 : c.code = bytes)
    (h5 : (c.maxLocals == mx && c.exceptionTable.isEmpty && decide (c.maxStack ≤ mostOperands) && decide (meth.sig.returnType = rt) && !meth.locks && decide (parseMethodDescriptor y.desc = some meth.sig)) = true) : (Jvm.Cond.code y bytes mx rt).before a s = true := by
  simp only [Bool.and_eq_true, beq_iff_eq, Bool.not_eq_true', decide_eq_true_eq] at h5
  obtain ⟨⟨⟨⟨⟨g1, g2⟩, g3⟩, g4⟩, g5⟩, g6⟩ := h5
  simp [Cond.before, Cond.holds, Cond.value, h1, h2, h3, h4, g1, g2, g3, g4, g5, g6]
def isCode : Jvm.Cond → Bool
  | .code _ _ _ _ => true
  | _ => false
theorem all_split {L : List Jvm.Cond} {P : Jvm.Cond → Bool} (h1 : L.all (fun c => isCode c || P c) = true) (h2 : ∀ c ∈ L.filter isCode, P c = true) : L.all P = true := by
  refine List.all_eq_true.mpr fun c hc => ?_
  have h := List.all_eq_true.mp h1 c hc
  rcases Bool.eq_false_or_eq_true (isCode c) with hi | hi
  · exact h2 c (List.mem_filter.mpr ⟨hc, hi⟩)
  · simpa [hi] using h
set_option maxRecDepth 65536 in
theorem w_c0 : (Jvm.Cond.code x code maxLocals ret).before args0 about1 = true := code_word (m := ⟨1, 2⟩) (meth := k1m2) (c := k1c2) (by decide +kernel) rfl rfl rfl (by decide +kernel)
set_option maxRecDepth 65536 in
theorem w_c1 : (Jvm.Cond.code ({ cls := "com/example/tenderbook/tenderbook/model/CallIsAwaitedPinLaw", name := "pickReason", desc := "(I)Lcom/example/tenderbook/tenderbook/model/CallFailure;" } : Jvm.MethodName) method_2_code (1 : Nat) (Option.some (Jvm.ClassFile.FieldType.object "com/example/tenderbook/tenderbook/model/CallFailure"))).before args0 about1 = true := code_word (m := ⟨1, 1⟩) (meth := k1m1) (c := k1c1) (by decide +kernel) rfl rfl rfl (by decide +kernel)
set_option maxRecDepth 65536 in
theorem w_c2 : (Jvm.Cond.code ({ cls := "java/lang/String", name := "<init>", desc := "([C)V" } : Jvm.MethodName) jdk_42_method_3_code (2 : Nat) (Option.none : Option Jvm.ClassFile.FieldType)).before args0 about1 = true := code_word (m := ⟨7, 1⟩) (meth := k7m1) (c := k7c1) (by decide +kernel) rfl rfl rfl (by decide +kernel)
set_option maxRecDepth 65536 in
theorem w_c3 : (Jvm.Cond.code ({ cls := "java/lang/String", name := "<init>", desc := "([CIILjava/lang/Void;)V" } : Jvm.MethodName) jdk_42_method_149_code (6 : Nat) (Option.none : Option Jvm.ClassFile.FieldType)).before args0 about1 = true := code_word (m := ⟨7, 2⟩) (meth := k7m2) (c := k7c2) (by decide +kernel) rfl rfl rfl (by decide +kernel)
set_option maxRecDepth 65536 in
theorem w_c4 : (Jvm.Cond.code ({ cls := "java/lang/Object", name := "<init>", desc := "()V" } : Jvm.MethodName) object_method_1_code (1 : Nat) (Option.none : Option Jvm.ClassFile.FieldType)).before args0 about1 = true := code_word (m := ⟨0, 0⟩) (meth := k0m0) (c := k0c0) (by decide +kernel) rfl rfl rfl (by decide +kernel)
set_option maxRecDepth 65536 in
theorem w_c5 : (Jvm.Cond.code ({ cls := "java/lang/StringUTF16", name := "compress", desc := "([CII)[B" } : Jvm.MethodName) jdk_52_method_16_code (6 : Nat) (Option.some (Jvm.ClassFile.FieldType.array Jvm.ClassFile.FieldType.byte))).before args0 about1 = true := code_word (m := ⟨8, 2⟩) (meth := k8m2) (c := k8c2) (by decide +kernel) rfl rfl rfl (by decide +kernel)
set_option maxRecDepth 65536 in
theorem w_c6 : (Jvm.Cond.code ({ cls := "java/lang/StringUTF16", name := "compress", desc := "([CI[BII)I" } : Jvm.MethodName) jdk_52_method_21_code (7 : Nat) (Option.some Jvm.ClassFile.FieldType.int)).before args0 about1 = true := code_word (m := ⟨8, 3⟩) (meth := k8m3) (c := k8c3) (by decide +kernel) rfl rfl rfl (by decide +kernel)
set_option maxRecDepth 65536 in
theorem w_c7 : (Jvm.Cond.code ({ cls := "java/lang/StringUTF16", name := "coderFromArrayLen", desc := "([BI)B" } : Jvm.MethodName) jdk_52_method_15_code (2 : Nat) (Option.some Jvm.ClassFile.FieldType.byte)).before args0 about1 = true := code_word (m := ⟨8, 1⟩) (meth := k8m1) (c := k8c1) (by decide +kernel) rfl rfl rfl (by decide +kernel)
set_option maxRecDepth 65536 in
theorem w_c8 : (Jvm.Cond.code ({ cls := "com/example/tenderbook/tenderbook/model/Call", name := "<init>", desc := "(Ljava/lang/String;Lcom/example/tenderbook/tenderbook/model/CallFailure;Ljava/lang/String;)V" } : Jvm.MethodName) prog_15_method_1_code (4 : Nat) (Option.none : Option Jvm.ClassFile.FieldType)).before args0 about1 = true := code_word (m := ⟨9, 0⟩) (meth := k9m0) (c := k9c0) (by decide +kernel) rfl rfl rfl (by decide +kernel)
set_option maxRecDepth 65536 in
theorem w_c9 : (Jvm.Cond.code ({ cls := "java/util/Objects", name := "requireNonNull", desc := "(Ljava/lang/Object;)Ljava/lang/Object;" } : Jvm.MethodName) jdk_31_method_10_code (1 : Nat) (Option.some (Jvm.ClassFile.FieldType.object "java/lang/Object"))).before args0 about1 = true := code_word (m := ⟨10, 1⟩) (meth := k10m1) (c := k10c1) (by decide +kernel) rfl rfl rfl (by decide +kernel)
set_option maxRecDepth 65536 in
theorem w_c10 : (Jvm.Cond.code ({ cls := "com/example/tenderbook/tenderbook/model/Call", name := "isAwaited", desc := "()Z" } : Jvm.MethodName) prog_15_method_7_code (1 : Nat) (Option.some Jvm.ClassFile.FieldType.boolean)).before args0 about1 = true := code_word (m := ⟨9, 1⟩) (meth := k9m1) (c := k9c1) (by decide +kernel) rfl rfl rfl (by decide +kernel)
set_option maxRecDepth 65536 in
theorem w_c11 : (Jvm.Cond.code ({ cls := "com/example/tenderbook/tenderbook/model/Call", name := "isOpenItem", desc := "()Z" } : Jvm.MethodName) prog_15_method_8_code (1 : Nat) (Option.some Jvm.ClassFile.FieldType.boolean)).before args0 about1 = true := code_word (m := ⟨9, 2⟩) (meth := k9m2) (c := k9c2) (by decide +kernel) rfl rfl rfl (by decide +kernel)
def codes1 : List Jvm.Cond := [Jvm.Cond.code x code maxLocals ret, Jvm.Cond.code ({ cls := "com/example/tenderbook/tenderbook/model/CallIsAwaitedPinLaw", name := "pickReason", desc := "(I)Lcom/example/tenderbook/tenderbook/model/CallFailure;" } : Jvm.MethodName) method_2_code (1 : Nat) (Option.some (Jvm.ClassFile.FieldType.object "com/example/tenderbook/tenderbook/model/CallFailure")), Jvm.Cond.code ({ cls := "java/lang/String", name := "<init>", desc := "([C)V" } : Jvm.MethodName) jdk_42_method_3_code (2 : Nat) (Option.none : Option Jvm.ClassFile.FieldType), Jvm.Cond.code ({ cls := "java/lang/String", name := "<init>", desc := "([CIILjava/lang/Void;)V" } : Jvm.MethodName) jdk_42_method_149_code (6 : Nat) (Option.none : Option Jvm.ClassFile.FieldType), Jvm.Cond.code ({ cls := "java/lang/Object", name := "<init>", desc := "()V" } : Jvm.MethodName) object_method_1_code (1 : Nat) (Option.none : Option Jvm.ClassFile.FieldType), Jvm.Cond.code ({ cls := "java/lang/StringUTF16", name := "compress", desc := "([CII)[B" } : Jvm.MethodName) jdk_52_method_16_code (6 : Nat) (Option.some (Jvm.ClassFile.FieldType.array Jvm.ClassFile.FieldType.byte)), Jvm.Cond.code ({ cls := "java/lang/StringUTF16", name := "compress", desc := "([CI[BII)I" } : Jvm.MethodName) jdk_52_method_21_code (7 : Nat) (Option.some Jvm.ClassFile.FieldType.int), Jvm.Cond.code ({ cls := "java/lang/StringUTF16", name := "coderFromArrayLen", desc := "([BI)B" } : Jvm.MethodName) jdk_52_method_15_code (2 : Nat) (Option.some Jvm.ClassFile.FieldType.byte), Jvm.Cond.code ({ cls := "com/example/tenderbook/tenderbook/model/Call", name := "<init>", desc := "(Ljava/lang/String;Lcom/example/tenderbook/tenderbook/model/CallFailure;Ljava/lang/String;)V" } : Jvm.MethodName) prog_15_method_1_code (4 : Nat) (Option.none : Option Jvm.ClassFile.FieldType), Jvm.Cond.code ({ cls := "java/util/Objects", name := "requireNonNull", desc := "(Ljava/lang/Object;)Ljava/lang/Object;" } : Jvm.MethodName) jdk_31_method_10_code (1 : Nat) (Option.some (Jvm.ClassFile.FieldType.object "java/lang/Object")), Jvm.Cond.code ({ cls := "com/example/tenderbook/tenderbook/model/Call", name := "isAwaited", desc := "()Z" } : Jvm.MethodName) prog_15_method_7_code (1 : Nat) (Option.some Jvm.ClassFile.FieldType.boolean), Jvm.Cond.code ({ cls := "com/example/tenderbook/tenderbook/model/Call", name := "isOpenItem", desc := "()Z" } : Jvm.MethodName) prog_15_method_8_code (1 : Nat) (Option.some Jvm.ClassFile.FieldType.boolean)]
set_option maxRecDepth 65536 in
theorem codes_eq : words1.filter isCode = codes1 := rfl
theorem w_codes : ∀ c ∈ words1.filter isCode, c.before args0 about1 = true := by
  rw [codes_eq]
  intro c hc
  simp only [codes1, List.mem_cons, List.not_mem_nil, or_false] at hc
  rcases hc with rfl | rfl | rfl | rfl | rfl | rfl | rfl | rfl | rfl | rfl | rfl | rfl
  · exact w_c0
  · exact w_c1
  · exact w_c2
  · exact w_c3
  · exact w_c4
  · exact w_c5
  · exact w_c6
  · exact w_c7
  · exact w_c8
  · exact w_c9
  · exact w_c10
  · exact w_c11
set_option maxRecDepth 65536 in
theorem w_t1 : (words1.take 24).all (fun c => isCode c || c.before args0 about1) = true := by decide +kernel
set_option maxRecDepth 65536 in
theorem w_t2 : ((words1.drop 24).take 24).all (fun c => isCode c || c.before args0 about1) = true := by decide +kernel
set_option maxRecDepth 65536 in
theorem w_t3 : (((words1.drop 24).drop 24).take 24).all (fun c => isCode c || c.before args0 about1) = true := by decide +kernel
set_option maxRecDepth 65536 in
theorem w_t4 : (((words1.drop 24).drop 24).drop 24).all (fun c => isCode c || c.before args0 about1) = true := by decide +kernel
theorem w_tables : (allAtoms (Jvm.Cond.code x code maxLocals ret :: tables_1)).before args0 about1 = true := by
  rw [allAtoms_all]
  show words1.all (fun c => c.before args0 about1) = true
  refine all_split ?_ w_codes
  rw [← List.take_append_drop 24 words1, List.all_append, w_t1, ← List.take_append_drop 24 (words1.drop 24), List.all_append, w_t2, ← List.take_append_drop 24 ((words1.drop 24).drop 24), List.all_append, w_t3, w_t4]
  rfl
set_option maxRecDepth 65536 in
theorem w_rest : rest_1_c.before args0 about1 = true := by decide +kernel
set_option maxRecDepth 65536 in
theorem w_case : (Jvm.Cond.and given_1 narrow_1).before args0 about1 = true := by decide +kernel
set_option maxRecDepth 65536 in
theorem w_consts : constsHeld consts_1 about1 := Jvm.Lit.constsHeldB_iff.mp (by decide +kernel)
theorem w_applies : (headSpec (Jvm.Cond.code x code maxLocals ret :: tables_1) room_1).applies x e0.platform about1 = true :=
  (Spec.applies_iff w_frames).mpr ⟨w_running, w_runnable, w_alone, w_named, w_hears, w_ripe, w_room, w_tables⟩
theorem atStart : AtStart classFile x code maxLocals ret World_1 tables_1 room_1 Calls_1 rest_1 Pre_1 launch0 p0 e0 about1 theMethod args0 below0 :=
  ⟨lists_1, trivial, launch0.admits_env _ _ _, launch0.least_env, fairChoices_fair.cas, fairChoices_fair.clock, w_frames, w_args, w_heap, w_applies, ⟨w_consts, trivial⟩, w_rest, w_case⟩
end start1
theorem witness_1 : WitnessClaimed_1 := ⟨start1.p0, start1.e0, start1.about1, start1.theMethod, start1.args0, start1.below0, start1.atStart⟩
end Jvm.Pilot.@@N@@
