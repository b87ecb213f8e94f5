import JvmDerived
import JvmDerived.Pilot.@@N@@Statement
import JvmDerived.Pilot.@@N@@Code
set_option linter.unusedVariables false
set_option linter.unusedSimpArgs false
namespace Jvm.Pilot.@@N@@
open Jvm Jvm.ClassFile Sem Op Lib Jvm.Free Jvm.Stand Jvm.LawKit Jvm.RoadKit Bundle Jvm.Pilot.@@N@@.Jvm.D
set_option maxRecDepth 65536
set_option maxHeartbeats 40000000
abbrev own_H (a0 : Array Value) (Z : State) : Prop := ∀ d ∈ tables_1, d.before a0 Z = true
def own_Fin (p : Program) (e : Env) (below : List Frame) (P : State → Outcome → Prop) (a : State) : Prop := ∃ t o, Steps p.tables e below a t ∧ t.status = .running ∧ Ended t below o ∧ P t o
theorem own_fin {p : Program} {e : Env} {below : List Frame} {P : State → Outcome → Prop} {a b : State} (k : ∀ t, Steps p.tables e below b t → Steps p.tables e below a t) (h : own_Fin p e below P b) : own_Fin p e below P a := by
  obtain ⟨t, o, s, r⟩ := h
  exact ⟨t, o, k t s, r⟩
theorem own_rw {T : State} {h : Heap} {a : Addr} {c : Cell} (e : T.heap = h) (q : h[a]? = some c) : T.heap[a]? = some c := by rw [e]; exact q
theorem own_StaKeep {Z : State} {h : Heap} {C n d : String} {v : Value} {n0 : Nat} (O : Old Z n0 h) (F : Sta Z Z.heap C n d v) : Sta Z h C n d v := F.ext O.2

theorem jk {Z : State} {a0 : Array Value} {d : Jvm.Cond} (hw : own_H a0 Z) (i : Nat) (h : tables_1[i]? = some d) : d.before a0 Z = true := hw d (List.mem_of_getElem? h)
theorem jm {Z s : State} {a0 args : Array Value} {d : Jvm.Cond} (hZ : Z.Warmed39 s.vm) (hw : own_H a0 Z) (i : Nat) (h : tables_1[i]? = some d) (hd : (d.onTables && d.keepsFace) = true := by first | rfl | simp [Cond.onTables, Cond.keepsFace, Cond.keeps, Cond.steady]) : d.before args s = true := mvT hZ (jk hw i h) hd
theorem jg {p : Program} {e : Env} {below : List Frame} {P : State → Outcome → Prop} {a : State} (T : State) (m : MethodId) (pc : Nat) (L : Array Slot) (S : List Value) (k : ∀ t, Steps p.tables e below (T.setTop (mkF m pc L S)) t → Steps p.tables e below a t) (h : own_Fin p e below P (T.setTop (mkF m pc L S))) : own_Fin p e below P a := own_fin k h
abbrev own_P (s : State) (R : Room) (Qq : Option Value → Heap → List Loc → Prop) : State → Outcome → Prop := fun tT oO => ∃ vV lA, oO = .returned vV ∧ Qq vV tT.heap lA ∧ FrameEnd s oO tT lA R.cells R.slots
section OwnR
variable {p : Program} {l : Launch} {e : Env} {R : Room} {s : State} {m : MethodId} {args : Array Value} {below : List Frame} {meth : Method} {c : Code} {T : State} {locs : List Loc} {cells slots : Nat} {h : Heap} {Qq : Option Value → Heap → List Loc → Prop} {pc : Nat} {L : Array Slot}
theorem own_rV (X : Stand p l e R s m args below meth c T locs cells slots) (hx : p.tables.exec = Jvm.exec) (hlk : meth.locks = false) (hret : meth.sig.returnType = none) (hd : decode c.code pc = .ok (.return_, 1)) (eT : T.heap = h) (hc : cells ≤ R.cells) (hs : slots ≤ R.slots) (q : Qq (none) h locs) : own_Fin p e below (own_P s R Qq) (T.setTop (mkF m pc L [])) := by
  obtain ⟨fs, hr, hrun, hended, hW, hsame⟩ := X.leave (v := none) (fun _ => rfl) hlk
  refine ⟨_, _, X.returnOut hx hret hd hr, hrun, hended, _, _, rfl, ?_, ⟨_, rfl⟩, hW, hsame.mono hc hs⟩
  show Qq _ T.heap locs
  rw [eT]; exact q
theorem own_rN (X : Stand p l e R s m args below meth c T locs cells slots) (hx : p.tables.exec = Jvm.exec) (hlk : meth.locks = false) {z : Int32} {t : FieldType} {rest : List Value} (hret : meth.sig.returnType = some t) (ht : t = .boolean ∨ t = .byte ∨ t = .char ∨ t = .short) (hd : decode c.code pc = .ok (.ireturn, 1)) (eT : T.heap = h) (hc : cells ≤ R.cells) (hs : slots ≤ R.slots) (q : Qq (some (.int (nar t z))) h locs) : own_Fin p e below (own_P s R Qq) (T.setTop (mkF m pc L (.int z :: rest))) := by
  obtain ⟨fs, hr, hrun, hended, hW, hsame⟩ := X.leave (v := some (.int (nar t z))) (fun q => by rw [hret] at q; cases q) hlk
  refine ⟨_, _, retN X hx hret ht hd hr, hrun, hended, _, _, rfl, ?_, ⟨_, rfl⟩, hW, hsame.mono hc hs⟩
  show Qq _ T.heap locs
  rw [eT]; exact q
theorem own_rr (X : Stand p l e R s m args below meth c T locs cells slots) (hx : p.tables.exec = Jvm.exec) (hlk : meth.locks = false) {w : Value} {t : FieldType} {i : Instr} {rest : List Value} (hret : meth.sig.returnType = some t) (hn : narrow t w = w) (hi : (i = .ireturn ∧ (t = .int ∨ t = .boolean ∨ t = .byte ∨ t = .char ∨ t = .short) ∧ ∃ z, w = .int z) ∨ (i = .lreturn ∧ t = .long ∧ ∃ z, w = .long z) ∨ (i = .dreturn ∧ t = .double ∧ ∃ z, w = .double z) ∨ (i = .freturn ∧ t = .float ∧ ∃ z, w = .float z) ∨ (i = .areturn ∧ t.isReference = true ∧ w.isRef = true)) (hd : decode c.code pc = .ok (i, 1)) (eT : T.heap = h) (hc : cells ≤ R.cells) (hs : slots ≤ R.slots) (q : Qq (some w) h locs) : own_Fin p e below (own_P s R Qq) (T.setTop (mkF m pc L (w :: rest))) := by
  obtain ⟨fs, hr, hrun, hended, hW, hsame⟩ := X.leave (v := some w) (fun q => by rw [hret] at q; cases q) hlk
  refine ⟨_, _, retOut X hx hret hn hi hd hr, hrun, hended, _, _, rfl, ?_, ⟨_, rfl⟩, hW, hsame.mono hc hs⟩
  show Qq _ T.heap locs
  rw [eT]; exact q
theorem own_rL (X : Stand p l e R s m args below meth c T locs cells slots) (hx : p.tables.exec = Jvm.exec) (hlk : meth.locks = false) {z : Int32} {t : FieldType} {rest : List Value} (hret : meth.sig.returnType = some t) (ht : t = .boolean ∨ t = .byte ∨ t = .char ∨ t = .short) (hd : decode c.code pc = .ok (.ireturn, 1)) {w : Value} (hv : Value.int (nar t z) = w) (eT : T.heap = h) (hc : cells ≤ R.cells) (hs : slots ≤ R.slots) (q : Qq (some w) h locs) : own_Fin p e below (own_P s R Qq) (T.setTop (mkF m pc L (.int z :: rest))) := by
  subst hv
  exact own_rN X hx hlk hret ht hd eT hc hs q
end OwnR
abbrev own_Met (lL : Launch) (y : MethodName) (cs : List Jvm.Cond) (R : Room) (A : Array Value) (Z : State) (h0 : Heap) (Qq : Option Value → Heap → List Loc → Prop) : Prop := MetFree lL y (head1 cs R) (fun aA uU => aA = A ∧ Z.Warmed39 uU.vm ∧ uU.heap = h0) (fun _ _ _ _ _ => True) (fun _ uU oO uU' => ∃ vV lA, oO = .returned vV ∧ Qq vV uU'.heap lA ∧ FrameEnd uU oO uU' lA R.cells R.slots)
theorem own_begin {lL : Launch} {Z : State} {y : MethodName} {bytes : ByteArray} {maxL : Nat} {ret : Option FieldType} {ws : List Jvm.Cond} {R : Room} {A : Array Value} {h0 : Heap} {Qq : Option Value → Heap → List Loc → Prop} {L : Array Slot} (pl : plainFor y = true) (ef : ∀ mM : MethodId, entryFrame mM A maxL = mkF mM 0 L [])
    (k : ∀ pP eE sS mM below meth cC s₁, pP.tables.exec = Jvm.exec → cC.code = bytes → cC.maxLocals = maxL → Z.Warmed39 sS.vm → sS.vm.findClass y.cls = some mM.cls → meth.name = y.name → meth.sig.returnType = ret → meth.locks = false → Stand pP lL eE R sS mM A below meth cC s₁ [] 0 0 → s₁.heap = h0 → own_Fin pP eE below (own_P sS R Qq) (s₁.setTop (mkF mM 0 L []))) : own_Met lL y (Jvm.Cond.code y bytes maxL ret :: ws) R A Z h0 Qq := by
  refine MetFree.of_bodySF pl hisR ?_
  intro pP eE sS mM args below meth cC s₁ Bd hml0 hP hK
  obtain ⟨rfl, hZ, hh⟩ := hP
  have e0 : s₁.heap = h0 := by rw [← hh, Bd.state]; rfl
  exact own_fin (fun tT kK => castTop (ef mM) kK) (k pP eE sS mM below meth cC s₁ Bd.exec Bd.bytes hml0 hZ (findClass_of_methodNamed Bd.named) (name_of_methodNamed Bd.named Bd.method).1 Bd.returns Bd.notSynchronized (Stand.of_body Bd) e0)
section OwnW
variable {p : Program} {l : Launch} {e : Env} {R : Room} {Z s : State} {a0 : Array Value} {m : MethodId} {args : Array Value} {below : List Frame} {meth : Method} {c : Code} {T : State} {locs : List Loc} {cells slots : Nat} {h : Heap} {P : State → Outcome → Prop}
theorem jf (X : Stand p l e R s m args below meth c T locs cells slots) (hx : p.tables.exec = Jvm.exec) (hZ : Z.Warmed39 s.vm) {own O n d : String} {index : Nat} (hown : s.vm.findClass own = some m.cls) (w : (Cond.fieldLink own index O n d).before a0 Z = true) (eT : T.heap = h) {a : Addr} {v : Value} (F : Fld Z h a O n d v) {pc : Nat} {L : Array Slot} {rest : List Value} (hd : decode c.code pc = .ok (.getfield index, 3)) (k : ∀ T', Stand p l e R s m args below meth c T' locs cells slots → T'.heap = h → own_Fin p e below P (T'.setTop (mkF m (pc + 3) L (v :: rest)))) : own_Fin p e below P (T.setTop (mkF m pc L (.ref a :: rest))) := by
  obtain ⟨T', X', e', st⟩ := getF (host := "") X hx hZ hown (Or.inl w) Via.refl eT F (g := mkF m pc L (.ref a :: rest)) rfl rfl hd
  exact own_fin st (k T' X' e')
theorem jn (X : Stand p l e R s m args below meth c T locs cells slots) (hx : p.tables.exec = Jvm.exec) (hZ : Z.Warmed39 s.vm) {own O n d host : String} {index : Nat} (hown : s.vm.findClass own = some m.cls) (w : (Cond.fieldLinkNest own index O n d host).before a0 Z = true) (eT : T.heap = h) {a : Addr} {v : Value} (F : Fld Z h a O n d v) {pc : Nat} {L : Array Slot} {rest : List Value} (hd : decode c.code pc = .ok (.getfield index, 3)) (k : ∀ T', Stand p l e R s m args below meth c T' locs cells slots → T'.heap = h → own_Fin p e below P (T'.setTop (mkF m (pc + 3) L (v :: rest)))) : own_Fin p e below P (T.setTop (mkF m pc L (.ref a :: rest))) := by
  obtain ⟨T', X', e', st⟩ := getF X hx hZ hown (Or.inr w) Via.refl eT F (g := mkF m pc L (.ref a :: rest)) rfl rfl hd
  exact own_fin st (k T' X' e')
theorem jq (X : Stand p l e R s m args below meth c T locs cells slots) (hx : p.tables.exec = Jvm.exec) (hZ : Z.Warmed39 s.vm) {own O n d C : String} {index kk : Nat} {ty : FieldType} (hown : s.vm.findClass own = some m.cls) (w : (Cond.fieldLink own index O n d).before a0 Z = true) (eT : T.heap = h) {a : Addr} {v old : Value} (F : Fld Z h a O n d old) (E : Exa Z h a C) (L0 : (Cond.lays C O n d).before a0 Z = true) (wi : (Cond.instantiable C kk).before a0 Z = true) (ht : parseFieldDescriptor d = some ty) (hn : narrow ty v = v) (hf : fits ty v = true) {pc : Nat} {L : Array Slot} {rest : List Value} (hd : decode c.code pc = .ok (.putfield index, 3)) {n0 : Nat} {h0 : Heap} {ws : List Addr} (K : Keep h0 h ws) (N : Fr n0 locs) (hm : a ∈ ws ∨ h0.size ≤ a) (ge : n0 ≤ a)
    (k : ∀ T' h', Stand p l e R s m args below meth c T' (locs ++ [⟨a, RoadKit.slotOf Z O n d⟩]) cells slots → T'.heap = h' → Wr h h' a (RoadKit.slotOf Z O n d) v → Fld Z h' a O n d v → Keep h0 h' ws → Fr n0 (locs ++ [⟨a, RoadKit.slotOf Z O n d⟩]) → own_Fin p e below P (T'.setTop (mkF m (pc + 3) L rest))) : own_Fin p e below P (T.setTop (mkF m pc L (v :: .ref a :: rest))) := by
  obtain ⟨T', h', X', e', W, st⟩ := putF (host := "") X hx hZ hown (Or.inl w) Via.refl eT F E (Or.inl L0) wi ht hn hf (g := mkF m pc L (v :: .ref a :: rest)) rfl rfl hd
  exact own_fin st (k T' h' X' e' W (F.same W) (K.wr W hm) (Fr.snoc X' N ge))
theorem jv (X : Stand p l e R s m args below meth c T locs cells slots) (hx : p.tables.exec = Jvm.exec) (hZ : Z.Warmed39 s.vm) {own C : String} {index : Nat} {y : MethodName} {bytes : ByteArray} {maxL : Nat} {ret : Option FieldType} {rm : Room} {A : Array Value} {Qq : Option Value → Heap → List Loc → Prop} (hown : s.vm.findClass own = some m.cls) (w1 : (Cond.methodLink own index y).before a0 Z = true) (w2 : (Cond.declares y).before a0 Z = true) (w3 : (Cond.selects C y y).before a0 Z = true) (w4 : (Cond.instanceMethod y).before a0 Z = true) (wc : (Cond.code y bytes maxL ret).before a0 Z = true) (wz : (Cond.initialized y.cls).before a0 Z = true) (con : own_Met l y [Cond.code y bytes maxL ret] rm A Z h Qq) {a : Addr} (E : Exa Z h a C) (eT : T.heap = h) {ps : List FieldType} {r : Option FieldType} (hd : parseMethodDescriptor y.desc = some ⟨ps, r⟩) {pc : Nat} {L : Array Slot} (argsL rest : List Value) (hdg : decode c.code pc = .ok (.invokevirtual index, 3)) (hA : (.ref a :: argsL).toArray = A) (hl : argsL.length = ps.length) (hsz : L.size = c.maxLocals) (hy : y.cls ≠ "java/lang/invoke/MethodHandle" ∧ y.cls ≠ "java/lang/invoke/VarHandle") (W : Nat) (hW : (rest.map fun v => v.category).sum ≤ W) (hf : rm.frames + 1 ≤ R.frames) (hlo : W + (maxL + 11) + rm.locals ≤ R.locals) (hc : cells + rm.cells ≤ R.cells) (hs : slots + rm.slots ≤ R.slots) (k : ∀ (v : Option Value) (T' : State) (L' : List Loc), Stand p l e R s m args below meth c T' (locs ++ L') (cells + rm.cells) (slots + rm.slots) → Qq v T'.heap L' → own_Fin p e below P (T'.setTop (mkF m (pc + 3) L (v.toList ++ rest)))) : own_Fin p e below P (T.setTop (mkF m pc L (argsL.reverse ++ .ref a :: rest))) := by
  obtain ⟨cB, kB, qa, qb, qc⟩ := isOf hZ eT E
  obtain ⟨v, vm₁, ⟨T', L', k', n'⟩, -, X', ⟨Lc, hQ, e1, e2, e3⟩, st⟩ := X.virtualBack hx (y := y) (z := y) hown (mvT hZ w1) (mvT hZ w2) (notFace_of_selects (args := #[]) (mvT hZ w3)) (mvT hZ w3) (mvT hZ w4) hy (backOf (W := W) con hZ wc wz hf hlo) qa qc (g := mkF m pc L (argsL.reverse ++ .ref a :: rest)) rfl hsz (Steps.refl _) (argsL := argsL) (rest := rest) (lenOf hd hl) rfl (by show 2 * 0 + _ ≤ _; omega) hdg (fun _ _ => ⟨hA, eT, hc, hs⟩)
  dsimp only [Pt.U, Pt.locs, Pt.cells, Pt.slots] at X' e1 e2 e3 st hQ
  subst e1 e2 e3
  exact own_fin (fun t q => st.trans q) (k v T' Lc X' hQ)
theorem jw (X : Stand p l e R s m args below meth c T locs cells slots) (hx : p.tables.exec = Jvm.exec) (hZ : Z.Warmed39 s.vm) {own C : String} {index : Nat} {y : MethodName} {bytes : ByteArray} {maxL : Nat} {ret : Option FieldType} {rm : Room} {A : Array Value} {Qq : Option Value → Heap → List Loc → Prop} (hown : s.vm.findClass own = some m.cls) (w1 : (Cond.methodLink own index y).before a0 Z = true) (w4 : (Cond.instanceMethod y).before a0 Z = true) (hsel : (Cond.selects y.cls y y).before args s = true) (wp : (Cond.privateMethod y).before a0 Z = true) (wc : (Cond.code y bytes maxL ret).before a0 Z = true) (wz : (Cond.initialized y.cls).before a0 Z = true) (con : own_Met l y [Cond.code y bytes maxL ret] rm A Z h Qq) {a : Addr} (E : Exa Z h a C) (eT : T.heap = h) {ps : List FieldType} {r : Option FieldType} (hd : parseMethodDescriptor y.desc = some ⟨ps, r⟩) {pc : Nat} {L : Array Slot} (argsL rest : List Value) (hdg : decode c.code pc = .ok (.invokevirtual index, 3)) (hA : (.ref a :: argsL).toArray = A) (hl : argsL.length = ps.length) (hsz : L.size = c.maxLocals) (hy : y.cls ≠ "java/lang/invoke/MethodHandle" ∧ y.cls ≠ "java/lang/invoke/VarHandle") (W : Nat) (hW : (rest.map fun v => v.category).sum ≤ W) (hf : rm.frames + 1 ≤ R.frames) (hlo : W + (maxL + 11) + rm.locals ≤ R.locals) (hc : cells + rm.cells ≤ R.cells) (hs : slots + rm.slots ≤ R.slots) (k : ∀ (v : Option Value) (T' : State) (L' : List Loc), Stand p l e R s m args below meth c T' (locs ++ L') (cells + rm.cells) (slots + rm.slots) → Qq v T'.heap L' → own_Fin p e below P (T'.setTop (mkF m (pc + 3) L (v.toList ++ rest)))) : own_Fin p e below P (T.setTop (mkF m pc L (argsL.reverse ++ .ref a :: rest))) := by
  obtain ⟨cq, q, q'⟩ := E.cell
  obtain ⟨v, vm₁, ⟨T', L', k', n'⟩, -, X', ⟨Lc, hQ, e1, e2, e3⟩, st⟩ := X.privateBack hx (y := y) hown (mvT hZ w1) (mvT hZ w4) hsel (Cond.privateMethod_at (mvP hZ wp (args := #[]))) (mvT hZ wc) hy (backOf (W := W) con hZ wc wz hf hlo) (g := mkF m pc L (argsL.reverse ++ .ref a :: rest)) rfl hsz (Steps.refl _) (a := a) (by rw [eT]; exact q) q' (argsL := argsL) (rest := rest) (lenOf hd hl) rfl (by show 2 * 0 + _ ≤ _; omega) hdg (fun _ _ => ⟨hA, eT, hc, hs⟩)
  dsimp only [Pt.U, Pt.locs, Pt.cells, Pt.slots] at X' e1 e2 e3 st hQ
  subst e1 e2 e3
  exact own_fin (fun t q => st.trans q) (k v T' Lc X' hQ)
theorem own_sb (X : Stand p l e R s m args below meth c T locs cells slots) (hx : p.tables.exec = Jvm.exec) (hZ : Z.Warmed39 s.vm) {own : String} {index : Nat} {y : MethodName} {bytes : ByteArray} {maxL : Nat} {rm : Room} {A : Array Value} {Qq : Option Value → Heap → List Loc → Prop} (hy1 : y.name = "<init>") (hown : s.vm.findClass own = some m.cls) (w1 : (Cond.methodLink own index y).before a0 Z = true) (w4 : (Cond.instanceMethod y).before a0 Z = true) (wc : (Cond.code y bytes maxL none).before a0 Z = true) (wz : (Cond.initialized y.cls).before a0 Z = true) (con : own_Met l y [Cond.code y bytes maxL none] rm A Z h Qq) {a : Addr} (eT : T.heap = h) {ps : List FieldType} {r : Option FieldType} (hd : parseMethodDescriptor y.desc = some ⟨ps, r⟩) {pc : Nat} {L : Array Slot} (argsL rest : List Value) (hdg : decode c.code pc = .ok (.invokespecial index, 3)) (hA : (.ref a :: argsL).toArray = A) (hl : argsL.length = ps.length) (hsz : L.size = c.maxLocals) (hy : y.cls ≠ "java/lang/invoke/MethodHandle" ∧ y.cls ≠ "java/lang/invoke/VarHandle") (W : Nat) (hW : (rest.map fun v => v.category).sum ≤ W) (hf : rm.frames + 1 ≤ R.frames) (hlo : W + (maxL + 11) + rm.locals ≤ R.locals) (hc : cells + rm.cells ≤ R.cells) (hs : slots + rm.slots ≤ R.slots) (k : ∀ (v : Option Value) (T' : State) (L' : List Loc), Stand p l e R s m args below meth c T' (locs ++ L') (cells + rm.cells) (slots + rm.slots) → Qq v T'.heap L' → own_Fin p e below P (T'.setTop (mkF m (pc + 3) L (v.toList ++ rest)))) : own_Fin p e below P (T.setTop (mkF m pc L (argsL.reverse ++ .ref a :: rest))) := by
  obtain ⟨v, vm₁, ⟨T', L', k', n'⟩, -, X', ⟨Lc, hQ, e1, e2, e3⟩, st⟩ := X.specialBack hx (y := y) hy1 hown (mvT hZ w1) (mvT hZ w4) (mvT hZ wc) hy (backOf (W := W) con hZ wc wz hf hlo) (g := mkF m pc L (argsL.reverse ++ .ref a :: rest)) rfl hsz (Steps.refl _) (a := a) (argsL := argsL) (rest := rest) (lenOf hd hl) rfl (by show 2 * 0 + _ ≤ _; omega) hdg (fun _ _ => ⟨hA, eT, hc, hs⟩)
  dsimp only [Pt.U, Pt.locs, Pt.cells, Pt.slots] at X' e1 e2 e3 st hQ
  subst e1 e2 e3
  exact own_fin (fun t q => st.trans q) (k v T' Lc X' hQ)
theorem jc (X : Stand p l e R s m args below meth c T locs cells slots) (hx : p.tables.exec = Jvm.exec) (hZ : Z.Warmed39 s.vm) {own : String} {index : Nat} {y : MethodName} {bytes : ByteArray} {maxL : Nat} {ret : Option FieldType} {rm : Room} {A : Array Value} {Qq : Option Value → Heap → List Loc → Prop} (hown : s.vm.findClass own = some m.cls) (w1 : (Cond.methodLink own index y).before a0 Z = true) (w2 : (Cond.static y).before a0 Z = true) (wz : (Cond.initialized y.cls).before a0 Z = true) (wc : (Cond.code y bytes maxL ret).before a0 Z = true) (con : own_Met l y [Cond.code y bytes maxL ret] rm A Z h Qq) (eT : T.heap = h) {ps : List FieldType} {r : Option FieldType} (hd : parseMethodDescriptor y.desc = some ⟨ps, r⟩) {pc : Nat} {L : Array Slot} (argsL rest : List Value) (hdg : decode c.code pc = .ok (.invokestatic index, 3)) (hA : argsL.toArray = A) (hl : argsL.length = ps.length) (hsz : L.size = c.maxLocals) (hy : y.cls ≠ "java/lang/invoke/MethodHandle" ∧ y.cls ≠ "java/lang/invoke/VarHandle") (W : Nat) (hW : (rest.map fun v => v.category).sum ≤ W) (hf : rm.frames + 1 ≤ R.frames) (hlo : W + (maxL + 11) + rm.locals ≤ R.locals) (hc : cells + rm.cells ≤ R.cells) (hs : slots + rm.slots ≤ R.slots) (k : ∀ (v : Option Value) (T' : State) (L' : List Loc), Stand p l e R s m args below meth c T' (locs ++ L') (cells + rm.cells) (slots + rm.slots) → Qq v T'.heap L' → own_Fin p e below P (T'.setTop (mkF m (pc + 3) L (v.toList ++ rest)))) : own_Fin p e below P (T.setTop (mkF m pc L (argsL.reverse ++ rest))) := by
  obtain ⟨v, vm₁, ⟨T', L', k', n'⟩, -, X', ⟨Lc, hQ, e1, e2, e3⟩, st⟩ := Jvm.LawKit.callS X hx hown (mvT hZ w1) (mvT hZ w2) (mvT hZ wz) (mvT hZ wc) hy (backOf (W := W) con hZ wc wz hf hlo) (g := mkF m pc L (argsL.reverse ++ rest)) rfl hsz (lenOf hd hl) rfl (by show 2 * 0 + _ ≤ _; omega) hdg (fun _ _ => ⟨hA, eT, hc, hs⟩)
  dsimp only [Pt.U, Pt.locs, Pt.cells, Pt.slots] at X' e1 e2 e3 st hQ
  subst e1 e2 e3
  exact own_fin (fun t q => st t q) (k v T' Lc X' hQ)
end OwnW
abbrev vU : Slot := .unset
abbrev vS : Slot := .second
abbrev vI (x : Int32) : Slot := .val (.int x)
abbrev vJ (x : Int64) : Slot := .val (.long x)
abbrev vR (x : Addr) : Slot := .val (.ref x)
abbrev vN : Slot := .val .null
abbrev jy0 : MethodName := (⟨"com/example/portion/portion/server/OffsetSet", "requireRange", "(JJ)V"⟩ : MethodName)
abbrev jy1 : MethodName := (⟨"java/lang/Math", "max", "(II)I"⟩ : MethodName)
abbrev jy2 : MethodName := (⟨"java/lang/Math", "min", "(JJ)J"⟩ : MethodName)
abbrev jy3 : MethodName := (⟨"java/lang/Math", "max", "(JJ)J"⟩ : MethodName)
abbrev jy4 : MethodName := (⟨"com/example/portion/portion/server/OffsetSet", "pageAt", "(J)I"⟩ : MethodName)
abbrev jy5 : MethodName := (⟨"com/example/portion/portion/server/OffsetSet$Page", "lastRunTo", "()J"⟩ : MethodName)
abbrev jy6 : MethodName := (⟨"com/example/portion/portion/server/OffsetSet$Page", "lastRunFrom", "()J"⟩ : MethodName)
abbrev jy7 : MethodName := (⟨"com/example/portion/portion/server/OffsetSet$Page", "byteCount", "()I"⟩ : MethodName)
abbrev jy8 : MethodName := (⟨"com/example/portion/portion/server/OffsetSet", "<init>", "(I)V"⟩ : MethodName)
abbrev jy9 : MethodName := (⟨"com/example/portion/portion/server/OffsetSet$Page", "<init>", "()V"⟩ : MethodName)
abbrev jy10 : MethodName := (⟨"com/example/portion/portion/server/OffsetSet", "replacePages", "(II[Lcom/example/portion/portion/server/OffsetSet$Page;I)V"⟩ : MethodName)
abbrev jy11 : MethodName := (⟨"com/example/portion/portion/server/OffsetSet$Page", "write", "(J)V"⟩ : MethodName)
abbrev jy12 : MethodName := (⟨"com/example/portion/portion/server/OffsetSet$Page", "writeLastRun", "()V"⟩ : MethodName)
abbrev jy13 : MethodName := (⟨"com/example/portion/portion/server/OffsetSet$Page", "withRoom", "(I)I"⟩ : MethodName)
abbrev jy14 : MethodName := (⟨"com/example/portion/portion/server/OffsetSet$Page", "moveTo", "(I)V"⟩ : MethodName)
abbrev jy15 : MethodName := (⟨"com/example/portion/portion/server/OffsetSet$Page", "makeRoom", "(I)V"⟩ : MethodName)
abbrev jy16 : MethodName := (⟨"com/example/portion/portion/server/OffsetSet$Page", "extend", "(JJ)V"⟩ : MethodName)
abbrev jy17 : MethodName := (⟨"com/example/portion/portion/server/OffsetSet$Page", "extendIfAny", "(JJ)V"⟩ : MethodName)
abbrev jy18 : MethodName := (⟨"com/example/portion/portion/server/OffsetSet$Page", "trim", "()V"⟩ : MethodName)
abbrev jy19 : MethodName := (⟨"com/example/portion/portion/server/OffsetSet$Page$Runs", "<init>", "(Lcom/example/portion/portion/server/OffsetSet$Page;)V"⟩ : MethodName)
abbrev jy20 : MethodName := (⟨"com/example/portion/portion/server/OffsetSet$Page$Runs", "next", "()Z"⟩ : MethodName)
abbrev jy21 : MethodName := (⟨"com/example/portion/portion/server/OffsetSet$Page$Runs", "read", "()J"⟩ : MethodName)
abbrev jy22 : MethodName := (⟨"com/example/portion/portion/server/OffsetSet$Page", "clear", "()V"⟩ : MethodName)
abbrev jy23 : MethodName := (⟨"com/example/portion/portion/server/OffsetSet$Page", "takeNextRun", "()V"⟩ : MethodName)
abbrev jy24 : MethodName := (⟨"com/example/portion/portion/server/OffsetSet$Page", "removeFirst", "()V"⟩ : MethodName)
abbrev jy25 : MethodName := (⟨"com/example/portion/portion/server/OffsetSet", "first", "()J"⟩ : MethodName)
abbrev jy26 : MethodName := (⟨"com/example/portion/portion/server/OffsetSet", "removeFirst", "()J"⟩ : MethodName)
abbrev jy27 : MethodName := (⟨"com/example/portion/portion/server/OffsetSet$Page", "set", "(JJZ)V"⟩ : MethodName)
abbrev jy28 : MethodName := (⟨"com/example/portion/portion/server/OffsetSet", "edit", "(IJJZ)V"⟩ : MethodName)
abbrev jy29 : MethodName := (⟨"com/example/portion/portion/server/OffsetSet", "appendTo", "(IJJ)V"⟩ : MethodName)
abbrev jy30 : MethodName := (⟨"com/example/portion/portion/server/OffsetSet", "append", "(JJ)V"⟩ : MethodName)
abbrev jy31 : MethodName := (⟨"com/example/portion/portion/server/OffsetSet", "addRange", "(JJ)V"⟩ : MethodName)
abbrev jy32 : MethodName := (⟨"com/example/portion/portion/server/OffsetSet", "add", "(J)V"⟩ : MethodName)
abbrev jy33 : MethodName := (⟨"com/example/portion/portion/server/OffsetSet$Page", "contains", "(J)Z"⟩ : MethodName)
abbrev jy34 : MethodName := (⟨"com/example/portion/portion/server/OffsetSet", "contains", "(J)Z"⟩ : MethodName)
abbrev jy35 : MethodName := (⟨"com/example/portion/portion/server/OffsetSet", "remove", "(J)Z"⟩ : MethodName)
abbrev jy36 : MethodName := (⟨"com/example/portion/portion/server/OffsetSet$Page", "removeBefore", "(J)V"⟩ : MethodName)
abbrev jy37 : MethodName := (⟨"com/example/portion/portion/server/OffsetSet", "removeBefore", "(J)Z"⟩ : MethodName)
abbrev jy38 : MethodName := (⟨"com/example/portion/portion/server/OffsetSet", "clear", "()V"⟩ : MethodName)
abbrev jy39 : MethodName := (⟨"com/example/portion/portion/server/OffsetSet", "isEmpty", "()Z"⟩ : MethodName)
abbrev jr0 : Room := ({ frames := 0, cells := 0, slots := 0, locals := 0 } : Room)
abbrev jr1 : Room := ({ frames := 1, cells := 0, slots := 0, locals := 12 } : Room)
abbrev jr2 : Room := ({ frames := 1, cells := 1, slots := 2, locals := 40 } : Room)
abbrev jr3 : Room := ({ frames := 1, cells := 0, slots := 0, locals := 40 } : Room)
abbrev jr4 : Room := ({ frames := 1, cells := 0, slots := 0, locals := 16 } : Room)
abbrev jr5 : Room := ({ frames := 1, cells := 0, slots := 0, locals := 13 } : Room)
abbrev jr6 : Room := ({ frames := 1, cells := 1, slots := 28, locals := 40 } : Room)
abbrev jr7 : Room := ({ frames := 2, cells := 1, slots := 28, locals := 54 } : Room)
abbrev jr8 : Room := ({ frames := 3, cells := 1, slots := 28, locals := 67 } : Room)
abbrev jr9 : Room := ({ frames := 2, cells := 0, slots := 0, locals := 35 } : Room)
abbrev jr10 : Room := ({ frames := 2, cells := 0, slots := 0, locals := 30 } : Room)
abbrev jr11 : Room := ({ frames := 2, cells := 0, slots := 0, locals := 54 } : Room)
abbrev jr12 : Room := ({ frames := 1, cells := 1, slots := 19, locals := 40 } : Room)
abbrev jr13 : Room := ({ frames := 2, cells := 1, slots := 19, locals := 54 } : Room)
abbrev jr14 : Room := ({ frames := 1, cells := 0, slots := 0, locals := 18 } : Room)
abbrev jr15 : Room := ({ frames := 2, cells := 1, slots := 4, locals := 26 } : Room)
abbrev jr16 : Room := ({ frames := 2, cells := 1, slots := 4, locals := 38 } : Room)
abbrev jr17 : Room := ({ frames := 3, cells := 1, slots := 4, locals := 39 } : Room)
abbrev jr18 : Room := ({ frames := 3, cells := 1, slots := 4, locals := 51 } : Room)
abbrev jr19 : Room := ({ frames := 4, cells := 1, slots := 4, locals := 58 } : Room)
abbrev jr20 : Room := ({ frames := 4, cells := 1, slots := 4, locals := 63 } : Room)
abbrev jr21 : Room := ({ frames := 3, cells := 2, slots := 61, locals := 66 } : Room)
abbrev jr22 : Room := ({ frames := 3, cells := 3, slots := 80, locals := 66 } : Room)
abbrev jr23 : Room := ({ frames := 4, cells := 2, slots := 61, locals := 123 } : Room)
abbrev jr24 : Room := ({ frames := 4, cells := 3, slots := 80, locals := 123 } : Room)
abbrev jr25 : Room := ({ frames := 2, cells := 3, slots := 13, locals := 58 } : Room)
abbrev jr26 : Room := ({ frames := 3, cells := 3, slots := 13, locals := 78 } : Room)
abbrev jr27 : Room := ({ frames := 4, cells := 3, slots := 13, locals := 94 } : Room)
abbrev jr28 : Room := ({ frames := 5, cells := 3, slots := 13, locals := 113 } : Room)
abbrev jr29 : Room := ({ frames := 5, cells := 2, slots := 61, locals := 146 } : Room)
abbrev jr30 : Room := ({ frames := 6, cells := 2, slots := 61, locals := 165 } : Room)
abbrev jr31 : Room := ({ frames := 4, cells := 1, slots := 28, locals := 85 } : Room)
abbrev jr32 : Room := ({ frames := 5, cells := 3, slots := 80, locals := 146 } : Room)
abbrev jr33 : Room := ({ frames := 6, cells := 3, slots := 80, locals := 165 } : Room)
abbrev jr34 : Room := ({ frames := 3, cells := 1, slots := 4, locals := 43 } : Room)
abbrev jr35 : Room := ({ frames := 3, cells := 1, slots := 4, locals := 55 } : Room)
abbrev jr36 : Room := ({ frames := 5, cells := 3, slots := 65, locals := 146 } : Room)
abbrev jr37 : Room := ({ frames := 2, cells := 0, slots := 0, locals := 58 } : Room)
abbrev jr38 : Room := ({ frames := 4, cells := 1, slots := 4, locals := 65 } : Room)
abbrev jF0 (Z : State) (h : Heap) (a : Addr) (v : Value) : Prop := Fld Z h a "com/example/portion/portion/server/OffsetSet" "size" "J" v
abbrev jF1 (Z : State) (h : Heap) (a : Addr) (v : Value) : Prop := Fld Z h a "com/example/portion/portion/server/OffsetSet" "pages" "[Lcom/example/portion/portion/server/OffsetSet$Page;" v
abbrev jF2 (Z : State) (h : Heap) (a : Addr) (v : Value) : Prop := Fld Z h a "com/example/portion/portion/server/OffsetSet" "pageCount" "I" v
abbrev jF3 (Z : State) (h : Heap) (a : Addr) (v : Value) : Prop := Fld Z h a "com/example/portion/portion/server/OffsetSet" "pageBytes" "I" v
abbrev jF4 (Z : State) (h : Heap) (a : Addr) (v : Value) : Prop := Fld Z h a "com/example/portion/portion/server/OffsetSet$Page" "size" "J" v
abbrev jF5 (Z : State) (h : Heap) (a : Addr) (v : Value) : Prop := Fld Z h a "com/example/portion/portion/server/OffsetSet$Page" "firstFrom" "J" v
abbrev jF6 (Z : State) (h : Heap) (a : Addr) (v : Value) : Prop := Fld Z h a "com/example/portion/portion/server/OffsetSet$Page" "firstTo" "J" v
abbrev jF7 (Z : State) (h : Heap) (a : Addr) (v : Value) : Prop := Fld Z h a "com/example/portion/portion/server/OffsetSet$Page" "bytes" "[B" v
abbrev jF8 (Z : State) (h : Heap) (a : Addr) (v : Value) : Prop := Fld Z h a "com/example/portion/portion/server/OffsetSet$Page" "start" "I" v
abbrev jF9 (Z : State) (h : Heap) (a : Addr) (v : Value) : Prop := Fld Z h a "com/example/portion/portion/server/OffsetSet$Page" "end" "I" v
abbrev jF10 (Z : State) (h : Heap) (a : Addr) (v : Value) : Prop := Fld Z h a "com/example/portion/portion/server/OffsetSet$Page" "lastAt" "I" v
abbrev jF11 (Z : State) (h : Heap) (a : Addr) (v : Value) : Prop := Fld Z h a "com/example/portion/portion/server/OffsetSet$Page" "lastGap" "J" v
abbrev jF12 (Z : State) (h : Heap) (a : Addr) (v : Value) : Prop := Fld Z h a "com/example/portion/portion/server/OffsetSet$Page" "lastFrom" "J" v
abbrev jF13 (Z : State) (h : Heap) (a : Addr) (v : Value) : Prop := Fld Z h a "com/example/portion/portion/server/OffsetSet$Page" "lastTo" "J" v
abbrev jF14 (Z : State) (h : Heap) (a : Addr) (v : Value) : Prop := Fld Z h a "com/example/portion/portion/server/OffsetSet$Page$Runs" "this$0" "Lcom/example/portion/portion/server/OffsetSet$Page;" v
abbrev jF15 (Z : State) (h : Heap) (a : Addr) (v : Value) : Prop := Fld Z h a "com/example/portion/portion/server/OffsetSet$Page$Runs" "from" "J" v
abbrev jF16 (Z : State) (h : Heap) (a : Addr) (v : Value) : Prop := Fld Z h a "com/example/portion/portion/server/OffsetSet$Page$Runs" "to" "J" v
abbrev jF17 (Z : State) (h : Heap) (a : Addr) (v : Value) : Prop := Fld Z h a "com/example/portion/portion/server/OffsetSet$Page$Runs" "at" "I" v
abbrev jE0 (Z : State) (h : Heap) (a : Addr) : Prop := Exa Z h a "com/example/portion/portion/server/OffsetSet"
abbrev jE1 (Z : State) (h : Heap) (a : Addr) : Prop := Exa Z h a "com/example/portion/portion/server/OffsetSet$Page"
abbrev jE2 (Z : State) (h : Heap) (a : Addr) : Prop := Exa Z h a "com/example/portion/portion/server/OffsetSet$Page$Runs"
abbrev jD0 (pc : Nat) (i : Jvm.ClassFile.Instr × Nat) : Prop := Jvm.ClassFile.decode prog_38_method_16_code pc = .ok i
abbrev jD1 (pc : Nat) (i : Jvm.ClassFile.Instr × Nat) : Prop := Jvm.ClassFile.decode jdk_29_method_65_code pc = .ok i
abbrev jD2 (pc : Nat) (i : Jvm.ClassFile.Instr × Nat) : Prop := Jvm.ClassFile.decode jdk_29_method_70_code pc = .ok i
abbrev jD3 (pc : Nat) (i : Jvm.ClassFile.Instr × Nat) : Prop := Jvm.ClassFile.decode jdk_29_method_66_code pc = .ok i
abbrev jD4 (pc : Nat) (i : Jvm.ClassFile.Instr × Nat) : Prop := Jvm.ClassFile.decode prog_38_method_18_code pc = .ok i
abbrev jD5 (pc : Nat) (i : Jvm.ClassFile.Instr × Nat) : Prop := Jvm.ClassFile.decode prog_39_method_3_code pc = .ok i
abbrev jD6 (pc : Nat) (i : Jvm.ClassFile.Instr × Nat) : Prop := Jvm.ClassFile.decode prog_39_method_2_code pc = .ok i
abbrev jD7 (pc : Nat) (i : Jvm.ClassFile.Instr × Nat) : Prop := Jvm.ClassFile.decode prog_39_method_4_code pc = .ok i
abbrev jD8 (pc : Nat) (i : Jvm.ClassFile.Instr × Nat) : Prop := Jvm.ClassFile.decode prog_38_method_2_code pc = .ok i
abbrev jD9 (pc : Nat) (i : Jvm.ClassFile.Instr × Nat) : Prop := Jvm.ClassFile.decode prog_39_method_1_code pc = .ok i
abbrev jD10 (pc : Nat) (i : Jvm.ClassFile.Instr × Nat) : Prop := Jvm.ClassFile.decode prog_38_method_24_code pc = .ok i
abbrev jD11 (pc : Nat) (i : Jvm.ClassFile.Instr × Nat) : Prop := Jvm.ClassFile.decode prog_39_method_20_code pc = .ok i
abbrev jD12 (pc : Nat) (i : Jvm.ClassFile.Instr × Nat) : Prop := Jvm.ClassFile.decode prog_39_method_19_code pc = .ok i
abbrev jD13 (pc : Nat) (i : Jvm.ClassFile.Instr × Nat) : Prop := Jvm.ClassFile.decode prog_39_method_17_code pc = .ok i
abbrev jD14 (pc : Nat) (i : Jvm.ClassFile.Instr × Nat) : Prop := Jvm.ClassFile.decode prog_39_method_18_code pc = .ok i
abbrev jD15 (pc : Nat) (i : Jvm.ClassFile.Instr × Nat) : Prop := Jvm.ClassFile.decode prog_39_method_16_code pc = .ok i
abbrev jD16 (pc : Nat) (i : Jvm.ClassFile.Instr × Nat) : Prop := Jvm.ClassFile.decode prog_39_method_5_code pc = .ok i
abbrev jD17 (pc : Nat) (i : Jvm.ClassFile.Instr × Nat) : Prop := Jvm.ClassFile.decode prog_39_method_9_code pc = .ok i
abbrev jD18 (pc : Nat) (i : Jvm.ClassFile.Instr × Nat) : Prop := Jvm.ClassFile.decode prog_39_method_13_code pc = .ok i
abbrev jD19 (pc : Nat) (i : Jvm.ClassFile.Instr × Nat) : Prop := Jvm.ClassFile.decode prog_40_method_1_code pc = .ok i
abbrev jD20 (pc : Nat) (i : Jvm.ClassFile.Instr × Nat) : Prop := Jvm.ClassFile.decode prog_40_method_2_code pc = .ok i
abbrev jD21 (pc : Nat) (i : Jvm.ClassFile.Instr × Nat) : Prop := Jvm.ClassFile.decode prog_40_method_3_code pc = .ok i
abbrev jD22 (pc : Nat) (i : Jvm.ClassFile.Instr × Nat) : Prop := Jvm.ClassFile.decode prog_39_method_14_code pc = .ok i
abbrev jD23 (pc : Nat) (i : Jvm.ClassFile.Instr × Nat) : Prop := Jvm.ClassFile.decode prog_39_method_15_code pc = .ok i
abbrev jD24 (pc : Nat) (i : Jvm.ClassFile.Instr × Nat) : Prop := Jvm.ClassFile.decode prog_39_method_6_code pc = .ok i
abbrev jD25 (pc : Nat) (i : Jvm.ClassFile.Instr × Nat) : Prop := Jvm.ClassFile.decode prog_38_method_5_code pc = .ok i
abbrev jD26 (pc : Nat) (i : Jvm.ClassFile.Instr × Nat) : Prop := Jvm.ClassFile.decode prog_38_method_6_code pc = .ok i
abbrev jD27 (pc : Nat) (i : Jvm.ClassFile.Instr × Nat) : Prop := Jvm.ClassFile.decode prog_39_method_8_code pc = .ok i
abbrev jD28 (pc : Nat) (i : Jvm.ClassFile.Instr × Nat) : Prop := Jvm.ClassFile.decode prog_38_method_21_code pc = .ok i
abbrev jD29 (pc : Nat) (i : Jvm.ClassFile.Instr × Nat) : Prop := Jvm.ClassFile.decode prog_38_method_20_code pc = .ok i
abbrev jD30 (pc : Nat) (i : Jvm.ClassFile.Instr × Nat) : Prop := Jvm.ClassFile.decode prog_38_method_19_code pc = .ok i
abbrev jD31 (pc : Nat) (i : Jvm.ClassFile.Instr × Nat) : Prop := Jvm.ClassFile.decode prog_38_method_9_code pc = .ok i
abbrev jD32 (pc : Nat) (i : Jvm.ClassFile.Instr × Nat) : Prop := Jvm.ClassFile.decode prog_38_method_8_code pc = .ok i
abbrev jD33 (pc : Nat) (i : Jvm.ClassFile.Instr × Nat) : Prop := Jvm.ClassFile.decode prog_39_method_11_code pc = .ok i
abbrev jD34 (pc : Nat) (i : Jvm.ClassFile.Instr × Nat) : Prop := Jvm.ClassFile.decode prog_38_method_7_code pc = .ok i
abbrev jD35 (pc : Nat) (i : Jvm.ClassFile.Instr × Nat) : Prop := Jvm.ClassFile.decode prog_38_method_11_code pc = .ok i
abbrev jD36 (pc : Nat) (i : Jvm.ClassFile.Instr × Nat) : Prop := Jvm.ClassFile.decode prog_39_method_7_code pc = .ok i
abbrev jD37 (pc : Nat) (i : Jvm.ClassFile.Instr × Nat) : Prop := Jvm.ClassFile.decode prog_38_method_12_code pc = .ok i
abbrev jD38 (pc : Nat) (i : Jvm.ClassFile.Instr × Nat) : Prop := Jvm.ClassFile.decode prog_38_method_13_code pc = .ok i
abbrev jD39 (pc : Nat) (i : Jvm.ClassFile.Instr × Nat) : Prop := Jvm.ClassFile.decode prog_38_method_3_code pc = .ok i
abbrev jQ0 (Z : State) : Nat := RoadKit.slotOf Z "com/example/portion/portion/server/OffsetSet" "pages" "[Lcom/example/portion/portion/server/OffsetSet$Page;"
abbrev jQ1 (Z : State) : Nat := RoadKit.slotOf Z "com/example/portion/portion/server/OffsetSet" "size" "J"
abbrev jQ2 (Z : State) : Nat := RoadKit.slotOf Z "com/example/portion/portion/server/OffsetSet" "pageCount" "I"
abbrev jQ3 (Z : State) : Nat := RoadKit.slotOf Z "com/example/portion/portion/server/OffsetSet" "pageBytes" "I"
abbrev jQ4 (Z : State) : Nat := RoadKit.slotOf Z "com/example/portion/portion/server/OffsetSet$Page" "firstFrom" "J"
abbrev jQ5 (Z : State) : Nat := RoadKit.slotOf Z "com/example/portion/portion/server/OffsetSet$Page" "size" "J"
abbrev jQ6 (Z : State) : Nat := RoadKit.slotOf Z "com/example/portion/portion/server/OffsetSet$Page" "firstTo" "J"
abbrev jQ7 (Z : State) : Nat := RoadKit.slotOf Z "com/example/portion/portion/server/OffsetSet$Page" "bytes" "[B"
abbrev jQ8 (Z : State) : Nat := RoadKit.slotOf Z "com/example/portion/portion/server/OffsetSet$Page" "start" "I"
abbrev jQ9 (Z : State) : Nat := RoadKit.slotOf Z "com/example/portion/portion/server/OffsetSet$Page" "end" "I"
abbrev jQ10 (Z : State) : Nat := RoadKit.slotOf Z "com/example/portion/portion/server/OffsetSet$Page" "lastAt" "I"
abbrev jQ11 (Z : State) : Nat := RoadKit.slotOf Z "com/example/portion/portion/server/OffsetSet$Page" "lastGap" "J"
abbrev jQ12 (Z : State) : Nat := RoadKit.slotOf Z "com/example/portion/portion/server/OffsetSet$Page" "lastFrom" "J"
abbrev jQ13 (Z : State) : Nat := RoadKit.slotOf Z "com/example/portion/portion/server/OffsetSet$Page" "lastTo" "J"
abbrev jQ14 (Z : State) : Nat := RoadKit.slotOf Z "com/example/portion/portion/server/OffsetSet$Page$Runs" "from" "J"
abbrev jQ15 (Z : State) : Nat := RoadKit.slotOf Z "com/example/portion/portion/server/OffsetSet$Page$Runs" "this$0" "Lcom/example/portion/portion/server/OffsetSet$Page;"
abbrev jQ16 (Z : State) : Nat := RoadKit.slotOf Z "com/example/portion/portion/server/OffsetSet$Page$Runs" "to" "J"
abbrev jQ17 (Z : State) : Nat := RoadKit.slotOf Z "com/example/portion/portion/server/OffsetSet$Page$Runs" "at" "I"
section OwnRef
variable {p : Program} {l : Launch} {e : Env} {R : Room} {Z s : State} {a0 : Array Value} {m : MethodId} {args : Array Value} {below : List Frame} {meth : Method} {c : Code} {T : State} {locs : List Loc} {cells slots : Nat} {h : Heap}
theorem own_getRef (X : Stand p l e R s m args below meth c T locs cells slots) (hx : p.tables.exec = Jvm.exec) (hZ : Z.Warmed39 s.vm) {own R0 O n d : String} {index : Nat} (hown : s.vm.findClass own = some m.cls) (w : (Cond.fieldRef own index R0 n d).before a0 Z = true) (via : Via Z R0 O n d)
    (eT : T.heap = h) {a : Addr} {v : Value} (F : Fld Z h a O n d v) {g : JFrame} (hg : g.method = m) {rest : List Value} (hs : g.stack = .ref a :: rest) (hd : decode c.code g.pc = .ok (.getfield index, 3)) : ∃ T', Stand p l e R s m args below meth c T' locs cells slots ∧ T'.heap = h ∧ ∀ target, Steps p.tables e below (T'.setTop { g with pc := g.pc + 3, stack := v :: rest }) target → Steps p.tables e below (T.setTop g) target := by
  obtain ⟨cell, cf, k, i, f, h1, h2, h3, h4, -, -, h7⟩ := F
  have hW := wtrans hZ X.warmed
  have w' : (Cond.fieldRef own index R0 n d).before a0 (Z.setVm T.vm) = true := Cond.fieldRef_warmed39 hW w
  have hcur : (Z.setVm T.vm).vm.findClass own = some m.cls := by
    show T.vm.findClass own = _
    rw [X.warmed.alike.findClass]; exact hown
  obtain ⟨k', hi, -⟩ := State.fieldFound?_setVm (s := Z) (vm' := T.vm) hW.alike (via _ h2)
  obtain ⟨c2, k2, i2, f2, g1, g2⟩ := Cond.fieldRef_spec hcur w'
  cases hi.symm.trans g1
  refine ⟨T, X, eT, fun target hr => ?_⟩
  subst hg
  have hc : T.heap[a]? = some cell := by rw [eT]; exact h1
  jvm_step X.here [hx, hd, getfield.wp_ready (e := e) (s := T) (f := g) X.here.top g2 h3 hs hc h4 h7]
  exact hr
theorem own_specialRef (X : Stand p l e R s m args below meth c T locs cells slots) (hexec : p.tables.exec = Jvm.exec) (hZ : Z.Warmed39 s.vm) {own : String} {index : Nat} {y : MethodName} (hy1 : y.name = "<init>")
    (hown : s.vm.findClass own = some m.cls) (hlink : (Cond.methodRef own index y).before a0 Z = true) (hinstZ : (Cond.instanceMethod y).before a0 Z = true)
    {bytes : ByteArray} {maxL : Nat} (hcode : (Cond.code y bytes maxL none).before args s = true)
    (hy : y.cls ≠ "java/lang/invoke/MethodHandle" ∧ y.cls ≠ "java/lang/invoke/VarHandle")
    {W : Nat} {Pre : Pt → Array Value → Prop} {Post : Pt → Array Value → Option Value → Pt → Prop} (hK : Back l R p e below s args y 3 W Pre Post)
    {g : JFrame} (hg : g.method = m) (hsize : g.locals.size = c.maxLocals) {s₀ : State} (hcome : Steps p.tables e below s₀ (T.setTop g)) {a : Addr} {argsL rest : List Value}
    (hlen : ∀ sig, parseMethodDescriptor y.desc = some sig → argsL.length = sig.parameters.length) (hstack : g.stack = argsL.reverse ++ .ref a :: rest) (hW : 2 * g.monitorRoom + (rest.map fun v => v.category).sum ≤ W)
    (hdg : decode c.code g.pc = .ok (.invokespecial index, 3)) (hpre : ∀ vm₁, s.WarmedH vm₁ → Pre ⟨T.setVm vm₁, locs, cells, slots⟩ (.ref a :: argsL).toArray) :
    ∃ (v : Option Value) (vm₁ : Vm) (B : Pt), s.WarmedH vm₁ ∧ Stand p l e R s m args below meth c B.U B.locs B.cells B.slots ∧ Post ⟨T.setVm vm₁, locs, cells, slots⟩ (.ref a :: argsL).toArray v B ∧
      Steps p.tables e below s₀ (B.U.setTop { g with pc := g.pc + 3, stack := v.toList ++ rest }) := by
  have hinst : (Cond.instanceMethod y).before args s = true := mvT hZ hinstZ
  obtain ⟨objZ, _, hnZ, -⟩ := Cond.instanceMethod_spec hinstZ
  obtain ⟨obj, methO, hnO, hmO, hstO, habO⟩ := Cond.instanceMethod_spec hinst
  obtain ⟨methO', cO, hmO', hcO, hbO, hlO, -, hlockO, -, hsigO⟩ := Cond.code_spec hnO hcode
  cases hmO.symm.trans hmO'
  obtain ⟨kO, hkO, hnameO⟩ := className_of_methodNamed hnO
  obtain ⟨hnameMO, hdescO⟩ := name_of_methodNamed hnO hmO
  have hwarm := X.warmed
  have w' := Cond.methodRef_warmed39 (wtrans hZ hwarm) hnZ hy hlink
  have hcur : (Z.setVm T.vm).vm.findClass own = some m.cls := by
    show T.vm.findClass own = _
    rw [hwarm.alike.findClass]; exact hown
  obtain ⟨mm, c', q1, q2, q3, q4⟩ := Cond.methodRef_named e hcur w'
  have q1' : T.methodFound? y.cls y.name y.desc = some mm := q1
  have nT : T.methodNamed? y = some obj := X.named hnO
  cases (State.methodFound?_of_named nT hy).symm.trans q1'
  have q3' : T.vm.findClass y.cls = some c' := q3
  cases (findClass_of_methodNamed nT).symm.trans q3'
  obtain ⟨kO₂, hkO₂, heO₂⟩ := hwarm.alike.2.2 _ _ hkO
  have hmO₂ : T.vm.method? obj = some methO := by rw [hwarm.alike.method?]; exact hmO
  have hfound : lookupSpecial T.vm obj.cls "<init>" methO.desc = .method obj := by
    rw [hwarm.alike.lookupSpecial, hdescO, ← hy1]; exact lookupSpecial_of_named hnO hmO hstO
  obtain ⟨v, B, X', hpost, hsteps⟩ := hK m meth c ⟨T.setVm T.vm, locs, cells, slots⟩ { g with stack := rest } (.invokespecial index) obj (.ref a :: argsL).toArray X hg hsize hdg hW nT (hpre T.vm hwarm)
  refine ⟨v, T.vm, B, hwarm, X', hpost, hcome.trans ?_⟩
  subst hg
  jvm_step X.here [hexec, hdg, invokespecial.wp_init (e := e) (s := T) (k := kO₂) (meth := methO) (m := obj) (a := a) (args := argsL) (rest := rest) (f := g) X.here.top q4 q2 hkO₂ hmO₂ (by rw [hnameMO]; exact hy1) hstO habO hfound (hlen _ hsigO) hstack]
  intro acts
  rw [doInvoke_state]
  exact hsteps
end OwnRef
theorem own_mvMN {Z s : State} {a0 args : Array Value} {own host : String} {x : MethodName} {index : Nat} (hZ : Z.Warmed39 s.vm) (w : (Jvm.Cond.methodLinkNest own index x host).before a0 Z = true) : (Jvm.Cond.methodLinkNest own index x host).before args s = true := (Cond.methodLinkNest_wide hZ w :)
theorem own_selP {Z s : State} {a0 args : Array Value} {y : MethodName} {n : Nat} (hZ : Z.Warmed39 s.vm) (wi : (Jvm.Cond.instantiable y.cls n).before a0 Z = true) (wp : (Jvm.Cond.privateMethod y).before a0 Z = true) (wn : (Jvm.Cond.instanceMethod y).before a0 Z = true) (hy : y.cls ≠ "java/lang/invoke/MethodHandle" ∧ y.cls ≠ "java/lang/invoke/VarHandle") : (Jvm.Cond.selects y.cls y y).before args s = true := by
  obtain ⟨t', k', g1, g2, g5, g7, -, -⟩ := Cond.instantiable_spec wi
  have g8 : k'.isInterface = false := by cases hq : k'.isInterface <;> simp [hq] at g7 ⊢
  exact mvT hZ (selects_self_of_private g1 g2 g8 (Cond.privateMethod_at wp) wn hy)
theorem own_lremM {tb : Tables} [Ours tb] {e : Env} {below : List Frame} {T target : State} {m : MethodId} {c : Code} {g : JFrame} (h : At T m c below) (hx : tb.exec = Jvm.exec) (hg : g.method = m) {x y : Int64} {rest : List Value} (hd : decode c.code g.pc = .ok (.lrem, 1)) (hs : g.stack = .long y :: .long x :: rest) (hy : y ≠ 0)
    (hr : Steps tb e below (T.setTop { g with pc := g.pc + 1, stack := .long (x % y) :: rest }) target) : Steps tb e below (T.setTop g) target :=
  XS.lrem h hx hg hd hs hy (by rw [lrem_mod]; exact hr)
theorem own_neV {Z : State} {h : Heap} {x b : Addr} {C : String} {n : Nat} {a0 : Array Value} {k : ClassId} {ty : FieldType} {z : Int32} {vs : List Value} {d : Value} (E : Exa Z h x C) (F : Arv Z h b k ty z vs d) (w : (Jvm.Cond.instantiable C n).before a0 Z = true) : x ≠ b := fun q => by
  subst q
  obtain ⟨c1, k1, e1, f1, g1, -⟩ := E
  obtain ⟨c2, ⟨e2, hA, -⟩, -⟩ := F
  cases e1.symm.trans e2
  obtain ⟨t', k', i1, i2, i3, -⟩ := Cond.instantiable_spec w
  cases f1.symm.trans i1
  cases g1.symm.trans i2
  obtain ⟨-, kk, hk, comp, hkind⟩ := hA
  rw [g1] at hk; cases hk; rw [i3] at hkind; cases hkind
theorem own_nameV {Z : State} {h : Heap} {b : Addr} {k : ClassId} {ty : FieldType} {z : Int32} {vs : List Value} {d : Value} (F : Arv Z h b k ty z vs d) : ∃ ys, ys = vs ∧ Arv Z h b k ty z ys d := ⟨_, rfl, F⟩
section OwnCp
variable {p : Program} {l : Launch} {e : Env} {R : Room} {Z s : State} {m : MethodId} {args : Array Value} {below : List Frame} {meth : Method} {c : Code} {T : State} {locs : List Loc} {cells slots : Nat} {h : Heap}
theorem own_cp0 (X : Stand p l e R s m args below meth c T locs cells slots) (hx : p.tables.exec = Jvm.exec) (hZ : Z.Warmed39 s.vm) {a0 : Array Value} {own : String} {index : Nat} (hown : s.vm.findClass own = some m.cls)
    (w1 : (Cond.methodLink own index Jvm.Stand.acN).before a0 Z = true) (w2 : (Cond.native Jvm.Stand.acN).before a0 Z = true) (w3 : (Cond.static Jvm.Stand.acN).before a0 Z = true) (w4 : (Cond.initialized "java/lang/System").before a0 Z = true) (eT : T.heap = h)
    {a b : Addr} {k k' : ClassId} {ty ty' : FieldType} {z z' sp dp : Int32} {vs vd : List Value} {dv dd : Value} (A : Arv Z h a k ty z vs dv) (B : Arv Z h b k' ty' z' vd dd) (hty : (ty = ty' ∧ refKind ty = false) ∨ (refKind ty = true ∧ refKind ty' = true))
    (h1 : ¬ sp < 0) (h2 : ¬ dp < 0) (h4 : sp.toNatClampNeg ≤ z.toNatClampNeg) (h5 : dp.toNatClampNeg ≤ z'.toNatClampNeg)
    {g : JFrame} (hg : g.method = m) (hsize : g.locals.size = c.maxLocals) {rest : List Value} (hs : g.stack = .int 0 :: .int dp :: .ref b :: .int sp :: .ref a :: rest) (hd : decode c.code g.pc = .ok (.invokestatic index, 3))
    (hf : 1 ≤ R.frames) {W : Nat} (hW : 2 * g.monitorRoom + (rest.map fun v => v.category).sum ≤ W) (hlo : W + (nativeFrameWords "java/lang/System" "arraycopy" 5 + 11) ≤ R.locals) :
    ∃ T', Stand p l e R s m args below meth c T' locs cells slots ∧ T'.heap = h ∧ ∀ target, Steps p.tables e below (T'.setTop { g with pc := g.pc + 3, stack := rest }) target → Steps p.tables e below (T.setTop g) target := by
  obtain ⟨cs, As, -, Ss, -, Hs, Gs⟩ := A
  obtain ⟨cd, Ad, qd, Sd, Nd, Hd, Gd⟩ := B
  obtain ⟨os, ks, hks, sc, hsk⟩ := State.isArrayOf_alike hZ.alike As.2.1
  obtain ⟨od, kd, hkd, dc, hdk⟩ := State.isArrayOf_alike hZ.alike Ad.2.1
  have e0 : (0 : Int32).toInt = 0 := rfl
  obtain ⟨vm₁, hwr₁, X', st⟩ := X.arraycopyK (n := (0 : Int32)) hx hown (mvT hZ w1) (mvT hZ w2) (mvT hZ w3) (mvT hZ w4) (by rw [eT]; exact As.1) (by rw [eT]; exact Ad.1) os od As.2.2 Ad.2.2 hks hkd hsk hdk
    (by rcases hty with ⟨rfl, r⟩ | ⟨r1, r2⟩; simp [r]; simp [r1, r2]) h1 h2 (by decide) (by rw [nat_of h1, e0, Ss]; omega) (by rw [nat_of h2, e0, Sd]; omega) (fun vm₁ hw i hi => absurd (show i < 0 from hi) (Nat.not_lt_zero _)) hg hsize hs hd hf (by omega)
  have ec : copied cs cd sp dp (0 : Int32) = cd := rfl
  have el : locs ++ copyLocs b dp.toNatClampNeg (0 : Int32).toNatClampNeg = locs := List.append_nil _
  rw [ec, el] at X'
  rw [ec] at st
  refine ⟨_, X', ?_, st⟩
  show T.heap.setIfInBounds b cd = h
  rw [eT]
  apply Array.ext_getElem?
  intro i
  by_cases u : b = i
  · subst u; rw [Array.getElem?_setIfInBounds_self_of_lt Ad.lt, Ad.1]
  · rw [Array.getElem?_setIfInBounds_ne u]
end OwnCp
theorem own_i0 : (0 : Int32).toInt = 0 := rfl
theorem own_l0 : (0 : Int64).toInt = 0 := rfl
theorem own_l1 : (1 : Int64).toInt = 1 := rfl
theorem own_lt {x y : Int64} (h : x.toInt < y.toInt) : x < y := Int64.lt_iff_toInt_lt.mpr h
theorem own_nl {x y : Int64} (h : y.toInt ≤ x.toInt) : ¬ (x < y) := fun q => by have := Int64.lt_iff_toInt_lt.mp q; omega
theorem own_eqv {x y : Int64} (h : x.toInt = y.toInt) : x = y := Int64.toInt_inj.mp h
theorem own_nev {x y : Int64} (h : ¬ x.toInt = y.toInt) : ¬ (x = y) := fun q => h (congrArg Int64.toInt q)
theorem own_lt3 {x y : Int32} (h : x.toInt < y.toInt) : x < y := Int32.lt_iff_toInt_lt.mpr h
theorem own_nl3 {x y : Int32} (h : y.toInt ≤ x.toInt) : ¬ (x < y) := fun q => by have := Int32.lt_iff_toInt_lt.mp q; omega
theorem own_eqv3 {x y : Int32} (h : x.toInt = y.toInt) : x = y := Int32.toInt_inj.mp h
theorem own_nev3 {x y : Int32} (h : ¬ x.toInt = y.toInt) : ¬ (x = y) := fun q => h (congrArg Int32.toInt q)
theorem own_tlt {x y : Int64} (h : x < y) : x.toInt < y.toInt := Int64.lt_iff_toInt_lt.mp h
theorem own_tnl {x y : Int64} (h : ¬ (x < y)) : y.toInt ≤ x.toInt := by
  have := mt Int64.lt_iff_toInt_lt.mpr h; omega
theorem own_tne {x y : Int64} (h : ¬ (x = y)) : ¬ x.toInt = y.toInt := fun q => h (Int64.toInt_inj.mp q)
theorem own_tlt3 {x y : Int32} (h : x < y) : x.toInt < y.toInt := Int32.lt_iff_toInt_lt.mp h
theorem own_tnl3 {x y : Int32} (h : ¬ (x < y)) : y.toInt ≤ x.toInt := by
  have := mt Int32.lt_iff_toInt_lt.mpr h; omega
theorem own_tne3 {x y : Int32} (h : ¬ (x = y)) : ¬ x.toInt = y.toInt := fun q => h (Int32.toInt_inj.mp q)
theorem own_add {x y : Int64} (h : -9223372036854775808 ≤ x.toInt + y.toInt ∧ x.toInt + y.toInt < 9223372036854775808) : (x + y).toInt = x.toInt + y.toInt := by
  have q := c_ladd x y
  have r := rng64 (x + y)
  omega
theorem own_sub {x y : Int64} (h : -9223372036854775808 ≤ x.toInt - y.toInt ∧ x.toInt - y.toInt < 9223372036854775808) : (x - y).toInt = x.toInt - y.toInt := by
  have q := c_lsub x y
  have r := rng64 (x - y)
  omega
theorem own_add3 {x y : Int32} (h : -2147483648 ≤ x.toInt + y.toInt ∧ x.toInt + y.toInt < 2147483648) : (x + y).toInt = x.toInt + y.toInt := by
  have q := c_iadd x y
  have r := rng32 (x + y)
  omega
theorem own_sub3 {x y : Int32} (h : -2147483648 ≤ x.toInt - y.toInt ∧ x.toInt - y.toInt < 2147483648) : (x - y).toInt = x.toInt - y.toInt := by
  have q := c_isub x y
  have r := rng32 (x - y)
  omega
theorem own_ix {j z : Int32} (h : 0 ≤ j.toInt ∧ j.toInt < z.toInt) : ¬ j < 0 ∧ j < z := by
  rw [Int32.lt_iff_toInt_lt, Int32.lt_iff_toInt_lt, own_i0]; omega
theorem own_in {j z : Int32} {n : Nat} (h : 0 ≤ j.toInt ∧ j.toInt < z.toInt) (hl : n = z.toNatClampNeg) : j.toNatClampNeg < n := by
  simp only [Int32.toNatClampNeg] at *; omega
theorem own_cn {j : Int32} (h : 0 ≤ j.toInt) : ((j.toNatClampNeg : Nat) : Int) = j.toInt := by
  simp only [Int32.toNatClampNeg]; omega
theorem own_and0 (x : Int64) : ((x &&& (-128 : Int64)) &&& (127 : Int64)) = (0 : Int64) := by
  rw [Int64.and_assoc]
  have : ((-128 : Int64) &&& (127 : Int64)) = 0 := by decide
  rw [this]; exact Int64.and_zero
theorem own_andp (x : Int64) : ((x &&& (-128 : Int64)) ||| (x &&& (127 : Int64))) = x := by
  rw [← Int64.toBitVec_inj]
  simp only [Int64.toBitVec_or, Int64.toBitVec_and]
  rw [← BitVec.and_or_distrib_left]
  have : ((-128 : Int64).toBitVec ||| (127 : Int64).toBitVec) = BitVec.allOnes 64 := by decide
  rw [this, BitVec.and_allOnes]
theorem own_hi (x : Int64) (h : 0 ≤ x.toInt) : (x &&& (-128 : Int64)).toInt = x.toInt - x.toInt % 128 := by
  have m0 := c_maskL (x &&& (-128 : Int64)) (127 : Int64) 7 (by decide) (by decide)
  rw [own_and0] at m0
  have m1 := c_maskL x (127 : Int64) 7 (by decide) (by decide)
  have o := c_orL (x &&& (-128 : Int64)) (x &&& (127 : Int64)) 7 (by decide) 128 (by decide) (by rw [own_l0] at m0; simp only [Nat.reducePow] at m0; omega) (by simp only [Nat.reducePow] at m1; omega) (by simp only [Nat.reducePow] at m1; omega)
  rw [own_andp] at o
  have r := rng64 (x &&& (-128 : Int64))
  have r2 := rng64 x
  simp only [Nat.reducePow] at m1
  omega
theorem own_low {x : Int64} (h : 0 ≤ x.toInt ∧ x.toInt < 128) : (x &&& (-128 : Int64)) = (0 : Int64) := by
  have := own_hi x h.1
  exact own_eqv (by rw [own_l0]; omega)
theorem own_low' {x : Int64} (h : 0 ≤ x.toInt) (q : (x &&& (-128 : Int64)) = (0 : Int64)) : x.toInt < 128 := by
  have := own_hi x h
  rw [q, own_l0] at this; omega
theorem own_low'' {x : Int64} (h : 0 ≤ x.toInt) (q : ¬ ((x &&& (-128 : Int64)) = (0 : Int64))) : 128 ≤ x.toInt := by
  have h2 : ¬ (x.toInt < 128) := fun r => q (own_low ⟨h, r⟩)
  omega
theorem own_sh7 {x : Int64} (h : 0 ≤ x.toInt) : ((x.toUInt64 >>> ((7 : Int32) &&& 0x3f).toInt64.toUInt64).toInt64).toInt = x.toInt / 128 := by
  have q := c_lushr x (7 : Int32) 7 (by decide) (by decide)
  have r := rng64 x
  rw [q]; simp only [Nat.reducePow]; omega
theorem own_sh6 {x : Int64} (h : 0 ≤ x.toInt) : ((x.toUInt64 >>> ((6 : Int32) &&& 0x3f).toInt64.toUInt64).toInt64).toInt = x.toInt / 64 := by
  have q := c_lushr x (6 : Int32) 6 (by decide) (by decide)
  have r := rng64 x
  rw [q]; simp only [Nat.reducePow]; omega
theorem own_nb (x : Int32) : (nar .byte x).toInt = (x.toInt + 128) % 256 - 128 := by
  have q := c_i2b x
  show x.toInt8.toInt32.toInt = _
  omega
theorem own_nb2 (x : Int32) : (nar .byte x.toInt8.toInt32).toInt = (x.toInt + 128) % 256 - 128 := by
  have q := c_i2b x
  rw [own_nb]; omega
theorem own_wb1 {r : Int64} (h : 0 ≤ r.toInt) : (nar .byte (((r &&& (127 : Int64)) ||| (128 : Int64)).toInt32.toInt8.toInt32)).toInt = r.toInt % 128 - 128 := by
  rw [own_nb2]
  have m := c_maskL r (127 : Int64) 7 (by decide) (by decide)
  have e : (128 : Int64).toInt = 128 := rfl
  simp only [Nat.reducePow] at m
  have o := c_orL' (r &&& (127 : Int64)) (128 : Int64) 7 (by decide) 128 (by decide) (by rw [e]; rfl) (by omega) (by omega)
  have c := c_l2i ((r &&& (127 : Int64)) ||| (128 : Int64))
  omega
theorem own_wb0 {r : Int64} (h : 0 ≤ r.toInt ∧ r.toInt < 128) : (nar .byte (r.toInt32.toInt8.toInt32)).toInt = r.toInt := by
  rw [own_nb2]
  have c := c_l2i r
  omega
theorem own_wsh {g n : Int64} (h : 1 ≤ g.toInt ∧ g.toInt ≤ 16) (hn : n.toInt = 1) : (nar .byte ((((g - (1 : Int64)) <<< ((3 : Int32) &&& 0x3f).toInt64) ||| (n - (1 : Int64))).toInt32.toInt8.toInt32)).toInt = (g.toInt - 1) * 8 := by
  rw [own_nb2]
  have e1 := own_sub (x := g) (y := (1 : Int64)) (by rw [own_l1]; omega)
  have e2 := own_sub (x := n) (y := (1 : Int64)) (by rw [own_l1]; omega)
  rw [own_l1] at e1 e2
  have s := c_lshl (g - (1 : Int64)) (3 : Int32) 3 (by decide)
  have rs := rng64 ((g - (1 : Int64)) <<< ((3 : Int32) &&& 0x3f).toInt64)
  simp only [Nat.reducePow] at s
  have o := c_orL ((g - (1 : Int64)) <<< ((3 : Int32) &&& 0x3f).toInt64) (n - (1 : Int64)) 3 (by decide) 8 (by decide) (by omega) (by omega) (by omega)
  have c := c_l2i (((g - (1 : Int64)) <<< ((3 : Int32) &&& 0x3f).toInt64) ||| (n - (1 : Int64)))
  omega
theorem own_w1st {u : Int64} (h : 0 ≤ u.toInt) : ((128 : Int32) ||| (u &&& (63 : Int64)).toInt32).toInt = 128 + u.toInt % 64 := by
  have m := c_maskL u (63 : Int64) 6 (by decide) (by decide)
  simp only [Nat.reducePow] at m
  have c := c_l2i (u &&& (63 : Int64))
  have r := rng32 (u &&& (63 : Int64)).toInt32
  have e : (128 : Int32).toInt = 128 := rfl
  have o := c_or (128 : Int32) (u &&& (63 : Int64)).toInt32 6 (by decide) 64 (by decide) (by rw [e]; rfl) (by omega) (by omega)
  have r2 := rng32 ((128 : Int32) ||| (u &&& (63 : Int64)).toInt32)
  omega
theorem own_wmid {u : Int64} (h : 0 ≤ u.toInt ∧ u.toInt < 64) : (nar .byte (((128 : Int32) ||| (u &&& (63 : Int64)).toInt32).toInt8.toInt32)).toInt = u.toInt - 128 := by
  rw [own_nb2, own_w1st h.1]; omega
theorem own_wlong {u : Int64} (h : 0 ≤ u.toInt) : (nar .byte ((((128 : Int32) ||| (u &&& (63 : Int64)).toInt32) ||| (64 : Int32)).toInt8.toInt32)).toInt = u.toInt % 64 - 64 := by
  rw [own_nb2]
  have w := own_w1st h
  have m := c_maskL u (63 : Int64) 6 (by decide) (by decide)
  simp only [Nat.reducePow] at m
  have c := c_l2i (u &&& (63 : Int64))
  have r := rng32 (u &&& (63 : Int64)).toInt32
  have e : (128 : Int32).toInt = 128 := rfl
  have e6 : (64 : Int32).toInt = 64 := rfl
  have e9 : (192 : Int32).toInt = 192 := rfl
  have a : (((128 : Int32) ||| (u &&& (63 : Int64)).toInt32) ||| (64 : Int32)) = (192 : Int32) ||| (u &&& (63 : Int64)).toInt32 := by
    rw [Int32.or_assoc, Int32.or_comm _ (64 : Int32), ← Int32.or_assoc]; rfl
  rw [a]
  have o := c_or (192 : Int32) (u &&& (63 : Int64)).toInt32 6 (by decide) 64 (by decide) (by rw [e9]; rfl) (by omega) (by omega)
  omega
def own_B (vs : List Value) (i : Nat) (b : Int) : Prop := ∃ x : Int32, vs.getD i (.int 0) = .int x ∧ x.toInt = b
def own_W (vs : List Value) : Nat → Nat → Int → Nat → Prop
  | 0, _, _, _ => False
  | k + 1, p, v, q => (0 ≤ v ∧ v < 128 ∧ own_B vs p v ∧ q = p + 1) ∨ (128 ≤ v ∧ own_B vs p (v % 128 - 128) ∧ own_W vs k (p + 1) (v / 128) q)
theorem own_W.cs {vs : List Value} {k p q : Nat} {v : Int} (h : own_W vs (k + 1) p v q) : (0 ≤ v ∧ v < 128 ∧ own_B vs p v ∧ q = p + 1) ∨ (128 ≤ v ∧ own_B vs p (v % 128 - 128) ∧ own_W vs k (p + 1) (v / 128) q) := h
theorem own_W.c1 {vs : List Value} {p q : Nat} {v : Int} (h : own_W vs (0 + 1) p v q) : (0 ≤ v ∧ v < 128 ∧ own_B vs p v ∧ q = p + 1) := h.elim id (fun r => r.2.2.elim)
theorem own_W.lt {vs : List Value} : ∀ {k p q : Nat} {v : Int}, own_W vs k p v q → p < q ∧ 0 ≤ v
  | 0, _, _, _, h => h.elim
  | k + 1, p, q, v, h => by
    rcases h with ⟨h1, -, -, h4⟩ | ⟨h1, -, h3⟩
    · omega
    · have := own_W.lt h3; omega
theorem own_B.agree {vs us : List Value} {i : Nat} {b : Int} (h : own_B vs i b) (a : us.getD i (.int 0) = vs.getD i (.int 0)) : own_B us i b := by
  obtain ⟨x, h1, h2⟩ := h
  exact ⟨x, a.trans h1, h2⟩
theorem own_W.agree {vs us : List Value} : ∀ {k p q : Nat} {v : Int}, own_W vs k p v q → (∀ j, j < q → us.getD j (.int 0) = vs.getD j (.int 0)) → own_W us k p v q
  | 0, _, _, _, h, _ => h.elim
  | k + 1, p, q, v, h, a => by
    have hl := own_W.lt h
    rcases h with ⟨h1, h2, h3, h4⟩ | ⟨h1, h2, h3⟩
    · exact Or.inl ⟨h1, h2, h3.agree (a p hl.1), h4⟩
    · exact Or.inr ⟨h1, h2.agree (a p hl.1), h3.agree a⟩
def own_G (vs us : List Value) (k p pi : Nat) (v vi : Int) : Prop := us.length = vs.length ∧ p ≤ pi ∧ (∀ j, j < p → us.getD j (.int 0) = vs.getD j (.int 0)) ∧ ∀ (ws : List Value) (q : Nat), (∀ j, j < pi → ws.getD j (.int 0) = us.getD j (.int 0)) → own_W ws k pi vi q → own_W ws 9 p v q
def own_D (vs us : List Value) (p : Nat) (v : Int) (q : Nat) : Prop := us.length = vs.length ∧ (∀ j, j < p → us.getD j (.int 0) = vs.getD j (.int 0)) ∧ own_W us 9 p v q
theorem own_G.start (vs : List Value) (p : Nat) (v : Int) : own_G vs vs (8 + 1) p p v v := ⟨rfl, Nat.le_refl _, fun _ _ => rfl, fun _ _ _ h => h⟩
theorem own_gs {us : List Value} {i : Nat} {w : Value} (h : i < us.length) : (us.set i w).getD i (.int 0) = w := by
  simp [List.getD_eq_getElem?_getD, h]
theorem own_gn {us : List Value} {i j : Nat} {w : Value} (h : j < i) : (us.set i w).getD j (.int 0) = us.getD j (.int 0) := by
  simp only [List.getD_eq_getElem?_getD]; rw [List.getElem?_set_ne (by omega)]
theorem own_G.step {vs us : List Value} {k p pi : Nat} {v vi : Int} {x : Int32} (h : own_G vs us (k + 1) p pi v vi) (hv : 128 ≤ vi) (hl : pi < us.length) (hx : x.toInt = vi % 128 - 128) : own_G vs (us.set pi (.int x)) k p (pi + 1) v (vi / 128) := by
  obtain ⟨h1, h2, h3, h4⟩ := h
  refine ⟨by rw [List.length_set]; exact h1, by omega, fun j hj => (own_gn (by omega)).trans (h3 j hj), fun ws q a w => h4 ws q (fun j hj => (a j (by omega)).trans (own_gn hj)) (Or.inr ⟨hv, ⟨x, (a pi (by omega)).trans (own_gs hl), hx⟩, w⟩)⟩
theorem own_G.stop {vs us : List Value} {k p pi : Nat} {v vi : Int} {x : Int32} (h : own_G vs us (k + 1) p pi v vi) (hv : 0 ≤ vi ∧ vi < 128) (hl : pi < us.length) (hx : x.toInt = vi) : own_D vs (us.set pi (.int x)) p v (pi + 1) := by
  obtain ⟨h1, h2, h3, h4⟩ := h
  refine ⟨by rw [List.length_set]; exact h1, fun j hj => (own_gn (by omega)).trans (h3 j hj), h4 _ _ (fun j hj => own_gn hj) (Or.inl ⟨hv.1, hv.2, ⟨x, own_gs hl, hx⟩, rfl⟩)⟩
def own_E (vs : List Value) (q : Nat) (g : Int) : Prop := (1 ≤ g ∧ g ≤ 16 ∧ own_B vs 0 ((g - 1) * 8) ∧ q = 1) ∨ (17 ≤ g ∧ g ≤ 64 ∧ own_B vs 0 (g - 129) ∧ own_W vs 9 1 0 q) ∨ (65 ≤ g ∧ own_B vs 0 ((g - 1) % 64 - 64) ∧ ∃ r, own_W vs 9 1 ((g - 1) / 64) r ∧ own_W vs 9 r 0 q)
theorem own_E.agree {vs us : List Value} {q : Nat} {g : Int} (h : own_E vs q g) (a : ∀ j, j < q → us.getD j (.int 0) = vs.getD j (.int 0)) : own_E us q g := by
  rcases h with ⟨h1, h2, h3, h4⟩ | ⟨h1, h2, h3, h4⟩ | ⟨h1, h2, r, h3, h4⟩
  · exact Or.inl ⟨h1, h2, h3.agree (a 0 (by omega)), h4⟩
  · have := h4.lt; exact Or.inr (Or.inl ⟨h1, h2, h3.agree (a 0 (by omega)), h4.agree a⟩)
  · have l1 := h3.lt
    have l2 := h4.lt
    exact Or.inr (Or.inr ⟨h1, h2.agree (a 0 (by omega)), r, h3.agree (fun j hj => a j (by omega)), h4.agree a⟩)
theorem own_E.short {vs : List Value} {g : Int} {x : Int32} (hg : 1 ≤ g ∧ g ≤ 16) (hl : 0 < vs.length) (hx : x.toInt = (g - 1) * 8) : own_E (vs.set 0 (.int x)) 1 g := Or.inl ⟨hg.1, hg.2, ⟨x, own_gs hl, hx⟩, rfl⟩
theorem own_E.mid {vs us : List Value} {g v : Int} {x : Int32} {q : Nat} (hg : 17 ≤ g ∧ g ≤ 64) (hl : 0 < vs.length) (hx : x.toInt = g - 129) (hv : v = 0) (D : own_D (vs.set 0 (.int x)) us 1 v q) : own_E us q g := by
  subst hv
  exact Or.inr (Or.inl ⟨hg.1, hg.2, ⟨x, (D.2.1 0 (by omega)).trans (own_gs hl), hx⟩, D.2.2⟩)
theorem own_E.long {vs us ts : List Value} {g v w : Int} {x : Int32} {q r : Nat} (hg : 65 ≤ g) (hl : 0 < vs.length) (hx : x.toInt = (g - 1) % 64 - 64) (hw : w = (g - 1) / 64) (hv : v = 0) (D : own_D (vs.set 0 (.int x)) us 1 w r) (F : own_D us ts r v q) : own_E ts q g := by
  subst hv hw
  have l1 := D.2.2.lt
  exact Or.inr (Or.inr ⟨hg, ⟨x, (F.2.1 0 (by omega)).trans ((D.2.1 0 (by omega)).trans (own_gs hl)), hx⟩, r, D.2.2.agree F.2.1, F.2.2⟩)
theorem own_E.pos {vs : List Value} {q : Nat} {g : Int} (h : own_E vs q g) : 0 < q ∧ 1 ≤ g := by
  rcases h with ⟨h1, h2, h3, h4⟩ | ⟨h1, h2, h3, h4⟩ | ⟨h1, h2, r, h3, h4⟩
  · omega
  · have := h4.lt; omega
  · have := h3.lt
    have := h4.lt
    omega
theorem own_fst : ∀ n : Fin 256, ((Int32.ofNat n.val &&& (128 : Int32)) = 0 ↔ n.val < 128) ∧ ((Int32.ofNat n.val &&& (64 : Int32)) = 0 ↔ n.val % 128 < 64) := by decide +kernel
theorem own_on {f : Int32} (h : 0 ≤ f.toInt ∧ f.toInt < 256) : ∃ n : Fin 256, f = Int32.ofNat n.val ∧ f.toInt = n.val := by
  obtain ⟨n, hn⟩ := Int.eq_ofNat_of_zero_le h.1
  have hf : f = Int32.ofNat n := by
    rw [← Int32.ofInt_toInt f, hn]; rfl
  exact ⟨⟨n, by omega⟩, hf, hn⟩
theorem own_a128 {f : Int32} (h : 0 ≤ f.toInt ∧ f.toInt < 256) : (f &&& (128 : Int32)) = 0 ↔ f.toInt < 128 := by
  obtain ⟨n, h1, h2⟩ := own_on h
  rw [h2, h1, (own_fst n).1]; omega
theorem own_a64 {f : Int32} (h : 0 ≤ f.toInt ∧ f.toInt < 256) : (f &&& (64 : Int32)) = 0 ↔ f.toInt % 128 < 64 := by
  obtain ⟨n, h1, h2⟩ := own_on h
  rw [h2, h1, (own_fst n).2]; omega
theorem own_a255 (x : Int32) : (x &&& (255 : Int32)).toInt = x.toInt % 256 := by
  have := c_mask x (255 : Int32) 8 (by decide) (by decide)
  simp only [Nat.reducePow] at this; omega
theorem own_gsh {f : Int32} {g : Int} (h : f.toInt = (g - 1) * 8) (hg : 1 ≤ g ∧ g ≤ 16) : (((f.toUInt32 >>> ((3 : Int32) &&& 31).toUInt32).toInt32) + (1 : Int32)).toInt64.toInt = g := by
  rw [c_i2l]
  have q := c_iushr f (3 : Int32) 3 (by decide) (by decide)
  simp only [Nat.reducePow] at q
  have e : (1 : Int32).toInt = 1 := rfl
  rw [own_add3 (by omega)]; omega
theorem own_lsh {f : Int32} {g : Int} (h : f.toInt = (g - 1) * 8) : ((f &&& (7 : Int32)) + (1 : Int32)).toInt64.toInt = 1 := by
  rw [c_i2l]
  have q := c_mask f (7 : Int32) 3 (by decide) (by decide)
  simp only [Nat.reducePow] at q
  have e : (1 : Int32).toInt = 1 := rfl
  rw [own_add3 (by omega)]; omega
theorem own_a63 (f : Int32) : (f &&& (63 : Int32)).toInt64.toInt = f.toInt % 64 := by
  rw [c_i2l]
  have q := c_mask f (63 : Int32) 6 (by decide) (by decide)
  simp only [Nat.reducePow] at q; omega
theorem own_glong {l r : Int64} (hl : 0 ≤ l.toInt ∧ l.toInt < 64) (hr : 0 ≤ r.toInt ∧ r.toInt < 144115188075855872) : (l ||| (r <<< ((6 : Int32) &&& 0x3f).toInt64)).toInt = l.toInt + 64 * r.toInt := by
  have s := c_lshl r (6 : Int32) 6 (by decide)
  have rs := rng64 (r <<< ((6 : Int32) &&& 0x3f).toInt64)
  simp only [Nat.reducePow] at s
  have o := c_orL' l (r <<< ((6 : Int32) &&& 0x3f).toInt64) 6 (by decide) 64 (by decide) (by omega) (by omega) (by omega)
  have r2 := rng64 (l ||| (r <<< ((6 : Int32) &&& 0x3f).toInt64))
  omega
theorem own_rdk (n : Nat) (hn : 7 * n ≤ 56) (P : Int) (hP : P = (2 ^ (7 * n) : Nat)) (hb : 128 * P ≤ 9223372036854775808) (hp : 1 ≤ P) {val : Int64} {x sh : Int32} {v vi : Int} (hs : sh.toInt = 7 * n) (hv : 0 ≤ v) (hval : val.toInt = v % P) (hx : x.toInt % 128 = (v / P) % 128) : (val ||| ((x &&& (127 : Int32)).toInt64 <<< (sh &&& 0x3f).toInt64)).toInt = v % P + P * ((v / P) % 128) := by
  have m := c_mask x (127 : Int32) 7 (by decide) (by decide)
  simp only [Nat.reducePow] at m
  have m2 : (x &&& (127 : Int32)).toInt64.toInt = (v / P) % 128 := by rw [c_i2l]; omega
  have hk : sh.toBitVec.toNat % 64 = 7 * n := by
    have : sh.toInt = sh.toBitVec.toInt := rfl
    rw [this, BitVec.toInt_eq_toNat_cond] at hs
    have := sh.toBitVec.isLt
    split at hs <;> omega
  have s := c_lshl (x &&& (127 : Int32)).toInt64 sh (7 * n) hk
  rw [← hP, m2] at s
  have rs := rng64 ((x &&& (127 : Int32)).toInt64 <<< (sh &&& 0x3f).toInt64)
  generalize hd : (v / P) % 128 = d at *
  have hd1 : 0 ≤ d ∧ d < 128 := by omega
  have hdm : 0 ≤ d * P := Int.mul_nonneg hd1.1 (by omega)
  have hdn : d * P ≤ 127 * P := Int.mul_le_mul_of_nonneg_right (by omega) (by omega)
  have es : ((x &&& (127 : Int32)).toInt64 <<< (sh &&& 0x3f).toInt64).toInt = d * P := by omega
  have hvm : 0 ≤ v % P ∧ v % P < P := ⟨Int.emod_nonneg _ (by omega), Int.emod_lt_of_pos _ (by omega)⟩
  have o := c_orL' val ((x &&& (127 : Int32)).toInt64 <<< (sh &&& 0x3f).toInt64) (7 * n) (by omega) P hP (by rw [es]; exact Int.mul_emod_left _ _) (by omega) (by omega)
  have r2 := rng64 (val ||| ((x &&& (127 : Int32)).toInt64 <<< (sh &&& 0x3f).toInt64))
  rw [es] at o
  have hc : P * d = d * P := Int.mul_comm _ _
  omega
theorem own_rd {n : Nat} (hn : n ≤ 8) {val : Int64} {x sh : Int32} {v : Int} (hs : sh.toInt = 7 * n) (hv : 0 ≤ v) (hval : val.toInt = v % ((128 ^ n : Nat) : Int)) (hx : x.toInt % 128 = (v / ((128 ^ n : Nat) : Int)) % 128) : (val ||| ((x &&& (127 : Int32)).toInt64 <<< (sh &&& 0x3f).toInt64)).toInt = v % ((128 ^ (n + 1) : Nat) : Int) := by
  have e : (128 ^ n : Nat) = 2 ^ (7 * n) := by rw [Nat.pow_mul]
  have hp : 1 ≤ (128 ^ n : Nat) := Nat.one_le_pow _ _ (by omega)
  have hb : 128 ^ n ≤ 128 ^ 8 := Nat.pow_le_pow_right (by omega) hn
  have hb' : (128 : Nat) ^ 8 = 72057594037927936 := by decide
  rw [own_rdk n (by omega) ((128 ^ n : Nat) : Int) (by rw [e]) (by omega) (by omega) (vi := 0) hs hv hval hx]
  obtain ⟨w, rfl⟩ := Int.eq_ofNat_of_zero_le hv
  have := Nat.mod_mul (x := w) (a := 128 ^ n) (b := 128)
  rw [Nat.pow_succ]
  exact_mod_cast this.symm
theorem own_dv {v : Int} (n : Nat) (hv : 0 ≤ v) : v / ((128 ^ (n + 1) : Nat) : Int) = v / ((128 ^ n : Nat) : Int) / 128 := by
  obtain ⟨w, rfl⟩ := Int.eq_ofNat_of_zero_le hv
  have := Nat.div_div_eq_div_mul w (128 ^ n) 128
  rw [Nat.pow_succ]
  exact_mod_cast this.symm
theorem own_dl {v : Int} (n : Nat) (hv : 0 ≤ v) (h : v / ((128 ^ n : Nat) : Int) < 128) : v % ((128 ^ (n + 1) : Nat) : Int) = v := by
  obtain ⟨w, rfl⟩ := Int.eq_ofNat_of_zero_le hv
  have h' : w / 128 ^ n < 128 := by exact_mod_cast h
  have hp : 0 < 128 ^ n := Nat.pow_pos (by omega)
  have := (Nat.div_lt_iff_lt_mul hp).mp h'
  have h2 : w < 128 ^ (n + 1) := by rw [Nat.pow_succ, Nat.mul_comm]; exact this
  exact_mod_cast Nat.mod_eq_of_lt h2
theorem own_xv {a x : Int64} (h : ((a &&& (9223372036854775807 : Int64)) % (9223372036854775807 : Int64)) = x) : 0 ≤ x.toInt ∧ x.toInt < 9223372036854775807 := by
  have m := c_maskL a (9223372036854775807 : Int64) 63 (by decide) (by decide)
  simp only [Nat.reducePow] at m
  have e : (9223372036854775807 : Int64).toInt = 9223372036854775807 := rfl
  rw [← h, Int64.toInt_mod, e, Int.tmod_eq_emod_of_nonneg (by omega)]
  omega
theorem own_pb {p b : Int32} (h : ((p &&& (1023 : Int32)) + (1 : Int32)) = b) : 1 ≤ b.toInt ∧ b.toInt ≤ 1024 := by
  have m := c_mask p (1023 : Int32) 10 (by decide) (by decide)
  simp only [Nat.reducePow] at m
  have e : (1 : Int32).toInt = 1 := rfl
  rw [← h, own_add3 (by omega)]; omega
theorem own_57 (e : Int32) : (((57 : Int32) + e) - e) = (57 : Int32) := Int32.add_sub_cancel _ _
theorem own_cpl {vs us ws : List Value} {n : Nat} {d : Value} (hu : us = (List.range n).map fun i => vs.getD (0 + i) d) (hw : ws.length = n) : ∀ j, j < n → (ws.take 0 ++ us ++ ws.drop (0 + n)).getD j d = vs.getD j d := by
  intro j hj
  subst hu
  simp [List.getD_eq_getElem?_getD, List.getElem?_append, hj]
theorem own_p7 {r : Int} {k : Nat} (h : r < ((128 ^ (k + 1 + 1) : Nat) : Int)) : r / 128 < ((128 ^ (k + 1) : Nat) : Int) := by
  rw [Nat.pow_succ] at h
  generalize (128 ^ (k + 1) : Nat) = M at *
  omega

def own_bO (Z : State) (h : Heap) (a : Addr) (v0 : Int64) (v1 : Value) (v2 : Int32) (v3 : Int32) : Prop := jE0 Z h a ∧ jF0 Z h a (.long v0) ∧ jF1 Z h a v1 ∧ jF2 Z h a (.int v2) ∧ jF3 Z h a (.int v3)
section OwnBO
variable {Z : State} {a0 : Array Value} {h h' : Heap} {a b : Addr} {sl : Nat} {v : Value} {ws : List Addr} {v0 : Int64} {v1 : Value} {v2 : Int32} {v3 : Int32}
theorem own_bO.E (F : own_bO Z h a v0 v1 v2 v3) : jE0 Z h a := F.1
theorem own_bO.g0 (F : own_bO Z h a v0 v1 v2 v3) : jF0 Z h a (.long v0) := F.2.1
theorem own_bO.g1 (F : own_bO Z h a v0 v1 v2 v3) : jF1 Z h a v1 := F.2.2.1
theorem own_bO.g2 (F : own_bO Z h a v0 v1 v2 v3) : jF2 Z h a (.int v2) := F.2.2.2.1
theorem own_bO.g3 (F : own_bO Z h a v0 v1 v2 v3) : jF3 Z h a (.int v3) := F.2.2.2.2
theorem own_bO.lt (F : own_bO Z h a v0 v1 v2 v3) : a < h.size := F.E.lt
theorem own_bO.ext (F : own_bO Z h a v0 v1 v2 v3) (X : Ext h h') : own_bO Z h' a v0 v1 v2 v3 := ⟨F.E.ext X, F.g0.ext X, F.g1.ext X, F.g2.ext X, F.g3.ext X⟩
theorem own_bO.keep (F : own_bO Z h a v0 v1 v2 v3) (K : Keep h h' ws) (q : a ∉ ws) : own_bO Z h' a v0 v1 v2 v3 := ⟨F.E.keep K, F.g0.keep K q, F.g1.keep K q, F.g2.keep K q, F.g3.keep K q⟩
theorem own_bO.other (F : own_bO Z h a v0 v1 v2 v3) (W : Wr h h' b sl v) (q : a ≠ b) : own_bO Z h' a v0 v1 v2 v3 := ⟨F.E.wr W, F.g0.other W (Or.inl q), F.g1.other W (Or.inl q), F.g2.other W (Or.inl q), F.g3.other W (Or.inl q)⟩
theorem js0 {Z : State} {a0 : Array Value} (hw : own_H a0 Z) : jQ0 Z ≠ jQ1 Z := slot_ne (Or.inl (jk hw 13 rfl)) (Or.inl (jk hw 22 rfl)) (by decide) (t := (.array (.object "com/example/portion/portion/server/OffsetSet$Page"))) (t' := .long) (by decide) (by decide)
theorem js1 {Z : State} {a0 : Array Value} (hw : own_H a0 Z) : jQ2 Z ≠ jQ1 Z := slot_ne (Or.inl (jk hw 41 rfl)) (Or.inl (jk hw 22 rfl)) (by decide) (t := .int) (t' := .long) (by decide) (by decide)
theorem js2 {Z : State} {a0 : Array Value} (hw : own_H a0 Z) : jQ3 Z ≠ jQ1 Z := slot_ne (Or.inr (jk hw 15 rfl)) (Or.inl (jk hw 22 rfl)) (by decide) (t := .int) (t' := .long) (by decide) (by decide)
theorem own_bO.s0 (hw : own_H a0 Z) (F : own_bO Z h a v0 v1 v2 v3) {x : Int64} (W : Wr h h' a (jQ1 Z) (.long x)) : own_bO Z h' a x v1 v2 v3 := ⟨F.E.wr W, F.g0.same W, F.g1.other W (Or.inr (js0 hw)), F.g2.other W (Or.inr (js1 hw)), F.g3.other W (Or.inr (js2 hw))⟩
theorem js3 {Z : State} {a0 : Array Value} (hw : own_H a0 Z) : jQ2 Z ≠ jQ0 Z := slot_ne (Or.inl (jk hw 41 rfl)) (Or.inl (jk hw 13 rfl)) (by decide) (t := .int) (t' := (.array (.object "com/example/portion/portion/server/OffsetSet$Page"))) (by decide) (by decide)
theorem js4 {Z : State} {a0 : Array Value} (hw : own_H a0 Z) : jQ3 Z ≠ jQ0 Z := slot_ne (Or.inr (jk hw 15 rfl)) (Or.inl (jk hw 13 rfl)) (by decide) (t := .int) (t' := (.array (.object "com/example/portion/portion/server/OffsetSet$Page"))) (by decide) (by decide)
theorem own_bO.s1 (hw : own_H a0 Z) (F : own_bO Z h a v0 v1 v2 v3) {x : Value} (W : Wr h h' a (jQ0 Z) x) : own_bO Z h' a v0 x v2 v3 := ⟨F.E.wr W, F.g0.other W (Or.inr (js0 hw).symm), F.g1.same W, F.g2.other W (Or.inr (js3 hw)), F.g3.other W (Or.inr (js4 hw))⟩
theorem js5 {Z : State} {a0 : Array Value} (hw : own_H a0 Z) : jQ3 Z ≠ jQ2 Z := slot_ne (Or.inr (jk hw 15 rfl)) (Or.inl (jk hw 41 rfl)) (by decide) (t := .int) (t' := .int) (by decide) (by decide)
theorem own_bO.s2 (hw : own_H a0 Z) (F : own_bO Z h a v0 v1 v2 v3) {x : Int32} (W : Wr h h' a (jQ2 Z) (.int x)) : own_bO Z h' a v0 v1 x v3 := ⟨F.E.wr W, F.g0.other W (Or.inr (js1 hw).symm), F.g1.other W (Or.inr (js3 hw).symm), F.g2.same W, F.g3.other W (Or.inr (js5 hw))⟩
theorem own_bO.s3 (hw : own_H a0 Z) (F : own_bO Z h a v0 v1 v2 v3) {x : Int32} (W : Wr h h' a (jQ3 Z) (.int x)) : own_bO Z h' a v0 v1 v2 x := ⟨F.E.wr W, F.g0.other W (Or.inr (js2 hw).symm), F.g1.other W (Or.inr (js4 hw).symm), F.g2.other W (Or.inr (js5 hw).symm), F.g3.same W⟩
end OwnBO
def own_bP (Z : State) (h : Heap) (a : Addr) (v0 : Int64) (v1 : Int64) (v2 : Int64) (v3 : Value) (v4 : Int32) (v5 : Int32) (v6 : Int32) (v7 : Int64) (v8 : Int64) (v9 : Int64) : Prop := jE1 Z h a ∧ jF4 Z h a (.long v0) ∧ jF5 Z h a (.long v1) ∧ jF6 Z h a (.long v2) ∧ jF7 Z h a v3 ∧ jF8 Z h a (.int v4) ∧ jF9 Z h a (.int v5) ∧ jF10 Z h a (.int v6) ∧ jF11 Z h a (.long v7) ∧ jF12 Z h a (.long v8) ∧ jF13 Z h a (.long v9)
section OwnBP
variable {Z : State} {a0 : Array Value} {h h' : Heap} {a b : Addr} {sl : Nat} {v : Value} {ws : List Addr} {v0 : Int64} {v1 : Int64} {v2 : Int64} {v3 : Value} {v4 : Int32} {v5 : Int32} {v6 : Int32} {v7 : Int64} {v8 : Int64} {v9 : Int64}
theorem own_bP.E (F : own_bP Z h a v0 v1 v2 v3 v4 v5 v6 v7 v8 v9) : jE1 Z h a := F.1
theorem own_bP.g0 (F : own_bP Z h a v0 v1 v2 v3 v4 v5 v6 v7 v8 v9) : jF4 Z h a (.long v0) := F.2.1
theorem own_bP.g1 (F : own_bP Z h a v0 v1 v2 v3 v4 v5 v6 v7 v8 v9) : jF5 Z h a (.long v1) := F.2.2.1
theorem own_bP.g2 (F : own_bP Z h a v0 v1 v2 v3 v4 v5 v6 v7 v8 v9) : jF6 Z h a (.long v2) := F.2.2.2.1
theorem own_bP.g3 (F : own_bP Z h a v0 v1 v2 v3 v4 v5 v6 v7 v8 v9) : jF7 Z h a v3 := F.2.2.2.2.1
theorem own_bP.g4 (F : own_bP Z h a v0 v1 v2 v3 v4 v5 v6 v7 v8 v9) : jF8 Z h a (.int v4) := F.2.2.2.2.2.1
theorem own_bP.g5 (F : own_bP Z h a v0 v1 v2 v3 v4 v5 v6 v7 v8 v9) : jF9 Z h a (.int v5) := F.2.2.2.2.2.2.1
theorem own_bP.g6 (F : own_bP Z h a v0 v1 v2 v3 v4 v5 v6 v7 v8 v9) : jF10 Z h a (.int v6) := F.2.2.2.2.2.2.2.1
theorem own_bP.g7 (F : own_bP Z h a v0 v1 v2 v3 v4 v5 v6 v7 v8 v9) : jF11 Z h a (.long v7) := F.2.2.2.2.2.2.2.2.1
theorem own_bP.g8 (F : own_bP Z h a v0 v1 v2 v3 v4 v5 v6 v7 v8 v9) : jF12 Z h a (.long v8) := F.2.2.2.2.2.2.2.2.2.1
theorem own_bP.g9 (F : own_bP Z h a v0 v1 v2 v3 v4 v5 v6 v7 v8 v9) : jF13 Z h a (.long v9) := F.2.2.2.2.2.2.2.2.2.2
theorem own_bP.lt (F : own_bP Z h a v0 v1 v2 v3 v4 v5 v6 v7 v8 v9) : a < h.size := F.E.lt
theorem own_bP.ext (F : own_bP Z h a v0 v1 v2 v3 v4 v5 v6 v7 v8 v9) (X : Ext h h') : own_bP Z h' a v0 v1 v2 v3 v4 v5 v6 v7 v8 v9 := ⟨F.E.ext X, F.g0.ext X, F.g1.ext X, F.g2.ext X, F.g3.ext X, F.g4.ext X, F.g5.ext X, F.g6.ext X, F.g7.ext X, F.g8.ext X, F.g9.ext X⟩
theorem own_bP.keep (F : own_bP Z h a v0 v1 v2 v3 v4 v5 v6 v7 v8 v9) (K : Keep h h' ws) (q : a ∉ ws) : own_bP Z h' a v0 v1 v2 v3 v4 v5 v6 v7 v8 v9 := ⟨F.E.keep K, F.g0.keep K q, F.g1.keep K q, F.g2.keep K q, F.g3.keep K q, F.g4.keep K q, F.g5.keep K q, F.g6.keep K q, F.g7.keep K q, F.g8.keep K q, F.g9.keep K q⟩
theorem own_bP.other (F : own_bP Z h a v0 v1 v2 v3 v4 v5 v6 v7 v8 v9) (W : Wr h h' b sl v) (q : a ≠ b) : own_bP Z h' a v0 v1 v2 v3 v4 v5 v6 v7 v8 v9 := ⟨F.E.wr W, F.g0.other W (Or.inl q), F.g1.other W (Or.inl q), F.g2.other W (Or.inl q), F.g3.other W (Or.inl q), F.g4.other W (Or.inl q), F.g5.other W (Or.inl q), F.g6.other W (Or.inl q), F.g7.other W (Or.inl q), F.g8.other W (Or.inl q), F.g9.other W (Or.inl q)⟩
theorem js6 {Z : State} {a0 : Array Value} (hw : own_H a0 Z) : jQ4 Z ≠ jQ5 Z := slot_ne (Or.inl (jk hw 93 rfl)) (Or.inl (jk hw 78 rfl)) (by decide) (t := .long) (t' := .long) (by decide) (by decide)
theorem js7 {Z : State} {a0 : Array Value} (hw : own_H a0 Z) : jQ6 Z ≠ jQ5 Z := slot_ne (Or.inl (jk hw 90 rfl)) (Or.inl (jk hw 78 rfl)) (by decide) (t := .long) (t' := .long) (by decide) (by decide)
theorem js8 {Z : State} {a0 : Array Value} (hw : own_H a0 Z) : jQ7 Z ≠ jQ5 Z := slot_ne (Or.inl (jk hw 64 rfl)) (Or.inl (jk hw 78 rfl)) (by decide) (t := (.array .byte)) (t' := .long) (by decide) (by decide)
theorem js9 {Z : State} {a0 : Array Value} (hw : own_H a0 Z) : jQ8 Z ≠ jQ5 Z := slot_ne (Or.inl (jk hw 130 rfl)) (Or.inl (jk hw 78 rfl)) (by decide) (t := .int) (t' := .long) (by decide) (by decide)
theorem js10 {Z : State} {a0 : Array Value} (hw : own_H a0 Z) : jQ9 Z ≠ jQ5 Z := slot_ne (Or.inl (jk hw 139 rfl)) (Or.inl (jk hw 78 rfl)) (by decide) (t := .int) (t' := .long) (by decide) (by decide)
theorem js11 {Z : State} {a0 : Array Value} (hw : own_H a0 Z) : jQ10 Z ≠ jQ5 Z := slot_ne (Or.inl (jk hw 66 rfl)) (Or.inl (jk hw 78 rfl)) (by decide) (t := .int) (t' := .long) (by decide) (by decide)
theorem js12 {Z : State} {a0 : Array Value} (hw : own_H a0 Z) : jQ11 Z ≠ jQ5 Z := slot_ne (Or.inl (jk hw 172 rfl)) (Or.inl (jk hw 78 rfl)) (by decide) (t := .long) (t' := .long) (by decide) (by decide)
theorem js13 {Z : State} {a0 : Array Value} (hw : own_H a0 Z) : jQ12 Z ≠ jQ5 Z := slot_ne (Or.inl (jk hw 174 rfl)) (Or.inl (jk hw 78 rfl)) (by decide) (t := .long) (t' := .long) (by decide) (by decide)
theorem js14 {Z : State} {a0 : Array Value} (hw : own_H a0 Z) : jQ13 Z ≠ jQ5 Z := slot_ne (Or.inl (jk hw 176 rfl)) (Or.inl (jk hw 78 rfl)) (by decide) (t := .long) (t' := .long) (by decide) (by decide)
theorem own_bP.s0 (hw : own_H a0 Z) (F : own_bP Z h a v0 v1 v2 v3 v4 v5 v6 v7 v8 v9) {x : Int64} (W : Wr h h' a (jQ5 Z) (.long x)) : own_bP Z h' a x v1 v2 v3 v4 v5 v6 v7 v8 v9 := ⟨F.E.wr W, F.g0.same W, F.g1.other W (Or.inr (js6 hw)), F.g2.other W (Or.inr (js7 hw)), F.g3.other W (Or.inr (js8 hw)), F.g4.other W (Or.inr (js9 hw)), F.g5.other W (Or.inr (js10 hw)), F.g6.other W (Or.inr (js11 hw)), F.g7.other W (Or.inr (js12 hw)), F.g8.other W (Or.inr (js13 hw)), F.g9.other W (Or.inr (js14 hw))⟩
theorem js15 {Z : State} {a0 : Array Value} (hw : own_H a0 Z) : jQ6 Z ≠ jQ4 Z := slot_ne (Or.inl (jk hw 90 rfl)) (Or.inl (jk hw 93 rfl)) (by decide) (t := .long) (t' := .long) (by decide) (by decide)
theorem js16 {Z : State} {a0 : Array Value} (hw : own_H a0 Z) : jQ7 Z ≠ jQ4 Z := slot_ne (Or.inl (jk hw 64 rfl)) (Or.inl (jk hw 93 rfl)) (by decide) (t := (.array .byte)) (t' := .long) (by decide) (by decide)
theorem js17 {Z : State} {a0 : Array Value} (hw : own_H a0 Z) : jQ8 Z ≠ jQ4 Z := slot_ne (Or.inl (jk hw 130 rfl)) (Or.inl (jk hw 93 rfl)) (by decide) (t := .int) (t' := .long) (by decide) (by decide)
theorem js18 {Z : State} {a0 : Array Value} (hw : own_H a0 Z) : jQ9 Z ≠ jQ4 Z := slot_ne (Or.inl (jk hw 139 rfl)) (Or.inl (jk hw 93 rfl)) (by decide) (t := .int) (t' := .long) (by decide) (by decide)
theorem js19 {Z : State} {a0 : Array Value} (hw : own_H a0 Z) : jQ10 Z ≠ jQ4 Z := slot_ne (Or.inl (jk hw 66 rfl)) (Or.inl (jk hw 93 rfl)) (by decide) (t := .int) (t' := .long) (by decide) (by decide)
theorem js20 {Z : State} {a0 : Array Value} (hw : own_H a0 Z) : jQ11 Z ≠ jQ4 Z := slot_ne (Or.inl (jk hw 172 rfl)) (Or.inl (jk hw 93 rfl)) (by decide) (t := .long) (t' := .long) (by decide) (by decide)
theorem js21 {Z : State} {a0 : Array Value} (hw : own_H a0 Z) : jQ12 Z ≠ jQ4 Z := slot_ne (Or.inl (jk hw 174 rfl)) (Or.inl (jk hw 93 rfl)) (by decide) (t := .long) (t' := .long) (by decide) (by decide)
theorem js22 {Z : State} {a0 : Array Value} (hw : own_H a0 Z) : jQ13 Z ≠ jQ4 Z := slot_ne (Or.inl (jk hw 176 rfl)) (Or.inl (jk hw 93 rfl)) (by decide) (t := .long) (t' := .long) (by decide) (by decide)
theorem own_bP.s1 (hw : own_H a0 Z) (F : own_bP Z h a v0 v1 v2 v3 v4 v5 v6 v7 v8 v9) {x : Int64} (W : Wr h h' a (jQ4 Z) (.long x)) : own_bP Z h' a v0 x v2 v3 v4 v5 v6 v7 v8 v9 := ⟨F.E.wr W, F.g0.other W (Or.inr (js6 hw).symm), F.g1.same W, F.g2.other W (Or.inr (js15 hw)), F.g3.other W (Or.inr (js16 hw)), F.g4.other W (Or.inr (js17 hw)), F.g5.other W (Or.inr (js18 hw)), F.g6.other W (Or.inr (js19 hw)), F.g7.other W (Or.inr (js20 hw)), F.g8.other W (Or.inr (js21 hw)), F.g9.other W (Or.inr (js22 hw))⟩
theorem js23 {Z : State} {a0 : Array Value} (hw : own_H a0 Z) : jQ7 Z ≠ jQ6 Z := slot_ne (Or.inl (jk hw 64 rfl)) (Or.inl (jk hw 90 rfl)) (by decide) (t := (.array .byte)) (t' := .long) (by decide) (by decide)
theorem js24 {Z : State} {a0 : Array Value} (hw : own_H a0 Z) : jQ8 Z ≠ jQ6 Z := slot_ne (Or.inl (jk hw 130 rfl)) (Or.inl (jk hw 90 rfl)) (by decide) (t := .int) (t' := .long) (by decide) (by decide)
theorem js25 {Z : State} {a0 : Array Value} (hw : own_H a0 Z) : jQ9 Z ≠ jQ6 Z := slot_ne (Or.inl (jk hw 139 rfl)) (Or.inl (jk hw 90 rfl)) (by decide) (t := .int) (t' := .long) (by decide) (by decide)
theorem js26 {Z : State} {a0 : Array Value} (hw : own_H a0 Z) : jQ10 Z ≠ jQ6 Z := slot_ne (Or.inl (jk hw 66 rfl)) (Or.inl (jk hw 90 rfl)) (by decide) (t := .int) (t' := .long) (by decide) (by decide)
theorem js27 {Z : State} {a0 : Array Value} (hw : own_H a0 Z) : jQ11 Z ≠ jQ6 Z := slot_ne (Or.inl (jk hw 172 rfl)) (Or.inl (jk hw 90 rfl)) (by decide) (t := .long) (t' := .long) (by decide) (by decide)
theorem js28 {Z : State} {a0 : Array Value} (hw : own_H a0 Z) : jQ12 Z ≠ jQ6 Z := slot_ne (Or.inl (jk hw 174 rfl)) (Or.inl (jk hw 90 rfl)) (by decide) (t := .long) (t' := .long) (by decide) (by decide)
theorem js29 {Z : State} {a0 : Array Value} (hw : own_H a0 Z) : jQ13 Z ≠ jQ6 Z := slot_ne (Or.inl (jk hw 176 rfl)) (Or.inl (jk hw 90 rfl)) (by decide) (t := .long) (t' := .long) (by decide) (by decide)
theorem own_bP.s2 (hw : own_H a0 Z) (F : own_bP Z h a v0 v1 v2 v3 v4 v5 v6 v7 v8 v9) {x : Int64} (W : Wr h h' a (jQ6 Z) (.long x)) : own_bP Z h' a v0 v1 x v3 v4 v5 v6 v7 v8 v9 := ⟨F.E.wr W, F.g0.other W (Or.inr (js7 hw).symm), F.g1.other W (Or.inr (js15 hw).symm), F.g2.same W, F.g3.other W (Or.inr (js23 hw)), F.g4.other W (Or.inr (js24 hw)), F.g5.other W (Or.inr (js25 hw)), F.g6.other W (Or.inr (js26 hw)), F.g7.other W (Or.inr (js27 hw)), F.g8.other W (Or.inr (js28 hw)), F.g9.other W (Or.inr (js29 hw))⟩
theorem js30 {Z : State} {a0 : Array Value} (hw : own_H a0 Z) : jQ8 Z ≠ jQ7 Z := slot_ne (Or.inl (jk hw 130 rfl)) (Or.inl (jk hw 64 rfl)) (by decide) (t := .int) (t' := (.array .byte)) (by decide) (by decide)
theorem js31 {Z : State} {a0 : Array Value} (hw : own_H a0 Z) : jQ9 Z ≠ jQ7 Z := slot_ne (Or.inl (jk hw 139 rfl)) (Or.inl (jk hw 64 rfl)) (by decide) (t := .int) (t' := (.array .byte)) (by decide) (by decide)
theorem js32 {Z : State} {a0 : Array Value} (hw : own_H a0 Z) : jQ10 Z ≠ jQ7 Z := slot_ne (Or.inl (jk hw 66 rfl)) (Or.inl (jk hw 64 rfl)) (by decide) (t := .int) (t' := (.array .byte)) (by decide) (by decide)
theorem js33 {Z : State} {a0 : Array Value} (hw : own_H a0 Z) : jQ11 Z ≠ jQ7 Z := slot_ne (Or.inl (jk hw 172 rfl)) (Or.inl (jk hw 64 rfl)) (by decide) (t := .long) (t' := (.array .byte)) (by decide) (by decide)
theorem js34 {Z : State} {a0 : Array Value} (hw : own_H a0 Z) : jQ12 Z ≠ jQ7 Z := slot_ne (Or.inl (jk hw 174 rfl)) (Or.inl (jk hw 64 rfl)) (by decide) (t := .long) (t' := (.array .byte)) (by decide) (by decide)
theorem js35 {Z : State} {a0 : Array Value} (hw : own_H a0 Z) : jQ13 Z ≠ jQ7 Z := slot_ne (Or.inl (jk hw 176 rfl)) (Or.inl (jk hw 64 rfl)) (by decide) (t := .long) (t' := (.array .byte)) (by decide) (by decide)
theorem own_bP.s3 (hw : own_H a0 Z) (F : own_bP Z h a v0 v1 v2 v3 v4 v5 v6 v7 v8 v9) {x : Value} (W : Wr h h' a (jQ7 Z) x) : own_bP Z h' a v0 v1 v2 x v4 v5 v6 v7 v8 v9 := ⟨F.E.wr W, F.g0.other W (Or.inr (js8 hw).symm), F.g1.other W (Or.inr (js16 hw).symm), F.g2.other W (Or.inr (js23 hw).symm), F.g3.same W, F.g4.other W (Or.inr (js30 hw)), F.g5.other W (Or.inr (js31 hw)), F.g6.other W (Or.inr (js32 hw)), F.g7.other W (Or.inr (js33 hw)), F.g8.other W (Or.inr (js34 hw)), F.g9.other W (Or.inr (js35 hw))⟩
theorem js36 {Z : State} {a0 : Array Value} (hw : own_H a0 Z) : jQ9 Z ≠ jQ8 Z := slot_ne (Or.inl (jk hw 139 rfl)) (Or.inl (jk hw 130 rfl)) (by decide) (t := .int) (t' := .int) (by decide) (by decide)
theorem js37 {Z : State} {a0 : Array Value} (hw : own_H a0 Z) : jQ10 Z ≠ jQ8 Z := slot_ne (Or.inl (jk hw 66 rfl)) (Or.inl (jk hw 130 rfl)) (by decide) (t := .int) (t' := .int) (by decide) (by decide)
theorem js38 {Z : State} {a0 : Array Value} (hw : own_H a0 Z) : jQ11 Z ≠ jQ8 Z := slot_ne (Or.inl (jk hw 172 rfl)) (Or.inl (jk hw 130 rfl)) (by decide) (t := .long) (t' := .int) (by decide) (by decide)
theorem js39 {Z : State} {a0 : Array Value} (hw : own_H a0 Z) : jQ12 Z ≠ jQ8 Z := slot_ne (Or.inl (jk hw 174 rfl)) (Or.inl (jk hw 130 rfl)) (by decide) (t := .long) (t' := .int) (by decide) (by decide)
theorem js40 {Z : State} {a0 : Array Value} (hw : own_H a0 Z) : jQ13 Z ≠ jQ8 Z := slot_ne (Or.inl (jk hw 176 rfl)) (Or.inl (jk hw 130 rfl)) (by decide) (t := .long) (t' := .int) (by decide) (by decide)
theorem own_bP.s4 (hw : own_H a0 Z) (F : own_bP Z h a v0 v1 v2 v3 v4 v5 v6 v7 v8 v9) {x : Int32} (W : Wr h h' a (jQ8 Z) (.int x)) : own_bP Z h' a v0 v1 v2 v3 x v5 v6 v7 v8 v9 := ⟨F.E.wr W, F.g0.other W (Or.inr (js9 hw).symm), F.g1.other W (Or.inr (js17 hw).symm), F.g2.other W (Or.inr (js24 hw).symm), F.g3.other W (Or.inr (js30 hw).symm), F.g4.same W, F.g5.other W (Or.inr (js36 hw)), F.g6.other W (Or.inr (js37 hw)), F.g7.other W (Or.inr (js38 hw)), F.g8.other W (Or.inr (js39 hw)), F.g9.other W (Or.inr (js40 hw))⟩
theorem js41 {Z : State} {a0 : Array Value} (hw : own_H a0 Z) : jQ10 Z ≠ jQ9 Z := slot_ne (Or.inl (jk hw 66 rfl)) (Or.inl (jk hw 139 rfl)) (by decide) (t := .int) (t' := .int) (by decide) (by decide)
theorem js42 {Z : State} {a0 : Array Value} (hw : own_H a0 Z) : jQ11 Z ≠ jQ9 Z := slot_ne (Or.inl (jk hw 172 rfl)) (Or.inl (jk hw 139 rfl)) (by decide) (t := .long) (t' := .int) (by decide) (by decide)
theorem js43 {Z : State} {a0 : Array Value} (hw : own_H a0 Z) : jQ12 Z ≠ jQ9 Z := slot_ne (Or.inl (jk hw 174 rfl)) (Or.inl (jk hw 139 rfl)) (by decide) (t := .long) (t' := .int) (by decide) (by decide)
theorem js44 {Z : State} {a0 : Array Value} (hw : own_H a0 Z) : jQ13 Z ≠ jQ9 Z := slot_ne (Or.inl (jk hw 176 rfl)) (Or.inl (jk hw 139 rfl)) (by decide) (t := .long) (t' := .int) (by decide) (by decide)
theorem own_bP.s5 (hw : own_H a0 Z) (F : own_bP Z h a v0 v1 v2 v3 v4 v5 v6 v7 v8 v9) {x : Int32} (W : Wr h h' a (jQ9 Z) (.int x)) : own_bP Z h' a v0 v1 v2 v3 v4 x v6 v7 v8 v9 := ⟨F.E.wr W, F.g0.other W (Or.inr (js10 hw).symm), F.g1.other W (Or.inr (js18 hw).symm), F.g2.other W (Or.inr (js25 hw).symm), F.g3.other W (Or.inr (js31 hw).symm), F.g4.other W (Or.inr (js36 hw).symm), F.g5.same W, F.g6.other W (Or.inr (js41 hw)), F.g7.other W (Or.inr (js42 hw)), F.g8.other W (Or.inr (js43 hw)), F.g9.other W (Or.inr (js44 hw))⟩
theorem js45 {Z : State} {a0 : Array Value} (hw : own_H a0 Z) : jQ11 Z ≠ jQ10 Z := slot_ne (Or.inl (jk hw 172 rfl)) (Or.inl (jk hw 66 rfl)) (by decide) (t := .long) (t' := .int) (by decide) (by decide)
theorem js46 {Z : State} {a0 : Array Value} (hw : own_H a0 Z) : jQ12 Z ≠ jQ10 Z := slot_ne (Or.inl (jk hw 174 rfl)) (Or.inl (jk hw 66 rfl)) (by decide) (t := .long) (t' := .int) (by decide) (by decide)
theorem js47 {Z : State} {a0 : Array Value} (hw : own_H a0 Z) : jQ13 Z ≠ jQ10 Z := slot_ne (Or.inl (jk hw 176 rfl)) (Or.inl (jk hw 66 rfl)) (by decide) (t := .long) (t' := .int) (by decide) (by decide)
theorem own_bP.s6 (hw : own_H a0 Z) (F : own_bP Z h a v0 v1 v2 v3 v4 v5 v6 v7 v8 v9) {x : Int32} (W : Wr h h' a (jQ10 Z) (.int x)) : own_bP Z h' a v0 v1 v2 v3 v4 v5 x v7 v8 v9 := ⟨F.E.wr W, F.g0.other W (Or.inr (js11 hw).symm), F.g1.other W (Or.inr (js19 hw).symm), F.g2.other W (Or.inr (js26 hw).symm), F.g3.other W (Or.inr (js32 hw).symm), F.g4.other W (Or.inr (js37 hw).symm), F.g5.other W (Or.inr (js41 hw).symm), F.g6.same W, F.g7.other W (Or.inr (js45 hw)), F.g8.other W (Or.inr (js46 hw)), F.g9.other W (Or.inr (js47 hw))⟩
theorem js48 {Z : State} {a0 : Array Value} (hw : own_H a0 Z) : jQ12 Z ≠ jQ11 Z := slot_ne (Or.inl (jk hw 174 rfl)) (Or.inl (jk hw 172 rfl)) (by decide) (t := .long) (t' := .long) (by decide) (by decide)
theorem js49 {Z : State} {a0 : Array Value} (hw : own_H a0 Z) : jQ13 Z ≠ jQ11 Z := slot_ne (Or.inl (jk hw 176 rfl)) (Or.inl (jk hw 172 rfl)) (by decide) (t := .long) (t' := .long) (by decide) (by decide)
theorem own_bP.s7 (hw : own_H a0 Z) (F : own_bP Z h a v0 v1 v2 v3 v4 v5 v6 v7 v8 v9) {x : Int64} (W : Wr h h' a (jQ11 Z) (.long x)) : own_bP Z h' a v0 v1 v2 v3 v4 v5 v6 x v8 v9 := ⟨F.E.wr W, F.g0.other W (Or.inr (js12 hw).symm), F.g1.other W (Or.inr (js20 hw).symm), F.g2.other W (Or.inr (js27 hw).symm), F.g3.other W (Or.inr (js33 hw).symm), F.g4.other W (Or.inr (js38 hw).symm), F.g5.other W (Or.inr (js42 hw).symm), F.g6.other W (Or.inr (js45 hw).symm), F.g7.same W, F.g8.other W (Or.inr (js48 hw)), F.g9.other W (Or.inr (js49 hw))⟩
theorem js50 {Z : State} {a0 : Array Value} (hw : own_H a0 Z) : jQ13 Z ≠ jQ12 Z := slot_ne (Or.inl (jk hw 176 rfl)) (Or.inl (jk hw 174 rfl)) (by decide) (t := .long) (t' := .long) (by decide) (by decide)
theorem own_bP.s8 (hw : own_H a0 Z) (F : own_bP Z h a v0 v1 v2 v3 v4 v5 v6 v7 v8 v9) {x : Int64} (W : Wr h h' a (jQ12 Z) (.long x)) : own_bP Z h' a v0 v1 v2 v3 v4 v5 v6 v7 x v9 := ⟨F.E.wr W, F.g0.other W (Or.inr (js13 hw).symm), F.g1.other W (Or.inr (js21 hw).symm), F.g2.other W (Or.inr (js28 hw).symm), F.g3.other W (Or.inr (js34 hw).symm), F.g4.other W (Or.inr (js39 hw).symm), F.g5.other W (Or.inr (js43 hw).symm), F.g6.other W (Or.inr (js46 hw).symm), F.g7.other W (Or.inr (js48 hw).symm), F.g8.same W, F.g9.other W (Or.inr (js50 hw))⟩
theorem own_bP.s9 (hw : own_H a0 Z) (F : own_bP Z h a v0 v1 v2 v3 v4 v5 v6 v7 v8 v9) {x : Int64} (W : Wr h h' a (jQ13 Z) (.long x)) : own_bP Z h' a v0 v1 v2 v3 v4 v5 v6 v7 v8 x := ⟨F.E.wr W, F.g0.other W (Or.inr (js14 hw).symm), F.g1.other W (Or.inr (js22 hw).symm), F.g2.other W (Or.inr (js29 hw).symm), F.g3.other W (Or.inr (js35 hw).symm), F.g4.other W (Or.inr (js40 hw).symm), F.g5.other W (Or.inr (js44 hw).symm), F.g6.other W (Or.inr (js47 hw).symm), F.g7.other W (Or.inr (js49 hw).symm), F.g8.other W (Or.inr (js50 hw).symm), F.g9.same W⟩
end OwnBP
def own_bR (Z : State) (h : Heap) (a : Addr) (v0 : Value) (v1 : Int64) (v2 : Int64) (v3 : Int32) : Prop := jE2 Z h a ∧ jF14 Z h a v0 ∧ jF15 Z h a (.long v1) ∧ jF16 Z h a (.long v2) ∧ jF17 Z h a (.int v3)
section OwnBR
variable {Z : State} {a0 : Array Value} {h h' : Heap} {a b : Addr} {sl : Nat} {v : Value} {ws : List Addr} {v0 : Value} {v1 : Int64} {v2 : Int64} {v3 : Int32}
theorem own_bR.E (F : own_bR Z h a v0 v1 v2 v3) : jE2 Z h a := F.1
theorem own_bR.g0 (F : own_bR Z h a v0 v1 v2 v3) : jF14 Z h a v0 := F.2.1
theorem own_bR.g1 (F : own_bR Z h a v0 v1 v2 v3) : jF15 Z h a (.long v1) := F.2.2.1
theorem own_bR.g2 (F : own_bR Z h a v0 v1 v2 v3) : jF16 Z h a (.long v2) := F.2.2.2.1
theorem own_bR.g3 (F : own_bR Z h a v0 v1 v2 v3) : jF17 Z h a (.int v3) := F.2.2.2.2
theorem own_bR.lt (F : own_bR Z h a v0 v1 v2 v3) : a < h.size := F.E.lt
theorem own_bR.ext (F : own_bR Z h a v0 v1 v2 v3) (X : Ext h h') : own_bR Z h' a v0 v1 v2 v3 := ⟨F.E.ext X, F.g0.ext X, F.g1.ext X, F.g2.ext X, F.g3.ext X⟩
theorem own_bR.keep (F : own_bR Z h a v0 v1 v2 v3) (K : Keep h h' ws) (q : a ∉ ws) : own_bR Z h' a v0 v1 v2 v3 := ⟨F.E.keep K, F.g0.keep K q, F.g1.keep K q, F.g2.keep K q, F.g3.keep K q⟩
theorem own_bR.other (F : own_bR Z h a v0 v1 v2 v3) (W : Wr h h' b sl v) (q : a ≠ b) : own_bR Z h' a v0 v1 v2 v3 := ⟨F.E.wr W, F.g0.other W (Or.inl q), F.g1.other W (Or.inl q), F.g2.other W (Or.inl q), F.g3.other W (Or.inl q)⟩
theorem js51 {Z : State} {a0 : Array Value} (hw : own_H a0 Z) : jQ14 Z ≠ jQ15 Z := slot_ne (Or.inl (jk hw 125 rfl)) (Or.inr (jk hw 121 rfl)) (by decide) (t := .long) (t' := (.object "com/example/portion/portion/server/OffsetSet$Page")) (by decide) (by decide)
theorem js52 {Z : State} {a0 : Array Value} (hw : own_H a0 Z) : jQ16 Z ≠ jQ15 Z := slot_ne (Or.inl (jk hw 128 rfl)) (Or.inr (jk hw 121 rfl)) (by decide) (t := .long) (t' := (.object "com/example/portion/portion/server/OffsetSet$Page")) (by decide) (by decide)
theorem js53 {Z : State} {a0 : Array Value} (hw : own_H a0 Z) : jQ17 Z ≠ jQ15 Z := slot_ne (Or.inl (jk hw 132 rfl)) (Or.inr (jk hw 121 rfl)) (by decide) (t := .int) (t' := (.object "com/example/portion/portion/server/OffsetSet$Page")) (by decide) (by decide)
theorem own_bR.s0 (hw : own_H a0 Z) (F : own_bR Z h a v0 v1 v2 v3) {x : Value} (W : Wr h h' a (jQ15 Z) x) : own_bR Z h' a x v1 v2 v3 := ⟨F.E.wr W, F.g0.same W, F.g1.other W (Or.inr (js51 hw)), F.g2.other W (Or.inr (js52 hw)), F.g3.other W (Or.inr (js53 hw))⟩
theorem js54 {Z : State} {a0 : Array Value} (hw : own_H a0 Z) : jQ16 Z ≠ jQ14 Z := slot_ne (Or.inl (jk hw 128 rfl)) (Or.inl (jk hw 125 rfl)) (by decide) (t := .long) (t' := .long) (by decide) (by decide)
theorem js55 {Z : State} {a0 : Array Value} (hw : own_H a0 Z) : jQ17 Z ≠ jQ14 Z := slot_ne (Or.inl (jk hw 132 rfl)) (Or.inl (jk hw 125 rfl)) (by decide) (t := .int) (t' := .long) (by decide) (by decide)
theorem own_bR.s1 (hw : own_H a0 Z) (F : own_bR Z h a v0 v1 v2 v3) {x : Int64} (W : Wr h h' a (jQ14 Z) (.long x)) : own_bR Z h' a v0 x v2 v3 := ⟨F.E.wr W, F.g0.other W (Or.inr (js51 hw).symm), F.g1.same W, F.g2.other W (Or.inr (js54 hw)), F.g3.other W (Or.inr (js55 hw))⟩
theorem js56 {Z : State} {a0 : Array Value} (hw : own_H a0 Z) : jQ17 Z ≠ jQ16 Z := slot_ne (Or.inl (jk hw 132 rfl)) (Or.inl (jk hw 128 rfl)) (by decide) (t := .int) (t' := .long) (by decide) (by decide)
theorem own_bR.s2 (hw : own_H a0 Z) (F : own_bR Z h a v0 v1 v2 v3) {x : Int64} (W : Wr h h' a (jQ16 Z) (.long x)) : own_bR Z h' a v0 v1 x v3 := ⟨F.E.wr W, F.g0.other W (Or.inr (js52 hw).symm), F.g1.other W (Or.inr (js54 hw).symm), F.g2.same W, F.g3.other W (Or.inr (js56 hw))⟩
theorem own_bR.s3 (hw : own_H a0 Z) (F : own_bR Z h a v0 v1 v2 v3) {x : Int32} (W : Wr h h' a (jQ17 Z) (.int x)) : own_bR Z h' a v0 v1 v2 x := ⟨F.E.wr W, F.g0.other W (Or.inr (js53 hw).symm), F.g1.other W (Or.inr (js55 hw).symm), F.g2.other W (Or.inr (js56 hw).symm), F.g3.same W⟩
end OwnBR
theorem e6_0 : jD0 0 (.lload_n 0, 1) ∧ jD0 1 (.lconst 0, 1) ∧ jD0 2 (.lcmp, 1) ∧ jD0 3 (.ifCond .lt 9, 3) := by decide +kernel
theorem e6_6 : jD0 6 (.lload_n 2, 1) ∧ jD0 7 (.lload_n 0, 1) ∧ jD0 8 (.lcmp, 1) ∧ jD0 9 (.ifCond .gt 18, 3) := by decide +kernel
theorem d6_27 : jD0 27 (.return_, 1) := by decide +kernel
theorem own_pn_com_example_portion_portion_server_OffsetSet : plainName "com/example/portion/portion/server/OffsetSet" = true := by first | (simp [plainName, overriddenIn]; done) | decide +kernel
theorem own_ef_rm_req (mM : MethodId) (x0 : Int64) (x1 : Int64) : entryFrame mM #[(.long x0), (.long x1)] 4 = mkF mM 0 #[.val (.long x0), .second, .val (.long x1), .second] [] := by first | (simp [entryFrame, mkF, argsToLocals, Value.category]; done) | rfl
def Q_rm_req (Z : State) (f : Int64) (t : Int64) (h0 : Heap) (n0 : Nat) (vV : Option Value) (hH : Heap) (lA : List Loc) : Prop := vV = none ∧ Fr n0 lA ∧ (hH = h0)
theorem rm_req (lL : Launch) (Z : State) (a0 : Array Value) (hw : own_H a0 Z) (ws : List Jvm.Cond) (f : Int64) (t : Int64) (h0 : Heap) (n0 : Nat) (Z0 : n0 ≤ h0.size) (c1 : 0 ≤ f.toInt) (c2 : f.toInt < t.toInt) :
    own_Met lL jy0 (Jvm.Cond.code jy0 prog_38_method_16_code 4 none :: ws) jr0 #[(.long f), (.long t)] Z h0 (Q_rm_req Z f t h0 n0) := by
  refine own_begin (plainFor_of_name own_pn_com_example_portion_portion_server_OffsetSet) (fun mM => own_ef_rm_req mM f t) fun pP eE sS mM below meth cC s₁ hx hby hml hZ hown hnm hre hlk X0 e0 => ?_
  have hC := @Jvm.hb _ _ hby
  have N0 := Fr.nil n0
  have K0 := Keep.refl h0 ([] : List Addr)
  let ll1 : Array Slot := #[vJ f, vS, vJ t, vS]
  refine jg s₁ mM 3 ll1 [(.int (lcmpW f (0 : Int64)))] (fun tT kK => ?_) ?_
  · refine XS.lloadN X0.here hx rfl (hC e6_0.1) rfl ?_
    refine XS.lconst X0.here hx rfl (hC e6_0.2.1) ?_
    refine XS.lcmp X0.here hx rfl (hC e6_0.2.2.1) rfl ?_
    exact kK
  have t1_ : (0 : Int64).toInt = 0 := rfl
  refine jg s₁ mM 27 ll1 [] (fun tT kK => ?_) ?_
  · refine XS.ifNo X0.here hx rfl (hC e6_0.2.2.2) rfl ((if0 _ _).trans (flt (mt (lw_lt f (0 : Int64)).mp ((own_nl (by omega)) : ¬ (f < (0 : Int64))))).1) ?_
    refine XS.lloadN X0.here hx rfl (hC e6_6.1) rfl ?_
    refine XS.lloadN X0.here hx rfl (hC e6_6.2.1) rfl ?_
    refine XS.lcmp X0.here hx rfl (hC e6_6.2.2.1) rfl ?_
    refine XS.ifYes X0.here hx rfl (pc0 := 9) (pc' := 27) rfl (hC e6_6.2.2.2) rfl ((if0 _ _).trans (tlt ((lw_gt t f).mpr ((own_lt (by omega)) : f < t))).2.2.1) (by decide) (by decide) ?_
    exact kK
  exact own_rV X0 hx hlk hre (hC d6_27) e0 (by decide) (by decide) ⟨rfl, N0, rfl⟩
theorem e8_0 : jD1 0 (.iload_n 0, 1) ∧ jD1 1 (.iload_n 1, 1) ∧ jD1 2 (.if_icmp .lt 7, 3) ∧ jD1 5 (.iload_n 0, 1) := by decide +kernel
theorem e8_6 : jD1 6 (.goto 4, 3) ∧ jD1 10 (.ireturn, 1) := by decide +kernel
theorem own_ef_rm_mxa (mM : MethodId) (x0 : Int32) (x1 : Int32) : entryFrame mM #[(.int x0), (.int x1)] 2 = mkF mM 0 #[.val (.int x0), .val (.int x1)] [] := by first | (simp [entryFrame, mkF, argsToLocals, Value.category]; done) | rfl
def Q_rm_mxa (Z : State)  (h0 : Heap) (n0 : Nat) (vV : Option Value) (hH : Heap) (lA : List Loc) : Prop := vV = some (.int 0) ∧ Fr n0 lA ∧ (hH = h0)
theorem rm_mxa (lL : Launch) (Z : State) (a0 : Array Value) (hw : own_H a0 Z) (ws : List Jvm.Cond)  (h0 : Heap) (n0 : Nat) (Z0 : n0 ≤ h0.size) :
    own_Met lL jy1 (Jvm.Cond.code jy1 jdk_29_method_65_code 2 (some .int) :: ws) jr0 #[(.int 0), (.int (-1))] Z h0 (Q_rm_mxa Z  h0 n0) := by
  refine own_begin (Jvm.Free.JP.mathPlain rfl (by decide +kernel)) (fun mM => own_ef_rm_mxa mM (0 : Int32) (-1 : Int32)) fun pP eE sS mM below meth cC s₁ hx hby hml hZ hown hnm hre hlk X0 e0 => ?_
  have hC := @Jvm.hb _ _ hby
  have N0 := Fr.nil n0
  have K0 := Keep.refl h0 ([] : List Addr)
  let ll1 : Array Slot := #[vI 0, vI (-1)]
  refine jg s₁ mM 10 ll1 [(.int 0)] (fun tT kK => ?_) ?_
  · refine XS.iloadN X0.here hx rfl (hC e8_0.1) rfl ?_
    refine XS.iloadN X0.here hx rfl (hC e8_0.2.1) rfl ?_
    refine XS.icmpNo X0.here hx rfl (hC e8_0.2.2.1) rfl (flt ((by decide) : ¬ ((0 : Int32) < (-1 : Int32)))).1 ?_
    refine XS.iloadN X0.here hx rfl (hC e8_0.2.2.2) rfl ?_
    refine XS.goto X0.here hx rfl (pc0 := 6) (pc' := 10) rfl (hC e8_6.1) (by decide) (by decide) ?_
    exact kK
  exact own_rr X0 hx hlk hre rfl (Or.inl ⟨rfl, Or.inl rfl, _, rfl⟩) (hC e8_6.2) e0 (by decide) (by decide) ⟨rfl, N0, rfl⟩
theorem own_ef_rm_mxb (mM : MethodId) (x0 : Int32) (x1 : Int32) : entryFrame mM #[(.int x0), (.int x1)] 2 = mkF mM 0 #[.val (.int x0), .val (.int x1)] [] := by first | (simp [entryFrame, mkF, argsToLocals, Value.category]; done) | rfl
def Q_rm_mxb (Z : State)  (h0 : Heap) (n0 : Nat) (vV : Option Value) (hH : Heap) (lA : List Loc) : Prop := vV = some (.int 0) ∧ Fr n0 lA ∧ (hH = h0)
theorem rm_mxb (lL : Launch) (Z : State) (a0 : Array Value) (hw : own_H a0 Z) (ws : List Jvm.Cond)  (h0 : Heap) (n0 : Nat) (Z0 : n0 ≤ h0.size) :
    own_Met lL jy1 (Jvm.Cond.code jy1 jdk_29_method_65_code 2 (some .int) :: ws) jr0 #[(.int 0), (.int 0)] Z h0 (Q_rm_mxb Z  h0 n0) := by
  refine own_begin (Jvm.Free.JP.mathPlain rfl (by decide +kernel)) (fun mM => own_ef_rm_mxb mM (0 : Int32) (0 : Int32)) fun pP eE sS mM below meth cC s₁ hx hby hml hZ hown hnm hre hlk X0 e0 => ?_
  have hC := @Jvm.hb _ _ hby
  have N0 := Fr.nil n0
  have K0 := Keep.refl h0 ([] : List Addr)
  let ll1 : Array Slot := #[vI 0, vI 0]
  refine jg s₁ mM 10 ll1 [(.int 0)] (fun tT kK => ?_) ?_
  · refine XS.iloadN X0.here hx rfl (hC e8_0.1) rfl ?_
    refine XS.iloadN X0.here hx rfl (hC e8_0.2.1) rfl ?_
    refine XS.icmpNo X0.here hx rfl (hC e8_0.2.2.1) rfl (flt ((by decide) : ¬ ((0 : Int32) < (0 : Int32)))).1 ?_
    refine XS.iloadN X0.here hx rfl (hC e8_0.2.2.2) rfl ?_
    refine XS.goto X0.here hx rfl (pc0 := 6) (pc' := 10) rfl (hC e8_6.1) (by decide) (by decide) ?_
    exact kK
  exact own_rr X0 hx hlk hre rfl (Or.inl ⟨rfl, Or.inl rfl, _, rfl⟩) (hC e8_6.2) e0 (by decide) (by decide) ⟨rfl, N0, rfl⟩
theorem d8_9 : jD1 9 (.iload_n 1, 1) := by decide +kernel
theorem own_ef_rm_mxc (mM : MethodId) (x0 : Int32) (x1 : Int32) : entryFrame mM #[(.int x0), (.int x1)] 2 = mkF mM 0 #[.val (.int x0), .val (.int x1)] [] := by first | (simp [entryFrame, mkF, argsToLocals, Value.category]; done) | rfl
def Q_rm_mxc (Z : State)  (h0 : Heap) (n0 : Nat) (vV : Option Value) (hH : Heap) (lA : List Loc) : Prop := vV = some (.int 28) ∧ Fr n0 lA ∧ (hH = h0)
theorem rm_mxc (lL : Launch) (Z : State) (a0 : Array Value) (hw : own_H a0 Z) (ws : List Jvm.Cond)  (h0 : Heap) (n0 : Nat) (Z0 : n0 ≤ h0.size) :
    own_Met lL jy1 (Jvm.Cond.code jy1 jdk_29_method_65_code 2 (some .int) :: ws) jr0 #[(.int 16), (.int 28)] Z h0 (Q_rm_mxc Z  h0 n0) := by
  refine own_begin (Jvm.Free.JP.mathPlain rfl (by decide +kernel)) (fun mM => own_ef_rm_mxc mM (16 : Int32) (28 : Int32)) fun pP eE sS mM below meth cC s₁ hx hby hml hZ hown hnm hre hlk X0 e0 => ?_
  have hC := @Jvm.hb _ _ hby
  have N0 := Fr.nil n0
  have K0 := Keep.refl h0 ([] : List Addr)
  let ll1 : Array Slot := #[vI 16, vI 28]
  refine jg s₁ mM 10 ll1 [(.int 28)] (fun tT kK => ?_) ?_
  · refine XS.iloadN X0.here hx rfl (hC e8_0.1) rfl ?_
    refine XS.iloadN X0.here hx rfl (hC e8_0.2.1) rfl ?_
    refine XS.icmpYes X0.here hx rfl (pc0 := 2) (pc' := 9) rfl (hC e8_0.2.2.1) rfl (tlt ((by decide) : (16 : Int32) < (28 : Int32))).1 (by decide) (by decide) ?_
    refine XS.iloadN X0.here hx rfl (hC d8_9) rfl ?_
    exact kK
  exact own_rr X0 hx hlk hre rfl (Or.inl ⟨rfl, Or.inl rfl, _, rfl⟩) (hC e8_6.2) e0 (by decide) (by decide) ⟨rfl, N0, rfl⟩
theorem e33_0 : jD2 0 (.lload_n 0, 1) ∧ jD2 1 (.lload_n 2, 1) ∧ jD2 2 (.lcmp, 1) ∧ jD2 3 (.ifCond .gt 7, 3) := by decide +kernel
theorem e33_6 : jD2 6 (.lload_n 0, 1) ∧ jD2 7 (.goto 4, 3) ∧ jD2 11 (.lreturn, 1) := by decide +kernel
theorem own_ef_rm_mnl (mM : MethodId) (x0 : Int64) (x1 : Int64) : entryFrame mM #[(.long x0), (.long x1)] 4 = mkF mM 0 #[.val (.long x0), .second, .val (.long x1), .second] [] := by first | (simp [entryFrame, mkF, argsToLocals, Value.category]; done) | rfl
def Q_rm_mnl (Z : State) (f : Int64) (g : Int64) (h0 : Heap) (n0 : Nat) (vV : Option Value) (hH : Heap) (lA : List Loc) : Prop := vV = some (.long f) ∧ Fr n0 lA ∧ (hH = h0)
theorem rm_mnl (lL : Launch) (Z : State) (a0 : Array Value) (hw : own_H a0 Z) (ws : List Jvm.Cond) (f : Int64) (g : Int64) (h0 : Heap) (n0 : Nat) (Z0 : n0 ≤ h0.size) (c : f.toInt ≤ g.toInt) :
    own_Met lL jy2 (Jvm.Cond.code jy2 jdk_29_method_70_code 4 (some .long) :: ws) jr0 #[(.long f), (.long g)] Z h0 (Q_rm_mnl Z f g h0 n0) := by
  refine own_begin (Jvm.Free.JP.mathPlain rfl (by decide +kernel)) (fun mM => own_ef_rm_mnl mM f g) fun pP eE sS mM below meth cC s₁ hx hby hml hZ hown hnm hre hlk X0 e0 => ?_
  have hC := @Jvm.hb _ _ hby
  have N0 := Fr.nil n0
  have K0 := Keep.refl h0 ([] : List Addr)
  let ll1 : Array Slot := #[vJ f, vS, vJ g, vS]
  refine jg s₁ mM 11 ll1 [(.long f)] (fun tT kK => ?_) ?_
  · refine XS.lloadN X0.here hx rfl (hC e33_0.1) rfl ?_
    refine XS.lloadN X0.here hx rfl (hC e33_0.2.1) rfl ?_
    refine XS.lcmp X0.here hx rfl (hC e33_0.2.2.1) rfl ?_
    refine XS.ifNo X0.here hx rfl (hC e33_0.2.2.2) rfl ((if0 _ _).trans (flt (mt (lw_gt f g).mp ((own_nl (by omega)) : ¬ (g < f)))).2.2.1) ?_
    refine XS.lloadN X0.here hx rfl (hC e33_6.1) rfl ?_
    refine XS.goto X0.here hx rfl (pc0 := 7) (pc' := 11) rfl (hC e33_6.2.1) (by decide) (by decide) ?_
    exact kK
  exact own_rr X0 hx hlk hre rfl (Or.inr (Or.inl ⟨rfl, rfl, _, rfl⟩)) (hC e33_6.2.2) e0 (by decide) (by decide) ⟨rfl, N0, rfl⟩
theorem e34_0 : jD3 0 (.lload_n 0, 1) ∧ jD3 1 (.lload_n 2, 1) ∧ jD3 2 (.lcmp, 1) ∧ jD3 3 (.ifCond .lt 7, 3) := by decide +kernel
theorem e34_10 : jD3 10 (.lload_n 2, 1) ∧ jD3 11 (.lreturn, 1) := by decide +kernel
theorem own_ef_rm_mxg (mM : MethodId) (x0 : Int64) (x1 : Int64) : entryFrame mM #[(.long x0), (.long x1)] 4 = mkF mM 0 #[.val (.long x0), .second, .val (.long x1), .second] [] := by first | (simp [entryFrame, mkF, argsToLocals, Value.category]; done) | rfl
def Q_rm_mxg (Z : State) (f : Int64) (g : Int64) (h0 : Heap) (n0 : Nat) (vV : Option Value) (hH : Heap) (lA : List Loc) : Prop := vV = some (.long g) ∧ Fr n0 lA ∧ (hH = h0)
theorem rm_mxg (lL : Launch) (Z : State) (a0 : Array Value) (hw : own_H a0 Z) (ws : List Jvm.Cond) (f : Int64) (g : Int64) (h0 : Heap) (n0 : Nat) (Z0 : n0 ≤ h0.size) (c : f.toInt < g.toInt) :
    own_Met lL jy3 (Jvm.Cond.code jy3 jdk_29_method_66_code 4 (some .long) :: ws) jr0 #[(.long f), (.long g)] Z h0 (Q_rm_mxg Z f g h0 n0) := by
  refine own_begin (Jvm.Free.JP.mathPlain rfl (by decide +kernel)) (fun mM => own_ef_rm_mxg mM f g) fun pP eE sS mM below meth cC s₁ hx hby hml hZ hown hnm hre hlk X0 e0 => ?_
  have hC := @Jvm.hb _ _ hby
  have N0 := Fr.nil n0
  have K0 := Keep.refl h0 ([] : List Addr)
  let ll1 : Array Slot := #[vJ f, vS, vJ g, vS]
  refine jg s₁ mM 11 ll1 [(.long g)] (fun tT kK => ?_) ?_
  · refine XS.lloadN X0.here hx rfl (hC e34_0.1) rfl ?_
    refine XS.lloadN X0.here hx rfl (hC e34_0.2.1) rfl ?_
    refine XS.lcmp X0.here hx rfl (hC e34_0.2.2.1) rfl ?_
    refine XS.ifYes X0.here hx rfl (pc0 := 3) (pc' := 10) rfl (hC e34_0.2.2.2) rfl ((if0 _ _).trans (tlt ((lw_lt f g).mpr ((own_lt (by omega)) : f < g))).1) (by decide) (by decide) ?_
    refine XS.lloadN X0.here hx rfl (hC e34_10.1) rfl ?_
    exact kK
  exact own_rr X0 hx hlk hre rfl (Or.inr (Or.inl ⟨rfl, rfl, _, rfl⟩)) (hC e34_10.2) e0 (by decide) (by decide) ⟨rfl, N0, rfl⟩
theorem e34_6 : jD3 6 (.lload_n 0, 1) ∧ jD3 7 (.goto 4, 3) := by decide +kernel
theorem own_ef_rm_mxe (mM : MethodId) (x0 : Int64) (x1 : Int64) : entryFrame mM #[(.long x0), (.long x1)] 4 = mkF mM 0 #[.val (.long x0), .second, .val (.long x1), .second] [] := by first | (simp [entryFrame, mkF, argsToLocals, Value.category]; done) | rfl
def Q_rm_mxe (Z : State) (f : Int64) (g : Int64) (h0 : Heap) (n0 : Nat) (vV : Option Value) (hH : Heap) (lA : List Loc) : Prop := vV = some (.long f) ∧ Fr n0 lA ∧ (hH = h0)
theorem rm_mxe (lL : Launch) (Z : State) (a0 : Array Value) (hw : own_H a0 Z) (ws : List Jvm.Cond) (f : Int64) (g : Int64) (h0 : Heap) (n0 : Nat) (Z0 : n0 ≤ h0.size) (c : g.toInt ≤ f.toInt) :
    own_Met lL jy3 (Jvm.Cond.code jy3 jdk_29_method_66_code 4 (some .long) :: ws) jr0 #[(.long f), (.long g)] Z h0 (Q_rm_mxe Z f g h0 n0) := by
  refine own_begin (Jvm.Free.JP.mathPlain rfl (by decide +kernel)) (fun mM => own_ef_rm_mxe mM f g) fun pP eE sS mM below meth cC s₁ hx hby hml hZ hown hnm hre hlk X0 e0 => ?_
  have hC := @Jvm.hb _ _ hby
  have N0 := Fr.nil n0
  have K0 := Keep.refl h0 ([] : List Addr)
  let ll1 : Array Slot := #[vJ f, vS, vJ g, vS]
  refine jg s₁ mM 11 ll1 [(.long f)] (fun tT kK => ?_) ?_
  · refine XS.lloadN X0.here hx rfl (hC e34_0.1) rfl ?_
    refine XS.lloadN X0.here hx rfl (hC e34_0.2.1) rfl ?_
    refine XS.lcmp X0.here hx rfl (hC e34_0.2.2.1) rfl ?_
    refine XS.ifNo X0.here hx rfl (hC e34_0.2.2.2) rfl ((if0 _ _).trans (flt (mt (lw_lt f g).mp ((own_nl (by omega)) : ¬ (f < g)))).1) ?_
    refine XS.lloadN X0.here hx rfl (hC e34_6.1) rfl ?_
    refine XS.goto X0.here hx rfl (pc0 := 7) (pc' := 11) rfl (hC e34_6.2) (by decide) (by decide) ?_
    exact kK
  exact own_rr X0 hx hlk hre rfl (Or.inr (Or.inl ⟨rfl, rfl, _, rfl⟩)) (hC e34_10.2) e0 (by decide) (by decide) ⟨rfl, N0, rfl⟩
theorem e7_0 : jD4 0 (.iconst 0, 1) ∧ jD4 1 (.istore_n 3, 1) ∧ jD4 2 (.aload_n 0, 1) ∧ jD4 3 (.getfield 109, 3) := by decide +kernel
theorem e7_6 : jD4 6 (.iconst 1, 1) ∧ jD4 7 (.isub, 1) ∧ jD4 8 (.istore 4, 2) ∧ jD4 10 (.iload_n 3, 1) := by decide +kernel
theorem e7_11 : jD4 11 (.iload 4, 2) ∧ jD4 13 (.if_icmp .gt 43, 3) ∧ jD4 56 (.iload 4, 2) ∧ jD4 58 (.ireturn, 1) := by decide +kernel
theorem own_ef_rm_pa0 (mM : MethodId) (x0 : Addr) (x1 : Int64) : entryFrame mM #[(.ref x0), (.long x1)] 6 = mkF mM 0 #[.val (.ref x0), .val (.long x1), .second, .unset, .unset, .unset] [] := by first | (simp [entryFrame, mkF, argsToLocals, Value.category]; done) | rfl
def Q_rm_pa0 (Z : State) (st : Addr) (o : Int64) (h0 : Heap) (n0 : Nat) (vV : Option Value) (hH : Heap) (lA : List Loc) : Prop := vV = some (.int (-1)) ∧ Fr n0 lA ∧ (hH = h0)
theorem rm_pa0 (lL : Launch) (Z : State) (a0 : Array Value) (hw : own_H a0 Z) (ws : List Jvm.Cond) (st : Addr) (o : Int64) (h0 : Heap) (n0 : Nat) (Z0 : n0 ≤ h0.size) (Fc : jF2 Z h0 st (.int 0)) :
    own_Met lL jy4 (Jvm.Cond.code jy4 prog_38_method_18_code 6 (some .int) :: ws) jr0 #[(.ref st), (.long o)] Z h0 (Q_rm_pa0 Z st o h0 n0) := by
  refine own_begin (plainFor_of_name own_pn_com_example_portion_portion_server_OffsetSet) (fun mM => own_ef_rm_pa0 mM st o) fun pP eE sS mM below meth cC s₁ hx hby hml hZ hown hnm hre hlk X0 e0 => ?_
  have hC := @Jvm.hb _ _ hby
  have N0 := Fr.nil n0
  have K0 := Keep.refl h0 ([] : List Addr)
  let ll1 : Array Slot := #[vR st, vJ o, vS, vI 0, vU, vU]
  refine jg s₁ mM 3 ll1 [(.ref st)] (fun tT kK => ?_) ?_
  · refine XS.iconst X0.here hx rfl (hC e7_0.1) ?_
    refine XS.istoreN X0.here hx rfl (hC e7_0.2.1) rfl (l' := ll1) rfl ?_
    refine XS.aloadN X0.here hx rfl (hC e7_0.2.2.1) rfl rfl ?_
    exact kK
  refine jf X0 hx hZ hown (jk hw 40 rfl) e0 Fc (hC e7_0.2.2.2) fun T1_ X1_ e1_ => ?_
  let ll2 : Array Slot := #[vR st, vJ o, vS, vI 0, vI (-1), vU]
  refine jg T1_ mM 58 ll2 [(.int (-1))] (fun tT kK => ?_) ?_
  · refine XS.iconst X1_.here hx rfl (hC e7_6.1) ?_
    refine XS.isub X1_.here hx rfl (hC e7_6.2.1) rfl ?_
    refine XS.istore X1_.here hx rfl (hC e7_6.2.2.1) rfl (l' := ll2) rfl ?_
    refine XS.iloadN X1_.here hx rfl (hC e7_6.2.2.2) rfl ?_
    refine XS.iload X1_.here hx rfl (hC e7_11.1) rfl ?_
    refine XS.icmpYes X1_.here hx rfl (pc0 := 13) (pc' := 56) rfl (hC e7_11.2.1) rfl (tlt ((by decide) : (-1 : Int32) < (0 : Int32))).2.2.1 (by decide) (by decide) ?_
    refine XS.iload X1_.here hx rfl (hC e7_11.2.2.1) rfl ?_
    exact kK
  exact own_rr X1_ hx hlk hre rfl (Or.inl ⟨rfl, Or.inl rfl, _, rfl⟩) (hC e7_11.2.2.2) e1_ (by decide) (by decide) ⟨rfl, N0, rfl⟩
theorem e7_16 : jD4 16 (.iload_n 3, 1) ∧ jD4 17 (.iload 4, 2) ∧ jD4 19 (.iadd, 1) ∧ jD4 20 (.iconst 1, 1) := by decide +kernel
theorem e7_21 : jD4 21 (.iushr, 1) ∧ jD4 22 (.istore 5, 2) ∧ jD4 24 (.aload_n 0, 1) ∧ jD4 25 (.getfield 16, 3) := by decide +kernel
theorem e7_28 : jD4 28 (.iload 5, 2) ∧ jD4 30 (.aaload, 1) ∧ jD4 31 (.getfield 34, 3) ∧ jD4 34 (.lload_n 1, 1) := by decide +kernel
theorem e7_35 : jD4 35 (.lcmp, 1) ∧ jD4 36 (.ifCond .gt 11, 3) ∧ jD4 39 (.iload 5, 2) ∧ jD4 41 (.iconst 1, 1) := by decide +kernel
theorem e7_42 : jD4 42 (.iadd, 1) ∧ jD4 43 (.istore_n 3, 1) ∧ jD4 44 (.goto 9, 3) ∧ jD4 53 (.goto (-43), 3) := by decide +kernel
theorem own_ef_rm_pay (mM : MethodId) (x0 : Addr) (x1 : Int64) : entryFrame mM #[(.ref x0), (.long x1)] 6 = mkF mM 0 #[.val (.ref x0), .val (.long x1), .second, .unset, .unset, .unset] [] := by first | (simp [entryFrame, mkF, argsToLocals, Value.category]; done) | rfl
def Q_rm_pay (Z : State) (st : Addr) (pa : Addr) (pg : Addr) (kq : ClassId) (o : Int64) (ff : Int64) (h0 : Heap) (n0 : Nat) (vV : Option Value) (hH : Heap) (lA : List Loc) : Prop := vV = some (.int 0) ∧ Fr n0 lA ∧ (hH = h0)
theorem rm_pay (lL : Launch) (Z : State) (a0 : Array Value) (hw : own_H a0 Z) (ws : List Jvm.Cond) (st : Addr) (pa : Addr) (pg : Addr) (kq : ClassId) (o : Int64) (ff : Int64) (h0 : Heap) (n0 : Nat) (Z0 : n0 ≤ h0.size) (Fc : jF2 Z h0 st (.int 1)) (Fp : jF1 Z h0 st (.ref pa)) (Vp : Arv Z h0 pa kq (.object "com/example/portion/portion/server/OffsetSet$Page") (2 : Int32) [(.ref pg), .null] .null) (Ff : jF5 Z h0 pg (.long ff)) (c : ff.toInt ≤ o.toInt) :
    own_Met lL jy4 (Jvm.Cond.code jy4 prog_38_method_18_code 6 (some .int) :: ws) jr0 #[(.ref st), (.long o)] Z h0 (Q_rm_pay Z st pa pg kq o ff h0 n0) := by
  refine own_begin (plainFor_of_name own_pn_com_example_portion_portion_server_OffsetSet) (fun mM => own_ef_rm_pay mM st o) fun pP eE sS mM below meth cC s₁ hx hby hml hZ hown hnm hre hlk X0 e0 => ?_
  have hC := @Jvm.hb _ _ hby
  have N0 := Fr.nil n0
  have K0 := Keep.refl h0 ([] : List Addr)
  let ll1 : Array Slot := #[vR st, vJ o, vS, vI 0, vU, vU]
  refine jg s₁ mM 3 ll1 [(.ref st)] (fun tT kK => ?_) ?_
  · refine XS.iconst X0.here hx rfl (hC e7_0.1) ?_
    refine XS.istoreN X0.here hx rfl (hC e7_0.2.1) rfl (l' := ll1) rfl ?_
    refine XS.aloadN X0.here hx rfl (hC e7_0.2.2.1) rfl rfl ?_
    exact kK
  refine jf X0 hx hZ hown (jk hw 40 rfl) e0 Fc (hC e7_0.2.2.2) fun T1_ X1_ e1_ => ?_
  let ll2 : Array Slot := #[vR st, vJ o, vS, vI 0, vI 0, vI 0]
  refine jg T1_ mM 25 ll2 [(.ref st)] (fun tT kK => ?_) ?_
  · refine XS.iconst X1_.here hx rfl (hC e7_6.1) ?_
    refine XS.isub X1_.here hx rfl (hC e7_6.2.1) rfl ?_
    let ll3 : Array Slot := #[vR st, vJ o, vS, vI 0, vI 0, vU]
    refine XS.istore X1_.here hx rfl (hC e7_6.2.2.1) rfl (l' := ll3) rfl ?_
    refine XS.iloadN X1_.here hx rfl (hC e7_6.2.2.2) rfl ?_
    refine XS.iload X1_.here hx rfl (hC e7_11.1) rfl ?_
    refine XS.icmpNo X1_.here hx rfl (hC e7_11.2.1) rfl (flt ((by decide) : ¬ ((0 : Int32) < (0 : Int32)))).2.2.1 ?_
    refine XS.iloadN X1_.here hx rfl (hC e7_16.1) rfl ?_
    refine XS.iload X1_.here hx rfl (hC e7_16.2.1) rfl ?_
    refine XS.iadd X1_.here hx rfl (hC e7_16.2.2.1) rfl ?_
    refine XS.iconst X1_.here hx rfl (hC e7_16.2.2.2) ?_
    refine XS.iushr X1_.here hx rfl (hC e7_21.1) rfl ?_
    refine XS.istore X1_.here hx rfl (hC e7_21.2.1) rfl (l' := ll2) rfl ?_
    refine XS.aloadN X1_.here hx rfl (hC e7_21.2.2.1) rfl rfl ?_
    exact kK
  refine jf X1_ hx hZ hown (jk hw 12 rfl) e1_ Fp (hC e7_21.2.2.2) fun T2_ X2_ e2_ => ?_
  refine jg T2_ mM 30 ll2 [(.int 0), (.ref pa)] (fun tT kK => ?_) ?_
  · refine XS.iload X2_.here hx rfl (hC e7_28.1) rfl ?_
    exact kK
  obtain ⟨cl3_, Ar3_, qk3_, Sz3_, Nn3_, Hh3_, Gg3_⟩ := id Vp
  have hin4_ : ¬ ((0 : Int32) < 0 ∨ cl3_.slots.size ≤ ((0 : Int32)).toNatClampNeg) := inb_of Sz3_ ⟨by decide, by decide⟩
  have hat4_ : cl3_.slots[((0 : Int32)).toNatClampNeg]? = some (.ref pg) := Hh3_.at hin4_ rfl
  refine jg T2_ mM 31 ll2 [(.ref pg)] (fun tT kK => ?_) ?_
  · refine X2_.aaload hx (j := (0 : Int32)) (v := (.ref pg)) (own_rw e2_ Ar3_.1) (State.isArrayOf_alike hZ.alike Ar3_.2.1) rfl Ar3_.2.2 hin4_ hat4_ (g := (mkF mM 30 ll2 [(.int 0), (.ref pa)])) rfl rfl (hC e7_28.2.1) _ ?_
    exact kK
  obtain ⟨T5_, X5_, e5_, st5_⟩ := own_getRef X2_ hx hZ hown (jk hw 104 rfl) Via.refl e2_ Ff (g := (mkF mM 31 ll2 [(.ref pg)])) rfl rfl (hC e7_28.2.2.1)
  refine own_fin st5_ ?_
  let ll4 : Array Slot := #[vR st, vJ o, vS, vI 1, vI 0, vI 0]
  refine jg T5_ mM 58 ll4 [(.int 0)] (fun tT kK => ?_) ?_
  · refine XS.lloadN X5_.here hx rfl (hC e7_28.2.2.2) rfl ?_
    refine XS.lcmp X5_.here hx rfl (hC e7_35.1) rfl ?_
    refine XS.ifNo X5_.here hx rfl (hC e7_35.2.1) rfl ((if0 _ _).trans (flt (mt (lw_gt ff o).mp ((own_nl (by omega)) : ¬ (o < ff)))).2.2.1) ?_
    refine XS.iload X5_.here hx rfl (hC e7_35.2.2.1) rfl ?_
    refine XS.iconst X5_.here hx rfl (hC e7_35.2.2.2) ?_
    refine XS.iadd X5_.here hx rfl (hC e7_42.1) rfl ?_
    refine XS.istoreN X5_.here hx rfl (hC e7_42.2.1) rfl (l' := ll4) rfl ?_
    refine XS.goto X5_.here hx rfl (pc0 := 44) (pc' := 53) rfl (hC e7_42.2.2.1) (by decide) (by decide) ?_
    refine XS.goto X5_.here hx rfl (pc0 := 53) (pc' := 10) rfl (hC e7_42.2.2.2) (by decide) (by decide) ?_
    refine XS.iloadN X5_.here hx rfl (hC e7_6.2.2.2) rfl ?_
    refine XS.iload X5_.here hx rfl (hC e7_11.1) rfl ?_
    refine XS.icmpYes X5_.here hx rfl (pc0 := 13) (pc' := 56) rfl (hC e7_11.2.1) rfl (tlt ((by decide) : (0 : Int32) < (1 : Int32))).2.2.1 (by decide) (by decide) ?_
    refine XS.iload X5_.here hx rfl (hC e7_11.2.2.1) rfl ?_
    exact kK
  exact own_rr X5_ hx hlk hre rfl (Or.inl ⟨rfl, Or.inl rfl, _, rfl⟩) (hC e7_11.2.2.2) e5_ (by decide) (by decide) ⟨rfl, N0, rfl⟩
theorem e7_47 : jD4 47 (.iload 5, 2) ∧ jD4 49 (.iconst 1, 1) ∧ jD4 50 (.isub, 1) ∧ jD4 51 (.istore 4, 2) := by decide +kernel
theorem own_ef_rm_pan (mM : MethodId) (x0 : Addr) (x1 : Int64) : entryFrame mM #[(.ref x0), (.long x1)] 6 = mkF mM 0 #[.val (.ref x0), .val (.long x1), .second, .unset, .unset, .unset] [] := by first | (simp [entryFrame, mkF, argsToLocals, Value.category]; done) | rfl
def Q_rm_pan (Z : State) (st : Addr) (pa : Addr) (pg : Addr) (kq : ClassId) (o : Int64) (ff : Int64) (h0 : Heap) (n0 : Nat) (vV : Option Value) (hH : Heap) (lA : List Loc) : Prop := vV = some (.int (-1)) ∧ Fr n0 lA ∧ (hH = h0)
theorem rm_pan (lL : Launch) (Z : State) (a0 : Array Value) (hw : own_H a0 Z) (ws : List Jvm.Cond) (st : Addr) (pa : Addr) (pg : Addr) (kq : ClassId) (o : Int64) (ff : Int64) (h0 : Heap) (n0 : Nat) (Z0 : n0 ≤ h0.size) (Fc : jF2 Z h0 st (.int 1)) (Fp : jF1 Z h0 st (.ref pa)) (Vp : Arv Z h0 pa kq (.object "com/example/portion/portion/server/OffsetSet$Page") (2 : Int32) [(.ref pg), .null] .null) (Ff : jF5 Z h0 pg (.long ff)) (c : o.toInt < ff.toInt) :
    own_Met lL jy4 (Jvm.Cond.code jy4 prog_38_method_18_code 6 (some .int) :: ws) jr0 #[(.ref st), (.long o)] Z h0 (Q_rm_pan Z st pa pg kq o ff h0 n0) := by
  refine own_begin (plainFor_of_name own_pn_com_example_portion_portion_server_OffsetSet) (fun mM => own_ef_rm_pan mM st o) fun pP eE sS mM below meth cC s₁ hx hby hml hZ hown hnm hre hlk X0 e0 => ?_
  have hC := @Jvm.hb _ _ hby
  have N0 := Fr.nil n0
  have K0 := Keep.refl h0 ([] : List Addr)
  let ll1 : Array Slot := #[vR st, vJ o, vS, vI 0, vU, vU]
  refine jg s₁ mM 3 ll1 [(.ref st)] (fun tT kK => ?_) ?_
  · refine XS.iconst X0.here hx rfl (hC e7_0.1) ?_
    refine XS.istoreN X0.here hx rfl (hC e7_0.2.1) rfl (l' := ll1) rfl ?_
    refine XS.aloadN X0.here hx rfl (hC e7_0.2.2.1) rfl rfl ?_
    exact kK
  refine jf X0 hx hZ hown (jk hw 40 rfl) e0 Fc (hC e7_0.2.2.2) fun T1_ X1_ e1_ => ?_
  let ll2 : Array Slot := #[vR st, vJ o, vS, vI 0, vI 0, vI 0]
  refine jg T1_ mM 25 ll2 [(.ref st)] (fun tT kK => ?_) ?_
  · refine XS.iconst X1_.here hx rfl (hC e7_6.1) ?_
    refine XS.isub X1_.here hx rfl (hC e7_6.2.1) rfl ?_
    let ll3 : Array Slot := #[vR st, vJ o, vS, vI 0, vI 0, vU]
    refine XS.istore X1_.here hx rfl (hC e7_6.2.2.1) rfl (l' := ll3) rfl ?_
    refine XS.iloadN X1_.here hx rfl (hC e7_6.2.2.2) rfl ?_
    refine XS.iload X1_.here hx rfl (hC e7_11.1) rfl ?_
    refine XS.icmpNo X1_.here hx rfl (hC e7_11.2.1) rfl (flt ((by decide) : ¬ ((0 : Int32) < (0 : Int32)))).2.2.1 ?_
    refine XS.iloadN X1_.here hx rfl (hC e7_16.1) rfl ?_
    refine XS.iload X1_.here hx rfl (hC e7_16.2.1) rfl ?_
    refine XS.iadd X1_.here hx rfl (hC e7_16.2.2.1) rfl ?_
    refine XS.iconst X1_.here hx rfl (hC e7_16.2.2.2) ?_
    refine XS.iushr X1_.here hx rfl (hC e7_21.1) rfl ?_
    refine XS.istore X1_.here hx rfl (hC e7_21.2.1) rfl (l' := ll2) rfl ?_
    refine XS.aloadN X1_.here hx rfl (hC e7_21.2.2.1) rfl rfl ?_
    exact kK
  refine jf X1_ hx hZ hown (jk hw 12 rfl) e1_ Fp (hC e7_21.2.2.2) fun T2_ X2_ e2_ => ?_
  refine jg T2_ mM 30 ll2 [(.int 0), (.ref pa)] (fun tT kK => ?_) ?_
  · refine XS.iload X2_.here hx rfl (hC e7_28.1) rfl ?_
    exact kK
  obtain ⟨cl3_, Ar3_, qk3_, Sz3_, Nn3_, Hh3_, Gg3_⟩ := id Vp
  have hin4_ : ¬ ((0 : Int32) < 0 ∨ cl3_.slots.size ≤ ((0 : Int32)).toNatClampNeg) := inb_of Sz3_ ⟨by decide, by decide⟩
  have hat4_ : cl3_.slots[((0 : Int32)).toNatClampNeg]? = some (.ref pg) := Hh3_.at hin4_ rfl
  refine jg T2_ mM 31 ll2 [(.ref pg)] (fun tT kK => ?_) ?_
  · refine X2_.aaload hx (j := (0 : Int32)) (v := (.ref pg)) (own_rw e2_ Ar3_.1) (State.isArrayOf_alike hZ.alike Ar3_.2.1) rfl Ar3_.2.2 hin4_ hat4_ (g := (mkF mM 30 ll2 [(.int 0), (.ref pa)])) rfl rfl (hC e7_28.2.1) _ ?_
    exact kK
  obtain ⟨T5_, X5_, e5_, st5_⟩ := own_getRef X2_ hx hZ hown (jk hw 104 rfl) Via.refl e2_ Ff (g := (mkF mM 31 ll2 [(.ref pg)])) rfl rfl (hC e7_28.2.2.1)
  refine own_fin st5_ ?_
  let ll4 : Array Slot := #[vR st, vJ o, vS, vI 0, vI (-1), vI 0]
  refine jg T5_ mM 58 ll4 [(.int (-1))] (fun tT kK => ?_) ?_
  · refine XS.lloadN X5_.here hx rfl (hC e7_28.2.2.2) rfl ?_
    refine XS.lcmp X5_.here hx rfl (hC e7_35.1) rfl ?_
    refine XS.ifYes X5_.here hx rfl (pc0 := 36) (pc' := 47) rfl (hC e7_35.2.1) rfl ((if0 _ _).trans (tlt ((lw_gt ff o).mpr ((own_lt (by omega)) : o < ff))).2.2.1) (by decide) (by decide) ?_
    refine XS.iload X5_.here hx rfl (hC e7_47.1) rfl ?_
    refine XS.iconst X5_.here hx rfl (hC e7_47.2.1) ?_
    refine XS.isub X5_.here hx rfl (hC e7_47.2.2.1) rfl ?_
    refine XS.istore X5_.here hx rfl (hC e7_47.2.2.2) rfl (l' := ll4) rfl ?_
    refine XS.goto X5_.here hx rfl (pc0 := 53) (pc' := 10) rfl (hC e7_42.2.2.2) (by decide) (by decide) ?_
    refine XS.iloadN X5_.here hx rfl (hC e7_6.2.2.2) rfl ?_
    refine XS.iload X5_.here hx rfl (hC e7_11.1) rfl ?_
    refine XS.icmpYes X5_.here hx rfl (pc0 := 13) (pc' := 56) rfl (hC e7_11.2.1) rfl (tlt ((by decide) : (-1 : Int32) < (0 : Int32))).2.2.1 (by decide) (by decide) ?_
    refine XS.iload X5_.here hx rfl (hC e7_11.2.2.1) rfl ?_
    exact kK
  exact own_rr X5_ hx hlk hre rfl (Or.inl ⟨rfl, Or.inl rfl, _, rfl⟩) (hC e7_11.2.2.2) e5_ (by decide) (by decide) ⟨rfl, N0, rfl⟩
theorem e14_0 : jD5 0 (.aload_n 0, 1) ∧ jD5 1 (.getfield 18, 3) ∧ jD5 4 (.ifCond .ge 10, 3) ∧ jD5 7 (.aload_n 0, 1) := by decide +kernel
theorem e14_8 : jD5 8 (.getfield 29, 3) ∧ jD5 11 (.goto 7, 3) ∧ jD5 18 (.lreturn, 1) := by decide +kernel
theorem own_pn_com_example_portion_portion_server_OffsetSet_Page : plainName "com/example/portion/portion/server/OffsetSet$Page" = true := by first | (simp [plainName, overriddenIn]; done) | decide +kernel
theorem own_ef_rm_lta (mM : MethodId) (x0 : Addr) : entryFrame mM #[(.ref x0)] 1 = mkF mM 0 #[.val (.ref x0)] [] := by first | (simp [entryFrame, mkF, argsToLocals, Value.category]; done) | rfl
def Q_rm_lta (Z : State) (a : Addr) (x : Int64) (h0 : Heap) (n0 : Nat) (vV : Option Value) (hH : Heap) (lA : List Loc) : Prop := vV = some (.long x) ∧ Fr n0 lA ∧ (hH = h0)
theorem rm_lta (lL : Launch) (Z : State) (a0 : Array Value) (hw : own_H a0 Z) (ws : List Jvm.Cond) (a : Addr) (x : Int64) (h0 : Heap) (n0 : Nat) (Z0 : n0 ≤ h0.size) (Fa : jF10 Z h0 a (.int (-1))) (Fx : jF6 Z h0 a (.long x)) :
    own_Met lL jy5 (Jvm.Cond.code jy5 prog_39_method_3_code 1 (some .long) :: ws) jr0 #[(.ref a)] Z h0 (Q_rm_lta Z a x h0 n0) := by
  refine own_begin (plainFor_of_name own_pn_com_example_portion_portion_server_OffsetSet_Page) (fun mM => own_ef_rm_lta mM a) fun pP eE sS mM below meth cC s₁ hx hby hml hZ hown hnm hre hlk X0 e0 => ?_
  have hC := @Jvm.hb _ _ hby
  have N0 := Fr.nil n0
  have K0 := Keep.refl h0 ([] : List Addr)
  refine jg s₁ mM 1 #[vR a] [(.ref a)] (fun tT kK => ?_) ?_
  · refine XS.aloadN X0.here hx rfl (hC e14_0.1) rfl rfl ?_
    exact kK
  refine jf X0 hx hZ hown (jk hw 65 rfl) e0 Fa (hC e14_0.2.1) fun T1_ X1_ e1_ => ?_
  refine jg T1_ mM 8 #[vR a] [(.ref a)] (fun tT kK => ?_) ?_
  · refine XS.ifNo X1_.here hx rfl (hC e14_0.2.2.1) rfl ((if0 _ _).trans (tlt ((by decide) : (-1 : Int32) < (0 : Int32))).2.1) ?_
    refine XS.aloadN X1_.here hx rfl (hC e14_0.2.2.2) rfl rfl ?_
    exact kK
  refine jf X1_ hx hZ hown (jk hw 89 rfl) e1_ Fx (hC e14_8.1) fun T2_ X2_ e2_ => ?_
  refine jg T2_ mM 18 #[vR a] [(.long x)] (fun tT kK => ?_) ?_
  · refine XS.goto X2_.here hx rfl (pc0 := 11) (pc' := 18) rfl (hC e14_8.2.1) (by decide) (by decide) ?_
    exact kK
  exact own_rr X2_ hx hlk hre rfl (Or.inr (Or.inl ⟨rfl, rfl, _, rfl⟩)) (hC e14_8.2.2) e2_ (by decide) (by decide) ⟨rfl, N0, rfl⟩
theorem e14_14 : jD5 14 (.aload_n 0, 1) ∧ jD5 15 (.getfield 32, 3) := by decide +kernel
theorem own_ef_rm_ltb (mM : MethodId) (x0 : Addr) : entryFrame mM #[(.ref x0)] 1 = mkF mM 0 #[.val (.ref x0)] [] := by first | (simp [entryFrame, mkF, argsToLocals, Value.category]; done) | rfl
def Q_rm_ltb (Z : State) (a : Addr) (x : Int64) (h0 : Heap) (n0 : Nat) (vV : Option Value) (hH : Heap) (lA : List Loc) : Prop := vV = some (.long x) ∧ Fr n0 lA ∧ (hH = h0)
theorem rm_ltb (lL : Launch) (Z : State) (a0 : Array Value) (hw : own_H a0 Z) (ws : List Jvm.Cond) (a : Addr) (x : Int64) (h0 : Heap) (n0 : Nat) (Z0 : n0 ≤ h0.size) (Fa : jF10 Z h0 a (.int 0)) (Fx : jF13 Z h0 a (.long x)) :
    own_Met lL jy5 (Jvm.Cond.code jy5 prog_39_method_3_code 1 (some .long) :: ws) jr0 #[(.ref a)] Z h0 (Q_rm_ltb Z a x h0 n0) := by
  refine own_begin (plainFor_of_name own_pn_com_example_portion_portion_server_OffsetSet_Page) (fun mM => own_ef_rm_ltb mM a) fun pP eE sS mM below meth cC s₁ hx hby hml hZ hown hnm hre hlk X0 e0 => ?_
  have hC := @Jvm.hb _ _ hby
  have N0 := Fr.nil n0
  have K0 := Keep.refl h0 ([] : List Addr)
  refine jg s₁ mM 1 #[vR a] [(.ref a)] (fun tT kK => ?_) ?_
  · refine XS.aloadN X0.here hx rfl (hC e14_0.1) rfl rfl ?_
    exact kK
  refine jf X0 hx hZ hown (jk hw 65 rfl) e0 Fa (hC e14_0.2.1) fun T1_ X1_ e1_ => ?_
  refine jg T1_ mM 15 #[vR a] [(.ref a)] (fun tT kK => ?_) ?_
  · refine XS.ifYes X1_.here hx rfl (pc0 := 4) (pc' := 14) rfl (hC e14_0.2.2.1) rfl ((if0 _ _).trans (flt ((by decide) : ¬ ((0 : Int32) < (0 : Int32)))).2.1) (by decide) (by decide) ?_
    refine XS.aloadN X1_.here hx rfl (hC e14_14.1) rfl rfl ?_
    exact kK
  refine jf X1_ hx hZ hown (jk hw 175 rfl) e1_ Fx (hC e14_14.2) fun T2_ X2_ e2_ => ?_
  exact own_rr X2_ hx hlk hre rfl (Or.inr (Or.inl ⟨rfl, rfl, _, rfl⟩)) (hC e14_8.2.2) e2_ (by decide) (by decide) ⟨rfl, N0, rfl⟩
theorem e22_0 : jD6 0 (.aload_n 0, 1) ∧ jD6 1 (.getfield 18, 3) ∧ jD6 4 (.ifCond .ge 10, 3) ∧ jD6 7 (.aload_n 0, 1) := by decide +kernel
theorem e22_8 : jD6 8 (.getfield 22, 3) ∧ jD6 11 (.goto 7, 3) ∧ jD6 18 (.lreturn, 1) := by decide +kernel
theorem own_ef_rm_lfa (mM : MethodId) (x0 : Addr) : entryFrame mM #[(.ref x0)] 1 = mkF mM 0 #[.val (.ref x0)] [] := by first | (simp [entryFrame, mkF, argsToLocals, Value.category]; done) | rfl
def Q_rm_lfa (Z : State) (a : Addr) (x : Int64) (h0 : Heap) (n0 : Nat) (vV : Option Value) (hH : Heap) (lA : List Loc) : Prop := vV = some (.long x) ∧ Fr n0 lA ∧ (hH = h0)
theorem rm_lfa (lL : Launch) (Z : State) (a0 : Array Value) (hw : own_H a0 Z) (ws : List Jvm.Cond) (a : Addr) (x : Int64) (h0 : Heap) (n0 : Nat) (Z0 : n0 ≤ h0.size) (Fa : jF10 Z h0 a (.int (-1))) (Fx : jF5 Z h0 a (.long x)) :
    own_Met lL jy6 (Jvm.Cond.code jy6 prog_39_method_2_code 1 (some .long) :: ws) jr0 #[(.ref a)] Z h0 (Q_rm_lfa Z a x h0 n0) := by
  refine own_begin (plainFor_of_name own_pn_com_example_portion_portion_server_OffsetSet_Page) (fun mM => own_ef_rm_lfa mM a) fun pP eE sS mM below meth cC s₁ hx hby hml hZ hown hnm hre hlk X0 e0 => ?_
  have hC := @Jvm.hb _ _ hby
  have N0 := Fr.nil n0
  have K0 := Keep.refl h0 ([] : List Addr)
  refine jg s₁ mM 1 #[vR a] [(.ref a)] (fun tT kK => ?_) ?_
  · refine XS.aloadN X0.here hx rfl (hC e22_0.1) rfl rfl ?_
    exact kK
  refine jf X0 hx hZ hown (jk hw 65 rfl) e0 Fa (hC e22_0.2.1) fun T1_ X1_ e1_ => ?_
  refine jg T1_ mM 8 #[vR a] [(.ref a)] (fun tT kK => ?_) ?_
  · refine XS.ifNo X1_.here hx rfl (hC e22_0.2.2.1) rfl ((if0 _ _).trans (tlt ((by decide) : (-1 : Int32) < (0 : Int32))).2.1) ?_
    refine XS.aloadN X1_.here hx rfl (hC e22_0.2.2.2) rfl rfl ?_
    exact kK
  refine jf X1_ hx hZ hown (jk hw 92 rfl) e1_ Fx (hC e22_8.1) fun T2_ X2_ e2_ => ?_
  refine jg T2_ mM 18 #[vR a] [(.long x)] (fun tT kK => ?_) ?_
  · refine XS.goto X2_.here hx rfl (pc0 := 11) (pc' := 18) rfl (hC e22_8.2.1) (by decide) (by decide) ?_
    exact kK
  exact own_rr X2_ hx hlk hre rfl (Or.inr (Or.inl ⟨rfl, rfl, _, rfl⟩)) (hC e22_8.2.2) e2_ (by decide) (by decide) ⟨rfl, N0, rfl⟩
theorem e23_0 : jD7 0 (.aload_n 0, 1) ∧ jD7 1 (.getfield 35, 3) ∧ jD7 4 (.aload_n 0, 1) ∧ jD7 5 (.getfield 38, 3) := by decide +kernel
theorem e23_8 : jD7 8 (.isub, 1) ∧ jD7 9 (.ireturn, 1) := by decide +kernel
theorem own_ef_rm_bc (mM : MethodId) (x0 : Addr) : entryFrame mM #[(.ref x0)] 1 = mkF mM 0 #[.val (.ref x0)] [] := by first | (simp [entryFrame, mkF, argsToLocals, Value.category]; done) | rfl
def Q_rm_bc (Z : State) (a : Addr) (en : Int32) (h0 : Heap) (n0 : Nat) (vV : Option Value) (hH : Heap) (lA : List Loc) : Prop := vV = some (.int (en - (0 : Int32))) ∧ Fr n0 lA ∧ (hH = h0)
theorem rm_bc (lL : Launch) (Z : State) (a0 : Array Value) (hw : own_H a0 Z) (ws : List Jvm.Cond) (a : Addr) (en : Int32) (h0 : Heap) (n0 : Nat) (Z0 : n0 ≤ h0.size) (Fe : jF9 Z h0 a (.int en)) (Fs : jF8 Z h0 a (.int 0)) :
    own_Met lL jy7 (Jvm.Cond.code jy7 prog_39_method_4_code 1 (some .int) :: ws) jr0 #[(.ref a)] Z h0 (Q_rm_bc Z a en h0 n0) := by
  refine own_begin (plainFor_of_name own_pn_com_example_portion_portion_server_OffsetSet_Page) (fun mM => own_ef_rm_bc mM a) fun pP eE sS mM below meth cC s₁ hx hby hml hZ hown hnm hre hlk X0 e0 => ?_
  have hC := @Jvm.hb _ _ hby
  have N0 := Fr.nil n0
  have K0 := Keep.refl h0 ([] : List Addr)
  refine jg s₁ mM 1 #[vR a] [(.ref a)] (fun tT kK => ?_) ?_
  · refine XS.aloadN X0.here hx rfl (hC e23_0.1) rfl rfl ?_
    exact kK
  refine jf X0 hx hZ hown (jk hw 146 rfl) e0 Fe (hC e23_0.2.1) fun T1_ X1_ e1_ => ?_
  refine jg T1_ mM 5 #[vR a] [(.ref a), (.int en)] (fun tT kK => ?_) ?_
  · refine XS.aloadN X1_.here hx rfl (hC e23_0.2.2.1) rfl rfl ?_
    exact kK
  refine jf X1_ hx hZ hown (jk hw 145 rfl) e1_ Fs (hC e23_0.2.2.2) fun T2_ X2_ e2_ => ?_
  refine jg T2_ mM 9 #[vR a] [(.int (en - (0 : Int32)))] (fun tT kK => ?_) ?_
  · refine XS.isub X2_.here hx rfl (hC e23_8.1) rfl ?_
    exact kK
  exact own_rr X2_ hx hlk hre rfl (Or.inl ⟨rfl, Or.inl rfl, _, rfl⟩) (hC e23_8.2) e2_ (by decide) (by decide) ⟨rfl, N0, rfl⟩
theorem e1_0 : jD8 0 (.aload_n 0, 1) ∧ jD8 1 (.invokespecial 7, 3) ∧ jD8 4 (.aload_n 0, 1) ∧ jD8 5 (.getstatic 12, 3) := by decide +kernel
theorem e1_8 : jD8 8 (.putfield 16, 3) ∧ jD8 11 (.aload_n 0, 1) ∧ jD8 12 (.iload_n 1, 1) ∧ jD8 13 (.putfield 19, 3) := by decide +kernel
theorem d1_16 : jD8 16 (.return_, 1) := by decide +kernel
theorem own_ef_rm_os (mM : MethodId) (x0 : Addr) (x1 : Int32) : entryFrame mM #[(.ref x0), (.int x1)] 2 = mkF mM 0 #[.val (.ref x0), .val (.int x1)] [] := by first | (simp [entryFrame, mkF, argsToLocals, Value.category]; done) | rfl
def Q_rm_os (Z : State) (st : Addr) (np : Addr) (pb : Int32) (h0 : Heap) (n0 : Nat) (vV : Option Value) (hH : Heap) (lA : List Loc) : Prop := vV = none ∧ Fr n0 lA ∧ (Keep h0 hH [st]) ∧ (own_bO Z hH st (0 : Int64) (.ref np) (0 : Int32) pb)
theorem rm_os (lL : Launch) (Z : State) (a0 : Array Value) (hw : own_H a0 Z) (ws : List Jvm.Cond) (st : Addr) (np : Addr) (pb : Int32) (h0 : Heap) (n0 : Nat) (Z0 : n0 ≤ h0.size) (F0 : own_bO Z h0 st (0 : Int64) .null (0 : Int32) (0 : Int32)) (Zp : Sta Z Z.heap "com/example/portion/portion/server/OffsetSet" "NO_PAGES" "[Lcom/example/portion/portion/server/OffsetSet$Page;" (.ref np)) (O0 : Old Z n0 h0) (g_st : n0 ≤ st) :
    own_Met lL jy8 (Jvm.Cond.code jy8 prog_38_method_2_code 2 none :: ws) jr1 #[(.ref st), (.int pb)] Z h0 (Q_rm_os Z st np pb h0 n0) := by
  refine own_begin (plainFor_of_name own_pn_com_example_portion_portion_server_OffsetSet) (fun mM => own_ef_rm_os mM st pb) fun pP eE sS mM below meth cC s₁ hx hby hml hZ hown hnm hre hlk X0 e0 => ?_
  have hC := @Jvm.hb _ _ hby
  have N0 := Fr.nil n0
  have K0 := Keep.refl h0 [st]
  refine jg s₁ mM 1 #[vR st, vI pb] [(.ref st)] (fun tT kK => ?_) ?_
  · refine XS.aloadN X0.here hx rfl (hC e1_0.1) rfl rfl ?_
    exact kK
  obtain ⟨T1_, X1_, e1_, st1_⟩ := initO X0 hx hZ hown (jk hw 7 rfl) (jk hw 8 rfl) (jk hw 9 rfl) e0 (g := (mkF mM 1 #[vR st, vI pb] [(.ref st)])) rfl (by rw [hml]; rfl) rfl (hC e1_0.2.1) (by decide) (W := 0) (by show 2 * 0 + _ ≤ _; exact Nat.le_of_eq rfl) (by decide)
  refine own_fin st1_ ?_
  refine jg T1_ mM 5 #[vR st, vI pb] [(.ref st)] (fun tT kK => ?_) ?_
  · refine XS.aloadN X1_.here hx rfl (hC e1_0.2.2.1) rfl rfl ?_
    exact kK
  obtain ⟨T2_, X2_, e2_, st2_⟩ := getS2 X1_ hx hZ hown (host := "") (Or.inl (jk hw 10 rfl)) Via.refl e1_ (own_StaKeep O0 Zp) (g := (mkF mM 5 #[vR st, vI pb] [(.ref st)])) rfl (hC e1_0.2.2.2)
  refine own_fin st2_ ?_
  refine jq X2_ hx hZ hown (jk hw 12 rfl) e2_ F0.g1 F0.E (jk hw 13 rfl) (jk hw 2 rfl) (ty := (.array (.object "com/example/portion/portion/server/OffsetSet$Page"))) (by decide) rfl rfl (hC e1_8.1) K0 N0 (Or.inl (List.mem_of_getElem? (i := 0) rfl)) g_st fun T3_ h3_ X3_ e3_ W3_ Fw3_ K3_ N3_ => ?_
  have Bw3_ := F0.s1 hw W3_
  refine jg T3_ mM 13 #[vR st, vI pb] [(.int pb), (.ref st)] (fun tT kK => ?_) ?_
  · refine XS.aloadN X3_.here hx rfl (hC e1_8.2.1) rfl rfl ?_
    refine XS.iloadN X3_.here hx rfl (hC e1_8.2.2.1) rfl ?_
    exact kK
  obtain ⟨T5_, h5_, X5_, e5_, W5_, st5_⟩ := putF X3_ hx hZ hown (host := "") (Or.inl (jk hw 14 rfl)) Via.refl e3_ Bw3_.g3 Bw3_.E (Or.inr ⟨(jk hw 15 rfl), rfl, hnm⟩) (jk hw 2 rfl) (ty := .int) (by decide) rfl rfl (g := (mkF mM 13 #[vR st, vI pb] [(.int pb), (.ref st)])) rfl rfl (hC e1_8.2.2.2)
  have Bw5_ := Bw3_.s3 hw W5_
  have K5_ := K3_.wr W5_ (Or.inl (List.mem_of_getElem? (i := 0) rfl))
  have N5_ := Fr.snoc X5_ N3_ g_st
  refine own_fin st5_ ?_
  exact own_rV X5_ hx hlk hre (hC d1_16) e5_ (by decide) (by decide) ⟨rfl, N5_, K5_, Bw5_⟩
theorem e11_0 : jD9 0 (.aload_n 0, 1) ∧ jD9 1 (.invokespecial 3, 3) ∧ jD9 4 (.aload_n 0, 1) ∧ jD9 5 (.getstatic 9, 3) := by decide +kernel
theorem e11_8 : jD9 8 (.putfield 13, 3) ∧ jD9 11 (.aload_n 0, 1) ∧ jD9 12 (.iconst (-1), 1) ∧ jD9 13 (.putfield 18, 3) := by decide +kernel
theorem d11_16 : jD9 16 (.return_, 1) := by decide +kernel
theorem own_ef_rm_pg (mM : MethodId) (x0 : Addr) : entryFrame mM #[(.ref x0)] 1 = mkF mM 0 #[.val (.ref x0)] [] := by first | (simp [entryFrame, mkF, argsToLocals, Value.category]; done) | rfl
def Q_rm_pg (Z : State) (a : Addr) (nb : Addr) (h0 : Heap) (n0 : Nat) (vV : Option Value) (hH : Heap) (lA : List Loc) : Prop := vV = none ∧ Fr n0 lA ∧ (Keep h0 hH [a]) ∧ (own_bP Z hH a (0 : Int64) (0 : Int64) (0 : Int64) (.ref nb) (0 : Int32) (0 : Int32) (-1 : Int32) (0 : Int64) (0 : Int64) (0 : Int64))
theorem rm_pg (lL : Launch) (Z : State) (a0 : Array Value) (hw : own_H a0 Z) (ws : List Jvm.Cond) (a : Addr) (nb : Addr) (h0 : Heap) (n0 : Nat) (Z0 : n0 ≤ h0.size) (F0 : own_bP Z h0 a (0 : Int64) (0 : Int64) (0 : Int64) .null (0 : Int32) (0 : Int32) (0 : Int32) (0 : Int64) (0 : Int64) (0 : Int64)) (Zb : Sta Z Z.heap "com/example/portion/portion/server/OffsetSet" "NO_BYTES" "[B" (.ref nb)) (O0 : Old Z n0 h0) (g_a : n0 ≤ a) :
    own_Met lL jy9 (Jvm.Cond.code jy9 prog_39_method_1_code 1 none :: ws) jr1 #[(.ref a)] Z h0 (Q_rm_pg Z a nb h0 n0) := by
  refine own_begin (plainFor_of_name own_pn_com_example_portion_portion_server_OffsetSet_Page) (fun mM => own_ef_rm_pg mM a) fun pP eE sS mM below meth cC s₁ hx hby hml hZ hown hnm hre hlk X0 e0 => ?_
  have hC := @Jvm.hb _ _ hby
  have N0 := Fr.nil n0
  have K0 := Keep.refl h0 [a]
  refine jg s₁ mM 1 #[vR a] [(.ref a)] (fun tT kK => ?_) ?_
  · refine XS.aloadN X0.here hx rfl (hC e11_0.1) rfl rfl ?_
    exact kK
  obtain ⟨T1_, X1_, e1_, st1_⟩ := initO X0 hx hZ hown (jk hw 60 rfl) (jk hw 8 rfl) (jk hw 9 rfl) e0 (g := (mkF mM 1 #[vR a] [(.ref a)])) rfl (by rw [hml]; rfl) rfl (hC e11_0.2.1) (by decide) (W := 0) (by show 2 * 0 + _ ≤ _; exact Nat.le_of_eq rfl) (by decide)
  refine own_fin st1_ ?_
  refine jg T1_ mM 5 #[vR a] [(.ref a)] (fun tT kK => ?_) ?_
  · refine XS.aloadN X1_.here hx rfl (hC e11_0.2.2.1) rfl rfl ?_
    exact kK
  obtain ⟨T2_, X2_, e2_, st2_⟩ := getS2 X1_ hx hZ hown (Or.inr (jk hw 61 rfl)) Via.refl e1_ (own_StaKeep O0 Zb) (g := (mkF mM 5 #[vR a] [(.ref a)])) rfl (hC e11_0.2.2.2)
  refine own_fin st2_ ?_
  refine jq X2_ hx hZ hown (jk hw 63 rfl) e2_ F0.g3 F0.E (jk hw 64 rfl) (jk hw 55 rfl) (ty := (.array .byte)) (by decide) rfl rfl (hC e11_8.1) K0 N0 (Or.inl (List.mem_of_getElem? (i := 0) rfl)) g_a fun T3_ h3_ X3_ e3_ W3_ Fw3_ K3_ N3_ => ?_
  have Bw3_ := F0.s3 hw W3_
  refine jg T3_ mM 13 #[vR a] [(.int (-1)), (.ref a)] (fun tT kK => ?_) ?_
  · refine XS.aloadN X3_.here hx rfl (hC e11_8.2.1) rfl rfl ?_
    refine XS.iconst X3_.here hx rfl (hC e11_8.2.2.1) ?_
    exact kK
  refine jq X3_ hx hZ hown (jk hw 65 rfl) e3_ Bw3_.g6 Bw3_.E (jk hw 66 rfl) (jk hw 55 rfl) (ty := .int) (by decide) rfl rfl (hC e11_8.2.2.2) K3_ N3_ (Or.inl (List.mem_of_getElem? (i := 0) rfl)) g_a fun T5_ h5_ X5_ e5_ W5_ Fw5_ K5_ N5_ => ?_
  have Bw5_ := Bw3_.s6 hw W5_
  exact own_rV X5_ hx hlk hre (hC d11_16) e5_ (by decide) (by decide) ⟨rfl, N5_, K5_, Bw5_⟩
theorem e12_0 : jD10 0 (.aload_n 0, 1) ∧ jD10 1 (.getfield 109, 3) ∧ jD10 4 (.iload_n 2, 1) ∧ jD10 5 (.iload_n 1, 1) := by decide +kernel
theorem e12_6 : jD10 6 (.isub, 1) ∧ jD10 7 (.isub, 1) ∧ jD10 8 (.iload 4, 2) ∧ jD10 10 (.iadd, 1) := by decide +kernel
theorem e12_11 : jD10 11 (.istore 5, 2) ∧ jD10 13 (.aload_n 0, 1) ∧ jD10 14 (.getfield 16, 3) ∧ jD10 17 (.astore 6, 2) := by decide +kernel
theorem e12_19 : jD10 19 (.iload 5, 2) ∧ jD10 21 (.aload_n 0, 1) ∧ jD10 22 (.getfield 16, 3) ∧ jD10 25 (.arraylength, 1) := by decide +kernel
theorem e12_26 : jD10 26 (.if_icmp .gt 15, 3) ∧ jD10 41 (.iload 5, 2) ∧ jD10 43 (.ifCond .ne 9, 3) ∧ jD10 52 (.iload 5, 2) := by decide +kernel
theorem e12_54 : jD10 54 (.iload 5, 2) ∧ jD10 56 (.iconst 2, 1) ∧ jD10 57 (.idiv, 1) ∧ jD10 58 (.iadd, 1) := by decide +kernel
theorem e12_59 : jD10 59 (.iconst 1, 1) ∧ jD10 60 (.iadd, 1) ∧ jD10 61 (.anewarray 35, 3) ∧ jD10 64 (.astore 6, 2) := by decide +kernel
theorem e12_66 : jD10 66 (.aload_n 0, 1) ∧ jD10 67 (.getfield 16, 3) ∧ jD10 70 (.iconst 0, 1) ∧ jD10 71 (.aload 6, 2) := by decide +kernel
theorem e12_73 : jD10 73 (.iconst 0, 1) ∧ jD10 74 (.iload_n 1, 1) ∧ jD10 75 (.invokestatic 167, 3) ∧ jD10 78 (.aload_n 0, 1) := by decide +kernel
theorem e12_79 : jD10 79 (.getfield 16, 3) ∧ jD10 82 (.iload_n 2, 1) ∧ jD10 83 (.aload 6, 2) ∧ jD10 85 (.iload_n 1, 1) := by decide +kernel
theorem e12_86 : jD10 86 (.iload 4, 2) ∧ jD10 88 (.iadd, 1) ∧ jD10 89 (.aload_n 0, 1) ∧ jD10 90 (.getfield 109, 3) := by decide +kernel
theorem e12_93 : jD10 93 (.iload_n 2, 1) ∧ jD10 94 (.isub, 1) ∧ jD10 95 (.invokestatic 167, 3) ∧ jD10 98 (.aload_n 3, 1) := by decide +kernel
theorem e12_99 : jD10 99 (.iconst 0, 1) ∧ jD10 100 (.aload 6, 2) ∧ jD10 102 (.iload_n 1, 1) ∧ jD10 103 (.iload 4, 2) := by decide +kernel
theorem e12_105 : jD10 105 (.invokestatic 167, 3) ∧ jD10 108 (.aload 6, 2) ∧ jD10 110 (.aload_n 0, 1) ∧ jD10 111 (.getfield 16, 3) := by decide +kernel
theorem e12_114 : jD10 114 (.if_acmp .ne 26, 3) ∧ jD10 140 (.aload_n 0, 1) ∧ jD10 141 (.aload 6, 2) ∧ jD10 143 (.putfield 16, 3) := by decide +kernel
theorem e12_146 : jD10 146 (.aload_n 0, 1) ∧ jD10 147 (.iload 5, 2) ∧ jD10 149 (.putfield 109, 3) ∧ jD10 152 (.return_, 1) := by decide +kernel
theorem own_ef_rm_rpa (mM : MethodId) (x0 : Addr) (x1 : Int32) (x2 : Int32) (x3 : Addr) (x4 : Int32) : entryFrame mM #[(.ref x0), (.int x1), (.int x2), (.ref x3), (.int x4)] 7 = mkF mM 0 #[.val (.ref x0), .val (.int x1), .val (.int x2), .val (.ref x3), .val (.int x4), .unset, .unset] [] := by first | (simp [entryFrame, mkF, argsToLocals, Value.category]; done) | rfl
def Q_rm_rpa (Z : State) (st : Addr) (w : Addr) (pg : Addr) (np : Addr) (kp : ClassId) (kw : ClassId) (sz : Int64) (pb : Int32) (h0 : Heap) (n0 : Nat) (vV : Option Value) (hH : Heap) (lA : List Loc) : Prop := ∃ pa : Addr, ∃ kq : ClassId, vV = none ∧ Fr n0 lA ∧ (Keep h0 hH [st]) ∧ (h0.size ≤ pa) ∧ (Ovr Z kq "com/example/portion/portion/server/OffsetSet$Page") ∧ (own_bO Z hH st sz (.ref pa) (1 : Int32) pb) ∧ (Arv Z hH pa kq (.object "com/example/portion/portion/server/OffsetSet$Page") (2 : Int32) [(.ref pg), .null] .null)
theorem rm_rpa (lL : Launch) (Z : State) (a0 : Array Value) (hw : own_H a0 Z) (ws : List Jvm.Cond) (st : Addr) (w : Addr) (pg : Addr) (np : Addr) (kp : ClassId) (kw : ClassId) (sz : Int64) (pb : Int32) (h0 : Heap) (n0 : Nat) (Z0 : n0 ≤ h0.size) (F0 : own_bO Z h0 st sz (.ref np) (0 : Int32) pb) (Vn : Arv Z h0 np kp (.object "com/example/portion/portion/server/OffsetSet$Page") (0 : Int32) [] .null) (Vw : Arv Z h0 w kw (.object "com/example/portion/portion/server/OffsetSet$Page") (1 : Int32) [(.ref pg)] .null) (Eg : jE1 Z h0 pg) (g_st : n0 ≤ st) (ne_w_np : w ≠ np) :
    own_Met lL jy10 (Jvm.Cond.code jy10 prog_38_method_24_code 7 none :: ws) jr2 #[(.ref st), (.int 0), (.int 0), (.ref w), (.int 1)] Z h0 (Q_rm_rpa Z st w pg np kp kw sz pb h0 n0) := by
  refine own_begin (plainFor_of_name own_pn_com_example_portion_portion_server_OffsetSet) (fun mM => own_ef_rm_rpa mM st (0 : Int32) (0 : Int32) w (1 : Int32)) fun pP eE sS mM below meth cC s₁ hx hby hml hZ hown hnm hre hlk X0 e0 => ?_
  have hC := @Jvm.hb _ _ hby
  have N0 := Fr.nil n0
  have K0 := Keep.refl h0 [st]
  let ll1 : Array Slot := #[vR st, vI 0, vI 0, vR w, vI 1, vU, vU]
  refine jg s₁ mM 1 ll1 [(.ref st)] (fun tT kK => ?_) ?_
  · refine XS.aloadN X0.here hx rfl (hC e12_0.1) rfl rfl ?_
    exact kK
  refine jf X0 hx hZ hown (jk hw 40 rfl) e0 F0.g2 (hC e12_0.2.1) fun T1_ X1_ e1_ => ?_
  let ll2 : Array Slot := #[vR st, vI 0, vI 0, vR w, vI 1, vI 1, vU]
  refine jg T1_ mM 14 ll2 [(.ref st)] (fun tT kK => ?_) ?_
  · refine XS.iloadN X1_.here hx rfl (hC e12_0.2.2.1) rfl ?_
    refine XS.iloadN X1_.here hx rfl (hC e12_0.2.2.2) rfl ?_
    refine XS.isub X1_.here hx rfl (hC e12_6.1) rfl ?_
    refine XS.isub X1_.here hx rfl (hC e12_6.2.1) rfl ?_
    refine XS.iload X1_.here hx rfl (hC e12_6.2.2.1) rfl ?_
    refine XS.iadd X1_.here hx rfl (hC e12_6.2.2.2) rfl ?_
    refine XS.istore X1_.here hx rfl (hC e12_11.1) rfl (l' := ll2) rfl ?_
    refine XS.aloadN X1_.here hx rfl (hC e12_11.2.1) rfl rfl ?_
    exact kK
  refine jf X1_ hx hZ hown (jk hw 12 rfl) e1_ F0.g1 (hC e12_11.2.2.1) fun T2_ X2_ e2_ => ?_
  let ll3 : Array Slot := #[vR st, vI 0, vI 0, vR w, vI 1, vI 1, vR np]
  refine jg T2_ mM 22 ll3 [(.ref st), (.int 1)] (fun tT kK => ?_) ?_
  · refine XS.astore X2_.here hx rfl (hC e12_11.2.2.2) rfl rfl (l' := ll3) rfl ?_
    refine XS.iload X2_.here hx rfl (hC e12_19.1) rfl ?_
    refine XS.aloadN X2_.here hx rfl (hC e12_19.2.1) rfl rfl ?_
    exact kK
  refine jf X2_ hx hZ hown (jk hw 12 rfl) e2_ F0.g1 (hC e12_19.2.2.1) fun T3_ X3_ e3_ => ?_
  obtain ⟨cl4_, Ar4_, qk4_, Sz4_, Nn4_, Hh4_, Gg4_⟩ := id Vn
  refine jg T3_ mM 61 ll3 [(.int 2)] (fun tT kK => ?_) ?_
  · refine X3_.arraylength hx (own_rw e3_ Ar4_.1) (State.isArrayOf_alike hZ.alike Ar4_.2.1) (g := (mkF mM 25 ll3 [(.ref np), (.int 1)])) rfl rfl (hC e12_19.2.2.2) _ ?_
    rw [len_of Sz4_ Nn4_]
    refine XS.icmpYes X3_.here hx rfl (pc0 := 26) (pc' := 41) rfl (hC e12_26.1) rfl (tlt ((by decide) : (0 : Int32) < (1 : Int32))).2.2.1 (by decide) (by decide) ?_
    refine XS.iload X3_.here hx rfl (hC e12_26.2.1) rfl ?_
    refine XS.ifYes X3_.here hx rfl (pc0 := 43) (pc' := 52) rfl (hC e12_26.2.2.1) rfl ((if0 _ _).trans (feq ((by decide) : ¬ ((1 : Int32) = (0 : Int32)))).2) (by decide) (by decide) ?_
    refine XS.iload X3_.here hx rfl (hC e12_26.2.2.2) rfl ?_
    refine XS.iload X3_.here hx rfl (hC e12_54.1) rfl ?_
    refine XS.iconst X3_.here hx rfl (hC e12_54.2.1) ?_
    refine XS.idiv X3_.here hx rfl (hC e12_54.2.2.1) rfl (by decide) ?_
    refine XS.iadd X3_.here hx rfl (hC e12_54.2.2.2) rfl ?_
    refine XS.iconst X3_.here hx rfl (hC e12_59.1) ?_
    refine XS.iadd X3_.here hx rfl (hC e12_59.2.1) rfl ?_
    exact kK
  obtain ⟨T5_, h5_, k5_, X5_, e5_, E5_, A5_, O5_, st5_⟩ := newR X3_ hx hZ hown (jk hw 54 rfl) (jk hw 67 rfl) e3_ (g := (mkF mM 61 ll3 [(.int 2)])) rfl (hC e12_59.2.2.1) rfl (by decide) (cap := 2) (by decide) (by decide) (by decide) (by decide)
  obtain ⟨b5_, g5_⟩ : ∃ z, z = h0.size := ⟨_, rfl⟩
  rw [← g5_] at A5_ st5_
  have sz_b5_ : h0.size ≤ b5_ := Nat.le_trans K0.1 (Nat.le_of_eq g5_.symm)
  have ge_b5_ : n0 ≤ b5_ := Nat.le_trans Z0 sz_b5_
  have ne6_ : st ≠ b5_ := Nat.ne_of_lt (Nat.lt_of_lt_of_le F0.lt (Nat.le_of_eq g5_.symm))
  have ne7_ : np ≠ b5_ := Nat.ne_of_lt (Nat.lt_of_lt_of_le Vn.lt (Nat.le_of_eq g5_.symm))
  have ne8_ : w ≠ b5_ := Nat.ne_of_lt (Nat.lt_of_lt_of_le Vw.lt (Nat.le_of_eq g5_.symm))
  have fc10_ := F0.ext E5_
  have fc11_ := Vn.ext E5_
  have fc12_ := Vw.ext E5_
  have fc13_ := Eg.ext E5_
  have K5_ := K0.ext E5_
  have V5_ : Arv Z h5_ b5_ k5_ (.object "com/example/portion/portion/server/OffsetSet$Page") (2 : Int32) [.null, .null] .null := (Arv.new A5_ (by decide)).pad (pad_rep [] .null 2)
  refine own_fin st5_ ?_
  let ll4 : Array Slot := #[vR st, vI 0, vI 0, vR w, vI 1, vI 1, vR b5_]
  refine jg T5_ mM 67 ll4 [(.ref st)] (fun tT kK => ?_) ?_
  · refine XS.astore X5_.here hx rfl (hC e12_59.2.2.2) rfl rfl (l' := ll4) rfl ?_
    refine XS.aloadN X5_.here hx rfl (hC e12_66.1) rfl rfl ?_
    exact kK
  refine jf X5_ hx hZ hown (jk hw 12 rfl) e5_ fc10_.g1 (hC e12_66.2.1) fun T14_ X14_ e14_ => ?_
  refine jg T14_ mM 75 ll4 [(.int 0), (.int 0), (.ref b5_), (.int 0), (.ref np)] (fun tT kK => ?_) ?_
  · refine XS.iconst X14_.here hx rfl (hC e12_66.2.2.1) ?_
    refine XS.aload X14_.here hx rfl (hC e12_66.2.2.2) rfl rfl ?_
    refine XS.iconst X14_.here hx rfl (hC e12_73.1) ?_
    refine XS.iloadN X14_.here hx rfl (hC e12_73.2.1) rfl ?_
    exact kK
  obtain ⟨T15_, h15_, L15_, X15_, e15_, N15_, Kc15_, V15_, st15_⟩ := cpA X14_ hx hZ hown (jk hw 73 rfl) (jk hw 76 rfl) (jk hw 74 rfl) (jk hw 75 rfl) e14_ fc11_ V5_ (us := []) (Or.inr ⟨rfl, rfl, trivial⟩) (by decide) (by decide) (by decide) (by decide) (by decide) rfl (Nat.le_of_ble_eq_true rfl) N0 ge_b5_ (g := (mkF mM 75 ll4 [(.int 0), (.int 0), (.ref b5_), (.int 0), (.ref np)])) rfl (by rw [hml]; rfl) rfl (hC e12_73.2.2.1) (by decide) (W := 0) (by show 2 * 0 + _ ≤ _; exact Nat.le_of_eq rfl) (by decide)
  have fc16_ := fc10_.keep Kc15_ (ninS ne6_ nin0)
  have fc17_ := fc11_.keep Kc15_ (ninS ne7_ nin0)
  have fc18_ := fc12_.keep Kc15_ (ninS ne8_ nin0)
  have fc19_ := fc13_.keep Kc15_
  have Vw15_ : Arv Z h15_ b5_ k5_ (.object "com/example/portion/portion/server/OffsetSet$Page") (2 : Int32) [.null, .null] .null := V15_
  have K15_ := K5_.trans Kc15_ (allS (Or.inr sz_b5_) all0)
  refine own_fin st15_ ?_
  refine jg T15_ mM 79 ll4 [(.ref st)] (fun tT kK => ?_) ?_
  · refine XS.aloadN X15_.here hx rfl (hC e12_73.2.2.2) rfl rfl ?_
    exact kK
  refine jf X15_ hx hZ hown (jk hw 12 rfl) e15_ fc16_.g1 (hC e12_79.1) fun T20_ X20_ e20_ => ?_
  refine jg T20_ mM 90 ll4 [(.ref st), (.int 1), (.ref b5_), (.int 0), (.ref np)] (fun tT kK => ?_) ?_
  · refine XS.iloadN X20_.here hx rfl (hC e12_79.2.1) rfl ?_
    refine XS.aload X20_.here hx rfl (hC e12_79.2.2.1) rfl rfl ?_
    refine XS.iloadN X20_.here hx rfl (hC e12_79.2.2.2) rfl ?_
    refine XS.iload X20_.here hx rfl (hC e12_86.1) rfl ?_
    refine XS.iadd X20_.here hx rfl (hC e12_86.2.1) rfl ?_
    refine XS.aloadN X20_.here hx rfl (hC e12_86.2.2.1) rfl rfl ?_
    exact kK
  refine jf X20_ hx hZ hown (jk hw 40 rfl) e20_ fc16_.g2 (hC e12_86.2.2.2) fun T21_ X21_ e21_ => ?_
  refine jg T21_ mM 95 ll4 [(.int 0), (.int 1), (.ref b5_), (.int 0), (.ref np)] (fun tT kK => ?_) ?_
  · refine XS.iloadN X21_.here hx rfl (hC e12_93.1) rfl ?_
    refine XS.isub X21_.here hx rfl (hC e12_93.2.1) rfl ?_
    exact kK
  obtain ⟨T22_, h22_, L22_, X22_, e22_, N22_, Kc22_, V22_, st22_⟩ := cpA X21_ hx hZ hown (jk hw 73 rfl) (jk hw 76 rfl) (jk hw 74 rfl) (jk hw 75 rfl) e21_ fc17_ Vw15_ (us := []) (Or.inr ⟨rfl, rfl, trivial⟩) (by decide) (by decide) (by decide) (by decide) (by decide) rfl (Nat.le_of_ble_eq_true rfl) N15_ ge_b5_ (g := (mkF mM 95 ll4 [(.int 0), (.int 1), (.ref b5_), (.int 0), (.ref np)])) rfl (by rw [hml]; rfl) rfl (hC e12_93.2.2.1) (by decide) (W := 0) (by show 2 * 0 + _ ≤ _; exact Nat.le_of_eq rfl) (by decide)
  have fc23_ := fc16_.keep Kc22_ (ninS ne6_ nin0)
  have fc25_ := fc18_.keep Kc22_ (ninS ne8_ nin0)
  have fc26_ := fc19_.keep Kc22_
  have Vw22_ : Arv Z h22_ b5_ k5_ (.object "com/example/portion/portion/server/OffsetSet$Page") (2 : Int32) [.null, .null] .null := V22_
  have K22_ := K15_.trans Kc22_ (allS (Or.inr sz_b5_) all0)
  refine own_fin st22_ ?_
  refine jg T22_ mM 105 ll4 [(.int 1), (.int 0), (.ref b5_), (.int 0), (.ref w)] (fun tT kK => ?_) ?_
  · refine XS.aloadN X22_.here hx rfl (hC e12_93.2.2.2) rfl rfl ?_
    refine XS.iconst X22_.here hx rfl (hC e12_99.1) ?_
    show Steps pP.tables eE below (T22_.setTop (mkF mM 100 ll4 [(.int 0), (.ref w)])) tT
    refine XS.aload X22_.here hx rfl (hC e12_99.2.1) rfl rfl ?_
    refine XS.iloadN X22_.here hx rfl (hC e12_99.2.2.1) rfl ?_
    refine XS.iload X22_.here hx rfl (hC e12_99.2.2.2) rfl ?_
    exact kK
  obtain ⟨cl27_, Ar27_, qk27_, Sz27_, Nn27_, Hh27_, Gg27_⟩ := id Vw22_
  obtain ⟨T28_, h28_, L28_, X28_, e28_, N28_, Kc28_, V28_, st28_⟩ := cpA X22_ hx hZ hown (jk hw 73 rfl) (jk hw 76 rfl) (jk hw 74 rfl) (jk hw 75 rfl) e22_ fc25_ Vw22_ (us := [(.ref pg)]) (Or.inr ⟨rfl, rfl, ⟨Sto.ofV Ar27_ qk27_ O5_ (Ins.self fc26_), trivial⟩⟩) (by decide) (by decide) (by decide) (by decide) (by decide) rfl (Nat.le_of_ble_eq_true rfl) N22_ ge_b5_ (g := (mkF mM 105 ll4 [(.int 1), (.int 0), (.ref b5_), (.int 0), (.ref w)])) rfl (by rw [hml]; rfl) rfl (hC e12_105.1) (by decide) (W := 0) (by show 2 * 0 + _ ≤ _; exact Nat.le_of_eq rfl) (by decide)
  have fc29_ := fc23_.keep Kc28_ (ninS ne6_ nin0)
  have Vw28_ : Arv Z h28_ b5_ k5_ (.object "com/example/portion/portion/server/OffsetSet$Page") (2 : Int32) [(.ref pg), .null] .null := V28_
  have K28_ := K22_.trans Kc28_ (allS (Or.inr sz_b5_) all0)
  refine own_fin st28_ ?_
  refine jg T28_ mM 111 ll4 [(.ref st), (.ref b5_)] (fun tT kK => ?_) ?_
  · refine XS.aload X28_.here hx rfl (hC e12_105.2.1) rfl rfl ?_
    refine XS.aloadN X28_.here hx rfl (hC e12_105.2.2.1) rfl rfl ?_
    exact kK
  refine jf X28_ hx hZ hown (jk hw 12 rfl) e28_ fc29_.g1 (hC e12_105.2.2.2) fun T33_ X33_ e33_ => ?_
  refine jg T33_ mM 143 ll4 [(.ref b5_), (.ref st)] (fun tT kK => ?_) ?_
  · refine Jvm.RoadKit.acmp (g := (mkF mM 114 ll4 [(.ref np), (.ref b5_)])) X33_ hx rfl rfl rfl (pc0 := 114) (pc' := 140) (same := false) rfl (hC e12_114.1) rfl (decide_eq_false fun q => (Ne.symm ne7_) (Value.ref.inj q)) (by decide) (by decide) ?_
    refine XS.aloadN X33_.here hx rfl (hC e12_114.2.1) rfl rfl ?_
    refine XS.aload X33_.here hx rfl (hC e12_114.2.2.1) rfl rfl ?_
    exact kK
  refine jq X33_ hx hZ hown (jk hw 12 rfl) e33_ fc29_.g1 fc29_.E (jk hw 13 rfl) (jk hw 2 rfl) (ty := (.array (.object "com/example/portion/portion/server/OffsetSet$Page"))) (by decide) rfl rfl (hC e12_114.2.2.2) K28_ N28_ (Or.inl (List.mem_of_getElem? (i := 0) rfl)) g_st fun T34_ h34_ X34_ e34_ W34_ Fw34_ K34_ N34_ => ?_
  have fc41_ := Vw28_.other W34_ (Ne.symm ne6_)
  have Bw34_ := fc29_.s1 hw W34_
  refine jg T34_ mM 149 ll4 [(.int 1), (.ref st)] (fun tT kK => ?_) ?_
  · refine XS.aloadN X34_.here hx rfl (hC e12_146.1) rfl rfl ?_
    refine XS.iload X34_.here hx rfl (hC e12_146.2.1) rfl ?_
    exact kK
  refine jq X34_ hx hZ hown (jk hw 40 rfl) e34_ Bw34_.g2 Bw34_.E (jk hw 41 rfl) (jk hw 2 rfl) (ty := .int) (by decide) rfl rfl (hC e12_146.2.2.1) K34_ N34_ (Or.inl (List.mem_of_getElem? (i := 0) rfl)) g_st fun T42_ h42_ X42_ e42_ W42_ Fw42_ K42_ N42_ => ?_
  have fc46_ := fc41_.other W42_ (Ne.symm ne6_)
  have Bw42_ := Bw34_.s2 hw W42_
  exact own_rV X42_ hx hlk hre (hC e12_146.2.2.2) e42_ (by decide) (by decide) ⟨b5_, k5_, rfl, N42_, K42_, sz_b5_, O5_, Bw42_, fc46_⟩
theorem e12_29 : jD10 29 (.iload 5, 2) ∧ jD10 31 (.aload_n 0, 1) ∧ jD10 32 (.getfield 16, 3) ∧ jD10 35 (.arraylength, 1) := by decide +kernel
theorem e12_36 : jD10 36 (.iconst 4, 1) ∧ jD10 37 (.idiv, 1) ∧ jD10 38 (.if_icmp .gt 40, 3) ∧ jD10 46 (.getstatic 12, 3) := by decide +kernel
theorem d12_49 : jD10 49 (.goto 15, 3) := by decide +kernel
theorem own_ef_rm_rp0 (mM : MethodId) (x0 : Addr) (x1 : Int32) (x2 : Int32) (x3 : Addr) (x4 : Int32) : entryFrame mM #[(.ref x0), (.int x1), (.int x2), (.ref x3), (.int x4)] 7 = mkF mM 0 #[.val (.ref x0), .val (.int x1), .val (.int x2), .val (.ref x3), .val (.int x4), .unset, .unset] [] := by first | (simp [entryFrame, mkF, argsToLocals, Value.category]; done) | rfl
def Q_rm_rp0 (Z : State) (st : Addr) (pg : Addr) (pa : Addr) (np : Addr) (kp : ClassId) (kq : ClassId) (sz : Int64) (pb : Int32) (h0 : Heap) (n0 : Nat) (vV : Option Value) (hH : Heap) (lA : List Loc) : Prop := vV = none ∧ Fr n0 lA ∧ (Keep h0 hH [st]) ∧ (own_bO Z hH st sz (.ref np) (0 : Int32) pb)
theorem rm_rp0 (lL : Launch) (Z : State) (a0 : Array Value) (hw : own_H a0 Z) (ws : List Jvm.Cond) (st : Addr) (pg : Addr) (pa : Addr) (np : Addr) (kp : ClassId) (kq : ClassId) (sz : Int64) (pb : Int32) (h0 : Heap) (n0 : Nat) (Z0 : n0 ≤ h0.size) (F0 : own_bO Z h0 st sz (.ref pa) (1 : Int32) pb) (Vn : Arv Z h0 np kp (.object "com/example/portion/portion/server/OffsetSet$Page") (0 : Int32) [] .null) (Vp : Arv Z h0 pa kq (.object "com/example/portion/portion/server/OffsetSet$Page") (2 : Int32) [(.ref pg), .null] .null) (Zp : Sta Z Z.heap "com/example/portion/portion/server/OffsetSet" "NO_PAGES" "[Lcom/example/portion/portion/server/OffsetSet$Page;" (.ref np)) (O0 : Old Z n0 h0) (g_st : n0 ≤ st) (ne_np_pa : np ≠ pa) :
    own_Met lL jy10 (Jvm.Cond.code jy10 prog_38_method_24_code 7 none :: ws) jr3 #[(.ref st), (.int 0), (.int 1), (.ref np), (.int 0)] Z h0 (Q_rm_rp0 Z st pg pa np kp kq sz pb h0 n0) := by
  refine own_begin (plainFor_of_name own_pn_com_example_portion_portion_server_OffsetSet) (fun mM => own_ef_rm_rp0 mM st (0 : Int32) (1 : Int32) np (0 : Int32)) fun pP eE sS mM below meth cC s₁ hx hby hml hZ hown hnm hre hlk X0 e0 => ?_
  have hC := @Jvm.hb _ _ hby
  have N0 := Fr.nil n0
  have K0 := Keep.refl h0 [st]
  let ll1 : Array Slot := #[vR st, vI 0, vI 1, vR np, vI 0, vU, vU]
  refine jg s₁ mM 1 ll1 [(.ref st)] (fun tT kK => ?_) ?_
  · refine XS.aloadN X0.here hx rfl (hC e12_0.1) rfl rfl ?_
    exact kK
  refine jf X0 hx hZ hown (jk hw 40 rfl) e0 F0.g2 (hC e12_0.2.1) fun T1_ X1_ e1_ => ?_
  let ll2 : Array Slot := #[vR st, vI 0, vI 1, vR np, vI 0, vI 0, vU]
  refine jg T1_ mM 14 ll2 [(.ref st)] (fun tT kK => ?_) ?_
  · refine XS.iloadN X1_.here hx rfl (hC e12_0.2.2.1) rfl ?_
    refine XS.iloadN X1_.here hx rfl (hC e12_0.2.2.2) rfl ?_
    refine XS.isub X1_.here hx rfl (hC e12_6.1) rfl ?_
    refine XS.isub X1_.here hx rfl (hC e12_6.2.1) rfl ?_
    refine XS.iload X1_.here hx rfl (hC e12_6.2.2.1) rfl ?_
    refine XS.iadd X1_.here hx rfl (hC e12_6.2.2.2) rfl ?_
    refine XS.istore X1_.here hx rfl (hC e12_11.1) rfl (l' := ll2) rfl ?_
    refine XS.aloadN X1_.here hx rfl (hC e12_11.2.1) rfl rfl ?_
    exact kK
  refine jf X1_ hx hZ hown (jk hw 12 rfl) e1_ F0.g1 (hC e12_11.2.2.1) fun T2_ X2_ e2_ => ?_
  let ll3 : Array Slot := #[vR st, vI 0, vI 1, vR np, vI 0, vI 0, vR pa]
  refine jg T2_ mM 22 ll3 [(.ref st), (.int 0)] (fun tT kK => ?_) ?_
  · refine XS.astore X2_.here hx rfl (hC e12_11.2.2.2) rfl rfl (l' := ll3) rfl ?_
    refine XS.iload X2_.here hx rfl (hC e12_19.1) rfl ?_
    refine XS.aloadN X2_.here hx rfl (hC e12_19.2.1) rfl rfl ?_
    exact kK
  refine jf X2_ hx hZ hown (jk hw 12 rfl) e2_ F0.g1 (hC e12_19.2.2.1) fun T3_ X3_ e3_ => ?_
  obtain ⟨cl4_, Ar4_, qk4_, Sz4_, Nn4_, Hh4_, Gg4_⟩ := id Vp
  refine jg T3_ mM 32 ll3 [(.ref st), (.int 0)] (fun tT kK => ?_) ?_
  · refine X3_.arraylength hx (own_rw e3_ Ar4_.1) (State.isArrayOf_alike hZ.alike Ar4_.2.1) (g := (mkF mM 25 ll3 [(.ref pa), (.int 0)])) rfl rfl (hC e12_19.2.2.2) _ ?_
    rw [len_of Sz4_ Nn4_]
    refine XS.icmpNo X3_.here hx rfl (hC e12_26.1) rfl (flt ((by decide) : ¬ ((2 : Int32) < (0 : Int32)))).2.2.1 ?_
    refine XS.iload X3_.here hx rfl (hC e12_29.1) rfl ?_
    refine XS.aloadN X3_.here hx rfl (hC e12_29.2.1) rfl rfl ?_
    exact kK
  refine jf X3_ hx hZ hown (jk hw 12 rfl) e3_ F0.g1 (hC e12_29.2.2.1) fun T5_ X5_ e5_ => ?_
  obtain ⟨cl6_, Ar6_, qk6_, Sz6_, Nn6_, Hh6_, Gg6_⟩ := id Vp
  refine jg T5_ mM 46 ll3 [] (fun tT kK => ?_) ?_
  · refine X5_.arraylength hx (own_rw e5_ Ar6_.1) (State.isArrayOf_alike hZ.alike Ar6_.2.1) (g := (mkF mM 35 ll3 [(.ref pa), (.int 0)])) rfl rfl (hC e12_29.2.2.2) _ ?_
    rw [len_of Sz6_ Nn6_]
    refine XS.iconst X5_.here hx rfl (hC e12_36.1) ?_
    refine XS.idiv X5_.here hx rfl (hC e12_36.2.1) rfl (by decide) ?_
    refine XS.icmpNo X5_.here hx rfl (hC e12_36.2.2.1) rfl (flt ((by decide) : ¬ ((0 : Int32) < (0 : Int32)))).2.2.1 ?_
    refine XS.iload X5_.here hx rfl (hC e12_26.2.1) rfl ?_
    refine XS.ifNo X5_.here hx rfl (hC e12_26.2.2.1) rfl ((if0 _ _).trans (teq ((by decide) : (0 : Int32) = (0 : Int32))).2) ?_
    exact kK
  obtain ⟨T7_, X7_, e7_, st7_⟩ := getS2 X5_ hx hZ hown (host := "") (Or.inl (jk hw 10 rfl)) Via.refl e5_ (own_StaKeep O0 Zp) (g := (mkF mM 46 ll3 [])) rfl (hC e12_36.2.2.2)
  refine own_fin st7_ ?_
  let ll4 : Array Slot := #[vR st, vI 0, vI 1, vR np, vI 0, vI 0, vR np]
  refine jg T7_ mM 67 ll4 [(.ref st)] (fun tT kK => ?_) ?_
  · refine XS.goto X7_.here hx rfl (pc0 := 49) (pc' := 64) rfl (hC d12_49) (by decide) (by decide) ?_
    refine XS.astore X7_.here hx rfl (hC e12_59.2.2.2) rfl rfl (l' := ll4) rfl ?_
    refine XS.aloadN X7_.here hx rfl (hC e12_66.1) rfl rfl ?_
    exact kK
  refine jf X7_ hx hZ hown (jk hw 12 rfl) e7_ F0.g1 (hC e12_66.2.1) fun T8_ X8_ e8_ => ?_
  refine jg T8_ mM 75 ll4 [(.int 0), (.int 0), (.ref np), (.int 0), (.ref pa)] (fun tT kK => ?_) ?_
  · refine XS.iconst X8_.here hx rfl (hC e12_66.2.2.1) ?_
    refine XS.aload X8_.here hx rfl (hC e12_66.2.2.2) rfl rfl ?_
    refine XS.iconst X8_.here hx rfl (hC e12_73.1) ?_
    refine XS.iloadN X8_.here hx rfl (hC e12_73.2.1) rfl ?_
    exact kK
  obtain ⟨T9_, X9_, e9_, st9_⟩ := own_cp0 X8_ hx hZ hown (jk hw 73 rfl) (jk hw 76 rfl) (jk hw 74 rfl) (jk hw 75 rfl) e8_ Vp Vn (Or.inr ⟨rfl, rfl⟩) (by decide) (by decide) (Nat.zero_le _) (Nat.zero_le _) (g := (mkF mM 75 ll4 [(.int 0), (.int 0), (.ref np), (.int 0), (.ref pa)])) rfl (by rw [hml]; rfl) rfl (hC e12_73.2.2.1) (by decide) (W := 0) (by show 2 * 0 + _ ≤ _; exact Nat.le_of_eq rfl) (by decide)
  refine own_fin st9_ ?_
  refine jg T9_ mM 79 ll4 [(.ref st)] (fun tT kK => ?_) ?_
  · refine XS.aloadN X9_.here hx rfl (hC e12_73.2.2.2) rfl rfl ?_
    exact kK
  refine jf X9_ hx hZ hown (jk hw 12 rfl) e9_ F0.g1 (hC e12_79.1) fun T10_ X10_ e10_ => ?_
  refine jg T10_ mM 90 ll4 [(.ref st), (.int 0), (.ref np), (.int 1), (.ref pa)] (fun tT kK => ?_) ?_
  · refine XS.iloadN X10_.here hx rfl (hC e12_79.2.1) rfl ?_
    refine XS.aload X10_.here hx rfl (hC e12_79.2.2.1) rfl rfl ?_
    refine XS.iloadN X10_.here hx rfl (hC e12_79.2.2.2) rfl ?_
    refine XS.iload X10_.here hx rfl (hC e12_86.1) rfl ?_
    refine XS.iadd X10_.here hx rfl (hC e12_86.2.1) rfl ?_
    refine XS.aloadN X10_.here hx rfl (hC e12_86.2.2.1) rfl rfl ?_
    exact kK
  refine jf X10_ hx hZ hown (jk hw 40 rfl) e10_ F0.g2 (hC e12_86.2.2.2) fun T11_ X11_ e11_ => ?_
  refine jg T11_ mM 95 ll4 [(.int 0), (.int 0), (.ref np), (.int 1), (.ref pa)] (fun tT kK => ?_) ?_
  · refine XS.iloadN X11_.here hx rfl (hC e12_93.1) rfl ?_
    refine XS.isub X11_.here hx rfl (hC e12_93.2.1) rfl ?_
    exact kK
  obtain ⟨T12_, X12_, e12_, st12_⟩ := own_cp0 X11_ hx hZ hown (jk hw 73 rfl) (jk hw 76 rfl) (jk hw 74 rfl) (jk hw 75 rfl) e11_ Vp Vn (Or.inr ⟨rfl, rfl⟩) (by decide) (by decide) (by decide) (Nat.zero_le _) (g := (mkF mM 95 ll4 [(.int 0), (.int 0), (.ref np), (.int 1), (.ref pa)])) rfl (by rw [hml]; rfl) rfl (hC e12_93.2.2.1) (by decide) (W := 0) (by show 2 * 0 + _ ≤ _; exact Nat.le_of_eq rfl) (by decide)
  refine own_fin st12_ ?_
  refine jg T12_ mM 105 ll4 [(.int 0), (.int 0), (.ref np), (.int 0), (.ref np)] (fun tT kK => ?_) ?_
  · refine XS.aloadN X12_.here hx rfl (hC e12_93.2.2.2) rfl rfl ?_
    refine XS.iconst X12_.here hx rfl (hC e12_99.1) ?_
    show Steps pP.tables eE below (T12_.setTop (mkF mM 100 ll4 [(.int 0), (.ref np)])) tT
    refine XS.aload X12_.here hx rfl (hC e12_99.2.1) rfl rfl ?_
    refine XS.iloadN X12_.here hx rfl (hC e12_99.2.2.1) rfl ?_
    refine XS.iload X12_.here hx rfl (hC e12_99.2.2.2) rfl ?_
    exact kK
  obtain ⟨T13_, X13_, e13_, st13_⟩ := own_cp0 X12_ hx hZ hown (jk hw 73 rfl) (jk hw 76 rfl) (jk hw 74 rfl) (jk hw 75 rfl) e12_ Vn Vn (Or.inr ⟨rfl, rfl⟩) (by decide) (by decide) (Nat.zero_le _) (Nat.zero_le _) (g := (mkF mM 105 ll4 [(.int 0), (.int 0), (.ref np), (.int 0), (.ref np)])) rfl (by rw [hml]; rfl) rfl (hC e12_105.1) (by decide) (W := 0) (by show 2 * 0 + _ ≤ _; exact Nat.le_of_eq rfl) (by decide)
  refine own_fin st13_ ?_
  refine jg T13_ mM 111 ll4 [(.ref st), (.ref np)] (fun tT kK => ?_) ?_
  · refine XS.aload X13_.here hx rfl (hC e12_105.2.1) rfl rfl ?_
    refine XS.aloadN X13_.here hx rfl (hC e12_105.2.2.1) rfl rfl ?_
    exact kK
  refine jf X13_ hx hZ hown (jk hw 12 rfl) e13_ F0.g1 (hC e12_105.2.2.2) fun T14_ X14_ e14_ => ?_
  refine jg T14_ mM 143 ll4 [(.ref np), (.ref st)] (fun tT kK => ?_) ?_
  · refine Jvm.RoadKit.acmp (g := (mkF mM 114 ll4 [(.ref pa), (.ref np)])) X14_ hx rfl rfl rfl (pc0 := 114) (pc' := 140) (same := false) rfl (hC e12_114.1) rfl (decide_eq_false fun q => ne_np_pa (Value.ref.inj q)) (by decide) (by decide) ?_
    refine XS.aloadN X14_.here hx rfl (hC e12_114.2.1) rfl rfl ?_
    refine XS.aload X14_.here hx rfl (hC e12_114.2.2.1) rfl rfl ?_
    exact kK
  refine jq X14_ hx hZ hown (jk hw 12 rfl) e14_ F0.g1 F0.E (jk hw 13 rfl) (jk hw 2 rfl) (ty := (.array (.object "com/example/portion/portion/server/OffsetSet$Page"))) (by decide) rfl rfl (hC e12_114.2.2.2) K0 N0 (Or.inl (List.mem_of_getElem? (i := 0) rfl)) g_st fun T15_ h15_ X15_ e15_ W15_ Fw15_ K15_ N15_ => ?_
  have Bw15_ := F0.s1 hw W15_
  refine jg T15_ mM 149 ll4 [(.int 0), (.ref st)] (fun tT kK => ?_) ?_
  · refine XS.aloadN X15_.here hx rfl (hC e12_146.1) rfl rfl ?_
    refine XS.iload X15_.here hx rfl (hC e12_146.2.1) rfl ?_
    exact kK
  refine jq X15_ hx hZ hown (jk hw 40 rfl) e15_ Bw15_.g2 Bw15_.E (jk hw 41 rfl) (jk hw 2 rfl) (ty := .int) (by decide) rfl rfl (hC e12_146.2.2.1) K15_ N15_ (Or.inl (List.mem_of_getElem? (i := 0) rfl)) g_st fun T21_ h21_ X21_ e21_ W21_ Fw21_ K21_ N21_ => ?_
  have Bw21_ := Bw15_.s2 hw W21_
  exact own_rV X21_ hx hlk hre (hC e12_146.2.2.2) e21_ (by decide) (by decide) ⟨rfl, N21_, K21_, Bw21_⟩
theorem e28_2 : jD11 2 (.lload_n 3, 1) ∧ jD11 3 (.ldc2_w 145, 3) ∧ jD11 6 (.land, 1) ∧ jD11 7 (.lconst 0, 1) := by decide +kernel
theorem e28_8 : jD11 8 (.lcmp, 1) ∧ jD11 9 (.ifCond .eq 38, 3) ∧ jD11 47 (.aload_n 0, 1) ∧ jD11 48 (.getfield 13, 3) := by decide +kernel
theorem e28_51 : jD11 51 (.aload_n 0, 1) ∧ jD11 52 (.dup, 1) ∧ jD11 53 (.getfield 35, 3) ∧ jD11 56 (.dup_x1, 1) := by decide +kernel
theorem e28_57 : jD11 57 (.iconst 1, 1) ∧ jD11 58 (.iadd, 1) ∧ jD11 59 (.putfield 35, 3) ∧ jD11 62 (.lload_n 3, 1) := by decide +kernel
theorem e28_63 : jD11 63 (.l2i, 1) ∧ jD11 64 (.i2b, 1) ∧ jD11 65 (.bastore, 1) ∧ jD11 12 (.aload_n 0, 1) := by decide +kernel
theorem e28_13 : jD11 13 (.getfield 13, 3) ∧ jD11 16 (.aload_n 0, 1) ∧ jD11 17 (.dup, 1) ∧ jD11 18 (.getfield 35, 3) := by decide +kernel
theorem e28_21 : jD11 21 (.dup_x1, 1) ∧ jD11 22 (.iconst 1, 1) ∧ jD11 23 (.iadd, 1) ∧ jD11 24 (.putfield 35, 3) := by decide +kernel
theorem e28_27 : jD11 27 (.lload_n 3, 1) ∧ jD11 28 (.ldc2_w 147, 3) ∧ jD11 31 (.land, 1) ∧ jD11 32 (.ldc2_w 149, 3) := by decide +kernel
theorem e28_35 : jD11 35 (.lor, 1) ∧ jD11 36 (.l2i, 1) ∧ jD11 37 (.i2b, 1) ∧ jD11 38 (.bastore, 1) := by decide +kernel
theorem e28_39 : jD11 39 (.lload_n 3, 1) ∧ jD11 40 (.bipush 7, 2) ∧ jD11 42 (.lushr, 1) ∧ jD11 43 (.lstore_n 3, 1) := by decide +kernel
theorem d28_44 : jD11 44 (.goto (-42), 3) := by decide +kernel
theorem own_lpw {pP : Program} {lL : Launch} {eE : Env} {R : Room} {sS : State} {mM : MethodId} {args : Array Value} {below : List Frame} {meth : Method} {cC : Code} {cells slots : Nat} {PP : State → Outcome → Prop} (Z : State) (a0 : Array Value) (hw : own_H a0 Z) (a : Addr) (ba : Addr) (kb : ClassId) (sz : Int64) (ff : Int64) (ft : Int64) (lg : Int64) (lf : Int64) (lt : Int64) (v : Int64) (en : Int32) (la : Int32) (z : Int32) (vs : List Value) (h0 : Heap) (n0 : Nat) (Z0 : n0 ≤ h0.size) (hl : vs.length = z.toNatClampNeg) (he : 0 ≤ en.toInt ∧ en.toInt + 9 ≤ z.toInt) (hv : 0 ≤ v.toInt) (g_a : n0 ≤ a) (g_ba : n0 ≤ ba) (hx : pP.tables.exec = Jvm.exec) (hZ : Z.Warmed39 sS.vm) (hby : cC.code = prog_39_method_20_code) (hml : cC.maxLocals = 5) (hown : sS.vm.findClass "com/example/portion/portion/server/OffsetSet$Page" = some mM.cls)
    (kont0 : ∀ (r : Int64) (e : Int32) (us : List Value) (Th : State) (hh : Heap) (Lh : List Loc), Stand pP lL eE R sS mM args below meth cC Th Lh cells slots → Th.heap = hh → Fr n0 Lh → Keep h0 hh [a, ba] → (own_bP Z hh a sz ff ft (.ref ba) (0 : Int32) e la lg lf lt) → (Arv Z hh ba kb .byte z us (.int 0)) → (own_D vs us en.toNatClampNeg v.toInt e.toNatClampNeg) → (en.toInt < e.toInt ∧ e.toInt ≤ en.toInt + 9) → own_Fin pP eE below PP (Th.setTop (mkF mM 66 #[.val (.ref a), .val (.long v), .second, .val (.long r), .second] []))) :
    ∀ (k i : Nat) (r : Int64) (e : Int32) (us : List Value) (Th : State) (hh : Heap) (Lh : List Loc), i + k = 8 → Stand pP lL eE R sS mM args below meth cC Th Lh cells slots → Th.heap = hh → Fr n0 Lh → Keep h0 hh [a, ba] → (own_bP Z hh a sz ff ft (.ref ba) (0 : Int32) e la lg lf lt) → (Arv Z hh ba kb .byte z us (.int 0)) → (own_G vs us (k + 1) en.toNatClampNeg e.toNatClampNeg v.toInt r.toInt) → (0 ≤ r.toInt ∧ r.toInt < ((128 ^ (k + 1) : Nat) : Int)) → (e.toInt = en.toInt + i) → own_Fin pP eE below PP (Th.setTop (mkF mM 2 #[.val (.ref a), .val (.long v), .second, .val (.long r), .second] [])) := by
  have hC := @Jvm.hb _ _ hby
  intro k
  induction k with
  | zero =>
      intro i r e us Th hh Lh hik Xh eh Nh Kh I0 I1 Pg Pr Pe
      have rz := rng32 z
      have o1 : (1 : Int32).toInt = 1 := rfl
      have te := own_add3 (x := e) (y := (1 : Int32)) (by omega)
      have ecn : (e + (1 : Int32)).toNatClampNeg = e.toNatClampNeg + 1 := by simp only [Int32.toNatClampNeg]; omega
      have hle : e.toNatClampNeg < us.length := own_in (z := z) ⟨by omega, by omega⟩ (Pg.1.trans hl)
      have hr8 : r.toInt < 128 := by have h := Pr.2; rw [show (128 ^ (0 + 1) : Nat) = 128 from rfl] at h; omega
      let ll1 : Array Slot := #[vR a, vJ v, vS, vJ r, vS]
      refine jg Th mM 48 ll1 [(.ref a)] (fun tT kK => ?_) ?_
      · refine XS.lloadN Xh.here hx rfl (hC e28_2.1) rfl ?_
        refine Xh.ldc2Long hx hown (jm hZ hw 187 rfl) (g := (mkF mM 3 ll1 [(.long r)])) rfl (hC e28_2.2.1) _ ?_
        refine XS.land Xh.here hx rfl (hC e28_2.2.2.1) rfl ?_
        refine XS.lconst Xh.here hx rfl (hC e28_2.2.2.2) ?_
        refine XS.lcmp Xh.here hx rfl (hC e28_8.1) rfl ?_
        refine XS.ifYes Xh.here hx rfl (pc0 := 9) (pc' := 47) rfl (hC e28_8.2.1) rfl ((if0 _ _).trans (teq ((lw_eq (r &&& (-128 : Int64)) (0 : Int64)).mpr (own_low ⟨Pr.1, hr8⟩ : (r &&& (-128 : Int64)) = (0 : Int64)))).1) (by decide) (by decide) ?_
        refine XS.aloadN Xh.here hx rfl (hC e28_8.2.2.1) rfl rfl ?_
        exact kK
      refine jf Xh hx hZ hown (jk hw 63 rfl) eh I0.g3 (hC e28_8.2.2.2) fun T1_ X1_ e1_ => ?_
      refine jg T1_ mM 53 ll1 [(.ref a), (.ref a), (.ref ba)] (fun tT kK => ?_) ?_
      · refine XS.aloadN X1_.here hx rfl (hC e28_51.1) rfl rfl ?_
        refine XS.dup X1_.here hx rfl (hC e28_51.2.1) rfl rfl ?_
        exact kK
      refine jf X1_ hx hZ hown (jk hw 146 rfl) e1_ I0.g5 (hC e28_51.2.2.1) fun T2_ X2_ e2_ => ?_
      refine jg T2_ mM 59 ll1 [(.int (e + (1 : Int32))), (.ref a), (.int e), (.ref ba)] (fun tT kK => ?_) ?_
      · refine XS.dupX1 X2_.here hx rfl (hC e28_51.2.2.2) rfl rfl rfl ?_
        refine XS.iconst X2_.here hx rfl (hC e28_57.1) ?_
        refine XS.iadd X2_.here hx rfl (hC e28_57.2.1) rfl ?_
        exact kK
      refine jq X2_ hx hZ hown (jk hw 146 rfl) e2_ I0.g5 I0.E (jk hw 139 rfl) (jk hw 55 rfl) (ty := .int) (by decide) rfl rfl (hC e28_57.2.2.1) Kh Nh (Or.inl (List.mem_of_getElem? (i := 0) rfl)) g_a fun T3_ h3_ X3_ e3_ W3_ Fw3_ K3_ N3_ => ?_
      have ne4_ : ba ≠ a := (Ne.symm (own_neV I0.E I1 (jk hw 55 rfl)))
      have fc5_ := I1.other W3_ ne4_
      have Bw3_ := I0.s5 hw W3_
      refine jg T3_ mM 65 ll1 [(.int ((r.toInt32).toInt8.toInt32)), (.int e), (.ref ba)] (fun tT kK => ?_) ?_
      · refine XS.lloadN X3_.here hx rfl (hC e28_57.2.2.2) rfl ?_
        refine XS.l2i X3_.here hx rfl (hC e28_63.1) rfl ?_
        refine XS.i2b X3_.here hx rfl (hC e28_63.2.1) rfl ?_
        exact kK
      obtain ⟨cl6_, Ar6_, qk6_, Sz6_, Nn6_, Hh6_, Gg6_⟩ := id fc5_
      have hin7_ : ¬ (e < 0 ∨ cl6_.slots.size ≤ (e).toNatClampNeg) := inb_of Sz6_ (own_ix ⟨by omega, by omega⟩)
      obtain ⟨T7_, h7_, X7_, e7_, W7_, st7_⟩ := stB X3_ hx hZ e3_ Ar6_ (j := e) hin7_ (g := (mkF mM 65 ll1 [(.int ((r.toInt32).toInt8.toInt32)), (.int e), (.ref ba)])) rfl rfl (hC e28_63.2.2.1)
      have V7_ : Arv Z h7_ ba kb .byte z (us.set (e).toNatClampNeg (.int (nar .byte ((r.toInt32).toInt8.toInt32)))) (.int 0) := Arv.set Ar6_ qk6_ Sz6_ Nn6_ Hh6_ Gg6_ (fits_nar_byte _) W7_ _ rfl hle
      have fc8_ := Bw3_.other W7_ (Ne.symm ne4_)
      have K7_ := K3_.wr W7_ (Or.inl (List.mem_of_getElem? (i := 1) rfl))
      have N7_ := Fr.snoc X7_ N3_ g_ba
      refine own_fin st7_ ?_
      exact kont0 r (e + (1 : Int32)) (us.set (e).toNatClampNeg (.int (nar .byte ((r.toInt32).toInt8.toInt32)))) _ _ _ X7_ e7_ N7_ K7_ fc8_ V7_ (by rw [ecn]; exact own_G.stop Pg ⟨Pr.1, hr8⟩ hle (own_wb0 ⟨Pr.1, hr8⟩)) (by omega)
  | succ k ih =>
      intro i r e us Th hh Lh hik Xh eh Nh Kh I0 I1 Pg Pr Pe
      have rz := rng32 z
      have o1 : (1 : Int32).toInt = 1 := rfl
      have te := own_add3 (x := e) (y := (1 : Int32)) (by omega)
      have ecn : (e + (1 : Int32)).toNatClampNeg = e.toNatClampNeg + 1 := by simp only [Int32.toNatClampNeg]; omega
      have hle : e.toNatClampNeg < us.length := own_in (z := z) ⟨by omega, by omega⟩ (Pg.1.trans hl)
      let ll2 : Array Slot := #[vR a, vJ v, vS, vJ r, vS]
      refine jg Th mM 9 ll2 [(.int (lcmpW (r &&& (-128 : Int64)) (0 : Int64)))] (fun tT kK => ?_) ?_
      · refine XS.lloadN Xh.here hx rfl (hC e28_2.1) rfl ?_
        refine Xh.ldc2Long hx hown (jm hZ hw 187 rfl) (g := (mkF mM 3 ll2 [(.long r)])) rfl (hC e28_2.2.1) _ ?_
        refine XS.land Xh.here hx rfl (hC e28_2.2.2.1) rfl ?_
        refine XS.lconst Xh.here hx rfl (hC e28_2.2.2.2) ?_
        refine XS.lcmp Xh.here hx rfl (hC e28_8.1) rfl ?_
        exact kK
      by_cases hc9_9_ : (r &&& (-128 : Int64)) = (0 : Int64)
      · refine jg Th mM 47 ll2 [] (fun tT kK => ?_) ?_
        · refine XS.ifYes Xh.here hx rfl (pc0 := 9) (pc' := 47) rfl (hC e28_8.2.1) rfl ((if0 _ _).trans (teq ((lw_eq (r &&& (-128 : Int64)) (0 : Int64)).mpr (hc9_9_ : (r &&& (-128 : Int64)) = (0 : Int64)))).1) (by decide) (by decide) ?_
          exact kK
        have hr8 := own_low' Pr.1 hc9_9_
        refine jg Th mM 48 ll2 [(.ref a)] (fun tT kK => ?_) ?_
        · refine XS.aloadN Xh.here hx rfl (hC e28_8.2.2.1) rfl rfl ?_
          exact kK
        refine jf Xh hx hZ hown (jk hw 63 rfl) eh I0.g3 (hC e28_8.2.2.2) fun T10_ X10_ e10_ => ?_
        refine jg T10_ mM 53 ll2 [(.ref a), (.ref a), (.ref ba)] (fun tT kK => ?_) ?_
        · refine XS.aloadN X10_.here hx rfl (hC e28_51.1) rfl rfl ?_
          refine XS.dup X10_.here hx rfl (hC e28_51.2.1) rfl rfl ?_
          exact kK
        refine jf X10_ hx hZ hown (jk hw 146 rfl) e10_ I0.g5 (hC e28_51.2.2.1) fun T11_ X11_ e11_ => ?_
        refine jg T11_ mM 59 ll2 [(.int (e + (1 : Int32))), (.ref a), (.int e), (.ref ba)] (fun tT kK => ?_) ?_
        · refine XS.dupX1 X11_.here hx rfl (hC e28_51.2.2.2) rfl rfl rfl ?_
          refine XS.iconst X11_.here hx rfl (hC e28_57.1) ?_
          refine XS.iadd X11_.here hx rfl (hC e28_57.2.1) rfl ?_
          exact kK
        refine jq X11_ hx hZ hown (jk hw 146 rfl) e11_ I0.g5 I0.E (jk hw 139 rfl) (jk hw 55 rfl) (ty := .int) (by decide) rfl rfl (hC e28_57.2.2.1) Kh Nh (Or.inl (List.mem_of_getElem? (i := 0) rfl)) g_a fun T12_ h12_ X12_ e12_ W12_ Fw12_ K12_ N12_ => ?_
        have ne13_ : ba ≠ a := (Ne.symm (own_neV I0.E I1 (jk hw 55 rfl)))
        have fc14_ := I1.other W12_ ne13_
        have Bw12_ := I0.s5 hw W12_
        refine jg T12_ mM 65 ll2 [(.int ((r.toInt32).toInt8.toInt32)), (.int e), (.ref ba)] (fun tT kK => ?_) ?_
        · refine XS.lloadN X12_.here hx rfl (hC e28_57.2.2.2) rfl ?_
          refine XS.l2i X12_.here hx rfl (hC e28_63.1) rfl ?_
          refine XS.i2b X12_.here hx rfl (hC e28_63.2.1) rfl ?_
          exact kK
        obtain ⟨cl15_, Ar15_, qk15_, Sz15_, Nn15_, Hh15_, Gg15_⟩ := id fc14_
        have hin16_ : ¬ (e < 0 ∨ cl15_.slots.size ≤ (e).toNatClampNeg) := inb_of Sz15_ (own_ix ⟨by omega, by omega⟩)
        obtain ⟨T16_, h16_, X16_, e16_, W16_, st16_⟩ := stB X12_ hx hZ e12_ Ar15_ (j := e) hin16_ (g := (mkF mM 65 ll2 [(.int ((r.toInt32).toInt8.toInt32)), (.int e), (.ref ba)])) rfl rfl (hC e28_63.2.2.1)
        have V16_ : Arv Z h16_ ba kb .byte z (us.set (e).toNatClampNeg (.int (nar .byte ((r.toInt32).toInt8.toInt32)))) (.int 0) := Arv.set Ar15_ qk15_ Sz15_ Nn15_ Hh15_ Gg15_ (fits_nar_byte _) W16_ _ rfl hle
        have fc17_ := Bw12_.other W16_ (Ne.symm ne13_)
        have K16_ := K12_.wr W16_ (Or.inl (List.mem_of_getElem? (i := 1) rfl))
        have N16_ := Fr.snoc X16_ N12_ g_ba
        refine own_fin st16_ ?_
        exact kont0 r (e + (1 : Int32)) (us.set (e).toNatClampNeg (.int (nar .byte ((r.toInt32).toInt8.toInt32)))) _ _ _ X16_ e16_ N16_ K16_ fc17_ V16_ (by rw [ecn]; exact own_G.stop Pg ⟨Pr.1, hr8⟩ hle (own_wb0 ⟨Pr.1, hr8⟩)) (by omega)
      · refine jg Th mM 12 ll2 [] (fun tT kK => ?_) ?_
        · refine XS.ifNo Xh.here hx rfl (hC e28_8.2.1) rfl ((if0 _ _).trans (feq (mt (lw_eq (r &&& (-128 : Int64)) (0 : Int64)).mp (hc9_9_ : ¬ ((r &&& (-128 : Int64)) = (0 : Int64))))).1) ?_
          exact kK
        have hr8 := own_low'' Pr.1 hc9_9_
        have hs7 := own_sh7 (x := r) Pr.1
        refine jg Th mM 13 ll2 [(.ref a)] (fun tT kK => ?_) ?_
        · refine XS.aloadN Xh.here hx rfl (hC e28_63.2.2.2) rfl rfl ?_
          exact kK
        refine jf Xh hx hZ hown (jk hw 63 rfl) eh I0.g3 (hC e28_13.1) fun T18_ X18_ e18_ => ?_
        refine jg T18_ mM 18 ll2 [(.ref a), (.ref a), (.ref ba)] (fun tT kK => ?_) ?_
        · refine XS.aloadN X18_.here hx rfl (hC e28_13.2.1) rfl rfl ?_
          refine XS.dup X18_.here hx rfl (hC e28_13.2.2.1) rfl rfl ?_
          exact kK
        refine jf X18_ hx hZ hown (jk hw 146 rfl) e18_ I0.g5 (hC e28_13.2.2.2) fun T19_ X19_ e19_ => ?_
        refine jg T19_ mM 24 ll2 [(.int (e + (1 : Int32))), (.ref a), (.int e), (.ref ba)] (fun tT kK => ?_) ?_
        · refine XS.dupX1 X19_.here hx rfl (hC e28_21.1) rfl rfl rfl ?_
          refine XS.iconst X19_.here hx rfl (hC e28_21.2.1) ?_
          refine XS.iadd X19_.here hx rfl (hC e28_21.2.2.1) rfl ?_
          exact kK
        refine jq X19_ hx hZ hown (jk hw 146 rfl) e19_ I0.g5 I0.E (jk hw 139 rfl) (jk hw 55 rfl) (ty := .int) (by decide) rfl rfl (hC e28_21.2.2.2) Kh Nh (Or.inl (List.mem_of_getElem? (i := 0) rfl)) g_a fun T20_ h20_ X20_ e20_ W20_ Fw20_ K20_ N20_ => ?_
        have ne21_ : ba ≠ a := (Ne.symm (own_neV I0.E I1 (jk hw 55 rfl)))
        have fc22_ := I1.other W20_ ne21_
        have Bw20_ := I0.s5 hw W20_
        refine jg T20_ mM 38 ll2 [(.int ((((r &&& (127 : Int64)) ||| (128 : Int64)).toInt32).toInt8.toInt32)), (.int e), (.ref ba)] (fun tT kK => ?_) ?_
        · refine XS.lloadN X20_.here hx rfl (hC e28_27.1) rfl ?_
          refine X20_.ldc2Long hx hown (jm hZ hw 188 rfl) (g := (mkF mM 28 ll2 [(.long r), (.int e), (.ref ba)])) rfl (hC e28_27.2.1) _ ?_
          refine XS.land X20_.here hx rfl (hC e28_27.2.2.1) rfl ?_
          refine X20_.ldc2Long hx hown (jm hZ hw 189 rfl) (g := (mkF mM 32 ll2 [(.long (r &&& (127 : Int64))), (.int e), (.ref ba)])) rfl (hC e28_27.2.2.2) _ ?_
          refine XS.lor X20_.here hx rfl (hC e28_35.1) rfl ?_
          refine XS.l2i X20_.here hx rfl (hC e28_35.2.1) rfl ?_
          refine XS.i2b X20_.here hx rfl (hC e28_35.2.2.1) rfl ?_
          exact kK
        obtain ⟨cl23_, Ar23_, qk23_, Sz23_, Nn23_, Hh23_, Gg23_⟩ := id fc22_
        have hin24_ : ¬ (e < 0 ∨ cl23_.slots.size ≤ (e).toNatClampNeg) := inb_of Sz23_ (own_ix ⟨by omega, by omega⟩)
        obtain ⟨T24_, h24_, X24_, e24_, W24_, st24_⟩ := stB X20_ hx hZ e20_ Ar23_ (j := e) hin24_ (g := (mkF mM 38 ll2 [(.int ((((r &&& (127 : Int64)) ||| (128 : Int64)).toInt32).toInt8.toInt32)), (.int e), (.ref ba)])) rfl rfl (hC e28_35.2.2.2)
        have V24_ : Arv Z h24_ ba kb .byte z (us.set (e).toNatClampNeg (.int (nar .byte ((((r &&& (127 : Int64)) ||| (128 : Int64)).toInt32).toInt8.toInt32)))) (.int 0) := Arv.set Ar23_ qk23_ Sz23_ Nn23_ Hh23_ Gg23_ (fits_nar_byte _) W24_ _ rfl hle
        have fc25_ := Bw20_.other W24_ (Ne.symm ne21_)
        have K24_ := K20_.wr W24_ (Or.inl (List.mem_of_getElem? (i := 1) rfl))
        have N24_ := Fr.snoc X24_ N20_ g_ba
        refine own_fin st24_ ?_
        let ll3 : Array Slot := #[vR a, vJ v, vS, vJ ((r.toUInt64 >>> ((7 : Int32) &&& 0x3f).toInt64.toUInt64).toInt64), vS]
        refine jg T24_ mM 2 ll3 [] (fun tT kK => ?_) ?_
        · refine XS.lloadN X24_.here hx rfl (hC e28_39.1) rfl ?_
          refine XS.bipush X24_.here hx rfl (hC e28_39.2.1) ?_
          refine XS.lushr X24_.here hx rfl (hC e28_39.2.2.1) rfl ?_
          refine XS.lstoreN X24_.here hx rfl (hC e28_39.2.2.2) rfl (l' := ll3) rfl ?_
          refine XS.goto X24_.here hx rfl (pc0 := 44) (pc' := 2) rfl (hC d28_44) (by decide) (by decide) ?_
          exact kK
        exact ih (i + 1) ((r.toUInt64 >>> ((7 : Int32) &&& 0x3f).toInt64.toUInt64).toInt64) (e + (1 : Int32)) (us.set (e).toNatClampNeg (.int (nar .byte ((((r &&& (127 : Int64)) ||| (128 : Int64)).toInt32).toInt8.toInt32)))) _ _ _ (by omega) X24_ e24_ N24_ K24_ fc25_ V24_ (by rw [ecn, hs7]; exact own_G.step Pg hr8 hle (own_wb1 Pr.1)) (by rw [hs7]; exact ⟨by omega, own_p7 Pr.2⟩) (by omega)
theorem e28_0 : jD11 0 (.lload_n 1, 1) ∧ jD11 1 (.lstore_n 3, 1) ∧ jD11 66 (.return_, 1) := by decide +kernel
theorem own_ef_rm_w (mM : MethodId) (x0 : Addr) (x1 : Int64) : entryFrame mM #[(.ref x0), (.long x1)] 5 = mkF mM 0 #[.val (.ref x0), .val (.long x1), .second, .unset, .unset] [] := by first | (simp [entryFrame, mkF, argsToLocals, Value.category]; done) | rfl
def Q_rm_w (Z : State) (a : Addr) (ba : Addr) (kb : ClassId) (sz : Int64) (ff : Int64) (ft : Int64) (lg : Int64) (lf : Int64) (lt : Int64) (v : Int64) (en : Int32) (la : Int32) (z : Int32) (vs : List Value) (h0 : Heap) (n0 : Nat) (vV : Option Value) (hH : Heap) (lA : List Loc) : Prop := ∃ en' : Int32, ∃ vs' : List Value, vV = none ∧ Fr n0 lA ∧ (Keep h0 hH [a, ba]) ∧ (own_D vs vs' en.toNatClampNeg v.toInt en'.toNatClampNeg) ∧ (en.toInt < en'.toInt ∧ en'.toInt ≤ en.toInt + 9) ∧ (own_bP Z hH a sz ff ft (.ref ba) (0 : Int32) en' la lg lf lt) ∧ (Arv Z hH ba kb .byte z vs' (.int 0))
theorem rm_w (lL : Launch) (Z : State) (a0 : Array Value) (hw : own_H a0 Z) (ws : List Jvm.Cond) (a : Addr) (ba : Addr) (kb : ClassId) (sz : Int64) (ff : Int64) (ft : Int64) (lg : Int64) (lf : Int64) (lt : Int64) (v : Int64) (en : Int32) (la : Int32) (z : Int32) (vs : List Value) (h0 : Heap) (n0 : Nat) (Z0 : n0 ≤ h0.size) (F0 : own_bP Z h0 a sz ff ft (.ref ba) (0 : Int32) en la lg lf lt) (Vb : Arv Z h0 ba kb .byte z vs (.int 0)) (hl : vs.length = z.toNatClampNeg) (he : 0 ≤ en.toInt ∧ en.toInt + 9 ≤ z.toInt) (hv : 0 ≤ v.toInt) (g_a : n0 ≤ a) (g_ba : n0 ≤ ba) :
    own_Met lL jy11 (Jvm.Cond.code jy11 prog_39_method_20_code 5 none :: ws) jr0 #[(.ref a), (.long v)] Z h0 (Q_rm_w Z a ba kb sz ff ft lg lf lt v en la z vs h0 n0) := by
  refine own_begin (plainFor_of_name own_pn_com_example_portion_portion_server_OffsetSet_Page) (fun mM => own_ef_rm_w mM a v) fun pP eE sS mM below meth cC s₁ hx hby hml hZ hown hnm hre hlk X0 e0 => ?_
  have hC := @Jvm.hb _ _ hby
  have N0 := Fr.nil n0
  have K0 := Keep.refl h0 [a, ba]
  let ll1 : Array Slot := #[vR a, vJ v, vS, vJ v, vS]
  refine jg s₁ mM 2 ll1 [] (fun tT kK => ?_) ?_
  · refine XS.lloadN X0.here hx rfl (hC e28_0.1) rfl ?_
    refine XS.lstoreN X0.here hx rfl (hC e28_0.2.1) rfl (l' := ll1) rfl ?_
    exact kK
  refine own_lpw Z a0 hw a ba kb sz ff ft lg lf lt v en la z vs h0 n0 Z0 hl he hv g_a g_ba hx hZ hby hml hown ?_ 8 0 v en vs _ _ _ (by omega) X0 e0 N0 K0 F0 Vb (own_G.start vs _ _) ⟨hv, (by have h := rng64 v; rw [show (128 ^ (8 + 1) : Nat) = 9223372036854775808 from by decide]; omega)⟩ (by omega)
  intro r_1_ e_1_ us_1_ T1_ h1_ L1_ X1_ e1_ N1_ K1_ p1__0 p1__1 p1__2 p1__3
  exact own_rV X1_ hx hlk hre (hC e28_0.2.2) e1_ (by decide) (by decide) ⟨e_1_, us_1_, rfl, N1_, K1_, p1__2, p1__3, p1__0, p1__1⟩
theorem e27_0 : jD12 0 (.aload_n 0, 1) ∧ jD12 1 (.aload_n 0, 1) ∧ jD12 2 (.getfield 35, 3) ∧ jD12 5 (.putfield 18, 3) := by decide +kernel
theorem e27_8 : jD12 8 (.aload_n 0, 1) ∧ jD12 9 (.getfield 32, 3) ∧ jD12 12 (.aload_n 0, 1) ∧ jD12 13 (.getfield 26, 3) := by decide +kernel
theorem e27_16 : jD12 16 (.lsub, 1) ∧ jD12 17 (.lstore_n 1, 1) ∧ jD12 18 (.aload_n 0, 1) ∧ jD12 19 (.getfield 52, 3) := by decide +kernel
theorem e27_22 : jD12 22 (.ldc2_w 136, 3) ∧ jD12 25 (.lcmp, 1) ∧ jD12 26 (.ifCond .gt 44, 3) ∧ jD12 70 (.aload_n 0, 1) := by decide +kernel
theorem e27_71 : jD12 71 (.getfield 52, 3) ∧ jD12 74 (.lconst 1, 1) ∧ jD12 75 (.lsub, 1) ∧ jD12 76 (.lstore_n 3, 1) := by decide +kernel
theorem e27_77 : jD12 77 (.lload_n 3, 1) ∧ jD12 78 (.bipush 6, 2) ∧ jD12 80 (.lushr, 1) ∧ jD12 81 (.lstore 5, 2) := by decide +kernel
theorem e27_83 : jD12 83 (.sipush 128, 3) ∧ jD12 86 (.lload_n 3, 1) ∧ jD12 87 (.ldc2_w 140, 3) ∧ jD12 90 (.land, 1) := by decide +kernel
theorem e27_91 : jD12 91 (.l2i, 1) ∧ jD12 92 (.ior, 1) ∧ jD12 93 (.istore 7, 2) ∧ jD12 95 (.lload 5, 2) := by decide +kernel
theorem e27_97 : jD12 97 (.lconst 0, 1) ∧ jD12 98 (.lcmp, 1) ∧ jD12 99 (.ifCond .ne 25, 3) ∧ jD12 102 (.aload_n 0, 1) := by decide +kernel
theorem e27_103 : jD12 103 (.getfield 13, 3) ∧ jD12 106 (.aload_n 0, 1) ∧ jD12 107 (.dup, 1) ∧ jD12 108 (.getfield 35, 3) := by decide +kernel
theorem e27_111 : jD12 111 (.dup_x1, 1) ∧ jD12 112 (.iconst 1, 1) ∧ jD12 113 (.iadd, 1) ∧ jD12 114 (.putfield 35, 3) := by decide +kernel
theorem e27_117 : jD12 117 (.iload 7, 2) ∧ jD12 119 (.i2b, 1) ∧ jD12 120 (.bastore, 1) ∧ jD12 121 (.goto 31, 3) := by decide +kernel
theorem e27_152 : jD12 152 (.aload_n 0, 1) ∧ jD12 153 (.lload_n 1, 1) ∧ jD12 154 (.lconst 1, 1) ∧ jD12 155 (.lsub, 1) := by decide +kernel
theorem d27_156 : jD12 156 (.invokevirtual 142, 3) := by decide +kernel
theorem own_pd0 : parseMethodDescriptor "(J)V" = some ⟨[.long], none⟩ := by decide +kernel
theorem e27_159 : jD12 159 (.return_, 1) ∧ jD12 124 (.aload_n 0, 1) ∧ jD12 125 (.getfield 13, 3) ∧ jD12 128 (.aload_n 0, 1) := by decide +kernel
theorem e27_129 : jD12 129 (.dup, 1) ∧ jD12 130 (.getfield 35, 3) ∧ jD12 133 (.dup_x1, 1) ∧ jD12 134 (.iconst 1, 1) := by decide +kernel
theorem e27_135 : jD12 135 (.iadd, 1) ∧ jD12 136 (.putfield 35, 3) ∧ jD12 139 (.iload 7, 2) ∧ jD12 141 (.bipush 64, 2) := by decide +kernel
theorem e27_143 : jD12 143 (.ior, 1) ∧ jD12 144 (.i2b, 1) ∧ jD12 145 (.bastore, 1) ∧ jD12 146 (.aload_n 0, 1) := by decide +kernel
theorem e27_147 : jD12 147 (.lload 5, 2) ∧ jD12 149 (.invokevirtual 142, 3) ∧ jD12 29 (.lload_n 1, 1) ∧ jD12 30 (.ldc2_w 138, 3) := by decide +kernel
theorem e27_33 : jD12 33 (.lcmp, 1) ∧ jD12 34 (.ifCond .gt 36, 3) ∧ jD12 37 (.aload_n 0, 1) ∧ jD12 38 (.getfield 13, 3) := by decide +kernel
theorem e27_41 : jD12 41 (.aload_n 0, 1) ∧ jD12 42 (.dup, 1) ∧ jD12 43 (.getfield 35, 3) ∧ jD12 46 (.dup_x1, 1) := by decide +kernel
theorem e27_47 : jD12 47 (.iconst 1, 1) ∧ jD12 48 (.iadd, 1) ∧ jD12 49 (.putfield 35, 3) ∧ jD12 52 (.aload_n 0, 1) := by decide +kernel
theorem e27_53 : jD12 53 (.getfield 52, 3) ∧ jD12 56 (.lconst 1, 1) ∧ jD12 57 (.lsub, 1) ∧ jD12 58 (.iconst 3, 1) := by decide +kernel
theorem e27_59 : jD12 59 (.lshl, 1) ∧ jD12 60 (.lload_n 1, 1) ∧ jD12 61 (.lconst 1, 1) ∧ jD12 62 (.lsub, 1) := by decide +kernel
theorem e27_63 : jD12 63 (.lor, 1) ∧ jD12 64 (.l2i, 1) ∧ jD12 65 (.i2b, 1) ∧ jD12 66 (.bastore, 1) := by decide +kernel
theorem d27_67 : jD12 67 (.goto 92, 3) := by decide +kernel
theorem own_ef_rm_wl (mM : MethodId) (x0 : Addr) : entryFrame mM #[(.ref x0)] 8 = mkF mM 0 #[.val (.ref x0), .unset, .unset, .unset, .unset, .unset, .unset, .unset] [] := by first | (simp [entryFrame, mkF, argsToLocals, Value.category]; done) | rfl
def Q_rm_wl (Z : State) (a : Addr) (ba : Addr) (kb : ClassId) (sz : Int64) (ff : Int64) (ft : Int64) (lg : Int64) (lf : Int64) (lt : Int64) (la : Int32) (z : Int32) (vs : List Value) (h0 : Heap) (n0 : Nat) (vV : Option Value) (hH : Heap) (lA : List Loc) : Prop := ∃ en' : Int32, ∃ vs' : List Value, vV = none ∧ Fr n0 lA ∧ (Keep h0 hH [a, ba]) ∧ (own_E vs' en'.toNatClampNeg lg.toInt) ∧ (1 ≤ en'.toInt ∧ en'.toInt ≤ 19) ∧ (own_bP Z hH a sz ff ft (.ref ba) (0 : Int32) en' (0 : Int32) lg lf lt) ∧ (Arv Z hH ba kb .byte z vs' (.int 0))
theorem rm_wl (lL : Launch) (Z : State) (a0 : Array Value) (hw : own_H a0 Z) (ws : List Jvm.Cond) (a : Addr) (ba : Addr) (kb : ClassId) (sz : Int64) (ff : Int64) (ft : Int64) (lg : Int64) (lf : Int64) (lt : Int64) (la : Int32) (z : Int32) (vs : List Value) (h0 : Heap) (n0 : Nat) (Z0 : n0 ≤ h0.size) (F0 : own_bP Z h0 a sz ff ft (.ref ba) (0 : Int32) (0 : Int32) la lg lf lt) (Vb : Arv Z h0 ba kb .byte z vs (.int 0)) (hl : vs.length = z.toNatClampNeg) (hz : 28 ≤ z.toInt) (hg : 1 ≤ lg.toInt) (hn : (lt - lf).toInt = 1) (g_a : n0 ≤ a) (g_ba : n0 ≤ ba) :
    own_Met lL jy12 (Jvm.Cond.code jy12 prog_39_method_19_code 8 none :: ws) jr4 #[(.ref a)] Z h0 (Q_rm_wl Z a ba kb sz ff ft lg lf lt la z vs h0 n0) := by
  refine own_begin (plainFor_of_name own_pn_com_example_portion_portion_server_OffsetSet_Page) (fun mM => own_ef_rm_wl mM a) fun pP eE sS mM below meth cC s₁ hx hby hml hZ hown hnm hre hlk X0 e0 => ?_
  have hC := @Jvm.hb _ _ hby
  have N0 := Fr.nil n0
  have K0 := Keep.refl h0 [a, ba]
  have rz := rng32 z
  have hl0 : 0 < vs.length := by rw [hl]; simp only [Int32.toNatClampNeg]; omega
  have o1 := own_l1
  have o0 := own_i0
  have i1 : (1 : Int32).toInt = 1 := rfl
  have l16 : (16 : Int64).toInt = 16 := rfl
  have tg := own_sub (x := lg) (y := (1 : Int64)) (by have := rng64 lg; omega)
  have tn := own_sub (x := (lt - lf)) (y := (1 : Int64)) (by omega)
  have ts := own_sh6 (x := (lg - (1 : Int64))) (by omega)
  let ll1 : Array Slot := #[vR a, vU, vU, vU, vU, vU, vU, vU]
  refine jg s₁ mM 2 ll1 [(.ref a), (.ref a)] (fun tT kK => ?_) ?_
  · refine XS.aloadN X0.here hx rfl (hC e27_0.1) rfl rfl ?_
    refine XS.aloadN X0.here hx rfl (hC e27_0.2.1) rfl rfl ?_
    exact kK
  refine jf X0 hx hZ hown (jk hw 146 rfl) e0 F0.g5 (hC e27_0.2.2.1) fun T1_ X1_ e1_ => ?_
  refine jq X1_ hx hZ hown (jk hw 65 rfl) e1_ F0.g6 F0.E (jk hw 66 rfl) (jk hw 55 rfl) (ty := .int) (by decide) rfl rfl (hC e27_0.2.2.2) K0 N0 (Or.inl (List.mem_of_getElem? (i := 0) rfl)) g_a fun T2_ h2_ X2_ e2_ W2_ Fw2_ K2_ N2_ => ?_
  have ne3_ : ba ≠ a := (Ne.symm (own_neV F0.E Vb (jk hw 55 rfl)))
  have fc4_ := Vb.other W2_ ne3_
  have Bw2_ := F0.s6 hw W2_
  refine jg T2_ mM 9 ll1 [(.ref a)] (fun tT kK => ?_) ?_
  · refine XS.aloadN X2_.here hx rfl (hC e27_8.1) rfl rfl ?_
    exact kK
  refine jf X2_ hx hZ hown (jk hw 175 rfl) e2_ Bw2_.g9 (hC e27_8.2.1) fun T5_ X5_ e5_ => ?_
  refine jg T5_ mM 13 ll1 [(.ref a), (.long lt)] (fun tT kK => ?_) ?_
  · refine XS.aloadN X5_.here hx rfl (hC e27_8.2.2.1) rfl rfl ?_
    exact kK
  refine jf X5_ hx hZ hown (jk hw 173 rfl) e5_ Bw2_.g8 (hC e27_8.2.2.2) fun T6_ X6_ e6_ => ?_
  let ll2 : Array Slot := #[vR a, vJ (lt - lf), vS, vU, vU, vU, vU, vU]
  refine jg T6_ mM 19 ll2 [(.ref a)] (fun tT kK => ?_) ?_
  · refine XS.lsub X6_.here hx rfl (hC e27_16.1) rfl ?_
    refine XS.lstoreN X6_.here hx rfl (hC e27_16.2.1) rfl (l' := ll2) rfl ?_
    refine XS.aloadN X6_.here hx rfl (hC e27_16.2.2.1) rfl rfl ?_
    exact kK
  refine jf X6_ hx hZ hown (jk hw 171 rfl) e6_ Bw2_.g7 (hC e27_16.2.2.2) fun T7_ X7_ e7_ => ?_
  refine jg T7_ mM 26 ll2 [(.int (lcmpW lg (16 : Int64)))] (fun tT kK => ?_) ?_
  · refine X7_.ldc2Long hx hown (jm hZ hw 181 rfl) (g := (mkF mM 22 ll2 [(.long lg)])) rfl (hC e27_22.1) _ ?_
    refine XS.lcmp X7_.here hx rfl (hC e27_22.2.1) rfl ?_
    exact kK
  by_cases hc26_8_ : (16 : Int64) < lg
  · refine jg T7_ mM 70 ll2 [] (fun tT kK => ?_) ?_
    · refine XS.ifYes X7_.here hx rfl (pc0 := 26) (pc' := 70) rfl (hC e27_22.2.2.1) rfl ((if0 _ _).trans (tlt ((lw_gt lg (16 : Int64)).mpr (hc26_8_ : (16 : Int64) < lg))).2.2.1) (by decide) (by decide) ?_
      exact kK
    have t9_ : (16 : Int64).toInt = 16 := rfl
    have t10_ := own_tlt hc26_8_
    refine jg T7_ mM 71 ll2 [(.ref a)] (fun tT kK => ?_) ?_
    · refine XS.aloadN X7_.here hx rfl (hC e27_22.2.2.2) rfl rfl ?_
      exact kK
    refine jf X7_ hx hZ hown (jk hw 171 rfl) e7_ Bw2_.g7 (hC e27_71.1) fun T11_ X11_ e11_ => ?_
    let ll3 : Array Slot := #[vR a, vJ (lt - lf), vS, vJ (lg - (1 : Int64)), vS, vJ (((lg - (1 : Int64)).toUInt64 >>> ((6 : Int32) &&& 0x3f).toInt64.toUInt64).toInt64), vS, vI ((128 : Int32) ||| (((lg - (1 : Int64)) &&& (63 : Int64)).toInt32))]
    refine jg T11_ mM 99 ll3 [(.int (lcmpW (((lg - (1 : Int64)).toUInt64 >>> ((6 : Int32) &&& 0x3f).toInt64.toUInt64).toInt64) (0 : Int64)))] (fun tT kK => ?_) ?_
    · refine XS.lconst X11_.here hx rfl (hC e27_71.2.1) ?_
      refine XS.lsub X11_.here hx rfl (hC e27_71.2.2.1) rfl ?_
      let ll4 : Array Slot := #[vR a, vJ (lt - lf), vS, vJ (lg - (1 : Int64)), vS, vU, vU, vU]
      refine XS.lstoreN X11_.here hx rfl (hC e27_71.2.2.2) rfl (l' := ll4) rfl ?_
      refine XS.lloadN X11_.here hx rfl (hC e27_77.1) rfl ?_
      refine XS.bipush X11_.here hx rfl (hC e27_77.2.1) ?_
      refine XS.lushr X11_.here hx rfl (hC e27_77.2.2.1) rfl ?_
      let ll5 : Array Slot := #[vR a, vJ (lt - lf), vS, vJ (lg - (1 : Int64)), vS, vJ (((lg - (1 : Int64)).toUInt64 >>> ((6 : Int32) &&& 0x3f).toInt64.toUInt64).toInt64), vS, vU]
      refine XS.lstore X11_.here hx rfl (hC e27_77.2.2.2) rfl (l' := ll5) rfl ?_
      refine XS.sipush X11_.here hx rfl (hC e27_83.1) ?_
      refine XS.lloadN X11_.here hx rfl (hC e27_83.2.1) rfl ?_
      refine X11_.ldc2Long hx hown (jm hZ hw 182 rfl) (g := (mkF mM 87 ll5 [(.long (lg - (1 : Int64))), (.int 128)])) rfl (hC e27_83.2.2.1) _ ?_
      refine XS.land X11_.here hx rfl (hC e27_83.2.2.2) rfl ?_
      refine XS.l2i X11_.here hx rfl (hC e27_91.1) rfl ?_
      refine XS.ior X11_.here hx rfl (hC e27_91.2.1) rfl ?_
      refine XS.istore X11_.here hx rfl (hC e27_91.2.2.1) rfl (l' := ll3) rfl ?_
      refine XS.lload X11_.here hx rfl (hC e27_91.2.2.2) rfl ?_
      refine XS.lconst X11_.here hx rfl (hC e27_97.1) ?_
      refine XS.lcmp X11_.here hx rfl (hC e27_97.2.1) rfl ?_
      exact kK
    by_cases hc99_12_ : (((lg - (1 : Int64)).toUInt64 >>> ((6 : Int32) &&& 0x3f).toInt64.toUInt64).toInt64) = (0 : Int64)
    · refine jg T11_ mM 102 ll3 [] (fun tT kK => ?_) ?_
      · refine XS.ifNo X11_.here hx rfl (hC e27_97.2.2.1) rfl ((if0 _ _).trans (teq ((lw_eq (((lg - (1 : Int64)).toUInt64 >>> ((6 : Int32) &&& 0x3f).toInt64.toUInt64).toInt64) (0 : Int64)).mpr (hc99_12_ : (((lg - (1 : Int64)).toUInt64 >>> ((6 : Int32) &&& 0x3f).toInt64.toUInt64).toInt64) = (0 : Int64)))).2) ?_
        exact kK
      have hq := congrArg Int64.toInt hc99_12_
      rw [ts, own_l0] at hq
      refine jg T11_ mM 103 ll3 [(.ref a)] (fun tT kK => ?_) ?_
      · refine XS.aloadN X11_.here hx rfl (hC e27_97.2.2.2) rfl rfl ?_
        exact kK
      refine jf X11_ hx hZ hown (jk hw 63 rfl) e11_ Bw2_.g3 (hC e27_103.1) fun T13_ X13_ e13_ => ?_
      refine jg T13_ mM 108 ll3 [(.ref a), (.ref a), (.ref ba)] (fun tT kK => ?_) ?_
      · refine XS.aloadN X13_.here hx rfl (hC e27_103.2.1) rfl rfl ?_
        refine XS.dup X13_.here hx rfl (hC e27_103.2.2.1) rfl rfl ?_
        exact kK
      refine jf X13_ hx hZ hown (jk hw 146 rfl) e13_ Bw2_.g5 (hC e27_103.2.2.2) fun T14_ X14_ e14_ => ?_
      refine jg T14_ mM 114 ll3 [(.int 1), (.ref a), (.int 0), (.ref ba)] (fun tT kK => ?_) ?_
      · refine XS.dupX1 X14_.here hx rfl (hC e27_111.1) rfl rfl rfl ?_
        refine XS.iconst X14_.here hx rfl (hC e27_111.2.1) ?_
        refine XS.iadd X14_.here hx rfl (hC e27_111.2.2.1) rfl ?_
        exact kK
      refine jq X14_ hx hZ hown (jk hw 146 rfl) e14_ Bw2_.g5 Bw2_.E (jk hw 139 rfl) (jk hw 55 rfl) (ty := .int) (by decide) rfl rfl (hC e27_111.2.2.2) K2_ N2_ (Or.inl (List.mem_of_getElem? (i := 0) rfl)) g_a fun T15_ h15_ X15_ e15_ W15_ Fw15_ K15_ N15_ => ?_
      have fc16_ := fc4_.other W15_ ne3_
      have Bw15_ := Bw2_.s5 hw W15_
      refine jg T15_ mM 120 ll3 [(.int (((128 : Int32) ||| (((lg - (1 : Int64)) &&& (63 : Int64)).toInt32)).toInt8.toInt32)), (.int 0), (.ref ba)] (fun tT kK => ?_) ?_
      · refine XS.iload X15_.here hx rfl (hC e27_117.1) rfl ?_
        refine XS.i2b X15_.here hx rfl (hC e27_117.2.1) rfl ?_
        exact kK
      obtain ⟨cl17_, Ar17_, qk17_, Sz17_, Nn17_, Hh17_, Gg17_⟩ := id fc16_
      have hin18_ : ¬ ((0 : Int32) < 0 ∨ cl17_.slots.size ≤ ((0 : Int32)).toNatClampNeg) := inb_of Sz17_ (own_ix ⟨by omega, by omega⟩)
      obtain ⟨T18_, h18_, X18_, e18_, W18_, st18_⟩ := stB X15_ hx hZ e15_ Ar17_ (j := (0 : Int32)) hin18_ (g := (mkF mM 120 ll3 [(.int (((128 : Int32) ||| (((lg - (1 : Int64)) &&& (63 : Int64)).toInt32)).toInt8.toInt32)), (.int 0), (.ref ba)])) rfl rfl (hC e27_117.2.2.1)
      have V18_ : Arv Z h18_ ba kb .byte z (vs.set ((0 : Int32)).toNatClampNeg (.int (nar .byte (((128 : Int32) ||| (((lg - (1 : Int64)) &&& (63 : Int64)).toInt32)).toInt8.toInt32)))) (.int 0) := Arv.set Ar17_ qk17_ Sz17_ Nn17_ Hh17_ Gg17_ (fits_nar_byte _) W18_ _ rfl (show (0 : Int32).toNatClampNeg < vs.length from hl0)
      have fc19_ := Bw15_.other W18_ (Ne.symm ne3_)
      have K18_ := K15_.wr W18_ (Or.inl (List.mem_of_getElem? (i := 1) rfl))
      have N18_ := Fr.snoc X18_ N15_ g_ba
      refine own_fin st18_ ?_
      refine jg T18_ mM 156 ll3 [(.long ((lt - lf) - (1 : Int64))), (.ref a)] (fun tT kK => ?_) ?_
      · refine XS.goto X18_.here hx rfl (pc0 := 121) (pc' := 152) rfl (hC e27_117.2.2.2) (by decide) (by decide) ?_
        refine XS.aloadN X18_.here hx rfl (hC e27_152.1) rfl rfl ?_
        refine XS.lloadN X18_.here hx rfl (hC e27_152.2.1) rfl ?_
        show Steps pP.tables eE below (T18_.setTop (mkF mM 154 ll3 [(.long (lt - lf)), (.ref a)])) tT
        refine XS.lconst X18_.here hx rfl (hC e27_152.2.2.1) ?_
        refine XS.lsub X18_.here hx rfl (hC e27_152.2.2.2) rfl ?_
        exact kK
      have t20_ : (1 : Int32).toInt = 1 := rfl
      refine jw X18_ hx hZ (y := jy11) hown (jk hw 183 rfl) (jk hw 184 rfl) (own_selP (y := jy11) hZ (jk hw 55 rfl) (jk hw 185 rfl) (jk hw 184 rfl) (by decide)) (jk hw 185 rfl) (jk hw 186 rfl) (jk hw 56 rfl) (rm_w lL Z a0 hw [] a ba kb sz ff ft lg lf lt ((lt - lf) - (1 : Int64)) (1 : Int32) (0 : Int32) z (vs.set ((0 : Int32)).toNatClampNeg (.int (nar .byte (((128 : Int32) ||| (((lg - (1 : Int64)) &&& (63 : Int64)).toInt32)).toInt8.toInt32)))) h18_ n0 (Nat.le_trans Z0 K18_.1) fc19_ V18_ (by rw [List.length_set]; exact hl) (by omega) (by omega) g_a g_ba) fc19_.E e18_ own_pd0 [(.long ((lt - lf) - (1 : Int64)))] [] (hC d27_156) rfl rfl (by rw [hml]; rfl) (by decide) 0 (Nat.le_of_eq rfl) (by decide) (by decide) (by decide : 0 + 0 ≤ _) (by decide : 0 + 0 ≤ _) fun vv21_ T21_ L21_ X21_ hQ21_ => ?_
      obtain ⟨en'_21_, vs'_21_, rfl, N21_q, p21__0, p21__1, p21__2, p21__3, p21__4⟩ := hQ21_
      have N21_ := Fr.app N18_ N21_q
      have K21_ := K18_.trans p21__0 (allS (Or.inl (List.mem_of_getElem? (i := 0) rfl)) (allS (Or.inl (List.mem_of_getElem? (i := 1) rfl)) all0))
      exact own_rV X21_ hx hlk hre (hC e27_159.1) rfl (by decide) (by decide) ⟨en'_21_, vs'_21_, rfl, N21_, K21_, own_E.mid ⟨by omega, by omega⟩ hl0 ((own_wmid ⟨by omega, by omega⟩).trans (by omega)) (by omega) (p21__1 :), (by omega), p21__3, p21__4⟩
    · refine jg T11_ mM 124 ll3 [] (fun tT kK => ?_) ?_
      · refine XS.ifYes X11_.here hx rfl (pc0 := 99) (pc' := 124) rfl (hC e27_97.2.2.1) rfl ((if0 _ _).trans (feq (mt (lw_eq (((lg - (1 : Int64)).toUInt64 >>> ((6 : Int32) &&& 0x3f).toInt64.toUInt64).toInt64) (0 : Int64)).mp (hc99_12_ : ¬ ((((lg - (1 : Int64)).toUInt64 >>> ((6 : Int32) &&& 0x3f).toInt64.toUInt64).toInt64) = (0 : Int64))))).2) (by decide) (by decide) ?_
        exact kK
      have hq := own_tne hc99_12_
      rw [ts, own_l0] at hq
      refine jg T11_ mM 125 ll3 [(.ref a)] (fun tT kK => ?_) ?_
      · refine XS.aloadN X11_.here hx rfl (hC e27_159.2.1) rfl rfl ?_
        exact kK
      refine jf X11_ hx hZ hown (jk hw 63 rfl) e11_ Bw2_.g3 (hC e27_159.2.2.1) fun T22_ X22_ e22_ => ?_
      refine jg T22_ mM 130 ll3 [(.ref a), (.ref a), (.ref ba)] (fun tT kK => ?_) ?_
      · refine XS.aloadN X22_.here hx rfl (hC e27_159.2.2.2) rfl rfl ?_
        refine XS.dup X22_.here hx rfl (hC e27_129.1) rfl rfl ?_
        exact kK
      refine jf X22_ hx hZ hown (jk hw 146 rfl) e22_ Bw2_.g5 (hC e27_129.2.1) fun T23_ X23_ e23_ => ?_
      refine jg T23_ mM 136 ll3 [(.int 1), (.ref a), (.int 0), (.ref ba)] (fun tT kK => ?_) ?_
      · refine XS.dupX1 X23_.here hx rfl (hC e27_129.2.2.1) rfl rfl rfl ?_
        refine XS.iconst X23_.here hx rfl (hC e27_129.2.2.2) ?_
        refine XS.iadd X23_.here hx rfl (hC e27_135.1) rfl ?_
        exact kK
      refine jq X23_ hx hZ hown (jk hw 146 rfl) e23_ Bw2_.g5 Bw2_.E (jk hw 139 rfl) (jk hw 55 rfl) (ty := .int) (by decide) rfl rfl (hC e27_135.2.1) K2_ N2_ (Or.inl (List.mem_of_getElem? (i := 0) rfl)) g_a fun T24_ h24_ X24_ e24_ W24_ Fw24_ K24_ N24_ => ?_
      have fc25_ := fc4_.other W24_ ne3_
      have Bw24_ := Bw2_.s5 hw W24_
      refine jg T24_ mM 145 ll3 [(.int ((((128 : Int32) ||| (((lg - (1 : Int64)) &&& (63 : Int64)).toInt32)) ||| (64 : Int32)).toInt8.toInt32)), (.int 0), (.ref ba)] (fun tT kK => ?_) ?_
      · refine XS.iload X24_.here hx rfl (hC e27_135.2.2.1) rfl ?_
        refine XS.bipush X24_.here hx rfl (hC e27_135.2.2.2) ?_
        refine XS.ior X24_.here hx rfl (hC e27_143.1) rfl ?_
        refine XS.i2b X24_.here hx rfl (hC e27_143.2.1) rfl ?_
        exact kK
      obtain ⟨cl26_, Ar26_, qk26_, Sz26_, Nn26_, Hh26_, Gg26_⟩ := id fc25_
      have hin27_ : ¬ ((0 : Int32) < 0 ∨ cl26_.slots.size ≤ ((0 : Int32)).toNatClampNeg) := inb_of Sz26_ (own_ix ⟨by omega, by omega⟩)
      obtain ⟨T27_, h27_, X27_, e27_, W27_, st27_⟩ := stB X24_ hx hZ e24_ Ar26_ (j := (0 : Int32)) hin27_ (g := (mkF mM 145 ll3 [(.int ((((128 : Int32) ||| (((lg - (1 : Int64)) &&& (63 : Int64)).toInt32)) ||| (64 : Int32)).toInt8.toInt32)), (.int 0), (.ref ba)])) rfl rfl (hC e27_143.2.2.1)
      have V27_ : Arv Z h27_ ba kb .byte z (vs.set ((0 : Int32)).toNatClampNeg (.int (nar .byte ((((128 : Int32) ||| (((lg - (1 : Int64)) &&& (63 : Int64)).toInt32)) ||| (64 : Int32)).toInt8.toInt32)))) (.int 0) := Arv.set Ar26_ qk26_ Sz26_ Nn26_ Hh26_ Gg26_ (fits_nar_byte _) W27_ _ rfl (show (0 : Int32).toNatClampNeg < vs.length from hl0)
      have fc28_ := Bw24_.other W27_ (Ne.symm ne3_)
      have K27_ := K24_.wr W27_ (Or.inl (List.mem_of_getElem? (i := 1) rfl))
      have N27_ := Fr.snoc X27_ N24_ g_ba
      refine own_fin st27_ ?_
      refine jg T27_ mM 149 ll3 [(.long (((lg - (1 : Int64)).toUInt64 >>> ((6 : Int32) &&& 0x3f).toInt64.toUInt64).toInt64)), (.ref a)] (fun tT kK => ?_) ?_
      · refine XS.aloadN X27_.here hx rfl (hC e27_143.2.2.2) rfl rfl ?_
        show Steps pP.tables eE below (T27_.setTop (mkF mM 147 ll3 [(.ref a)])) tT
        refine XS.lload X27_.here hx rfl (hC e27_147.1) rfl ?_
        exact kK
      have t29_ : (1 : Int32).toInt = 1 := rfl
      refine jw X27_ hx hZ (y := jy11) hown (jk hw 183 rfl) (jk hw 184 rfl) (own_selP (y := jy11) hZ (jk hw 55 rfl) (jk hw 185 rfl) (jk hw 184 rfl) (by decide)) (jk hw 185 rfl) (jk hw 186 rfl) (jk hw 56 rfl) (rm_w lL Z a0 hw [] a ba kb sz ff ft lg lf lt (((lg - (1 : Int64)).toUInt64 >>> ((6 : Int32) &&& 0x3f).toInt64.toUInt64).toInt64) (1 : Int32) (0 : Int32) z (vs.set ((0 : Int32)).toNatClampNeg (.int (nar .byte ((((128 : Int32) ||| (((lg - (1 : Int64)) &&& (63 : Int64)).toInt32)) ||| (64 : Int32)).toInt8.toInt32)))) h27_ n0 (Nat.le_trans Z0 K27_.1) fc28_ V27_ (by rw [List.length_set]; exact hl) (by omega) (by omega) g_a g_ba) fc28_.E e27_ own_pd0 [(.long (((lg - (1 : Int64)).toUInt64 >>> ((6 : Int32) &&& 0x3f).toInt64.toUInt64).toInt64))] [] (hC e27_147.2.1) rfl rfl (by rw [hml]; rfl) (by decide) 0 (Nat.le_of_eq rfl) (by decide) (by decide) (by decide : 0 + 0 ≤ _) (by decide : 0 + 0 ≤ _) fun vv30_ T30_ L30_ X30_ hQ30_ => ?_
      obtain ⟨en'_30_, vs'_30_, rfl, N30_q, p30__0, p30__1, p30__2, p30__3, p30__4⟩ := hQ30_
      have N30_ := Fr.app N27_ N30_q
      have K30_ := K27_.trans p30__0 (allS (Or.inl (List.mem_of_getElem? (i := 0) rfl)) (allS (Or.inl (List.mem_of_getElem? (i := 1) rfl)) all0))
      refine jg T30_ mM 156 ll3 [(.long ((lt - lf) - (1 : Int64))), (.ref a)] (fun tT kK => ?_) ?_
      · refine XS.aloadN X30_.here hx rfl (hC e27_152.1) rfl rfl ?_
        refine XS.lloadN X30_.here hx rfl (hC e27_152.2.1) rfl ?_
        refine XS.lconst X30_.here hx rfl (hC e27_152.2.2.1) ?_
        refine XS.lsub X30_.here hx rfl (hC e27_152.2.2.2) rfl ?_
        exact kK
      refine jw X30_ hx hZ (y := jy11) hown (jk hw 183 rfl) (jk hw 184 rfl) (own_selP (y := jy11) hZ (jk hw 55 rfl) (jk hw 185 rfl) (jk hw 184 rfl) (by decide)) (jk hw 185 rfl) (jk hw 186 rfl) (jk hw 56 rfl) (rm_w lL Z a0 hw [] a ba kb sz ff ft lg lf lt ((lt - lf) - (1 : Int64)) en'_30_ (0 : Int32) z vs'_30_ T30_.heap n0 (Nat.le_trans Z0 K30_.1) p30__3 p30__4 (p30__1.1.trans (by rw [List.length_set]; exact hl)) (by omega) (by omega) g_a g_ba) p30__3.E rfl own_pd0 [(.long ((lt - lf) - (1 : Int64)))] [] (hC d27_156) rfl rfl (by rw [hml]; rfl) (by decide) 0 (Nat.le_of_eq rfl) (by decide) (by decide) (by decide : 0 + 0 ≤ _) (by decide : 0 + 0 ≤ _) fun vv31_ T31_ L31_ X31_ hQ31_ => ?_
      obtain ⟨en'_31_, vs'_31_, rfl, N31_q, p31__0, p31__1, p31__2, p31__3, p31__4⟩ := hQ31_
      have N31_ := Fr.app N30_ N31_q
      have K31_ := K30_.trans p31__0 (allS (Or.inl (List.mem_of_getElem? (i := 0) rfl)) (allS (Or.inl (List.mem_of_getElem? (i := 1) rfl)) all0))
      exact own_rV X31_ hx hlk hre (hC e27_159.1) rfl (by decide) (by decide) ⟨en'_31_, vs'_31_, rfl, N31_, K31_, own_E.long (by omega) hl0 ((own_wlong (by omega)).trans (by rw [tg, o1])) (by rw [ts, tg, o1]) (by omega) (p30__1 :) (p31__1 :), (by omega), p31__3, p31__4⟩
  · refine jg T7_ mM 29 ll2 [] (fun tT kK => ?_) ?_
    · refine XS.ifNo X7_.here hx rfl (hC e27_22.2.2.1) rfl ((if0 _ _).trans (flt (mt (lw_gt lg (16 : Int64)).mp (hc26_8_ : ¬ ((16 : Int64) < lg)))).2.2.1) ?_
      exact kK
    have t32_ : (16 : Int64).toInt = 16 := rfl
    have t33_ := own_tnl hc26_8_
    refine jg T7_ mM 34 ll2 [(.int (lcmpW (lt - lf) (8 : Int64)))] (fun tT kK => ?_) ?_
    · refine XS.lloadN X7_.here hx rfl (hC e27_147.2.2.1) rfl ?_
      refine X7_.ldc2Long hx hown (jm hZ hw 251 rfl) (g := (mkF mM 30 ll2 [(.long (lt - lf))])) rfl (hC e27_147.2.2.2) _ ?_
      refine XS.lcmp X7_.here hx rfl (hC e27_33.1) rfl ?_
      exact kK
    have t34_ : (8 : Int64).toInt = 8 := rfl
    refine jg T7_ mM 38 ll2 [(.ref a)] (fun tT kK => ?_) ?_
    · refine XS.ifNo X7_.here hx rfl (hC e27_33.2.1) rfl ((if0 _ _).trans (flt (mt (lw_gt (lt - lf) (8 : Int64)).mp ((own_nl (by omega)) : ¬ ((8 : Int64) < (lt - lf))))).2.2.1) ?_
      refine XS.aloadN X7_.here hx rfl (hC e27_33.2.2.1) rfl rfl ?_
      exact kK
    refine jf X7_ hx hZ hown (jk hw 63 rfl) e7_ Bw2_.g3 (hC e27_33.2.2.2) fun T35_ X35_ e35_ => ?_
    refine jg T35_ mM 43 ll2 [(.ref a), (.ref a), (.ref ba)] (fun tT kK => ?_) ?_
    · refine XS.aloadN X35_.here hx rfl (hC e27_41.1) rfl rfl ?_
      refine XS.dup X35_.here hx rfl (hC e27_41.2.1) rfl rfl ?_
      exact kK
    refine jf X35_ hx hZ hown (jk hw 146 rfl) e35_ Bw2_.g5 (hC e27_41.2.2.1) fun T36_ X36_ e36_ => ?_
    refine jg T36_ mM 49 ll2 [(.int 1), (.ref a), (.int 0), (.ref ba)] (fun tT kK => ?_) ?_
    · refine XS.dupX1 X36_.here hx rfl (hC e27_41.2.2.2) rfl rfl rfl ?_
      refine XS.iconst X36_.here hx rfl (hC e27_47.1) ?_
      refine XS.iadd X36_.here hx rfl (hC e27_47.2.1) rfl ?_
      exact kK
    refine jq X36_ hx hZ hown (jk hw 146 rfl) e36_ Bw2_.g5 Bw2_.E (jk hw 139 rfl) (jk hw 55 rfl) (ty := .int) (by decide) rfl rfl (hC e27_47.2.2.1) K2_ N2_ (Or.inl (List.mem_of_getElem? (i := 0) rfl)) g_a fun T37_ h37_ X37_ e37_ W37_ Fw37_ K37_ N37_ => ?_
    have fc38_ := fc4_.other W37_ ne3_
    have Bw37_ := Bw2_.s5 hw W37_
    refine jg T37_ mM 53 ll2 [(.ref a), (.int 0), (.ref ba)] (fun tT kK => ?_) ?_
    · refine XS.aloadN X37_.here hx rfl (hC e27_47.2.2.2) rfl rfl ?_
      exact kK
    refine jf X37_ hx hZ hown (jk hw 171 rfl) e37_ Bw37_.g7 (hC e27_53.1) fun T39_ X39_ e39_ => ?_
    refine jg T39_ mM 66 ll2 [(.int (((((lg - (1 : Int64)) <<< ((3 : Int32) &&& 0x3f).toInt64) ||| ((lt - lf) - (1 : Int64))).toInt32).toInt8.toInt32)), (.int 0), (.ref ba)] (fun tT kK => ?_) ?_
    · refine XS.lconst X39_.here hx rfl (hC e27_53.2.1) ?_
      refine XS.lsub X39_.here hx rfl (hC e27_53.2.2.1) rfl ?_
      refine XS.iconst X39_.here hx rfl (hC e27_53.2.2.2) ?_
      refine XS.lshl X39_.here hx rfl (hC e27_59.1) rfl ?_
      refine XS.lloadN X39_.here hx rfl (hC e27_59.2.1) rfl ?_
      refine XS.lconst X39_.here hx rfl (hC e27_59.2.2.1) ?_
      refine XS.lsub X39_.here hx rfl (hC e27_59.2.2.2) rfl ?_
      refine XS.lor X39_.here hx rfl (hC e27_63.1) rfl ?_
      refine XS.l2i X39_.here hx rfl (hC e27_63.2.1) rfl ?_
      refine XS.i2b X39_.here hx rfl (hC e27_63.2.2.1) rfl ?_
      exact kK
    obtain ⟨cl40_, Ar40_, qk40_, Sz40_, Nn40_, Hh40_, Gg40_⟩ := id fc38_
    have hin41_ : ¬ ((0 : Int32) < 0 ∨ cl40_.slots.size ≤ ((0 : Int32)).toNatClampNeg) := inb_of Sz40_ (own_ix ⟨by omega, by omega⟩)
    obtain ⟨T41_, h41_, X41_, e41_, W41_, st41_⟩ := stB X39_ hx hZ e39_ Ar40_ (j := (0 : Int32)) hin41_ (g := (mkF mM 66 ll2 [(.int (((((lg - (1 : Int64)) <<< ((3 : Int32) &&& 0x3f).toInt64) ||| ((lt - lf) - (1 : Int64))).toInt32).toInt8.toInt32)), (.int 0), (.ref ba)])) rfl rfl (hC e27_63.2.2.2)
    have V41_ : Arv Z h41_ ba kb .byte z (vs.set ((0 : Int32)).toNatClampNeg (.int (nar .byte (((((lg - (1 : Int64)) <<< ((3 : Int32) &&& 0x3f).toInt64) ||| ((lt - lf) - (1 : Int64))).toInt32).toInt8.toInt32)))) (.int 0) := Arv.set Ar40_ qk40_ Sz40_ Nn40_ Hh40_ Gg40_ (fits_nar_byte _) W41_ _ rfl (show (0 : Int32).toNatClampNeg < vs.length from hl0)
    have fc42_ := Bw37_.other W41_ (Ne.symm ne3_)
    have K41_ := K37_.wr W41_ (Or.inl (List.mem_of_getElem? (i := 1) rfl))
    have N41_ := Fr.snoc X41_ N37_ g_ba
    refine own_fin st41_ ?_
    refine jg T41_ mM 159 ll2 [] (fun tT kK => ?_) ?_
    · refine XS.goto X41_.here hx rfl (pc0 := 67) (pc' := 159) rfl (hC d27_67) (by decide) (by decide) ?_
      exact kK
    have t43_ : (1 : Int32).toInt = 1 := rfl
    exact own_rV X41_ hx hlk hre (hC e27_159.1) e41_ (by decide) (by decide) ⟨(1 : Int32), (vs.set ((0 : Int32)).toNatClampNeg (.int (nar .byte (((((lg - (1 : Int64)) <<< ((3 : Int32) &&& 0x3f).toInt64) ||| ((lt - lf) - (1 : Int64))).toInt32).toInt8.toInt32)))), rfl, N41_, K41_, own_E.short ⟨by omega, by omega⟩ hl0 (own_wsh ⟨by omega, by omega⟩ hn), (by omega), fc42_, V41_⟩
theorem e25_0 : jD13 0 (.bipush 16, 2) ∧ jD13 2 (.iload_n 0, 1) ∧ jD13 3 (.iload_n 0, 1) ∧ jD13 4 (.iconst 2, 1) := by decide +kernel
theorem e25_5 : jD13 5 (.idiv, 1) ∧ jD13 6 (.iadd, 1) ∧ jD13 7 (.invokestatic 133, 3) := by decide +kernel
theorem own_pd1 : parseMethodDescriptor "(II)I" = some ⟨[.int, .int], some .int⟩ := by decide +kernel
theorem d25_10 : jD13 10 (.ireturn, 1) := by decide +kernel
theorem own_ef_rm_wr (mM : MethodId) (x0 : Int32) : entryFrame mM #[(.int x0)] 1 = mkF mM 0 #[.val (.int x0)] [] := by first | (simp [entryFrame, mkF, argsToLocals, Value.category]; done) | rfl
def Q_rm_wr (Z : State)  (h0 : Heap) (n0 : Nat) (vV : Option Value) (hH : Heap) (lA : List Loc) : Prop := vV = some (.int 28) ∧ Fr n0 lA ∧ (hH = h0)
theorem rm_wr (lL : Launch) (Z : State) (a0 : Array Value) (hw : own_H a0 Z) (ws : List Jvm.Cond)  (h0 : Heap) (n0 : Nat) (Z0 : n0 ≤ h0.size) :
    own_Met lL jy13 (Jvm.Cond.code jy13 prog_39_method_17_code 1 (some .int) :: ws) jr5 #[(.int 19)] Z h0 (Q_rm_wr Z  h0 n0) := by
  refine own_begin (plainFor_of_name own_pn_com_example_portion_portion_server_OffsetSet_Page) (fun mM => own_ef_rm_wr mM (19 : Int32)) fun pP eE sS mM below meth cC s₁ hx hby hml hZ hown hnm hre hlk X0 e0 => ?_
  have hC := @Jvm.hb _ _ hby
  have N0 := Fr.nil n0
  have K0 := Keep.refl h0 ([] : List Addr)
  refine jg s₁ mM 7 #[vI 19] [(.int 28), (.int 16)] (fun tT kK => ?_) ?_
  · refine XS.bipush X0.here hx rfl (hC e25_0.1) ?_
    refine XS.iloadN X0.here hx rfl (hC e25_0.2.1) rfl ?_
    refine XS.iloadN X0.here hx rfl (hC e25_0.2.2.1) rfl ?_
    refine XS.iconst X0.here hx rfl (hC e25_0.2.2.2) ?_
    refine XS.idiv X0.here hx rfl (hC e25_5.1) rfl (by decide) ?_
    refine XS.iadd X0.here hx rfl (hC e25_5.2.1) rfl ?_
    exact kK
  refine jc X0 hx hZ (y := jy1) hown (jk hw 164 rfl) (jk hw 43 rfl) (jk hw 44 rfl) (jk hw 45 rfl) (rm_mxc lL Z a0 hw []  h0 n0 (Nat.le_trans Z0 K0.1) ) e0 own_pd1 [(.int 16), (.int 28)] [] (hC e25_5.2.2) rfl rfl (by rw [hml]; rfl) (by decide) 0 (Nat.le_of_eq rfl) (by decide) (by decide) (by decide : 0 + 0 ≤ _) (by decide : 0 + 0 ≤ _) fun vv1_ T1_ L1_ X1_ hQ1_ => ?_
  obtain ⟨rfl, N1_q, p1__0⟩ := hQ1_
  have N1_ := Fr.app N0 N1_q
  exact own_rr X1_ hx hlk hre rfl (Or.inl ⟨rfl, Or.inl rfl, _, rfl⟩) (hC d25_10) p1__0 (by decide) (by decide) ⟨rfl, N1_, rfl⟩
theorem e26_0 : jD14 0 (.iload_n 1, 1) ∧ jD14 1 (.ifCond .ne 9, 3) ∧ jD14 10 (.iload_n 1, 1) ∧ jD14 11 (.newarray .byte, 2) := by decide +kernel
theorem e26_13 : jD14 13 (.astore_n 2, 1) ∧ jD14 14 (.aload_n 0, 1) ∧ jD14 15 (.getfield 13, 3) ∧ jD14 18 (.aload_n 0, 1) := by decide +kernel
theorem e26_19 : jD14 19 (.getfield 38, 3) ∧ jD14 22 (.aload_n 2, 1) ∧ jD14 23 (.iconst 0, 1) ∧ jD14 24 (.aload_n 0, 1) := by decide +kernel
theorem e26_25 : jD14 25 (.getfield 35, 3) ∧ jD14 28 (.aload_n 0, 1) ∧ jD14 29 (.getfield 38, 3) ∧ jD14 32 (.isub, 1) := by decide +kernel
theorem e26_33 : jD14 33 (.invokestatic 79, 3) ∧ jD14 36 (.aload_n 0, 1) ∧ jD14 37 (.getfield 18, 3) ∧ jD14 40 (.ifCond .lt 16, 3) := by decide +kernel
theorem e26_56 : jD14 56 (.aload_n 0, 1) ∧ jD14 57 (.dup, 1) ∧ jD14 58 (.getfield 35, 3) ∧ jD14 61 (.aload_n 0, 1) := by decide +kernel
theorem e26_62 : jD14 62 (.getfield 38, 3) ∧ jD14 65 (.isub, 1) ∧ jD14 66 (.putfield 35, 3) ∧ jD14 69 (.aload_n 0, 1) := by decide +kernel
theorem e26_70 : jD14 70 (.iconst 0, 1) ∧ jD14 71 (.putfield 38, 3) ∧ jD14 74 (.aload_n 0, 1) ∧ jD14 75 (.aload_n 2, 1) := by decide +kernel
theorem e26_76 : jD14 76 (.putfield 13, 3) ∧ jD14 79 (.return_, 1) := by decide +kernel
theorem own_ef_rm_mv1 (mM : MethodId) (x0 : Addr) (x1 : Int32) : entryFrame mM #[(.ref x0), (.int x1)] 3 = mkF mM 0 #[.val (.ref x0), .val (.int x1), .unset] [] := by first | (simp [entryFrame, mkF, argsToLocals, Value.category]; done) | rfl
def Q_rm_mv1 (Z : State) (a : Addr) (nb : Addr) (kn : ClassId) (sz : Int64) (ff : Int64) (ft : Int64) (lg : Int64) (lf : Int64) (lt : Int64) (h0 : Heap) (n0 : Nat) (vV : Option Value) (hH : Heap) (lA : List Loc) : Prop := ∃ ba : Addr, ∃ kb : ClassId, ∃ vs : List Value, vV = none ∧ Fr n0 lA ∧ (Keep h0 hH [a]) ∧ (h0.size ≤ ba) ∧ (vs.length = 28) ∧ (own_bP Z hH a sz ff ft (.ref ba) (0 : Int32) (0 : Int32) (-1 : Int32) lg lf lt) ∧ (Arv Z hH ba kb .byte (28 : Int32) vs (.int 0))
theorem rm_mv1 (lL : Launch) (Z : State) (a0 : Array Value) (hw : own_H a0 Z) (ws : List Jvm.Cond) (a : Addr) (nb : Addr) (kn : ClassId) (sz : Int64) (ff : Int64) (ft : Int64) (lg : Int64) (lf : Int64) (lt : Int64) (h0 : Heap) (n0 : Nat) (Z0 : n0 ≤ h0.size) (F0 : own_bP Z h0 a sz ff ft (.ref nb) (0 : Int32) (0 : Int32) (-1 : Int32) lg lf lt) (Vn : Arv Z h0 nb kn .byte (0 : Int32) [] (.int 0)) (g_a : n0 ≤ a) :
    own_Met lL jy14 (Jvm.Cond.code jy14 prog_39_method_18_code 3 none :: ws) jr6 #[(.ref a), (.int 28)] Z h0 (Q_rm_mv1 Z a nb kn sz ff ft lg lf lt h0 n0) := by
  refine own_begin (plainFor_of_name own_pn_com_example_portion_portion_server_OffsetSet_Page) (fun mM => own_ef_rm_mv1 mM a (28 : Int32)) fun pP eE sS mM below meth cC s₁ hx hby hml hZ hown hnm hre hlk X0 e0 => ?_
  have hC := @Jvm.hb _ _ hby
  have N0 := Fr.nil n0
  have K0 := Keep.refl h0 [a]
  let ll1 : Array Slot := #[vR a, vI 28, vU]
  refine jg s₁ mM 11 ll1 [(.int 28)] (fun tT kK => ?_) ?_
  · refine XS.iloadN X0.here hx rfl (hC e26_0.1) rfl ?_
    refine XS.ifYes X0.here hx rfl (pc0 := 1) (pc' := 10) rfl (hC e26_0.2.1) rfl ((if0 _ _).trans (feq ((by decide) : ¬ ((28 : Int32) = (0 : Int32)))).2) (by decide) (by decide) ?_
    refine XS.iloadN X0.here hx rfl (hC e26_0.2.2.1) rfl ?_
    exact kK
  obtain ⟨T1_, h1_, k1_, X1_, e1_, E1_, A1_, st1_⟩ := newP X0 hx hZ (jk hw 169 rfl) e0 (g := (mkF mM 11 ll1 [(.int 28)])) rfl (hC e26_0.2.2.2) rfl (by decide) (cap := 28) (by decide) (by decide) (by decide) (by decide)
  obtain ⟨b1_, g1_⟩ : ∃ z, z = h0.size := ⟨_, rfl⟩
  rw [← g1_] at A1_ st1_
  have sz_b1_ : h0.size ≤ b1_ := Nat.le_trans K0.1 (Nat.le_of_eq g1_.symm)
  have ge_b1_ : n0 ≤ b1_ := Nat.le_trans Z0 sz_b1_
  have ne2_ : a ≠ b1_ := Nat.ne_of_lt (Nat.lt_of_lt_of_le F0.lt (Nat.le_of_eq g1_.symm))
  have fc4_ := F0.ext E1_
  have fc5_ := Vn.ext E1_
  have K1_ := K0.ext E1_
  have V1_ : Arv Z h1_ b1_ k1_ .byte (28 : Int32) [(.int 0), (.int 0), (.int 0), (.int 0), (.int 0), (.int 0), (.int 0), (.int 0), (.int 0), (.int 0), (.int 0), (.int 0), (.int 0), (.int 0), (.int 0), (.int 0), (.int 0), (.int 0), (.int 0), (.int 0), (.int 0), (.int 0), (.int 0), (.int 0), (.int 0), (.int 0), (.int 0), (.int 0)] (.int 0) := (Arv.new A1_ (by decide)).pad (pad_rep [] (.int 0) 28)
  refine own_fin st1_ ?_
  let ll2 : Array Slot := #[vR a, vI 28, vR b1_]
  refine jg T1_ mM 15 ll2 [(.ref a)] (fun tT kK => ?_) ?_
  · refine XS.astoreN X1_.here hx rfl (hC e26_13.1) rfl rfl (l' := ll2) rfl ?_
    refine XS.aloadN X1_.here hx rfl (hC e26_13.2.1) rfl rfl ?_
    exact kK
  refine jf X1_ hx hZ hown (jk hw 63 rfl) e1_ fc4_.g3 (hC e26_13.2.2.1) fun T6_ X6_ e6_ => ?_
  refine jg T6_ mM 19 ll2 [(.ref a), (.ref nb)] (fun tT kK => ?_) ?_
  · refine XS.aloadN X6_.here hx rfl (hC e26_13.2.2.2) rfl rfl ?_
    exact kK
  refine jf X6_ hx hZ hown (jk hw 145 rfl) e6_ fc4_.g4 (hC e26_19.1) fun T7_ X7_ e7_ => ?_
  refine jg T7_ mM 25 ll2 [(.ref a), (.int 0), (.ref b1_), (.int 0), (.ref nb)] (fun tT kK => ?_) ?_
  · refine XS.aloadN X7_.here hx rfl (hC e26_19.2.1) rfl rfl ?_
    refine XS.iconst X7_.here hx rfl (hC e26_19.2.2.1) ?_
    refine XS.aloadN X7_.here hx rfl (hC e26_19.2.2.2) rfl rfl ?_
    exact kK
  refine jf X7_ hx hZ hown (jk hw 146 rfl) e7_ fc4_.g5 (hC e26_25.1) fun T8_ X8_ e8_ => ?_
  refine jg T8_ mM 29 ll2 [(.ref a), (.int 0), (.int 0), (.ref b1_), (.int 0), (.ref nb)] (fun tT kK => ?_) ?_
  · refine XS.aloadN X8_.here hx rfl (hC e26_25.2.1) rfl rfl ?_
    exact kK
  refine jf X8_ hx hZ hown (jk hw 145 rfl) e8_ fc4_.g4 (hC e26_25.2.2.1) fun T9_ X9_ e9_ => ?_
  refine jg T9_ mM 33 ll2 [(.int 0), (.int 0), (.ref b1_), (.int 0), (.ref nb)] (fun tT kK => ?_) ?_
  · refine XS.isub X9_.here hx rfl (hC e26_25.2.2.2) rfl ?_
    exact kK
  obtain ⟨T10_, h10_, L10_, X10_, e10_, N10_, Kc10_, V10_, st10_⟩ := cpA X9_ hx hZ hown (jk hw 170 rfl) (jk hw 76 rfl) (jk hw 74 rfl) (jk hw 75 rfl) e9_ fc5_ V1_ (us := []) (Or.inl ⟨rfl, rfl⟩) (by decide) (by decide) (by decide) (by decide) (by decide) rfl (Nat.le_of_ble_eq_true rfl) N0 ge_b1_ (g := (mkF mM 33 ll2 [(.int 0), (.int 0), (.ref b1_), (.int 0), (.ref nb)])) rfl (by rw [hml]; rfl) rfl (hC e26_33.1) (by decide) (W := 0) (by show 2 * 0 + _ ≤ _; exact Nat.le_of_eq rfl) (by decide)
  have fc11_ := fc4_.keep Kc10_ (ninS ne2_ nin0)
  have Vw10_ : Arv Z h10_ b1_ k1_ .byte (28 : Int32) [(.int 0), (.int 0), (.int 0), (.int 0), (.int 0), (.int 0), (.int 0), (.int 0), (.int 0), (.int 0), (.int 0), (.int 0), (.int 0), (.int 0), (.int 0), (.int 0), (.int 0), (.int 0), (.int 0), (.int 0), (.int 0), (.int 0), (.int 0), (.int 0), (.int 0), (.int 0), (.int 0), (.int 0)] (.int 0) := V10_
  have K10_ := K1_.trans Kc10_ (allS (Or.inr sz_b1_) all0)
  refine own_fin st10_ ?_
  refine jg T10_ mM 37 ll2 [(.ref a)] (fun tT kK => ?_) ?_
  · refine XS.aloadN X10_.here hx rfl (hC e26_33.2.1) rfl rfl ?_
    exact kK
  refine jf X10_ hx hZ hown (jk hw 65 rfl) e10_ fc11_.g6 (hC e26_33.2.2.1) fun T13_ X13_ e13_ => ?_
  refine jg T13_ mM 58 ll2 [(.ref a), (.ref a)] (fun tT kK => ?_) ?_
  · refine XS.ifYes X13_.here hx rfl (pc0 := 40) (pc' := 56) rfl (hC e26_33.2.2.2) rfl ((if0 _ _).trans (tlt ((by decide) : (-1 : Int32) < (0 : Int32))).1) (by decide) (by decide) ?_
    refine XS.aloadN X13_.here hx rfl (hC e26_56.1) rfl rfl ?_
    refine XS.dup X13_.here hx rfl (hC e26_56.2.1) rfl rfl ?_
    exact kK
  refine jf X13_ hx hZ hown (jk hw 146 rfl) e13_ fc11_.g5 (hC e26_56.2.2.1) fun T14_ X14_ e14_ => ?_
  refine jg T14_ mM 62 ll2 [(.ref a), (.int 0), (.ref a)] (fun tT kK => ?_) ?_
  · refine XS.aloadN X14_.here hx rfl (hC e26_56.2.2.2) rfl rfl ?_
    exact kK
  refine jf X14_ hx hZ hown (jk hw 145 rfl) e14_ fc11_.g4 (hC e26_62.1) fun T15_ X15_ e15_ => ?_
  refine jg T15_ mM 66 ll2 [(.int 0), (.ref a)] (fun tT kK => ?_) ?_
  · refine XS.isub X15_.here hx rfl (hC e26_62.2.1) rfl ?_
    exact kK
  refine jq X15_ hx hZ hown (jk hw 146 rfl) e15_ fc11_.g5 fc11_.E (jk hw 139 rfl) (jk hw 55 rfl) (ty := .int) (by decide) rfl rfl (hC e26_62.2.2.1) K10_ N10_ (Or.inl (List.mem_of_getElem? (i := 0) rfl)) g_a fun T16_ h16_ X16_ e16_ W16_ Fw16_ K16_ N16_ => ?_
  have fc19_ := Vw10_.other W16_ (Ne.symm ne2_)
  have Bw16_ := fc11_.s5 hw W16_
  refine jg T16_ mM 71 ll2 [(.int 0), (.ref a)] (fun tT kK => ?_) ?_
  · refine XS.aloadN X16_.here hx rfl (hC e26_62.2.2.2) rfl rfl ?_
    refine XS.iconst X16_.here hx rfl (hC e26_70.1) ?_
    exact kK
  refine jq X16_ hx hZ hown (jk hw 145 rfl) e16_ Bw16_.g4 Bw16_.E (jk hw 130 rfl) (jk hw 55 rfl) (ty := .int) (by decide) rfl rfl (hC e26_70.2.1) K16_ N16_ (Or.inl (List.mem_of_getElem? (i := 0) rfl)) g_a fun T20_ h20_ X20_ e20_ W20_ Fw20_ K20_ N20_ => ?_
  have fc22_ := fc19_.other W20_ (Ne.symm ne2_)
  have Bw20_ := Bw16_.s4 hw W20_
  refine jg T20_ mM 76 ll2 [(.ref b1_), (.ref a)] (fun tT kK => ?_) ?_
  · refine XS.aloadN X20_.here hx rfl (hC e26_70.2.2.1) rfl rfl ?_
    refine XS.aloadN X20_.here hx rfl (hC e26_70.2.2.2) rfl rfl ?_
    exact kK
  refine jq X20_ hx hZ hown (jk hw 63 rfl) e20_ Bw20_.g3 Bw20_.E (jk hw 64 rfl) (jk hw 55 rfl) (ty := (.array .byte)) (by decide) rfl rfl (hC e26_76.1) K20_ N20_ (Or.inl (List.mem_of_getElem? (i := 0) rfl)) g_a fun T23_ h23_ X23_ e23_ W23_ Fw23_ K23_ N23_ => ?_
  have fc25_ := fc22_.other W23_ (Ne.symm ne2_)
  have Bw23_ := Bw20_.s3 hw W23_
  exact own_rV X23_ hx hlk hre (hC e26_76.2) e23_ (by decide) (by decide) ⟨b1_, k1_, [(.int 0), (.int 0), (.int 0), (.int 0), (.int 0), (.int 0), (.int 0), (.int 0), (.int 0), (.int 0), (.int 0), (.int 0), (.int 0), (.int 0), (.int 0), (.int 0), (.int 0), (.int 0), (.int 0), (.int 0), (.int 0), (.int 0), (.int 0), (.int 0), (.int 0), (.int 0), (.int 0), (.int 0)], rfl, N23_, K23_, sz_b1_, rfl, Bw23_, fc25_⟩
theorem e24_0 : jD15 0 (.aload_n 0, 1) ∧ jD15 1 (.getfield 35, 3) ∧ jD15 4 (.iload_n 1, 1) ∧ jD15 5 (.iadd, 1) := by decide +kernel
theorem e24_6 : jD15 6 (.aload_n 0, 1) ∧ jD15 7 (.getfield 13, 3) ∧ jD15 10 (.arraylength, 1) ∧ jD15 11 (.if_icmp .le 21, 3) := by decide +kernel
theorem e24_14 : jD15 14 (.aload_n 0, 1) ∧ jD15 15 (.aload_n 0, 1) ∧ jD15 16 (.getfield 35, 3) ∧ jD15 19 (.aload_n 0, 1) := by decide +kernel
theorem e24_20 : jD15 20 (.getfield 38, 3) ∧ jD15 23 (.isub, 1) ∧ jD15 24 (.iload_n 1, 1) ∧ jD15 25 (.iadd, 1) := by decide +kernel
theorem d24_26 : jD15 26 (.invokestatic 129, 3) := by decide +kernel
theorem own_pd2 : parseMethodDescriptor "(I)I" = some ⟨[.int], some .int⟩ := by decide +kernel
theorem d24_29 : jD15 29 (.invokevirtual 126, 3) := by decide +kernel
theorem own_pd3 : parseMethodDescriptor "(I)V" = some ⟨[.int], none⟩ := by decide +kernel
theorem d24_32 : jD15 32 (.return_, 1) := by decide +kernel
theorem own_ef_rm_mr1 (mM : MethodId) (x0 : Addr) (x1 : Int32) : entryFrame mM #[(.ref x0), (.int x1)] 2 = mkF mM 0 #[.val (.ref x0), .val (.int x1)] [] := by first | (simp [entryFrame, mkF, argsToLocals, Value.category]; done) | rfl
def Q_rm_mr1 (Z : State) (a : Addr) (nb : Addr) (kn : ClassId) (sz : Int64) (ff : Int64) (ft : Int64) (lg : Int64) (lf : Int64) (lt : Int64) (h0 : Heap) (n0 : Nat) (vV : Option Value) (hH : Heap) (lA : List Loc) : Prop := ∃ ba : Addr, ∃ kb : ClassId, ∃ vs : List Value, vV = none ∧ Fr n0 lA ∧ (Keep h0 hH [a]) ∧ (h0.size ≤ ba) ∧ (vs.length = 28) ∧ (own_bP Z hH a sz ff ft (.ref ba) (0 : Int32) (0 : Int32) (-1 : Int32) lg lf lt) ∧ (Arv Z hH ba kb .byte (28 : Int32) vs (.int 0))
theorem rm_mr1 (lL : Launch) (Z : State) (a0 : Array Value) (hw : own_H a0 Z) (ws : List Jvm.Cond) (a : Addr) (nb : Addr) (kn : ClassId) (sz : Int64) (ff : Int64) (ft : Int64) (lg : Int64) (lf : Int64) (lt : Int64) (h0 : Heap) (n0 : Nat) (Z0 : n0 ≤ h0.size) (F0 : own_bP Z h0 a sz ff ft (.ref nb) (0 : Int32) (0 : Int32) (-1 : Int32) lg lf lt) (Vn : Arv Z h0 nb kn .byte (0 : Int32) [] (.int 0)) (g_a : n0 ≤ a) :
    own_Met lL jy15 (Jvm.Cond.code jy15 prog_39_method_16_code 2 none :: ws) jr7 #[(.ref a), (.int 19)] Z h0 (Q_rm_mr1 Z a nb kn sz ff ft lg lf lt h0 n0) := by
  refine own_begin (plainFor_of_name own_pn_com_example_portion_portion_server_OffsetSet_Page) (fun mM => own_ef_rm_mr1 mM a (19 : Int32)) fun pP eE sS mM below meth cC s₁ hx hby hml hZ hown hnm hre hlk X0 e0 => ?_
  have hC := @Jvm.hb _ _ hby
  have N0 := Fr.nil n0
  have K0 := Keep.refl h0 [a]
  refine jg s₁ mM 1 #[vR a, vI 19] [(.ref a)] (fun tT kK => ?_) ?_
  · refine XS.aloadN X0.here hx rfl (hC e24_0.1) rfl rfl ?_
    exact kK
  refine jf X0 hx hZ hown (jk hw 146 rfl) e0 F0.g5 (hC e24_0.2.1) fun T1_ X1_ e1_ => ?_
  refine jg T1_ mM 7 #[vR a, vI 19] [(.ref a), (.int 19)] (fun tT kK => ?_) ?_
  · refine XS.iloadN X1_.here hx rfl (hC e24_0.2.2.1) rfl ?_
    refine XS.iadd X1_.here hx rfl (hC e24_0.2.2.2) rfl ?_
    refine XS.aloadN X1_.here hx rfl (hC e24_6.1) rfl rfl ?_
    exact kK
  refine jf X1_ hx hZ hown (jk hw 63 rfl) e1_ F0.g3 (hC e24_6.2.1) fun T2_ X2_ e2_ => ?_
  obtain ⟨cl3_, Ar3_, qk3_, Sz3_, Nn3_, Hh3_, Gg3_⟩ := id Vn
  refine jg T2_ mM 16 #[vR a, vI 19] [(.ref a), (.ref a)] (fun tT kK => ?_) ?_
  · refine X2_.arraylength hx (own_rw e2_ Ar3_.1) (State.isArrayOf_alike hZ.alike Ar3_.2.1) (g := (mkF mM 10 #[vR a, vI 19] [(.ref nb), (.int 19)])) rfl rfl (hC e24_6.2.2.1) _ ?_
    rw [len_of Sz3_ Nn3_]
    refine XS.icmpNo X2_.here hx rfl (hC e24_6.2.2.2) rfl (tlt ((by decide) : (0 : Int32) < (19 : Int32))).2.2.2 ?_
    refine XS.aloadN X2_.here hx rfl (hC e24_14.1) rfl rfl ?_
    refine XS.aloadN X2_.here hx rfl (hC e24_14.2.1) rfl rfl ?_
    exact kK
  refine jf X2_ hx hZ hown (jk hw 146 rfl) e2_ F0.g5 (hC e24_14.2.2.1) fun T4_ X4_ e4_ => ?_
  refine jg T4_ mM 20 #[vR a, vI 19] [(.ref a), (.int 0), (.ref a)] (fun tT kK => ?_) ?_
  · refine XS.aloadN X4_.here hx rfl (hC e24_14.2.2.2) rfl rfl ?_
    exact kK
  refine jf X4_ hx hZ hown (jk hw 145 rfl) e4_ F0.g4 (hC e24_20.1) fun T5_ X5_ e5_ => ?_
  refine jg T5_ mM 26 #[vR a, vI 19] [(.int 19), (.ref a)] (fun tT kK => ?_) ?_
  · refine XS.isub X5_.here hx rfl (hC e24_20.2.1) rfl ?_
    refine XS.iloadN X5_.here hx rfl (hC e24_20.2.2.1) rfl ?_
    refine XS.iadd X5_.here hx rfl (hC e24_20.2.2.2) rfl ?_
    exact kK
  refine jc X5_ hx hZ (y := jy13) hown (jk hw 161 rfl) (jk hw 162 rfl) (jk hw 56 rfl) (jk hw 163 rfl) (rm_wr lL Z a0 hw []  h0 n0 (Nat.le_trans Z0 K0.1) ) e5_ own_pd2 [(.int 19)] [(.ref a)] (hC d24_26) rfl rfl (by rw [hml]; rfl) (by decide) 1 (Nat.le_of_eq rfl) (by decide) (by decide) (by decide : 0 + 0 ≤ _) (by decide : 0 + 0 ≤ _) fun vv6_ T6_ L6_ X6_ hQ6_ => ?_
  obtain ⟨rfl, N6_q, p6__0⟩ := hQ6_
  have N6_ := Fr.app N0 N6_q
  refine jw X6_ hx hZ (y := jy14) hown (jk hw 165 rfl) (jk hw 166 rfl) (own_selP (y := jy14) hZ (jk hw 55 rfl) (jk hw 167 rfl) (jk hw 166 rfl) (by decide)) (jk hw 167 rfl) (jk hw 168 rfl) (jk hw 56 rfl) (rm_mv1 lL Z a0 hw [] a nb kn sz ff ft lg lf lt h0 n0 (Nat.le_trans Z0 K0.1) F0 Vn g_a) F0.E p6__0 own_pd3 [(.int 28)] [] (hC d24_29) rfl rfl (by rw [hml]; rfl) (by decide) 0 (Nat.le_of_eq rfl) (by decide) (by decide) (by decide : 0 + 1 ≤ _) (by decide : 0 + 28 ≤ _) fun vv7_ T7_ L7_ X7_ hQ7_ => ?_
  obtain ⟨ba_7_, kb_7_, vs_7_, rfl, N7_q, p7__0, p7__1, p7__2, p7__3, p7__4⟩ := hQ7_
  have N7_ := Fr.app N6_ N7_q
  have sz_ba_7_ : h0.size ≤ ba_7_ := Nat.le_trans K0.1 p7__1
  have K7_ := K0.trans p7__0 (allS (Or.inl (List.mem_of_getElem? (i := 0) rfl)) all0)
  exact own_rV X7_ hx hlk hre (hC d24_32) rfl (by decide) (by decide) ⟨ba_7_, kb_7_, vs_7_, rfl, N7_, K7_, sz_ba_7_, p7__2, p7__3, p7__4⟩
theorem own_ef_rm_mr57 (mM : MethodId) (x0 : Addr) (x1 : Int32) : entryFrame mM #[(.ref x0), (.int x1)] 2 = mkF mM 0 #[.val (.ref x0), .val (.int x1)] [] := by first | (simp [entryFrame, mkF, argsToLocals, Value.category]; done) | rfl
def Q_rm_mr57 (Z : State) (a : Addr) (ba : Addr) (kb : ClassId) (vs : List Value) (h0 : Heap) (n0 : Nat) (vV : Option Value) (hH : Heap) (lA : List Loc) : Prop := vV = none ∧ Fr n0 lA ∧ (hH = h0)
theorem rm_mr57 (lL : Launch) (Z : State) (a0 : Array Value) (hw : own_H a0 Z) (ws : List Jvm.Cond) (a : Addr) (ba : Addr) (kb : ClassId) (vs : List Value) (h0 : Heap) (n0 : Nat) (Z0 : n0 ≤ h0.size) (Fe : jF9 Z h0 a (.int 0)) (Fb : jF7 Z h0 a (.ref ba)) (Vb : Arv Z h0 ba kb .byte (57 : Int32) vs (.int 0)) :
    own_Met lL jy15 (Jvm.Cond.code jy15 prog_39_method_16_code 2 none :: ws) jr0 #[(.ref a), (.int 19)] Z h0 (Q_rm_mr57 Z a ba kb vs h0 n0) := by
  refine own_begin (plainFor_of_name own_pn_com_example_portion_portion_server_OffsetSet_Page) (fun mM => own_ef_rm_mr57 mM a (19 : Int32)) fun pP eE sS mM below meth cC s₁ hx hby hml hZ hown hnm hre hlk X0 e0 => ?_
  have hC := @Jvm.hb _ _ hby
  have N0 := Fr.nil n0
  have K0 := Keep.refl h0 ([] : List Addr)
  refine jg s₁ mM 1 #[vR a, vI 19] [(.ref a)] (fun tT kK => ?_) ?_
  · refine XS.aloadN X0.here hx rfl (hC e24_0.1) rfl rfl ?_
    exact kK
  refine jf X0 hx hZ hown (jk hw 146 rfl) e0 Fe (hC e24_0.2.1) fun T1_ X1_ e1_ => ?_
  refine jg T1_ mM 7 #[vR a, vI 19] [(.ref a), (.int 19)] (fun tT kK => ?_) ?_
  · refine XS.iloadN X1_.here hx rfl (hC e24_0.2.2.1) rfl ?_
    refine XS.iadd X1_.here hx rfl (hC e24_0.2.2.2) rfl ?_
    refine XS.aloadN X1_.here hx rfl (hC e24_6.1) rfl rfl ?_
    exact kK
  refine jf X1_ hx hZ hown (jk hw 63 rfl) e1_ Fb (hC e24_6.2.1) fun T2_ X2_ e2_ => ?_
  obtain ⟨cl3_, Ar3_, qk3_, Sz3_, Nn3_, Hh3_, Gg3_⟩ := id Vb
  refine jg T2_ mM 32 #[vR a, vI 19] [] (fun tT kK => ?_) ?_
  · refine X2_.arraylength hx (own_rw e2_ Ar3_.1) (State.isArrayOf_alike hZ.alike Ar3_.2.1) (g := (mkF mM 10 #[vR a, vI 19] [(.ref ba), (.int 19)])) rfl rfl (hC e24_6.2.2.1) _ ?_
    rw [len_of Sz3_ Nn3_]
    refine XS.icmpYes X2_.here hx rfl (pc0 := 11) (pc' := 32) rfl (hC e24_6.2.2.2) rfl (flt ((by decide) : ¬ ((57 : Int32) < (19 : Int32)))).2.2.2 (by decide) (by decide) ?_
    exact kK
  exact own_rV X2_ hx hlk hre (hC d24_32) e2_ (by decide) (by decide) ⟨rfl, N0, rfl⟩
theorem e13_0 : jD16 0 (.aload_n 0, 1) ∧ jD16 1 (.invokevirtual 41, 3) := by decide +kernel
theorem own_pd4 : parseMethodDescriptor "()J" = some ⟨[], some .long⟩ := by decide +kernel
theorem e13_4 : jD16 4 (.lstore 5, 2) ∧ jD16 6 (.aload_n 0, 1) ∧ jD16 7 (.getfield 45, 3) ∧ jD16 10 (.lconst 0, 1) := by decide +kernel
theorem e13_11 : jD16 11 (.lcmp, 1) ∧ jD16 12 (.ifCond .ne 23, 3) ∧ jD16 15 (.aload_n 0, 1) ∧ jD16 16 (.lload_n 1, 1) := by decide +kernel
theorem e13_17 : jD16 17 (.putfield 22, 3) ∧ jD16 20 (.aload_n 0, 1) ∧ jD16 21 (.lload_n 3, 1) ∧ jD16 22 (.putfield 29, 3) := by decide +kernel
theorem e13_25 : jD16 25 (.aload_n 0, 1) ∧ jD16 26 (.lload_n 3, 1) ∧ jD16 27 (.lload_n 1, 1) ∧ jD16 28 (.lsub, 1) := by decide +kernel
theorem e13_29 : jD16 29 (.putfield 45, 3) ∧ jD16 32 (.goto 131, 3) ∧ jD16 163 (.return_, 1) := by decide +kernel
theorem own_ef_rm_ex0 (mM : MethodId) (x0 : Addr) (x1 : Int64) (x2 : Int64) : entryFrame mM #[(.ref x0), (.long x1), (.long x2)] 7 = mkF mM 0 #[.val (.ref x0), .val (.long x1), .second, .val (.long x2), .second, .unset, .unset] [] := by first | (simp [entryFrame, mkF, argsToLocals, Value.category]; done) | rfl
def Q_rm_ex0 (Z : State) (a : Addr) (by_ : Addr) (ff : Int64) (ft : Int64) (lg : Int64) (lf : Int64) (lt : Int64) (f : Int64) (t : Int64) (h0 : Heap) (n0 : Nat) (vV : Option Value) (hH : Heap) (lA : List Loc) : Prop := vV = none ∧ Fr n0 lA ∧ (Keep h0 hH [a]) ∧ (own_bP Z hH a (t - f) f t (.ref by_) (0 : Int32) (0 : Int32) (-1 : Int32) lg lf lt)
theorem rm_ex0 (lL : Launch) (Z : State) (a0 : Array Value) (hw : own_H a0 Z) (ws : List Jvm.Cond) (a : Addr) (by_ : Addr) (ff : Int64) (ft : Int64) (lg : Int64) (lf : Int64) (lt : Int64) (f : Int64) (t : Int64) (h0 : Heap) (n0 : Nat) (Z0 : n0 ≤ h0.size) (F0 : own_bP Z h0 a (0 : Int64) ff ft (.ref by_) (0 : Int32) (0 : Int32) (-1 : Int32) lg lf lt) (g_a : n0 ≤ a) :
    own_Met lL jy16 (Jvm.Cond.code jy16 prog_39_method_5_code 7 none :: ws) jr1 #[(.ref a), (.long f), (.long t)] Z h0 (Q_rm_ex0 Z a by_ ff ft lg lf lt f t h0 n0) := by
  refine own_begin (plainFor_of_name own_pn_com_example_portion_portion_server_OffsetSet_Page) (fun mM => own_ef_rm_ex0 mM a f t) fun pP eE sS mM below meth cC s₁ hx hby hml hZ hown hnm hre hlk X0 e0 => ?_
  have hC := @Jvm.hb _ _ hby
  have N0 := Fr.nil n0
  have K0 := Keep.refl h0 [a]
  let ll1 : Array Slot := #[vR a, vJ f, vS, vJ t, vS, vU, vU]
  refine jg s₁ mM 1 ll1 [(.ref a)] (fun tT kK => ?_) ?_
  · refine XS.aloadN X0.here hx rfl (hC e13_0.1) rfl rfl ?_
    exact kK
  refine jv X0 hx hZ (y := jy5) hown (jk hw 84 rfl) (jk hw 85 rfl) (jk hw 87 rfl) (jk hw 86 rfl) (jk hw 88 rfl) (jk hw 56 rfl) (rm_lta lL Z a0 hw [] a ft h0 n0 (Nat.le_trans Z0 K0.1) F0.g6 F0.g2) F0.E e0 own_pd4 [] [] (hC e13_0.2) rfl rfl (by rw [hml]; rfl) (by decide) 0 (Nat.le_of_eq rfl) (by decide) (by decide) (by decide : 0 + 0 ≤ _) (by decide : 0 + 0 ≤ _) fun vv1_ T1_ L1_ X1_ hQ1_ => ?_
  obtain ⟨rfl, N1_q, p1__0⟩ := hQ1_
  have N1_ := Fr.app N0 N1_q
  let ll2 : Array Slot := #[vR a, vJ f, vS, vJ t, vS, vJ ft, vS]
  refine jg T1_ mM 7 ll2 [(.ref a)] (fun tT kK => ?_) ?_
  · refine XS.lstore X1_.here hx rfl (hC e13_4.1) rfl (l' := ll2) rfl ?_
    refine XS.aloadN X1_.here hx rfl (hC e13_4.2.1) rfl rfl ?_
    exact kK
  refine jf X1_ hx hZ hown (jk hw 91 rfl) p1__0 F0.g0 (hC e13_4.2.2.1) fun T2_ X2_ e2_ => ?_
  refine jg T2_ mM 17 ll2 [(.long f), (.ref a)] (fun tT kK => ?_) ?_
  · refine XS.lconst X2_.here hx rfl (hC e13_4.2.2.2) ?_
    refine XS.lcmp X2_.here hx rfl (hC e13_11.1) rfl ?_
    refine XS.ifNo X2_.here hx rfl (hC e13_11.2.1) rfl ((if0 _ _).trans (teq ((lw_eq (0 : Int64) (0 : Int64)).mpr ((by decide) : (0 : Int64) = (0 : Int64)))).2) ?_
    refine XS.aloadN X2_.here hx rfl (hC e13_11.2.2.1) rfl rfl ?_
    refine XS.lloadN X2_.here hx rfl (hC e13_11.2.2.2) rfl ?_
    exact kK
  refine jq X2_ hx hZ hown (jk hw 92 rfl) e2_ F0.g1 F0.E (jk hw 93 rfl) (jk hw 55 rfl) (ty := .long) (by decide) rfl rfl (hC e13_17.1) K0 N1_ (Or.inl (List.mem_of_getElem? (i := 0) rfl)) g_a fun T3_ h3_ X3_ e3_ W3_ Fw3_ K3_ N3_ => ?_
  have Bw3_ := F0.s1 hw W3_
  refine jg T3_ mM 22 ll2 [(.long t), (.ref a)] (fun tT kK => ?_) ?_
  · refine XS.aloadN X3_.here hx rfl (hC e13_17.2.1) rfl rfl ?_
    refine XS.lloadN X3_.here hx rfl (hC e13_17.2.2.1) rfl ?_
    exact kK
  refine jq X3_ hx hZ hown (jk hw 89 rfl) e3_ Bw3_.g2 Bw3_.E (jk hw 90 rfl) (jk hw 55 rfl) (ty := .long) (by decide) rfl rfl (hC e13_17.2.2.2) K3_ N3_ (Or.inl (List.mem_of_getElem? (i := 0) rfl)) g_a fun T4_ h4_ X4_ e4_ W4_ Fw4_ K4_ N4_ => ?_
  have Bw4_ := Bw3_.s2 hw W4_
  refine jg T4_ mM 29 ll2 [(.long (t - f)), (.ref a)] (fun tT kK => ?_) ?_
  · refine XS.aloadN X4_.here hx rfl (hC e13_25.1) rfl rfl ?_
    refine XS.lloadN X4_.here hx rfl (hC e13_25.2.1) rfl ?_
    refine XS.lloadN X4_.here hx rfl (hC e13_25.2.2.1) rfl ?_
    refine XS.lsub X4_.here hx rfl (hC e13_25.2.2.2) rfl ?_
    exact kK
  refine jq X4_ hx hZ hown (jk hw 91 rfl) e4_ Bw4_.g0 Bw4_.E (jk hw 78 rfl) (jk hw 55 rfl) (ty := .long) (by decide) rfl rfl (hC e13_29.1) K4_ N4_ (Or.inl (List.mem_of_getElem? (i := 0) rfl)) g_a fun T5_ h5_ X5_ e5_ W5_ Fw5_ K5_ N5_ => ?_
  have Bw5_ := Bw4_.s0 hw W5_
  refine jg T5_ mM 163 ll2 [] (fun tT kK => ?_) ?_
  · refine XS.goto X5_.here hx rfl (pc0 := 32) (pc' := 163) rfl (hC e13_29.2.1) (by decide) (by decide) ?_
    exact kK
  exact own_rV X5_ hx hlk hre (hC e13_29.2.2) e5_ (by decide) (by decide) ⟨rfl, N5_, K5_, Bw5_⟩
theorem e13_35 : jD16 35 (.lload_n 1, 1) ∧ jD16 36 (.lload 5, 2) ∧ jD16 38 (.lcmp, 1) ∧ jD16 39 (.ifCond .le 46, 3) := by decide +kernel
theorem e13_42 : jD16 42 (.aload_n 0, 1) ∧ jD16 43 (.bipush 19, 2) ∧ jD16 45 (.invokevirtual 48, 3) ∧ jD16 48 (.aload_n 0, 1) := by decide +kernel
theorem e13_49 : jD16 49 (.lload_n 1, 1) ∧ jD16 50 (.lload 5, 2) ∧ jD16 52 (.lsub, 1) ∧ jD16 53 (.putfield 52, 3) := by decide +kernel
theorem e13_56 : jD16 56 (.aload_n 0, 1) ∧ jD16 57 (.lload_n 1, 1) ∧ jD16 58 (.putfield 26, 3) ∧ jD16 61 (.aload_n 0, 1) := by decide +kernel
theorem e13_62 : jD16 62 (.lload_n 3, 1) ∧ jD16 63 (.putfield 32, 3) ∧ jD16 66 (.aload_n 0, 1) ∧ jD16 67 (.invokevirtual 55, 3) := by decide +kernel
theorem own_pd5 : parseMethodDescriptor "()V" = some ⟨[], none⟩ := by decide +kernel
theorem e13_70 : jD16 70 (.aload_n 0, 1) ∧ jD16 71 (.dup, 1) ∧ jD16 72 (.getfield 45, 3) ∧ jD16 75 (.lload_n 3, 1) := by decide +kernel
theorem e13_76 : jD16 76 (.lload_n 1, 1) ∧ jD16 77 (.lsub, 1) ∧ jD16 78 (.ladd, 1) ∧ jD16 79 (.putfield 45, 3) := by decide +kernel
theorem d13_82 : jD16 82 (.goto 81, 3) := by decide +kernel
theorem own_ef_rm_exb (mM : MethodId) (x0 : Addr) (x1 : Int64) (x2 : Int64) : entryFrame mM #[(.ref x0), (.long x1), (.long x2)] 7 = mkF mM 0 #[.val (.ref x0), .val (.long x1), .second, .val (.long x2), .second, .unset, .unset] [] := by first | (simp [entryFrame, mkF, argsToLocals, Value.category]; done) | rfl
def Q_rm_exb (Z : State) (a : Addr) (nb : Addr) (kn : ClassId) (sz : Int64) (ff : Int64) (ft : Int64) (lg : Int64) (lf : Int64) (lt : Int64) (f : Int64) (t : Int64) (h0 : Heap) (n0 : Nat) (vV : Option Value) (hH : Heap) (lA : List Loc) : Prop := ∃ ba : Addr, ∃ kb : ClassId, ∃ en : Int32, ∃ vs : List Value, vV = none ∧ Fr n0 lA ∧ (Keep h0 hH [a]) ∧ (h0.size ≤ ba) ∧ (own_E vs en.toNatClampNeg (f - ft).toInt) ∧ (1 ≤ en.toInt ∧ en.toInt ≤ 19) ∧ (own_bP Z hH a (sz + (t - f)) ff ft (.ref ba) (0 : Int32) en (0 : Int32) (f - ft) f t) ∧ (Arv Z hH ba kb .byte (28 : Int32) vs (.int 0))
theorem rm_exb (lL : Launch) (Z : State) (a0 : Array Value) (hw : own_H a0 Z) (ws : List Jvm.Cond) (a : Addr) (nb : Addr) (kn : ClassId) (sz : Int64) (ff : Int64) (ft : Int64) (lg : Int64) (lf : Int64) (lt : Int64) (f : Int64) (t : Int64) (h0 : Heap) (n0 : Nat) (Z0 : n0 ≤ h0.size) (F0 : own_bP Z h0 a sz ff ft (.ref nb) (0 : Int32) (0 : Int32) (-1 : Int32) lg lf lt) (Vn : Arv Z h0 nb kn .byte (0 : Int32) [] (.int 0)) (hs : 1 ≤ sz.toInt) (h0f : 0 ≤ ft.toInt) (h1 : ft.toInt < f.toInt) (hn : (t - f).toInt = 1) (g_a : n0 ≤ a) :
    own_Met lL jy16 (Jvm.Cond.code jy16 prog_39_method_5_code 7 none :: ws) jr8 #[(.ref a), (.long f), (.long t)] Z h0 (Q_rm_exb Z a nb kn sz ff ft lg lf lt f t h0 n0) := by
  refine own_begin (plainFor_of_name own_pn_com_example_portion_portion_server_OffsetSet_Page) (fun mM => own_ef_rm_exb mM a f t) fun pP eE sS mM below meth cC s₁ hx hby hml hZ hown hnm hre hlk X0 e0 => ?_
  have hC := @Jvm.hb _ _ hby
  have N0 := Fr.nil n0
  have K0 := Keep.refl h0 [a]
  let ll1 : Array Slot := #[vR a, vJ f, vS, vJ t, vS, vU, vU]
  refine jg s₁ mM 1 ll1 [(.ref a)] (fun tT kK => ?_) ?_
  · refine XS.aloadN X0.here hx rfl (hC e13_0.1) rfl rfl ?_
    exact kK
  refine jv X0 hx hZ (y := jy5) hown (jk hw 84 rfl) (jk hw 85 rfl) (jk hw 87 rfl) (jk hw 86 rfl) (jk hw 88 rfl) (jk hw 56 rfl) (rm_lta lL Z a0 hw [] a ft h0 n0 (Nat.le_trans Z0 K0.1) F0.g6 F0.g2) F0.E e0 own_pd4 [] [] (hC e13_0.2) rfl rfl (by rw [hml]; rfl) (by decide) 0 (Nat.le_of_eq rfl) (by decide) (by decide) (by decide : 0 + 0 ≤ _) (by decide : 0 + 0 ≤ _) fun vv1_ T1_ L1_ X1_ hQ1_ => ?_
  obtain ⟨rfl, N1_q, p1__0⟩ := hQ1_
  have N1_ := Fr.app N0 N1_q
  let ll2 : Array Slot := #[vR a, vJ f, vS, vJ t, vS, vJ ft, vS]
  refine jg T1_ mM 7 ll2 [(.ref a)] (fun tT kK => ?_) ?_
  · refine XS.lstore X1_.here hx rfl (hC e13_4.1) rfl (l' := ll2) rfl ?_
    refine XS.aloadN X1_.here hx rfl (hC e13_4.2.1) rfl rfl ?_
    exact kK
  refine jf X1_ hx hZ hown (jk hw 91 rfl) p1__0 F0.g0 (hC e13_4.2.2.1) fun T2_ X2_ e2_ => ?_
  refine jg T2_ mM 12 ll2 [(.int (lcmpW sz (0 : Int64)))] (fun tT kK => ?_) ?_
  · refine XS.lconst X2_.here hx rfl (hC e13_4.2.2.2) ?_
    refine XS.lcmp X2_.here hx rfl (hC e13_11.1) rfl ?_
    exact kK
  have t3_ : (0 : Int64).toInt = 0 := rfl
  refine jg T2_ mM 45 ll2 [(.int 19), (.ref a)] (fun tT kK => ?_) ?_
  · refine XS.ifYes X2_.here hx rfl (pc0 := 12) (pc' := 35) rfl (hC e13_11.2.1) rfl ((if0 _ _).trans (feq (mt (lw_eq sz (0 : Int64)).mp ((own_nev (by omega)) : ¬ (sz = (0 : Int64))))).2) (by decide) (by decide) ?_
    refine XS.lloadN X2_.here hx rfl (hC e13_35.1) rfl ?_
    refine XS.lload X2_.here hx rfl (hC e13_35.2.1) rfl ?_
    refine XS.lcmp X2_.here hx rfl (hC e13_35.2.2.1) rfl ?_
    refine XS.ifNo X2_.here hx rfl (hC e13_35.2.2.2) rfl ((if0 _ _).trans (tlt ((lw_gt f ft).mpr ((own_lt (by omega)) : ft < f))).2.2.2) ?_
    refine XS.aloadN X2_.here hx rfl (hC e13_42.1) rfl rfl ?_
    refine XS.bipush X2_.here hx rfl (hC e13_42.2.1) ?_
    exact kK
  refine jw X2_ hx hZ (y := jy15) hown (jk hw 157 rfl) (jk hw 158 rfl) (own_selP (y := jy15) hZ (jk hw 55 rfl) (jk hw 159 rfl) (jk hw 158 rfl) (by decide)) (jk hw 159 rfl) (jk hw 160 rfl) (jk hw 56 rfl) (rm_mr1 lL Z a0 hw [] a nb kn sz ff ft lg lf lt h0 n0 (Nat.le_trans Z0 K0.1) F0 Vn g_a) F0.E e2_ own_pd3 [(.int 19)] [] (hC e13_42.2.2.1) rfl rfl (by rw [hml]; rfl) (by decide) 0 (Nat.le_of_eq rfl) (by decide) (by decide) (by decide : 0 + 1 ≤ _) (by decide : 0 + 28 ≤ _) fun vv4_ T4_ L4_ X4_ hQ4_ => ?_
  obtain ⟨ba_4_, kb_4_, vs_4_, rfl, N4_q, p4__0, p4__1, p4__2, p4__3, p4__4⟩ := hQ4_
  have N4_ := Fr.app N1_ N4_q
  have sz_ba_4_ : h0.size ≤ ba_4_ := Nat.le_trans K0.1 p4__1
  have ge_ba_4_ : n0 ≤ ba_4_ := Nat.le_trans Z0 sz_ba_4_
  have ne5_ : a ≠ ba_4_ := Nat.ne_of_lt (Nat.lt_of_lt_of_le F0.lt p4__1)
  have K4_ := K0.trans p4__0 (allS (Or.inl (List.mem_of_getElem? (i := 0) rfl)) all0)
  refine jg T4_ mM 53 ll2 [(.long (f - ft)), (.ref a)] (fun tT kK => ?_) ?_
  · refine XS.aloadN X4_.here hx rfl (hC e13_42.2.2.2) rfl rfl ?_
    refine XS.lloadN X4_.here hx rfl (hC e13_49.1) rfl ?_
    refine XS.lload X4_.here hx rfl (hC e13_49.2.1) rfl ?_
    refine XS.lsub X4_.here hx rfl (hC e13_49.2.2.1) rfl ?_
    exact kK
  refine jq X4_ hx hZ hown (jk hw 171 rfl) rfl p4__3.g7 p4__3.E (jk hw 172 rfl) (jk hw 55 rfl) (ty := .long) (by decide) rfl rfl (hC e13_49.2.2.2) K4_ N4_ (Or.inl (List.mem_of_getElem? (i := 0) rfl)) g_a fun T9_ h9_ X9_ e9_ W9_ Fw9_ K9_ N9_ => ?_
  have fc11_ := p4__4.other W9_ (Ne.symm ne5_)
  have Bw9_ := p4__3.s7 hw W9_
  refine jg T9_ mM 58 ll2 [(.long f), (.ref a)] (fun tT kK => ?_) ?_
  · refine XS.aloadN X9_.here hx rfl (hC e13_56.1) rfl rfl ?_
    refine XS.lloadN X9_.here hx rfl (hC e13_56.2.1) rfl ?_
    exact kK
  refine jq X9_ hx hZ hown (jk hw 173 rfl) e9_ Bw9_.g8 Bw9_.E (jk hw 174 rfl) (jk hw 55 rfl) (ty := .long) (by decide) rfl rfl (hC e13_56.2.2.1) K9_ N9_ (Or.inl (List.mem_of_getElem? (i := 0) rfl)) g_a fun T12_ h12_ X12_ e12_ W12_ Fw12_ K12_ N12_ => ?_
  have fc14_ := fc11_.other W12_ (Ne.symm ne5_)
  have Bw12_ := Bw9_.s8 hw W12_
  refine jg T12_ mM 63 ll2 [(.long t), (.ref a)] (fun tT kK => ?_) ?_
  · refine XS.aloadN X12_.here hx rfl (hC e13_56.2.2.2) rfl rfl ?_
    refine XS.lloadN X12_.here hx rfl (hC e13_62.1) rfl ?_
    exact kK
  refine jq X12_ hx hZ hown (jk hw 175 rfl) e12_ Bw12_.g9 Bw12_.E (jk hw 176 rfl) (jk hw 55 rfl) (ty := .long) (by decide) rfl rfl (hC e13_62.2.1) K12_ N12_ (Or.inl (List.mem_of_getElem? (i := 0) rfl)) g_a fun T15_ h15_ X15_ e15_ W15_ Fw15_ K15_ N15_ => ?_
  have fc17_ := fc14_.other W15_ (Ne.symm ne5_)
  have Bw15_ := Bw12_.s9 hw W15_
  refine jg T15_ mM 67 ll2 [(.ref a)] (fun tT kK => ?_) ?_
  · refine XS.aloadN X15_.here hx rfl (hC e13_62.2.2.1) rfl rfl ?_
    exact kK
  have t18_ : (28 : Int32).toInt = 28 := rfl
  have t19_ := rng64 f
  have t20_ := rng64 ft
  have t21_ := own_sub (x := f) (y := ft) (by omega)
  refine jw X15_ hx hZ (y := jy12) hown (jk hw 177 rfl) (jk hw 178 rfl) (own_selP (y := jy12) hZ (jk hw 55 rfl) (jk hw 179 rfl) (jk hw 178 rfl) (by decide)) (jk hw 179 rfl) (jk hw 180 rfl) (jk hw 56 rfl) (rm_wl lL Z a0 hw [] a ba_4_ kb_4_ sz ff ft (f - ft) f t (-1 : Int32) (28 : Int32) vs_4_ h15_ n0 (Nat.le_trans Z0 K15_.1) Bw15_ fc17_ p4__2 (by omega) (by omega) (by omega) g_a ge_ba_4_) Bw15_.E e15_ own_pd5 [] [] (hC e13_62.2.2.2) rfl rfl (by rw [hml]; rfl) (by decide) 0 (Nat.le_of_eq rfl) (by decide) (by decide) (by decide : 1 + 0 ≤ _) (by decide : 28 + 0 ≤ _) fun vv22_ T22_ L22_ X22_ hQ22_ => ?_
  obtain ⟨en'_22_, vs'_22_, rfl, N22_q, p22__0, p22__1, p22__2, p22__3, p22__4⟩ := hQ22_
  have N22_ := Fr.app N15_ N22_q
  have K22_ := K15_.trans p22__0 (allS (Or.inl (List.mem_of_getElem? (i := 0) rfl)) (allS (Or.inr sz_ba_4_) all0))
  refine jg T22_ mM 72 ll2 [(.ref a), (.ref a)] (fun tT kK => ?_) ?_
  · refine XS.aloadN X22_.here hx rfl (hC e13_70.1) rfl rfl ?_
    refine XS.dup X22_.here hx rfl (hC e13_70.2.1) rfl rfl ?_
    exact kK
  refine jf X22_ hx hZ hown (jk hw 91 rfl) rfl p22__3.g0 (hC e13_70.2.2.1) fun T24_ X24_ e24_ => ?_
  refine jg T24_ mM 79 ll2 [(.long (sz + (t - f))), (.ref a)] (fun tT kK => ?_) ?_
  · refine XS.lloadN X24_.here hx rfl (hC e13_70.2.2.2) rfl ?_
    refine XS.lloadN X24_.here hx rfl (hC e13_76.1) rfl ?_
    refine XS.lsub X24_.here hx rfl (hC e13_76.2.1) rfl ?_
    refine XS.ladd X24_.here hx rfl (hC e13_76.2.2.1) rfl ?_
    exact kK
  refine jq X24_ hx hZ hown (jk hw 91 rfl) e24_ p22__3.g0 p22__3.E (jk hw 78 rfl) (jk hw 55 rfl) (ty := .long) (by decide) rfl rfl (hC e13_76.2.2.2) K22_ N22_ (Or.inl (List.mem_of_getElem? (i := 0) rfl)) g_a fun T25_ h25_ X25_ e25_ W25_ Fw25_ K25_ N25_ => ?_
  have fc27_ := p22__4.other W25_ (Ne.symm ne5_)
  have Bw25_ := p22__3.s0 hw W25_
  refine jg T25_ mM 163 ll2 [] (fun tT kK => ?_) ?_
  · refine XS.goto X25_.here hx rfl (pc0 := 82) (pc' := 163) rfl (hC d13_82) (by decide) (by decide) ?_
    exact kK
  exact own_rV X25_ hx hlk hre (hC e13_29.2.2) e25_ (by decide) (by decide) ⟨ba_4_, kb_4_, en'_22_, vs'_22_, rfl, N25_, K25_, sz_ba_4_, p22__1, p22__2, Bw25_, fc27_⟩
theorem own_ef_rm_exd (mM : MethodId) (x0 : Addr) (x1 : Int64) (x2 : Int64) : entryFrame mM #[(.ref x0), (.long x1), (.long x2)] 7 = mkF mM 0 #[.val (.ref x0), .val (.long x1), .second, .val (.long x2), .second, .unset, .unset] [] := by first | (simp [entryFrame, mkF, argsToLocals, Value.category]; done) | rfl
def Q_rm_exd (Z : State) (a : Addr) (ba : Addr) (kb : ClassId) (sz : Int64) (ff : Int64) (ft : Int64) (lg : Int64) (lf : Int64) (lt : Int64) (f : Int64) (t : Int64) (us : List Value) (h0 : Heap) (n0 : Nat) (vV : Option Value) (hH : Heap) (lA : List Loc) : Prop := ∃ en : Int32, ∃ vs : List Value, vV = none ∧ Fr n0 lA ∧ (Keep h0 hH [a, ba]) ∧ (own_E vs en.toNatClampNeg (f - ft).toInt) ∧ (1 ≤ en.toInt ∧ en.toInt ≤ 19) ∧ (own_bP Z hH a (sz + (t - f)) ff ft (.ref ba) (0 : Int32) en (0 : Int32) (f - ft) f t) ∧ (Arv Z hH ba kb .byte (57 : Int32) vs (.int 0))
theorem rm_exd (lL : Launch) (Z : State) (a0 : Array Value) (hw : own_H a0 Z) (ws : List Jvm.Cond) (a : Addr) (ba : Addr) (kb : ClassId) (sz : Int64) (ff : Int64) (ft : Int64) (lg : Int64) (lf : Int64) (lt : Int64) (f : Int64) (t : Int64) (us : List Value) (h0 : Heap) (n0 : Nat) (Z0 : n0 ≤ h0.size) (F0 : own_bP Z h0 a sz ff ft (.ref ba) (0 : Int32) (0 : Int32) (-1 : Int32) lg lf lt) (Vb : Arv Z h0 ba kb .byte (57 : Int32) us (.int 0)) (hl : us.length = 57) (hs : 1 ≤ sz.toInt) (h0f : 0 ≤ ft.toInt) (h1 : ft.toInt < f.toInt) (hn : (t - f).toInt = 1) (g_a : n0 ≤ a) (g_ba : n0 ≤ ba) :
    own_Met lL jy16 (Jvm.Cond.code jy16 prog_39_method_5_code 7 none :: ws) jr9 #[(.ref a), (.long f), (.long t)] Z h0 (Q_rm_exd Z a ba kb sz ff ft lg lf lt f t us h0 n0) := by
  refine own_begin (plainFor_of_name own_pn_com_example_portion_portion_server_OffsetSet_Page) (fun mM => own_ef_rm_exd mM a f t) fun pP eE sS mM below meth cC s₁ hx hby hml hZ hown hnm hre hlk X0 e0 => ?_
  have hC := @Jvm.hb _ _ hby
  have N0 := Fr.nil n0
  have K0 := Keep.refl h0 [a, ba]
  let ll1 : Array Slot := #[vR a, vJ f, vS, vJ t, vS, vU, vU]
  refine jg s₁ mM 1 ll1 [(.ref a)] (fun tT kK => ?_) ?_
  · refine XS.aloadN X0.here hx rfl (hC e13_0.1) rfl rfl ?_
    exact kK
  refine jv X0 hx hZ (y := jy5) hown (jk hw 84 rfl) (jk hw 85 rfl) (jk hw 87 rfl) (jk hw 86 rfl) (jk hw 88 rfl) (jk hw 56 rfl) (rm_lta lL Z a0 hw [] a ft h0 n0 (Nat.le_trans Z0 K0.1) F0.g6 F0.g2) F0.E e0 own_pd4 [] [] (hC e13_0.2) rfl rfl (by rw [hml]; rfl) (by decide) 0 (Nat.le_of_eq rfl) (by decide) (by decide) (by decide : 0 + 0 ≤ _) (by decide : 0 + 0 ≤ _) fun vv1_ T1_ L1_ X1_ hQ1_ => ?_
  obtain ⟨rfl, N1_q, p1__0⟩ := hQ1_
  have N1_ := Fr.app N0 N1_q
  let ll2 : Array Slot := #[vR a, vJ f, vS, vJ t, vS, vJ ft, vS]
  refine jg T1_ mM 7 ll2 [(.ref a)] (fun tT kK => ?_) ?_
  · refine XS.lstore X1_.here hx rfl (hC e13_4.1) rfl (l' := ll2) rfl ?_
    refine XS.aloadN X1_.here hx rfl (hC e13_4.2.1) rfl rfl ?_
    exact kK
  refine jf X1_ hx hZ hown (jk hw 91 rfl) p1__0 F0.g0 (hC e13_4.2.2.1) fun T2_ X2_ e2_ => ?_
  refine jg T2_ mM 12 ll2 [(.int (lcmpW sz (0 : Int64)))] (fun tT kK => ?_) ?_
  · refine XS.lconst X2_.here hx rfl (hC e13_4.2.2.2) ?_
    refine XS.lcmp X2_.here hx rfl (hC e13_11.1) rfl ?_
    exact kK
  have t3_ : (0 : Int64).toInt = 0 := rfl
  refine jg T2_ mM 45 ll2 [(.int 19), (.ref a)] (fun tT kK => ?_) ?_
  · refine XS.ifYes X2_.here hx rfl (pc0 := 12) (pc' := 35) rfl (hC e13_11.2.1) rfl ((if0 _ _).trans (feq (mt (lw_eq sz (0 : Int64)).mp ((own_nev (by omega)) : ¬ (sz = (0 : Int64))))).2) (by decide) (by decide) ?_
    refine XS.lloadN X2_.here hx rfl (hC e13_35.1) rfl ?_
    refine XS.lload X2_.here hx rfl (hC e13_35.2.1) rfl ?_
    refine XS.lcmp X2_.here hx rfl (hC e13_35.2.2.1) rfl ?_
    refine XS.ifNo X2_.here hx rfl (hC e13_35.2.2.2) rfl ((if0 _ _).trans (tlt ((lw_gt f ft).mpr ((own_lt (by omega)) : ft < f))).2.2.2) ?_
    refine XS.aloadN X2_.here hx rfl (hC e13_42.1) rfl rfl ?_
    refine XS.bipush X2_.here hx rfl (hC e13_42.2.1) ?_
    exact kK
  refine jw X2_ hx hZ (y := jy15) hown (jk hw 157 rfl) (jk hw 158 rfl) (own_selP (y := jy15) hZ (jk hw 55 rfl) (jk hw 159 rfl) (jk hw 158 rfl) (by decide)) (jk hw 159 rfl) (jk hw 160 rfl) (jk hw 56 rfl) (rm_mr57 lL Z a0 hw [] a ba kb us h0 n0 (Nat.le_trans Z0 K0.1) F0.g5 F0.g3 Vb) F0.E e2_ own_pd3 [(.int 19)] [] (hC e13_42.2.2.1) rfl rfl (by rw [hml]; rfl) (by decide) 0 (Nat.le_of_eq rfl) (by decide) (by decide) (by decide : 0 + 0 ≤ _) (by decide : 0 + 0 ≤ _) fun vv4_ T4_ L4_ X4_ hQ4_ => ?_
  obtain ⟨rfl, N4_q, p4__0⟩ := hQ4_
  have N4_ := Fr.app N1_ N4_q
  refine jg T4_ mM 53 ll2 [(.long (f - ft)), (.ref a)] (fun tT kK => ?_) ?_
  · refine XS.aloadN X4_.here hx rfl (hC e13_42.2.2.2) rfl rfl ?_
    refine XS.lloadN X4_.here hx rfl (hC e13_49.1) rfl ?_
    refine XS.lload X4_.here hx rfl (hC e13_49.2.1) rfl ?_
    refine XS.lsub X4_.here hx rfl (hC e13_49.2.2.1) rfl ?_
    exact kK
  refine jq X4_ hx hZ hown (jk hw 171 rfl) p4__0 F0.g7 F0.E (jk hw 172 rfl) (jk hw 55 rfl) (ty := .long) (by decide) rfl rfl (hC e13_49.2.2.2) K0 N4_ (Or.inl (List.mem_of_getElem? (i := 0) rfl)) g_a fun T5_ h5_ X5_ e5_ W5_ Fw5_ K5_ N5_ => ?_
  have ne6_ : ba ≠ a := (Ne.symm (own_neV F0.E Vb (jk hw 55 rfl)))
  have fc7_ := Vb.other W5_ ne6_
  have Bw5_ := F0.s7 hw W5_
  refine jg T5_ mM 58 ll2 [(.long f), (.ref a)] (fun tT kK => ?_) ?_
  · refine XS.aloadN X5_.here hx rfl (hC e13_56.1) rfl rfl ?_
    refine XS.lloadN X5_.here hx rfl (hC e13_56.2.1) rfl ?_
    exact kK
  refine jq X5_ hx hZ hown (jk hw 173 rfl) e5_ Bw5_.g8 Bw5_.E (jk hw 174 rfl) (jk hw 55 rfl) (ty := .long) (by decide) rfl rfl (hC e13_56.2.2.1) K5_ N5_ (Or.inl (List.mem_of_getElem? (i := 0) rfl)) g_a fun T8_ h8_ X8_ e8_ W8_ Fw8_ K8_ N8_ => ?_
  have fc9_ := fc7_.other W8_ ne6_
  have Bw8_ := Bw5_.s8 hw W8_
  refine jg T8_ mM 63 ll2 [(.long t), (.ref a)] (fun tT kK => ?_) ?_
  · refine XS.aloadN X8_.here hx rfl (hC e13_56.2.2.2) rfl rfl ?_
    refine XS.lloadN X8_.here hx rfl (hC e13_62.1) rfl ?_
    exact kK
  refine jq X8_ hx hZ hown (jk hw 175 rfl) e8_ Bw8_.g9 Bw8_.E (jk hw 176 rfl) (jk hw 55 rfl) (ty := .long) (by decide) rfl rfl (hC e13_62.2.1) K8_ N8_ (Or.inl (List.mem_of_getElem? (i := 0) rfl)) g_a fun T10_ h10_ X10_ e10_ W10_ Fw10_ K10_ N10_ => ?_
  have fc11_ := fc9_.other W10_ ne6_
  have Bw10_ := Bw8_.s9 hw W10_
  refine jg T10_ mM 67 ll2 [(.ref a)] (fun tT kK => ?_) ?_
  · refine XS.aloadN X10_.here hx rfl (hC e13_62.2.2.1) rfl rfl ?_
    exact kK
  have t12_ : (57 : Int32).toInt = 57 := rfl
  have t13_ := rng64 f
  have t14_ := rng64 ft
  have t15_ := own_sub (x := f) (y := ft) (by omega)
  refine jw X10_ hx hZ (y := jy12) hown (jk hw 177 rfl) (jk hw 178 rfl) (own_selP (y := jy12) hZ (jk hw 55 rfl) (jk hw 179 rfl) (jk hw 178 rfl) (by decide)) (jk hw 179 rfl) (jk hw 180 rfl) (jk hw 56 rfl) (rm_wl lL Z a0 hw [] a ba kb sz ff ft (f - ft) f t (-1 : Int32) (57 : Int32) us h10_ n0 (Nat.le_trans Z0 K10_.1) Bw10_ fc11_ hl (by omega) (by omega) (by omega) g_a g_ba) Bw10_.E e10_ own_pd5 [] [] (hC e13_62.2.2.2) rfl rfl (by rw [hml]; rfl) (by decide) 0 (Nat.le_of_eq rfl) (by decide) (by decide) (by decide : 0 + 0 ≤ _) (by decide : 0 + 0 ≤ _) fun vv16_ T16_ L16_ X16_ hQ16_ => ?_
  obtain ⟨en'_16_, vs'_16_, rfl, N16_q, p16__0, p16__1, p16__2, p16__3, p16__4⟩ := hQ16_
  have N16_ := Fr.app N10_ N16_q
  have K16_ := K10_.trans p16__0 (allS (Or.inl (List.mem_of_getElem? (i := 0) rfl)) (allS (Or.inl (List.mem_of_getElem? (i := 1) rfl)) all0))
  refine jg T16_ mM 72 ll2 [(.ref a), (.ref a)] (fun tT kK => ?_) ?_
  · refine XS.aloadN X16_.here hx rfl (hC e13_70.1) rfl rfl ?_
    refine XS.dup X16_.here hx rfl (hC e13_70.2.1) rfl rfl ?_
    exact kK
  refine jf X16_ hx hZ hown (jk hw 91 rfl) rfl p16__3.g0 (hC e13_70.2.2.1) fun T17_ X17_ e17_ => ?_
  refine jg T17_ mM 79 ll2 [(.long (sz + (t - f))), (.ref a)] (fun tT kK => ?_) ?_
  · refine XS.lloadN X17_.here hx rfl (hC e13_70.2.2.2) rfl ?_
    refine XS.lloadN X17_.here hx rfl (hC e13_76.1) rfl ?_
    refine XS.lsub X17_.here hx rfl (hC e13_76.2.1) rfl ?_
    refine XS.ladd X17_.here hx rfl (hC e13_76.2.2.1) rfl ?_
    exact kK
  refine jq X17_ hx hZ hown (jk hw 91 rfl) e17_ p16__3.g0 p16__3.E (jk hw 78 rfl) (jk hw 55 rfl) (ty := .long) (by decide) rfl rfl (hC e13_76.2.2.2) K16_ N16_ (Or.inl (List.mem_of_getElem? (i := 0) rfl)) g_a fun T18_ h18_ X18_ e18_ W18_ Fw18_ K18_ N18_ => ?_
  have fc19_ := p16__4.other W18_ ne6_
  have Bw18_ := p16__3.s0 hw W18_
  refine jg T18_ mM 163 ll2 [] (fun tT kK => ?_) ?_
  · refine XS.goto X18_.here hx rfl (pc0 := 82) (pc' := 163) rfl (hC d13_82) (by decide) (by decide) ?_
    exact kK
  exact own_rV X18_ hx hlk hre (hC e13_29.2.2) e18_ (by decide) (by decide) ⟨en'_16_, vs'_16_, rfl, N18_, K18_, p16__1, p16__2, Bw18_, fc19_⟩
theorem e41_0 : jD17 0 (.lload_n 1, 1) ∧ jD17 1 (.lload_n 3, 1) ∧ jD17 2 (.lcmp, 1) ∧ jD17 3 (.ifCond .ge 9, 3) := by decide +kernel
theorem e41_6 : jD17 6 (.aload_n 0, 1) ∧ jD17 7 (.lload_n 1, 1) ∧ jD17 8 (.lload_n 3, 1) ∧ jD17 9 (.invokevirtual 94, 3) := by decide +kernel
theorem own_pd6 : parseMethodDescriptor "(JJ)V" = some ⟨[.long, .long], none⟩ := by decide +kernel
theorem d41_12 : jD17 12 (.return_, 1) := by decide +kernel
theorem own_ef_rm_eia1 (mM : MethodId) (x0 : Addr) (x1 : Int64) (x2 : Int64) : entryFrame mM #[(.ref x0), (.long x1), (.long x2)] 5 = mkF mM 0 #[.val (.ref x0), .val (.long x1), .second, .val (.long x2), .second] [] := by first | (simp [entryFrame, mkF, argsToLocals, Value.category]; done) | rfl
def Q_rm_eia1 (Z : State) (a : Addr) (by_ : Addr) (ff : Int64) (ft : Int64) (lg : Int64) (lf : Int64) (lt : Int64) (f : Int64) (t : Int64) (h0 : Heap) (n0 : Nat) (vV : Option Value) (hH : Heap) (lA : List Loc) : Prop := vV = none ∧ Fr n0 lA ∧ (Keep h0 hH [a]) ∧ (own_bP Z hH a (t - f) f t (.ref by_) (0 : Int32) (0 : Int32) (-1 : Int32) lg lf lt)
theorem rm_eia1 (lL : Launch) (Z : State) (a0 : Array Value) (hw : own_H a0 Z) (ws : List Jvm.Cond) (a : Addr) (by_ : Addr) (ff : Int64) (ft : Int64) (lg : Int64) (lf : Int64) (lt : Int64) (f : Int64) (t : Int64) (h0 : Heap) (n0 : Nat) (Z0 : n0 ≤ h0.size) (F0 : own_bP Z h0 a (0 : Int64) ff ft (.ref by_) (0 : Int32) (0 : Int32) (-1 : Int32) lg lf lt) (g_a : n0 ≤ a) (hft : f.toInt < t.toInt) :
    own_Met lL jy17 (Jvm.Cond.code jy17 prog_39_method_9_code 5 none :: ws) jr10 #[(.ref a), (.long f), (.long t)] Z h0 (Q_rm_eia1 Z a by_ ff ft lg lf lt f t h0 n0) := by
  refine own_begin (plainFor_of_name own_pn_com_example_portion_portion_server_OffsetSet_Page) (fun mM => own_ef_rm_eia1 mM a f t) fun pP eE sS mM below meth cC s₁ hx hby hml hZ hown hnm hre hlk X0 e0 => ?_
  have hC := @Jvm.hb _ _ hby
  have N0 := Fr.nil n0
  have K0 := Keep.refl h0 [a]
  let ll1 : Array Slot := #[vR a, vJ f, vS, vJ t, vS]
  refine jg s₁ mM 9 ll1 [(.long t), (.long f), (.ref a)] (fun tT kK => ?_) ?_
  · refine XS.lloadN X0.here hx rfl (hC e41_0.1) rfl ?_
    refine XS.lloadN X0.here hx rfl (hC e41_0.2.1) rfl ?_
    refine XS.lcmp X0.here hx rfl (hC e41_0.2.2.1) rfl ?_
    refine XS.ifNo X0.here hx rfl (hC e41_0.2.2.2) rfl ((if0 _ _).trans (tlt ((lw_lt f t).mpr ((own_lt (by omega)) : f < t))).2.1) ?_
    refine XS.aloadN X0.here hx rfl (hC e41_6.1) rfl rfl ?_
    refine XS.lloadN X0.here hx rfl (hC e41_6.2.1) rfl ?_
    refine XS.lloadN X0.here hx rfl (hC e41_6.2.2.1) rfl ?_
    exact kK
  refine jv X0 hx hZ (y := jy16) hown (jk hw 219 rfl) (jk hw 80 rfl) (jk hw 82 rfl) (jk hw 81 rfl) (jk hw 83 rfl) (jk hw 56 rfl) (rm_ex0 lL Z a0 hw [] a by_ ff ft lg lf lt f t h0 n0 (Nat.le_trans Z0 K0.1) F0 g_a) F0.E e0 own_pd6 [(.long f), (.long t)] [] (hC e41_6.2.2.2) rfl rfl (by rw [hml]; rfl) (by decide) 0 (Nat.le_of_eq rfl) (by decide) (by decide) (by decide : 0 + 0 ≤ _) (by decide : 0 + 0 ≤ _) fun vv1_ T1_ L1_ X1_ hQ1_ => ?_
  obtain ⟨rfl, N1_q, p1__0, p1__1⟩ := hQ1_
  have N1_ := Fr.app N0 N1_q
  have K1_ := K0.trans p1__0 (allS (Or.inl (List.mem_of_getElem? (i := 0) rfl)) all0)
  exact own_rV X1_ hx hlk hre (hC d41_12) rfl (by decide) (by decide) ⟨rfl, N1_, K1_, p1__1⟩
theorem own_ef_rm_eia0 (mM : MethodId) (x0 : Addr) (x1 : Int64) (x2 : Int64) : entryFrame mM #[(.ref x0), (.long x1), (.long x2)] 5 = mkF mM 0 #[.val (.ref x0), .val (.long x1), .second, .val (.long x2), .second] [] := by first | (simp [entryFrame, mkF, argsToLocals, Value.category]; done) | rfl
def Q_rm_eia0 (Z : State) (a : Addr) (f : Int64) (t : Int64) (h0 : Heap) (n0 : Nat) (vV : Option Value) (hH : Heap) (lA : List Loc) : Prop := vV = none ∧ Fr n0 lA ∧ (hH = h0)
theorem rm_eia0 (lL : Launch) (Z : State) (a0 : Array Value) (hw : own_H a0 Z) (ws : List Jvm.Cond) (a : Addr) (f : Int64) (t : Int64) (h0 : Heap) (n0 : Nat) (Z0 : n0 ≤ h0.size) (hft : t.toInt ≤ f.toInt) :
    own_Met lL jy17 (Jvm.Cond.code jy17 prog_39_method_9_code 5 none :: ws) jr0 #[(.ref a), (.long f), (.long t)] Z h0 (Q_rm_eia0 Z a f t h0 n0) := by
  refine own_begin (plainFor_of_name own_pn_com_example_portion_portion_server_OffsetSet_Page) (fun mM => own_ef_rm_eia0 mM a f t) fun pP eE sS mM below meth cC s₁ hx hby hml hZ hown hnm hre hlk X0 e0 => ?_
  have hC := @Jvm.hb _ _ hby
  have N0 := Fr.nil n0
  have K0 := Keep.refl h0 ([] : List Addr)
  let ll1 : Array Slot := #[vR a, vJ f, vS, vJ t, vS]
  refine jg s₁ mM 12 ll1 [] (fun tT kK => ?_) ?_
  · refine XS.lloadN X0.here hx rfl (hC e41_0.1) rfl ?_
    refine XS.lloadN X0.here hx rfl (hC e41_0.2.1) rfl ?_
    refine XS.lcmp X0.here hx rfl (hC e41_0.2.2.1) rfl ?_
    refine XS.ifYes X0.here hx rfl (pc0 := 3) (pc' := 12) rfl (hC e41_0.2.2.2) rfl ((if0 _ _).trans (flt (mt (lw_lt f t).mp ((own_nl (by omega)) : ¬ (f < t)))).2.1) (by decide) (by decide) ?_
    exact kK
  exact own_rV X0 hx hlk hre (hC d41_12) e0 (by decide) (by decide) ⟨rfl, N0, rfl⟩
theorem e26_4 : jD14 4 (.getstatic 9, 3) ∧ jD14 7 (.goto 6, 3) := by decide +kernel
theorem own_ef_rm_mv0 (mM : MethodId) (x0 : Addr) (x1 : Int32) : entryFrame mM #[(.ref x0), (.int x1)] 3 = mkF mM 0 #[.val (.ref x0), .val (.int x1), .unset] [] := by first | (simp [entryFrame, mkF, argsToLocals, Value.category]; done) | rfl
def Q_rm_mv0 (Z : State) (a : Addr) (ba : Addr) (nb : Addr) (kb : ClassId) (kn : ClassId) (sz : Int64) (ff : Int64) (ft : Int64) (lg : Int64) (lf : Int64) (lt : Int64) (h0 : Heap) (n0 : Nat) (vV : Option Value) (hH : Heap) (lA : List Loc) : Prop := vV = none ∧ Fr n0 lA ∧ (Keep h0 hH [a]) ∧ (own_bP Z hH a sz ff ft (.ref nb) (0 : Int32) (0 : Int32) (-1 : Int32) lg lf lt)
theorem rm_mv0 (lL : Launch) (Z : State) (a0 : Array Value) (hw : own_H a0 Z) (ws : List Jvm.Cond) (a : Addr) (ba : Addr) (nb : Addr) (kb : ClassId) (kn : ClassId) (sz : Int64) (ff : Int64) (ft : Int64) (lg : Int64) (lf : Int64) (lt : Int64) (h0 : Heap) (n0 : Nat) (Z0 : n0 ≤ h0.size) (F0 : own_bP Z h0 a sz ff ft (.ref ba) (0 : Int32) (0 : Int32) (-1 : Int32) lg lf lt) (Vb : Arv Z h0 ba kb .byte (57 : Int32) [] (.int 0)) (Vn : Arv Z h0 nb kn .byte (0 : Int32) [] (.int 0)) (Zb : Sta Z Z.heap "com/example/portion/portion/server/OffsetSet" "NO_BYTES" "[B" (.ref nb)) (O0 : Old Z n0 h0) (g_a : n0 ≤ a) :
    own_Met lL jy14 (Jvm.Cond.code jy14 prog_39_method_18_code 3 none :: ws) jr3 #[(.ref a), (.int 0)] Z h0 (Q_rm_mv0 Z a ba nb kb kn sz ff ft lg lf lt h0 n0) := by
  refine own_begin (plainFor_of_name own_pn_com_example_portion_portion_server_OffsetSet_Page) (fun mM => own_ef_rm_mv0 mM a (0 : Int32)) fun pP eE sS mM below meth cC s₁ hx hby hml hZ hown hnm hre hlk X0 e0 => ?_
  have hC := @Jvm.hb _ _ hby
  have N0 := Fr.nil n0
  have K0 := Keep.refl h0 [a]
  refine jg s₁ mM 4 #[vR a, vI 0, vU] [] (fun tT kK => ?_) ?_
  · refine XS.iloadN X0.here hx rfl (hC e26_0.1) rfl ?_
    refine XS.ifNo X0.here hx rfl (hC e26_0.2.1) rfl ((if0 _ _).trans (teq ((by decide) : (0 : Int32) = (0 : Int32))).2) ?_
    exact kK
  obtain ⟨T1_, X1_, e1_, st1_⟩ := getS2 X0 hx hZ hown (Or.inr (jk hw 61 rfl)) Via.refl e0 (own_StaKeep O0 Zb) (g := (mkF mM 4 #[vR a, vI 0, vU] [])) rfl (hC e26_4.1)
  refine own_fin st1_ ?_
  let ll1 : Array Slot := #[vR a, vI 0, vR nb]
  refine jg T1_ mM 15 ll1 [(.ref a)] (fun tT kK => ?_) ?_
  · refine XS.goto X1_.here hx rfl (pc0 := 7) (pc' := 13) rfl (hC e26_4.2) (by decide) (by decide) ?_
    refine XS.astoreN X1_.here hx rfl (hC e26_13.1) rfl rfl (l' := ll1) rfl ?_
    refine XS.aloadN X1_.here hx rfl (hC e26_13.2.1) rfl rfl ?_
    exact kK
  refine jf X1_ hx hZ hown (jk hw 63 rfl) e1_ F0.g3 (hC e26_13.2.2.1) fun T2_ X2_ e2_ => ?_
  refine jg T2_ mM 19 ll1 [(.ref a), (.ref ba)] (fun tT kK => ?_) ?_
  · refine XS.aloadN X2_.here hx rfl (hC e26_13.2.2.2) rfl rfl ?_
    exact kK
  refine jf X2_ hx hZ hown (jk hw 145 rfl) e2_ F0.g4 (hC e26_19.1) fun T3_ X3_ e3_ => ?_
  refine jg T3_ mM 25 ll1 [(.ref a), (.int 0), (.ref nb), (.int 0), (.ref ba)] (fun tT kK => ?_) ?_
  · refine XS.aloadN X3_.here hx rfl (hC e26_19.2.1) rfl rfl ?_
    refine XS.iconst X3_.here hx rfl (hC e26_19.2.2.1) ?_
    refine XS.aloadN X3_.here hx rfl (hC e26_19.2.2.2) rfl rfl ?_
    exact kK
  refine jf X3_ hx hZ hown (jk hw 146 rfl) e3_ F0.g5 (hC e26_25.1) fun T4_ X4_ e4_ => ?_
  refine jg T4_ mM 29 ll1 [(.ref a), (.int 0), (.int 0), (.ref nb), (.int 0), (.ref ba)] (fun tT kK => ?_) ?_
  · refine XS.aloadN X4_.here hx rfl (hC e26_25.2.1) rfl rfl ?_
    exact kK
  refine jf X4_ hx hZ hown (jk hw 145 rfl) e4_ F0.g4 (hC e26_25.2.2.1) fun T5_ X5_ e5_ => ?_
  refine jg T5_ mM 33 ll1 [(.int 0), (.int 0), (.ref nb), (.int 0), (.ref ba)] (fun tT kK => ?_) ?_
  · refine XS.isub X5_.here hx rfl (hC e26_25.2.2.2) rfl ?_
    exact kK
  obtain ⟨T6_, X6_, e6_, st6_⟩ := own_cp0 X5_ hx hZ hown (jk hw 170 rfl) (jk hw 76 rfl) (jk hw 74 rfl) (jk hw 75 rfl) e5_ Vb Vn (Or.inl ⟨rfl, rfl⟩) (by decide) (by decide) (Nat.zero_le _) (Nat.zero_le _) (g := (mkF mM 33 ll1 [(.int 0), (.int 0), (.ref nb), (.int 0), (.ref ba)])) rfl (by rw [hml]; rfl) rfl (hC e26_33.1) (by decide) (W := 0) (by show 2 * 0 + _ ≤ _; exact Nat.le_of_eq rfl) (by decide)
  refine own_fin st6_ ?_
  refine jg T6_ mM 37 ll1 [(.ref a)] (fun tT kK => ?_) ?_
  · refine XS.aloadN X6_.here hx rfl (hC e26_33.2.1) rfl rfl ?_
    exact kK
  refine jf X6_ hx hZ hown (jk hw 65 rfl) e6_ F0.g6 (hC e26_33.2.2.1) fun T7_ X7_ e7_ => ?_
  refine jg T7_ mM 58 ll1 [(.ref a), (.ref a)] (fun tT kK => ?_) ?_
  · refine XS.ifYes X7_.here hx rfl (pc0 := 40) (pc' := 56) rfl (hC e26_33.2.2.2) rfl ((if0 _ _).trans (tlt ((by decide) : (-1 : Int32) < (0 : Int32))).1) (by decide) (by decide) ?_
    refine XS.aloadN X7_.here hx rfl (hC e26_56.1) rfl rfl ?_
    refine XS.dup X7_.here hx rfl (hC e26_56.2.1) rfl rfl ?_
    exact kK
  refine jf X7_ hx hZ hown (jk hw 146 rfl) e7_ F0.g5 (hC e26_56.2.2.1) fun T8_ X8_ e8_ => ?_
  refine jg T8_ mM 62 ll1 [(.ref a), (.int 0), (.ref a)] (fun tT kK => ?_) ?_
  · refine XS.aloadN X8_.here hx rfl (hC e26_56.2.2.2) rfl rfl ?_
    exact kK
  refine jf X8_ hx hZ hown (jk hw 145 rfl) e8_ F0.g4 (hC e26_62.1) fun T9_ X9_ e9_ => ?_
  refine jg T9_ mM 66 ll1 [(.int 0), (.ref a)] (fun tT kK => ?_) ?_
  · refine XS.isub X9_.here hx rfl (hC e26_62.2.1) rfl ?_
    exact kK
  refine jq X9_ hx hZ hown (jk hw 146 rfl) e9_ F0.g5 F0.E (jk hw 139 rfl) (jk hw 55 rfl) (ty := .int) (by decide) rfl rfl (hC e26_62.2.2.1) K0 N0 (Or.inl (List.mem_of_getElem? (i := 0) rfl)) g_a fun T10_ h10_ X10_ e10_ W10_ Fw10_ K10_ N10_ => ?_
  have Bw10_ := F0.s5 hw W10_
  refine jg T10_ mM 71 ll1 [(.int 0), (.ref a)] (fun tT kK => ?_) ?_
  · refine XS.aloadN X10_.here hx rfl (hC e26_62.2.2.2) rfl rfl ?_
    refine XS.iconst X10_.here hx rfl (hC e26_70.1) ?_
    exact kK
  refine jq X10_ hx hZ hown (jk hw 145 rfl) e10_ Bw10_.g4 Bw10_.E (jk hw 130 rfl) (jk hw 55 rfl) (ty := .int) (by decide) rfl rfl (hC e26_70.2.1) K10_ N10_ (Or.inl (List.mem_of_getElem? (i := 0) rfl)) g_a fun T16_ h16_ X16_ e16_ W16_ Fw16_ K16_ N16_ => ?_
  have Bw16_ := Bw10_.s4 hw W16_
  refine jg T16_ mM 76 ll1 [(.ref nb), (.ref a)] (fun tT kK => ?_) ?_
  · refine XS.aloadN X16_.here hx rfl (hC e26_70.2.2.1) rfl rfl ?_
    refine XS.aloadN X16_.here hx rfl (hC e26_70.2.2.2) rfl rfl ?_
    exact kK
  refine jq X16_ hx hZ hown (jk hw 63 rfl) e16_ Bw16_.g3 Bw16_.E (jk hw 64 rfl) (jk hw 55 rfl) (ty := (.array .byte)) (by decide) rfl rfl (hC e26_76.1) K16_ N16_ (Or.inl (List.mem_of_getElem? (i := 0) rfl)) g_a fun T20_ h20_ X20_ e20_ W20_ Fw20_ K20_ N20_ => ?_
  have Bw20_ := Bw16_.s3 hw W20_
  exact own_rV X20_ hx hlk hre (hC e26_76.2) e20_ (by decide) (by decide) ⟨rfl, N20_, K20_, Bw20_⟩
theorem e35_0 : jD18 0 (.aload_n 0, 1) ∧ jD18 1 (.getfield 13, 3) ∧ jD18 4 (.arraylength, 1) ∧ jD18 5 (.aload_n 0, 1) := by decide +kernel
theorem e35_6 : jD18 6 (.getfield 35, 3) ∧ jD18 9 (.aload_n 0, 1) ∧ jD18 10 (.getfield 38, 3) ∧ jD18 13 (.isub, 1) := by decide +kernel
theorem e35_14 : jD18 14 (.if_icmp .le 16, 3) ∧ jD18 17 (.aload_n 0, 1) ∧ jD18 18 (.aload_n 0, 1) ∧ jD18 19 (.getfield 35, 3) := by decide +kernel
theorem e35_22 : jD18 22 (.aload_n 0, 1) ∧ jD18 23 (.getfield 38, 3) ∧ jD18 26 (.isub, 1) ∧ jD18 27 (.invokevirtual 126, 3) := by decide +kernel
theorem d35_30 : jD18 30 (.return_, 1) := by decide +kernel
theorem own_ef_rm_tr0 (mM : MethodId) (x0 : Addr) : entryFrame mM #[(.ref x0)] 1 = mkF mM 0 #[.val (.ref x0)] [] := by first | (simp [entryFrame, mkF, argsToLocals, Value.category]; done) | rfl
def Q_rm_tr0 (Z : State) (a : Addr) (ba : Addr) (nb : Addr) (kb : ClassId) (kn : ClassId) (sz : Int64) (ff : Int64) (ft : Int64) (lg : Int64) (lf : Int64) (lt : Int64) (h0 : Heap) (n0 : Nat) (vV : Option Value) (hH : Heap) (lA : List Loc) : Prop := vV = none ∧ Fr n0 lA ∧ (Keep h0 hH [a]) ∧ (own_bP Z hH a sz ff ft (.ref nb) (0 : Int32) (0 : Int32) (-1 : Int32) lg lf lt)
theorem rm_tr0 (lL : Launch) (Z : State) (a0 : Array Value) (hw : own_H a0 Z) (ws : List Jvm.Cond) (a : Addr) (ba : Addr) (nb : Addr) (kb : ClassId) (kn : ClassId) (sz : Int64) (ff : Int64) (ft : Int64) (lg : Int64) (lf : Int64) (lt : Int64) (h0 : Heap) (n0 : Nat) (Z0 : n0 ≤ h0.size) (F0 : own_bP Z h0 a sz ff ft (.ref ba) (0 : Int32) (0 : Int32) (-1 : Int32) lg lf lt) (Vb : Arv Z h0 ba kb .byte (57 : Int32) [] (.int 0)) (Vn : Arv Z h0 nb kn .byte (0 : Int32) [] (.int 0)) (Zb : Sta Z Z.heap "com/example/portion/portion/server/OffsetSet" "NO_BYTES" "[B" (.ref nb)) (O0 : Old Z n0 h0) (g_a : n0 ≤ a) :
    own_Met lL jy18 (Jvm.Cond.code jy18 prog_39_method_13_code 1 none :: ws) jr11 #[(.ref a)] Z h0 (Q_rm_tr0 Z a ba nb kb kn sz ff ft lg lf lt h0 n0) := by
  refine own_begin (plainFor_of_name own_pn_com_example_portion_portion_server_OffsetSet_Page) (fun mM => own_ef_rm_tr0 mM a) fun pP eE sS mM below meth cC s₁ hx hby hml hZ hown hnm hre hlk X0 e0 => ?_
  have hC := @Jvm.hb _ _ hby
  have N0 := Fr.nil n0
  have K0 := Keep.refl h0 [a]
  refine jg s₁ mM 1 #[vR a] [(.ref a)] (fun tT kK => ?_) ?_
  · refine XS.aloadN X0.here hx rfl (hC e35_0.1) rfl rfl ?_
    exact kK
  refine jf X0 hx hZ hown (jk hw 63 rfl) e0 F0.g3 (hC e35_0.2.1) fun T1_ X1_ e1_ => ?_
  obtain ⟨cl2_, Ar2_, qk2_, Sz2_, Nn2_, Hh2_, Gg2_⟩ := id Vb
  refine jg T1_ mM 6 #[vR a] [(.ref a), (.int 57)] (fun tT kK => ?_) ?_
  · refine X1_.arraylength hx (own_rw e1_ Ar2_.1) (State.isArrayOf_alike hZ.alike Ar2_.2.1) (g := (mkF mM 4 #[vR a] [(.ref ba)])) rfl rfl (hC e35_0.2.2.1) _ ?_
    rw [len_of Sz2_ Nn2_]
    refine XS.aloadN X1_.here hx rfl (hC e35_0.2.2.2) rfl rfl ?_
    exact kK
  refine jf X1_ hx hZ hown (jk hw 146 rfl) e1_ F0.g5 (hC e35_6.1) fun T3_ X3_ e3_ => ?_
  refine jg T3_ mM 10 #[vR a] [(.ref a), (.int 0), (.int 57)] (fun tT kK => ?_) ?_
  · refine XS.aloadN X3_.here hx rfl (hC e35_6.2.1) rfl rfl ?_
    exact kK
  refine jf X3_ hx hZ hown (jk hw 145 rfl) e3_ F0.g4 (hC e35_6.2.2.1) fun T4_ X4_ e4_ => ?_
  refine jg T4_ mM 19 #[vR a] [(.ref a), (.ref a)] (fun tT kK => ?_) ?_
  · refine XS.isub X4_.here hx rfl (hC e35_6.2.2.2) rfl ?_
    refine XS.icmpNo X4_.here hx rfl (hC e35_14.1) rfl (tlt ((by decide) : (0 : Int32) < (57 : Int32))).2.2.2 ?_
    refine XS.aloadN X4_.here hx rfl (hC e35_14.2.1) rfl rfl ?_
    refine XS.aloadN X4_.here hx rfl (hC e35_14.2.2.1) rfl rfl ?_
    exact kK
  refine jf X4_ hx hZ hown (jk hw 146 rfl) e4_ F0.g5 (hC e35_14.2.2.2) fun T5_ X5_ e5_ => ?_
  refine jg T5_ mM 23 #[vR a] [(.ref a), (.int 0), (.ref a)] (fun tT kK => ?_) ?_
  · refine XS.aloadN X5_.here hx rfl (hC e35_22.1) rfl rfl ?_
    exact kK
  refine jf X5_ hx hZ hown (jk hw 145 rfl) e5_ F0.g4 (hC e35_22.2.1) fun T6_ X6_ e6_ => ?_
  refine jg T6_ mM 27 #[vR a] [(.int 0), (.ref a)] (fun tT kK => ?_) ?_
  · refine XS.isub X6_.here hx rfl (hC e35_22.2.2.1) rfl ?_
    exact kK
  refine jw X6_ hx hZ (y := jy14) hown (jk hw 165 rfl) (jk hw 166 rfl) (own_selP (y := jy14) hZ (jk hw 55 rfl) (jk hw 167 rfl) (jk hw 166 rfl) (by decide)) (jk hw 167 rfl) (jk hw 168 rfl) (jk hw 56 rfl) (rm_mv0 lL Z a0 hw [] a ba nb kb kn sz ff ft lg lf lt h0 n0 (Nat.le_trans Z0 K0.1) F0 Vb Vn Zb O0 g_a) F0.E e6_ own_pd3 [(.int 0)] [] (hC e35_22.2.2.2) rfl rfl (by rw [hml]; rfl) (by decide) 0 (Nat.le_of_eq rfl) (by decide) (by decide) (by decide : 0 + 0 ≤ _) (by decide : 0 + 0 ≤ _) fun vv7_ T7_ L7_ X7_ hQ7_ => ?_
  obtain ⟨rfl, N7_q, p7__0, p7__1⟩ := hQ7_
  have N7_ := Fr.app N0 N7_q
  have K7_ := K0.trans p7__0 (allS (Or.inl (List.mem_of_getElem? (i := 0) rfl)) all0)
  exact own_rV X7_ hx hlk hre (hC d35_30) rfl (by decide) (by decide) ⟨rfl, N7_, K7_, p7__1⟩
theorem e26_43 : jD14 43 (.aload_n 0, 1) ∧ jD14 44 (.dup, 1) ∧ jD14 45 (.getfield 18, 3) ∧ jD14 48 (.aload_n 0, 1) := by decide +kernel
theorem e26_49 : jD14 49 (.getfield 38, 3) ∧ jD14 52 (.isub, 1) ∧ jD14 53 (.putfield 18, 3) := by decide +kernel
theorem own_ef_rm_mv2 (mM : MethodId) (x0 : Addr) (x1 : Int32) : entryFrame mM #[(.ref x0), (.int x1)] 3 = mkF mM 0 #[.val (.ref x0), .val (.int x1), .unset] [] := by first | (simp [entryFrame, mkF, argsToLocals, Value.category]; done) | rfl
def Q_rm_mv2 (Z : State) (a : Addr) (ba : Addr) (kb : ClassId) (sz : Int64) (ff : Int64) (ft : Int64) (lg : Int64) (lf : Int64) (lt : Int64) (en : Int32) (us : List Value) (h0 : Heap) (n0 : Nat) (vV : Option Value) (hH : Heap) (lA : List Loc) : Prop := ∃ bc : Addr, ∃ kc : ClassId, ∃ vs : List Value, vV = none ∧ Fr n0 lA ∧ (Keep h0 hH [a]) ∧ (h0.size ≤ bc) ∧ (own_E vs en.toNatClampNeg lg.toInt) ∧ (own_bP Z hH a sz ff ft (.ref bc) (0 : Int32) en (0 : Int32) lg lf lt) ∧ (Arv Z hH bc kc .byte en vs (.int 0))
theorem rm_mv2 (lL : Launch) (Z : State) (a0 : Array Value) (hw : own_H a0 Z) (ws : List Jvm.Cond) (a : Addr) (ba : Addr) (kb : ClassId) (sz : Int64) (ff : Int64) (ft : Int64) (lg : Int64) (lf : Int64) (lt : Int64) (en : Int32) (us : List Value) (h0 : Heap) (n0 : Nat) (Z0 : n0 ≤ h0.size) (F0 : own_bP Z h0 a sz ff ft (.ref ba) (0 : Int32) en (0 : Int32) lg lf lt) (Vb : Arv Z h0 ba kb .byte (57 : Int32) us (.int 0)) (he : 1 ≤ en.toInt ∧ en.toInt ≤ 19) (hE : own_E us en.toNatClampNeg lg.toInt) (g_a : n0 ≤ a) :
    own_Met lL jy14 (Jvm.Cond.code jy14 prog_39_method_18_code 3 none :: ws) jr12 #[(.ref a), (.int en)] Z h0 (Q_rm_mv2 Z a ba kb sz ff ft lg lf lt en us h0 n0) := by
  refine own_begin (plainFor_of_name own_pn_com_example_portion_portion_server_OffsetSet_Page) (fun mM => own_ef_rm_mv2 mM a en) fun pP eE sS mM below meth cC s₁ hx hby hml hZ hown hnm hre hlk X0 e0 => ?_
  have hC := @Jvm.hb _ _ hby
  have N0 := Fr.nil n0
  have K0 := Keep.refl h0 [a]
  have o0 := own_i0
  have hc : en.toNatClampNeg ≤ 19 := by simp only [Int32.toNatClampNeg]; omega
  have hp : ¬ en < (0 : Int32) := own_nl3 (by omega)
  have h57 : en.toNatClampNeg ≤ (57 : Int32).toNatClampNeg := Nat.le_trans hc (by decide)
  have hbc : (en - (0 : Int32)) = en := Int32.sub_zero _
  refine jg s₁ mM 1 #[vR a, vI en, vU] [(.int en)] (fun tT kK => ?_) ?_
  · refine XS.iloadN X0.here hx rfl (hC e26_0.1) rfl ?_
    exact kK
  have t1_ : (0 : Int32).toInt = 0 := rfl
  refine jg s₁ mM 11 #[vR a, vI en, vU] [(.int en)] (fun tT kK => ?_) ?_
  · refine XS.ifYes X0.here hx rfl (pc0 := 1) (pc' := 10) rfl (hC e26_0.2.1) rfl ((if0 _ _).trans (feq ((own_nev3 (by omega)) : ¬ (en = (0 : Int32)))).2) (by decide) (by decide) ?_
    refine XS.iloadN X0.here hx rfl (hC e26_0.2.2.1) rfl ?_
    exact kK
  obtain ⟨T2_, h2_, k2_, X2_, e2_, E2_, A2_, st2_⟩ := newP X0 hx hZ (jk hw 169 rfl) e0 (g := (mkF mM 11 #[vR a, vI en, vU] [(.int en)])) rfl (hC e26_0.2.2.2) rfl hp (cap := 19) hc (by decide) (by decide) (by decide)
  obtain ⟨b2_, g2_⟩ : ∃ z, z = h0.size := ⟨_, rfl⟩
  rw [← g2_] at A2_ st2_
  have sz_b2_ : h0.size ≤ b2_ := Nat.le_trans K0.1 (Nat.le_of_eq g2_.symm)
  have ge_b2_ : n0 ≤ b2_ := Nat.le_trans Z0 sz_b2_
  have ne3_ : a ≠ b2_ := Nat.ne_of_lt (Nat.lt_of_lt_of_le F0.lt (Nat.le_of_eq g2_.symm))
  have fc5_ := F0.ext E2_
  have fc6_ := Vb.ext E2_
  have K2_ := K0.ext E2_
  have V2_ : Arv Z h2_ b2_ k2_ .byte en [] (.int 0) := Arv.new A2_ hp
  refine own_fin st2_ ?_
  refine jg T2_ mM 15 #[vR a, vI en, vR b2_] [(.ref a)] (fun tT kK => ?_) ?_
  · refine XS.astoreN X2_.here hx rfl (hC e26_13.1) rfl rfl (l' := #[vR a, vI en, vR b2_]) rfl ?_
    refine XS.aloadN X2_.here hx rfl (hC e26_13.2.1) rfl rfl ?_
    exact kK
  refine jf X2_ hx hZ hown (jk hw 63 rfl) e2_ fc5_.g3 (hC e26_13.2.2.1) fun T7_ X7_ e7_ => ?_
  refine jg T7_ mM 19 #[vR a, vI en, vR b2_] [(.ref a), (.ref ba)] (fun tT kK => ?_) ?_
  · refine XS.aloadN X7_.here hx rfl (hC e26_13.2.2.2) rfl rfl ?_
    exact kK
  refine jf X7_ hx hZ hown (jk hw 145 rfl) e7_ fc5_.g4 (hC e26_19.1) fun T8_ X8_ e8_ => ?_
  refine jg T8_ mM 25 #[vR a, vI en, vR b2_] [(.ref a), (.int 0), (.ref b2_), (.int 0), (.ref ba)] (fun tT kK => ?_) ?_
  · refine XS.aloadN X8_.here hx rfl (hC e26_19.2.1) rfl rfl ?_
    refine XS.iconst X8_.here hx rfl (hC e26_19.2.2.1) ?_
    refine XS.aloadN X8_.here hx rfl (hC e26_19.2.2.2) rfl rfl ?_
    exact kK
  refine jf X8_ hx hZ hown (jk hw 146 rfl) e8_ fc5_.g5 (hC e26_25.1) fun T9_ X9_ e9_ => ?_
  refine jg T9_ mM 29 #[vR a, vI en, vR b2_] [(.ref a), (.int en), (.int 0), (.ref b2_), (.int 0), (.ref ba)] (fun tT kK => ?_) ?_
  · refine XS.aloadN X9_.here hx rfl (hC e26_25.2.1) rfl rfl ?_
    exact kK
  refine jf X9_ hx hZ hown (jk hw 145 rfl) e9_ fc5_.g4 (hC e26_25.2.2.1) fun T10_ X10_ e10_ => ?_
  refine jg T10_ mM 33 #[vR a, vI en, vR b2_] [(.int (en - (0 : Int32))), (.int 0), (.ref b2_), (.int 0), (.ref ba)] (fun tT kK => ?_) ?_
  · refine XS.isub X10_.here hx rfl (hC e26_25.2.2.2) rfl ?_
    exact kK
  have Vr11_ : Arv Z h2_ b2_ k2_ .byte en (List.replicate en.toNatClampNeg (.int 0)) (.int 0) := V2_.pad (pad_rep [] (.int 0) en.toNatClampNeg)
  show own_Fin pP eE below _ (T10_.setTop (mkF mM 33 #[.val (.ref a), .val (.int en), .val (.ref b2_)] [(.int (en - (0 : Int32))), (.int 0), (.ref b2_), (.int 0), (.ref ba)]))
  rw [show (en - (0 : Int32)) = en from hbc]
  obtain ⟨T12_, h12_, L12_, X12_, e12_, N12_, Kc12_, V12_, st12_⟩ := cpA X10_ hx hZ hown (jk hw 170 rfl) (jk hw 76 rfl) (jk hw 74 rfl) (jk hw 75 rfl) e10_ fc6_ Vr11_ (us := _) (Or.inl ⟨rfl, rfl⟩) (by decide) (by decide) hp (by show 0 + _ ≤ _; rw [Nat.zero_add]; exact h57) (by show 0 + _ ≤ _; rw [Nat.zero_add]; exact Nat.le_refl _) rfl (by rw [List.length_replicate]; show 0 + _ ≤ _; rw [Nat.zero_add]; exact Nat.le_refl _) N0 ge_b2_ (g := (mkF mM 33 #[vR a, vI en, vR b2_] [(.int en), (.int 0), (.ref b2_), (.int 0), (.ref ba)])) rfl (by rw [hml]; rfl) rfl (hC e26_33.1) (by decide) (W := 0) (by show 2 * 0 + _ ≤ _; exact Nat.le_of_eq rfl) (by decide)
  have fc13_ := fc5_.keep Kc12_ (ninS ne3_ nin0)
  have K12_ := K2_.trans Kc12_ (allS (Or.inr sz_b2_) all0)
  refine own_fin st12_ ?_
  obtain ⟨vc, lvc, Vvc⟩ := own_nameV V12_
  refine jg T12_ mM 37 #[vR a, vI en, vR b2_] [(.ref a)] (fun tT kK => ?_) ?_
  · refine XS.aloadN X12_.here hx rfl (hC e26_33.2.1) rfl rfl ?_
    exact kK
  refine jf X12_ hx hZ hown (jk hw 65 rfl) e12_ fc13_.g6 (hC e26_33.2.2.1) fun T15_ X15_ e15_ => ?_
  refine jg T15_ mM 45 #[vR a, vI en, vR b2_] [(.ref a), (.ref a)] (fun tT kK => ?_) ?_
  · refine XS.ifNo X15_.here hx rfl (hC e26_33.2.2.2) rfl ((if0 _ _).trans (flt ((by decide) : ¬ ((0 : Int32) < (0 : Int32)))).1) ?_
    refine XS.aloadN X15_.here hx rfl (hC e26_43.1) rfl rfl ?_
    refine XS.dup X15_.here hx rfl (hC e26_43.2.1) rfl rfl ?_
    exact kK
  refine jf X15_ hx hZ hown (jk hw 65 rfl) e15_ fc13_.g6 (hC e26_43.2.2.1) fun T16_ X16_ e16_ => ?_
  refine jg T16_ mM 49 #[vR a, vI en, vR b2_] [(.ref a), (.int 0), (.ref a)] (fun tT kK => ?_) ?_
  · refine XS.aloadN X16_.here hx rfl (hC e26_43.2.2.2) rfl rfl ?_
    exact kK
  refine jf X16_ hx hZ hown (jk hw 145 rfl) e16_ fc13_.g4 (hC e26_49.1) fun T17_ X17_ e17_ => ?_
  refine jg T17_ mM 53 #[vR a, vI en, vR b2_] [(.int 0), (.ref a)] (fun tT kK => ?_) ?_
  · refine XS.isub X17_.here hx rfl (hC e26_49.2.1) rfl ?_
    exact kK
  refine jq X17_ hx hZ hown (jk hw 65 rfl) e17_ fc13_.g6 fc13_.E (jk hw 66 rfl) (jk hw 55 rfl) (ty := .int) (by decide) rfl rfl (hC e26_49.2.2) K12_ N12_ (Or.inl (List.mem_of_getElem? (i := 0) rfl)) g_a fun T18_ h18_ X18_ e18_ W18_ Fw18_ K18_ N18_ => ?_
  have fc21_ := Vvc.other W18_ (Ne.symm ne3_)
  have Bw18_ := fc13_.s6 hw W18_
  refine jg T18_ mM 58 #[vR a, vI en, vR b2_] [(.ref a), (.ref a)] (fun tT kK => ?_) ?_
  · refine XS.aloadN X18_.here hx rfl (hC e26_56.1) rfl rfl ?_
    refine XS.dup X18_.here hx rfl (hC e26_56.2.1) rfl rfl ?_
    exact kK
  refine jf X18_ hx hZ hown (jk hw 146 rfl) e18_ Bw18_.g5 (hC e26_56.2.2.1) fun T22_ X22_ e22_ => ?_
  refine jg T22_ mM 62 #[vR a, vI en, vR b2_] [(.ref a), (.int en), (.ref a)] (fun tT kK => ?_) ?_
  · refine XS.aloadN X22_.here hx rfl (hC e26_56.2.2.2) rfl rfl ?_
    exact kK
  refine jf X22_ hx hZ hown (jk hw 145 rfl) e22_ Bw18_.g4 (hC e26_62.1) fun T23_ X23_ e23_ => ?_
  refine jg T23_ mM 66 #[vR a, vI en, vR b2_] [(.int (en - (0 : Int32))), (.ref a)] (fun tT kK => ?_) ?_
  · refine XS.isub X23_.here hx rfl (hC e26_62.2.1) rfl ?_
    exact kK
  show own_Fin pP eE below _ (T23_.setTop (mkF mM 66 #[.val (.ref a), .val (.int en), .val (.ref b2_)] [(.int (en - (0 : Int32))), (.ref a)]))
  rw [show (en - (0 : Int32)) = en from hbc]
  refine jq X23_ hx hZ hown (jk hw 146 rfl) e23_ Bw18_.g5 Bw18_.E (jk hw 139 rfl) (jk hw 55 rfl) (ty := .int) (by decide) rfl rfl (hC e26_62.2.2.1) K18_ N18_ (Or.inl (List.mem_of_getElem? (i := 0) rfl)) g_a fun T24_ h24_ X24_ e24_ W24_ Fw24_ K24_ N24_ => ?_
  have fc26_ := fc21_.other W24_ (Ne.symm ne3_)
  have Bw24_ := Bw18_.s5 hw W24_
  refine jg T24_ mM 71 #[vR a, vI en, vR b2_] [(.int 0), (.ref a)] (fun tT kK => ?_) ?_
  · refine XS.aloadN X24_.here hx rfl (hC e26_62.2.2.2) rfl rfl ?_
    refine XS.iconst X24_.here hx rfl (hC e26_70.1) ?_
    exact kK
  refine jq X24_ hx hZ hown (jk hw 145 rfl) e24_ Bw24_.g4 Bw24_.E (jk hw 130 rfl) (jk hw 55 rfl) (ty := .int) (by decide) rfl rfl (hC e26_70.2.1) K24_ N24_ (Or.inl (List.mem_of_getElem? (i := 0) rfl)) g_a fun T27_ h27_ X27_ e27_ W27_ Fw27_ K27_ N27_ => ?_
  have fc29_ := fc26_.other W27_ (Ne.symm ne3_)
  have Bw27_ := Bw24_.s4 hw W27_
  refine jg T27_ mM 76 #[vR a, vI en, vR b2_] [(.ref b2_), (.ref a)] (fun tT kK => ?_) ?_
  · refine XS.aloadN X27_.here hx rfl (hC e26_70.2.2.1) rfl rfl ?_
    refine XS.aloadN X27_.here hx rfl (hC e26_70.2.2.2) rfl rfl ?_
    exact kK
  refine jq X27_ hx hZ hown (jk hw 63 rfl) e27_ Bw27_.g3 Bw27_.E (jk hw 64 rfl) (jk hw 55 rfl) (ty := (.array .byte)) (by decide) rfl rfl (hC e26_76.1) K27_ N27_ (Or.inl (List.mem_of_getElem? (i := 0) rfl)) g_a fun T30_ h30_ X30_ e30_ W30_ Fw30_ K30_ N30_ => ?_
  have fc32_ := fc29_.other W30_ (Ne.symm ne3_)
  have Bw30_ := Bw27_.s3 hw W30_
  exact own_rV X30_ hx hlk hre (hC e26_76.2) e30_ (by decide) (by decide) ⟨b2_, k2_, vc, rfl, N30_, K30_, sz_b2_, hE.agree (by rw [lvc]; exact own_cpl rfl (by rw [List.length_replicate])), Bw30_, fc32_⟩
theorem own_ef_rm_tr2 (mM : MethodId) (x0 : Addr) : entryFrame mM #[(.ref x0)] 1 = mkF mM 0 #[.val (.ref x0)] [] := by first | (simp [entryFrame, mkF, argsToLocals, Value.category]; done) | rfl
def Q_rm_tr2 (Z : State) (a : Addr) (ba : Addr) (kb : ClassId) (sz : Int64) (ff : Int64) (ft : Int64) (lg : Int64) (lf : Int64) (lt : Int64) (en : Int32) (us : List Value) (h0 : Heap) (n0 : Nat) (vV : Option Value) (hH : Heap) (lA : List Loc) : Prop := ∃ bc : Addr, ∃ kc : ClassId, ∃ vs : List Value, vV = none ∧ Fr n0 lA ∧ (Keep h0 hH [a]) ∧ (h0.size ≤ bc) ∧ (own_E vs en.toNatClampNeg lg.toInt) ∧ (own_bP Z hH a sz ff ft (.ref bc) (0 : Int32) en (0 : Int32) lg lf lt) ∧ (Arv Z hH bc kc .byte en vs (.int 0))
theorem rm_tr2 (lL : Launch) (Z : State) (a0 : Array Value) (hw : own_H a0 Z) (ws : List Jvm.Cond) (a : Addr) (ba : Addr) (kb : ClassId) (sz : Int64) (ff : Int64) (ft : Int64) (lg : Int64) (lf : Int64) (lt : Int64) (en : Int32) (us : List Value) (h0 : Heap) (n0 : Nat) (Z0 : n0 ≤ h0.size) (F0 : own_bP Z h0 a sz ff ft (.ref ba) (0 : Int32) en (0 : Int32) lg lf lt) (Vb : Arv Z h0 ba kb .byte (57 : Int32) us (.int 0)) (he : 1 ≤ en.toInt ∧ en.toInt ≤ 19) (hE : own_E us en.toNatClampNeg lg.toInt) (g_a : n0 ≤ a) :
    own_Met lL jy18 (Jvm.Cond.code jy18 prog_39_method_13_code 1 none :: ws) jr13 #[(.ref a)] Z h0 (Q_rm_tr2 Z a ba kb sz ff ft lg lf lt en us h0 n0) := by
  refine own_begin (plainFor_of_name own_pn_com_example_portion_portion_server_OffsetSet_Page) (fun mM => own_ef_rm_tr2 mM a) fun pP eE sS mM below meth cC s₁ hx hby hml hZ hown hnm hre hlk X0 e0 => ?_
  have hC := @Jvm.hb _ _ hby
  have N0 := Fr.nil n0
  have K0 := Keep.refl h0 [a]
  have hbc : (en - (0 : Int32)) = en := Int32.sub_zero _
  refine jg s₁ mM 1 #[vR a] [(.ref a)] (fun tT kK => ?_) ?_
  · refine XS.aloadN X0.here hx rfl (hC e35_0.1) rfl rfl ?_
    exact kK
  refine jf X0 hx hZ hown (jk hw 63 rfl) e0 F0.g3 (hC e35_0.2.1) fun T1_ X1_ e1_ => ?_
  obtain ⟨cl2_, Ar2_, qk2_, Sz2_, Nn2_, Hh2_, Gg2_⟩ := id Vb
  refine jg T1_ mM 6 #[vR a] [(.ref a), (.int 57)] (fun tT kK => ?_) ?_
  · refine X1_.arraylength hx (own_rw e1_ Ar2_.1) (State.isArrayOf_alike hZ.alike Ar2_.2.1) (g := (mkF mM 4 #[vR a] [(.ref ba)])) rfl rfl (hC e35_0.2.2.1) _ ?_
    rw [len_of Sz2_ Nn2_]
    refine XS.aloadN X1_.here hx rfl (hC e35_0.2.2.2) rfl rfl ?_
    exact kK
  refine jf X1_ hx hZ hown (jk hw 146 rfl) e1_ F0.g5 (hC e35_6.1) fun T3_ X3_ e3_ => ?_
  refine jg T3_ mM 10 #[vR a] [(.ref a), (.int en), (.int 57)] (fun tT kK => ?_) ?_
  · refine XS.aloadN X3_.here hx rfl (hC e35_6.2.1) rfl rfl ?_
    exact kK
  refine jf X3_ hx hZ hown (jk hw 145 rfl) e3_ F0.g4 (hC e35_6.2.2.1) fun T4_ X4_ e4_ => ?_
  refine jg T4_ mM 14 #[vR a] [(.int (en - (0 : Int32))), (.int 57)] (fun tT kK => ?_) ?_
  · refine XS.isub X4_.here hx rfl (hC e35_6.2.2.2) rfl ?_
    exact kK
  have t5_ : (0 : Int32).toInt = 0 := rfl
  have t6_ := own_sub3 (x := en) (y := (0 : Int32)) (by omega)
  have t7_ : (57 : Int32).toInt = 57 := rfl
  refine jg T4_ mM 19 #[vR a] [(.ref a), (.ref a)] (fun tT kK => ?_) ?_
  · refine XS.icmpNo X4_.here hx rfl (hC e35_14.1) rfl (tlt ((own_lt3 (by omega)) : (en - (0 : Int32)) < (57 : Int32))).2.2.2 ?_
    refine XS.aloadN X4_.here hx rfl (hC e35_14.2.1) rfl rfl ?_
    refine XS.aloadN X4_.here hx rfl (hC e35_14.2.2.1) rfl rfl ?_
    exact kK
  refine jf X4_ hx hZ hown (jk hw 146 rfl) e4_ F0.g5 (hC e35_14.2.2.2) fun T8_ X8_ e8_ => ?_
  refine jg T8_ mM 23 #[vR a] [(.ref a), (.int en), (.ref a)] (fun tT kK => ?_) ?_
  · refine XS.aloadN X8_.here hx rfl (hC e35_22.1) rfl rfl ?_
    exact kK
  refine jf X8_ hx hZ hown (jk hw 145 rfl) e8_ F0.g4 (hC e35_22.2.1) fun T9_ X9_ e9_ => ?_
  refine jg T9_ mM 27 #[vR a] [(.int (en - (0 : Int32))), (.ref a)] (fun tT kK => ?_) ?_
  · refine XS.isub X9_.here hx rfl (hC e35_22.2.2.1) rfl ?_
    exact kK
  show own_Fin pP eE below _ (T9_.setTop (mkF mM 27 #[.val (.ref a)] [(.int (en - (0 : Int32))), (.ref a)]))
  rw [show (en - (0 : Int32)) = en from hbc]
  refine jw X9_ hx hZ (y := jy14) hown (jk hw 165 rfl) (jk hw 166 rfl) (own_selP (y := jy14) hZ (jk hw 55 rfl) (jk hw 167 rfl) (jk hw 166 rfl) (by decide)) (jk hw 167 rfl) (jk hw 168 rfl) (jk hw 56 rfl) (rm_mv2 lL Z a0 hw [] a ba kb sz ff ft lg lf lt en us h0 n0 (Nat.le_trans Z0 K0.1) F0 Vb he hE g_a) F0.E e9_ own_pd3 [(.int en)] [] (hC e35_22.2.2.2) rfl rfl (by rw [hml]; rfl) (by decide) 0 (Nat.le_of_eq rfl) (by decide) (by decide) (by decide : 0 + 1 ≤ _) (by decide : 0 + 19 ≤ _) fun vv10_ T10_ L10_ X10_ hQ10_ => ?_
  obtain ⟨bc_10_, kc_10_, vs_10_, rfl, N10_q, p10__0, p10__1, p10__2, p10__3, p10__4⟩ := hQ10_
  have N10_ := Fr.app N0 N10_q
  have sz_bc_10_ : h0.size ≤ bc_10_ := Nat.le_trans K0.1 p10__1
  have K10_ := K0.trans p10__0 (allS (Or.inl (List.mem_of_getElem? (i := 0) rfl)) all0)
  exact own_rV X10_ hx hlk hre (hC d35_30) rfl (by decide) (by decide) ⟨bc_10_, kc_10_, vs_10_, rfl, N10_, K10_, sz_bc_10_, p10__2, p10__3, p10__4⟩
theorem e19_0 : jD19 0 (.aload_n 0, 1) ∧ jD19 1 (.aload_n 1, 1) ∧ jD19 2 (.putfield 1, 3) ∧ jD19 5 (.aload_n 0, 1) := by decide +kernel
theorem e19_6 : jD19 6 (.invokespecial 7, 3) ∧ jD19 9 (.aload_n 0, 1) ∧ jD19 10 (.aload_n 0, 1) ∧ jD19 11 (.getfield 1, 3) := by decide +kernel
theorem e19_14 : jD19 14 (.getfield 13, 3) ∧ jD19 17 (.putfield 19, 3) ∧ jD19 20 (.aload_n 0, 1) ∧ jD19 21 (.aload_n 0, 1) := by decide +kernel
theorem e19_22 : jD19 22 (.getfield 1, 3) ∧ jD19 25 (.getfield 22, 3) ∧ jD19 28 (.putfield 25, 3) ∧ jD19 31 (.aload_n 0, 1) := by decide +kernel
theorem e19_32 : jD19 32 (.aload_n 0, 1) ∧ jD19 33 (.getfield 1, 3) ∧ jD19 36 (.getfield 28, 3) ∧ jD19 39 (.putfield 32, 3) := by decide +kernel
theorem d19_42 : jD19 42 (.return_, 1) := by decide +kernel
theorem own_pn_com_example_portion_portion_server_OffsetSet_Page_Runs : plainName "com/example/portion/portion/server/OffsetSet$Page$Runs" = true := by first | (simp [plainName, overriddenIn]; done) | decide +kernel
theorem own_ef_rm_rn (mM : MethodId) (x0 : Addr) (x1 : Addr) : entryFrame mM #[(.ref x0), (.ref x1)] 2 = mkF mM 0 #[.val (.ref x0), .val (.ref x1)] [] := by first | (simp [entryFrame, mkF, argsToLocals, Value.category]; done) | rfl
def Q_rm_rn (Z : State) (a : Addr) (pg : Addr) (ff : Int64) (ft : Int64) (h0 : Heap) (n0 : Nat) (vV : Option Value) (hH : Heap) (lA : List Loc) : Prop := vV = none ∧ Fr n0 lA ∧ (Keep h0 hH [a]) ∧ (own_bR Z hH a (.ref pg) ff ft (0 : Int32))
theorem rm_rn (lL : Launch) (Z : State) (a0 : Array Value) (hw : own_H a0 Z) (ws : List Jvm.Cond) (a : Addr) (pg : Addr) (ff : Int64) (ft : Int64) (h0 : Heap) (n0 : Nat) (Z0 : n0 ≤ h0.size) (F0 : own_bR Z h0 a .null (0 : Int64) (0 : Int64) (0 : Int32)) (Eg : jE1 Z h0 pg) (Gf : jF5 Z h0 pg (.long ff)) (Gt : jF6 Z h0 pg (.long ft)) (Gs : jF8 Z h0 pg (.int 0)) (g_a : n0 ≤ a) :
    own_Met lL jy19 (Jvm.Cond.code jy19 prog_40_method_1_code 2 none :: ws) jr1 #[(.ref a), (.ref pg)] Z h0 (Q_rm_rn Z a pg ff ft h0 n0) := by
  refine own_begin (plainFor_of_name own_pn_com_example_portion_portion_server_OffsetSet_Page_Runs) (fun mM => own_ef_rm_rn mM a pg) fun pP eE sS mM below meth cC s₁ hx hby hml hZ hown hnm hre hlk X0 e0 => ?_
  have hC := @Jvm.hb _ _ hby
  have N0 := Fr.nil n0
  have K0 := Keep.refl h0 [a]
  refine jg s₁ mM 2 #[vR a, vR pg] [(.ref pg), (.ref a)] (fun tT kK => ?_) ?_
  · refine XS.aloadN X0.here hx rfl (hC e19_0.1) rfl rfl ?_
    refine XS.aloadN X0.here hx rfl (hC e19_0.2.1) rfl rfl ?_
    exact kK
  obtain ⟨T1_, h1_, X1_, e1_, W1_, st1_⟩ := putF X0 hx hZ hown (host := "") (Or.inl (jk hw 120 rfl)) Via.refl e0 F0.g0 F0.E (Or.inr ⟨(jk hw 121 rfl), rfl, hnm⟩) (jk hw 115 rfl) (ty := (.object "com/example/portion/portion/server/OffsetSet$Page")) (by decide) rfl rfl (g := (mkF mM 2 #[vR a, vR pg] [(.ref pg), (.ref a)])) rfl rfl (hC e19_0.2.2.1)
  have ne2_ : pg ≠ a := (Exa.ne Eg F0.E (by decide))
  have fc4_ := Gf.other W1_ (Or.inl ne2_)
  have fc5_ := Gt.other W1_ (Or.inl ne2_)
  have fc6_ := Gs.other W1_ (Or.inl ne2_)
  have Bw1_ := F0.s0 hw W1_
  have K1_ := K0.wr W1_ (Or.inl (List.mem_of_getElem? (i := 0) rfl))
  have N1_ := Fr.snoc X1_ N0 g_a
  refine own_fin st1_ ?_
  refine jg T1_ mM 6 #[vR a, vR pg] [(.ref a)] (fun tT kK => ?_) ?_
  · refine XS.aloadN X1_.here hx rfl (hC e19_0.2.2.2) rfl rfl ?_
    exact kK
  obtain ⟨T7_, X7_, e7_, st7_⟩ := initO X1_ hx hZ hown (jk hw 122 rfl) (jk hw 8 rfl) (jk hw 9 rfl) e1_ (g := (mkF mM 6 #[vR a, vR pg] [(.ref a)])) rfl (by rw [hml]; rfl) rfl (hC e19_6.1) (by decide) (W := 0) (by show 2 * 0 + _ ≤ _; exact Nat.le_of_eq rfl) (by decide)
  refine own_fin st7_ ?_
  refine jg T7_ mM 11 #[vR a, vR pg] [(.ref a), (.ref a)] (fun tT kK => ?_) ?_
  · refine XS.aloadN X7_.here hx rfl (hC e19_6.2.1) rfl rfl ?_
    refine XS.aloadN X7_.here hx rfl (hC e19_6.2.2.1) rfl rfl ?_
    exact kK
  refine jf X7_ hx hZ hown (jk hw 120 rfl) e7_ Bw1_.g0 (hC e19_6.2.2.2) fun T8_ X8_ e8_ => ?_
  refine jn X8_ hx hZ hown (jk hw 123 rfl) e8_ fc4_ (hC e19_14.1) fun T9_ X9_ e9_ => ?_
  refine jq X9_ hx hZ hown (jk hw 124 rfl) e9_ Bw1_.g1 Bw1_.E (jk hw 125 rfl) (jk hw 115 rfl) (ty := .long) (by decide) rfl rfl (hC e19_14.2.1) K1_ N1_ (Or.inl (List.mem_of_getElem? (i := 0) rfl)) g_a fun T10_ h10_ X10_ e10_ W10_ Fw10_ K10_ N10_ => ?_
  have fc13_ := fc5_.other W10_ (Or.inl ne2_)
  have fc14_ := fc6_.other W10_ (Or.inl ne2_)
  have Bw10_ := Bw1_.s1 hw W10_
  refine jg T10_ mM 22 #[vR a, vR pg] [(.ref a), (.ref a)] (fun tT kK => ?_) ?_
  · refine XS.aloadN X10_.here hx rfl (hC e19_14.2.2.1) rfl rfl ?_
    refine XS.aloadN X10_.here hx rfl (hC e19_14.2.2.2) rfl rfl ?_
    exact kK
  refine jf X10_ hx hZ hown (jk hw 120 rfl) e10_ Bw10_.g0 (hC e19_22.1) fun T15_ X15_ e15_ => ?_
  refine jn X15_ hx hZ hown (jk hw 126 rfl) e15_ fc13_ (hC e19_22.2.1) fun T16_ X16_ e16_ => ?_
  refine jq X16_ hx hZ hown (jk hw 127 rfl) e16_ Bw10_.g2 Bw10_.E (jk hw 128 rfl) (jk hw 115 rfl) (ty := .long) (by decide) rfl rfl (hC e19_22.2.2.1) K10_ N10_ (Or.inl (List.mem_of_getElem? (i := 0) rfl)) g_a fun T17_ h17_ X17_ e17_ W17_ Fw17_ K17_ N17_ => ?_
  have fc21_ := fc14_.other W17_ (Or.inl ne2_)
  have Bw17_ := Bw10_.s2 hw W17_
  refine jg T17_ mM 33 #[vR a, vR pg] [(.ref a), (.ref a)] (fun tT kK => ?_) ?_
  · refine XS.aloadN X17_.here hx rfl (hC e19_22.2.2.2) rfl rfl ?_
    refine XS.aloadN X17_.here hx rfl (hC e19_32.1) rfl rfl ?_
    exact kK
  refine jf X17_ hx hZ hown (jk hw 120 rfl) e17_ Bw17_.g0 (hC e19_32.2.1) fun T22_ X22_ e22_ => ?_
  refine jn X22_ hx hZ hown (jk hw 129 rfl) e22_ fc21_ (hC e19_32.2.2.1) fun T23_ X23_ e23_ => ?_
  refine jq X23_ hx hZ hown (jk hw 131 rfl) e23_ Bw17_.g3 Bw17_.E (jk hw 132 rfl) (jk hw 115 rfl) (ty := .int) (by decide) rfl rfl (hC e19_32.2.2.2) K17_ N17_ (Or.inl (List.mem_of_getElem? (i := 0) rfl)) g_a fun T24_ h24_ X24_ e24_ W24_ Fw24_ K24_ N24_ => ?_
  have Bw24_ := Bw17_.s3 hw W24_
  exact own_rV X24_ hx hlk hre (hC d19_42) e24_ (by decide) (by decide) ⟨rfl, N24_, K24_, Bw24_⟩
theorem e20_0 : jD20 0 (.aload_n 0, 1) ∧ jD20 1 (.getfield 32, 3) ∧ jD20 4 (.aload_n 0, 1) ∧ jD20 5 (.getfield 1, 3) := by decide +kernel
theorem e20_8 : jD20 8 (.getfield 35, 3) ∧ jD20 11 (.if_icmp .ge 7, 3) ∧ jD20 18 (.iconst 0, 1) ∧ jD20 19 (.istore_n 1, 1) := by decide +kernel
theorem e20_20 : jD20 20 (.iload_n 1, 1) ∧ jD20 21 (.ifCond .eq 114, 3) ∧ jD20 135 (.iload_n 1, 1) ∧ jD20 136 (.ireturn, 1) := by decide +kernel
theorem own_ef_rm_nN (mM : MethodId) (x0 : Addr) : entryFrame mM #[(.ref x0)] 9 = mkF mM 0 #[.val (.ref x0), .unset, .unset, .unset, .unset, .unset, .unset, .unset, .unset] [] := by first | (simp [entryFrame, mkF, argsToLocals, Value.category]; done) | rfl
def Q_rm_nN (Z : State) (a : Addr) (pg : Addr) (fr : Int64) (tw : Int64) (en : Int32) (h0 : Heap) (n0 : Nat) (vV : Option Value) (hH : Heap) (lA : List Loc) : Prop := vV = some (.int 0) ∧ Fr n0 lA ∧ (hH = h0)
theorem rm_nN (lL : Launch) (Z : State) (a0 : Array Value) (hw : own_H a0 Z) (ws : List Jvm.Cond) (a : Addr) (pg : Addr) (fr : Int64) (tw : Int64) (en : Int32) (h0 : Heap) (n0 : Nat) (Z0 : n0 ≤ h0.size) (F0 : own_bR Z h0 a (.ref pg) fr tw en) (Ge : jF9 Z h0 pg (.int en)) :
    own_Met lL jy20 (Jvm.Cond.code jy20 prog_40_method_2_code 9 (some .boolean) :: ws) jr0 #[(.ref a)] Z h0 (Q_rm_nN Z a pg fr tw en h0 n0) := by
  refine own_begin (plainFor_of_name own_pn_com_example_portion_portion_server_OffsetSet_Page_Runs) (fun mM => own_ef_rm_nN mM a) fun pP eE sS mM below meth cC s₁ hx hby hml hZ hown hnm hre hlk X0 e0 => ?_
  have hC := @Jvm.hb _ _ hby
  have N0 := Fr.nil n0
  have K0 := Keep.refl h0 ([] : List Addr)
  let ll1 : Array Slot := #[vR a, vU, vU, vU, vU, vU, vU, vU, vU]
  refine jg s₁ mM 1 ll1 [(.ref a)] (fun tT kK => ?_) ?_
  · refine XS.aloadN X0.here hx rfl (hC e20_0.1) rfl rfl ?_
    exact kK
  refine jf X0 hx hZ hown (jk hw 131 rfl) e0 F0.g3 (hC e20_0.2.1) fun T1_ X1_ e1_ => ?_
  refine jg T1_ mM 5 ll1 [(.ref a), (.int en)] (fun tT kK => ?_) ?_
  · refine XS.aloadN X1_.here hx rfl (hC e20_0.2.2.1) rfl rfl ?_
    exact kK
  refine jf X1_ hx hZ hown (jk hw 120 rfl) e1_ F0.g0 (hC e20_0.2.2.2) fun T2_ X2_ e2_ => ?_
  refine jn X2_ hx hZ hown (jk hw 138 rfl) e2_ Ge (hC e20_8.1) fun T3_ X3_ e3_ => ?_
  let ll2 : Array Slot := #[vR a, vI 0, vU, vU, vU, vU, vU, vU, vU]
  refine jg T3_ mM 136 ll2 [(.int 0)] (fun tT kK => ?_) ?_
  · refine XS.icmpYes X3_.here hx rfl (pc0 := 11) (pc' := 18) rfl (hC e20_8.2.1) rfl (flt ((own_nl3 (by omega)) : ¬ (en < en))).2.1 (by decide) (by decide) ?_
    refine XS.iconst X3_.here hx rfl (hC e20_8.2.2.1) ?_
    refine XS.istoreN X3_.here hx rfl (hC e20_8.2.2.2) rfl (l' := ll2) rfl ?_
    refine XS.iloadN X3_.here hx rfl (hC e20_20.1) rfl ?_
    refine XS.ifYes X3_.here hx rfl (pc0 := 21) (pc' := 135) rfl (hC e20_20.2.1) rfl ((if0 _ _).trans (teq ((by decide) : (0 : Int32) = (0 : Int32))).1) (by decide) (by decide) ?_
    refine XS.iloadN X3_.here hx rfl (hC e20_20.2.2.1) rfl ?_
    exact kK
  exact own_rL X3_ hx hlk hre (by simp) (hC e20_20.2.2.2) (w := (.int 0)) rfl e3_ (by decide) (by decide) ⟨rfl, N0, rfl⟩
theorem e40_4 : jD21 4 (.aload_n 0, 1) ∧ jD21 5 (.getfield 1, 3) ∧ jD21 8 (.getfield 38, 3) ∧ jD21 11 (.aload_n 0, 1) := by decide +kernel
theorem e40_12 : jD21 12 (.dup, 1) ∧ jD21 13 (.getfield 32, 3) ∧ jD21 16 (.dup_x1, 1) ∧ jD21 17 (.iconst 1, 1) := by decide +kernel
theorem e40_18 : jD21 18 (.iadd, 1) ∧ jD21 19 (.putfield 32, 3) ∧ jD21 22 (.baload, 1) ∧ jD21 23 (.istore 4, 2) := by decide +kernel
theorem own_os0 {z0 : Value} {z1 : Value} {z3 : Value} {s4 : Slot} {v : Int32} (h : One s4) : storeLocals #[.val z0, .val z1, .second, .val z3, s4] 4 (.int v) = some #[.val z0, .val z1, .second, .val z3, .val (.int v)] := by
  rcases h with rfl | ⟨w, rfl, hw⟩
  · first | rfl | (simp [Value.category, Value.isRef] at *; done)
  · cases w <;> first | rfl | (simp [Value.category, Value.isRef] at *; done)
theorem e40_25 : jD21 25 (.lload_n 1, 1) ∧ jD21 26 (.iload 4, 2) ∧ jD21 28 (.bipush 127, 2) ∧ jD21 30 (.iand, 1) := by decide +kernel
theorem e40_31 : jD21 31 (.i2l, 1) ∧ jD21 32 (.iload_n 3, 1) ∧ jD21 33 (.lshl, 1) ∧ jD21 34 (.lor, 1) := by decide +kernel
theorem e40_35 : jD21 35 (.lstore_n 1, 1) ∧ jD21 36 (.iinc 3 7, 3) ∧ jD21 39 (.iload 4, 2) ∧ jD21 41 (.ifCond .lt (-37), 3) := by decide +kernel
theorem own_lpr {pP : Program} {lL : Launch} {eE : Env} {R : Room} {sS : State} {mM : MethodId} {args : Array Value} {below : List Frame} {meth : Method} {cC : Code} {cells slots : Nat} {PP : State → Outcome → Prop} (Z : State) (a0 : Array Value) (hw : own_H a0 Z) (a : Addr) (pg : Addr) (ba : Addr) (kb : ClassId) (fr : Int64) (tw : Int64) (rv : Int64) (at_ : Int32) (z : Int32) (vs : List Value) (q : Nat) (h0 : Heap) (n0 : Nat) (Z0 : n0 ≤ h0.size) (hwr : own_W vs 9 at_.toNatClampNeg rv.toInt q) (ha : 0 ≤ at_.toInt) (hq : (q : Int) ≤ z.toInt) (g_a : n0 ≤ a) (hx : pP.tables.exec = Jvm.exec) (hZ : Z.Warmed39 sS.vm) (hby : cC.code = prog_40_method_3_code) (hml : cC.maxLocals = 5) (hown : sS.vm.findClass "com/example/portion/portion/server/OffsetSet$Page$Runs" = some mM.cls)
    (kont0 : ∀ (val : Int64) (sh : Int32) (pt : Int32) (ai : Int32) (Th : State) (hh : Heap) (Lh : List Loc), Stand pP lL eE R sS mM args below meth cC Th Lh cells slots → Th.heap = hh → Fr n0 Lh → Keep h0 hh [a] → (own_bR Z hh a (.ref pg) fr tw ai) → (jE1 Z hh pg) → (jF7 Z hh pg (.ref ba)) → (Arv Z hh ba kb .byte z vs (.int 0)) → (val = rv) → (0 ≤ ai.toInt ∧ ai.toNatClampNeg = q) → own_Fin pP eE below PP (Th.setTop (mkF mM 44 #[.val (.ref a), .val (.long val), .second, .val (.int sh), .val (.int pt)] []))) :
    ∀ (k i : Nat) (val : Int64) (sh : Int32) (ai : Int32) (s4 : Slot) (Th : State) (hh : Heap) (Lh : List Loc), i + k = 8 → Stand pP lL eE R sS mM args below meth cC Th Lh cells slots → Th.heap = hh → Fr n0 Lh → Keep h0 hh [a] → (own_bR Z hh a (.ref pg) fr tw ai) → (jE1 Z hh pg) → (jF7 Z hh pg (.ref ba)) → (Arv Z hh ba kb .byte z vs (.int 0)) → (own_W vs (k + 1) ai.toNatClampNeg (rv.toInt / ((128 ^ i : Nat) : Int)) q) → (0 ≤ ai.toInt) → (sh.toInt = 7 * i) → (val.toInt = rv.toInt % ((128 ^ i : Nat) : Int)) → (One s4) → own_Fin pP eE below PP (Th.setTop (mkF mM 4 #[.val (.ref a), .val (.long val), .second, .val (.int sh), s4] [])) := by
  have hC := @Jvm.hb _ _ hby
  intro k
  induction k with
  | zero =>
      intro i val sh ai s4 Th hh Lh hik Xh eh Nh Kh I0 I1 I2 I3 Pw Pa Ps Pv hs4
      obtain ⟨w1, w2, ⟨xb, hxb, hxv⟩, w4⟩ := own_W.c1 Pw
      have rz := rng32 z
      have hr0 : 0 ≤ rv.toInt := (own_W.lt hwr).2
      have hlt := own_W.lt Pw
      have hcn := own_cn Pa
      have o1 : (1 : Int32).toInt = 1 := rfl
      have o7 : (7 : Int32).toInt = 7 := rfl
      have te := own_add3 (x := ai) (y := (1 : Int32)) (by omega)
      have t7 := own_add3 (x := sh) (y := (7 : Int32)) (by omega)
      have ecn : (ai + (1 : Int32)).toNatClampNeg = ai.toNatClampNeg + 1 := by simp only [Int32.toNatClampNeg]; omega
      have hx0 : 0 ≤ xb.toInt := by rw [hxv]; exact w1
      have hvv := own_rd (n := i) (val := val) (x := xb) (sh := sh) (v := rv.toInt) (by omega) Ps hr0 Pv (by rw [hxv])
      let ll1 : Array Slot := #[vR a, vJ val, vS, vI sh, s4]
      refine jg Th mM 5 ll1 [(.ref a)] (fun tT kK => ?_) ?_
      · refine XS.aloadN Xh.here hx rfl (hC e40_4.1) rfl rfl ?_
        exact kK
      refine jf Xh hx hZ hown (jk hw 120 rfl) eh I0.g0 (hC e40_4.2.1) fun T1_ X1_ e1_ => ?_
      refine jn X1_ hx hZ hown (jk hw 245 rfl) e1_ I2 (hC e40_4.2.2.1) fun T2_ X2_ e2_ => ?_
      refine jg T2_ mM 13 ll1 [(.ref a), (.ref a), (.ref ba)] (fun tT kK => ?_) ?_
      · refine XS.aloadN X2_.here hx rfl (hC e40_4.2.2.2) rfl rfl ?_
        refine XS.dup X2_.here hx rfl (hC e40_12.1) rfl rfl ?_
        exact kK
      refine jf X2_ hx hZ hown (jk hw 131 rfl) e2_ I0.g3 (hC e40_12.2.1) fun T3_ X3_ e3_ => ?_
      refine jg T3_ mM 19 ll1 [(.int (ai + (1 : Int32))), (.ref a), (.int ai), (.ref ba)] (fun tT kK => ?_) ?_
      · refine XS.dupX1 X3_.here hx rfl (hC e40_12.2.2.1) rfl rfl rfl ?_
        refine XS.iconst X3_.here hx rfl (hC e40_12.2.2.2) ?_
        refine XS.iadd X3_.here hx rfl (hC e40_18.1) rfl ?_
        exact kK
      refine jq X3_ hx hZ hown (jk hw 131 rfl) e3_ I0.g3 I0.E (jk hw 132 rfl) (jk hw 115 rfl) (ty := .int) (by decide) rfl rfl (hC e40_18.2.1) Kh Nh (Or.inl (List.mem_of_getElem? (i := 0) rfl)) g_a fun T4_ h4_ X4_ e4_ W4_ Fw4_ K4_ N4_ => ?_
      have ne5_ : pg ≠ a := (Exa.ne I1 I0.E (by decide))
      have ne6_ : ba ≠ a := (Ne.symm (own_neV I0.E I3 (jk hw 115 rfl)))
      have fc7_ := I1.wr W4_
      have fc8_ := I2.other W4_ (Or.inl ne5_)
      have fc9_ := I3.other W4_ ne6_
      have Bw4_ := I0.s3 hw W4_
      obtain ⟨cl10_, Ar10_, qk10_, Sz10_, Nn10_, Hh10_, Gg10_⟩ := id fc9_
      have hin11_ : ¬ (ai < 0 ∨ cl10_.slots.size ≤ (ai).toNatClampNeg) := inb_of Sz10_ (own_ix ⟨Pa, by omega⟩)
      have hat11_ : cl10_.slots[(ai).toNatClampNeg]? = some (.int xb) := Hh10_.at hin11_ hxb
      let ll2 : Array Slot := #[vR a, vJ (val ||| (((xb &&& (127 : Int32)).toInt64) <<< (sh &&& 0x3f).toInt64)), vS, vI (sh + (7 : Int32)), vI xb]
      refine jg T4_ mM 44 ll2 [] (fun tT kK => ?_) ?_
      · refine X4_.baloadBytes hx (j := ai) (v := (.int xb)) (own_rw e4_ Ar10_.1) (State.isArrayOf_alike hZ.alike Ar10_.2.1) Ar10_.2.2 hin11_ hat11_ (g := (mkF mM 22 ll1 [(.int ai), (.ref ba)])) rfl rfl (hC e40_18.2.2.1) _ ?_
        let ll3 : Array Slot := #[vR a, vJ val, vS, vI sh, vI xb]
        refine XS.istore X4_.here hx rfl (hC e40_18.2.2.2) rfl (l' := ll3) (own_os0 hs4) ?_
        refine XS.lloadN X4_.here hx rfl (hC e40_25.1) rfl ?_
        refine XS.iload X4_.here hx rfl (hC e40_25.2.1) rfl ?_
        refine XS.bipush X4_.here hx rfl (hC e40_25.2.2.1) ?_
        refine XS.iand X4_.here hx rfl (hC e40_25.2.2.2) rfl ?_
        refine XS.i2l X4_.here hx rfl (hC e40_31.1) rfl ?_
        refine XS.iloadN X4_.here hx rfl (hC e40_31.2.1) rfl ?_
        refine XS.lshl X4_.here hx rfl (hC e40_31.2.2.1) rfl ?_
        refine XS.lor X4_.here hx rfl (hC e40_31.2.2.2) rfl ?_
        let ll4 : Array Slot := #[vR a, vJ (val ||| (((xb &&& (127 : Int32)).toInt64) <<< (sh &&& 0x3f).toInt64)), vS, vI sh, vI xb]
        refine XS.lstoreN X4_.here hx rfl (hC e40_35.1) rfl (l' := ll4) rfl ?_
        refine XS.iinc X4_.here hx rfl (hC e40_35.2.1) rfl (l' := ll2) rfl ?_
        refine XS.iload X4_.here hx rfl (hC e40_35.2.2.1) rfl ?_
        refine XS.ifNo X4_.here hx rfl (hC e40_35.2.2.2) rfl ((if0 _ _).trans (flt (own_nl3 (by rw [own_i0]; exact hx0) : ¬ (xb < (0 : Int32)))).1) ?_
        exact kK
      exact kont0 (val ||| (((xb &&& (127 : Int32)).toInt64) <<< (sh &&& 0x3f).toInt64)) (sh + (7 : Int32)) xb (ai + (1 : Int32)) _ _ _ X4_ e4_ N4_ K4_ Bw4_ fc7_ fc8_ fc9_ (own_eqv (hvv.trans (own_dl i hr0 w2))) ⟨by omega, by rw [ecn, w4]⟩
  | succ k ih =>
      intro i val sh ai s4 Th hh Lh hik Xh eh Nh Kh I0 I1 I2 I3 Pw Pa Ps Pv hs4
      rcases own_W.cs Pw with ⟨w1, w2, ⟨xb, hxb, hxv⟩, w4⟩ | ⟨w1, ⟨xb, hxb, hxv⟩, w3⟩
      · have rz := rng32 z
        have hr0 : 0 ≤ rv.toInt := (own_W.lt hwr).2
        have hlt := own_W.lt Pw
        have hcn := own_cn Pa
        have o1 : (1 : Int32).toInt = 1 := rfl
        have o7 : (7 : Int32).toInt = 7 := rfl
        have te := own_add3 (x := ai) (y := (1 : Int32)) (by omega)
        have t7 := own_add3 (x := sh) (y := (7 : Int32)) (by omega)
        have ecn : (ai + (1 : Int32)).toNatClampNeg = ai.toNatClampNeg + 1 := by simp only [Int32.toNatClampNeg]; omega
        have hx0 : 0 ≤ xb.toInt := by rw [hxv]; exact w1
        have hvv := own_rd (n := i) (val := val) (x := xb) (sh := sh) (v := rv.toInt) (by omega) Ps hr0 Pv (by rw [hxv])
        let ll5 : Array Slot := #[vR a, vJ val, vS, vI sh, s4]
        refine jg Th mM 5 ll5 [(.ref a)] (fun tT kK => ?_) ?_
        · refine XS.aloadN Xh.here hx rfl (hC e40_4.1) rfl rfl ?_
          exact kK
        refine jf Xh hx hZ hown (jk hw 120 rfl) eh I0.g0 (hC e40_4.2.1) fun T12_ X12_ e12_ => ?_
        refine jn X12_ hx hZ hown (jk hw 245 rfl) e12_ I2 (hC e40_4.2.2.1) fun T13_ X13_ e13_ => ?_
        refine jg T13_ mM 13 ll5 [(.ref a), (.ref a), (.ref ba)] (fun tT kK => ?_) ?_
        · refine XS.aloadN X13_.here hx rfl (hC e40_4.2.2.2) rfl rfl ?_
          refine XS.dup X13_.here hx rfl (hC e40_12.1) rfl rfl ?_
          exact kK
        refine jf X13_ hx hZ hown (jk hw 131 rfl) e13_ I0.g3 (hC e40_12.2.1) fun T14_ X14_ e14_ => ?_
        refine jg T14_ mM 19 ll5 [(.int (ai + (1 : Int32))), (.ref a), (.int ai), (.ref ba)] (fun tT kK => ?_) ?_
        · refine XS.dupX1 X14_.here hx rfl (hC e40_12.2.2.1) rfl rfl rfl ?_
          refine XS.iconst X14_.here hx rfl (hC e40_12.2.2.2) ?_
          refine XS.iadd X14_.here hx rfl (hC e40_18.1) rfl ?_
          exact kK
        refine jq X14_ hx hZ hown (jk hw 131 rfl) e14_ I0.g3 I0.E (jk hw 132 rfl) (jk hw 115 rfl) (ty := .int) (by decide) rfl rfl (hC e40_18.2.1) Kh Nh (Or.inl (List.mem_of_getElem? (i := 0) rfl)) g_a fun T15_ h15_ X15_ e15_ W15_ Fw15_ K15_ N15_ => ?_
        have ne16_ : pg ≠ a := (Exa.ne I1 I0.E (by decide))
        have ne17_ : ba ≠ a := (Ne.symm (own_neV I0.E I3 (jk hw 115 rfl)))
        have fc18_ := I1.wr W15_
        have fc19_ := I2.other W15_ (Or.inl ne16_)
        have fc20_ := I3.other W15_ ne17_
        have Bw15_ := I0.s3 hw W15_
        obtain ⟨cl21_, Ar21_, qk21_, Sz21_, Nn21_, Hh21_, Gg21_⟩ := id fc20_
        have hin22_ : ¬ (ai < 0 ∨ cl21_.slots.size ≤ (ai).toNatClampNeg) := inb_of Sz21_ (own_ix ⟨Pa, by omega⟩)
        have hat22_ : cl21_.slots[(ai).toNatClampNeg]? = some (.int xb) := Hh21_.at hin22_ hxb
        let ll6 : Array Slot := #[vR a, vJ (val ||| (((xb &&& (127 : Int32)).toInt64) <<< (sh &&& 0x3f).toInt64)), vS, vI (sh + (7 : Int32)), vI xb]
        refine jg T15_ mM 44 ll6 [] (fun tT kK => ?_) ?_
        · refine X15_.baloadBytes hx (j := ai) (v := (.int xb)) (own_rw e15_ Ar21_.1) (State.isArrayOf_alike hZ.alike Ar21_.2.1) Ar21_.2.2 hin22_ hat22_ (g := (mkF mM 22 ll5 [(.int ai), (.ref ba)])) rfl rfl (hC e40_18.2.2.1) _ ?_
          let ll7 : Array Slot := #[vR a, vJ val, vS, vI sh, vI xb]
          refine XS.istore X15_.here hx rfl (hC e40_18.2.2.2) rfl (l' := ll7) (own_os0 hs4) ?_
          refine XS.lloadN X15_.here hx rfl (hC e40_25.1) rfl ?_
          refine XS.iload X15_.here hx rfl (hC e40_25.2.1) rfl ?_
          refine XS.bipush X15_.here hx rfl (hC e40_25.2.2.1) ?_
          refine XS.iand X15_.here hx rfl (hC e40_25.2.2.2) rfl ?_
          refine XS.i2l X15_.here hx rfl (hC e40_31.1) rfl ?_
          refine XS.iloadN X15_.here hx rfl (hC e40_31.2.1) rfl ?_
          refine XS.lshl X15_.here hx rfl (hC e40_31.2.2.1) rfl ?_
          refine XS.lor X15_.here hx rfl (hC e40_31.2.2.2) rfl ?_
          let ll8 : Array Slot := #[vR a, vJ (val ||| (((xb &&& (127 : Int32)).toInt64) <<< (sh &&& 0x3f).toInt64)), vS, vI sh, vI xb]
          refine XS.lstoreN X15_.here hx rfl (hC e40_35.1) rfl (l' := ll8) rfl ?_
          refine XS.iinc X15_.here hx rfl (hC e40_35.2.1) rfl (l' := ll6) rfl ?_
          refine XS.iload X15_.here hx rfl (hC e40_35.2.2.1) rfl ?_
          refine XS.ifNo X15_.here hx rfl (hC e40_35.2.2.2) rfl ((if0 _ _).trans (flt (own_nl3 (by rw [own_i0]; exact hx0) : ¬ (xb < (0 : Int32)))).1) ?_
          exact kK
        exact kont0 (val ||| (((xb &&& (127 : Int32)).toInt64) <<< (sh &&& 0x3f).toInt64)) (sh + (7 : Int32)) xb (ai + (1 : Int32)) _ _ _ X15_ e15_ N15_ K15_ Bw15_ fc18_ fc19_ fc20_ (own_eqv (hvv.trans (own_dl i hr0 w2))) ⟨by omega, by rw [ecn, w4]⟩
      · have rz := rng32 z
        have hr0 : 0 ≤ rv.toInt := (own_W.lt hwr).2
        have hlt := own_W.lt Pw
        have hcn := own_cn Pa
        have o1 : (1 : Int32).toInt = 1 := rfl
        have o7 : (7 : Int32).toInt = 7 := rfl
        have te := own_add3 (x := ai) (y := (1 : Int32)) (by omega)
        have t7 := own_add3 (x := sh) (y := (7 : Int32)) (by omega)
        have ecn : (ai + (1 : Int32)).toNatClampNeg = ai.toNatClampNeg + 1 := by simp only [Int32.toNatClampNeg]; omega
        have hx0 : xb.toInt < 0 := by rw [hxv]; have := Int.emod_lt_of_pos (rv.toInt / ((128 ^ i : Nat) : Int)) (show (0 : Int) < 128 by decide); omega
        have hvv := own_rd (n := i) (val := val) (x := xb) (sh := sh) (v := rv.toInt) (by omega) Ps hr0 Pv (by rw [hxv, Int.sub_emod, Int.emod_emod_of_dvd _ (Int.dvd_refl 128)]; simp)
        let ll9 : Array Slot := #[vR a, vJ val, vS, vI sh, s4]
        refine jg Th mM 5 ll9 [(.ref a)] (fun tT kK => ?_) ?_
        · refine XS.aloadN Xh.here hx rfl (hC e40_4.1) rfl rfl ?_
          exact kK
        refine jf Xh hx hZ hown (jk hw 120 rfl) eh I0.g0 (hC e40_4.2.1) fun T23_ X23_ e23_ => ?_
        refine jn X23_ hx hZ hown (jk hw 245 rfl) e23_ I2 (hC e40_4.2.2.1) fun T24_ X24_ e24_ => ?_
        refine jg T24_ mM 13 ll9 [(.ref a), (.ref a), (.ref ba)] (fun tT kK => ?_) ?_
        · refine XS.aloadN X24_.here hx rfl (hC e40_4.2.2.2) rfl rfl ?_
          refine XS.dup X24_.here hx rfl (hC e40_12.1) rfl rfl ?_
          exact kK
        refine jf X24_ hx hZ hown (jk hw 131 rfl) e24_ I0.g3 (hC e40_12.2.1) fun T25_ X25_ e25_ => ?_
        refine jg T25_ mM 19 ll9 [(.int (ai + (1 : Int32))), (.ref a), (.int ai), (.ref ba)] (fun tT kK => ?_) ?_
        · refine XS.dupX1 X25_.here hx rfl (hC e40_12.2.2.1) rfl rfl rfl ?_
          refine XS.iconst X25_.here hx rfl (hC e40_12.2.2.2) ?_
          refine XS.iadd X25_.here hx rfl (hC e40_18.1) rfl ?_
          exact kK
        refine jq X25_ hx hZ hown (jk hw 131 rfl) e25_ I0.g3 I0.E (jk hw 132 rfl) (jk hw 115 rfl) (ty := .int) (by decide) rfl rfl (hC e40_18.2.1) Kh Nh (Or.inl (List.mem_of_getElem? (i := 0) rfl)) g_a fun T26_ h26_ X26_ e26_ W26_ Fw26_ K26_ N26_ => ?_
        have ne27_ : pg ≠ a := (Exa.ne I1 I0.E (by decide))
        have ne28_ : ba ≠ a := (Ne.symm (own_neV I0.E I3 (jk hw 115 rfl)))
        have fc29_ := I1.wr W26_
        have fc30_ := I2.other W26_ (Or.inl ne27_)
        have fc31_ := I3.other W26_ ne28_
        have Bw26_ := I0.s3 hw W26_
        obtain ⟨cl32_, Ar32_, qk32_, Sz32_, Nn32_, Hh32_, Gg32_⟩ := id fc31_
        have hin33_ : ¬ (ai < 0 ∨ cl32_.slots.size ≤ (ai).toNatClampNeg) := inb_of Sz32_ (own_ix ⟨Pa, by omega⟩)
        have hat33_ : cl32_.slots[(ai).toNatClampNeg]? = some (.int xb) := Hh32_.at hin33_ hxb
        let ll10 : Array Slot := #[vR a, vJ (val ||| (((xb &&& (127 : Int32)).toInt64) <<< (sh &&& 0x3f).toInt64)), vS, vI (sh + (7 : Int32)), vI xb]
        refine jg T26_ mM 4 ll10 [] (fun tT kK => ?_) ?_
        · refine X26_.baloadBytes hx (j := ai) (v := (.int xb)) (own_rw e26_ Ar32_.1) (State.isArrayOf_alike hZ.alike Ar32_.2.1) Ar32_.2.2 hin33_ hat33_ (g := (mkF mM 22 ll9 [(.int ai), (.ref ba)])) rfl rfl (hC e40_18.2.2.1) _ ?_
          let ll11 : Array Slot := #[vR a, vJ val, vS, vI sh, vI xb]
          refine XS.istore X26_.here hx rfl (hC e40_18.2.2.2) rfl (l' := ll11) (own_os0 hs4) ?_
          refine XS.lloadN X26_.here hx rfl (hC e40_25.1) rfl ?_
          refine XS.iload X26_.here hx rfl (hC e40_25.2.1) rfl ?_
          refine XS.bipush X26_.here hx rfl (hC e40_25.2.2.1) ?_
          refine XS.iand X26_.here hx rfl (hC e40_25.2.2.2) rfl ?_
          refine XS.i2l X26_.here hx rfl (hC e40_31.1) rfl ?_
          refine XS.iloadN X26_.here hx rfl (hC e40_31.2.1) rfl ?_
          refine XS.lshl X26_.here hx rfl (hC e40_31.2.2.1) rfl ?_
          refine XS.lor X26_.here hx rfl (hC e40_31.2.2.2) rfl ?_
          let ll12 : Array Slot := #[vR a, vJ (val ||| (((xb &&& (127 : Int32)).toInt64) <<< (sh &&& 0x3f).toInt64)), vS, vI sh, vI xb]
          refine XS.lstoreN X26_.here hx rfl (hC e40_35.1) rfl (l' := ll12) rfl ?_
          refine XS.iinc X26_.here hx rfl (hC e40_35.2.1) rfl (l' := ll10) rfl ?_
          refine XS.iload X26_.here hx rfl (hC e40_35.2.2.1) rfl ?_
          refine XS.ifYes X26_.here hx rfl (pc0 := 41) (pc' := 4) rfl (hC e40_35.2.2.2) rfl ((if0 _ _).trans (tlt (own_lt3 (by rw [own_i0]; exact hx0) : xb < (0 : Int32))).1) (by decide) (by decide) ?_
          exact kK
        exact ih (i + 1) (val ||| (((xb &&& (127 : Int32)).toInt64) <<< (sh &&& 0x3f).toInt64)) (sh + (7 : Int32)) (ai + (1 : Int32)) _ _ _ _ (by omega) X26_ e26_ N26_ K26_ Bw26_ fc29_ fc30_ fc31_ (by rw [ecn, own_dv i hr0]; exact w3) (by omega) (by omega) hvv (One.val rfl)
theorem e40_0 : jD21 0 (.lconst 0, 1) ∧ jD21 1 (.lstore_n 1, 1) ∧ jD21 2 (.iconst 0, 1) ∧ jD21 3 (.istore_n 3, 1) := by decide +kernel
theorem e40_44 : jD21 44 (.lload_n 1, 1) ∧ jD21 45 (.lreturn, 1) := by decide +kernel
theorem own_ef_rm_rd (mM : MethodId) (x0 : Addr) : entryFrame mM #[(.ref x0)] 5 = mkF mM 0 #[.val (.ref x0), .unset, .unset, .unset, .unset] [] := by first | (simp [entryFrame, mkF, argsToLocals, Value.category]; done) | rfl
def Q_rm_rd (Z : State) (a : Addr) (pg : Addr) (ba : Addr) (kb : ClassId) (fr : Int64) (tw : Int64) (rv : Int64) (at_ : Int32) (z : Int32) (vs : List Value) (q : Nat) (h0 : Heap) (n0 : Nat) (vV : Option Value) (hH : Heap) (lA : List Loc) : Prop := ∃ at' : Int32, vV = some (.long rv) ∧ Fr n0 lA ∧ (Keep h0 hH [a]) ∧ (0 ≤ at'.toInt ∧ at'.toNatClampNeg = q) ∧ (own_bR Z hH a (.ref pg) fr tw at')
theorem rm_rd (lL : Launch) (Z : State) (a0 : Array Value) (hw : own_H a0 Z) (ws : List Jvm.Cond) (a : Addr) (pg : Addr) (ba : Addr) (kb : ClassId) (fr : Int64) (tw : Int64) (rv : Int64) (at_ : Int32) (z : Int32) (vs : List Value) (q : Nat) (h0 : Heap) (n0 : Nat) (Z0 : n0 ≤ h0.size) (F0 : own_bR Z h0 a (.ref pg) fr tw at_) (Eg : jE1 Z h0 pg) (Gb : jF7 Z h0 pg (.ref ba)) (Vb : Arv Z h0 ba kb .byte z vs (.int 0)) (hwr : own_W vs 9 at_.toNatClampNeg rv.toInt q) (ha : 0 ≤ at_.toInt) (hq : (q : Int) ≤ z.toInt) (g_a : n0 ≤ a) :
    own_Met lL jy21 (Jvm.Cond.code jy21 prog_40_method_3_code 5 (some .long) :: ws) jr0 #[(.ref a)] Z h0 (Q_rm_rd Z a pg ba kb fr tw rv at_ z vs q h0 n0) := by
  refine own_begin (plainFor_of_name own_pn_com_example_portion_portion_server_OffsetSet_Page_Runs) (fun mM => own_ef_rm_rd mM a) fun pP eE sS mM below meth cC s₁ hx hby hml hZ hown hnm hre hlk X0 e0 => ?_
  have hC := @Jvm.hb _ _ hby
  have N0 := Fr.nil n0
  have K0 := Keep.refl h0 [a]
  let ll1 : Array Slot := #[vR a, vJ 0, vS, vI 0, vU]
  refine jg s₁ mM 4 ll1 [] (fun tT kK => ?_) ?_
  · refine XS.lconst X0.here hx rfl (hC e40_0.1) ?_
    let ll2 : Array Slot := #[vR a, vJ 0, vS, vU, vU]
    refine XS.lstoreN X0.here hx rfl (hC e40_0.2.1) rfl (l' := ll2) rfl ?_
    refine XS.iconst X0.here hx rfl (hC e40_0.2.2.1) ?_
    refine XS.istoreN X0.here hx rfl (hC e40_0.2.2.2) rfl (l' := ll1) rfl ?_
    exact kK
  refine own_lpr Z a0 hw a pg ba kb fr tw rv at_ z vs q h0 n0 Z0 hwr ha hq g_a hx hZ hby hml hown ?_ 8 0 (0 : Int64) (0 : Int32) at_ _ _ _ _ (by omega) X0 e0 N0 K0 F0 Eg Gb Vb (by rw [show rv.toInt / ((128 ^ 0 : Nat) : Int) = rv.toInt from Int.ediv_one _]; exact hwr) ha (by decide) (by rw [show rv.toInt % ((128 ^ 0 : Nat) : Int) = 0 from Int.emod_one _]; rfl) One.u
  intro val_1_ sh_1_ pt_1_ ai_1_ T1_ h1_ L1_ X1_ e1_ N1_ K1_ p1__0 p1__1 p1__2 p1__3 p1__4 p1__5
  let ll3 : Array Slot := #[vR a, vJ val_1_, vS, vI sh_1_, vI pt_1_]
  refine jg T1_ mM 45 ll3 [(.long val_1_)] (fun tT kK => ?_) ?_
  · refine XS.lloadN X1_.here hx rfl (hC e40_44.1) rfl ?_
    exact kK
  exact own_rr X1_ hx hlk hre rfl (Or.inr (Or.inl ⟨rfl, rfl, _, rfl⟩)) (hC e40_44.2) e1_ (by decide) (by decide) ⟨ai_1_, congrArg (fun y => some (Value.long y)) p1__4, N1_, K1_, p1__5, p1__0⟩
theorem e20_14 : jD20 14 (.iconst 1, 1) ∧ jD20 15 (.goto 4, 3) ∧ jD20 24 (.aload_n 0, 1) ∧ jD20 25 (.getfield 1, 3) := by decide +kernel
theorem e20_28 : jD20 28 (.getfield 38, 3) ∧ jD20 31 (.aload_n 0, 1) ∧ jD20 32 (.dup, 1) ∧ jD20 33 (.getfield 32, 3) := by decide +kernel
theorem e20_36 : jD20 36 (.dup_x1, 1) ∧ jD20 37 (.iconst 1, 1) ∧ jD20 38 (.iadd, 1) ∧ jD20 39 (.putfield 32, 3) := by decide +kernel
theorem e20_42 : jD20 42 (.baload, 1) ∧ jD20 43 (.sipush 255, 3) ∧ jD20 46 (.iand, 1) ∧ jD20 47 (.istore_n 2, 1) := by decide +kernel
theorem e20_48 : jD20 48 (.iload_n 2, 1) ∧ jD20 49 (.sipush 128, 3) ∧ jD20 52 (.iand, 1) ∧ jD20 53 (.ifCond .ne 22, 3) := by decide +kernel
theorem e20_56 : jD20 56 (.iload_n 2, 1) ∧ jD20 57 (.iconst 3, 1) ∧ jD20 58 (.iushr, 1) ∧ jD20 59 (.iconst 1, 1) := by decide +kernel
theorem e20_60 : jD20 60 (.iadd, 1) ∧ jD20 61 (.i2l, 1) ∧ jD20 62 (.lstore_n 3, 1) ∧ jD20 63 (.iload_n 2, 1) := by decide +kernel
theorem e20_64 : jD20 64 (.bipush 7, 2) ∧ jD20 66 (.iand, 1) ∧ jD20 67 (.iconst 1, 1) ∧ jD20 68 (.iadd, 1) := by decide +kernel
theorem e20_69 : jD20 69 (.i2l, 1) ∧ jD20 70 (.lstore 5, 2) ∧ jD20 72 (.goto 42, 3) ∧ jD20 114 (.aload_n 0, 1) := by decide +kernel
theorem e20_115 : jD20 115 (.aload_n 0, 1) ∧ jD20 116 (.getfield 25, 3) ∧ jD20 119 (.lload_n 3, 1) ∧ jD20 120 (.ladd, 1) := by decide +kernel
theorem e20_121 : jD20 121 (.putfield 19, 3) ∧ jD20 124 (.aload_n 0, 1) ∧ jD20 125 (.aload_n 0, 1) ∧ jD20 126 (.getfield 19, 3) := by decide +kernel
theorem e20_129 : jD20 129 (.lload 5, 2) ∧ jD20 131 (.ladd, 1) ∧ jD20 132 (.putfield 25, 3) ∧ jD20 75 (.iload_n 2, 1) := by decide +kernel
theorem e20_76 : jD20 76 (.bipush 63, 2) ∧ jD20 78 (.iand, 1) ∧ jD20 79 (.i2l, 1) ∧ jD20 80 (.lstore 7, 2) := by decide +kernel
theorem e20_82 : jD20 82 (.iload_n 2, 1) ∧ jD20 83 (.bipush 64, 2) ∧ jD20 85 (.iand, 1) ∧ jD20 86 (.ifCond .eq 15, 3) := by decide +kernel
theorem e20_101 : jD20 101 (.lload 7, 2) ∧ jD20 103 (.lconst 1, 1) ∧ jD20 104 (.ladd, 1) ∧ jD20 105 (.lstore_n 3, 1) := by decide +kernel
theorem e20_106 : jD20 106 (.aload_n 0, 1) ∧ jD20 107 (.invokevirtual 42, 3) ∧ jD20 110 (.lconst 1, 1) ∧ jD20 111 (.ladd, 1) := by decide +kernel
theorem e20_112 : jD20 112 (.lstore 5, 2) ∧ jD20 89 (.lload 7, 2) ∧ jD20 91 (.aload_n 0, 1) ∧ jD20 92 (.invokevirtual 42, 3) := by decide +kernel
theorem e20_95 : jD20 95 (.bipush 6, 2) ∧ jD20 97 (.lshl, 1) ∧ jD20 98 (.lor, 1) ∧ jD20 99 (.lstore 7, 2) := by decide +kernel
theorem own_ef_rm_n1 (mM : MethodId) (x0 : Addr) : entryFrame mM #[(.ref x0)] 9 = mkF mM 0 #[.val (.ref x0), .unset, .unset, .unset, .unset, .unset, .unset, .unset, .unset] [] := by first | (simp [entryFrame, mkF, argsToLocals, Value.category]; done) | rfl
def Q_rm_n1 (Z : State) (a : Addr) (pg : Addr) (ba : Addr) (kb : ClassId) (fr : Int64) (tw : Int64) (g : Int64) (en : Int32) (z : Int32) (vs : List Value) (h0 : Heap) (n0 : Nat) (vV : Option Value) (hH : Heap) (lA : List Loc) : Prop := vV = some (.int 1) ∧ Fr n0 lA ∧ (Keep h0 hH [a]) ∧ (own_bR Z hH a (.ref pg) (tw + g) ((tw + g) + (1 : Int64)) en)
theorem rm_n1 (lL : Launch) (Z : State) (a0 : Array Value) (hw : own_H a0 Z) (ws : List Jvm.Cond) (a : Addr) (pg : Addr) (ba : Addr) (kb : ClassId) (fr : Int64) (tw : Int64) (g : Int64) (en : Int32) (z : Int32) (vs : List Value) (h0 : Heap) (n0 : Nat) (Z0 : n0 ≤ h0.size) (F0 : own_bR Z h0 a (.ref pg) fr tw (0 : Int32)) (Eg : jE1 Z h0 pg) (Gb : jF7 Z h0 pg (.ref ba)) (Vb : Arv Z h0 ba kb .byte z vs (.int 0)) (Ge : jF9 Z h0 pg (.int en)) (hE : own_E vs en.toNatClampNeg g.toInt) (hn : 0 ≤ en.toInt ∧ en.toInt ≤ z.toInt) (g_a : n0 ≤ a) :
    own_Met lL jy20 (Jvm.Cond.code jy20 prog_40_method_2_code 9 (some .boolean) :: ws) jr14 #[(.ref a)] Z h0 (Q_rm_n1 Z a pg ba kb fr tw g en z vs h0 n0) := by
  refine own_begin (plainFor_of_name own_pn_com_example_portion_portion_server_OffsetSet_Page_Runs) (fun mM => own_ef_rm_n1 mM a) fun pP eE sS mM below meth cC s₁ hx hby hml hZ hown hnm hre hlk X0 e0 => ?_
  have hC := @Jvm.hb _ _ hby
  have N0 := Fr.nil n0
  have K0 := Keep.refl h0 [a]
  have hp := own_E.pos hE
  have hcn := own_cn hn.1
  have o0 := own_i0
  have rg := rng64 g
  let ll1 : Array Slot := #[vR a, vU, vU, vU, vU, vU, vU, vU, vU]
  refine jg s₁ mM 1 ll1 [(.ref a)] (fun tT kK => ?_) ?_
  · refine XS.aloadN X0.here hx rfl (hC e20_0.1) rfl rfl ?_
    exact kK
  refine jf X0 hx hZ hown (jk hw 131 rfl) e0 F0.g3 (hC e20_0.2.1) fun T1_ X1_ e1_ => ?_
  refine jg T1_ mM 5 ll1 [(.ref a), (.int 0)] (fun tT kK => ?_) ?_
  · refine XS.aloadN X1_.here hx rfl (hC e20_0.2.2.1) rfl rfl ?_
    exact kK
  refine jf X1_ hx hZ hown (jk hw 120 rfl) e1_ F0.g0 (hC e20_0.2.2.2) fun T2_ X2_ e2_ => ?_
  refine jn X2_ hx hZ hown (jk hw 138 rfl) e2_ Ge (hC e20_8.1) fun T3_ X3_ e3_ => ?_
  have t4_ : (0 : Int32).toInt = 0 := rfl
  refine jg T3_ mM 14 ll1 [] (fun tT kK => ?_) ?_
  · refine XS.icmpNo X3_.here hx rfl (hC e20_8.2.1) rfl (tlt ((own_lt3 (by omega)) : (0 : Int32) < en)).2.1 ?_
    exact kK
  rcases id hE with ⟨w1, w2, ⟨xb, hxb, hxv⟩, w4⟩ | ⟨w1, w2, ⟨xb, hxb, hxv⟩, w4⟩ | ⟨w1, ⟨xb, hxb, hxv⟩, r, w3, w4⟩
  · let ll2 : Array Slot := #[vR a, vI 1, vU, vU, vU, vU, vU, vU, vU]
    refine jg T3_ mM 25 ll2 [(.ref a)] (fun tT kK => ?_) ?_
    · refine XS.iconst X3_.here hx rfl (hC e20_14.1) ?_
      refine XS.goto X3_.here hx rfl (pc0 := 15) (pc' := 19) rfl (hC e20_14.2.1) (by decide) (by decide) ?_
      refine XS.istoreN X3_.here hx rfl (hC e20_8.2.2.2) rfl (l' := ll2) rfl ?_
      refine XS.iloadN X3_.here hx rfl (hC e20_20.1) rfl ?_
      refine XS.ifNo X3_.here hx rfl (hC e20_20.2.1) rfl ((if0 _ _).trans (feq ((by decide) : ¬ ((1 : Int32) = (0 : Int32)))).1) ?_
      refine XS.aloadN X3_.here hx rfl (hC e20_14.2.2.1) rfl rfl ?_
      exact kK
    refine jf X3_ hx hZ hown (jk hw 120 rfl) e3_ F0.g0 (hC e20_14.2.2.2) fun T5_ X5_ e5_ => ?_
    refine jn X5_ hx hZ hown (jk hw 245 rfl) e5_ Gb (hC e20_28.1) fun T6_ X6_ e6_ => ?_
    refine jg T6_ mM 33 ll2 [(.ref a), (.ref a), (.ref ba)] (fun tT kK => ?_) ?_
    · refine XS.aloadN X6_.here hx rfl (hC e20_28.2.1) rfl rfl ?_
      refine XS.dup X6_.here hx rfl (hC e20_28.2.2.1) rfl rfl ?_
      exact kK
    refine jf X6_ hx hZ hown (jk hw 131 rfl) e6_ F0.g3 (hC e20_28.2.2.2) fun T7_ X7_ e7_ => ?_
    refine jg T7_ mM 39 ll2 [(.int 1), (.ref a), (.int 0), (.ref ba)] (fun tT kK => ?_) ?_
    · refine XS.dupX1 X7_.here hx rfl (hC e20_36.1) rfl rfl rfl ?_
      refine XS.iconst X7_.here hx rfl (hC e20_36.2.1) ?_
      refine XS.iadd X7_.here hx rfl (hC e20_36.2.2.1) rfl ?_
      exact kK
    refine jq X7_ hx hZ hown (jk hw 131 rfl) e7_ F0.g3 F0.E (jk hw 132 rfl) (jk hw 115 rfl) (ty := .int) (by decide) rfl rfl (hC e20_36.2.2.2) K0 N0 (Or.inl (List.mem_of_getElem? (i := 0) rfl)) g_a fun T8_ h8_ X8_ e8_ W8_ Fw8_ K8_ N8_ => ?_
    have ne10_ : ba ≠ a := (Ne.symm (own_neV F0.E Vb (jk hw 115 rfl)))
    have fc13_ := Vb.other W8_ ne10_
    have Bw8_ := F0.s3 hw W8_
    obtain ⟨cl15_, Ar15_, qk15_, Sz15_, Nn15_, Hh15_, Gg15_⟩ := id fc13_
    have hin16_ : ¬ ((0 : Int32) < 0 ∨ cl15_.slots.size ≤ ((0 : Int32)).toNatClampNeg) := inb_of Sz15_ (own_ix ⟨by omega, by omega⟩)
    have hat16_ : cl15_.slots[((0 : Int32)).toNatClampNeg]? = some (.int xb) := Hh15_.at hin16_ hxb
    let ll3 : Array Slot := #[vR a, vI 1, vI (xb &&& (255 : Int32)), vU, vU, vU, vU, vU, vU]
    refine jg T8_ mM 48 ll3 [] (fun tT kK => ?_) ?_
    · refine X8_.baloadBytes hx (j := (0 : Int32)) (v := (.int xb)) (own_rw e8_ Ar15_.1) (State.isArrayOf_alike hZ.alike Ar15_.2.1) Ar15_.2.2 hin16_ hat16_ (g := (mkF mM 42 ll2 [(.int 0), (.ref ba)])) rfl rfl (hC e20_42.1) _ ?_
      refine XS.sipush X8_.here hx rfl (hC e20_42.2.1) ?_
      refine XS.iand X8_.here hx rfl (hC e20_42.2.2.1) rfl ?_
      refine XS.istoreN X8_.here hx rfl (hC e20_42.2.2.2) rfl (l' := ll3) rfl ?_
      exact kK
    show own_Fin pP eE below _ (T8_.setTop (mkF mM 48 #[.val (.ref a), .val (.int 1), .val (.int (xb &&& (255 : Int32))), .unset, .unset, .unset, .unset, .unset, .unset] []))
    generalize hfb : (xb &&& (255 : Int32)) = fb
    have hf := own_a255 xb
    rw [hfb] at hf
    have hfr : 0 ≤ fb.toInt ∧ fb.toInt < 256 := by omega
    have hf8 : fb.toInt = (g.toInt - 1) * 8 := by omega
    let ll4 : Array Slot := #[vR a, vI 1, vI fb, vJ ((((fb.toUInt32 >>> ((3 : Int32) &&& 31).toUInt32).toInt32) + (1 : Int32)).toInt64), vS, vJ (((fb &&& (7 : Int32)) + (1 : Int32)).toInt64), vS, vU, vU]
    refine jg T8_ mM 72 ll4 [] (fun tT kK => ?_) ?_
    · refine XS.iloadN X8_.here hx rfl (hC e20_48.1) rfl ?_
      refine XS.sipush X8_.here hx rfl (hC e20_48.2.1) ?_
      refine XS.iand X8_.here hx rfl (hC e20_48.2.2.1) rfl ?_
      refine XS.ifNo X8_.here hx rfl (hC e20_48.2.2.2) rfl ((if0 _ _).trans (teq ((own_a128 hfr).mpr (by omega) : (fb &&& (128 : Int32)) = (0 : Int32))).2) ?_
      refine XS.iloadN X8_.here hx rfl (hC e20_56.1) rfl ?_
      refine XS.iconst X8_.here hx rfl (hC e20_56.2.1) ?_
      refine XS.iushr X8_.here hx rfl (hC e20_56.2.2.1) rfl ?_
      refine XS.iconst X8_.here hx rfl (hC e20_56.2.2.2) ?_
      refine XS.iadd X8_.here hx rfl (hC e20_60.1) rfl ?_
      refine XS.i2l X8_.here hx rfl (hC e20_60.2.1) rfl ?_
      let ll5 : Array Slot := #[vR a, vI 1, vI fb, vJ ((((fb.toUInt32 >>> ((3 : Int32) &&& 31).toUInt32).toInt32) + (1 : Int32)).toInt64), vS, vU, vU, vU, vU]
      refine XS.lstoreN X8_.here hx rfl (hC e20_60.2.2.1) rfl (l' := ll5) rfl ?_
      refine XS.iloadN X8_.here hx rfl (hC e20_60.2.2.2) rfl ?_
      refine XS.bipush X8_.here hx rfl (hC e20_64.1) ?_
      refine XS.iand X8_.here hx rfl (hC e20_64.2.1) rfl ?_
      refine XS.iconst X8_.here hx rfl (hC e20_64.2.2.1) ?_
      refine XS.iadd X8_.here hx rfl (hC e20_64.2.2.2) rfl ?_
      refine XS.i2l X8_.here hx rfl (hC e20_69.1) rfl ?_
      refine XS.lstore X8_.here hx rfl (hC e20_69.2.1) rfl (l' := ll4) rfl ?_
      exact kK
    show own_Fin pP eE below _ (T8_.setTop (mkF mM 72 #[.val (.ref a), .val (.int 1), .val (.int fb), .val (.long ((((fb.toUInt32 >>> ((3 : Int32) &&& 31).toUInt32).toInt32) + (1 : Int32)).toInt64)), .second, .val (.long (((fb &&& (7 : Int32)) + (1 : Int32)).toInt64)), .second, .unset, .unset] []))
    rw [show ((((fb.toUInt32 >>> ((3 : Int32) &&& 31).toUInt32).toInt32) + (1 : Int32)).toInt64) = g from own_eqv (own_gsh hf8 ⟨w1, w2⟩)]
    show own_Fin pP eE below _ (T8_.setTop (mkF mM 72 #[.val (.ref a), .val (.int 1), .val (.int fb), .val (.long g), .second, .val (.long (((fb &&& (7 : Int32)) + (1 : Int32)).toInt64)), .second, .unset, .unset] []))
    rw [show (((fb &&& (7 : Int32)) + (1 : Int32)).toInt64) = (1 : Int64) from own_eqv (own_lsh hf8)]
    let ll6 : Array Slot := #[vR a, vI 1, vI fb, vJ g, vS, vJ 1, vS, vU, vU]
    refine jg T8_ mM 116 ll6 [(.ref a), (.ref a)] (fun tT kK => ?_) ?_
    · refine XS.goto X8_.here hx rfl (pc0 := 72) (pc' := 114) rfl (hC e20_69.2.2.1) (by decide) (by decide) ?_
      refine XS.aloadN X8_.here hx rfl (hC e20_69.2.2.2) rfl rfl ?_
      refine XS.aloadN X8_.here hx rfl (hC e20_115.1) rfl rfl ?_
      exact kK
    refine jf X8_ hx hZ hown (jk hw 127 rfl) e8_ Bw8_.g2 (hC e20_115.2.1) fun T17_ X17_ e17_ => ?_
    refine jg T17_ mM 121 ll6 [(.long (tw + g)), (.ref a)] (fun tT kK => ?_) ?_
    · refine XS.lloadN X17_.here hx rfl (hC e20_115.2.2.1) rfl ?_
      show Steps pP.tables eE below (T17_.setTop (mkF mM 120 ll6 [(.long g), (.long tw), (.ref a)])) tT
      refine XS.ladd X17_.here hx rfl (hC e20_115.2.2.2) rfl ?_
      exact kK
    refine jq X17_ hx hZ hown (jk hw 124 rfl) e17_ Bw8_.g1 Bw8_.E (jk hw 125 rfl) (jk hw 115 rfl) (ty := .long) (by decide) rfl rfl (hC e20_121.1) K8_ N8_ (Or.inl (List.mem_of_getElem? (i := 0) rfl)) g_a fun T18_ h18_ X18_ e18_ W18_ Fw18_ K18_ N18_ => ?_
    have Bw18_ := Bw8_.s1 hw W18_
    refine jg T18_ mM 126 ll6 [(.ref a), (.ref a)] (fun tT kK => ?_) ?_
    · refine XS.aloadN X18_.here hx rfl (hC e20_121.2.1) rfl rfl ?_
      refine XS.aloadN X18_.here hx rfl (hC e20_121.2.2.1) rfl rfl ?_
      exact kK
    refine jf X18_ hx hZ hown (jk hw 124 rfl) e18_ Bw18_.g1 (hC e20_121.2.2.2) fun T23_ X23_ e23_ => ?_
    refine jg T23_ mM 132 ll6 [(.long ((tw + g) + (1 : Int64))), (.ref a)] (fun tT kK => ?_) ?_
    · refine XS.lload X23_.here hx rfl (hC e20_129.1) rfl ?_
      refine XS.ladd X23_.here hx rfl (hC e20_129.2.1) rfl ?_
      exact kK
    refine jq X23_ hx hZ hown (jk hw 127 rfl) e23_ Bw18_.g2 Bw18_.E (jk hw 128 rfl) (jk hw 115 rfl) (ty := .long) (by decide) rfl rfl (hC e20_129.2.2.1) K18_ N18_ (Or.inl (List.mem_of_getElem? (i := 0) rfl)) g_a fun T24_ h24_ X24_ e24_ W24_ Fw24_ K24_ N24_ => ?_
    have Bw24_ := Bw18_.s2 hw W24_
    refine jg T24_ mM 136 ll6 [(.int 1)] (fun tT kK => ?_) ?_
    · refine XS.iloadN X24_.here hx rfl (hC e20_20.2.2.1) rfl ?_
      exact kK
    have fr29_ : own_bR Z h24_ a (.ref pg) (tw + g) ((tw + g) + (1 : Int64)) en := by rw [show en = (1 : Int32) from own_eqv3 (by rw [← hcn, w4]; rfl)]; exact Bw24_
    exact own_rL X24_ hx hlk hre (by simp) (hC e20_20.2.2.2) (w := (.int 1)) rfl e24_ (by decide) (by decide) ⟨rfl, N24_, K24_, fr29_⟩
  · let ll7 : Array Slot := #[vR a, vI 1, vU, vU, vU, vU, vU, vU, vU]
    refine jg T3_ mM 25 ll7 [(.ref a)] (fun tT kK => ?_) ?_
    · refine XS.iconst X3_.here hx rfl (hC e20_14.1) ?_
      refine XS.goto X3_.here hx rfl (pc0 := 15) (pc' := 19) rfl (hC e20_14.2.1) (by decide) (by decide) ?_
      refine XS.istoreN X3_.here hx rfl (hC e20_8.2.2.2) rfl (l' := ll7) rfl ?_
      refine XS.iloadN X3_.here hx rfl (hC e20_20.1) rfl ?_
      refine XS.ifNo X3_.here hx rfl (hC e20_20.2.1) rfl ((if0 _ _).trans (feq ((by decide) : ¬ ((1 : Int32) = (0 : Int32)))).1) ?_
      refine XS.aloadN X3_.here hx rfl (hC e20_14.2.2.1) rfl rfl ?_
      exact kK
    refine jf X3_ hx hZ hown (jk hw 120 rfl) e3_ F0.g0 (hC e20_14.2.2.2) fun T30_ X30_ e30_ => ?_
    refine jn X30_ hx hZ hown (jk hw 245 rfl) e30_ Gb (hC e20_28.1) fun T31_ X31_ e31_ => ?_
    refine jg T31_ mM 33 ll7 [(.ref a), (.ref a), (.ref ba)] (fun tT kK => ?_) ?_
    · refine XS.aloadN X31_.here hx rfl (hC e20_28.2.1) rfl rfl ?_
      refine XS.dup X31_.here hx rfl (hC e20_28.2.2.1) rfl rfl ?_
      exact kK
    refine jf X31_ hx hZ hown (jk hw 131 rfl) e31_ F0.g3 (hC e20_28.2.2.2) fun T32_ X32_ e32_ => ?_
    refine jg T32_ mM 39 ll7 [(.int 1), (.ref a), (.int 0), (.ref ba)] (fun tT kK => ?_) ?_
    · refine XS.dupX1 X32_.here hx rfl (hC e20_36.1) rfl rfl rfl ?_
      refine XS.iconst X32_.here hx rfl (hC e20_36.2.1) ?_
      refine XS.iadd X32_.here hx rfl (hC e20_36.2.2.1) rfl ?_
      exact kK
    refine jq X32_ hx hZ hown (jk hw 131 rfl) e32_ F0.g3 F0.E (jk hw 132 rfl) (jk hw 115 rfl) (ty := .int) (by decide) rfl rfl (hC e20_36.2.2.2) K0 N0 (Or.inl (List.mem_of_getElem? (i := 0) rfl)) g_a fun T33_ h33_ X33_ e33_ W33_ Fw33_ K33_ N33_ => ?_
    have ne34_ : pg ≠ a := (Exa.ne Eg F0.E (by decide))
    have ne35_ : ba ≠ a := (Ne.symm (own_neV F0.E Vb (jk hw 115 rfl)))
    have fc36_ := Eg.wr W33_
    have fc37_ := Gb.other W33_ (Or.inl ne34_)
    have fc38_ := Vb.other W33_ ne35_
    have Bw33_ := F0.s3 hw W33_
    obtain ⟨cl40_, Ar40_, qk40_, Sz40_, Nn40_, Hh40_, Gg40_⟩ := id fc38_
    have hin41_ : ¬ ((0 : Int32) < 0 ∨ cl40_.slots.size ≤ ((0 : Int32)).toNatClampNeg) := inb_of Sz40_ (own_ix ⟨by omega, by omega⟩)
    have hat41_ : cl40_.slots[((0 : Int32)).toNatClampNeg]? = some (.int xb) := Hh40_.at hin41_ hxb
    let ll8 : Array Slot := #[vR a, vI 1, vI (xb &&& (255 : Int32)), vU, vU, vU, vU, vU, vU]
    refine jg T33_ mM 48 ll8 [] (fun tT kK => ?_) ?_
    · refine X33_.baloadBytes hx (j := (0 : Int32)) (v := (.int xb)) (own_rw e33_ Ar40_.1) (State.isArrayOf_alike hZ.alike Ar40_.2.1) Ar40_.2.2 hin41_ hat41_ (g := (mkF mM 42 ll7 [(.int 0), (.ref ba)])) rfl rfl (hC e20_42.1) _ ?_
      refine XS.sipush X33_.here hx rfl (hC e20_42.2.1) ?_
      refine XS.iand X33_.here hx rfl (hC e20_42.2.2.1) rfl ?_
      refine XS.istoreN X33_.here hx rfl (hC e20_42.2.2.2) rfl (l' := ll8) rfl ?_
      exact kK
    show own_Fin pP eE below _ (T33_.setTop (mkF mM 48 #[.val (.ref a), .val (.int 1), .val (.int (xb &&& (255 : Int32))), .unset, .unset, .unset, .unset, .unset, .unset] []))
    generalize hfb : (xb &&& (255 : Int32)) = fb
    have hf := own_a255 xb
    rw [hfb] at hf
    have hfr : 0 ≤ fb.toInt ∧ fb.toInt < 256 := by omega
    let ll9 : Array Slot := #[vR a, vI 1, vI fb, vJ (((fb &&& (63 : Int32)).toInt64) + (1 : Int64)), vS, vU, vU, vJ ((fb &&& (63 : Int32)).toInt64), vS]
    refine jg T33_ mM 106 ll9 [] (fun tT kK => ?_) ?_
    · refine XS.iloadN X33_.here hx rfl (hC e20_48.1) rfl ?_
      refine XS.sipush X33_.here hx rfl (hC e20_48.2.1) ?_
      refine XS.iand X33_.here hx rfl (hC e20_48.2.2.1) rfl ?_
      refine XS.ifYes X33_.here hx rfl (pc0 := 53) (pc' := 75) rfl (hC e20_48.2.2.2) rfl ((if0 _ _).trans (feq ((mt (own_a128 hfr).mp (by omega)) : ¬ ((fb &&& (128 : Int32)) = (0 : Int32)))).2) (by decide) (by decide) ?_
      refine XS.iloadN X33_.here hx rfl (hC e20_129.2.2.2) rfl ?_
      refine XS.bipush X33_.here hx rfl (hC e20_76.1) ?_
      refine XS.iand X33_.here hx rfl (hC e20_76.2.1) rfl ?_
      refine XS.i2l X33_.here hx rfl (hC e20_76.2.2.1) rfl ?_
      let ll10 : Array Slot := #[vR a, vI 1, vI fb, vU, vU, vU, vU, vJ ((fb &&& (63 : Int32)).toInt64), vS]
      refine XS.lstore X33_.here hx rfl (hC e20_76.2.2.2) rfl (l' := ll10) rfl ?_
      refine XS.iloadN X33_.here hx rfl (hC e20_82.1) rfl ?_
      refine XS.bipush X33_.here hx rfl (hC e20_82.2.1) ?_
      refine XS.iand X33_.here hx rfl (hC e20_82.2.2.1) rfl ?_
      refine XS.ifYes X33_.here hx rfl (pc0 := 86) (pc' := 101) rfl (hC e20_82.2.2.2) rfl ((if0 _ _).trans (teq ((own_a64 hfr).mpr (by omega) : (fb &&& (64 : Int32)) = (0 : Int32))).1) (by decide) (by decide) ?_
      refine XS.lload X33_.here hx rfl (hC e20_101.1) rfl ?_
      refine XS.lconst X33_.here hx rfl (hC e20_101.2.1) ?_
      refine XS.ladd X33_.here hx rfl (hC e20_101.2.2.1) rfl ?_
      refine XS.lstoreN X33_.here hx rfl (hC e20_101.2.2.2) rfl (l' := ll9) rfl ?_
      exact kK
    show own_Fin pP eE below _ (T33_.setTop (mkF mM 106 #[.val (.ref a), .val (.int 1), .val (.int fb), .val (.long (((fb &&& (63 : Int32)).toInt64) + (1 : Int64))), .second, .unset, .unset, .val (.long ((fb &&& (63 : Int32)).toInt64)), .second] []))
    rw [show (((fb &&& (63 : Int32)).toInt64) + (1 : Int64)) = g from own_eqv (by have h6 := own_a63 fb; rw [own_add (by rw [own_l1]; omega), own_l1]; omega)]
    let ll11 : Array Slot := #[vR a, vI 1, vI fb, vJ g, vS, vU, vU, vJ ((fb &&& (63 : Int32)).toInt64), vS]
    refine jg T33_ mM 107 ll11 [(.ref a)] (fun tT kK => ?_) ?_
    · refine XS.aloadN X33_.here hx rfl (hC e20_106.1) rfl rfl ?_
      exact kK
    have t42_ : (1 : Int32).toInt = 1 := rfl
    refine jw X33_ hx hZ (y := jy21) hown (jk hw 246 rfl) (jk hw 247 rfl) (own_selP (y := jy21) hZ (jk hw 115 rfl) (jk hw 248 rfl) (jk hw 247 rfl) (by decide)) (jk hw 248 rfl) (jk hw 249 rfl) (jk hw 116 rfl) (rm_rd lL Z a0 hw [] a pg ba kb fr tw (0 : Int64) (1 : Int32) z vs en.toNatClampNeg h33_ n0 (Nat.le_trans Z0 K33_.1) Bw33_ fc36_ fc37_ fc38_ w4 (by omega) (by omega) g_a) Bw33_.E e33_ own_pd4 [] [] (hC e20_106.2.1) rfl rfl (by rw [hml]; rfl) (by decide) 0 (Nat.le_of_eq rfl) (by decide) (by decide) (by decide : 0 + 0 ≤ _) (by decide : 0 + 0 ≤ _) fun vv43_ T43_ L43_ X43_ hQ43_ => ?_
    obtain ⟨at'_43_, rfl, N43_q, p43__0, p43__1, p43__2⟩ := hQ43_
    have N43_ := Fr.app N33_ N43_q
    have K43_ := K33_.trans p43__0 (allS (Or.inl (List.mem_of_getElem? (i := 0) rfl)) all0)
    let ll12 : Array Slot := #[vR a, vI 1, vI fb, vJ g, vS, vJ ((0 : Int64) + (1 : Int64)), vS, vJ ((fb &&& (63 : Int32)).toInt64), vS]
    refine jg T43_ mM 114 ll12 [] (fun tT kK => ?_) ?_
    · refine XS.lconst X43_.here hx rfl (hC e20_106.2.2.1) ?_
      refine XS.ladd X43_.here hx rfl (hC e20_106.2.2.2) rfl ?_
      refine XS.lstore X43_.here hx rfl (hC e20_112.1) rfl (l' := ll12) rfl ?_
      exact kK
    show own_Fin pP eE below _ (T43_.setTop (mkF mM 114 #[.val (.ref a), .val (.int 1), .val (.int fb), .val (.long g), .second, .val (.long ((0 : Int64) + (1 : Int64))), .second, .val (.long ((fb &&& (63 : Int32)).toInt64)), .second] []))
    rw [show ((0 : Int64) + (1 : Int64)) = (1 : Int64) from (by decide)]
    let ll13 : Array Slot := #[vR a, vI 1, vI fb, vJ g, vS, vJ 1, vS, vJ ((fb &&& (63 : Int32)).toInt64), vS]
    refine jg T43_ mM 116 ll13 [(.ref a), (.ref a)] (fun tT kK => ?_) ?_
    · refine XS.aloadN X43_.here hx rfl (hC e20_69.2.2.2) rfl rfl ?_
      show Steps pP.tables eE below (T43_.setTop (mkF mM 115 ll13 [(.ref a)])) tT
      refine XS.aloadN X43_.here hx rfl (hC e20_115.1) rfl rfl ?_
      exact kK
    refine jf X43_ hx hZ hown (jk hw 127 rfl) rfl p43__2.g2 (hC e20_115.2.1) fun T48_ X48_ e48_ => ?_
    refine jg T48_ mM 121 ll13 [(.long (tw + g)), (.ref a)] (fun tT kK => ?_) ?_
    · refine XS.lloadN X48_.here hx rfl (hC e20_115.2.2.1) rfl ?_
      refine XS.ladd X48_.here hx rfl (hC e20_115.2.2.2) rfl ?_
      exact kK
    refine jq X48_ hx hZ hown (jk hw 124 rfl) e48_ p43__2.g1 p43__2.E (jk hw 125 rfl) (jk hw 115 rfl) (ty := .long) (by decide) rfl rfl (hC e20_121.1) K43_ N43_ (Or.inl (List.mem_of_getElem? (i := 0) rfl)) g_a fun T49_ h49_ X49_ e49_ W49_ Fw49_ K49_ N49_ => ?_
    have Bw49_ := p43__2.s1 hw W49_
    refine jg T49_ mM 126 ll13 [(.ref a), (.ref a)] (fun tT kK => ?_) ?_
    · refine XS.aloadN X49_.here hx rfl (hC e20_121.2.1) rfl rfl ?_
      refine XS.aloadN X49_.here hx rfl (hC e20_121.2.2.1) rfl rfl ?_
      exact kK
    refine jf X49_ hx hZ hown (jk hw 124 rfl) e49_ Bw49_.g1 (hC e20_121.2.2.2) fun T54_ X54_ e54_ => ?_
    refine jg T54_ mM 132 ll13 [(.long ((tw + g) + (1 : Int64))), (.ref a)] (fun tT kK => ?_) ?_
    · refine XS.lload X54_.here hx rfl (hC e20_129.1) rfl ?_
      refine XS.ladd X54_.here hx rfl (hC e20_129.2.1) rfl ?_
      exact kK
    refine jq X54_ hx hZ hown (jk hw 127 rfl) e54_ Bw49_.g2 Bw49_.E (jk hw 128 rfl) (jk hw 115 rfl) (ty := .long) (by decide) rfl rfl (hC e20_129.2.2.1) K49_ N49_ (Or.inl (List.mem_of_getElem? (i := 0) rfl)) g_a fun T55_ h55_ X55_ e55_ W55_ Fw55_ K55_ N55_ => ?_
    have Bw55_ := Bw49_.s2 hw W55_
    refine jg T55_ mM 136 ll13 [(.int 1)] (fun tT kK => ?_) ?_
    · refine XS.iloadN X55_.here hx rfl (hC e20_20.2.2.1) rfl ?_
      exact kK
    have fr60_ : own_bR Z h55_ a (.ref pg) (tw + g) ((tw + g) + (1 : Int64)) en := by rw [show en = at'_43_ from own_eqv3 (by have h1 := p43__1; have h2 := own_cn h1.1; omega)]; exact Bw55_
    exact own_rL X55_ hx hlk hre (by simp) (hC e20_20.2.2.2) (w := (.int 1)) rfl e55_ (by decide) (by decide) ⟨rfl, N55_, K55_, fr60_⟩
  · let ll14 : Array Slot := #[vR a, vI 1, vU, vU, vU, vU, vU, vU, vU]
    refine jg T3_ mM 25 ll14 [(.ref a)] (fun tT kK => ?_) ?_
    · refine XS.iconst X3_.here hx rfl (hC e20_14.1) ?_
      refine XS.goto X3_.here hx rfl (pc0 := 15) (pc' := 19) rfl (hC e20_14.2.1) (by decide) (by decide) ?_
      refine XS.istoreN X3_.here hx rfl (hC e20_8.2.2.2) rfl (l' := ll14) rfl ?_
      refine XS.iloadN X3_.here hx rfl (hC e20_20.1) rfl ?_
      refine XS.ifNo X3_.here hx rfl (hC e20_20.2.1) rfl ((if0 _ _).trans (feq ((by decide) : ¬ ((1 : Int32) = (0 : Int32)))).1) ?_
      refine XS.aloadN X3_.here hx rfl (hC e20_14.2.2.1) rfl rfl ?_
      exact kK
    refine jf X3_ hx hZ hown (jk hw 120 rfl) e3_ F0.g0 (hC e20_14.2.2.2) fun T61_ X61_ e61_ => ?_
    refine jn X61_ hx hZ hown (jk hw 245 rfl) e61_ Gb (hC e20_28.1) fun T62_ X62_ e62_ => ?_
    refine jg T62_ mM 33 ll14 [(.ref a), (.ref a), (.ref ba)] (fun tT kK => ?_) ?_
    · refine XS.aloadN X62_.here hx rfl (hC e20_28.2.1) rfl rfl ?_
      refine XS.dup X62_.here hx rfl (hC e20_28.2.2.1) rfl rfl ?_
      exact kK
    refine jf X62_ hx hZ hown (jk hw 131 rfl) e62_ F0.g3 (hC e20_28.2.2.2) fun T63_ X63_ e63_ => ?_
    refine jg T63_ mM 39 ll14 [(.int 1), (.ref a), (.int 0), (.ref ba)] (fun tT kK => ?_) ?_
    · refine XS.dupX1 X63_.here hx rfl (hC e20_36.1) rfl rfl rfl ?_
      refine XS.iconst X63_.here hx rfl (hC e20_36.2.1) ?_
      refine XS.iadd X63_.here hx rfl (hC e20_36.2.2.1) rfl ?_
      exact kK
    refine jq X63_ hx hZ hown (jk hw 131 rfl) e63_ F0.g3 F0.E (jk hw 132 rfl) (jk hw 115 rfl) (ty := .int) (by decide) rfl rfl (hC e20_36.2.2.2) K0 N0 (Or.inl (List.mem_of_getElem? (i := 0) rfl)) g_a fun T64_ h64_ X64_ e64_ W64_ Fw64_ K64_ N64_ => ?_
    have ne65_ : pg ≠ a := (Exa.ne Eg F0.E (by decide))
    have ne66_ : ba ≠ a := (Ne.symm (own_neV F0.E Vb (jk hw 115 rfl)))
    have fc67_ := Eg.wr W64_
    have fc68_ := Gb.other W64_ (Or.inl ne65_)
    have fc69_ := Vb.other W64_ ne66_
    have Bw64_ := F0.s3 hw W64_
    obtain ⟨cl71_, Ar71_, qk71_, Sz71_, Nn71_, Hh71_, Gg71_⟩ := id fc69_
    have hin72_ : ¬ ((0 : Int32) < 0 ∨ cl71_.slots.size ≤ ((0 : Int32)).toNatClampNeg) := inb_of Sz71_ (own_ix ⟨by omega, by omega⟩)
    have hat72_ : cl71_.slots[((0 : Int32)).toNatClampNeg]? = some (.int xb) := Hh71_.at hin72_ hxb
    let ll15 : Array Slot := #[vR a, vI 1, vI (xb &&& (255 : Int32)), vU, vU, vU, vU, vU, vU]
    refine jg T64_ mM 48 ll15 [] (fun tT kK => ?_) ?_
    · refine X64_.baloadBytes hx (j := (0 : Int32)) (v := (.int xb)) (own_rw e64_ Ar71_.1) (State.isArrayOf_alike hZ.alike Ar71_.2.1) Ar71_.2.2 hin72_ hat72_ (g := (mkF mM 42 ll14 [(.int 0), (.ref ba)])) rfl rfl (hC e20_42.1) _ ?_
      refine XS.sipush X64_.here hx rfl (hC e20_42.2.1) ?_
      refine XS.iand X64_.here hx rfl (hC e20_42.2.2.1) rfl ?_
      refine XS.istoreN X64_.here hx rfl (hC e20_42.2.2.2) rfl (l' := ll15) rfl ?_
      exact kK
    show own_Fin pP eE below _ (T64_.setTop (mkF mM 48 #[.val (.ref a), .val (.int 1), .val (.int (xb &&& (255 : Int32))), .unset, .unset, .unset, .unset, .unset, .unset] []))
    generalize hfb : (xb &&& (255 : Int32)) = fb
    have hf := own_a255 xb
    rw [hfb] at hf
    have hfr : 0 ≤ fb.toInt ∧ fb.toInt < 256 := by omega
    have tg := own_sub (x := g) (y := (1 : Int64)) (by rw [own_l1]; omega)
    rw [own_l1] at tg
    have ts := own_sh6 (x := (g - (1 : Int64))) (by omega)
    rw [tg] at ts
    have h6 := own_a63 fb
    let ll16 : Array Slot := #[vR a, vI 1, vI fb, vU, vU, vU, vU, vJ ((fb &&& (63 : Int32)).toInt64), vS]
    refine jg T64_ mM 92 ll16 [(.ref a), (.long ((fb &&& (63 : Int32)).toInt64))] (fun tT kK => ?_) ?_
    · refine XS.iloadN X64_.here hx rfl (hC e20_48.1) rfl ?_
      refine XS.sipush X64_.here hx rfl (hC e20_48.2.1) ?_
      refine XS.iand X64_.here hx rfl (hC e20_48.2.2.1) rfl ?_
      refine XS.ifYes X64_.here hx rfl (pc0 := 53) (pc' := 75) rfl (hC e20_48.2.2.2) rfl ((if0 _ _).trans (feq ((mt (own_a128 hfr).mp (by omega)) : ¬ ((fb &&& (128 : Int32)) = (0 : Int32)))).2) (by decide) (by decide) ?_
      refine XS.iloadN X64_.here hx rfl (hC e20_129.2.2.2) rfl ?_
      refine XS.bipush X64_.here hx rfl (hC e20_76.1) ?_
      refine XS.iand X64_.here hx rfl (hC e20_76.2.1) rfl ?_
      refine XS.i2l X64_.here hx rfl (hC e20_76.2.2.1) rfl ?_
      refine XS.lstore X64_.here hx rfl (hC e20_76.2.2.2) rfl (l' := ll16) rfl ?_
      refine XS.iloadN X64_.here hx rfl (hC e20_82.1) rfl ?_
      refine XS.bipush X64_.here hx rfl (hC e20_82.2.1) ?_
      refine XS.iand X64_.here hx rfl (hC e20_82.2.2.1) rfl ?_
      refine XS.ifNo X64_.here hx rfl (hC e20_82.2.2.2) rfl ((if0 _ _).trans (feq ((mt (own_a64 hfr).mp (by omega)) : ¬ ((fb &&& (64 : Int32)) = (0 : Int32)))).1) ?_
      refine XS.lload X64_.here hx rfl (hC e20_112.2.1) rfl ?_
      refine XS.aloadN X64_.here hx rfl (hC e20_112.2.2.1) rfl rfl ?_
      exact kK
    have l3 := own_W.lt w3
    have l4 := own_W.lt w4
    have t73_ : (1 : Int32).toInt = 1 := rfl
    refine jw X64_ hx hZ (y := jy21) hown (jk hw 246 rfl) (jk hw 247 rfl) (own_selP (y := jy21) hZ (jk hw 115 rfl) (jk hw 248 rfl) (jk hw 247 rfl) (by decide)) (jk hw 248 rfl) (jk hw 249 rfl) (jk hw 116 rfl) (rm_rd lL Z a0 hw [] a pg ba kb fr tw (((g - (1 : Int64)).toUInt64 >>> ((6 : Int32) &&& 0x3f).toInt64.toUInt64).toInt64) (1 : Int32) z vs r h64_ n0 (Nat.le_trans Z0 K64_.1) Bw64_ fc67_ fc68_ fc69_ (by rw [ts]; exact w3) (by omega) (by omega) g_a) Bw64_.E e64_ own_pd4 [] [(.long ((fb &&& (63 : Int32)).toInt64))] (hC e20_112.2.2.2) rfl rfl (by rw [hml]; rfl) (by decide) 2 (Nat.le_of_eq rfl) (by decide) (by decide) (by decide : 0 + 0 ≤ _) (by decide : 0 + 0 ≤ _) fun vv74_ T74_ L74_ X74_ hQ74_ => ?_
    obtain ⟨at'_74_, rfl, N74_q, p74__0, p74__1, p74__2⟩ := hQ74_
    have N74_ := Fr.app N64_ N74_q
    have fc75_ := fc67_.keep p74__0
    have fc76_ := fc68_.keep p74__0 (ninS ne65_ nin0)
    have fc77_ := fc69_.keep p74__0 (ninS ne66_ nin0)
    have K74_ := K64_.trans p74__0 (allS (Or.inl (List.mem_of_getElem? (i := 0) rfl)) all0)
    let ll17 : Array Slot := #[vR a, vI 1, vI fb, vJ ((((fb &&& (63 : Int32)).toInt64) ||| ((((g - (1 : Int64)).toUInt64 >>> ((6 : Int32) &&& 0x3f).toInt64.toUInt64).toInt64) <<< ((6 : Int32) &&& 0x3f).toInt64)) + (1 : Int64)), vS, vU, vU, vJ (((fb &&& (63 : Int32)).toInt64) ||| ((((g - (1 : Int64)).toUInt64 >>> ((6 : Int32) &&& 0x3f).toInt64.toUInt64).toInt64) <<< ((6 : Int32) &&& 0x3f).toInt64)), vS]
    refine jg T74_ mM 106 ll17 [] (fun tT kK => ?_) ?_
    · refine XS.bipush X74_.here hx rfl (hC e20_95.1) ?_
      refine XS.lshl X74_.here hx rfl (hC e20_95.2.1) rfl ?_
      refine XS.lor X74_.here hx rfl (hC e20_95.2.2.1) rfl ?_
      let ll18 : Array Slot := #[vR a, vI 1, vI fb, vU, vU, vU, vU, vJ (((fb &&& (63 : Int32)).toInt64) ||| ((((g - (1 : Int64)).toUInt64 >>> ((6 : Int32) &&& 0x3f).toInt64.toUInt64).toInt64) <<< ((6 : Int32) &&& 0x3f).toInt64)), vS]
      refine XS.lstore X74_.here hx rfl (hC e20_95.2.2.2) rfl (l' := ll18) rfl ?_
      refine XS.lload X74_.here hx rfl (hC e20_101.1) rfl ?_
      refine XS.lconst X74_.here hx rfl (hC e20_101.2.1) ?_
      refine XS.ladd X74_.here hx rfl (hC e20_101.2.2.1) rfl ?_
      show Steps pP.tables eE below (T74_.setTop (mkF mM 105 ll18 [(.long ((((fb &&& (63 : Int32)).toInt64) ||| ((((g - (1 : Int64)).toUInt64 >>> ((6 : Int32) &&& 0x3f).toInt64.toUInt64).toInt64) <<< ((6 : Int32) &&& 0x3f).toInt64)) + (1 : Int64)))])) tT
      refine XS.lstoreN X74_.here hx rfl (hC e20_101.2.2.2) rfl (l' := ll17) rfl ?_
      exact kK
    show own_Fin pP eE below _ (T74_.setTop (mkF mM 106 #[.val (.ref a), .val (.int 1), .val (.int fb), .val (.long ((((fb &&& (63 : Int32)).toInt64) ||| ((((g - (1 : Int64)).toUInt64 >>> ((6 : Int32) &&& 0x3f).toInt64.toUInt64).toInt64) <<< ((6 : Int32) &&& 0x3f).toInt64)) + (1 : Int64))), .second, .unset, .unset, .val (.long (((fb &&& (63 : Int32)).toInt64) ||| ((((g - (1 : Int64)).toUInt64 >>> ((6 : Int32) &&& 0x3f).toInt64.toUInt64).toInt64) <<< ((6 : Int32) &&& 0x3f).toInt64))), .second] []))
    rw [show ((((fb &&& (63 : Int32)).toInt64) ||| ((((g - (1 : Int64)).toUInt64 >>> ((6 : Int32) &&& 0x3f).toInt64.toUInt64).toInt64) <<< ((6 : Int32) &&& 0x3f).toInt64)) + (1 : Int64)) = g from own_eqv (by have h7 := own_glong (l := ((fb &&& (63 : Int32)).toInt64)) (r := (((g - (1 : Int64)).toUInt64 >>> ((6 : Int32) &&& 0x3f).toInt64.toUInt64).toInt64)) (by omega) (by omega); rw [own_add (by rw [own_l1]; omega), own_l1]; omega)]
    let ll19 : Array Slot := #[vR a, vI 1, vI fb, vJ g, vS, vU, vU, vJ (((fb &&& (63 : Int32)).toInt64) ||| ((((g - (1 : Int64)).toUInt64 >>> ((6 : Int32) &&& 0x3f).toInt64.toUInt64).toInt64) <<< ((6 : Int32) &&& 0x3f).toInt64)), vS]
    refine jg T74_ mM 107 ll19 [(.ref a)] (fun tT kK => ?_) ?_
    · refine XS.aloadN X74_.here hx rfl (hC e20_106.1) rfl rfl ?_
      exact kK
    refine jw X74_ hx hZ (y := jy21) hown (jk hw 246 rfl) (jk hw 247 rfl) (own_selP (y := jy21) hZ (jk hw 115 rfl) (jk hw 248 rfl) (jk hw 247 rfl) (by decide)) (jk hw 248 rfl) (jk hw 249 rfl) (jk hw 116 rfl) (rm_rd lL Z a0 hw [] a pg ba kb fr tw (0 : Int64) at'_74_ z vs en.toNatClampNeg T74_.heap n0 (Nat.le_trans Z0 K74_.1) p74__2 fc75_ fc76_ fc77_ (by rw [p74__1.2]; exact w4) p74__1.1 (by omega) g_a) p74__2.E rfl own_pd4 [] [] (hC e20_106.2.1) rfl rfl (by rw [hml]; rfl) (by decide) 0 (Nat.le_of_eq rfl) (by decide) (by decide) (by decide : 0 + 0 ≤ _) (by decide : 0 + 0 ≤ _) fun vv79_ T79_ L79_ X79_ hQ79_ => ?_
    obtain ⟨at'_79_, rfl, N79_q, p79__0, p79__1, p79__2⟩ := hQ79_
    have N79_ := Fr.app N74_ N79_q
    have K79_ := K74_.trans p79__0 (allS (Or.inl (List.mem_of_getElem? (i := 0) rfl)) all0)
    let ll20 : Array Slot := #[vR a, vI 1, vI fb, vJ g, vS, vJ ((0 : Int64) + (1 : Int64)), vS, vJ (((fb &&& (63 : Int32)).toInt64) ||| ((((g - (1 : Int64)).toUInt64 >>> ((6 : Int32) &&& 0x3f).toInt64.toUInt64).toInt64) <<< ((6 : Int32) &&& 0x3f).toInt64)), vS]
    refine jg T79_ mM 114 ll20 [] (fun tT kK => ?_) ?_
    · refine XS.lconst X79_.here hx rfl (hC e20_106.2.2.1) ?_
      refine XS.ladd X79_.here hx rfl (hC e20_106.2.2.2) rfl ?_
      refine XS.lstore X79_.here hx rfl (hC e20_112.1) rfl (l' := ll20) rfl ?_
      exact kK
    show own_Fin pP eE below _ (T79_.setTop (mkF mM 114 #[.val (.ref a), .val (.int 1), .val (.int fb), .val (.long g), .second, .val (.long ((0 : Int64) + (1 : Int64))), .second, .val (.long (((fb &&& (63 : Int32)).toInt64) ||| ((((g - (1 : Int64)).toUInt64 >>> ((6 : Int32) &&& 0x3f).toInt64.toUInt64).toInt64) <<< ((6 : Int32) &&& 0x3f).toInt64))), .second] []))
    rw [show ((0 : Int64) + (1 : Int64)) = (1 : Int64) from (by decide)]
    let ll21 : Array Slot := #[vR a, vI 1, vI fb, vJ g, vS, vJ 1, vS, vJ (((fb &&& (63 : Int32)).toInt64) ||| ((((g - (1 : Int64)).toUInt64 >>> ((6 : Int32) &&& 0x3f).toInt64.toUInt64).toInt64) <<< ((6 : Int32) &&& 0x3f).toInt64)), vS]
    refine jg T79_ mM 116 ll21 [(.ref a), (.ref a)] (fun tT kK => ?_) ?_
    · refine XS.aloadN X79_.here hx rfl (hC e20_69.2.2.2) rfl rfl ?_
      refine XS.aloadN X79_.here hx rfl (hC e20_115.1) rfl rfl ?_
      exact kK
    refine jf X79_ hx hZ hown (jk hw 127 rfl) rfl p79__2.g2 (hC e20_115.2.1) fun T84_ X84_ e84_ => ?_
    refine jg T84_ mM 121 ll21 [(.long (tw + g)), (.ref a)] (fun tT kK => ?_) ?_
    · refine XS.lloadN X84_.here hx rfl (hC e20_115.2.2.1) rfl ?_
      refine XS.ladd X84_.here hx rfl (hC e20_115.2.2.2) rfl ?_
      exact kK
    refine jq X84_ hx hZ hown (jk hw 124 rfl) e84_ p79__2.g1 p79__2.E (jk hw 125 rfl) (jk hw 115 rfl) (ty := .long) (by decide) rfl rfl (hC e20_121.1) K79_ N79_ (Or.inl (List.mem_of_getElem? (i := 0) rfl)) g_a fun T85_ h85_ X85_ e85_ W85_ Fw85_ K85_ N85_ => ?_
    have Bw85_ := p79__2.s1 hw W85_
    refine jg T85_ mM 126 ll21 [(.ref a), (.ref a)] (fun tT kK => ?_) ?_
    · refine XS.aloadN X85_.here hx rfl (hC e20_121.2.1) rfl rfl ?_
      refine XS.aloadN X85_.here hx rfl (hC e20_121.2.2.1) rfl rfl ?_
      exact kK
    refine jf X85_ hx hZ hown (jk hw 124 rfl) e85_ Bw85_.g1 (hC e20_121.2.2.2) fun T90_ X90_ e90_ => ?_
    refine jg T90_ mM 132 ll21 [(.long ((tw + g) + (1 : Int64))), (.ref a)] (fun tT kK => ?_) ?_
    · refine XS.lload X90_.here hx rfl (hC e20_129.1) rfl ?_
      refine XS.ladd X90_.here hx rfl (hC e20_129.2.1) rfl ?_
      exact kK
    refine jq X90_ hx hZ hown (jk hw 127 rfl) e90_ Bw85_.g2 Bw85_.E (jk hw 128 rfl) (jk hw 115 rfl) (ty := .long) (by decide) rfl rfl (hC e20_129.2.2.1) K85_ N85_ (Or.inl (List.mem_of_getElem? (i := 0) rfl)) g_a fun T91_ h91_ X91_ e91_ W91_ Fw91_ K91_ N91_ => ?_
    have Bw91_ := Bw85_.s2 hw W91_
    refine jg T91_ mM 136 ll21 [(.int 1)] (fun tT kK => ?_) ?_
    · refine XS.iloadN X91_.here hx rfl (hC e20_20.2.2.1) rfl ?_
      exact kK
    have fr96_ : own_bR Z h91_ a (.ref pg) (tw + g) ((tw + g) + (1 : Int64)) en := by rw [show en = at'_79_ from own_eqv3 (by have h1 := p79__1; have h2 := own_cn h1.1; omega)]; exact Bw91_
    exact own_rL X91_ hx hlk hre (by simp) (hC e20_20.2.2.2) (w := (.int 1)) rfl e91_ (by decide) (by decide) ⟨rfl, N91_, K91_, fr96_⟩
theorem e21_0 : jD22 0 (.aload_n 0, 1) ∧ jD22 1 (.lconst 0, 1) ∧ jD22 2 (.putfield 45, 3) ∧ jD22 5 (.aload_n 0, 1) := by decide +kernel
theorem e21_6 : jD22 6 (.lconst 0, 1) ∧ jD22 7 (.putfield 22, 3) ∧ jD22 10 (.aload_n 0, 1) ∧ jD22 11 (.lconst 0, 1) := by decide +kernel
theorem e21_12 : jD22 12 (.putfield 29, 3) ∧ jD22 15 (.aload_n 0, 1) ∧ jD22 16 (.getstatic 9, 3) ∧ jD22 19 (.putfield 13, 3) := by decide +kernel
theorem e21_22 : jD22 22 (.aload_n 0, 1) ∧ jD22 23 (.iconst 0, 1) ∧ jD22 24 (.putfield 38, 3) ∧ jD22 27 (.aload_n 0, 1) := by decide +kernel
theorem e21_28 : jD22 28 (.iconst 0, 1) ∧ jD22 29 (.putfield 35, 3) ∧ jD22 32 (.aload_n 0, 1) ∧ jD22 33 (.iconst (-1), 1) := by decide +kernel
theorem e21_34 : jD22 34 (.putfield 18, 3) ∧ jD22 37 (.return_, 1) := by decide +kernel
theorem own_ef_rm_pc (mM : MethodId) (x0 : Addr) : entryFrame mM #[(.ref x0)] 1 = mkF mM 0 #[.val (.ref x0)] [] := by first | (simp [entryFrame, mkF, argsToLocals, Value.category]; done) | rfl
def Q_rm_pc (Z : State) (a : Addr) (nb : Addr) (sz : Int64) (ff : Int64) (ft : Int64) (lg : Int64) (lf : Int64) (lt : Int64) (h0 : Heap) (n0 : Nat) (vV : Option Value) (hH : Heap) (lA : List Loc) : Prop := vV = none ∧ Fr n0 lA ∧ (Keep h0 hH [a]) ∧ (own_bP Z hH a (0 : Int64) (0 : Int64) (0 : Int64) (.ref nb) (0 : Int32) (0 : Int32) (-1 : Int32) lg lf lt)
theorem rm_pc (lL : Launch) (Z : State) (a0 : Array Value) (hw : own_H a0 Z) (ws : List Jvm.Cond) (a : Addr) (nb : Addr) (sz : Int64) (ff : Int64) (ft : Int64) (lg : Int64) (lf : Int64) (lt : Int64) (h0 : Heap) (n0 : Nat) (Z0 : n0 ≤ h0.size) (F0 : own_bP Z h0 a sz ff ft (.ref nb) (0 : Int32) (0 : Int32) (-1 : Int32) lg lf lt) (Zb : Sta Z Z.heap "com/example/portion/portion/server/OffsetSet" "NO_BYTES" "[B" (.ref nb)) (O0 : Old Z n0 h0) (g_a : n0 ≤ a) :
    own_Met lL jy22 (Jvm.Cond.code jy22 prog_39_method_14_code 1 none :: ws) jr0 #[(.ref a)] Z h0 (Q_rm_pc Z a nb sz ff ft lg lf lt h0 n0) := by
  refine own_begin (plainFor_of_name own_pn_com_example_portion_portion_server_OffsetSet_Page) (fun mM => own_ef_rm_pc mM a) fun pP eE sS mM below meth cC s₁ hx hby hml hZ hown hnm hre hlk X0 e0 => ?_
  have hC := @Jvm.hb _ _ hby
  have N0 := Fr.nil n0
  have K0 := Keep.refl h0 [a]
  refine jg s₁ mM 2 #[vR a] [(.long 0), (.ref a)] (fun tT kK => ?_) ?_
  · refine XS.aloadN X0.here hx rfl (hC e21_0.1) rfl rfl ?_
    refine XS.lconst X0.here hx rfl (hC e21_0.2.1) ?_
    exact kK
  refine jq X0 hx hZ hown (jk hw 91 rfl) e0 F0.g0 F0.E (jk hw 78 rfl) (jk hw 55 rfl) (ty := .long) (by decide) rfl rfl (hC e21_0.2.2.1) K0 N0 (Or.inl (List.mem_of_getElem? (i := 0) rfl)) g_a fun T1_ h1_ X1_ e1_ W1_ Fw1_ K1_ N1_ => ?_
  have fc2_ := O0.wr W1_ g_a
  have Bw1_ := F0.s0 hw W1_
  refine jg T1_ mM 7 #[vR a] [(.long 0), (.ref a)] (fun tT kK => ?_) ?_
  · refine XS.aloadN X1_.here hx rfl (hC e21_0.2.2.2) rfl rfl ?_
    refine XS.lconst X1_.here hx rfl (hC e21_6.1) ?_
    exact kK
  refine jq X1_ hx hZ hown (jk hw 92 rfl) e1_ Bw1_.g1 Bw1_.E (jk hw 93 rfl) (jk hw 55 rfl) (ty := .long) (by decide) rfl rfl (hC e21_6.2.1) K1_ N1_ (Or.inl (List.mem_of_getElem? (i := 0) rfl)) g_a fun T3_ h3_ X3_ e3_ W3_ Fw3_ K3_ N3_ => ?_
  have fc4_ := fc2_.wr W3_ g_a
  have Bw3_ := Bw1_.s1 hw W3_
  refine jg T3_ mM 12 #[vR a] [(.long 0), (.ref a)] (fun tT kK => ?_) ?_
  · refine XS.aloadN X3_.here hx rfl (hC e21_6.2.2.1) rfl rfl ?_
    refine XS.lconst X3_.here hx rfl (hC e21_6.2.2.2) ?_
    exact kK
  refine jq X3_ hx hZ hown (jk hw 89 rfl) e3_ Bw3_.g2 Bw3_.E (jk hw 90 rfl) (jk hw 55 rfl) (ty := .long) (by decide) rfl rfl (hC e21_12.1) K3_ N3_ (Or.inl (List.mem_of_getElem? (i := 0) rfl)) g_a fun T5_ h5_ X5_ e5_ W5_ Fw5_ K5_ N5_ => ?_
  have fc6_ := fc4_.wr W5_ g_a
  have Bw5_ := Bw3_.s2 hw W5_
  refine jg T5_ mM 16 #[vR a] [(.ref a)] (fun tT kK => ?_) ?_
  · refine XS.aloadN X5_.here hx rfl (hC e21_12.2.1) rfl rfl ?_
    exact kK
  obtain ⟨T7_, X7_, e7_, st7_⟩ := getS2 X5_ hx hZ hown (Or.inr (jk hw 61 rfl)) Via.refl e5_ (own_StaKeep fc6_ Zb) (g := (mkF mM 16 #[vR a] [(.ref a)])) rfl (hC e21_12.2.2.1)
  refine own_fin st7_ ?_
  refine jq X7_ hx hZ hown (jk hw 63 rfl) e7_ Bw5_.g3 Bw5_.E (jk hw 64 rfl) (jk hw 55 rfl) (ty := (.array .byte)) (by decide) rfl rfl (hC e21_12.2.2.2) K5_ N5_ (Or.inl (List.mem_of_getElem? (i := 0) rfl)) g_a fun T8_ h8_ X8_ e8_ W8_ Fw8_ K8_ N8_ => ?_
  have Bw8_ := Bw5_.s3 hw W8_
  refine jg T8_ mM 24 #[vR a] [(.int 0), (.ref a)] (fun tT kK => ?_) ?_
  · refine XS.aloadN X8_.here hx rfl (hC e21_22.1) rfl rfl ?_
    refine XS.iconst X8_.here hx rfl (hC e21_22.2.1) ?_
    exact kK
  refine jq X8_ hx hZ hown (jk hw 145 rfl) e8_ Bw8_.g4 Bw8_.E (jk hw 130 rfl) (jk hw 55 rfl) (ty := .int) (by decide) rfl rfl (hC e21_22.2.2.1) K8_ N8_ (Or.inl (List.mem_of_getElem? (i := 0) rfl)) g_a fun T10_ h10_ X10_ e10_ W10_ Fw10_ K10_ N10_ => ?_
  have Bw10_ := Bw8_.s4 hw W10_
  refine jg T10_ mM 29 #[vR a] [(.int 0), (.ref a)] (fun tT kK => ?_) ?_
  · refine XS.aloadN X10_.here hx rfl (hC e21_22.2.2.2) rfl rfl ?_
    refine XS.iconst X10_.here hx rfl (hC e21_28.1) ?_
    exact kK
  refine jq X10_ hx hZ hown (jk hw 146 rfl) e10_ Bw10_.g5 Bw10_.E (jk hw 139 rfl) (jk hw 55 rfl) (ty := .int) (by decide) rfl rfl (hC e21_28.2.1) K10_ N10_ (Or.inl (List.mem_of_getElem? (i := 0) rfl)) g_a fun T12_ h12_ X12_ e12_ W12_ Fw12_ K12_ N12_ => ?_
  have Bw12_ := Bw10_.s5 hw W12_
  refine jg T12_ mM 34 #[vR a] [(.int (-1)), (.ref a)] (fun tT kK => ?_) ?_
  · refine XS.aloadN X12_.here hx rfl (hC e21_28.2.2.1) rfl rfl ?_
    refine XS.iconst X12_.here hx rfl (hC e21_28.2.2.2) ?_
    exact kK
  refine jq X12_ hx hZ hown (jk hw 65 rfl) e12_ Bw12_.g6 Bw12_.E (jk hw 66 rfl) (jk hw 55 rfl) (ty := .int) (by decide) rfl rfl (hC e21_34.1) K12_ N12_ (Or.inl (List.mem_of_getElem? (i := 0) rfl)) g_a fun T14_ h14_ X14_ e14_ W14_ Fw14_ K14_ N14_ => ?_
  have Bw14_ := Bw12_.s6 hw W14_
  exact own_rV X14_ hx hlk hre (hC e21_34.2) e14_ (by decide) (by decide) ⟨rfl, N14_, K14_, Bw14_⟩
theorem e18_0 : jD23 0 (.new 61, 3) ∧ jD23 3 (.dup, 1) ∧ jD23 4 (.aload_n 0, 1) ∧ jD23 5 (.invokespecial 63, 3) := by decide +kernel
theorem own_pd7 : parseMethodDescriptor "(Lcom/example/portion/portion/server/OffsetSet$Page;)V" = some ⟨[(.object "com/example/portion/portion/server/OffsetSet$Page")], none⟩ := by decide +kernel
theorem e18_8 : jD23 8 (.astore_n 1, 1) ∧ jD23 9 (.aload_n 1, 1) ∧ jD23 10 (.invokevirtual 75, 3) := by decide +kernel
theorem own_pd8 : parseMethodDescriptor "()Z" = some ⟨[], some .boolean⟩ := by decide +kernel
theorem e18_13 : jD23 13 (.ifCond .eq 111, 3) ∧ jD23 124 (.aload_n 0, 1) ∧ jD23 125 (.invokevirtual 104, 3) ∧ jD23 128 (.return_, 1) := by decide +kernel
theorem own_ef_rm_tA (mM : MethodId) (x0 : Addr) : entryFrame mM #[(.ref x0)] 2 = mkF mM 0 #[.val (.ref x0), .unset] [] := by first | (simp [entryFrame, mkF, argsToLocals, Value.category]; done) | rfl
def Q_rm_tA (Z : State) (a : Addr) (nb : Addr) (sz : Int64) (ff : Int64) (ft : Int64) (lg : Int64) (lf : Int64) (lt : Int64) (h0 : Heap) (n0 : Nat) (vV : Option Value) (hH : Heap) (lA : List Loc) : Prop := vV = none ∧ Fr n0 lA ∧ (Keep h0 hH [a]) ∧ (own_bP Z hH a (0 : Int64) (0 : Int64) (0 : Int64) (.ref nb) (0 : Int32) (0 : Int32) (-1 : Int32) lg lf lt)
theorem rm_tA (lL : Launch) (Z : State) (a0 : Array Value) (hw : own_H a0 Z) (ws : List Jvm.Cond) (a : Addr) (nb : Addr) (sz : Int64) (ff : Int64) (ft : Int64) (lg : Int64) (lf : Int64) (lt : Int64) (h0 : Heap) (n0 : Nat) (Z0 : n0 ≤ h0.size) (F0 : own_bP Z h0 a sz ff ft (.ref nb) (0 : Int32) (0 : Int32) (-1 : Int32) lg lf lt) (Zb : Sta Z Z.heap "com/example/portion/portion/server/OffsetSet" "NO_BYTES" "[B" (.ref nb)) (O0 : Old Z n0 h0) (g_a : n0 ≤ a) :
    own_Met lL jy23 (Jvm.Cond.code jy23 prog_39_method_15_code 2 none :: ws) jr15 #[(.ref a)] Z h0 (Q_rm_tA Z a nb sz ff ft lg lf lt h0 n0) := by
  refine own_begin (plainFor_of_name own_pn_com_example_portion_portion_server_OffsetSet_Page) (fun mM => own_ef_rm_tA mM a) fun pP eE sS mM below meth cC s₁ hx hby hml hZ hown hnm hre hlk X0 e0 => ?_
  have hC := @Jvm.hb _ _ hby
  have N0 := Fr.nil n0
  have K0 := Keep.refl h0 [a]
  obtain ⟨T1_, h1_, X1_, e1_, E1_, A1_, D1_, -, st1_⟩ := newO X0 hx hZ hown (jk hw 114 rfl) (jk hw 115 rfl) (jk hw 116 rfl) e0 (g := (mkF mM 0 #[vR a, vU] [])) rfl (hC e18_0.1) (by decide) (by decide)
  obtain ⟨b1_, g1_⟩ : ∃ z, z = h0.size := ⟨_, rfl⟩
  rw [← g1_] at A1_ D1_ st1_
  have sz_b1_ : h0.size ≤ b1_ := Nat.le_trans K0.1 (Nat.le_of_eq g1_.symm)
  have ge_b1_ : n0 ≤ b1_ := Nat.le_trans Z0 sz_b1_
  have ne2_ : a ≠ b1_ := Nat.ne_of_lt (Nat.lt_of_lt_of_le F0.lt (Nat.le_of_eq g1_.symm))
  have fc3_ := F0.ext E1_
  have fc4_ := O0.ext E1_
  have K1_ := K0.ext E1_
  have Bn1_ : own_bR Z h1_ b1_ .null (0 : Int64) (0 : Int64) (0 : Int32) := ⟨A1_, D1_ (Or.inr (jk hw 121 rfl)) (ty := (.object "com/example/portion/portion/server/OffsetSet$Page")) (by decide), D1_ (Or.inl (jk hw 125 rfl)) (ty := .long) (by decide), D1_ (Or.inl (jk hw 128 rfl)) (ty := .long) (by decide), D1_ (Or.inl (jk hw 132 rfl)) (ty := .int) (by decide)⟩
  refine own_fin st1_ ?_
  refine jg T1_ mM 5 #[vR a, vU] [(.ref a), (.ref b1_), (.ref b1_)] (fun tT kK => ?_) ?_
  · refine XS.dup X1_.here hx rfl (hC e18_0.2.1) rfl rfl ?_
    refine XS.aloadN X1_.here hx rfl (hC e18_0.2.2.1) rfl rfl ?_
    exact kK
  obtain ⟨_, _, ⟨T5_, L5_, k5_, n5_⟩, -, X5_, ⟨Lc5_, hQ5_, l5_, y5_, z5_⟩, st5_⟩ := X1_.specialBackNest hx (y := jy19) rfl hown (own_mvMN hZ (jk hw 117 rfl)) (jm hZ hw 118 rfl) (jm hZ hw 119 rfl) (by decide) (backOf (W := 1) (rm_rn lL Z a0 hw [] b1_ a ff ft h1_ n0 (Nat.le_trans Z0 K1_.1) Bn1_ fc3_.E fc3_.g1 fc3_.g2 fc3_.g4 ge_b1_) hZ (jk hw 119 rfl) (jk hw 116 rfl) (by decide) (by decide)) (g := (mkF mM 5 #[vR a, vU] [(.ref a), (.ref b1_), (.ref b1_)])) rfl (by rw [hml]; rfl) (Steps.refl _) (a := b1_) (argsL := [(.ref a)]) (rest := [(.ref b1_)]) (lenOf own_pd7 rfl) rfl (by show 2 * 0 + _ ≤ _; exact Nat.le_of_eq rfl) (hC e18_0.2.2.2) (fun _ _ => ⟨rfl, e1_, (by decide : 1 + 0 ≤ _), (by decide : 4 + 0 ≤ _)⟩)
  dsimp only [Pt.U, Pt.locs, Pt.cells, Pt.slots] at X5_ l5_ y5_ z5_ st5_ hQ5_
  subst l5_ y5_ z5_
  obtain ⟨rfl, N5_q, p5__0, p5__1⟩ := hQ5_
  have N5_ := Fr.app N0 N5_q
  have fc6_ := fc3_.keep p5__0 (ninS ne2_ nin0)
  have fc7_ := fc4_.keep p5__0 (allS ge_b1_ all0)
  have K5_ := K1_.trans p5__0 (allS (Or.inr sz_b1_) all0)
  refine own_fin (fun tT kK => st5_.trans kK) ?_
  refine jg T5_ mM 10 #[vR a, vR b1_] [(.ref b1_)] (fun tT kK => ?_) ?_
  · refine XS.astoreN X5_.here hx rfl (hC e18_8.1) rfl rfl (l' := #[vR a, vR b1_]) rfl ?_
    refine XS.aloadN X5_.here hx rfl (hC e18_8.2.1) rfl rfl ?_
    exact kK
  refine jv X5_ hx hZ (y := jy20) hown (jk hw 133 rfl) (jk hw 134 rfl) (jk hw 136 rfl) (jk hw 135 rfl) (jk hw 137 rfl) (jk hw 116 rfl) (rm_nN lL Z a0 hw [] b1_ a ff ft (0 : Int32) T5_.heap n0 (Nat.le_trans Z0 K5_.1) p5__1 fc6_.g5) p5__1.E rfl own_pd8 [] [] (hC e18_8.2.2) rfl rfl (by rw [hml]; rfl) (by decide) 0 (Nat.le_of_eq rfl) (by decide) (by decide) (by decide : 1 + 0 ≤ _) (by decide : 4 + 0 ≤ _) fun vv8_ T8_ L8_ X8_ hQ8_ => ?_
  obtain ⟨rfl, N8_q, p8__0⟩ := hQ8_
  have N8_ := Fr.app N5_ N8_q
  refine jg T8_ mM 125 #[vR a, vR b1_] [(.ref a)] (fun tT kK => ?_) ?_
  · refine XS.ifYes X8_.here hx rfl (pc0 := 13) (pc' := 124) rfl (hC e18_13.1) rfl ((if0 _ _).trans (teq ((by decide) : (0 : Int32) = (0 : Int32))).1) (by decide) (by decide) ?_
    refine XS.aloadN X8_.here hx rfl (hC e18_13.2.1) rfl rfl ?_
    exact kK
  refine jv X8_ hx hZ (y := jy22) hown (jk hw 140 rfl) (jk hw 141 rfl) (jk hw 143 rfl) (jk hw 142 rfl) (jk hw 144 rfl) (jk hw 56 rfl) (rm_pc lL Z a0 hw [] a nb sz ff ft lg lf lt T5_.heap n0 (Nat.le_trans Z0 K5_.1) fc6_ Zb fc7_ g_a) fc6_.E p8__0 own_pd5 [] [] (hC e18_13.2.2.1) rfl rfl (by rw [hml]; rfl) (by decide) 0 (Nat.le_of_eq rfl) (by decide) (by decide) (by decide : 1 + 0 ≤ _) (by decide : 4 + 0 ≤ _) fun vv9_ T9_ L9_ X9_ hQ9_ => ?_
  obtain ⟨rfl, N9_q, p9__0, p9__1⟩ := hQ9_
  have N9_ := Fr.app N8_ N9_q
  have K9_ := K5_.trans p9__0 (allS (Or.inl (List.mem_of_getElem? (i := 0) rfl)) all0)
  exact own_rV X9_ hx hlk hre (hC e18_13.2.2.2) rfl (by decide) (by decide) ⟨rfl, N9_, K9_, p9__1⟩
theorem e18_16 : jD23 16 (.aload_n 0, 1) ∧ jD23 17 (.aload_n 1, 1) ∧ jD23 18 (.getfield 69, 3) ∧ jD23 21 (.putfield 22, 3) := by decide +kernel
theorem e18_24 : jD23 24 (.aload_n 0, 1) ∧ jD23 25 (.aload_n 1, 1) ∧ jD23 26 (.getfield 66, 3) ∧ jD23 29 (.putfield 29, 3) := by decide +kernel
theorem e18_32 : jD23 32 (.aload_n 0, 1) ∧ jD23 33 (.aload_n 1, 1) ∧ jD23 34 (.getfield 72, 3) ∧ jD23 37 (.putfield 38, 3) := by decide +kernel
theorem e18_40 : jD23 40 (.aload_n 0, 1) ∧ jD23 41 (.getfield 38, 3) ∧ jD23 44 (.aload_n 0, 1) ∧ jD23 45 (.getfield 35, 3) := by decide +kernel
theorem e18_48 : jD23 48 (.if_icmp .ne 28, 3) ∧ jD23 51 (.aload_n 0, 1) ∧ jD23 52 (.getstatic 9, 3) ∧ jD23 55 (.putfield 13, 3) := by decide +kernel
theorem e18_58 : jD23 58 (.aload_n 0, 1) ∧ jD23 59 (.iconst 0, 1) ∧ jD23 60 (.putfield 38, 3) ∧ jD23 63 (.aload_n 0, 1) := by decide +kernel
theorem e18_64 : jD23 64 (.iconst 0, 1) ∧ jD23 65 (.putfield 35, 3) ∧ jD23 68 (.aload_n 0, 1) ∧ jD23 69 (.iconst (-1), 1) := by decide +kernel
theorem e18_70 : jD23 70 (.putfield 18, 3) ∧ jD23 73 (.goto 55, 3) := by decide +kernel
theorem own_ef_rm_tB (mM : MethodId) (x0 : Addr) : entryFrame mM #[(.ref x0)] 2 = mkF mM 0 #[.val (.ref x0), .unset] [] := by first | (simp [entryFrame, mkF, argsToLocals, Value.category]; done) | rfl
def Q_rm_tB (Z : State) (a : Addr) (nb : Addr) (sz : Int64) (ff : Int64) (ft : Int64) (lg : Int64) (lf : Int64) (lt : Int64) (ba : Addr) (kb : ClassId) (en : Int32) (z : Int32) (vs : List Value) (h0 : Heap) (n0 : Nat) (vV : Option Value) (hH : Heap) (lA : List Loc) : Prop := vV = none ∧ Fr n0 lA ∧ (Keep h0 hH [a]) ∧ (own_bP Z hH a sz (ft + lg) ((ft + lg) + (1 : Int64)) (.ref nb) (0 : Int32) (0 : Int32) (-1 : Int32) lg lf lt)
theorem rm_tB (lL : Launch) (Z : State) (a0 : Array Value) (hw : own_H a0 Z) (ws : List Jvm.Cond) (a : Addr) (nb : Addr) (sz : Int64) (ff : Int64) (ft : Int64) (lg : Int64) (lf : Int64) (lt : Int64) (ba : Addr) (kb : ClassId) (en : Int32) (z : Int32) (vs : List Value) (h0 : Heap) (n0 : Nat) (Z0 : n0 ≤ h0.size) (F0 : own_bP Z h0 a sz ff ft (.ref ba) (0 : Int32) en (0 : Int32) lg lf lt) (Vb : Arv Z h0 ba kb .byte z vs (.int 0)) (hE : own_E vs en.toNatClampNeg lg.toInt) (hn : 0 ≤ en.toInt ∧ en.toInt ≤ z.toInt) (Zb : Sta Z Z.heap "com/example/portion/portion/server/OffsetSet" "NO_BYTES" "[B" (.ref nb)) (O0 : Old Z n0 h0) (g_a : n0 ≤ a) :
    own_Met lL jy23 (Jvm.Cond.code jy23 prog_39_method_15_code 2 none :: ws) jr16 #[(.ref a)] Z h0 (Q_rm_tB Z a nb sz ff ft lg lf lt ba kb en z vs h0 n0) := by
  refine own_begin (plainFor_of_name own_pn_com_example_portion_portion_server_OffsetSet_Page) (fun mM => own_ef_rm_tB mM a) fun pP eE sS mM below meth cC s₁ hx hby hml hZ hown hnm hre hlk X0 e0 => ?_
  have hC := @Jvm.hb _ _ hby
  have N0 := Fr.nil n0
  have K0 := Keep.refl h0 [a]
  obtain ⟨T1_, h1_, X1_, e1_, E1_, A1_, D1_, -, st1_⟩ := newO X0 hx hZ hown (jk hw 114 rfl) (jk hw 115 rfl) (jk hw 116 rfl) e0 (g := (mkF mM 0 #[vR a, vU] [])) rfl (hC e18_0.1) (by decide) (by decide)
  obtain ⟨b1_, g1_⟩ : ∃ z, z = h0.size := ⟨_, rfl⟩
  rw [← g1_] at A1_ D1_ st1_
  have sz_b1_ : h0.size ≤ b1_ := Nat.le_trans K0.1 (Nat.le_of_eq g1_.symm)
  have ge_b1_ : n0 ≤ b1_ := Nat.le_trans Z0 sz_b1_
  have ne2_ : a ≠ b1_ := Nat.ne_of_lt (Nat.lt_of_lt_of_le F0.lt (Nat.le_of_eq g1_.symm))
  have ne3_ : ba ≠ b1_ := Nat.ne_of_lt (Nat.lt_of_lt_of_le Vb.lt (Nat.le_of_eq g1_.symm))
  have fc4_ := F0.ext E1_
  have fc5_ := Vb.ext E1_
  have fc6_ := O0.ext E1_
  have K1_ := K0.ext E1_
  have Bn1_ : own_bR Z h1_ b1_ .null (0 : Int64) (0 : Int64) (0 : Int32) := ⟨A1_, D1_ (Or.inr (jk hw 121 rfl)) (ty := (.object "com/example/portion/portion/server/OffsetSet$Page")) (by decide), D1_ (Or.inl (jk hw 125 rfl)) (ty := .long) (by decide), D1_ (Or.inl (jk hw 128 rfl)) (ty := .long) (by decide), D1_ (Or.inl (jk hw 132 rfl)) (ty := .int) (by decide)⟩
  refine own_fin st1_ ?_
  refine jg T1_ mM 5 #[vR a, vU] [(.ref a), (.ref b1_), (.ref b1_)] (fun tT kK => ?_) ?_
  · refine XS.dup X1_.here hx rfl (hC e18_0.2.1) rfl rfl ?_
    refine XS.aloadN X1_.here hx rfl (hC e18_0.2.2.1) rfl rfl ?_
    exact kK
  obtain ⟨_, _, ⟨T7_, L7_, k7_, n7_⟩, -, X7_, ⟨Lc7_, hQ7_, l7_, y7_, z7_⟩, st7_⟩ := X1_.specialBackNest hx (y := jy19) rfl hown (own_mvMN hZ (jk hw 117 rfl)) (jm hZ hw 118 rfl) (jm hZ hw 119 rfl) (by decide) (backOf (W := 1) (rm_rn lL Z a0 hw [] b1_ a ff ft h1_ n0 (Nat.le_trans Z0 K1_.1) Bn1_ fc4_.E fc4_.g1 fc4_.g2 fc4_.g4 ge_b1_) hZ (jk hw 119 rfl) (jk hw 116 rfl) (by decide) (by decide)) (g := (mkF mM 5 #[vR a, vU] [(.ref a), (.ref b1_), (.ref b1_)])) rfl (by rw [hml]; rfl) (Steps.refl _) (a := b1_) (argsL := [(.ref a)]) (rest := [(.ref b1_)]) (lenOf own_pd7 rfl) rfl (by show 2 * 0 + _ ≤ _; exact Nat.le_of_eq rfl) (hC e18_0.2.2.2) (fun _ _ => ⟨rfl, e1_, (by decide : 1 + 0 ≤ _), (by decide : 4 + 0 ≤ _)⟩)
  dsimp only [Pt.U, Pt.locs, Pt.cells, Pt.slots] at X7_ l7_ y7_ z7_ st7_ hQ7_
  subst l7_ y7_ z7_
  obtain ⟨rfl, N7_q, p7__0, p7__1⟩ := hQ7_
  have N7_ := Fr.app N0 N7_q
  have fc8_ := fc4_.keep p7__0 (ninS ne2_ nin0)
  have fc9_ := fc5_.keep p7__0 (ninS ne3_ nin0)
  have fc10_ := fc6_.keep p7__0 (allS ge_b1_ all0)
  have K7_ := K1_.trans p7__0 (allS (Or.inr sz_b1_) all0)
  refine own_fin (fun tT kK => st7_.trans kK) ?_
  refine jg T7_ mM 10 #[vR a, vR b1_] [(.ref b1_)] (fun tT kK => ?_) ?_
  · refine XS.astoreN X7_.here hx rfl (hC e18_8.1) rfl rfl (l' := #[vR a, vR b1_]) rfl ?_
    refine XS.aloadN X7_.here hx rfl (hC e18_8.2.1) rfl rfl ?_
    exact kK
  refine jv X7_ hx hZ (y := jy20) hown (jk hw 133 rfl) (jk hw 134 rfl) (jk hw 136 rfl) (jk hw 135 rfl) (jk hw 137 rfl) (jk hw 116 rfl) (rm_n1 lL Z a0 hw [] b1_ a ba kb ff ft lg en z vs T7_.heap n0 (Nat.le_trans Z0 K7_.1) p7__1 fc8_.E fc8_.g3 fc9_ fc8_.g5 hE hn ge_b1_) p7__1.E rfl own_pd8 [] [] (hC e18_8.2.2) rfl rfl (by rw [hml]; rfl) (by decide) 0 (Nat.le_of_eq rfl) (by decide) (by decide) (by decide : 1 + 0 ≤ _) (by decide : 4 + 0 ≤ _) fun vv11_ T11_ L11_ X11_ hQ11_ => ?_
  obtain ⟨rfl, N11_q, p11__0, p11__1⟩ := hQ11_
  have N11_ := Fr.app N7_ N11_q
  have fc12_ := fc8_.keep p11__0 (ninS ne2_ nin0)
  have fc14_ := fc10_.keep p11__0 (allS ge_b1_ all0)
  have K11_ := K7_.trans p11__0 (allS (Or.inr sz_b1_) all0)
  refine jg T11_ mM 18 #[vR a, vR b1_] [(.ref b1_), (.ref a)] (fun tT kK => ?_) ?_
  · refine XS.ifNo X11_.here hx rfl (hC e18_13.1) rfl ((if0 _ _).trans (feq ((by decide) : ¬ ((1 : Int32) = (0 : Int32)))).1) ?_
    refine XS.aloadN X11_.here hx rfl (hC e18_16.1) rfl rfl ?_
    refine XS.aloadN X11_.here hx rfl (hC e18_16.2.1) rfl rfl ?_
    exact kK
  refine jn X11_ hx hZ hown (jk hw 211 rfl) rfl p11__1.g1 (hC e18_16.2.2.1) fun T15_ X15_ e15_ => ?_
  refine jq X15_ hx hZ hown (jk hw 92 rfl) e15_ fc12_.g1 fc12_.E (jk hw 93 rfl) (jk hw 55 rfl) (ty := .long) (by decide) rfl rfl (hC e18_16.2.2.2) K11_ N11_ (Or.inl (List.mem_of_getElem? (i := 0) rfl)) g_a fun T16_ h16_ X16_ e16_ W16_ Fw16_ K16_ N16_ => ?_
  have fc19_ := fc14_.wr W16_ g_a
  have fc20_ := p11__1.other W16_ (Ne.symm ne2_)
  have Bw16_ := fc12_.s1 hw W16_
  refine jg T16_ mM 26 #[vR a, vR b1_] [(.ref b1_), (.ref a)] (fun tT kK => ?_) ?_
  · refine XS.aloadN X16_.here hx rfl (hC e18_24.1) rfl rfl ?_
    refine XS.aloadN X16_.here hx rfl (hC e18_24.2.1) rfl rfl ?_
    exact kK
  refine jn X16_ hx hZ hown (jk hw 210 rfl) e16_ fc20_.g2 (hC e18_24.2.2.1) fun T21_ X21_ e21_ => ?_
  refine jq X21_ hx hZ hown (jk hw 89 rfl) e21_ Bw16_.g2 Bw16_.E (jk hw 90 rfl) (jk hw 55 rfl) (ty := .long) (by decide) rfl rfl (hC e18_24.2.2.2) K16_ N16_ (Or.inl (List.mem_of_getElem? (i := 0) rfl)) g_a fun T22_ h22_ X22_ e22_ W22_ Fw22_ K22_ N22_ => ?_
  have fc24_ := fc19_.wr W22_ g_a
  have fc25_ := fc20_.other W22_ (Ne.symm ne2_)
  have Bw22_ := Bw16_.s2 hw W22_
  refine jg T22_ mM 34 #[vR a, vR b1_] [(.ref b1_), (.ref a)] (fun tT kK => ?_) ?_
  · refine XS.aloadN X22_.here hx rfl (hC e18_32.1) rfl rfl ?_
    refine XS.aloadN X22_.here hx rfl (hC e18_32.2.1) rfl rfl ?_
    exact kK
  refine jn X22_ hx hZ hown (jk hw 212 rfl) e22_ fc25_.g3 (hC e18_32.2.2.1) fun T26_ X26_ e26_ => ?_
  refine jq X26_ hx hZ hown (jk hw 145 rfl) e26_ Bw22_.g4 Bw22_.E (jk hw 130 rfl) (jk hw 55 rfl) (ty := .int) (by decide) rfl rfl (hC e18_32.2.2.2) K22_ N22_ (Or.inl (List.mem_of_getElem? (i := 0) rfl)) g_a fun T27_ h27_ X27_ e27_ W27_ Fw27_ K27_ N27_ => ?_
  have fc29_ := fc24_.wr W27_ g_a
  have Bw27_ := Bw22_.s4 hw W27_
  refine jg T27_ mM 41 #[vR a, vR b1_] [(.ref a)] (fun tT kK => ?_) ?_
  · refine XS.aloadN X27_.here hx rfl (hC e18_40.1) rfl rfl ?_
    exact kK
  refine jf X27_ hx hZ hown (jk hw 145 rfl) e27_ Bw27_.g4 (hC e18_40.2.1) fun T31_ X31_ e31_ => ?_
  refine jg T31_ mM 45 #[vR a, vR b1_] [(.ref a), (.int en)] (fun tT kK => ?_) ?_
  · refine XS.aloadN X31_.here hx rfl (hC e18_40.2.2.1) rfl rfl ?_
    exact kK
  refine jf X31_ hx hZ hown (jk hw 146 rfl) e31_ Bw27_.g5 (hC e18_40.2.2.2) fun T32_ X32_ e32_ => ?_
  refine jg T32_ mM 52 #[vR a, vR b1_] [(.ref a)] (fun tT kK => ?_) ?_
  · refine XS.icmpNo X32_.here hx rfl (hC e18_48.1) rfl (teq ((own_eqv3 (by omega)) : en = en)).2 ?_
    refine XS.aloadN X32_.here hx rfl (hC e18_48.2.1) rfl rfl ?_
    exact kK
  obtain ⟨T33_, X33_, e33_, st33_⟩ := getS2 X32_ hx hZ hown (Or.inr (jk hw 61 rfl)) Via.refl e32_ (own_StaKeep fc29_ Zb) (g := (mkF mM 52 #[vR a, vR b1_] [(.ref a)])) rfl (hC e18_48.2.2.1)
  refine own_fin st33_ ?_
  refine jq X33_ hx hZ hown (jk hw 63 rfl) e33_ Bw27_.g3 Bw27_.E (jk hw 64 rfl) (jk hw 55 rfl) (ty := (.array .byte)) (by decide) rfl rfl (hC e18_48.2.2.2) K27_ N27_ (Or.inl (List.mem_of_getElem? (i := 0) rfl)) g_a fun T34_ h34_ X34_ e34_ W34_ Fw34_ K34_ N34_ => ?_
  have Bw34_ := Bw27_.s3 hw W34_
  refine jg T34_ mM 60 #[vR a, vR b1_] [(.int 0), (.ref a)] (fun tT kK => ?_) ?_
  · refine XS.aloadN X34_.here hx rfl (hC e18_58.1) rfl rfl ?_
    refine XS.iconst X34_.here hx rfl (hC e18_58.2.1) ?_
    exact kK
  refine jq X34_ hx hZ hown (jk hw 145 rfl) e34_ Bw34_.g4 Bw34_.E (jk hw 130 rfl) (jk hw 55 rfl) (ty := .int) (by decide) rfl rfl (hC e18_58.2.2.1) K34_ N34_ (Or.inl (List.mem_of_getElem? (i := 0) rfl)) g_a fun T38_ h38_ X38_ e38_ W38_ Fw38_ K38_ N38_ => ?_
  have Bw38_ := Bw34_.s4 hw W38_
  refine jg T38_ mM 65 #[vR a, vR b1_] [(.int 0), (.ref a)] (fun tT kK => ?_) ?_
  · refine XS.aloadN X38_.here hx rfl (hC e18_58.2.2.2) rfl rfl ?_
    refine XS.iconst X38_.here hx rfl (hC e18_64.1) ?_
    exact kK
  refine jq X38_ hx hZ hown (jk hw 146 rfl) e38_ Bw38_.g5 Bw38_.E (jk hw 139 rfl) (jk hw 55 rfl) (ty := .int) (by decide) rfl rfl (hC e18_64.2.1) K38_ N38_ (Or.inl (List.mem_of_getElem? (i := 0) rfl)) g_a fun T42_ h42_ X42_ e42_ W42_ Fw42_ K42_ N42_ => ?_
  have Bw42_ := Bw38_.s5 hw W42_
  refine jg T42_ mM 70 #[vR a, vR b1_] [(.int (-1)), (.ref a)] (fun tT kK => ?_) ?_
  · refine XS.aloadN X42_.here hx rfl (hC e18_64.2.2.1) rfl rfl ?_
    refine XS.iconst X42_.here hx rfl (hC e18_64.2.2.2) ?_
    exact kK
  refine jq X42_ hx hZ hown (jk hw 65 rfl) e42_ Bw42_.g6 Bw42_.E (jk hw 66 rfl) (jk hw 55 rfl) (ty := .int) (by decide) rfl rfl (hC e18_70.1) K42_ N42_ (Or.inl (List.mem_of_getElem? (i := 0) rfl)) g_a fun T46_ h46_ X46_ e46_ W46_ Fw46_ K46_ N46_ => ?_
  have Bw46_ := Bw42_.s6 hw W46_
  refine jg T46_ mM 128 #[vR a, vR b1_] [] (fun tT kK => ?_) ?_
  · refine XS.goto X46_.here hx rfl (pc0 := 73) (pc' := 128) rfl (hC e18_70.2) (by decide) (by decide) ?_
    exact kK
  exact own_rV X46_ hx hlk hre (hC e18_13.2.2.2) e46_ (by decide) (by decide) ⟨rfl, N46_, K46_, Bw46_⟩
theorem e17_0 : jD24 0 (.aload_n 0, 1) ∧ jD24 1 (.dup, 1) ∧ jD24 2 (.getfield 22, 3) ∧ jD24 5 (.lconst 1, 1) := by decide +kernel
theorem e17_6 : jD24 6 (.ladd, 1) ∧ jD24 7 (.putfield 22, 3) ∧ jD24 10 (.aload_n 0, 1) ∧ jD24 11 (.dup, 1) := by decide +kernel
theorem e17_12 : jD24 12 (.getfield 45, 3) ∧ jD24 15 (.lconst 1, 1) ∧ jD24 16 (.lsub, 1) ∧ jD24 17 (.putfield 45, 3) := by decide +kernel
theorem e17_20 : jD24 20 (.aload_n 0, 1) ∧ jD24 21 (.getfield 22, 3) ∧ jD24 24 (.aload_n 0, 1) ∧ jD24 25 (.getfield 29, 3) := by decide +kernel
theorem e17_28 : jD24 28 (.lcmp, 1) ∧ jD24 29 (.ifCond .ne 7, 3) ∧ jD24 32 (.aload_n 0, 1) ∧ jD24 33 (.invokevirtual 58, 3) := by decide +kernel
theorem d17_36 : jD24 36 (.return_, 1) := by decide +kernel
theorem own_ef_rm_rA (mM : MethodId) (x0 : Addr) : entryFrame mM #[(.ref x0)] 1 = mkF mM 0 #[.val (.ref x0)] [] := by first | (simp [entryFrame, mkF, argsToLocals, Value.category]; done) | rfl
def Q_rm_rA (Z : State) (a : Addr) (nb : Addr) (sz : Int64) (ff : Int64) (ft : Int64) (lg : Int64) (lf : Int64) (lt : Int64) (h0 : Heap) (n0 : Nat) (vV : Option Value) (hH : Heap) (lA : List Loc) : Prop := ∃ s' : Int64, vV = none ∧ Fr n0 lA ∧ (Keep h0 hH [a]) ∧ (s'.toInt = sz.toInt - 1) ∧ (jE1 Z hH a) ∧ (jF4 Z hH a (.long s'))
theorem rm_rA (lL : Launch) (Z : State) (a0 : Array Value) (hw : own_H a0 Z) (ws : List Jvm.Cond) (a : Addr) (nb : Addr) (sz : Int64) (ff : Int64) (ft : Int64) (lg : Int64) (lf : Int64) (lt : Int64) (h0 : Heap) (n0 : Nat) (Z0 : n0 ≤ h0.size) (F0 : own_bP Z h0 a sz ff ft (.ref nb) (0 : Int32) (0 : Int32) (-1 : Int32) lg lf lt) (Zb : Sta Z Z.heap "com/example/portion/portion/server/OffsetSet" "NO_BYTES" "[B" (.ref nb)) (O0 : Old Z n0 h0) (hf0 : 0 ≤ ff.toInt ∧ ff.toInt < 9223372036854775807) (hd : (sz.toInt = 1 ∧ ft.toInt = ff.toInt + 1) ∨ (sz.toInt = 2 ∧ ft.toInt = ff.toInt + 2)) (g_a : n0 ≤ a) :
    own_Met lL jy24 (Jvm.Cond.code jy24 prog_39_method_6_code 1 none :: ws) jr17 #[(.ref a)] Z h0 (Q_rm_rA Z a nb sz ff ft lg lf lt h0 n0) := by
  refine own_begin (plainFor_of_name own_pn_com_example_portion_portion_server_OffsetSet_Page) (fun mM => own_ef_rm_rA mM a) fun pP eE sS mM below meth cC s₁ hx hby hml hZ hown hnm hre hlk X0 e0 => ?_
  have hC := @Jvm.hb _ _ hby
  have N0 := Fr.nil n0
  have K0 := Keep.refl h0 [a]
  refine jg s₁ mM 2 #[vR a] [(.ref a), (.ref a)] (fun tT kK => ?_) ?_
  · refine XS.aloadN X0.here hx rfl (hC e17_0.1) rfl rfl ?_
    refine XS.dup X0.here hx rfl (hC e17_0.2.1) rfl rfl ?_
    exact kK
  refine jf X0 hx hZ hown (jk hw 92 rfl) e0 F0.g1 (hC e17_0.2.2.1) fun T1_ X1_ e1_ => ?_
  refine jg T1_ mM 7 #[vR a] [(.long (ff + (1 : Int64))), (.ref a)] (fun tT kK => ?_) ?_
  · refine XS.lconst X1_.here hx rfl (hC e17_0.2.2.2) ?_
    refine XS.ladd X1_.here hx rfl (hC e17_6.1) rfl ?_
    exact kK
  refine jq X1_ hx hZ hown (jk hw 92 rfl) e1_ F0.g1 F0.E (jk hw 93 rfl) (jk hw 55 rfl) (ty := .long) (by decide) rfl rfl (hC e17_6.2.1) K0 N0 (Or.inl (List.mem_of_getElem? (i := 0) rfl)) g_a fun T2_ h2_ X2_ e2_ W2_ Fw2_ K2_ N2_ => ?_
  have fc3_ := O0.wr W2_ g_a
  have Bw2_ := F0.s1 hw W2_
  refine jg T2_ mM 12 #[vR a] [(.ref a), (.ref a)] (fun tT kK => ?_) ?_
  · refine XS.aloadN X2_.here hx rfl (hC e17_6.2.2.1) rfl rfl ?_
    refine XS.dup X2_.here hx rfl (hC e17_6.2.2.2) rfl rfl ?_
    exact kK
  refine jf X2_ hx hZ hown (jk hw 91 rfl) e2_ Bw2_.g0 (hC e17_12.1) fun T4_ X4_ e4_ => ?_
  refine jg T4_ mM 17 #[vR a] [(.long (sz - (1 : Int64))), (.ref a)] (fun tT kK => ?_) ?_
  · refine XS.lconst X4_.here hx rfl (hC e17_12.2.1) ?_
    refine XS.lsub X4_.here hx rfl (hC e17_12.2.2.1) rfl ?_
    exact kK
  refine jq X4_ hx hZ hown (jk hw 91 rfl) e4_ Bw2_.g0 Bw2_.E (jk hw 78 rfl) (jk hw 55 rfl) (ty := .long) (by decide) rfl rfl (hC e17_12.2.2.2) K2_ N2_ (Or.inl (List.mem_of_getElem? (i := 0) rfl)) g_a fun T5_ h5_ X5_ e5_ W5_ Fw5_ K5_ N5_ => ?_
  have fc6_ := fc3_.wr W5_ g_a
  have Bw5_ := Bw2_.s0 hw W5_
  refine jg T5_ mM 21 #[vR a] [(.ref a)] (fun tT kK => ?_) ?_
  · refine XS.aloadN X5_.here hx rfl (hC e17_20.1) rfl rfl ?_
    exact kK
  refine jf X5_ hx hZ hown (jk hw 92 rfl) e5_ Bw5_.g1 (hC e17_20.2.1) fun T7_ X7_ e7_ => ?_
  refine jg T7_ mM 25 #[vR a] [(.ref a), (.long (ff + (1 : Int64)))] (fun tT kK => ?_) ?_
  · refine XS.aloadN X7_.here hx rfl (hC e17_20.2.2.1) rfl rfl ?_
    exact kK
  refine jf X7_ hx hZ hown (jk hw 89 rfl) e7_ Bw5_.g2 (hC e17_20.2.2.2) fun T8_ X8_ e8_ => ?_
  refine jg T8_ mM 29 #[vR a] [(.int (lcmpW (ff + (1 : Int64)) ft))] (fun tT kK => ?_) ?_
  · refine XS.lcmp X8_.here hx rfl (hC e17_28.1) rfl ?_
    exact kK
  by_cases hc29_9_ : (ff + (1 : Int64)) = ft
  · refine jg T8_ mM 32 #[vR a] [] (fun tT kK => ?_) ?_
    · refine XS.ifNo X8_.here hx rfl (hC e17_28.2.1) rfl ((if0 _ _).trans (teq ((lw_eq (ff + (1 : Int64)) ft).mpr (hc29_9_ : (ff + (1 : Int64)) = ft))).2) ?_
      exact kK
    have t10_ : (1 : Int64).toInt = 1 := rfl
    have t11_ := own_add (x := ff) (y := (1 : Int64)) (by omega)
    have t12_ := congrArg Int64.toInt hc29_9_
    refine jg T8_ mM 33 #[vR a] [(.ref a)] (fun tT kK => ?_) ?_
    · refine XS.aloadN X8_.here hx rfl (hC e17_28.2.2.1) rfl rfl ?_
      exact kK
    refine jw X8_ hx hZ (y := jy23) hown (jk hw 110 rfl) (jk hw 111 rfl) (own_selP (y := jy23) hZ (jk hw 55 rfl) (jk hw 112 rfl) (jk hw 111 rfl) (by decide)) (jk hw 112 rfl) (jk hw 113 rfl) (jk hw 56 rfl) (rm_tA lL Z a0 hw [] a nb (sz - (1 : Int64)) (ff + (1 : Int64)) ft lg lf lt h5_ n0 (Nat.le_trans Z0 K5_.1) Bw5_ Zb fc6_ g_a) Bw5_.E e8_ own_pd5 [] [] (hC e17_28.2.2.2) rfl rfl (by rw [hml]; rfl) (by decide) 0 (Nat.le_of_eq rfl) (by decide) (by decide) (by decide : 0 + 1 ≤ _) (by decide : 0 + 4 ≤ _) fun vv13_ T13_ L13_ X13_ hQ13_ => ?_
    obtain ⟨rfl, N13_q, p13__0, p13__1⟩ := hQ13_
    have N13_ := Fr.app N5_ N13_q
    have K13_ := K5_.trans p13__0 (allS (Or.inl (List.mem_of_getElem? (i := 0) rfl)) all0)
    have t15_ : (0 : Int64).toInt = 0 := rfl
    exact own_rV X13_ hx hlk hre (hC d17_36) rfl (by decide) (by decide) ⟨(0 : Int64), rfl, N13_, K13_, (by omega), p13__1.E, p13__1.g0⟩
  · refine jg T8_ mM 36 #[vR a] [] (fun tT kK => ?_) ?_
    · refine XS.ifYes X8_.here hx rfl (pc0 := 29) (pc' := 36) rfl (hC e17_28.2.1) rfl ((if0 _ _).trans (feq (mt (lw_eq (ff + (1 : Int64)) ft).mp (hc29_9_ : ¬ ((ff + (1 : Int64)) = ft)))).2) (by decide) (by decide) ?_
      exact kK
    have t16_ : (1 : Int64).toInt = 1 := rfl
    have t17_ := own_add (x := ff) (y := (1 : Int64)) (by omega)
    have t18_ := own_tne hc29_9_
    have t19_ := rng64 sz
    have t20_ := own_sub (x := sz) (y := (1 : Int64)) (by omega)
    exact own_rV X8_ hx hlk hre (hC d17_36) e8_ (by decide) (by decide) ⟨(sz - (1 : Int64)), rfl, N5_, K5_, (by omega), Bw5_.E, Bw5_.g0⟩
theorem own_ef_rm_rB (mM : MethodId) (x0 : Addr) : entryFrame mM #[(.ref x0)] 1 = mkF mM 0 #[.val (.ref x0)] [] := by first | (simp [entryFrame, mkF, argsToLocals, Value.category]; done) | rfl
def Q_rm_rB (Z : State) (a : Addr) (nb : Addr) (sz : Int64) (ff : Int64) (ft : Int64) (lg : Int64) (lf : Int64) (lt : Int64) (ba : Addr) (kb : ClassId) (en : Int32) (z : Int32) (vs : List Value) (h0 : Heap) (n0 : Nat) (vV : Option Value) (hH : Heap) (lA : List Loc) : Prop := vV = none ∧ Fr n0 lA ∧ (Keep h0 hH [a]) ∧ (jE1 Z hH a) ∧ (jF4 Z hH a (.long (sz - (1 : Int64))))
theorem rm_rB (lL : Launch) (Z : State) (a0 : Array Value) (hw : own_H a0 Z) (ws : List Jvm.Cond) (a : Addr) (nb : Addr) (sz : Int64) (ff : Int64) (ft : Int64) (lg : Int64) (lf : Int64) (lt : Int64) (ba : Addr) (kb : ClassId) (en : Int32) (z : Int32) (vs : List Value) (h0 : Heap) (n0 : Nat) (Z0 : n0 ≤ h0.size) (F0 : own_bP Z h0 a sz ff ft (.ref ba) (0 : Int32) en (0 : Int32) lg lf lt) (Vb : Arv Z h0 ba kb .byte z vs (.int 0)) (hE : own_E vs en.toNatClampNeg lg.toInt) (hn : 0 ≤ en.toInt ∧ en.toInt ≤ z.toInt) (Zb : Sta Z Z.heap "com/example/portion/portion/server/OffsetSet" "NO_BYTES" "[B" (.ref nb)) (O0 : Old Z n0 h0) (hf0 : 0 ≤ ff.toInt ∧ ff.toInt < 9223372036854775807) (hd : ft.toInt = ff.toInt + 1) (g_a : n0 ≤ a) :
    own_Met lL jy24 (Jvm.Cond.code jy24 prog_39_method_6_code 1 none :: ws) jr18 #[(.ref a)] Z h0 (Q_rm_rB Z a nb sz ff ft lg lf lt ba kb en z vs h0 n0) := by
  refine own_begin (plainFor_of_name own_pn_com_example_portion_portion_server_OffsetSet_Page) (fun mM => own_ef_rm_rB mM a) fun pP eE sS mM below meth cC s₁ hx hby hml hZ hown hnm hre hlk X0 e0 => ?_
  have hC := @Jvm.hb _ _ hby
  have N0 := Fr.nil n0
  have K0 := Keep.refl h0 [a]
  refine jg s₁ mM 2 #[vR a] [(.ref a), (.ref a)] (fun tT kK => ?_) ?_
  · refine XS.aloadN X0.here hx rfl (hC e17_0.1) rfl rfl ?_
    refine XS.dup X0.here hx rfl (hC e17_0.2.1) rfl rfl ?_
    exact kK
  refine jf X0 hx hZ hown (jk hw 92 rfl) e0 F0.g1 (hC e17_0.2.2.1) fun T1_ X1_ e1_ => ?_
  refine jg T1_ mM 7 #[vR a] [(.long (ff + (1 : Int64))), (.ref a)] (fun tT kK => ?_) ?_
  · refine XS.lconst X1_.here hx rfl (hC e17_0.2.2.2) ?_
    refine XS.ladd X1_.here hx rfl (hC e17_6.1) rfl ?_
    exact kK
  refine jq X1_ hx hZ hown (jk hw 92 rfl) e1_ F0.g1 F0.E (jk hw 93 rfl) (jk hw 55 rfl) (ty := .long) (by decide) rfl rfl (hC e17_6.2.1) K0 N0 (Or.inl (List.mem_of_getElem? (i := 0) rfl)) g_a fun T2_ h2_ X2_ e2_ W2_ Fw2_ K2_ N2_ => ?_
  have ne3_ : ba ≠ a := (Ne.symm (own_neV F0.E Vb (jk hw 55 rfl)))
  have fc4_ := Vb.other W2_ ne3_
  have fc5_ := O0.wr W2_ g_a
  have Bw2_ := F0.s1 hw W2_
  refine jg T2_ mM 12 #[vR a] [(.ref a), (.ref a)] (fun tT kK => ?_) ?_
  · refine XS.aloadN X2_.here hx rfl (hC e17_6.2.2.1) rfl rfl ?_
    refine XS.dup X2_.here hx rfl (hC e17_6.2.2.2) rfl rfl ?_
    exact kK
  refine jf X2_ hx hZ hown (jk hw 91 rfl) e2_ Bw2_.g0 (hC e17_12.1) fun T6_ X6_ e6_ => ?_
  refine jg T6_ mM 17 #[vR a] [(.long (sz - (1 : Int64))), (.ref a)] (fun tT kK => ?_) ?_
  · refine XS.lconst X6_.here hx rfl (hC e17_12.2.1) ?_
    refine XS.lsub X6_.here hx rfl (hC e17_12.2.2.1) rfl ?_
    exact kK
  refine jq X6_ hx hZ hown (jk hw 91 rfl) e6_ Bw2_.g0 Bw2_.E (jk hw 78 rfl) (jk hw 55 rfl) (ty := .long) (by decide) rfl rfl (hC e17_12.2.2.2) K2_ N2_ (Or.inl (List.mem_of_getElem? (i := 0) rfl)) g_a fun T7_ h7_ X7_ e7_ W7_ Fw7_ K7_ N7_ => ?_
  have fc8_ := fc4_.other W7_ ne3_
  have fc9_ := fc5_.wr W7_ g_a
  have Bw7_ := Bw2_.s0 hw W7_
  refine jg T7_ mM 21 #[vR a] [(.ref a)] (fun tT kK => ?_) ?_
  · refine XS.aloadN X7_.here hx rfl (hC e17_20.1) rfl rfl ?_
    exact kK
  refine jf X7_ hx hZ hown (jk hw 92 rfl) e7_ Bw7_.g1 (hC e17_20.2.1) fun T10_ X10_ e10_ => ?_
  refine jg T10_ mM 25 #[vR a] [(.ref a), (.long (ff + (1 : Int64)))] (fun tT kK => ?_) ?_
  · refine XS.aloadN X10_.here hx rfl (hC e17_20.2.2.1) rfl rfl ?_
    exact kK
  refine jf X10_ hx hZ hown (jk hw 89 rfl) e10_ Bw7_.g2 (hC e17_20.2.2.2) fun T11_ X11_ e11_ => ?_
  refine jg T11_ mM 29 #[vR a] [(.int (lcmpW (ff + (1 : Int64)) ft))] (fun tT kK => ?_) ?_
  · refine XS.lcmp X11_.here hx rfl (hC e17_28.1) rfl ?_
    exact kK
  have t12_ : (1 : Int64).toInt = 1 := rfl
  have t13_ := own_add (x := ff) (y := (1 : Int64)) (by omega)
  refine jg T11_ mM 33 #[vR a] [(.ref a)] (fun tT kK => ?_) ?_
  · refine XS.ifNo X11_.here hx rfl (hC e17_28.2.1) rfl ((if0 _ _).trans (teq ((lw_eq (ff + (1 : Int64)) ft).mpr ((own_eqv (by omega)) : (ff + (1 : Int64)) = ft))).2) ?_
    refine XS.aloadN X11_.here hx rfl (hC e17_28.2.2.1) rfl rfl ?_
    exact kK
  refine jw X11_ hx hZ (y := jy23) hown (jk hw 110 rfl) (jk hw 111 rfl) (own_selP (y := jy23) hZ (jk hw 55 rfl) (jk hw 112 rfl) (jk hw 111 rfl) (by decide)) (jk hw 112 rfl) (jk hw 113 rfl) (jk hw 56 rfl) (rm_tB lL Z a0 hw [] a nb (sz - (1 : Int64)) (ff + (1 : Int64)) ft lg lf lt ba kb en z vs h7_ n0 (Nat.le_trans Z0 K7_.1) Bw7_ fc8_ hE hn Zb fc9_ g_a) Bw7_.E e11_ own_pd5 [] [] (hC e17_28.2.2.2) rfl rfl (by rw [hml]; rfl) (by decide) 0 (Nat.le_of_eq rfl) (by decide) (by decide) (by decide : 0 + 1 ≤ _) (by decide : 0 + 4 ≤ _) fun vv14_ T14_ L14_ X14_ hQ14_ => ?_
  obtain ⟨rfl, N14_q, p14__0, p14__1⟩ := hQ14_
  have N14_ := Fr.app N7_ N14_q
  have K14_ := K7_.trans p14__0 (allS (Or.inl (List.mem_of_getElem? (i := 0) rfl)) all0)
  exact own_rV X14_ hx hlk hre (hC d17_36) rfl (by decide) (by decide) ⟨rfl, N14_, K14_, p14__1.E, p14__1.g0⟩
theorem e16_0 : jD25 0 (.aload_n 0, 1) ∧ jD25 1 (.getfield 23, 3) ∧ jD25 4 (.lconst 0, 1) ∧ jD25 5 (.lcmp, 1) := by decide +kernel
theorem e16_6 : jD25 6 (.ifCond .ne 13, 3) ∧ jD25 19 (.aload_n 0, 1) ∧ jD25 20 (.getfield 16, 3) ∧ jD25 23 (.iconst 0, 1) := by decide +kernel
theorem e16_24 : jD25 24 (.aaload, 1) ∧ jD25 25 (.getfield 34, 3) ∧ jD25 28 (.lreturn, 1) := by decide +kernel
theorem own_ef_rm_fi (mM : MethodId) (x0 : Addr) : entryFrame mM #[(.ref x0)] 1 = mkF mM 0 #[.val (.ref x0)] [] := by first | (simp [entryFrame, mkF, argsToLocals, Value.category]; done) | rfl
def Q_rm_fi (Z : State) (st : Addr) (pa : Addr) (pg : Addr) (kq : ClassId) (ff : Int64) (zs : Int64) (h0 : Heap) (n0 : Nat) (vV : Option Value) (hH : Heap) (lA : List Loc) : Prop := vV = some (.long ff) ∧ Fr n0 lA ∧ (hH = h0)
theorem rm_fi (lL : Launch) (Z : State) (a0 : Array Value) (hw : own_H a0 Z) (ws : List Jvm.Cond) (st : Addr) (pa : Addr) (pg : Addr) (kq : ClassId) (ff : Int64) (zs : Int64) (h0 : Heap) (n0 : Nat) (Z0 : n0 ≤ h0.size) (Fs : jF0 Z h0 st (.long zs)) (Fp : jF1 Z h0 st (.ref pa)) (Vp : Arv Z h0 pa kq (.object "com/example/portion/portion/server/OffsetSet$Page") (2 : Int32) [(.ref pg), .null] .null) (Ff : jF5 Z h0 pg (.long ff)) (hz : 1 ≤ zs.toInt) :
    own_Met lL jy25 (Jvm.Cond.code jy25 prog_38_method_5_code 1 (some .long) :: ws) jr0 #[(.ref st)] Z h0 (Q_rm_fi Z st pa pg kq ff zs h0 n0) := by
  refine own_begin (plainFor_of_name own_pn_com_example_portion_portion_server_OffsetSet) (fun mM => own_ef_rm_fi mM st) fun pP eE sS mM below meth cC s₁ hx hby hml hZ hown hnm hre hlk X0 e0 => ?_
  have hC := @Jvm.hb _ _ hby
  have N0 := Fr.nil n0
  have K0 := Keep.refl h0 ([] : List Addr)
  refine jg s₁ mM 1 #[vR st] [(.ref st)] (fun tT kK => ?_) ?_
  · refine XS.aloadN X0.here hx rfl (hC e16_0.1) rfl rfl ?_
    exact kK
  refine jf X0 hx hZ hown (jk hw 21 rfl) e0 Fs (hC e16_0.2.1) fun T1_ X1_ e1_ => ?_
  refine jg T1_ mM 6 #[vR st] [(.int (lcmpW zs (0 : Int64)))] (fun tT kK => ?_) ?_
  · refine XS.lconst X1_.here hx rfl (hC e16_0.2.2.1) ?_
    refine XS.lcmp X1_.here hx rfl (hC e16_0.2.2.2) rfl ?_
    exact kK
  have t2_ : (0 : Int64).toInt = 0 := rfl
  refine jg T1_ mM 20 #[vR st] [(.ref st)] (fun tT kK => ?_) ?_
  · refine XS.ifYes X1_.here hx rfl (pc0 := 6) (pc' := 19) rfl (hC e16_6.1) rfl ((if0 _ _).trans (feq (mt (lw_eq zs (0 : Int64)).mp ((own_nev (by omega)) : ¬ (zs = (0 : Int64))))).2) (by decide) (by decide) ?_
    refine XS.aloadN X1_.here hx rfl (hC e16_6.2.1) rfl rfl ?_
    exact kK
  refine jf X1_ hx hZ hown (jk hw 12 rfl) e1_ Fp (hC e16_6.2.2.1) fun T3_ X3_ e3_ => ?_
  refine jg T3_ mM 24 #[vR st] [(.int 0), (.ref pa)] (fun tT kK => ?_) ?_
  · refine XS.iconst X3_.here hx rfl (hC e16_6.2.2.2) ?_
    exact kK
  obtain ⟨cl4_, Ar4_, qk4_, Sz4_, Nn4_, Hh4_, Gg4_⟩ := id Vp
  have hin5_ : ¬ ((0 : Int32) < 0 ∨ cl4_.slots.size ≤ ((0 : Int32)).toNatClampNeg) := inb_of Sz4_ ⟨by decide, by decide⟩
  have hat5_ : cl4_.slots[((0 : Int32)).toNatClampNeg]? = some (.ref pg) := Hh4_.at hin5_ rfl
  refine jg T3_ mM 25 #[vR st] [(.ref pg)] (fun tT kK => ?_) ?_
  · refine X3_.aaload hx (j := (0 : Int32)) (v := (.ref pg)) (own_rw e3_ Ar4_.1) (State.isArrayOf_alike hZ.alike Ar4_.2.1) rfl Ar4_.2.2 hin5_ hat5_ (g := (mkF mM 24 #[vR st] [(.int 0), (.ref pa)])) rfl rfl (hC e16_24.1) _ ?_
    exact kK
  obtain ⟨T6_, X6_, e6_, st6_⟩ := own_getRef X3_ hx hZ hown (jk hw 104 rfl) Via.refl e3_ Ff (g := (mkF mM 25 #[vR st] [(.ref pg)])) rfl rfl (hC e16_24.2.1)
  refine own_fin st6_ ?_
  exact own_rr X6_ hx hlk hre rfl (Or.inr (Or.inl ⟨rfl, rfl, _, rfl⟩)) (hC e16_24.2.2) e6_ (by decide) (by decide) ⟨rfl, N0, rfl⟩
theorem e15_0 : jD26 0 (.aload_n 0, 1) ∧ jD26 1 (.invokevirtual 39, 3) ∧ jD26 4 (.lstore_n 1, 1) ∧ jD26 5 (.aload_n 0, 1) := by decide +kernel
theorem e15_6 : jD26 6 (.getfield 16, 3) ∧ jD26 9 (.iconst 0, 1) ∧ jD26 10 (.aaload, 1) ∧ jD26 11 (.invokevirtual 43, 3) := by decide +kernel
theorem e15_14 : jD26 14 (.aload_n 0, 1) ∧ jD26 15 (.dup, 1) ∧ jD26 16 (.getfield 23, 3) ∧ jD26 19 (.lconst 1, 1) := by decide +kernel
theorem e15_20 : jD26 20 (.lsub, 1) ∧ jD26 21 (.putfield 23, 3) ∧ jD26 24 (.aload_n 0, 1) ∧ jD26 25 (.getfield 16, 3) := by decide +kernel
theorem e15_28 : jD26 28 (.iconst 0, 1) ∧ jD26 29 (.aaload, 1) ∧ jD26 30 (.getfield 46, 3) ∧ jD26 33 (.lconst 0, 1) := by decide +kernel
theorem e15_34 : jD26 34 (.lcmp, 1) ∧ jD26 35 (.ifCond .ne 13, 3) ∧ jD26 38 (.aload_n 0, 1) ∧ jD26 39 (.iconst 0, 1) := by decide +kernel
theorem e15_40 : jD26 40 (.iconst 1, 1) ∧ jD26 41 (.getstatic 12, 3) ∧ jD26 44 (.iconst 0, 1) ∧ jD26 45 (.invokevirtual 47, 3) := by decide +kernel
theorem own_pd9 : parseMethodDescriptor "(II[Lcom/example/portion/portion/server/OffsetSet$Page;I)V" = some ⟨[.int, .int, (.array (.object "com/example/portion/portion/server/OffsetSet$Page")), .int], none⟩ := by decide +kernel
theorem e15_48 : jD26 48 (.lload_n 1, 1) ∧ jD26 49 (.lreturn, 1) := by decide +kernel
theorem own_ef_rm_RA (mM : MethodId) (x0 : Addr) : entryFrame mM #[(.ref x0)] 3 = mkF mM 0 #[.val (.ref x0), .unset, .unset] [] := by first | (simp [entryFrame, mkF, argsToLocals, Value.category]; done) | rfl
def Q_rm_RA (Z : State) (pg : Addr) (st : Addr) (pa : Addr) (np : Addr) (nb : Addr) (kq : ClassId) (kp : ClassId) (kn : ClassId) (pb : Int32) (zs : Int64) (sz : Int64) (ff : Int64) (ft : Int64) (lg : Int64) (lf : Int64) (lt : Int64) (h0 : Heap) (n0 : Nat) (vV : Option Value) (hH : Heap) (lA : List Loc) : Prop := ∃ z' : Int64, vV = some (.long ff) ∧ Fr n0 lA ∧ (Keep h0 hH [st, pg]) ∧ (z'.toInt = zs.toInt - 1) ∧ (jE0 Z hH st) ∧ (jF0 Z hH st (.long z'))
theorem rm_RA (lL : Launch) (Z : State) (a0 : Array Value) (hw : own_H a0 Z) (ws : List Jvm.Cond) (pg : Addr) (st : Addr) (pa : Addr) (np : Addr) (nb : Addr) (kq : ClassId) (kp : ClassId) (kn : ClassId) (pb : Int32) (zs : Int64) (sz : Int64) (ff : Int64) (ft : Int64) (lg : Int64) (lf : Int64) (lt : Int64) (h0 : Heap) (n0 : Nat) (Z0 : n0 ≤ h0.size) (F0 : own_bO Z h0 st zs (.ref pa) (1 : Int32) pb) (Vp : Arv Z h0 pa kq (.object "com/example/portion/portion/server/OffsetSet$Page") (2 : Int32) [(.ref pg), .null] .null) (Vn : Arv Z h0 np kp (.object "com/example/portion/portion/server/OffsetSet$Page") (0 : Int32) [] .null) (Vm : Arv Z h0 nb kn .byte (0 : Int32) [] (.int 0)) (Zp : Sta Z Z.heap "com/example/portion/portion/server/OffsetSet" "NO_PAGES" "[Lcom/example/portion/portion/server/OffsetSet$Page;" (.ref np)) (Zb : Sta Z Z.heap "com/example/portion/portion/server/OffsetSet" "NO_BYTES" "[B" (.ref nb)) (O0 : Old Z n0 h0) (G0 : own_bP Z h0 pg sz ff ft (.ref nb) (0 : Int32) (0 : Int32) (-1 : Int32) lg lf lt) (g_st : n0 ≤ st) (g_pg : n0 ≤ pg) (ne_np_pa : np ≠ pa) (hf0 : 0 ≤ ff.toInt ∧ ff.toInt < 9223372036854775807) (hs : sz.toInt = zs.toInt) (hd : (zs.toInt = 1 ∧ ft.toInt = ff.toInt + 1) ∨ (zs.toInt = 2 ∧ ft.toInt = ff.toInt + 2)) :
    own_Met lL jy26 (Jvm.Cond.code jy26 prog_38_method_6_code 3 (some .long) :: ws) jr19 #[(.ref st)] Z h0 (Q_rm_RA Z pg st pa np nb kq kp kn pb zs sz ff ft lg lf lt h0 n0) := by
  refine own_begin (plainFor_of_name own_pn_com_example_portion_portion_server_OffsetSet) (fun mM => own_ef_rm_RA mM st) fun pP eE sS mM below meth cC s₁ hx hby hml hZ hown hnm hre hlk X0 e0 => ?_
  have hC := @Jvm.hb _ _ hby
  have N0 := Fr.nil n0
  have K0 := Keep.refl h0 [st, pg]
  refine jg s₁ mM 1 #[vR st, vU, vU] [(.ref st)] (fun tT kK => ?_) ?_
  · refine XS.aloadN X0.here hx rfl (hC e15_0.1) rfl rfl ?_
    exact kK
  refine jv X0 hx hZ (y := jy25) hown (jk hw 99 rfl) (jk hw 100 rfl) (jk hw 102 rfl) (jk hw 101 rfl) (jk hw 103 rfl) (jk hw 3 rfl) (rm_fi lL Z a0 hw [] st pa pg kq ff zs h0 n0 (Nat.le_trans Z0 K0.1) F0.g0 F0.g1 Vp G0.g1 (by omega)) F0.E e0 own_pd4 [] [] (hC e15_0.2.1) rfl rfl (by rw [hml]; rfl) (by decide) 0 (Nat.le_of_eq rfl) (by decide) (by decide) (by decide : 0 + 0 ≤ _) (by decide : 0 + 0 ≤ _) fun vv1_ T1_ L1_ X1_ hQ1_ => ?_
  obtain ⟨rfl, N1_q, p1__0⟩ := hQ1_
  have N1_ := Fr.app N0 N1_q
  refine jg T1_ mM 6 #[vR st, vJ ff, vS] [(.ref st)] (fun tT kK => ?_) ?_
  · refine XS.lstoreN X1_.here hx rfl (hC e15_0.2.2.1) rfl (l' := #[vR st, vJ ff, vS]) rfl ?_
    refine XS.aloadN X1_.here hx rfl (hC e15_0.2.2.2) rfl rfl ?_
    exact kK
  refine jf X1_ hx hZ hown (jk hw 12 rfl) p1__0 F0.g1 (hC e15_6.1) fun T2_ X2_ e2_ => ?_
  refine jg T2_ mM 10 #[vR st, vJ ff, vS] [(.int 0), (.ref pa)] (fun tT kK => ?_) ?_
  · refine XS.iconst X2_.here hx rfl (hC e15_6.2.1) ?_
    exact kK
  obtain ⟨cl3_, Ar3_, qk3_, Sz3_, Nn3_, Hh3_, Gg3_⟩ := id Vp
  have hin4_ : ¬ ((0 : Int32) < 0 ∨ cl3_.slots.size ≤ ((0 : Int32)).toNatClampNeg) := inb_of Sz3_ ⟨by decide, by decide⟩
  have hat4_ : cl3_.slots[((0 : Int32)).toNatClampNeg]? = some (.ref pg) := Hh3_.at hin4_ rfl
  refine jg T2_ mM 11 #[vR st, vJ ff, vS] [(.ref pg)] (fun tT kK => ?_) ?_
  · refine X2_.aaload hx (j := (0 : Int32)) (v := (.ref pg)) (own_rw e2_ Ar3_.1) (State.isArrayOf_alike hZ.alike Ar3_.2.1) rfl Ar3_.2.2 hin4_ hat4_ (g := (mkF mM 10 #[vR st, vJ ff, vS] [(.int 0), (.ref pa)])) rfl rfl (hC e15_6.2.2.1) _ ?_
    exact kK
  refine jv X2_ hx hZ (y := jy24) hown (jk hw 105 rfl) (jk hw 106 rfl) (jk hw 108 rfl) (jk hw 107 rfl) (jk hw 109 rfl) (jk hw 56 rfl) (rm_rA lL Z a0 hw [] pg nb sz ff ft lg lf lt h0 n0 (Nat.le_trans Z0 K0.1) G0 Zb O0 (by omega) (by omega) g_pg) G0.E e2_ own_pd5 [] [] (hC e15_6.2.2.2) rfl rfl (by rw [hml]; rfl) (by decide) 0 (Nat.le_of_eq rfl) (by decide) (by decide) (by decide : 0 + 1 ≤ _) (by decide : 0 + 4 ≤ _) fun vv5_ T5_ L5_ X5_ hQ5_ => ?_
  obtain ⟨s'_5_, rfl, N5_q, p5__0, p5__1, p5__2, p5__3⟩ := hQ5_
  have N5_ := Fr.app N1_ N5_q
  have ne6_ : st ≠ pg := (Exa.ne F0.E G0.E (by decide))
  have ne7_ : pa ≠ pg := (Ne.symm (own_neV G0.E Vp (jk hw 55 rfl)))
  have ne8_ : np ≠ pg := (Ne.symm (own_neV G0.E Vn (jk hw 55 rfl)))
  have fc10_ := F0.keep p5__0 (ninS ne6_ nin0)
  have fc11_ := Vp.keep p5__0 (ninS ne7_ nin0)
  have fc12_ := Vn.keep p5__0 (ninS ne8_ nin0)
  have fc14_ := O0.keep p5__0 (allS g_pg all0)
  have K5_ := K0.trans p5__0 (allS (Or.inl (List.mem_of_getElem? (i := 1) rfl)) all0)
  refine jg T5_ mM 16 #[vR st, vJ ff, vS] [(.ref st), (.ref st)] (fun tT kK => ?_) ?_
  · refine XS.aloadN X5_.here hx rfl (hC e15_14.1) rfl rfl ?_
    refine XS.dup X5_.here hx rfl (hC e15_14.2.1) rfl rfl ?_
    exact kK
  refine jf X5_ hx hZ hown (jk hw 21 rfl) rfl fc10_.g0 (hC e15_14.2.2.1) fun T15_ X15_ e15_ => ?_
  refine jg T15_ mM 21 #[vR st, vJ ff, vS] [(.long (zs - (1 : Int64))), (.ref st)] (fun tT kK => ?_) ?_
  · refine XS.lconst X15_.here hx rfl (hC e15_14.2.2.2) ?_
    refine XS.lsub X15_.here hx rfl (hC e15_20.1) rfl ?_
    exact kK
  refine jq X15_ hx hZ hown (jk hw 21 rfl) e15_ fc10_.g0 fc10_.E (jk hw 22 rfl) (jk hw 2 rfl) (ty := .long) (by decide) rfl rfl (hC e15_20.2.1) K5_ N5_ (Or.inl (List.mem_of_getElem? (i := 0) rfl)) g_st fun T16_ h16_ X16_ e16_ W16_ Fw16_ K16_ N16_ => ?_
  have ne17_ : pa ≠ st := (Ne.symm (own_neV fc10_.E fc11_ (jk hw 2 rfl)))
  have ne18_ : np ≠ st := (Ne.symm (own_neV fc10_.E fc12_ (jk hw 2 rfl)))
  have fc20_ := fc11_.other W16_ ne17_
  have fc21_ := fc12_.other W16_ ne18_
  have fc23_ := fc14_.wr W16_ g_st
  have fc25_ := p5__3.other W16_ (Or.inl (Ne.symm ne6_))
  have Bw16_ := fc10_.s0 hw W16_
  refine jg T16_ mM 25 #[vR st, vJ ff, vS] [(.ref st)] (fun tT kK => ?_) ?_
  · refine XS.aloadN X16_.here hx rfl (hC e15_20.2.2.1) rfl rfl ?_
    exact kK
  refine jf X16_ hx hZ hown (jk hw 12 rfl) e16_ Bw16_.g1 (hC e15_20.2.2.2) fun T26_ X26_ e26_ => ?_
  refine jg T26_ mM 29 #[vR st, vJ ff, vS] [(.int 0), (.ref pa)] (fun tT kK => ?_) ?_
  · refine XS.iconst X26_.here hx rfl (hC e15_28.1) ?_
    exact kK
  obtain ⟨cl27_, Ar27_, qk27_, Sz27_, Nn27_, Hh27_, Gg27_⟩ := id fc20_
  have hin28_ : ¬ ((0 : Int32) < 0 ∨ cl27_.slots.size ≤ ((0 : Int32)).toNatClampNeg) := inb_of Sz27_ ⟨by decide, by decide⟩
  have hat28_ : cl27_.slots[((0 : Int32)).toNatClampNeg]? = some (.ref pg) := Hh27_.at hin28_ rfl
  refine jg T26_ mM 30 #[vR st, vJ ff, vS] [(.ref pg)] (fun tT kK => ?_) ?_
  · refine X26_.aaload hx (j := (0 : Int32)) (v := (.ref pg)) (own_rw e26_ Ar27_.1) (State.isArrayOf_alike hZ.alike Ar27_.2.1) rfl Ar27_.2.2 hin28_ hat28_ (g := (mkF mM 29 #[vR st, vJ ff, vS] [(.int 0), (.ref pa)])) rfl rfl (hC e15_28.2.1) _ ?_
    exact kK
  obtain ⟨T29_, X29_, e29_, st29_⟩ := own_getRef X26_ hx hZ hown (jk hw 77 rfl) Via.refl e26_ fc25_ (g := (mkF mM 30 #[vR st, vJ ff, vS] [(.ref pg)])) rfl rfl (hC e15_28.2.2.1)
  refine own_fin st29_ ?_
  refine jg T29_ mM 35 #[vR st, vJ ff, vS] [(.int (lcmpW s'_5_ (0 : Int64)))] (fun tT kK => ?_) ?_
  · refine XS.lconst X29_.here hx rfl (hC e15_28.2.2.2) ?_
    refine XS.lcmp X29_.here hx rfl (hC e15_34.1) rfl ?_
    exact kK
  by_cases hc35_30_ : s'_5_ = (0 : Int64)
  · refine jg T29_ mM 38 #[vR st, vJ ff, vS] [] (fun tT kK => ?_) ?_
    · refine XS.ifNo X29_.here hx rfl (hC e15_34.2.1) rfl ((if0 _ _).trans (teq ((lw_eq s'_5_ (0 : Int64)).mpr (hc35_30_ : s'_5_ = (0 : Int64)))).2) ?_
      exact kK
    have t31_ : (0 : Int64).toInt = 0 := rfl
    have t32_ := congrArg Int64.toInt hc35_30_
    refine jg T29_ mM 41 #[vR st, vJ ff, vS] [(.int 1), (.int 0), (.ref st)] (fun tT kK => ?_) ?_
    · refine XS.aloadN X29_.here hx rfl (hC e15_34.2.2.1) rfl rfl ?_
      refine XS.iconst X29_.here hx rfl (hC e15_34.2.2.2) ?_
      refine XS.iconst X29_.here hx rfl (hC e15_40.1) ?_
      exact kK
    obtain ⟨T33_, X33_, e33_, st33_⟩ := getS2 X29_ hx hZ hown (host := "") (Or.inl (jk hw 10 rfl)) Via.refl e29_ (own_StaKeep fc23_ Zp) (g := (mkF mM 41 #[vR st, vJ ff, vS] [(.int 1), (.int 0), (.ref st)])) rfl (hC e15_40.2.1)
    refine own_fin st33_ ?_
    refine jg T33_ mM 45 #[vR st, vJ ff, vS] [(.int 0), (.ref np), (.int 1), (.int 0), (.ref st)] (fun tT kK => ?_) ?_
    · refine XS.iconst X33_.here hx rfl (hC e15_40.2.2.1) ?_
      exact kK
    refine jw X33_ hx hZ (y := jy10) hown (jk hw 69 rfl) (jk hw 70 rfl) (own_selP (y := jy10) hZ (jk hw 2 rfl) (jk hw 71 rfl) (jk hw 70 rfl) (by decide)) (jk hw 71 rfl) (jk hw 72 rfl) (jk hw 3 rfl) (rm_rp0 lL Z a0 hw [] st pg pa np kp kq (zs - (1 : Int64)) pb h16_ n0 (Nat.le_trans Z0 K16_.1) Bw16_ fc21_ fc20_ Zp fc23_ g_st ne_np_pa) Bw16_.E e33_ own_pd9 [(.int 0), (.int 1), (.ref np), (.int 0)] [] (hC e15_40.2.2.2) rfl rfl (by rw [hml]; rfl) (by decide) 0 (Nat.le_of_eq rfl) (by decide) (by decide) (by decide : 1 + 0 ≤ _) (by decide : 4 + 0 ≤ _) fun vv34_ T34_ L34_ X34_ hQ34_ => ?_
    obtain ⟨rfl, N34_q, p34__0, p34__1⟩ := hQ34_
    have N34_ := Fr.app N16_ N34_q
    have K34_ := K16_.trans p34__0 (allS (Or.inl (List.mem_of_getElem? (i := 0) rfl)) all0)
    refine jg T34_ mM 49 #[vR st, vJ ff, vS] [(.long ff)] (fun tT kK => ?_) ?_
    · refine XS.lloadN X34_.here hx rfl (hC e15_48.1) rfl ?_
      exact kK
    have t41_ : (1 : Int64).toInt = 1 := rfl
    have t42_ := rng64 zs
    have t43_ := own_sub (x := zs) (y := (1 : Int64)) (by omega)
    exact own_rr X34_ hx hlk hre rfl (Or.inr (Or.inl ⟨rfl, rfl, _, rfl⟩)) (hC e15_48.2) rfl (by decide) (by decide) ⟨(zs - (1 : Int64)), rfl, N34_, K34_, (by omega), p34__1.E, p34__1.g0⟩
  · refine jg T29_ mM 48 #[vR st, vJ ff, vS] [] (fun tT kK => ?_) ?_
    · refine XS.ifYes X29_.here hx rfl (pc0 := 35) (pc' := 48) rfl (hC e15_34.2.1) rfl ((if0 _ _).trans (feq (mt (lw_eq s'_5_ (0 : Int64)).mp (hc35_30_ : ¬ (s'_5_ = (0 : Int64))))).2) (by decide) (by decide) ?_
      exact kK
    have t44_ : (0 : Int64).toInt = 0 := rfl
    have t45_ := own_tne hc35_30_
    refine jg T29_ mM 49 #[vR st, vJ ff, vS] [(.long ff)] (fun tT kK => ?_) ?_
    · refine XS.lloadN X29_.here hx rfl (hC e15_48.1) rfl ?_
      exact kK
    have t46_ : (1 : Int64).toInt = 1 := rfl
    have t47_ := rng64 zs
    have t48_ := own_sub (x := zs) (y := (1 : Int64)) (by omega)
    exact own_rr X29_ hx hlk hre rfl (Or.inr (Or.inl ⟨rfl, rfl, _, rfl⟩)) (hC e15_48.2) e29_ (by decide) (by decide) ⟨(zs - (1 : Int64)), rfl, N16_, K16_, (by omega), Bw16_.E, Bw16_.g0⟩
theorem own_ef_rm_RB (mM : MethodId) (x0 : Addr) : entryFrame mM #[(.ref x0)] 3 = mkF mM 0 #[.val (.ref x0), .unset, .unset] [] := by first | (simp [entryFrame, mkF, argsToLocals, Value.category]; done) | rfl
def Q_rm_RB (Z : State) (pg : Addr) (st : Addr) (pa : Addr) (np : Addr) (nb : Addr) (kq : ClassId) (kp : ClassId) (kn : ClassId) (pb : Int32) (zs : Int64) (sz : Int64) (ff : Int64) (ft : Int64) (lg : Int64) (lf : Int64) (lt : Int64) (ba : Addr) (kb : ClassId) (en : Int32) (z : Int32) (vs : List Value) (h0 : Heap) (n0 : Nat) (vV : Option Value) (hH : Heap) (lA : List Loc) : Prop := ∃ z' : Int64, vV = some (.long ff) ∧ Fr n0 lA ∧ (Keep h0 hH [st, pg]) ∧ (z'.toInt = 1) ∧ (jE0 Z hH st) ∧ (jF0 Z hH st (.long z'))
theorem rm_RB (lL : Launch) (Z : State) (a0 : Array Value) (hw : own_H a0 Z) (ws : List Jvm.Cond) (pg : Addr) (st : Addr) (pa : Addr) (np : Addr) (nb : Addr) (kq : ClassId) (kp : ClassId) (kn : ClassId) (pb : Int32) (zs : Int64) (sz : Int64) (ff : Int64) (ft : Int64) (lg : Int64) (lf : Int64) (lt : Int64) (ba : Addr) (kb : ClassId) (en : Int32) (z : Int32) (vs : List Value) (h0 : Heap) (n0 : Nat) (Z0 : n0 ≤ h0.size) (F0 : own_bO Z h0 st zs (.ref pa) (1 : Int32) pb) (Vp : Arv Z h0 pa kq (.object "com/example/portion/portion/server/OffsetSet$Page") (2 : Int32) [(.ref pg), .null] .null) (Vn : Arv Z h0 np kp (.object "com/example/portion/portion/server/OffsetSet$Page") (0 : Int32) [] .null) (Vm : Arv Z h0 nb kn .byte (0 : Int32) [] (.int 0)) (Zp : Sta Z Z.heap "com/example/portion/portion/server/OffsetSet" "NO_PAGES" "[Lcom/example/portion/portion/server/OffsetSet$Page;" (.ref np)) (Zb : Sta Z Z.heap "com/example/portion/portion/server/OffsetSet" "NO_BYTES" "[B" (.ref nb)) (O0 : Old Z n0 h0) (G0 : own_bP Z h0 pg sz ff ft (.ref ba) (0 : Int32) en (0 : Int32) lg lf lt) (Vb : Arv Z h0 ba kb .byte z vs (.int 0)) (hE : own_E vs en.toNatClampNeg lg.toInt) (hn : 0 ≤ en.toInt ∧ en.toInt ≤ z.toInt) (g_st : n0 ≤ st) (g_pg : n0 ≤ pg) (ne_np_pa : np ≠ pa) (hf0 : 0 ≤ ff.toInt ∧ ff.toInt < 9223372036854775807) (hd : ft.toInt = ff.toInt + 1) (hz : zs.toInt = 2) (hs : sz.toInt = 2) :
    own_Met lL jy26 (Jvm.Cond.code jy26 prog_38_method_6_code 3 (some .long) :: ws) jr20 #[(.ref st)] Z h0 (Q_rm_RB Z pg st pa np nb kq kp kn pb zs sz ff ft lg lf lt ba kb en z vs h0 n0) := by
  refine own_begin (plainFor_of_name own_pn_com_example_portion_portion_server_OffsetSet) (fun mM => own_ef_rm_RB mM st) fun pP eE sS mM below meth cC s₁ hx hby hml hZ hown hnm hre hlk X0 e0 => ?_
  have hC := @Jvm.hb _ _ hby
  have N0 := Fr.nil n0
  have K0 := Keep.refl h0 [st, pg]
  refine jg s₁ mM 1 #[vR st, vU, vU] [(.ref st)] (fun tT kK => ?_) ?_
  · refine XS.aloadN X0.here hx rfl (hC e15_0.1) rfl rfl ?_
    exact kK
  refine jv X0 hx hZ (y := jy25) hown (jk hw 99 rfl) (jk hw 100 rfl) (jk hw 102 rfl) (jk hw 101 rfl) (jk hw 103 rfl) (jk hw 3 rfl) (rm_fi lL Z a0 hw [] st pa pg kq ff zs h0 n0 (Nat.le_trans Z0 K0.1) F0.g0 F0.g1 Vp G0.g1 (by omega)) F0.E e0 own_pd4 [] [] (hC e15_0.2.1) rfl rfl (by rw [hml]; rfl) (by decide) 0 (Nat.le_of_eq rfl) (by decide) (by decide) (by decide : 0 + 0 ≤ _) (by decide : 0 + 0 ≤ _) fun vv1_ T1_ L1_ X1_ hQ1_ => ?_
  obtain ⟨rfl, N1_q, p1__0⟩ := hQ1_
  have N1_ := Fr.app N0 N1_q
  refine jg T1_ mM 6 #[vR st, vJ ff, vS] [(.ref st)] (fun tT kK => ?_) ?_
  · refine XS.lstoreN X1_.here hx rfl (hC e15_0.2.2.1) rfl (l' := #[vR st, vJ ff, vS]) rfl ?_
    refine XS.aloadN X1_.here hx rfl (hC e15_0.2.2.2) rfl rfl ?_
    exact kK
  refine jf X1_ hx hZ hown (jk hw 12 rfl) p1__0 F0.g1 (hC e15_6.1) fun T2_ X2_ e2_ => ?_
  refine jg T2_ mM 10 #[vR st, vJ ff, vS] [(.int 0), (.ref pa)] (fun tT kK => ?_) ?_
  · refine XS.iconst X2_.here hx rfl (hC e15_6.2.1) ?_
    exact kK
  obtain ⟨cl3_, Ar3_, qk3_, Sz3_, Nn3_, Hh3_, Gg3_⟩ := id Vp
  have hin4_ : ¬ ((0 : Int32) < 0 ∨ cl3_.slots.size ≤ ((0 : Int32)).toNatClampNeg) := inb_of Sz3_ ⟨by decide, by decide⟩
  have hat4_ : cl3_.slots[((0 : Int32)).toNatClampNeg]? = some (.ref pg) := Hh3_.at hin4_ rfl
  refine jg T2_ mM 11 #[vR st, vJ ff, vS] [(.ref pg)] (fun tT kK => ?_) ?_
  · refine X2_.aaload hx (j := (0 : Int32)) (v := (.ref pg)) (own_rw e2_ Ar3_.1) (State.isArrayOf_alike hZ.alike Ar3_.2.1) rfl Ar3_.2.2 hin4_ hat4_ (g := (mkF mM 10 #[vR st, vJ ff, vS] [(.int 0), (.ref pa)])) rfl rfl (hC e15_6.2.2.1) _ ?_
    exact kK
  refine jv X2_ hx hZ (y := jy24) hown (jk hw 105 rfl) (jk hw 106 rfl) (jk hw 108 rfl) (jk hw 107 rfl) (jk hw 109 rfl) (jk hw 56 rfl) (rm_rB lL Z a0 hw [] pg nb sz ff ft lg lf lt ba kb en z vs h0 n0 (Nat.le_trans Z0 K0.1) G0 Vb hE hn Zb O0 (by omega) (by omega) g_pg) G0.E e2_ own_pd5 [] [] (hC e15_6.2.2.2) rfl rfl (by rw [hml]; rfl) (by decide) 0 (Nat.le_of_eq rfl) (by decide) (by decide) (by decide : 0 + 1 ≤ _) (by decide : 0 + 4 ≤ _) fun vv5_ T5_ L5_ X5_ hQ5_ => ?_
  obtain ⟨rfl, N5_q, p5__0, p5__1, p5__2⟩ := hQ5_
  have N5_ := Fr.app N1_ N5_q
  have ne6_ : st ≠ pg := (Exa.ne F0.E G0.E (by decide))
  have ne7_ : pa ≠ pg := (Ne.symm (own_neV G0.E Vp (jk hw 55 rfl)))
  have fc11_ := F0.keep p5__0 (ninS ne6_ nin0)
  have fc12_ := Vp.keep p5__0 (ninS ne7_ nin0)
  have K5_ := K0.trans p5__0 (allS (Or.inl (List.mem_of_getElem? (i := 1) rfl)) all0)
  refine jg T5_ mM 16 #[vR st, vJ ff, vS] [(.ref st), (.ref st)] (fun tT kK => ?_) ?_
  · refine XS.aloadN X5_.here hx rfl (hC e15_14.1) rfl rfl ?_
    refine XS.dup X5_.here hx rfl (hC e15_14.2.1) rfl rfl ?_
    exact kK
  refine jf X5_ hx hZ hown (jk hw 21 rfl) rfl fc11_.g0 (hC e15_14.2.2.1) fun T17_ X17_ e17_ => ?_
  refine jg T17_ mM 21 #[vR st, vJ ff, vS] [(.long (zs - (1 : Int64))), (.ref st)] (fun tT kK => ?_) ?_
  · refine XS.lconst X17_.here hx rfl (hC e15_14.2.2.2) ?_
    refine XS.lsub X17_.here hx rfl (hC e15_20.1) rfl ?_
    exact kK
  refine jq X17_ hx hZ hown (jk hw 21 rfl) e17_ fc11_.g0 fc11_.E (jk hw 22 rfl) (jk hw 2 rfl) (ty := .long) (by decide) rfl rfl (hC e15_20.2.1) K5_ N5_ (Or.inl (List.mem_of_getElem? (i := 0) rfl)) g_st fun T18_ h18_ X18_ e18_ W18_ Fw18_ K18_ N18_ => ?_
  have ne19_ : pa ≠ st := (Ne.symm (own_neV fc11_.E fc12_ (jk hw 2 rfl)))
  have fc23_ := fc12_.other W18_ ne19_
  have fc29_ := p5__2.other W18_ (Or.inl (Ne.symm ne6_))
  have Bw18_ := fc11_.s0 hw W18_
  refine jg T18_ mM 25 #[vR st, vJ ff, vS] [(.ref st)] (fun tT kK => ?_) ?_
  · refine XS.aloadN X18_.here hx rfl (hC e15_20.2.2.1) rfl rfl ?_
    exact kK
  refine jf X18_ hx hZ hown (jk hw 12 rfl) e18_ Bw18_.g1 (hC e15_20.2.2.2) fun T30_ X30_ e30_ => ?_
  refine jg T30_ mM 29 #[vR st, vJ ff, vS] [(.int 0), (.ref pa)] (fun tT kK => ?_) ?_
  · refine XS.iconst X30_.here hx rfl (hC e15_28.1) ?_
    exact kK
  obtain ⟨cl31_, Ar31_, qk31_, Sz31_, Nn31_, Hh31_, Gg31_⟩ := id fc23_
  have hin32_ : ¬ ((0 : Int32) < 0 ∨ cl31_.slots.size ≤ ((0 : Int32)).toNatClampNeg) := inb_of Sz31_ ⟨by decide, by decide⟩
  have hat32_ : cl31_.slots[((0 : Int32)).toNatClampNeg]? = some (.ref pg) := Hh31_.at hin32_ rfl
  refine jg T30_ mM 30 #[vR st, vJ ff, vS] [(.ref pg)] (fun tT kK => ?_) ?_
  · refine X30_.aaload hx (j := (0 : Int32)) (v := (.ref pg)) (own_rw e30_ Ar31_.1) (State.isArrayOf_alike hZ.alike Ar31_.2.1) rfl Ar31_.2.2 hin32_ hat32_ (g := (mkF mM 29 #[vR st, vJ ff, vS] [(.int 0), (.ref pa)])) rfl rfl (hC e15_28.2.1) _ ?_
    exact kK
  obtain ⟨T33_, X33_, e33_, st33_⟩ := own_getRef X30_ hx hZ hown (jk hw 77 rfl) Via.refl e30_ fc29_ (g := (mkF mM 30 #[vR st, vJ ff, vS] [(.ref pg)])) rfl rfl (hC e15_28.2.2.1)
  refine own_fin st33_ ?_
  refine jg T33_ mM 35 #[vR st, vJ ff, vS] [(.int (lcmpW (sz - (1 : Int64)) (0 : Int64)))] (fun tT kK => ?_) ?_
  · refine XS.lconst X33_.here hx rfl (hC e15_28.2.2.2) ?_
    refine XS.lcmp X33_.here hx rfl (hC e15_34.1) rfl ?_
    exact kK
  have t34_ : (1 : Int64).toInt = 1 := rfl
  have t35_ := rng64 sz
  have t36_ := own_sub (x := sz) (y := (1 : Int64)) (by omega)
  have t37_ : (0 : Int64).toInt = 0 := rfl
  refine jg T33_ mM 49 #[vR st, vJ ff, vS] [(.long ff)] (fun tT kK => ?_) ?_
  · refine XS.ifYes X33_.here hx rfl (pc0 := 35) (pc' := 48) rfl (hC e15_34.2.1) rfl ((if0 _ _).trans (feq (mt (lw_eq (sz - (1 : Int64)) (0 : Int64)).mp ((own_nev (by omega)) : ¬ ((sz - (1 : Int64)) = (0 : Int64))))).2) (by decide) (by decide) ?_
    refine XS.lloadN X33_.here hx rfl (hC e15_48.1) rfl ?_
    exact kK
  have t38_ := rng64 zs
  have t39_ := own_sub (x := zs) (y := (1 : Int64)) (by omega)
  exact own_rr X33_ hx hlk hre rfl (Or.inr (Or.inl ⟨rfl, rfl, _, rfl⟩)) (hC e15_48.2) e33_ (by decide) (by decide) ⟨(zs - (1 : Int64)), rfl, N18_, K18_, (by omega), Bw18_.E, Bw18_.g0⟩
theorem e32_0 : jD27 0 (.new 61, 3) ∧ jD27 3 (.dup, 1) ∧ jD27 4 (.aload_n 0, 1) ∧ jD27 5 (.invokespecial 63, 3) := by decide +kernel
theorem e32_8 : jD27 8 (.astore 6, 2) ∧ jD27 10 (.iconst 1, 1) ∧ jD27 11 (.istore 7, 2) ∧ jD27 13 (.lconst 0, 1) := by decide +kernel
theorem e32_14 : jD27 14 (.lstore 8, 2) ∧ jD27 16 (.iconst (-1), 1) ∧ jD27 17 (.istore 10, 2) ∧ jD27 19 (.lconst 0, 1) := by decide +kernel
theorem e32_20 : jD27 20 (.lstore 11, 2) ∧ jD27 22 (.iconst (-1), 1) ∧ jD27 23 (.istore 13, 2) ∧ jD27 25 (.lconst 0, 1) := by decide +kernel
theorem e32_26 : jD27 26 (.lstore 14, 2) ∧ jD27 28 (.lconst 0, 1) ∧ jD27 29 (.lstore 16, 2) ∧ jD27 31 (.lconst 0, 1) := by decide +kernel
theorem e32_32 : jD27 32 (.lstore 18, 2) ∧ jD27 34 (.iload 7, 2) ∧ jD27 36 (.ifCond .eq 78, 3) ∧ jD27 39 (.aload 6, 2) := by decide +kernel
theorem e32_41 : jD27 41 (.getfield 66, 3) ∧ jD27 44 (.lload_n 1, 1) ∧ jD27 45 (.lcmp, 1) ∧ jD27 46 (.ifCond .ge 68, 3) := by decide +kernel
theorem e32_114 : jD27 114 (.iload 10, 2) ∧ jD27 116 (.ifCond .ge 10, 3) ∧ jD27 119 (.aload_n 0, 1) ∧ jD27 120 (.getfield 38, 3) := by decide +kernel
theorem e32_123 : jD27 123 (.goto 5, 3) ∧ jD27 128 (.istore 20, 2) ∧ jD27 130 (.iload 7, 2) ∧ jD27 132 (.ifCond .eq 17, 3) := by decide +kernel
theorem e32_135 : jD27 135 (.aload 6, 2) ∧ jD27 137 (.getfield 69, 3) ∧ jD27 140 (.lload_n 3, 1) ∧ jD27 141 (.lcmp, 1) := by decide +kernel
theorem e32_142 : jD27 142 (.ifCond .gt 7, 3) ∧ jD27 145 (.iconst 1, 1) ∧ jD27 146 (.goto 4, 3) ∧ jD27 150 (.istore 21, 2) := by decide +kernel
theorem e32_152 : jD27 152 (.iload 21, 2) ∧ jD27 154 (.ifCond .eq 11, 3) ∧ jD27 157 (.aload 6, 2) ∧ jD27 159 (.getfield 69, 3) := by decide +kernel
theorem e32_162 : jD27 162 (.goto 4, 3) ∧ jD27 166 (.lstore 22, 2) ∧ jD27 168 (.lload_n 3, 1) ∧ jD27 169 (.lstore 24, 2) := by decide +kernel
theorem e32_171 : jD27 171 (.lconst 0, 1) ∧ jD27 172 (.lstore 26, 2) ∧ jD27 174 (.iload 7, 2) ∧ jD27 176 (.ifCond .eq 46, 3) := by decide +kernel
theorem e32_179 : jD27 179 (.aload 6, 2) ∧ jD27 181 (.getfield 69, 3) ∧ jD27 184 (.lload_n 3, 1) ∧ jD27 185 (.lcmp, 1) := by decide +kernel
theorem e32_186 : jD27 186 (.ifCond .gt 36, 3) ∧ jD27 189 (.aload 6, 2) ∧ jD27 191 (.getfield 66, 3) ∧ jD27 194 (.lstore 24, 2) := by decide +kernel
theorem e32_196 : jD27 196 (.lload 26, 2) ∧ jD27 198 (.aload 6, 2) ∧ jD27 200 (.getfield 66, 3) ∧ jD27 203 (.aload 6, 2) := by decide +kernel
theorem e32_205 : jD27 205 (.getfield 69, 3) ∧ jD27 208 (.lsub, 1) ∧ jD27 209 (.ladd, 1) ∧ jD27 210 (.lstore 26, 2) := by decide +kernel
theorem e32_212 : jD27 212 (.aload 6, 2) ∧ jD27 214 (.invokevirtual 75, 3) ∧ jD27 217 (.istore 7, 2) ∧ jD27 219 (.goto (-45), 3) := by decide +kernel
theorem e32_222 : jD27 222 (.iload 7, 2) ∧ jD27 224 (.istore 28, 2) ∧ jD27 226 (.aload 6, 2) ∧ jD27 228 (.getfield 69, 3) := by decide +kernel
theorem e32_231 : jD27 231 (.lstore 29, 2) ∧ jD27 233 (.aload 6, 2) ∧ jD27 235 (.getfield 66, 3) ∧ jD27 238 (.lstore 31, 2) := by decide +kernel
theorem e32_240 : jD27 240 (.iload 28, 2) ∧ jD27 242 (.ifCond .eq 11, 3) ∧ jD27 253 (.aload_n 0, 1) ∧ jD27 254 (.getfield 35, 3) := by decide +kernel
theorem e32_257 : jD27 257 (.istore 33, 2) ∧ jD27 259 (.aload_n 0, 1) ∧ jD27 260 (.getfield 45, 3) ∧ jD27 263 (.lload 8, 2) := by decide +kernel
theorem e32_265 : jD27 265 (.lsub, 1) ∧ jD27 266 (.lload 26, 2) ∧ jD27 268 (.lsub, 1) ∧ jD27 269 (.iload 28, 2) := by decide +kernel
theorem e32_271 : jD27 271 (.ifCond .eq 11, 3) ∧ jD27 282 (.lconst 0, 1) ∧ jD27 283 (.lsub, 1) ∧ jD27 284 (.lstore 34, 2) := by decide +kernel
theorem e32_286 : jD27 286 (.aload_n 0, 1) ∧ jD27 287 (.getfield 13, 3) ∧ jD27 290 (.astore 36, 2) ∧ jD27 292 (.aload_n 0, 1) := by decide +kernel
theorem e32_293 : jD27 293 (.getfield 38, 3) ∧ jD27 296 (.istore 37, 2) ∧ jD27 298 (.aload_n 0, 1) ∧ jD27 299 (.getfield 35, 3) := by decide +kernel
theorem e32_302 : jD27 302 (.istore 38, 2) ∧ jD27 304 (.aload_n 0, 1) ∧ jD27 305 (.getfield 18, 3) ∧ jD27 308 (.istore 39, 2) := by decide +kernel
theorem e32_310 : jD27 310 (.aload_n 0, 1) ∧ jD27 311 (.getfield 52, 3) ∧ jD27 314 (.lstore 40, 2) ∧ jD27 316 (.aload_n 0, 1) := by decide +kernel
theorem e32_317 : jD27 317 (.getfield 26, 3) ∧ jD27 320 (.lstore 42, 2) ∧ jD27 322 (.aload_n 0, 1) ∧ jD27 323 (.getfield 32, 3) := by decide +kernel
theorem e32_326 : jD27 326 (.lstore 44, 2) ∧ jD27 328 (.aload_n 0, 1) ∧ jD27 329 (.iload 20, 2) ∧ jD27 331 (.iload 37, 2) := by decide +kernel
theorem e32_333 : jD27 333 (.isub, 1) ∧ jD27 334 (.bipush 57, 2) ∧ jD27 336 (.iadd, 1) ∧ jD27 337 (.iload 38, 2) := by decide +kernel
theorem e32_339 : jD27 339 (.iadd, 1) ∧ jD27 340 (.iload 33, 2) ∧ jD27 342 (.isub, 1) ∧ jD27 343 (.newarray .byte, 2) := by decide +kernel
theorem e32_345 : jD27 345 (.putfield 13, 3) ∧ jD27 348 (.aload 36, 2) ∧ jD27 350 (.iload 37, 2) ∧ jD27 352 (.aload_n 0, 1) := by decide +kernel
theorem e32_353 : jD27 353 (.getfield 13, 3) ∧ jD27 356 (.iconst 0, 1) ∧ jD27 357 (.iload 20, 2) ∧ jD27 359 (.iload 37, 2) := by decide +kernel
theorem e32_361 : jD27 361 (.isub, 1) ∧ jD27 362 (.invokestatic 79, 3) ∧ jD27 365 (.aload_n 0, 1) ∧ jD27 366 (.iconst 0, 1) := by decide +kernel
theorem e32_367 : jD27 367 (.putfield 38, 3) ∧ jD27 370 (.aload_n 0, 1) ∧ jD27 371 (.iload 20, 2) ∧ jD27 373 (.iload 37, 2) := by decide +kernel
theorem e32_375 : jD27 375 (.isub, 1) ∧ jD27 376 (.putfield 35, 3) ∧ jD27 379 (.aload_n 0, 1) ∧ jD27 380 (.lload 8, 2) := by decide +kernel
theorem e32_382 : jD27 382 (.putfield 45, 3) ∧ jD27 385 (.aload_n 0, 1) ∧ jD27 386 (.iload 13, 2) ∧ jD27 388 (.ifCond .ge 7, 3) := by decide +kernel
theorem e32_391 : jD27 391 (.iconst (-1), 1) ∧ jD27 392 (.goto 8, 3) ∧ jD27 400 (.putfield 18, 3) ∧ jD27 403 (.aload_n 0, 1) := by decide +kernel
theorem e32_404 : jD27 404 (.lload 14, 2) ∧ jD27 406 (.putfield 52, 3) ∧ jD27 409 (.aload_n 0, 1) ∧ jD27 410 (.lload 16, 2) := by decide +kernel
theorem e32_412 : jD27 412 (.putfield 26, 3) ∧ jD27 415 (.aload_n 0, 1) ∧ jD27 416 (.lload 18, 2) ∧ jD27 418 (.putfield 32, 3) := by decide +kernel
theorem e32_421 : jD27 421 (.iload 5, 2) ∧ jD27 423 (.ifCond .eq 22, 3) ∧ jD27 445 (.aload_n 0, 1) ∧ jD27 446 (.lload 22, 2) := by decide +kernel
theorem e32_448 : jD27 448 (.lload_n 1, 1) ∧ jD27 449 (.invokevirtual 98, 3) ∧ jD27 452 (.aload_n 0, 1) ∧ jD27 453 (.lload_n 3, 1) := by decide +kernel
theorem e32_454 : jD27 454 (.lload 24, 2) ∧ jD27 456 (.invokevirtual 98, 3) ∧ jD27 459 (.iload 28, 2) ∧ jD27 461 (.ifCond .eq 11, 3) := by decide +kernel
theorem e32_472 : jD27 472 (.iload 33, 2) ∧ jD27 474 (.iload 38, 2) ∧ jD27 476 (.if_icmp .ge 80, 3) ∧ jD27 556 (.aload_n 0, 1) := by decide +kernel
theorem e32_557 : jD27 557 (.invokevirtual 101, 3) ∧ jD27 560 (.aload_n 0, 1) ∧ jD27 561 (.getfield 45, 3) ∧ jD27 564 (.lconst 0, 1) := by decide +kernel
theorem e32_565 : jD27 565 (.lcmp, 1) ∧ jD27 566 (.ifCond .ne 7, 3) ∧ jD27 573 (.return_, 1) ∧ jD27 426 (.aload_n 0, 1) := by decide +kernel
theorem e32_427 : jD27 427 (.lload_n 1, 1) ∧ jD27 428 (.lload 22, 2) ∧ jD27 430 (.invokestatic 85, 3) := by decide +kernel
theorem own_pd10 : parseMethodDescriptor "(JJ)J" = some ⟨[.long, .long], some .long⟩ := by decide +kernel
theorem e32_433 : jD27 433 (.lload_n 3, 1) ∧ jD27 434 (.lload 24, 2) ∧ jD27 436 (.invokestatic 91, 3) ∧ jD27 439 (.invokevirtual 94, 3) := by decide +kernel
theorem d32_442 : jD27 442 (.goto 17, 3) := by decide +kernel
theorem own_ef_rm_S1 (mM : MethodId) (x0 : Addr) (x1 : Int64) (x2 : Int64) (x3 : Int32) : entryFrame mM #[(.ref x0), (.long x1), (.long x2), (.int x3)] 46 = mkF mM 0 #[.val (.ref x0), .val (.long x1), .second, .val (.long x2), .second, .val (.int x3), .unset, .unset, .unset, .unset, .unset, .unset, .unset, .unset, .unset, .unset, .unset, .unset, .unset, .unset, .unset, .unset, .unset, .unset, .unset, .unset, .unset, .unset, .unset, .unset, .unset, .unset, .unset, .unset, .unset, .unset, .unset, .unset, .unset, .unset, .unset, .unset, .unset, .unset, .unset, .unset] [] := by first | (simp [entryFrame, mkF, argsToLocals, Value.category]; done) | rfl
def Q_rm_S1 (Z : State) (a : Addr) (nb : Addr) (kn : ClassId) (sz : Int64) (ff : Int64) (ft : Int64) (lg : Int64) (lf : Int64) (lt : Int64) (f : Int64) (t : Int64) (hv : Int32) (h0 : Heap) (n0 : Nat) (vV : Option Value) (hH : Heap) (lA : List Loc) : Prop := ∃ s' : Int64, ∃ f' : Int64, ∃ t' : Int64, vV = none ∧ Fr n0 lA ∧ (Keep h0 hH [a]) ∧ ((hv.toInt = 1 ∧ s'.toInt = 2 ∧ f'.toInt = f.toInt ∧ t'.toInt = ft.toInt) ∨ (hv.toInt = 0 ∧ s'.toInt = 1 ∧ f'.toInt = ff.toInt ∧ t'.toInt = f.toInt)) ∧ (own_bP Z hH a s' f' t' (.ref nb) (0 : Int32) (0 : Int32) (-1 : Int32) (0 : Int64) (0 : Int64) (0 : Int64))
theorem rm_S1 (lL : Launch) (Z : State) (a0 : Array Value) (hw : own_H a0 Z) (ws : List Jvm.Cond) (a : Addr) (nb : Addr) (kn : ClassId) (sz : Int64) (ff : Int64) (ft : Int64) (lg : Int64) (lf : Int64) (lt : Int64) (f : Int64) (t : Int64) (hv : Int32) (h0 : Heap) (n0 : Nat) (Z0 : n0 ≤ h0.size) (F0 : own_bP Z h0 a sz ff ft (.ref nb) (0 : Int32) (0 : Int32) (-1 : Int32) lg lf lt) (Vn : Arv Z h0 nb kn .byte (0 : Int32) [] (.int 0)) (Zb : Sta Z Z.heap "com/example/portion/portion/server/OffsetSet" "NO_BYTES" "[B" (.ref nb)) (O0 : Old Z n0 h0) (hvv : (hv.toInt = 1 ∧ sz.toInt = 1 ∧ ft.toInt = ff.toInt + 1 ∧ f.toInt + 1 = ff.toInt ∧ t.toInt = ff.toInt) ∨ (hv.toInt = 0 ∧ sz.toInt = 2 ∧ ft.toInt = ff.toInt + 2 ∧ f.toInt = ff.toInt + 1 ∧ t.toInt = ff.toInt + 2)) (hf0 : 0 ≤ f.toInt) (hff : 0 ≤ ff.toInt) (g_a : n0 ≤ a) :
    own_Met lL jy27 (Jvm.Cond.code jy27 prog_39_method_8_code 46 none :: ws) jr21 #[(.ref a), (.long f), (.long t), (.int hv)] Z h0 (Q_rm_S1 Z a nb kn sz ff ft lg lf lt f t hv h0 n0) := by
  refine own_begin (plainFor_of_name own_pn_com_example_portion_portion_server_OffsetSet_Page) (fun mM => own_ef_rm_S1 mM a f t hv) fun pP eE sS mM below meth cC s₁ hx hby hml hZ hown hnm hre hlk X0 e0 => ?_
  have hC := @Jvm.hb _ _ hby
  have N0 := Fr.nil n0
  have K0 := Keep.refl h0 [a]
  let ll1 : Array Slot := #[vR a, vJ f, vS, vJ t, vS, vI hv, vU, vU, vU, vU, vU, vU, vU, vU, vU, vU, vU, vU, vU, vU, vU, vU, vU, vU, vU, vU, vU, vU, vU, vU, vU, vU, vU, vU, vU, vU, vU, vU, vU, vU, vU, vU, vU, vU, vU, vU]
  obtain ⟨T1_, h1_, X1_, e1_, E1_, A1_, D1_, -, st1_⟩ := newO X0 hx hZ hown (jk hw 114 rfl) (jk hw 115 rfl) (jk hw 116 rfl) e0 (g := (mkF mM 0 ll1 [])) rfl (hC e32_0.1) (by decide) (by decide)
  obtain ⟨b1_, g1_⟩ : ∃ z, z = h0.size := ⟨_, rfl⟩
  rw [← g1_] at A1_ D1_ st1_
  have sz_b1_ : h0.size ≤ b1_ := Nat.le_trans K0.1 (Nat.le_of_eq g1_.symm)
  have ge_b1_ : n0 ≤ b1_ := Nat.le_trans Z0 sz_b1_
  have ne2_ : a ≠ b1_ := Nat.ne_of_lt (Nat.lt_of_lt_of_le F0.lt (Nat.le_of_eq g1_.symm))
  have ne3_ : nb ≠ b1_ := Nat.ne_of_lt (Nat.lt_of_lt_of_le Vn.lt (Nat.le_of_eq g1_.symm))
  have fc4_ := F0.ext E1_
  have fc5_ := Vn.ext E1_
  have fc6_ := O0.ext E1_
  have K1_ := K0.ext E1_
  have Bn1_ : own_bR Z h1_ b1_ .null (0 : Int64) (0 : Int64) (0 : Int32) := ⟨A1_, D1_ (Or.inr (jk hw 121 rfl)) (ty := (.object "com/example/portion/portion/server/OffsetSet$Page")) (by decide), D1_ (Or.inl (jk hw 125 rfl)) (ty := .long) (by decide), D1_ (Or.inl (jk hw 128 rfl)) (ty := .long) (by decide), D1_ (Or.inl (jk hw 132 rfl)) (ty := .int) (by decide)⟩
  refine own_fin st1_ ?_
  refine jg T1_ mM 5 ll1 [(.ref a), (.ref b1_), (.ref b1_)] (fun tT kK => ?_) ?_
  · refine XS.dup X1_.here hx rfl (hC e32_0.2.1) rfl rfl ?_
    refine XS.aloadN X1_.here hx rfl (hC e32_0.2.2.1) rfl rfl ?_
    exact kK
  obtain ⟨_, _, ⟨T7_, L7_, k7_, n7_⟩, -, X7_, ⟨Lc7_, hQ7_, l7_, y7_, z7_⟩, st7_⟩ := X1_.specialBackNest hx (y := jy19) rfl hown (own_mvMN hZ (jk hw 117 rfl)) (jm hZ hw 118 rfl) (jm hZ hw 119 rfl) (by decide) (backOf (W := 1) (rm_rn lL Z a0 hw [] b1_ a ff ft h1_ n0 (Nat.le_trans Z0 K1_.1) Bn1_ fc4_.E fc4_.g1 fc4_.g2 fc4_.g4 ge_b1_) hZ (jk hw 119 rfl) (jk hw 116 rfl) (by decide) (by decide)) (g := (mkF mM 5 ll1 [(.ref a), (.ref b1_), (.ref b1_)])) rfl (by rw [hml]; rfl) (Steps.refl _) (a := b1_) (argsL := [(.ref a)]) (rest := [(.ref b1_)]) (lenOf own_pd7 rfl) rfl (by show 2 * 0 + _ ≤ _; exact Nat.le_of_eq rfl) (hC e32_0.2.2.2) (fun _ _ => ⟨rfl, e1_, (by decide : 1 + 0 ≤ _), (by decide : 4 + 0 ≤ _)⟩)
  dsimp only [Pt.U, Pt.locs, Pt.cells, Pt.slots] at X7_ l7_ y7_ z7_ st7_ hQ7_
  subst l7_ y7_ z7_
  obtain ⟨rfl, N7_q, p7__0, p7__1⟩ := hQ7_
  have N7_ := Fr.app N0 N7_q
  have fc8_ := fc4_.keep p7__0 (ninS ne2_ nin0)
  have fc9_ := fc5_.keep p7__0 (ninS ne3_ nin0)
  have fc10_ := fc6_.keep p7__0 (allS ge_b1_ all0)
  have K7_ := K1_.trans p7__0 (allS (Or.inr sz_b1_) all0)
  refine own_fin (fun tT kK => st7_.trans kK) ?_
  let ll2 : Array Slot := #[vR a, vJ f, vS, vJ t, vS, vI hv, vR b1_, vI 1, vJ 0, vS, vI (-1), vJ 0, vS, vI (-1), vJ 0, vS, vJ 0, vS, vJ 0, vS, vU, vU, vU, vU, vU, vU, vU, vU, vU, vU, vU, vU, vU, vU, vU, vU, vU, vU, vU, vU, vU, vU, vU, vU, vU, vU]
  refine jg T7_ mM 41 ll2 [(.ref b1_)] (fun tT kK => ?_) ?_
  · let ll3 : Array Slot := #[vR a, vJ f, vS, vJ t, vS, vI hv, vR b1_, vU, vU, vU, vU, vU, vU, vU, vU, vU, vU, vU, vU, vU, vU, vU, vU, vU, vU, vU, vU, vU, vU, vU, vU, vU, vU, vU, vU, vU, vU, vU, vU, vU, vU, vU, vU, vU, vU, vU]
    refine XS.astore X7_.here hx rfl (hC e32_8.1) rfl rfl (l' := ll3) rfl ?_
    refine XS.iconst X7_.here hx rfl (hC e32_8.2.1) ?_
    let ll4 : Array Slot := #[vR a, vJ f, vS, vJ t, vS, vI hv, vR b1_, vI 1, vU, vU, vU, vU, vU, vU, vU, vU, vU, vU, vU, vU, vU, vU, vU, vU, vU, vU, vU, vU, vU, vU, vU, vU, vU, vU, vU, vU, vU, vU, vU, vU, vU, vU, vU, vU, vU, vU]
    refine XS.istore X7_.here hx rfl (hC e32_8.2.2.1) rfl (l' := ll4) rfl ?_
    refine XS.lconst X7_.here hx rfl (hC e32_8.2.2.2) ?_
    let ll5 : Array Slot := #[vR a, vJ f, vS, vJ t, vS, vI hv, vR b1_, vI 1, vJ 0, vS, vU, vU, vU, vU, vU, vU, vU, vU, vU, vU, vU, vU, vU, vU, vU, vU, vU, vU, vU, vU, vU, vU, vU, vU, vU, vU, vU, vU, vU, vU, vU, vU, vU, vU, vU, vU]
    refine XS.lstore X7_.here hx rfl (hC e32_14.1) rfl (l' := ll5) rfl ?_
    refine XS.iconst X7_.here hx rfl (hC e32_14.2.1) ?_
    let ll6 : Array Slot := #[vR a, vJ f, vS, vJ t, vS, vI hv, vR b1_, vI 1, vJ 0, vS, vI (-1), vU, vU, vU, vU, vU, vU, vU, vU, vU, vU, vU, vU, vU, vU, vU, vU, vU, vU, vU, vU, vU, vU, vU, vU, vU, vU, vU, vU, vU, vU, vU, vU, vU, vU, vU]
    refine XS.istore X7_.here hx rfl (hC e32_14.2.2.1) rfl (l' := ll6) rfl ?_
    refine XS.lconst X7_.here hx rfl (hC e32_14.2.2.2) ?_
    let ll7 : Array Slot := #[vR a, vJ f, vS, vJ t, vS, vI hv, vR b1_, vI 1, vJ 0, vS, vI (-1), vJ 0, vS, vU, vU, vU, vU, vU, vU, vU, vU, vU, vU, vU, vU, vU, vU, vU, vU, vU, vU, vU, vU, vU, vU, vU, vU, vU, vU, vU, vU, vU, vU, vU, vU, vU]
    refine XS.lstore X7_.here hx rfl (hC e32_20.1) rfl (l' := ll7) rfl ?_
    refine XS.iconst X7_.here hx rfl (hC e32_20.2.1) ?_
    let ll8 : Array Slot := #[vR a, vJ f, vS, vJ t, vS, vI hv, vR b1_, vI 1, vJ 0, vS, vI (-1), vJ 0, vS, vI (-1), vU, vU, vU, vU, vU, vU, vU, vU, vU, vU, vU, vU, vU, vU, vU, vU, vU, vU, vU, vU, vU, vU, vU, vU, vU, vU, vU, vU, vU, vU, vU, vU]
    refine XS.istore X7_.here hx rfl (hC e32_20.2.2.1) rfl (l' := ll8) rfl ?_
    refine XS.lconst X7_.here hx rfl (hC e32_20.2.2.2) ?_
    let ll9 : Array Slot := #[vR a, vJ f, vS, vJ t, vS, vI hv, vR b1_, vI 1, vJ 0, vS, vI (-1), vJ 0, vS, vI (-1), vJ 0, vS, vU, vU, vU, vU, vU, vU, vU, vU, vU, vU, vU, vU, vU, vU, vU, vU, vU, vU, vU, vU, vU, vU, vU, vU, vU, vU, vU, vU, vU, vU]
    refine XS.lstore X7_.here hx rfl (hC e32_26.1) rfl (l' := ll9) rfl ?_
    refine XS.lconst X7_.here hx rfl (hC e32_26.2.1) ?_
    let ll10 : Array Slot := #[vR a, vJ f, vS, vJ t, vS, vI hv, vR b1_, vI 1, vJ 0, vS, vI (-1), vJ 0, vS, vI (-1), vJ 0, vS, vJ 0, vS, vU, vU, vU, vU, vU, vU, vU, vU, vU, vU, vU, vU, vU, vU, vU, vU, vU, vU, vU, vU, vU, vU, vU, vU, vU, vU, vU, vU]
    refine XS.lstore X7_.here hx rfl (hC e32_26.2.2.1) rfl (l' := ll10) rfl ?_
    refine XS.lconst X7_.here hx rfl (hC e32_26.2.2.2) ?_
    refine XS.lstore X7_.here hx rfl (hC e32_32.1) rfl (l' := ll2) rfl ?_
    refine XS.iload X7_.here hx rfl (hC e32_32.2.1) rfl ?_
    refine XS.ifNo X7_.here hx rfl (hC e32_32.2.2.1) rfl ((if0 _ _).trans (feq ((by decide) : ¬ ((1 : Int32) = (0 : Int32)))).1) ?_
    refine XS.aload X7_.here hx rfl (hC e32_32.2.2.2) rfl rfl ?_
    exact kK
  refine jn X7_ hx hZ hown (jk hw 210 rfl) rfl p7__1.g2 (hC e32_41.1) fun T11_ X11_ e11_ => ?_
  refine jg T11_ mM 120 ll2 [(.ref a)] (fun tT kK => ?_) ?_
  · refine XS.lloadN X11_.here hx rfl (hC e32_41.2.1) rfl ?_
    refine XS.lcmp X11_.here hx rfl (hC e32_41.2.2.1) rfl ?_
    refine XS.ifYes X11_.here hx rfl (pc0 := 46) (pc' := 114) rfl (hC e32_41.2.2.2) rfl ((if0 _ _).trans (flt (mt (lw_lt ft f).mp ((own_nl (by omega)) : ¬ (ft < f)))).2.1) (by decide) (by decide) ?_
    refine XS.iload X11_.here hx rfl (hC e32_114.1) rfl ?_
    refine XS.ifNo X11_.here hx rfl (hC e32_114.2.1) rfl ((if0 _ _).trans (tlt ((by decide) : (-1 : Int32) < (0 : Int32))).2.1) ?_
    refine XS.aloadN X11_.here hx rfl (hC e32_114.2.2.1) rfl rfl ?_
    exact kK
  refine jf X11_ hx hZ hown (jk hw 145 rfl) e11_ fc8_.g4 (hC e32_114.2.2.2) fun T12_ X12_ e12_ => ?_
  let ll11 : Array Slot := #[vR a, vJ f, vS, vJ t, vS, vI hv, vR b1_, vI 1, vJ 0, vS, vI (-1), vJ 0, vS, vI (-1), vJ 0, vS, vJ 0, vS, vJ 0, vS, vI 0, vU, vU, vU, vU, vU, vU, vU, vU, vU, vU, vU, vU, vU, vU, vU, vU, vU, vU, vU, vU, vU, vU, vU, vU, vU]
  refine jg T12_ mM 137 ll11 [(.ref b1_)] (fun tT kK => ?_) ?_
  · refine XS.goto X12_.here hx rfl (pc0 := 123) (pc' := 128) rfl (hC e32_123.1) (by decide) (by decide) ?_
    refine XS.istore X12_.here hx rfl (hC e32_123.2.1) rfl (l' := ll11) rfl ?_
    refine XS.iload X12_.here hx rfl (hC e32_123.2.2.1) rfl ?_
    refine XS.ifNo X12_.here hx rfl (hC e32_123.2.2.2) rfl ((if0 _ _).trans (feq ((by decide) : ¬ ((1 : Int32) = (0 : Int32)))).1) ?_
    refine XS.aload X12_.here hx rfl (hC e32_135.1) rfl rfl ?_
    exact kK
  refine jn X12_ hx hZ hown (jk hw 211 rfl) e12_ p7__1.g1 (hC e32_135.2.1) fun T13_ X13_ e13_ => ?_
  let ll12 : Array Slot := #[vR a, vJ f, vS, vJ t, vS, vI hv, vR b1_, vI 1, vJ 0, vS, vI (-1), vJ 0, vS, vI (-1), vJ 0, vS, vJ 0, vS, vJ 0, vS, vI 0, vI 1, vU, vU, vU, vU, vU, vU, vU, vU, vU, vU, vU, vU, vU, vU, vU, vU, vU, vU, vU, vU, vU, vU, vU, vU]
  refine jg T13_ mM 159 ll12 [(.ref b1_)] (fun tT kK => ?_) ?_
  · refine XS.lloadN X13_.here hx rfl (hC e32_135.2.2.1) rfl ?_
    refine XS.lcmp X13_.here hx rfl (hC e32_135.2.2.2) rfl ?_
    refine XS.ifNo X13_.here hx rfl (hC e32_142.1) rfl ((if0 _ _).trans (flt (mt (lw_gt ff t).mp ((own_nl (by omega)) : ¬ (t < ff)))).2.2.1) ?_
    refine XS.iconst X13_.here hx rfl (hC e32_142.2.1) ?_
    refine XS.goto X13_.here hx rfl (pc0 := 146) (pc' := 150) rfl (hC e32_142.2.2.1) (by decide) (by decide) ?_
    refine XS.istore X13_.here hx rfl (hC e32_142.2.2.2) rfl (l' := ll12) rfl ?_
    refine XS.iload X13_.here hx rfl (hC e32_152.1) rfl ?_
    show Steps pP.tables eE below (T13_.setTop (mkF mM 154 ll12 [(.int 1)])) tT
    refine XS.ifNo X13_.here hx rfl (hC e32_152.2.1) rfl ((if0 _ _).trans (feq ((by decide) : ¬ ((1 : Int32) = (0 : Int32)))).1) ?_
    refine XS.aload X13_.here hx rfl (hC e32_152.2.2.1) rfl rfl ?_
    exact kK
  refine jn X13_ hx hZ hown (jk hw 211 rfl) e13_ p7__1.g1 (hC e32_152.2.2.2) fun T14_ X14_ e14_ => ?_
  let ll13 : Array Slot := #[vR a, vJ f, vS, vJ t, vS, vI hv, vR b1_, vI 1, vJ 0, vS, vI (-1), vJ 0, vS, vI (-1), vJ 0, vS, vJ 0, vS, vJ 0, vS, vI 0, vI 1, vJ ff, vS, vJ t, vS, vJ 0, vS, vU, vU, vU, vU, vU, vU, vU, vU, vU, vU, vU, vU, vU, vU, vU, vU, vU, vU]
  refine jg T14_ mM 181 ll13 [(.ref b1_)] (fun tT kK => ?_) ?_
  · refine XS.goto X14_.here hx rfl (pc0 := 162) (pc' := 166) rfl (hC e32_162.1) (by decide) (by decide) ?_
    let ll14 : Array Slot := #[vR a, vJ f, vS, vJ t, vS, vI hv, vR b1_, vI 1, vJ 0, vS, vI (-1), vJ 0, vS, vI (-1), vJ 0, vS, vJ 0, vS, vJ 0, vS, vI 0, vI 1, vJ ff, vS, vU, vU, vU, vU, vU, vU, vU, vU, vU, vU, vU, vU, vU, vU, vU, vU, vU, vU, vU, vU, vU, vU]
    refine XS.lstore X14_.here hx rfl (hC e32_162.2.1) rfl (l' := ll14) rfl ?_
    refine XS.lloadN X14_.here hx rfl (hC e32_162.2.2.1) rfl ?_
    let ll15 : Array Slot := #[vR a, vJ f, vS, vJ t, vS, vI hv, vR b1_, vI 1, vJ 0, vS, vI (-1), vJ 0, vS, vI (-1), vJ 0, vS, vJ 0, vS, vJ 0, vS, vI 0, vI 1, vJ ff, vS, vJ t, vS, vU, vU, vU, vU, vU, vU, vU, vU, vU, vU, vU, vU, vU, vU, vU, vU, vU, vU, vU, vU]
    refine XS.lstore X14_.here hx rfl (hC e32_162.2.2.2) rfl (l' := ll15) rfl ?_
    refine XS.lconst X14_.here hx rfl (hC e32_171.1) ?_
    refine XS.lstore X14_.here hx rfl (hC e32_171.2.1) rfl (l' := ll13) rfl ?_
    refine XS.iload X14_.here hx rfl (hC e32_171.2.2.1) rfl ?_
    refine XS.ifNo X14_.here hx rfl (hC e32_171.2.2.2) rfl ((if0 _ _).trans (feq ((by decide) : ¬ ((1 : Int32) = (0 : Int32)))).1) ?_
    refine XS.aload X14_.here hx rfl (hC e32_179.1) rfl rfl ?_
    exact kK
  refine jn X14_ hx hZ hown (jk hw 211 rfl) e14_ p7__1.g1 (hC e32_179.2.1) fun T15_ X15_ e15_ => ?_
  refine jg T15_ mM 191 ll13 [(.ref b1_)] (fun tT kK => ?_) ?_
  · refine XS.lloadN X15_.here hx rfl (hC e32_179.2.2.1) rfl ?_
    refine XS.lcmp X15_.here hx rfl (hC e32_179.2.2.2) rfl ?_
    refine XS.ifNo X15_.here hx rfl (hC e32_186.1) rfl ((if0 _ _).trans (flt (mt (lw_gt ff t).mp ((own_nl (by omega)) : ¬ (t < ff)))).2.2.1) ?_
    refine XS.aload X15_.here hx rfl (hC e32_186.2.1) rfl rfl ?_
    exact kK
  refine jn X15_ hx hZ hown (jk hw 210 rfl) e15_ p7__1.g2 (hC e32_186.2.2.1) fun T16_ X16_ e16_ => ?_
  let ll16 : Array Slot := #[vR a, vJ f, vS, vJ t, vS, vI hv, vR b1_, vI 1, vJ 0, vS, vI (-1), vJ 0, vS, vI (-1), vJ 0, vS, vJ 0, vS, vJ 0, vS, vI 0, vI 1, vJ ff, vS, vJ ft, vS, vJ 0, vS, vU, vU, vU, vU, vU, vU, vU, vU, vU, vU, vU, vU, vU, vU, vU, vU, vU, vU]
  refine jg T16_ mM 200 ll16 [(.ref b1_), (.long 0)] (fun tT kK => ?_) ?_
  · refine XS.lstore X16_.here hx rfl (hC e32_186.2.2.2) rfl (l' := ll16) rfl ?_
    refine XS.lload X16_.here hx rfl (hC e32_196.1) rfl ?_
    refine XS.aload X16_.here hx rfl (hC e32_196.2.1) rfl rfl ?_
    exact kK
  refine jn X16_ hx hZ hown (jk hw 210 rfl) e16_ p7__1.g2 (hC e32_196.2.2.1) fun T17_ X17_ e17_ => ?_
  refine jg T17_ mM 205 ll16 [(.ref b1_), (.long ft), (.long 0)] (fun tT kK => ?_) ?_
  · refine XS.aload X17_.here hx rfl (hC e32_196.2.2.2) rfl rfl ?_
    exact kK
  refine jn X17_ hx hZ hown (jk hw 211 rfl) e17_ p7__1.g1 (hC e32_205.1) fun T18_ X18_ e18_ => ?_
  let ll17 : Array Slot := #[vR a, vJ f, vS, vJ t, vS, vI hv, vR b1_, vI 1, vJ 0, vS, vI (-1), vJ 0, vS, vI (-1), vJ 0, vS, vJ 0, vS, vJ 0, vS, vI 0, vI 1, vJ ff, vS, vJ ft, vS, vJ ((0 : Int64) + (ft - ff)), vS, vU, vU, vU, vU, vU, vU, vU, vU, vU, vU, vU, vU, vU, vU, vU, vU, vU, vU]
  refine jg T18_ mM 214 ll17 [(.ref b1_)] (fun tT kK => ?_) ?_
  · refine XS.lsub X18_.here hx rfl (hC e32_205.2.1) rfl ?_
    refine XS.ladd X18_.here hx rfl (hC e32_205.2.2.1) rfl ?_
    refine XS.lstore X18_.here hx rfl (hC e32_205.2.2.2) rfl (l' := ll17) rfl ?_
    refine XS.aload X18_.here hx rfl (hC e32_212.1) rfl rfl ?_
    exact kK
  refine jv X18_ hx hZ (y := jy20) hown (jk hw 133 rfl) (jk hw 134 rfl) (jk hw 136 rfl) (jk hw 135 rfl) (jk hw 137 rfl) (jk hw 116 rfl) (rm_nN lL Z a0 hw [] b1_ a ff ft (0 : Int32) T7_.heap n0 (Nat.le_trans Z0 K7_.1) p7__1 fc8_.g5) p7__1.E e18_ own_pd8 [] [] (hC e32_212.2.1) rfl rfl (by rw [hml]; rfl) (by decide) 0 (Nat.le_of_eq rfl) (by decide) (by decide) (by decide : 1 + 0 ≤ _) (by decide : 4 + 0 ≤ _) fun vv19_ T19_ L19_ X19_ hQ19_ => ?_
  obtain ⟨rfl, N19_q, p19__0⟩ := hQ19_
  have N19_ := Fr.app N7_ N19_q
  let ll18 : Array Slot := #[vR a, vJ f, vS, vJ t, vS, vI hv, vR b1_, vI 0, vJ 0, vS, vI (-1), vJ 0, vS, vI (-1), vJ 0, vS, vJ 0, vS, vJ 0, vS, vI 0, vI 1, vJ ff, vS, vJ ft, vS, vJ ((0 : Int64) + (ft - ff)), vS, vI 0, vU, vU, vU, vU, vU, vU, vU, vU, vU, vU, vU, vU, vU, vU, vU, vU, vU]
  refine jg T19_ mM 228 ll18 [(.ref b1_)] (fun tT kK => ?_) ?_
  · let ll19 : Array Slot := #[vR a, vJ f, vS, vJ t, vS, vI hv, vR b1_, vI 0, vJ 0, vS, vI (-1), vJ 0, vS, vI (-1), vJ 0, vS, vJ 0, vS, vJ 0, vS, vI 0, vI 1, vJ ff, vS, vJ ft, vS, vJ ((0 : Int64) + (ft - ff)), vS, vU, vU, vU, vU, vU, vU, vU, vU, vU, vU, vU, vU, vU, vU, vU, vU, vU, vU]
    refine XS.istore X19_.here hx rfl (hC e32_212.2.2.1) rfl (l' := ll19) rfl ?_
    refine XS.goto X19_.here hx rfl (pc0 := 219) (pc' := 174) rfl (hC e32_212.2.2.2) (by decide) (by decide) ?_
    refine XS.iload X19_.here hx rfl (hC e32_171.2.2.1) rfl ?_
    refine XS.ifYes X19_.here hx rfl (pc0 := 176) (pc' := 222) rfl (hC e32_171.2.2.2) rfl ((if0 _ _).trans (teq ((by decide) : (0 : Int32) = (0 : Int32))).1) (by decide) (by decide) ?_
    refine XS.iload X19_.here hx rfl (hC e32_222.1) rfl ?_
    refine XS.istore X19_.here hx rfl (hC e32_222.2.1) rfl (l' := ll18) rfl ?_
    refine XS.aload X19_.here hx rfl (hC e32_222.2.2.1) rfl rfl ?_
    exact kK
  refine jn X19_ hx hZ hown (jk hw 211 rfl) p19__0 p7__1.g1 (hC e32_222.2.2.2) fun T20_ X20_ e20_ => ?_
  let ll20 : Array Slot := #[vR a, vJ f, vS, vJ t, vS, vI hv, vR b1_, vI 0, vJ 0, vS, vI (-1), vJ 0, vS, vI (-1), vJ 0, vS, vJ 0, vS, vJ 0, vS, vI 0, vI 1, vJ ff, vS, vJ ft, vS, vJ ((0 : Int64) + (ft - ff)), vS, vI 0, vJ ff, vS, vU, vU, vU, vU, vU, vU, vU, vU, vU, vU, vU, vU, vU, vU, vU]
  refine jg T20_ mM 235 ll20 [(.ref b1_)] (fun tT kK => ?_) ?_
  · refine XS.lstore X20_.here hx rfl (hC e32_231.1) rfl (l' := ll20) rfl ?_
    refine XS.aload X20_.here hx rfl (hC e32_231.2.1) rfl rfl ?_
    exact kK
  refine jn X20_ hx hZ hown (jk hw 210 rfl) e20_ p7__1.g2 (hC e32_231.2.2.1) fun T21_ X21_ e21_ => ?_
  let ll21 : Array Slot := #[vR a, vJ f, vS, vJ t, vS, vI hv, vR b1_, vI 0, vJ 0, vS, vI (-1), vJ 0, vS, vI (-1), vJ 0, vS, vJ 0, vS, vJ 0, vS, vI 0, vI 1, vJ ff, vS, vJ ft, vS, vJ ((0 : Int64) + (ft - ff)), vS, vI 0, vJ ff, vS, vJ ft, vS, vU, vU, vU, vU, vU, vU, vU, vU, vU, vU, vU, vU, vU]
  refine jg T21_ mM 254 ll21 [(.ref a)] (fun tT kK => ?_) ?_
  · refine XS.lstore X21_.here hx rfl (hC e32_231.2.2.2) rfl (l' := ll21) rfl ?_
    refine XS.iload X21_.here hx rfl (hC e32_240.1) rfl ?_
    refine XS.ifYes X21_.here hx rfl (pc0 := 242) (pc' := 253) rfl (hC e32_240.2.1) rfl ((if0 _ _).trans (teq ((by decide) : (0 : Int32) = (0 : Int32))).1) (by decide) (by decide) ?_
    refine XS.aloadN X21_.here hx rfl (hC e32_240.2.2.1) rfl rfl ?_
    exact kK
  refine jf X21_ hx hZ hown (jk hw 146 rfl) e21_ fc8_.g5 (hC e32_240.2.2.2) fun T22_ X22_ e22_ => ?_
  let ll22 : Array Slot := #[vR a, vJ f, vS, vJ t, vS, vI hv, vR b1_, vI 0, vJ 0, vS, vI (-1), vJ 0, vS, vI (-1), vJ 0, vS, vJ 0, vS, vJ 0, vS, vI 0, vI 1, vJ ff, vS, vJ ft, vS, vJ ((0 : Int64) + (ft - ff)), vS, vI 0, vJ ff, vS, vJ ft, vS, vI 0, vU, vU, vU, vU, vU, vU, vU, vU, vU, vU, vU, vU]
  refine jg T22_ mM 260 ll22 [(.ref a)] (fun tT kK => ?_) ?_
  · refine XS.istore X22_.here hx rfl (hC e32_257.1) rfl (l' := ll22) rfl ?_
    refine XS.aloadN X22_.here hx rfl (hC e32_257.2.1) rfl rfl ?_
    exact kK
  refine jf X22_ hx hZ hown (jk hw 91 rfl) e22_ fc8_.g0 (hC e32_257.2.2.1) fun T23_ X23_ e23_ => ?_
  let ll23 : Array Slot := #[vR a, vJ f, vS, vJ t, vS, vI hv, vR b1_, vI 0, vJ 0, vS, vI (-1), vJ 0, vS, vI (-1), vJ 0, vS, vJ 0, vS, vJ 0, vS, vI 0, vI 1, vJ ff, vS, vJ ft, vS, vJ ((0 : Int64) + (ft - ff)), vS, vI 0, vJ ff, vS, vJ ft, vS, vI 0, vJ (((sz - (0 : Int64)) - ((0 : Int64) + (ft - ff))) - (0 : Int64)), vS, vU, vU, vU, vU, vU, vU, vU, vU, vU, vU]
  refine jg T23_ mM 287 ll23 [(.ref a)] (fun tT kK => ?_) ?_
  · refine XS.lload X23_.here hx rfl (hC e32_257.2.2.2) rfl ?_
    refine XS.lsub X23_.here hx rfl (hC e32_265.1) rfl ?_
    show Steps pP.tables eE below (T23_.setTop (mkF mM 266 ll22 [(.long (sz - (0 : Int64)))])) tT
    refine XS.lload X23_.here hx rfl (hC e32_265.2.1) rfl ?_
    refine XS.lsub X23_.here hx rfl (hC e32_265.2.2.1) rfl ?_
    refine XS.iload X23_.here hx rfl (hC e32_265.2.2.2) rfl ?_
    refine XS.ifYes X23_.here hx rfl (pc0 := 271) (pc' := 282) rfl (hC e32_271.1) rfl ((if0 _ _).trans (teq ((by decide) : (0 : Int32) = (0 : Int32))).1) (by decide) (by decide) ?_
    refine XS.lconst X23_.here hx rfl (hC e32_271.2.1) ?_
    refine XS.lsub X23_.here hx rfl (hC e32_271.2.2.1) rfl ?_
    refine XS.lstore X23_.here hx rfl (hC e32_271.2.2.2) rfl (l' := ll23) rfl ?_
    refine XS.aloadN X23_.here hx rfl (hC e32_286.1) rfl rfl ?_
    exact kK
  refine jf X23_ hx hZ hown (jk hw 63 rfl) e23_ fc8_.g3 (hC e32_286.2.1) fun T24_ X24_ e24_ => ?_
  let ll24 : Array Slot := #[vR a, vJ f, vS, vJ t, vS, vI hv, vR b1_, vI 0, vJ 0, vS, vI (-1), vJ 0, vS, vI (-1), vJ 0, vS, vJ 0, vS, vJ 0, vS, vI 0, vI 1, vJ ff, vS, vJ ft, vS, vJ ((0 : Int64) + (ft - ff)), vS, vI 0, vJ ff, vS, vJ ft, vS, vI 0, vJ (((sz - (0 : Int64)) - ((0 : Int64) + (ft - ff))) - (0 : Int64)), vS, vR nb, vU, vU, vU, vU, vU, vU, vU, vU, vU]
  refine jg T24_ mM 293 ll24 [(.ref a)] (fun tT kK => ?_) ?_
  · refine XS.astore X24_.here hx rfl (hC e32_286.2.2.1) rfl rfl (l' := ll24) rfl ?_
    refine XS.aloadN X24_.here hx rfl (hC e32_286.2.2.2) rfl rfl ?_
    exact kK
  refine jf X24_ hx hZ hown (jk hw 145 rfl) e24_ fc8_.g4 (hC e32_293.1) fun T25_ X25_ e25_ => ?_
  let ll25 : Array Slot := #[vR a, vJ f, vS, vJ t, vS, vI hv, vR b1_, vI 0, vJ 0, vS, vI (-1), vJ 0, vS, vI (-1), vJ 0, vS, vJ 0, vS, vJ 0, vS, vI 0, vI 1, vJ ff, vS, vJ ft, vS, vJ ((0 : Int64) + (ft - ff)), vS, vI 0, vJ ff, vS, vJ ft, vS, vI 0, vJ (((sz - (0 : Int64)) - ((0 : Int64) + (ft - ff))) - (0 : Int64)), vS, vR nb, vI 0, vU, vU, vU, vU, vU, vU, vU, vU]
  refine jg T25_ mM 299 ll25 [(.ref a)] (fun tT kK => ?_) ?_
  · refine XS.istore X25_.here hx rfl (hC e32_293.2.1) rfl (l' := ll25) rfl ?_
    refine XS.aloadN X25_.here hx rfl (hC e32_293.2.2.1) rfl rfl ?_
    exact kK
  refine jf X25_ hx hZ hown (jk hw 146 rfl) e25_ fc8_.g5 (hC e32_293.2.2.2) fun T26_ X26_ e26_ => ?_
  let ll26 : Array Slot := #[vR a, vJ f, vS, vJ t, vS, vI hv, vR b1_, vI 0, vJ 0, vS, vI (-1), vJ 0, vS, vI (-1), vJ 0, vS, vJ 0, vS, vJ 0, vS, vI 0, vI 1, vJ ff, vS, vJ ft, vS, vJ ((0 : Int64) + (ft - ff)), vS, vI 0, vJ ff, vS, vJ ft, vS, vI 0, vJ (((sz - (0 : Int64)) - ((0 : Int64) + (ft - ff))) - (0 : Int64)), vS, vR nb, vI 0, vI 0, vU, vU, vU, vU, vU, vU, vU]
  refine jg T26_ mM 305 ll26 [(.ref a)] (fun tT kK => ?_) ?_
  · refine XS.istore X26_.here hx rfl (hC e32_302.1) rfl (l' := ll26) rfl ?_
    refine XS.aloadN X26_.here hx rfl (hC e32_302.2.1) rfl rfl ?_
    exact kK
  refine jf X26_ hx hZ hown (jk hw 65 rfl) e26_ fc8_.g6 (hC e32_302.2.2.1) fun T27_ X27_ e27_ => ?_
  let ll27 : Array Slot := #[vR a, vJ f, vS, vJ t, vS, vI hv, vR b1_, vI 0, vJ 0, vS, vI (-1), vJ 0, vS, vI (-1), vJ 0, vS, vJ 0, vS, vJ 0, vS, vI 0, vI 1, vJ ff, vS, vJ ft, vS, vJ ((0 : Int64) + (ft - ff)), vS, vI 0, vJ ff, vS, vJ ft, vS, vI 0, vJ (((sz - (0 : Int64)) - ((0 : Int64) + (ft - ff))) - (0 : Int64)), vS, vR nb, vI 0, vI 0, vI (-1), vU, vU, vU, vU, vU, vU]
  refine jg T27_ mM 311 ll27 [(.ref a)] (fun tT kK => ?_) ?_
  · refine XS.istore X27_.here hx rfl (hC e32_302.2.2.2) rfl (l' := ll27) rfl ?_
    refine XS.aloadN X27_.here hx rfl (hC e32_310.1) rfl rfl ?_
    exact kK
  refine jf X27_ hx hZ hown (jk hw 171 rfl) e27_ fc8_.g7 (hC e32_310.2.1) fun T28_ X28_ e28_ => ?_
  let ll28 : Array Slot := #[vR a, vJ f, vS, vJ t, vS, vI hv, vR b1_, vI 0, vJ 0, vS, vI (-1), vJ 0, vS, vI (-1), vJ 0, vS, vJ 0, vS, vJ 0, vS, vI 0, vI 1, vJ ff, vS, vJ ft, vS, vJ ((0 : Int64) + (ft - ff)), vS, vI 0, vJ ff, vS, vJ ft, vS, vI 0, vJ (((sz - (0 : Int64)) - ((0 : Int64) + (ft - ff))) - (0 : Int64)), vS, vR nb, vI 0, vI 0, vI (-1), vJ lg, vS, vU, vU, vU, vU]
  refine jg T28_ mM 317 ll28 [(.ref a)] (fun tT kK => ?_) ?_
  · refine XS.lstore X28_.here hx rfl (hC e32_310.2.2.1) rfl (l' := ll28) rfl ?_
    refine XS.aloadN X28_.here hx rfl (hC e32_310.2.2.2) rfl rfl ?_
    exact kK
  refine jf X28_ hx hZ hown (jk hw 173 rfl) e28_ fc8_.g8 (hC e32_317.1) fun T29_ X29_ e29_ => ?_
  let ll29 : Array Slot := #[vR a, vJ f, vS, vJ t, vS, vI hv, vR b1_, vI 0, vJ 0, vS, vI (-1), vJ 0, vS, vI (-1), vJ 0, vS, vJ 0, vS, vJ 0, vS, vI 0, vI 1, vJ ff, vS, vJ ft, vS, vJ ((0 : Int64) + (ft - ff)), vS, vI 0, vJ ff, vS, vJ ft, vS, vI 0, vJ (((sz - (0 : Int64)) - ((0 : Int64) + (ft - ff))) - (0 : Int64)), vS, vR nb, vI 0, vI 0, vI (-1), vJ lg, vS, vJ lf, vS, vU, vU]
  refine jg T29_ mM 323 ll29 [(.ref a)] (fun tT kK => ?_) ?_
  · refine XS.lstore X29_.here hx rfl (hC e32_317.2.1) rfl (l' := ll29) rfl ?_
    refine XS.aloadN X29_.here hx rfl (hC e32_317.2.2.1) rfl rfl ?_
    exact kK
  refine jf X29_ hx hZ hown (jk hw 175 rfl) e29_ fc8_.g9 (hC e32_317.2.2.2) fun T30_ X30_ e30_ => ?_
  let ll30 : Array Slot := #[vR a, vJ f, vS, vJ t, vS, vI hv, vR b1_, vI 0, vJ 0, vS, vI (-1), vJ 0, vS, vI (-1), vJ 0, vS, vJ 0, vS, vJ 0, vS, vI 0, vI 1, vJ ff, vS, vJ ft, vS, vJ ((0 : Int64) + (ft - ff)), vS, vI 0, vJ ff, vS, vJ ft, vS, vI 0, vJ (((sz - (0 : Int64)) - ((0 : Int64) + (ft - ff))) - (0 : Int64)), vS, vR nb, vI 0, vI 0, vI (-1), vJ lg, vS, vJ lf, vS, vJ lt, vS]
  refine jg T30_ mM 343 ll30 [(.int 57), (.ref a)] (fun tT kK => ?_) ?_
  · refine XS.lstore X30_.here hx rfl (hC e32_326.1) rfl (l' := ll30) rfl ?_
    refine XS.aloadN X30_.here hx rfl (hC e32_326.2.1) rfl rfl ?_
    refine XS.iload X30_.here hx rfl (hC e32_326.2.2.1) rfl ?_
    refine XS.iload X30_.here hx rfl (hC e32_326.2.2.2) rfl ?_
    refine XS.isub X30_.here hx rfl (hC e32_333.1) rfl ?_
    refine XS.bipush X30_.here hx rfl (hC e32_333.2.1) ?_
    refine XS.iadd X30_.here hx rfl (hC e32_333.2.2.1) rfl ?_
    refine XS.iload X30_.here hx rfl (hC e32_333.2.2.2) rfl ?_
    refine XS.iadd X30_.here hx rfl (hC e32_339.1) rfl ?_
    refine XS.iload X30_.here hx rfl (hC e32_339.2.1) rfl ?_
    refine XS.isub X30_.here hx rfl (hC e32_339.2.2.1) rfl ?_
    exact kK
  obtain ⟨T31_, h31_, k31_, X31_, e31_, E31_, A31_, st31_⟩ := newP X30_ hx hZ (jk hw 169 rfl) e30_ (g := (mkF mM 343 ll30 [(.int 57), (.ref a)])) rfl (hC e32_339.2.2.2) rfl (by decide) (cap := 57) (by decide) (by decide) (by decide) (by decide)
  obtain ⟨b31_, g31_⟩ : ∃ z, z = T7_.heap.size := ⟨_, rfl⟩
  rw [← g31_] at A31_ st31_
  have ne32_ : a ≠ b31_ := Nat.ne_of_lt (Nat.lt_of_lt_of_le fc8_.lt (Nat.le_of_eq g31_.symm))
  have fc35_ := fc8_.ext E31_
  have fc36_ := fc9_.ext E31_
  have fc37_ := fc10_.ext E31_
  have K31_ := K7_.ext E31_
  have V31_ : Arv Z h31_ b31_ k31_ .byte (57 : Int32) [] (.int 0) := Arv.new A31_ (by decide)
  refine own_fin st31_ ?_
  refine jq X31_ hx hZ hown (jk hw 63 rfl) e31_ fc35_.g3 fc35_.E (jk hw 64 rfl) (jk hw 55 rfl) (ty := (.array .byte)) (by decide) rfl rfl (hC e32_345.1) K31_ N19_ (Or.inl (List.mem_of_getElem? (i := 0) rfl)) g_a fun T39_ h39_ X39_ e39_ W39_ Fw39_ K39_ N39_ => ?_
  have ne40_ : nb ≠ a := (Ne.symm (own_neV fc35_.E fc36_ (jk hw 55 rfl)))
  have fc41_ := fc36_.other W39_ ne40_
  have fc42_ := fc37_.wr W39_ g_a
  have fc44_ := V31_.other W39_ (Ne.symm ne32_)
  have Bw39_ := fc35_.s3 hw W39_
  refine jg T39_ mM 353 ll30 [(.ref a), (.int 0), (.ref nb)] (fun tT kK => ?_) ?_
  · refine XS.aload X39_.here hx rfl (hC e32_345.2.1) rfl rfl ?_
    refine XS.iload X39_.here hx rfl (hC e32_345.2.2.1) rfl ?_
    refine XS.aloadN X39_.here hx rfl (hC e32_345.2.2.2) rfl rfl ?_
    exact kK
  refine jf X39_ hx hZ hown (jk hw 63 rfl) e39_ Bw39_.g3 (hC e32_353.1) fun T45_ X45_ e45_ => ?_
  refine jg T45_ mM 362 ll30 [(.int 0), (.int 0), (.ref b31_), (.int 0), (.ref nb)] (fun tT kK => ?_) ?_
  · refine XS.iconst X45_.here hx rfl (hC e32_353.2.1) ?_
    refine XS.iload X45_.here hx rfl (hC e32_353.2.2.1) rfl ?_
    refine XS.iload X45_.here hx rfl (hC e32_353.2.2.2) rfl ?_
    refine XS.isub X45_.here hx rfl (hC e32_361.1) rfl ?_
    exact kK
  obtain ⟨T46_, X46_, e46_, st46_⟩ := own_cp0 X45_ hx hZ hown (jk hw 170 rfl) (jk hw 76 rfl) (jk hw 74 rfl) (jk hw 75 rfl) e45_ fc41_ fc44_ (Or.inl ⟨rfl, rfl⟩) (by decide) (by decide) (Nat.zero_le _) (Nat.zero_le _) (g := (mkF mM 362 ll30 [(.int 0), (.int 0), (.ref b31_), (.int 0), (.ref nb)])) rfl (by rw [hml]; rfl) rfl (hC e32_361.2.1) (by decide) (W := 0) (by show 2 * 0 + _ ≤ _; exact Nat.le_of_eq rfl) (by decide)
  refine own_fin st46_ ?_
  refine jg T46_ mM 367 ll30 [(.int 0), (.ref a)] (fun tT kK => ?_) ?_
  · refine XS.aloadN X46_.here hx rfl (hC e32_361.2.2.1) rfl rfl ?_
    refine XS.iconst X46_.here hx rfl (hC e32_361.2.2.2) ?_
    exact kK
  refine jq X46_ hx hZ hown (jk hw 145 rfl) e46_ Bw39_.g4 Bw39_.E (jk hw 130 rfl) (jk hw 55 rfl) (ty := .int) (by decide) rfl rfl (hC e32_367.1) K39_ N39_ (Or.inl (List.mem_of_getElem? (i := 0) rfl)) g_a fun T47_ h47_ X47_ e47_ W47_ Fw47_ K47_ N47_ => ?_
  have fc48_ := fc41_.other W47_ ne40_
  have fc49_ := fc42_.wr W47_ g_a
  have fc51_ := fc44_.other W47_ (Ne.symm ne32_)
  have Bw47_ := Bw39_.s4 hw W47_
  refine jg T47_ mM 376 ll30 [(.int 0), (.ref a)] (fun tT kK => ?_) ?_
  · refine XS.aloadN X47_.here hx rfl (hC e32_367.2.1) rfl rfl ?_
    refine XS.iload X47_.here hx rfl (hC e32_367.2.2.1) rfl ?_
    refine XS.iload X47_.here hx rfl (hC e32_367.2.2.2) rfl ?_
    refine XS.isub X47_.here hx rfl (hC e32_375.1) rfl ?_
    exact kK
  refine jq X47_ hx hZ hown (jk hw 146 rfl) e47_ Bw47_.g5 Bw47_.E (jk hw 139 rfl) (jk hw 55 rfl) (ty := .int) (by decide) rfl rfl (hC e32_375.2.1) K47_ N47_ (Or.inl (List.mem_of_getElem? (i := 0) rfl)) g_a fun T52_ h52_ X52_ e52_ W52_ Fw52_ K52_ N52_ => ?_
  have fc53_ := fc48_.other W52_ ne40_
  have fc54_ := fc49_.wr W52_ g_a
  have fc56_ := fc51_.other W52_ (Ne.symm ne32_)
  have Bw52_ := Bw47_.s5 hw W52_
  refine jg T52_ mM 382 ll30 [(.long 0), (.ref a)] (fun tT kK => ?_) ?_
  · refine XS.aloadN X52_.here hx rfl (hC e32_375.2.2.1) rfl rfl ?_
    refine XS.lload X52_.here hx rfl (hC e32_375.2.2.2) rfl ?_
    exact kK
  refine jq X52_ hx hZ hown (jk hw 91 rfl) e52_ Bw52_.g0 Bw52_.E (jk hw 78 rfl) (jk hw 55 rfl) (ty := .long) (by decide) rfl rfl (hC e32_382.1) K52_ N52_ (Or.inl (List.mem_of_getElem? (i := 0) rfl)) g_a fun T57_ h57_ X57_ e57_ W57_ Fw57_ K57_ N57_ => ?_
  have fc58_ := fc53_.other W57_ ne40_
  have fc59_ := fc54_.wr W57_ g_a
  have fc61_ := fc56_.other W57_ (Ne.symm ne32_)
  have Bw57_ := Bw52_.s0 hw W57_
  refine jg T57_ mM 400 ll30 [(.int (-1)), (.ref a)] (fun tT kK => ?_) ?_
  · refine XS.aloadN X57_.here hx rfl (hC e32_382.2.1) rfl rfl ?_
    refine XS.iload X57_.here hx rfl (hC e32_382.2.2.1) rfl ?_
    refine XS.ifNo X57_.here hx rfl (hC e32_382.2.2.2) rfl ((if0 _ _).trans (tlt ((by decide) : (-1 : Int32) < (0 : Int32))).2.1) ?_
    refine XS.iconst X57_.here hx rfl (hC e32_391.1) ?_
    refine XS.goto X57_.here hx rfl (pc0 := 392) (pc' := 400) rfl (hC e32_391.2.1) (by decide) (by decide) ?_
    exact kK
  refine jq X57_ hx hZ hown (jk hw 65 rfl) e57_ Bw57_.g6 Bw57_.E (jk hw 66 rfl) (jk hw 55 rfl) (ty := .int) (by decide) rfl rfl (hC e32_391.2.2.1) K57_ N57_ (Or.inl (List.mem_of_getElem? (i := 0) rfl)) g_a fun T62_ h62_ X62_ e62_ W62_ Fw62_ K62_ N62_ => ?_
  have fc63_ := fc58_.other W62_ ne40_
  have fc64_ := fc59_.wr W62_ g_a
  have fc66_ := fc61_.other W62_ (Ne.symm ne32_)
  have Bw62_ := Bw57_.s6 hw W62_
  refine jg T62_ mM 406 ll30 [(.long 0), (.ref a)] (fun tT kK => ?_) ?_
  · refine XS.aloadN X62_.here hx rfl (hC e32_391.2.2.2) rfl rfl ?_
    refine XS.lload X62_.here hx rfl (hC e32_404.1) rfl ?_
    exact kK
  refine jq X62_ hx hZ hown (jk hw 171 rfl) e62_ Bw62_.g7 Bw62_.E (jk hw 172 rfl) (jk hw 55 rfl) (ty := .long) (by decide) rfl rfl (hC e32_404.2.1) K62_ N62_ (Or.inl (List.mem_of_getElem? (i := 0) rfl)) g_a fun T67_ h67_ X67_ e67_ W67_ Fw67_ K67_ N67_ => ?_
  have fc68_ := fc63_.other W67_ ne40_
  have fc69_ := fc64_.wr W67_ g_a
  have fc71_ := fc66_.other W67_ (Ne.symm ne32_)
  have Bw67_ := Bw62_.s7 hw W67_
  refine jg T67_ mM 412 ll30 [(.long 0), (.ref a)] (fun tT kK => ?_) ?_
  · refine XS.aloadN X67_.here hx rfl (hC e32_404.2.2.1) rfl rfl ?_
    refine XS.lload X67_.here hx rfl (hC e32_404.2.2.2) rfl ?_
    exact kK
  refine jq X67_ hx hZ hown (jk hw 173 rfl) e67_ Bw67_.g8 Bw67_.E (jk hw 174 rfl) (jk hw 55 rfl) (ty := .long) (by decide) rfl rfl (hC e32_412.1) K67_ N67_ (Or.inl (List.mem_of_getElem? (i := 0) rfl)) g_a fun T72_ h72_ X72_ e72_ W72_ Fw72_ K72_ N72_ => ?_
  have fc73_ := fc68_.other W72_ ne40_
  have fc74_ := fc69_.wr W72_ g_a
  have fc76_ := fc71_.other W72_ (Ne.symm ne32_)
  have Bw72_ := Bw67_.s8 hw W72_
  refine jg T72_ mM 418 ll30 [(.long 0), (.ref a)] (fun tT kK => ?_) ?_
  · refine XS.aloadN X72_.here hx rfl (hC e32_412.2.1) rfl rfl ?_
    refine XS.lload X72_.here hx rfl (hC e32_412.2.2.1) rfl ?_
    exact kK
  refine jq X72_ hx hZ hown (jk hw 175 rfl) e72_ Bw72_.g9 Bw72_.E (jk hw 176 rfl) (jk hw 55 rfl) (ty := .long) (by decide) rfl rfl (hC e32_412.2.2.2) K72_ N72_ (Or.inl (List.mem_of_getElem? (i := 0) rfl)) g_a fun T77_ h77_ X77_ e77_ W77_ Fw77_ K77_ N77_ => ?_
  have fc78_ := fc73_.other W77_ ne40_
  have fc79_ := fc74_.wr W77_ g_a
  have fc81_ := fc76_.other W77_ (Ne.symm ne32_)
  have Bw77_ := Bw72_.s9 hw W77_
  refine jg T77_ mM 423 ll30 [(.int hv)] (fun tT kK => ?_) ?_
  · refine XS.iload X77_.here hx rfl (hC e32_421.1) rfl ?_
    exact kK
  by_cases hc423_82_ : hv = (0 : Int32)
  · refine jg T77_ mM 445 ll30 [] (fun tT kK => ?_) ?_
    · refine XS.ifYes X77_.here hx rfl (pc0 := 423) (pc' := 445) rfl (hC e32_421.2.1) rfl ((if0 _ _).trans (teq (hc423_82_ : hv = (0 : Int32))).1) (by decide) (by decide) ?_
      exact kK
    have t83_ : (0 : Int32).toInt = 0 := rfl
    have t84_ := congrArg Int32.toInt hc423_82_
    refine jg T77_ mM 449 ll30 [(.long f), (.long ff), (.ref a)] (fun tT kK => ?_) ?_
    · refine XS.aloadN X77_.here hx rfl (hC e32_421.2.2.1) rfl rfl ?_
      refine XS.lload X77_.here hx rfl (hC e32_421.2.2.2) rfl ?_
      refine XS.lloadN X77_.here hx rfl (hC e32_448.1) rfl ?_
      exact kK
    refine jw X77_ hx hZ (y := jy17) hown (jk hw 252 rfl) (jk hw 253 rfl) (own_selP (y := jy17) hZ (jk hw 55 rfl) (jk hw 254 rfl) (jk hw 253 rfl) (by decide)) (jk hw 254 rfl) (jk hw 255 rfl) (jk hw 56 rfl) (rm_eia1 lL Z a0 hw [] a b31_ ff ft (0 : Int64) (0 : Int64) (0 : Int64) ff f h77_ n0 (Nat.le_trans Z0 K77_.1) Bw77_ g_a (by omega)) Bw77_.E e77_ own_pd6 [(.long ff), (.long f)] [] (hC e32_448.2.1) rfl rfl (by rw [hml]; rfl) (by decide) 0 (Nat.le_of_eq rfl) (by decide) (by decide) (by decide : 2 + 0 ≤ _) (by decide : 61 + 0 ≤ _) fun vv85_ T85_ L85_ X85_ hQ85_ => ?_
    obtain ⟨rfl, N85_q, p85__0, p85__1⟩ := hQ85_
    have N85_ := Fr.app N77_ N85_q
    have fc86_ := fc78_.keep p85__0 (ninS ne40_ nin0)
    have fc87_ := fc79_.keep p85__0 (allS g_a all0)
    have fc89_ := fc81_.keep p85__0 (ninS (Ne.symm ne32_) nin0)
    have K85_ := K77_.trans p85__0 (allS (Or.inl (List.mem_of_getElem? (i := 0) rfl)) all0)
    refine jg T85_ mM 456 ll30 [(.long ft), (.long t), (.ref a)] (fun tT kK => ?_) ?_
    · refine XS.aloadN X85_.here hx rfl (hC e32_448.2.2.1) rfl rfl ?_
      refine XS.lloadN X85_.here hx rfl (hC e32_448.2.2.2) rfl ?_
      refine XS.lload X85_.here hx rfl (hC e32_454.1) rfl ?_
      exact kK
    refine jw X85_ hx hZ (y := jy17) hown (jk hw 252 rfl) (jk hw 253 rfl) (own_selP (y := jy17) hZ (jk hw 55 rfl) (jk hw 254 rfl) (jk hw 253 rfl) (by decide)) (jk hw 254 rfl) (jk hw 255 rfl) (jk hw 56 rfl) (rm_eia0 lL Z a0 hw [] a t ft T85_.heap n0 (Nat.le_trans Z0 K85_.1) (by omega)) p85__1.E rfl own_pd6 [(.long t), (.long ft)] [] (hC e32_454.2.1) rfl rfl (by rw [hml]; rfl) (by decide) 0 (Nat.le_of_eq rfl) (by decide) (by decide) (by decide : 2 + 0 ≤ _) (by decide : 61 + 0 ≤ _) fun vv90_ T90_ L90_ X90_ hQ90_ => ?_
    obtain ⟨rfl, N90_q, p90__0⟩ := hQ90_
    have N90_ := Fr.app N85_ N90_q
    refine jg T90_ mM 557 ll30 [(.ref a)] (fun tT kK => ?_) ?_
    · refine XS.iload X90_.here hx rfl (hC e32_454.2.2.1) rfl ?_
      refine XS.ifYes X90_.here hx rfl (pc0 := 461) (pc' := 472) rfl (hC e32_454.2.2.2) rfl ((if0 _ _).trans (teq ((by decide) : (0 : Int32) = (0 : Int32))).1) (by decide) (by decide) ?_
      refine XS.iload X90_.here hx rfl (hC e32_472.1) rfl ?_
      refine XS.iload X90_.here hx rfl (hC e32_472.2.1) rfl ?_
      refine XS.icmpYes X90_.here hx rfl (pc0 := 476) (pc' := 556) rfl (hC e32_472.2.2.1) rfl (flt ((by decide) : ¬ ((0 : Int32) < (0 : Int32)))).2.1 (by decide) (by decide) ?_
      refine XS.aloadN X90_.here hx rfl (hC e32_472.2.2.2) rfl rfl ?_
      exact kK
    refine jv X90_ hx hZ (y := jy18) hown (jk hw 220 rfl) (jk hw 221 rfl) (jk hw 223 rfl) (jk hw 222 rfl) (jk hw 224 rfl) (jk hw 56 rfl) (rm_tr0 lL Z a0 hw [] a b31_ nb k31_ kn (f - ff) ff f (0 : Int64) (0 : Int64) (0 : Int64) T85_.heap n0 (Nat.le_trans Z0 K85_.1) p85__1 fc89_ fc86_ Zb fc87_ g_a) p85__1.E p90__0 own_pd5 [] [] (hC e32_557.1) rfl rfl (by rw [hml]; rfl) (by decide) 0 (Nat.le_of_eq rfl) (by decide) (by decide) (by decide : 2 + 0 ≤ _) (by decide : 61 + 0 ≤ _) fun vv91_ T91_ L91_ X91_ hQ91_ => ?_
    obtain ⟨rfl, N91_q, p91__0, p91__1⟩ := hQ91_
    have N91_ := Fr.app N90_ N91_q
    have K91_ := K85_.trans p91__0 (allS (Or.inl (List.mem_of_getElem? (i := 0) rfl)) all0)
    refine jg T91_ mM 561 ll30 [(.ref a)] (fun tT kK => ?_) ?_
    · refine XS.aloadN X91_.here hx rfl (hC e32_557.2.1) rfl rfl ?_
      exact kK
    refine jf X91_ hx hZ hown (jk hw 91 rfl) rfl p91__1.g0 (hC e32_557.2.2.1) fun T96_ X96_ e96_ => ?_
    refine jg T96_ mM 566 ll30 [(.int (lcmpW (f - ff) (0 : Int64)))] (fun tT kK => ?_) ?_
    · refine XS.lconst X96_.here hx rfl (hC e32_557.2.2.2) ?_
      refine XS.lcmp X96_.here hx rfl (hC e32_565.1) rfl ?_
      exact kK
    have t97_ := rng64 f
    have t98_ := rng64 ff
    have t99_ := own_sub (x := f) (y := ff) (by omega)
    have t100_ : (0 : Int64).toInt = 0 := rfl
    refine jg T96_ mM 573 ll30 [] (fun tT kK => ?_) ?_
    · refine XS.ifYes X96_.here hx rfl (pc0 := 566) (pc' := 573) rfl (hC e32_565.2.1) rfl ((if0 _ _).trans (feq (mt (lw_eq (f - ff) (0 : Int64)).mp ((own_nev (by omega)) : ¬ ((f - ff) = (0 : Int64))))).2) (by decide) (by decide) ?_
      exact kK
    exact own_rV X96_ hx hlk hre (hC e32_565.2.2.1) e96_ (by decide) (by decide) ⟨(f - ff), ff, f, rfl, N91_, K91_, (by omega), p91__1⟩
  · refine jg T77_ mM 426 ll30 [] (fun tT kK => ?_) ?_
    · refine XS.ifNo X77_.here hx rfl (hC e32_421.2.1) rfl ((if0 _ _).trans (feq (hc423_82_ : ¬ (hv = (0 : Int32)))).1) ?_
      exact kK
    have t101_ : (0 : Int32).toInt = 0 := rfl
    have t102_ := own_tne3 hc423_82_
    refine jg T77_ mM 430 ll30 [(.long ff), (.long f), (.ref a)] (fun tT kK => ?_) ?_
    · refine XS.aloadN X77_.here hx rfl (hC e32_565.2.2.2) rfl rfl ?_
      refine XS.lloadN X77_.here hx rfl (hC e32_427.1) rfl ?_
      refine XS.lload X77_.here hx rfl (hC e32_427.2.1) rfl ?_
      exact kK
    refine jc X77_ hx hZ (y := jy2) hown (jk hw 213 rfl) (jk hw 214 rfl) (jk hw 44 rfl) (jk hw 215 rfl) (rm_mnl lL Z a0 hw [] f ff h77_ n0 (Nat.le_trans Z0 K77_.1) (by omega)) e77_ own_pd10 [(.long f), (.long ff)] [(.ref a)] (hC e32_427.2.2) rfl rfl (by rw [hml]; rfl) (by decide) 1 (Nat.le_of_eq rfl) (by decide) (by decide) (by decide : 2 + 0 ≤ _) (by decide : 61 + 0 ≤ _) fun vv103_ T103_ L103_ X103_ hQ103_ => ?_
    obtain ⟨rfl, N103_q, p103__0⟩ := hQ103_
    have N103_ := Fr.app N77_ N103_q
    refine jg T103_ mM 436 ll30 [(.long ft), (.long t), (.long f), (.ref a)] (fun tT kK => ?_) ?_
    · refine XS.lloadN X103_.here hx rfl (hC e32_433.1) rfl ?_
      refine XS.lload X103_.here hx rfl (hC e32_433.2.1) rfl ?_
      exact kK
    refine jc X103_ hx hZ (y := jy3) hown (jk hw 216 rfl) (jk hw 217 rfl) (jk hw 44 rfl) (jk hw 218 rfl) (rm_mxg lL Z a0 hw [] t ft h77_ n0 (Nat.le_trans Z0 K77_.1) (by omega)) p103__0 own_pd10 [(.long t), (.long ft)] [(.long f), (.ref a)] (hC e32_433.2.2.1) rfl rfl (by rw [hml]; rfl) (by decide) 3 (Nat.le_of_eq rfl) (by decide) (by decide) (by decide : 2 + 0 ≤ _) (by decide : 61 + 0 ≤ _) fun vv104_ T104_ L104_ X104_ hQ104_ => ?_
    obtain ⟨rfl, N104_q, p104__0⟩ := hQ104_
    have N104_ := Fr.app N103_ N104_q
    refine jv X104_ hx hZ (y := jy16) hown (jk hw 219 rfl) (jk hw 80 rfl) (jk hw 82 rfl) (jk hw 81 rfl) (jk hw 83 rfl) (jk hw 56 rfl) (rm_ex0 lL Z a0 hw [] a b31_ ff ft (0 : Int64) (0 : Int64) (0 : Int64) f ft h77_ n0 (Nat.le_trans Z0 K77_.1) Bw77_ g_a) Bw77_.E p104__0 own_pd6 [(.long f), (.long ft)] [] (hC e32_433.2.2.2) rfl rfl (by rw [hml]; rfl) (by decide) 0 (Nat.le_of_eq rfl) (by decide) (by decide) (by decide : 2 + 0 ≤ _) (by decide : 61 + 0 ≤ _) fun vv105_ T105_ L105_ X105_ hQ105_ => ?_
    obtain ⟨rfl, N105_q, p105__0, p105__1⟩ := hQ105_
    have N105_ := Fr.app N104_ N105_q
    have fc106_ := fc78_.keep p105__0 (ninS ne40_ nin0)
    have fc107_ := fc79_.keep p105__0 (allS g_a all0)
    have fc109_ := fc81_.keep p105__0 (ninS (Ne.symm ne32_) nin0)
    have K105_ := K77_.trans p105__0 (allS (Or.inl (List.mem_of_getElem? (i := 0) rfl)) all0)
    refine jg T105_ mM 557 ll30 [(.ref a)] (fun tT kK => ?_) ?_
    · refine XS.goto X105_.here hx rfl (pc0 := 442) (pc' := 459) rfl (hC d32_442) (by decide) (by decide) ?_
      refine XS.iload X105_.here hx rfl (hC e32_454.2.2.1) rfl ?_
      refine XS.ifYes X105_.here hx rfl (pc0 := 461) (pc' := 472) rfl (hC e32_454.2.2.2) rfl ((if0 _ _).trans (teq ((by decide) : (0 : Int32) = (0 : Int32))).1) (by decide) (by decide) ?_
      refine XS.iload X105_.here hx rfl (hC e32_472.1) rfl ?_
      refine XS.iload X105_.here hx rfl (hC e32_472.2.1) rfl ?_
      refine XS.icmpYes X105_.here hx rfl (pc0 := 476) (pc' := 556) rfl (hC e32_472.2.2.1) rfl (flt ((by decide) : ¬ ((0 : Int32) < (0 : Int32)))).2.1 (by decide) (by decide) ?_
      refine XS.aloadN X105_.here hx rfl (hC e32_472.2.2.2) rfl rfl ?_
      exact kK
    refine jv X105_ hx hZ (y := jy18) hown (jk hw 220 rfl) (jk hw 221 rfl) (jk hw 223 rfl) (jk hw 222 rfl) (jk hw 224 rfl) (jk hw 56 rfl) (rm_tr0 lL Z a0 hw [] a b31_ nb k31_ kn (ft - f) f ft (0 : Int64) (0 : Int64) (0 : Int64) T105_.heap n0 (Nat.le_trans Z0 K105_.1) p105__1 fc109_ fc106_ Zb fc107_ g_a) p105__1.E rfl own_pd5 [] [] (hC e32_557.1) rfl rfl (by rw [hml]; rfl) (by decide) 0 (Nat.le_of_eq rfl) (by decide) (by decide) (by decide : 2 + 0 ≤ _) (by decide : 61 + 0 ≤ _) fun vv110_ T110_ L110_ X110_ hQ110_ => ?_
    obtain ⟨rfl, N110_q, p110__0, p110__1⟩ := hQ110_
    have N110_ := Fr.app N105_ N110_q
    have K110_ := K105_.trans p110__0 (allS (Or.inl (List.mem_of_getElem? (i := 0) rfl)) all0)
    refine jg T110_ mM 561 ll30 [(.ref a)] (fun tT kK => ?_) ?_
    · refine XS.aloadN X110_.here hx rfl (hC e32_557.2.1) rfl rfl ?_
      exact kK
    refine jf X110_ hx hZ hown (jk hw 91 rfl) rfl p110__1.g0 (hC e32_557.2.2.1) fun T115_ X115_ e115_ => ?_
    refine jg T115_ mM 566 ll30 [(.int (lcmpW (ft - f) (0 : Int64)))] (fun tT kK => ?_) ?_
    · refine XS.lconst X115_.here hx rfl (hC e32_557.2.2.2) ?_
      refine XS.lcmp X115_.here hx rfl (hC e32_565.1) rfl ?_
      exact kK
    have t116_ := rng64 ft
    have t117_ := rng64 f
    have t118_ := own_sub (x := ft) (y := f) (by omega)
    have t119_ : (0 : Int64).toInt = 0 := rfl
    refine jg T115_ mM 573 ll30 [] (fun tT kK => ?_) ?_
    · refine XS.ifYes X115_.here hx rfl (pc0 := 566) (pc' := 573) rfl (hC e32_565.2.1) rfl ((if0 _ _).trans (feq (mt (lw_eq (ft - f) (0 : Int64)).mp ((own_nev (by omega)) : ¬ ((ft - f) = (0 : Int64))))).2) (by decide) (by decide) ?_
      exact kK
    exact own_rV X115_ hx hlk hre (hC e32_565.2.2.1) e115_ (by decide) (by decide) ⟨(ft - f), f, ft, rfl, N110_, K110_, (by omega), p110__1⟩
theorem e32_149 : jD27 149 (.iconst 0, 1) ∧ jD27 165 (.lload_n 1, 1) ∧ jD27 245 (.aload 6, 2) ∧ jD27 247 (.getfield 72, 3) := by decide +kernel
theorem e32_250 : jD27 250 (.goto 7, 3) ∧ jD27 274 (.lload 31, 2) ∧ jD27 276 (.lload 29, 2) ∧ jD27 278 (.lsub, 1) := by decide +kernel
theorem e32_279 : jD27 279 (.goto 4, 3) ∧ jD27 464 (.aload_n 0, 1) ∧ jD27 465 (.lload 29, 2) ∧ jD27 467 (.lload 31, 2) := by decide +kernel
theorem d32_469 : jD27 469 (.invokevirtual 94, 3) := by decide +kernel
theorem own_ef_rm_S2 (mM : MethodId) (x0 : Addr) (x1 : Int64) (x2 : Int64) (x3 : Int32) : entryFrame mM #[(.ref x0), (.long x1), (.long x2), (.int x3)] 46 = mkF mM 0 #[.val (.ref x0), .val (.long x1), .second, .val (.long x2), .second, .val (.int x3), .unset, .unset, .unset, .unset, .unset, .unset, .unset, .unset, .unset, .unset, .unset, .unset, .unset, .unset, .unset, .unset, .unset, .unset, .unset, .unset, .unset, .unset, .unset, .unset, .unset, .unset, .unset, .unset, .unset, .unset, .unset, .unset, .unset, .unset, .unset, .unset, .unset, .unset, .unset, .unset] [] := by first | (simp [entryFrame, mkF, argsToLocals, Value.category]; done) | rfl
def Q_rm_S2 (Z : State) (a : Addr) (nb : Addr) (kn : ClassId) (sz : Int64) (ff : Int64) (ft : Int64) (lg : Int64) (lf : Int64) (lt : Int64) (f : Int64) (t : Int64) (h0 : Heap) (n0 : Nat) (vV : Option Value) (hH : Heap) (lA : List Loc) : Prop := ∃ ba : Addr, ∃ kb : ClassId, ∃ en : Int32, ∃ z : Int32, ∃ vs : List Value, vV = none ∧ Fr n0 lA ∧ (Keep h0 hH [a]) ∧ (h0.size ≤ ba) ∧ (own_E vs en.toNatClampNeg (ff - t).toInt) ∧ (1 ≤ en.toInt ∧ en.toInt ≤ 19 ∧ en.toInt ≤ z.toInt) ∧ (own_bP Z hH a ((t - f) + (ft - ff)) f t (.ref ba) (0 : Int32) en (0 : Int32) (ff - t) ff ft) ∧ (Arv Z hH ba kb .byte z vs (.int 0))
theorem rm_S2 (lL : Launch) (Z : State) (a0 : Array Value) (hw : own_H a0 Z) (ws : List Jvm.Cond) (a : Addr) (nb : Addr) (kn : ClassId) (sz : Int64) (ff : Int64) (ft : Int64) (lg : Int64) (lf : Int64) (lt : Int64) (f : Int64) (t : Int64) (h0 : Heap) (n0 : Nat) (Z0 : n0 ≤ h0.size) (F0 : own_bP Z h0 a sz ff ft (.ref nb) (0 : Int32) (0 : Int32) (-1 : Int32) lg lf lt) (Vn : Arv Z h0 nb kn .byte (0 : Int32) [] (.int 0)) (Zb : Sta Z Z.heap "com/example/portion/portion/server/OffsetSet" "NO_BYTES" "[B" (.ref nb)) (O0 : Old Z n0 h0) (hf0 : 0 ≤ f.toInt) (hd : ft.toInt = ff.toInt + 1) (hs : sz.toInt = 1) (h1 : t.toInt = f.toInt + 1) (h2 : t.toInt < ff.toInt) (h3 : ft.toInt = ff.toInt + 1) (g_a : n0 ≤ a) :
    own_Met lL jy27 (Jvm.Cond.code jy27 prog_39_method_8_code 46 none :: ws) jr22 #[(.ref a), (.long f), (.long t), (.int 1)] Z h0 (Q_rm_S2 Z a nb kn sz ff ft lg lf lt f t h0 n0) := by
  refine own_begin (plainFor_of_name own_pn_com_example_portion_portion_server_OffsetSet_Page) (fun mM => own_ef_rm_S2 mM a f t (1 : Int32)) fun pP eE sS mM below meth cC s₁ hx hby hml hZ hown hnm hre hlk X0 e0 => ?_
  have hC := @Jvm.hb _ _ hby
  have N0 := Fr.nil n0
  have K0 := Keep.refl h0 [a]
  let ll1 : Array Slot := #[vR a, vJ f, vS, vJ t, vS, vI 1, vU, vU, vU, vU, vU, vU, vU, vU, vU, vU, vU, vU, vU, vU, vU, vU, vU, vU, vU, vU, vU, vU, vU, vU, vU, vU, vU, vU, vU, vU, vU, vU, vU, vU, vU, vU, vU, vU, vU, vU]
  obtain ⟨T1_, h1_, X1_, e1_, E1_, A1_, D1_, -, st1_⟩ := newO X0 hx hZ hown (jk hw 114 rfl) (jk hw 115 rfl) (jk hw 116 rfl) e0 (g := (mkF mM 0 ll1 [])) rfl (hC e32_0.1) (by decide) (by decide)
  obtain ⟨b1_, g1_⟩ : ∃ z, z = h0.size := ⟨_, rfl⟩
  rw [← g1_] at A1_ D1_ st1_
  have sz_b1_ : h0.size ≤ b1_ := Nat.le_trans K0.1 (Nat.le_of_eq g1_.symm)
  have ge_b1_ : n0 ≤ b1_ := Nat.le_trans Z0 sz_b1_
  have ne2_ : a ≠ b1_ := Nat.ne_of_lt (Nat.lt_of_lt_of_le F0.lt (Nat.le_of_eq g1_.symm))
  have ne3_ : nb ≠ b1_ := Nat.ne_of_lt (Nat.lt_of_lt_of_le Vn.lt (Nat.le_of_eq g1_.symm))
  have fc4_ := F0.ext E1_
  have fc5_ := Vn.ext E1_
  have K1_ := K0.ext E1_
  have Bn1_ : own_bR Z h1_ b1_ .null (0 : Int64) (0 : Int64) (0 : Int32) := ⟨A1_, D1_ (Or.inr (jk hw 121 rfl)) (ty := (.object "com/example/portion/portion/server/OffsetSet$Page")) (by decide), D1_ (Or.inl (jk hw 125 rfl)) (ty := .long) (by decide), D1_ (Or.inl (jk hw 128 rfl)) (ty := .long) (by decide), D1_ (Or.inl (jk hw 132 rfl)) (ty := .int) (by decide)⟩
  refine own_fin st1_ ?_
  refine jg T1_ mM 5 ll1 [(.ref a), (.ref b1_), (.ref b1_)] (fun tT kK => ?_) ?_
  · refine XS.dup X1_.here hx rfl (hC e32_0.2.1) rfl rfl ?_
    refine XS.aloadN X1_.here hx rfl (hC e32_0.2.2.1) rfl rfl ?_
    exact kK
  obtain ⟨_, _, ⟨T7_, L7_, k7_, n7_⟩, -, X7_, ⟨Lc7_, hQ7_, l7_, y7_, z7_⟩, st7_⟩ := X1_.specialBackNest hx (y := jy19) rfl hown (own_mvMN hZ (jk hw 117 rfl)) (jm hZ hw 118 rfl) (jm hZ hw 119 rfl) (by decide) (backOf (W := 1) (rm_rn lL Z a0 hw [] b1_ a ff ft h1_ n0 (Nat.le_trans Z0 K1_.1) Bn1_ fc4_.E fc4_.g1 fc4_.g2 fc4_.g4 ge_b1_) hZ (jk hw 119 rfl) (jk hw 116 rfl) (by decide) (by decide)) (g := (mkF mM 5 ll1 [(.ref a), (.ref b1_), (.ref b1_)])) rfl (by rw [hml]; rfl) (Steps.refl _) (a := b1_) (argsL := [(.ref a)]) (rest := [(.ref b1_)]) (lenOf own_pd7 rfl) rfl (by show 2 * 0 + _ ≤ _; exact Nat.le_of_eq rfl) (hC e32_0.2.2.2) (fun _ _ => ⟨rfl, e1_, (by decide : 1 + 0 ≤ _), (by decide : 4 + 0 ≤ _)⟩)
  dsimp only [Pt.U, Pt.locs, Pt.cells, Pt.slots] at X7_ l7_ y7_ z7_ st7_ hQ7_
  subst l7_ y7_ z7_
  obtain ⟨rfl, N7_q, p7__0, p7__1⟩ := hQ7_
  have N7_ := Fr.app N0 N7_q
  have fc8_ := fc4_.keep p7__0 (ninS ne2_ nin0)
  have fc9_ := fc5_.keep p7__0 (ninS ne3_ nin0)
  have K7_ := K1_.trans p7__0 (allS (Or.inr sz_b1_) all0)
  refine own_fin (fun tT kK => st7_.trans kK) ?_
  let ll2 : Array Slot := #[vR a, vJ f, vS, vJ t, vS, vI 1, vR b1_, vI 1, vJ 0, vS, vI (-1), vJ 0, vS, vI (-1), vJ 0, vS, vJ 0, vS, vJ 0, vS, vU, vU, vU, vU, vU, vU, vU, vU, vU, vU, vU, vU, vU, vU, vU, vU, vU, vU, vU, vU, vU, vU, vU, vU, vU, vU]
  refine jg T7_ mM 41 ll2 [(.ref b1_)] (fun tT kK => ?_) ?_
  · let ll3 : Array Slot := #[vR a, vJ f, vS, vJ t, vS, vI 1, vR b1_, vU, vU, vU, vU, vU, vU, vU, vU, vU, vU, vU, vU, vU, vU, vU, vU, vU, vU, vU, vU, vU, vU, vU, vU, vU, vU, vU, vU, vU, vU, vU, vU, vU, vU, vU, vU, vU, vU, vU]
    refine XS.astore X7_.here hx rfl (hC e32_8.1) rfl rfl (l' := ll3) rfl ?_
    refine XS.iconst X7_.here hx rfl (hC e32_8.2.1) ?_
    let ll4 : Array Slot := #[vR a, vJ f, vS, vJ t, vS, vI 1, vR b1_, vI 1, vU, vU, vU, vU, vU, vU, vU, vU, vU, vU, vU, vU, vU, vU, vU, vU, vU, vU, vU, vU, vU, vU, vU, vU, vU, vU, vU, vU, vU, vU, vU, vU, vU, vU, vU, vU, vU, vU]
    refine XS.istore X7_.here hx rfl (hC e32_8.2.2.1) rfl (l' := ll4) rfl ?_
    refine XS.lconst X7_.here hx rfl (hC e32_8.2.2.2) ?_
    let ll5 : Array Slot := #[vR a, vJ f, vS, vJ t, vS, vI 1, vR b1_, vI 1, vJ 0, vS, vU, vU, vU, vU, vU, vU, vU, vU, vU, vU, vU, vU, vU, vU, vU, vU, vU, vU, vU, vU, vU, vU, vU, vU, vU, vU, vU, vU, vU, vU, vU, vU, vU, vU, vU, vU]
    refine XS.lstore X7_.here hx rfl (hC e32_14.1) rfl (l' := ll5) rfl ?_
    refine XS.iconst X7_.here hx rfl (hC e32_14.2.1) ?_
    let ll6 : Array Slot := #[vR a, vJ f, vS, vJ t, vS, vI 1, vR b1_, vI 1, vJ 0, vS, vI (-1), vU, vU, vU, vU, vU, vU, vU, vU, vU, vU, vU, vU, vU, vU, vU, vU, vU, vU, vU, vU, vU, vU, vU, vU, vU, vU, vU, vU, vU, vU, vU, vU, vU, vU, vU]
    refine XS.istore X7_.here hx rfl (hC e32_14.2.2.1) rfl (l' := ll6) rfl ?_
    refine XS.lconst X7_.here hx rfl (hC e32_14.2.2.2) ?_
    let ll7 : Array Slot := #[vR a, vJ f, vS, vJ t, vS, vI 1, vR b1_, vI 1, vJ 0, vS, vI (-1), vJ 0, vS, vU, vU, vU, vU, vU, vU, vU, vU, vU, vU, vU, vU, vU, vU, vU, vU, vU, vU, vU, vU, vU, vU, vU, vU, vU, vU, vU, vU, vU, vU, vU, vU, vU]
    refine XS.lstore X7_.here hx rfl (hC e32_20.1) rfl (l' := ll7) rfl ?_
    refine XS.iconst X7_.here hx rfl (hC e32_20.2.1) ?_
    let ll8 : Array Slot := #[vR a, vJ f, vS, vJ t, vS, vI 1, vR b1_, vI 1, vJ 0, vS, vI (-1), vJ 0, vS, vI (-1), vU, vU, vU, vU, vU, vU, vU, vU, vU, vU, vU, vU, vU, vU, vU, vU, vU, vU, vU, vU, vU, vU, vU, vU, vU, vU, vU, vU, vU, vU, vU, vU]
    refine XS.istore X7_.here hx rfl (hC e32_20.2.2.1) rfl (l' := ll8) rfl ?_
    refine XS.lconst X7_.here hx rfl (hC e32_20.2.2.2) ?_
    let ll9 : Array Slot := #[vR a, vJ f, vS, vJ t, vS, vI 1, vR b1_, vI 1, vJ 0, vS, vI (-1), vJ 0, vS, vI (-1), vJ 0, vS, vU, vU, vU, vU, vU, vU, vU, vU, vU, vU, vU, vU, vU, vU, vU, vU, vU, vU, vU, vU, vU, vU, vU, vU, vU, vU, vU, vU, vU, vU]
    refine XS.lstore X7_.here hx rfl (hC e32_26.1) rfl (l' := ll9) rfl ?_
    refine XS.lconst X7_.here hx rfl (hC e32_26.2.1) ?_
    let ll10 : Array Slot := #[vR a, vJ f, vS, vJ t, vS, vI 1, vR b1_, vI 1, vJ 0, vS, vI (-1), vJ 0, vS, vI (-1), vJ 0, vS, vJ 0, vS, vU, vU, vU, vU, vU, vU, vU, vU, vU, vU, vU, vU, vU, vU, vU, vU, vU, vU, vU, vU, vU, vU, vU, vU, vU, vU, vU, vU]
    refine XS.lstore X7_.here hx rfl (hC e32_26.2.2.1) rfl (l' := ll10) rfl ?_
    refine XS.lconst X7_.here hx rfl (hC e32_26.2.2.2) ?_
    refine XS.lstore X7_.here hx rfl (hC e32_32.1) rfl (l' := ll2) rfl ?_
    refine XS.iload X7_.here hx rfl (hC e32_32.2.1) rfl ?_
    refine XS.ifNo X7_.here hx rfl (hC e32_32.2.2.1) rfl ((if0 _ _).trans (feq ((by decide) : ¬ ((1 : Int32) = (0 : Int32)))).1) ?_
    refine XS.aload X7_.here hx rfl (hC e32_32.2.2.2) rfl rfl ?_
    exact kK
  refine jn X7_ hx hZ hown (jk hw 210 rfl) rfl p7__1.g2 (hC e32_41.1) fun T11_ X11_ e11_ => ?_
  refine jg T11_ mM 120 ll2 [(.ref a)] (fun tT kK => ?_) ?_
  · refine XS.lloadN X11_.here hx rfl (hC e32_41.2.1) rfl ?_
    refine XS.lcmp X11_.here hx rfl (hC e32_41.2.2.1) rfl ?_
    refine XS.ifYes X11_.here hx rfl (pc0 := 46) (pc' := 114) rfl (hC e32_41.2.2.2) rfl ((if0 _ _).trans (flt (mt (lw_lt ft f).mp ((own_nl (by omega)) : ¬ (ft < f)))).2.1) (by decide) (by decide) ?_
    refine XS.iload X11_.here hx rfl (hC e32_114.1) rfl ?_
    refine XS.ifNo X11_.here hx rfl (hC e32_114.2.1) rfl ((if0 _ _).trans (tlt ((by decide) : (-1 : Int32) < (0 : Int32))).2.1) ?_
    refine XS.aloadN X11_.here hx rfl (hC e32_114.2.2.1) rfl rfl ?_
    exact kK
  refine jf X11_ hx hZ hown (jk hw 145 rfl) e11_ fc8_.g4 (hC e32_114.2.2.2) fun T12_ X12_ e12_ => ?_
  let ll11 : Array Slot := #[vR a, vJ f, vS, vJ t, vS, vI 1, vR b1_, vI 1, vJ 0, vS, vI (-1), vJ 0, vS, vI (-1), vJ 0, vS, vJ 0, vS, vJ 0, vS, vI 0, vU, vU, vU, vU, vU, vU, vU, vU, vU, vU, vU, vU, vU, vU, vU, vU, vU, vU, vU, vU, vU, vU, vU, vU, vU]
  refine jg T12_ mM 137 ll11 [(.ref b1_)] (fun tT kK => ?_) ?_
  · refine XS.goto X12_.here hx rfl (pc0 := 123) (pc' := 128) rfl (hC e32_123.1) (by decide) (by decide) ?_
    refine XS.istore X12_.here hx rfl (hC e32_123.2.1) rfl (l' := ll11) rfl ?_
    refine XS.iload X12_.here hx rfl (hC e32_123.2.2.1) rfl ?_
    refine XS.ifNo X12_.here hx rfl (hC e32_123.2.2.2) rfl ((if0 _ _).trans (feq ((by decide) : ¬ ((1 : Int32) = (0 : Int32)))).1) ?_
    refine XS.aload X12_.here hx rfl (hC e32_135.1) rfl rfl ?_
    exact kK
  refine jn X12_ hx hZ hown (jk hw 211 rfl) e12_ p7__1.g1 (hC e32_135.2.1) fun T13_ X13_ e13_ => ?_
  let ll12 : Array Slot := #[vR a, vJ f, vS, vJ t, vS, vI 1, vR b1_, vI 1, vJ 0, vS, vI (-1), vJ 0, vS, vI (-1), vJ 0, vS, vJ 0, vS, vJ 0, vS, vI 0, vI 0, vJ f, vS, vJ t, vS, vJ 0, vS, vU, vU, vU, vU, vU, vU, vU, vU, vU, vU, vU, vU, vU, vU, vU, vU, vU, vU]
  refine jg T13_ mM 181 ll12 [(.ref b1_)] (fun tT kK => ?_) ?_
  · refine XS.lloadN X13_.here hx rfl (hC e32_135.2.2.1) rfl ?_
    refine XS.lcmp X13_.here hx rfl (hC e32_135.2.2.2) rfl ?_
    refine XS.ifYes X13_.here hx rfl (pc0 := 142) (pc' := 149) rfl (hC e32_142.1) rfl ((if0 _ _).trans (tlt ((lw_gt ff t).mpr ((own_lt (by omega)) : t < ff))).2.2.1) (by decide) (by decide) ?_
    refine XS.iconst X13_.here hx rfl (hC e32_149.1) ?_
    let ll13 : Array Slot := #[vR a, vJ f, vS, vJ t, vS, vI 1, vR b1_, vI 1, vJ 0, vS, vI (-1), vJ 0, vS, vI (-1), vJ 0, vS, vJ 0, vS, vJ 0, vS, vI 0, vI 0, vU, vU, vU, vU, vU, vU, vU, vU, vU, vU, vU, vU, vU, vU, vU, vU, vU, vU, vU, vU, vU, vU, vU, vU]
    refine XS.istore X13_.here hx rfl (hC e32_142.2.2.2) rfl (l' := ll13) rfl ?_
    refine XS.iload X13_.here hx rfl (hC e32_152.1) rfl ?_
    refine XS.ifYes X13_.here hx rfl (pc0 := 154) (pc' := 165) rfl (hC e32_152.2.1) rfl ((if0 _ _).trans (teq ((by decide) : (0 : Int32) = (0 : Int32))).1) (by decide) (by decide) ?_
    show Steps pP.tables eE below (T13_.setTop (mkF mM 165 ll13 [])) tT
    refine XS.lloadN X13_.here hx rfl (hC e32_149.2.1) rfl ?_
    let ll14 : Array Slot := #[vR a, vJ f, vS, vJ t, vS, vI 1, vR b1_, vI 1, vJ 0, vS, vI (-1), vJ 0, vS, vI (-1), vJ 0, vS, vJ 0, vS, vJ 0, vS, vI 0, vI 0, vJ f, vS, vU, vU, vU, vU, vU, vU, vU, vU, vU, vU, vU, vU, vU, vU, vU, vU, vU, vU, vU, vU, vU, vU]
    refine XS.lstore X13_.here hx rfl (hC e32_162.2.1) rfl (l' := ll14) rfl ?_
    refine XS.lloadN X13_.here hx rfl (hC e32_162.2.2.1) rfl ?_
    let ll15 : Array Slot := #[vR a, vJ f, vS, vJ t, vS, vI 1, vR b1_, vI 1, vJ 0, vS, vI (-1), vJ 0, vS, vI (-1), vJ 0, vS, vJ 0, vS, vJ 0, vS, vI 0, vI 0, vJ f, vS, vJ t, vS, vU, vU, vU, vU, vU, vU, vU, vU, vU, vU, vU, vU, vU, vU, vU, vU, vU, vU, vU, vU]
    refine XS.lstore X13_.here hx rfl (hC e32_162.2.2.2) rfl (l' := ll15) rfl ?_
    refine XS.lconst X13_.here hx rfl (hC e32_171.1) ?_
    refine XS.lstore X13_.here hx rfl (hC e32_171.2.1) rfl (l' := ll12) rfl ?_
    refine XS.iload X13_.here hx rfl (hC e32_171.2.2.1) rfl ?_
    refine XS.ifNo X13_.here hx rfl (hC e32_171.2.2.2) rfl ((if0 _ _).trans (feq ((by decide) : ¬ ((1 : Int32) = (0 : Int32)))).1) ?_
    refine XS.aload X13_.here hx rfl (hC e32_179.1) rfl rfl ?_
    exact kK
  refine jn X13_ hx hZ hown (jk hw 211 rfl) e13_ p7__1.g1 (hC e32_179.2.1) fun T14_ X14_ e14_ => ?_
  let ll16 : Array Slot := #[vR a, vJ f, vS, vJ t, vS, vI 1, vR b1_, vI 1, vJ 0, vS, vI (-1), vJ 0, vS, vI (-1), vJ 0, vS, vJ 0, vS, vJ 0, vS, vI 0, vI 0, vJ f, vS, vJ t, vS, vJ 0, vS, vI 1, vU, vU, vU, vU, vU, vU, vU, vU, vU, vU, vU, vU, vU, vU, vU, vU, vU]
  refine jg T14_ mM 228 ll16 [(.ref b1_)] (fun tT kK => ?_) ?_
  · refine XS.lloadN X14_.here hx rfl (hC e32_179.2.2.1) rfl ?_
    refine XS.lcmp X14_.here hx rfl (hC e32_179.2.2.2) rfl ?_
    refine XS.ifYes X14_.here hx rfl (pc0 := 186) (pc' := 222) rfl (hC e32_186.1) rfl ((if0 _ _).trans (tlt ((lw_gt ff t).mpr ((own_lt (by omega)) : t < ff))).2.2.1) (by decide) (by decide) ?_
    refine XS.iload X14_.here hx rfl (hC e32_222.1) rfl ?_
    refine XS.istore X14_.here hx rfl (hC e32_222.2.1) rfl (l' := ll16) rfl ?_
    refine XS.aload X14_.here hx rfl (hC e32_222.2.2.1) rfl rfl ?_
    exact kK
  refine jn X14_ hx hZ hown (jk hw 211 rfl) e14_ p7__1.g1 (hC e32_222.2.2.2) fun T15_ X15_ e15_ => ?_
  let ll17 : Array Slot := #[vR a, vJ f, vS, vJ t, vS, vI 1, vR b1_, vI 1, vJ 0, vS, vI (-1), vJ 0, vS, vI (-1), vJ 0, vS, vJ 0, vS, vJ 0, vS, vI 0, vI 0, vJ f, vS, vJ t, vS, vJ 0, vS, vI 1, vJ ff, vS, vU, vU, vU, vU, vU, vU, vU, vU, vU, vU, vU, vU, vU, vU, vU]
  refine jg T15_ mM 235 ll17 [(.ref b1_)] (fun tT kK => ?_) ?_
  · refine XS.lstore X15_.here hx rfl (hC e32_231.1) rfl (l' := ll17) rfl ?_
    refine XS.aload X15_.here hx rfl (hC e32_231.2.1) rfl rfl ?_
    exact kK
  refine jn X15_ hx hZ hown (jk hw 210 rfl) e15_ p7__1.g2 (hC e32_231.2.2.1) fun T16_ X16_ e16_ => ?_
  let ll18 : Array Slot := #[vR a, vJ f, vS, vJ t, vS, vI 1, vR b1_, vI 1, vJ 0, vS, vI (-1), vJ 0, vS, vI (-1), vJ 0, vS, vJ 0, vS, vJ 0, vS, vI 0, vI 0, vJ f, vS, vJ t, vS, vJ 0, vS, vI 1, vJ ff, vS, vJ ft, vS, vU, vU, vU, vU, vU, vU, vU, vU, vU, vU, vU, vU, vU]
  refine jg T16_ mM 247 ll18 [(.ref b1_)] (fun tT kK => ?_) ?_
  · refine XS.lstore X16_.here hx rfl (hC e32_231.2.2.2) rfl (l' := ll18) rfl ?_
    refine XS.iload X16_.here hx rfl (hC e32_240.1) rfl ?_
    refine XS.ifNo X16_.here hx rfl (hC e32_240.2.1) rfl ((if0 _ _).trans (feq ((by decide) : ¬ ((1 : Int32) = (0 : Int32)))).1) ?_
    refine XS.aload X16_.here hx rfl (hC e32_149.2.2.1) rfl rfl ?_
    exact kK
  refine jn X16_ hx hZ hown (jk hw 212 rfl) e16_ p7__1.g3 (hC e32_149.2.2.2) fun T17_ X17_ e17_ => ?_
  let ll19 : Array Slot := #[vR a, vJ f, vS, vJ t, vS, vI 1, vR b1_, vI 1, vJ 0, vS, vI (-1), vJ 0, vS, vI (-1), vJ 0, vS, vJ 0, vS, vJ 0, vS, vI 0, vI 0, vJ f, vS, vJ t, vS, vJ 0, vS, vI 1, vJ ff, vS, vJ ft, vS, vI 0, vU, vU, vU, vU, vU, vU, vU, vU, vU, vU, vU, vU]
  refine jg T17_ mM 260 ll19 [(.ref a)] (fun tT kK => ?_) ?_
  · refine XS.goto X17_.here hx rfl (pc0 := 250) (pc' := 257) rfl (hC e32_250.1) (by decide) (by decide) ?_
    refine XS.istore X17_.here hx rfl (hC e32_257.1) rfl (l' := ll19) rfl ?_
    refine XS.aloadN X17_.here hx rfl (hC e32_257.2.1) rfl rfl ?_
    exact kK
  refine jf X17_ hx hZ hown (jk hw 91 rfl) e17_ fc8_.g0 (hC e32_257.2.2.1) fun T18_ X18_ e18_ => ?_
  let ll20 : Array Slot := #[vR a, vJ f, vS, vJ t, vS, vI 1, vR b1_, vI 1, vJ 0, vS, vI (-1), vJ 0, vS, vI (-1), vJ 0, vS, vJ 0, vS, vJ 0, vS, vI 0, vI 0, vJ f, vS, vJ t, vS, vJ 0, vS, vI 1, vJ ff, vS, vJ ft, vS, vI 0, vJ (((sz - (0 : Int64)) - (0 : Int64)) - (ft - ff)), vS, vU, vU, vU, vU, vU, vU, vU, vU, vU, vU]
  refine jg T18_ mM 287 ll20 [(.ref a)] (fun tT kK => ?_) ?_
  · refine XS.lload X18_.here hx rfl (hC e32_257.2.2.2) rfl ?_
    refine XS.lsub X18_.here hx rfl (hC e32_265.1) rfl ?_
    refine XS.lload X18_.here hx rfl (hC e32_265.2.1) rfl ?_
    refine XS.lsub X18_.here hx rfl (hC e32_265.2.2.1) rfl ?_
    refine XS.iload X18_.here hx rfl (hC e32_265.2.2.2) rfl ?_
    refine XS.ifNo X18_.here hx rfl (hC e32_271.1) rfl ((if0 _ _).trans (feq ((by decide) : ¬ ((1 : Int32) = (0 : Int32)))).1) ?_
    refine XS.lload X18_.here hx rfl (hC e32_250.2.1) rfl ?_
    refine XS.lload X18_.here hx rfl (hC e32_250.2.2.1) rfl ?_
    refine XS.lsub X18_.here hx rfl (hC e32_250.2.2.2) rfl ?_
    refine XS.goto X18_.here hx rfl (pc0 := 279) (pc' := 283) rfl (hC e32_279.1) (by decide) (by decide) ?_
    refine XS.lsub X18_.here hx rfl (hC e32_271.2.2.1) rfl ?_
    refine XS.lstore X18_.here hx rfl (hC e32_271.2.2.2) rfl (l' := ll20) rfl ?_
    refine XS.aloadN X18_.here hx rfl (hC e32_286.1) rfl rfl ?_
    exact kK
  refine jf X18_ hx hZ hown (jk hw 63 rfl) e18_ fc8_.g3 (hC e32_286.2.1) fun T19_ X19_ e19_ => ?_
  let ll21 : Array Slot := #[vR a, vJ f, vS, vJ t, vS, vI 1, vR b1_, vI 1, vJ 0, vS, vI (-1), vJ 0, vS, vI (-1), vJ 0, vS, vJ 0, vS, vJ 0, vS, vI 0, vI 0, vJ f, vS, vJ t, vS, vJ 0, vS, vI 1, vJ ff, vS, vJ ft, vS, vI 0, vJ (((sz - (0 : Int64)) - (0 : Int64)) - (ft - ff)), vS, vR nb, vU, vU, vU, vU, vU, vU, vU, vU, vU]
  refine jg T19_ mM 293 ll21 [(.ref a)] (fun tT kK => ?_) ?_
  · refine XS.astore X19_.here hx rfl (hC e32_286.2.2.1) rfl rfl (l' := ll21) rfl ?_
    refine XS.aloadN X19_.here hx rfl (hC e32_286.2.2.2) rfl rfl ?_
    exact kK
  refine jf X19_ hx hZ hown (jk hw 145 rfl) e19_ fc8_.g4 (hC e32_293.1) fun T20_ X20_ e20_ => ?_
  let ll22 : Array Slot := #[vR a, vJ f, vS, vJ t, vS, vI 1, vR b1_, vI 1, vJ 0, vS, vI (-1), vJ 0, vS, vI (-1), vJ 0, vS, vJ 0, vS, vJ 0, vS, vI 0, vI 0, vJ f, vS, vJ t, vS, vJ 0, vS, vI 1, vJ ff, vS, vJ ft, vS, vI 0, vJ (((sz - (0 : Int64)) - (0 : Int64)) - (ft - ff)), vS, vR nb, vI 0, vU, vU, vU, vU, vU, vU, vU, vU]
  refine jg T20_ mM 299 ll22 [(.ref a)] (fun tT kK => ?_) ?_
  · refine XS.istore X20_.here hx rfl (hC e32_293.2.1) rfl (l' := ll22) rfl ?_
    show Steps pP.tables eE below (T20_.setTop (mkF mM 298 ll22 [])) tT
    refine XS.aloadN X20_.here hx rfl (hC e32_293.2.2.1) rfl rfl ?_
    exact kK
  refine jf X20_ hx hZ hown (jk hw 146 rfl) e20_ fc8_.g5 (hC e32_293.2.2.2) fun T21_ X21_ e21_ => ?_
  let ll23 : Array Slot := #[vR a, vJ f, vS, vJ t, vS, vI 1, vR b1_, vI 1, vJ 0, vS, vI (-1), vJ 0, vS, vI (-1), vJ 0, vS, vJ 0, vS, vJ 0, vS, vI 0, vI 0, vJ f, vS, vJ t, vS, vJ 0, vS, vI 1, vJ ff, vS, vJ ft, vS, vI 0, vJ (((sz - (0 : Int64)) - (0 : Int64)) - (ft - ff)), vS, vR nb, vI 0, vI 0, vU, vU, vU, vU, vU, vU, vU]
  refine jg T21_ mM 305 ll23 [(.ref a)] (fun tT kK => ?_) ?_
  · refine XS.istore X21_.here hx rfl (hC e32_302.1) rfl (l' := ll23) rfl ?_
    refine XS.aloadN X21_.here hx rfl (hC e32_302.2.1) rfl rfl ?_
    exact kK
  refine jf X21_ hx hZ hown (jk hw 65 rfl) e21_ fc8_.g6 (hC e32_302.2.2.1) fun T22_ X22_ e22_ => ?_
  let ll24 : Array Slot := #[vR a, vJ f, vS, vJ t, vS, vI 1, vR b1_, vI 1, vJ 0, vS, vI (-1), vJ 0, vS, vI (-1), vJ 0, vS, vJ 0, vS, vJ 0, vS, vI 0, vI 0, vJ f, vS, vJ t, vS, vJ 0, vS, vI 1, vJ ff, vS, vJ ft, vS, vI 0, vJ (((sz - (0 : Int64)) - (0 : Int64)) - (ft - ff)), vS, vR nb, vI 0, vI 0, vI (-1), vU, vU, vU, vU, vU, vU]
  refine jg T22_ mM 311 ll24 [(.ref a)] (fun tT kK => ?_) ?_
  · refine XS.istore X22_.here hx rfl (hC e32_302.2.2.2) rfl (l' := ll24) rfl ?_
    refine XS.aloadN X22_.here hx rfl (hC e32_310.1) rfl rfl ?_
    exact kK
  refine jf X22_ hx hZ hown (jk hw 171 rfl) e22_ fc8_.g7 (hC e32_310.2.1) fun T23_ X23_ e23_ => ?_
  let ll25 : Array Slot := #[vR a, vJ f, vS, vJ t, vS, vI 1, vR b1_, vI 1, vJ 0, vS, vI (-1), vJ 0, vS, vI (-1), vJ 0, vS, vJ 0, vS, vJ 0, vS, vI 0, vI 0, vJ f, vS, vJ t, vS, vJ 0, vS, vI 1, vJ ff, vS, vJ ft, vS, vI 0, vJ (((sz - (0 : Int64)) - (0 : Int64)) - (ft - ff)), vS, vR nb, vI 0, vI 0, vI (-1), vJ lg, vS, vU, vU, vU, vU]
  refine jg T23_ mM 317 ll25 [(.ref a)] (fun tT kK => ?_) ?_
  · refine XS.lstore X23_.here hx rfl (hC e32_310.2.2.1) rfl (l' := ll25) rfl ?_
    refine XS.aloadN X23_.here hx rfl (hC e32_310.2.2.2) rfl rfl ?_
    exact kK
  refine jf X23_ hx hZ hown (jk hw 173 rfl) e23_ fc8_.g8 (hC e32_317.1) fun T24_ X24_ e24_ => ?_
  let ll26 : Array Slot := #[vR a, vJ f, vS, vJ t, vS, vI 1, vR b1_, vI 1, vJ 0, vS, vI (-1), vJ 0, vS, vI (-1), vJ 0, vS, vJ 0, vS, vJ 0, vS, vI 0, vI 0, vJ f, vS, vJ t, vS, vJ 0, vS, vI 1, vJ ff, vS, vJ ft, vS, vI 0, vJ (((sz - (0 : Int64)) - (0 : Int64)) - (ft - ff)), vS, vR nb, vI 0, vI 0, vI (-1), vJ lg, vS, vJ lf, vS, vU, vU]
  refine jg T24_ mM 323 ll26 [(.ref a)] (fun tT kK => ?_) ?_
  · refine XS.lstore X24_.here hx rfl (hC e32_317.2.1) rfl (l' := ll26) rfl ?_
    refine XS.aloadN X24_.here hx rfl (hC e32_317.2.2.1) rfl rfl ?_
    exact kK
  refine jf X24_ hx hZ hown (jk hw 175 rfl) e24_ fc8_.g9 (hC e32_317.2.2.2) fun T25_ X25_ e25_ => ?_
  let ll27 : Array Slot := #[vR a, vJ f, vS, vJ t, vS, vI 1, vR b1_, vI 1, vJ 0, vS, vI (-1), vJ 0, vS, vI (-1), vJ 0, vS, vJ 0, vS, vJ 0, vS, vI 0, vI 0, vJ f, vS, vJ t, vS, vJ 0, vS, vI 1, vJ ff, vS, vJ ft, vS, vI 0, vJ (((sz - (0 : Int64)) - (0 : Int64)) - (ft - ff)), vS, vR nb, vI 0, vI 0, vI (-1), vJ lg, vS, vJ lf, vS, vJ lt, vS]
  refine jg T25_ mM 343 ll27 [(.int 57), (.ref a)] (fun tT kK => ?_) ?_
  · refine XS.lstore X25_.here hx rfl (hC e32_326.1) rfl (l' := ll27) rfl ?_
    refine XS.aloadN X25_.here hx rfl (hC e32_326.2.1) rfl rfl ?_
    refine XS.iload X25_.here hx rfl (hC e32_326.2.2.1) rfl ?_
    refine XS.iload X25_.here hx rfl (hC e32_326.2.2.2) rfl ?_
    refine XS.isub X25_.here hx rfl (hC e32_333.1) rfl ?_
    refine XS.bipush X25_.here hx rfl (hC e32_333.2.1) ?_
    refine XS.iadd X25_.here hx rfl (hC e32_333.2.2.1) rfl ?_
    refine XS.iload X25_.here hx rfl (hC e32_333.2.2.2) rfl ?_
    refine XS.iadd X25_.here hx rfl (hC e32_339.1) rfl ?_
    refine XS.iload X25_.here hx rfl (hC e32_339.2.1) rfl ?_
    refine XS.isub X25_.here hx rfl (hC e32_339.2.2.1) rfl ?_
    exact kK
  obtain ⟨T26_, h26_, k26_, X26_, e26_, E26_, A26_, st26_⟩ := newP X25_ hx hZ (jk hw 169 rfl) e25_ (g := (mkF mM 343 ll27 [(.int 57), (.ref a)])) rfl (hC e32_339.2.2.2) rfl (by decide) (cap := 57) (by decide) (by decide) (by decide) (by decide)
  obtain ⟨b26_, g26_⟩ : ∃ z, z = T7_.heap.size := ⟨_, rfl⟩
  rw [← g26_] at A26_ st26_
  have sz_b26_ : h0.size ≤ b26_ := Nat.le_trans K7_.1 (Nat.le_of_eq g26_.symm)
  have ge_b26_ : n0 ≤ b26_ := Nat.le_trans Z0 sz_b26_
  have ne27_ : a ≠ b26_ := Nat.ne_of_lt (Nat.lt_of_lt_of_le fc8_.lt (Nat.le_of_eq g26_.symm))
  have fc30_ := fc8_.ext E26_
  have fc31_ := fc9_.ext E26_
  have K26_ := K7_.ext E26_
  have V26_ : Arv Z h26_ b26_ k26_ .byte (57 : Int32) [] (.int 0) := Arv.new A26_ (by decide)
  refine own_fin st26_ ?_
  refine jq X26_ hx hZ hown (jk hw 63 rfl) e26_ fc30_.g3 fc30_.E (jk hw 64 rfl) (jk hw 55 rfl) (ty := (.array .byte)) (by decide) rfl rfl (hC e32_345.1) K26_ N7_ (Or.inl (List.mem_of_getElem? (i := 0) rfl)) g_a fun T34_ h34_ X34_ e34_ W34_ Fw34_ K34_ N34_ => ?_
  have ne35_ : nb ≠ a := (Ne.symm (own_neV fc30_.E fc31_ (jk hw 55 rfl)))
  have fc36_ := fc31_.other W34_ ne35_
  have fc39_ := V26_.other W34_ (Ne.symm ne27_)
  have Bw34_ := fc30_.s3 hw W34_
  refine jg T34_ mM 353 ll27 [(.ref a), (.int 0), (.ref nb)] (fun tT kK => ?_) ?_
  · refine XS.aload X34_.here hx rfl (hC e32_345.2.1) rfl rfl ?_
    refine XS.iload X34_.here hx rfl (hC e32_345.2.2.1) rfl ?_
    refine XS.aloadN X34_.here hx rfl (hC e32_345.2.2.2) rfl rfl ?_
    exact kK
  refine jf X34_ hx hZ hown (jk hw 63 rfl) e34_ Bw34_.g3 (hC e32_353.1) fun T40_ X40_ e40_ => ?_
  refine jg T40_ mM 362 ll27 [(.int 0), (.int 0), (.ref b26_), (.int 0), (.ref nb)] (fun tT kK => ?_) ?_
  · refine XS.iconst X40_.here hx rfl (hC e32_353.2.1) ?_
    refine XS.iload X40_.here hx rfl (hC e32_353.2.2.1) rfl ?_
    refine XS.iload X40_.here hx rfl (hC e32_353.2.2.2) rfl ?_
    refine XS.isub X40_.here hx rfl (hC e32_361.1) rfl ?_
    exact kK
  obtain ⟨us, hus, Vus⟩ := own_nameV (fc39_.pad (pad_rep [] (.int 0) 57))
  have hul : us.length = 57 := by rw [hus]; rfl
  obtain ⟨T42_, X42_, e42_, st42_⟩ := own_cp0 X40_ hx hZ hown (jk hw 170 rfl) (jk hw 76 rfl) (jk hw 74 rfl) (jk hw 75 rfl) e40_ fc36_ Vus (Or.inl ⟨rfl, rfl⟩) (by decide) (by decide) (Nat.zero_le _) (Nat.zero_le _) (g := (mkF mM 362 ll27 [(.int 0), (.int 0), (.ref b26_), (.int 0), (.ref nb)])) rfl (by rw [hml]; rfl) rfl (hC e32_361.2.1) (by decide) (W := 0) (by show 2 * 0 + _ ≤ _; exact Nat.le_of_eq rfl) (by decide)
  refine own_fin st42_ ?_
  refine jg T42_ mM 367 ll27 [(.int 0), (.ref a)] (fun tT kK => ?_) ?_
  · refine XS.aloadN X42_.here hx rfl (hC e32_361.2.2.1) rfl rfl ?_
    refine XS.iconst X42_.here hx rfl (hC e32_361.2.2.2) ?_
    exact kK
  refine jq X42_ hx hZ hown (jk hw 145 rfl) e42_ Bw34_.g4 Bw34_.E (jk hw 130 rfl) (jk hw 55 rfl) (ty := .int) (by decide) rfl rfl (hC e32_367.1) K34_ N34_ (Or.inl (List.mem_of_getElem? (i := 0) rfl)) g_a fun T43_ h43_ X43_ e43_ W43_ Fw43_ K43_ N43_ => ?_
  have fc47_ := Vus.other W43_ (Ne.symm ne27_)
  have Bw43_ := Bw34_.s4 hw W43_
  refine jg T43_ mM 376 ll27 [(.int 0), (.ref a)] (fun tT kK => ?_) ?_
  · refine XS.aloadN X43_.here hx rfl (hC e32_367.2.1) rfl rfl ?_
    refine XS.iload X43_.here hx rfl (hC e32_367.2.2.1) rfl ?_
    refine XS.iload X43_.here hx rfl (hC e32_367.2.2.2) rfl ?_
    refine XS.isub X43_.here hx rfl (hC e32_375.1) rfl ?_
    exact kK
  refine jq X43_ hx hZ hown (jk hw 146 rfl) e43_ Bw43_.g5 Bw43_.E (jk hw 139 rfl) (jk hw 55 rfl) (ty := .int) (by decide) rfl rfl (hC e32_375.2.1) K43_ N43_ (Or.inl (List.mem_of_getElem? (i := 0) rfl)) g_a fun T48_ h48_ X48_ e48_ W48_ Fw48_ K48_ N48_ => ?_
  have fc52_ := fc47_.other W48_ (Ne.symm ne27_)
  have Bw48_ := Bw43_.s5 hw W48_
  refine jg T48_ mM 382 ll27 [(.long 0), (.ref a)] (fun tT kK => ?_) ?_
  · refine XS.aloadN X48_.here hx rfl (hC e32_375.2.2.1) rfl rfl ?_
    refine XS.lload X48_.here hx rfl (hC e32_375.2.2.2) rfl ?_
    exact kK
  refine jq X48_ hx hZ hown (jk hw 91 rfl) e48_ Bw48_.g0 Bw48_.E (jk hw 78 rfl) (jk hw 55 rfl) (ty := .long) (by decide) rfl rfl (hC e32_382.1) K48_ N48_ (Or.inl (List.mem_of_getElem? (i := 0) rfl)) g_a fun T53_ h53_ X53_ e53_ W53_ Fw53_ K53_ N53_ => ?_
  have fc57_ := fc52_.other W53_ (Ne.symm ne27_)
  have Bw53_ := Bw48_.s0 hw W53_
  refine jg T53_ mM 400 ll27 [(.int (-1)), (.ref a)] (fun tT kK => ?_) ?_
  · refine XS.aloadN X53_.here hx rfl (hC e32_382.2.1) rfl rfl ?_
    refine XS.iload X53_.here hx rfl (hC e32_382.2.2.1) rfl ?_
    refine XS.ifNo X53_.here hx rfl (hC e32_382.2.2.2) rfl ((if0 _ _).trans (tlt ((by decide) : (-1 : Int32) < (0 : Int32))).2.1) ?_
    refine XS.iconst X53_.here hx rfl (hC e32_391.1) ?_
    refine XS.goto X53_.here hx rfl (pc0 := 392) (pc' := 400) rfl (hC e32_391.2.1) (by decide) (by decide) ?_
    exact kK
  refine jq X53_ hx hZ hown (jk hw 65 rfl) e53_ Bw53_.g6 Bw53_.E (jk hw 66 rfl) (jk hw 55 rfl) (ty := .int) (by decide) rfl rfl (hC e32_391.2.2.1) K53_ N53_ (Or.inl (List.mem_of_getElem? (i := 0) rfl)) g_a fun T58_ h58_ X58_ e58_ W58_ Fw58_ K58_ N58_ => ?_
  have fc62_ := fc57_.other W58_ (Ne.symm ne27_)
  have Bw58_ := Bw53_.s6 hw W58_
  refine jg T58_ mM 406 ll27 [(.long 0), (.ref a)] (fun tT kK => ?_) ?_
  · refine XS.aloadN X58_.here hx rfl (hC e32_391.2.2.2) rfl rfl ?_
    refine XS.lload X58_.here hx rfl (hC e32_404.1) rfl ?_
    exact kK
  refine jq X58_ hx hZ hown (jk hw 171 rfl) e58_ Bw58_.g7 Bw58_.E (jk hw 172 rfl) (jk hw 55 rfl) (ty := .long) (by decide) rfl rfl (hC e32_404.2.1) K58_ N58_ (Or.inl (List.mem_of_getElem? (i := 0) rfl)) g_a fun T63_ h63_ X63_ e63_ W63_ Fw63_ K63_ N63_ => ?_
  have fc67_ := fc62_.other W63_ (Ne.symm ne27_)
  have Bw63_ := Bw58_.s7 hw W63_
  refine jg T63_ mM 412 ll27 [(.long 0), (.ref a)] (fun tT kK => ?_) ?_
  · refine XS.aloadN X63_.here hx rfl (hC e32_404.2.2.1) rfl rfl ?_
    refine XS.lload X63_.here hx rfl (hC e32_404.2.2.2) rfl ?_
    exact kK
  refine jq X63_ hx hZ hown (jk hw 173 rfl) e63_ Bw63_.g8 Bw63_.E (jk hw 174 rfl) (jk hw 55 rfl) (ty := .long) (by decide) rfl rfl (hC e32_412.1) K63_ N63_ (Or.inl (List.mem_of_getElem? (i := 0) rfl)) g_a fun T68_ h68_ X68_ e68_ W68_ Fw68_ K68_ N68_ => ?_
  have fc72_ := fc67_.other W68_ (Ne.symm ne27_)
  have Bw68_ := Bw63_.s8 hw W68_
  refine jg T68_ mM 418 ll27 [(.long 0), (.ref a)] (fun tT kK => ?_) ?_
  · refine XS.aloadN X68_.here hx rfl (hC e32_412.2.1) rfl rfl ?_
    refine XS.lload X68_.here hx rfl (hC e32_412.2.2.1) rfl ?_
    exact kK
  refine jq X68_ hx hZ hown (jk hw 175 rfl) e68_ Bw68_.g9 Bw68_.E (jk hw 176 rfl) (jk hw 55 rfl) (ty := .long) (by decide) rfl rfl (hC e32_412.2.2.2) K68_ N68_ (Or.inl (List.mem_of_getElem? (i := 0) rfl)) g_a fun T73_ h73_ X73_ e73_ W73_ Fw73_ K73_ N73_ => ?_
  have fc77_ := fc72_.other W73_ (Ne.symm ne27_)
  have Bw73_ := Bw68_.s9 hw W73_
  refine jg T73_ mM 430 ll27 [(.long f), (.long f), (.ref a)] (fun tT kK => ?_) ?_
  · refine XS.iload X73_.here hx rfl (hC e32_421.1) rfl ?_
    refine XS.ifNo X73_.here hx rfl (hC e32_421.2.1) rfl ((if0 _ _).trans (feq ((by decide) : ¬ ((1 : Int32) = (0 : Int32)))).1) ?_
    refine XS.aloadN X73_.here hx rfl (hC e32_565.2.2.2) rfl rfl ?_
    refine XS.lloadN X73_.here hx rfl (hC e32_427.1) rfl ?_
    refine XS.lload X73_.here hx rfl (hC e32_427.2.1) rfl ?_
    exact kK
  refine jc X73_ hx hZ (y := jy2) hown (jk hw 213 rfl) (jk hw 214 rfl) (jk hw 44 rfl) (jk hw 215 rfl) (rm_mnl lL Z a0 hw [] f f h73_ n0 (Nat.le_trans Z0 K73_.1) (by omega)) e73_ own_pd10 [(.long f), (.long f)] [(.ref a)] (hC e32_427.2.2) rfl rfl (by rw [hml]; rfl) (by decide) 1 (Nat.le_of_eq rfl) (by decide) (by decide) (by decide : 2 + 0 ≤ _) (by decide : 61 + 0 ≤ _) fun vv78_ T78_ L78_ X78_ hQ78_ => ?_
  obtain ⟨rfl, N78_q, p78__0⟩ := hQ78_
  have N78_ := Fr.app N73_ N78_q
  refine jg T78_ mM 436 ll27 [(.long t), (.long t), (.long f), (.ref a)] (fun tT kK => ?_) ?_
  · refine XS.lloadN X78_.here hx rfl (hC e32_433.1) rfl ?_
    refine XS.lload X78_.here hx rfl (hC e32_433.2.1) rfl ?_
    exact kK
  refine jc X78_ hx hZ (y := jy3) hown (jk hw 216 rfl) (jk hw 217 rfl) (jk hw 44 rfl) (jk hw 218 rfl) (rm_mxe lL Z a0 hw [] t t h73_ n0 (Nat.le_trans Z0 K73_.1) (by omega)) p78__0 own_pd10 [(.long t), (.long t)] [(.long f), (.ref a)] (hC e32_433.2.2.1) rfl rfl (by rw [hml]; rfl) (by decide) 3 (Nat.le_of_eq rfl) (by decide) (by decide) (by decide : 2 + 0 ≤ _) (by decide : 61 + 0 ≤ _) fun vv79_ T79_ L79_ X79_ hQ79_ => ?_
  obtain ⟨rfl, N79_q, p79__0⟩ := hQ79_
  have N79_ := Fr.app N78_ N79_q
  refine jv X79_ hx hZ (y := jy16) hown (jk hw 219 rfl) (jk hw 80 rfl) (jk hw 82 rfl) (jk hw 81 rfl) (jk hw 83 rfl) (jk hw 56 rfl) (rm_ex0 lL Z a0 hw [] a b26_ ff ft (0 : Int64) (0 : Int64) (0 : Int64) f t h73_ n0 (Nat.le_trans Z0 K73_.1) Bw73_ g_a) Bw73_.E p79__0 own_pd6 [(.long f), (.long t)] [] (hC e32_433.2.2.2) rfl rfl (by rw [hml]; rfl) (by decide) 0 (Nat.le_of_eq rfl) (by decide) (by decide) (by decide : 2 + 0 ≤ _) (by decide : 61 + 0 ≤ _) fun vv80_ T80_ L80_ X80_ hQ80_ => ?_
  obtain ⟨rfl, N80_q, p80__0, p80__1⟩ := hQ80_
  have N80_ := Fr.app N79_ N80_q
  have fc84_ := fc77_.keep p80__0 (ninS (Ne.symm ne27_) nin0)
  have K80_ := K73_.trans p80__0 (allS (Or.inl (List.mem_of_getElem? (i := 0) rfl)) all0)
  refine jg T80_ mM 469 ll27 [(.long ft), (.long ff), (.ref a)] (fun tT kK => ?_) ?_
  · refine XS.goto X80_.here hx rfl (pc0 := 442) (pc' := 459) rfl (hC d32_442) (by decide) (by decide) ?_
    refine XS.iload X80_.here hx rfl (hC e32_454.2.2.1) rfl ?_
    refine XS.ifNo X80_.here hx rfl (hC e32_454.2.2.2) rfl ((if0 _ _).trans (feq ((by decide) : ¬ ((1 : Int32) = (0 : Int32)))).1) ?_
    refine XS.aloadN X80_.here hx rfl (hC e32_279.2.1) rfl rfl ?_
    refine XS.lload X80_.here hx rfl (hC e32_279.2.2.1) rfl ?_
    refine XS.lload X80_.here hx rfl (hC e32_279.2.2.2) rfl ?_
    exact kK
  have t85_ := rng64 t
  have t86_ := rng64 f
  have t87_ := own_sub (x := t) (y := f) (by omega)
  have t88_ := rng64 ft
  have t89_ := rng64 ff
  have t90_ := own_sub (x := ft) (y := ff) (by omega)
  refine jv X80_ hx hZ (y := jy16) hown (jk hw 219 rfl) (jk hw 80 rfl) (jk hw 82 rfl) (jk hw 81 rfl) (jk hw 83 rfl) (jk hw 56 rfl) (rm_exd lL Z a0 hw [] a b26_ k26_ (t - f) f t (0 : Int64) (0 : Int64) (0 : Int64) ff ft us T80_.heap n0 (Nat.le_trans Z0 K80_.1) p80__1 fc84_ hul (by omega) (by omega) (by omega) (by omega) g_a ge_b26_) p80__1.E rfl own_pd6 [(.long ff), (.long ft)] [] (hC d32_469) rfl rfl (by rw [hml]; rfl) (by decide) 0 (Nat.le_of_eq rfl) (by decide) (by decide) (by decide : 2 + 0 ≤ _) (by decide : 61 + 0 ≤ _) fun vv91_ T91_ L91_ X91_ hQ91_ => ?_
  obtain ⟨en_91_, vs_91_, rfl, N91_q, p91__0, p91__1, p91__2, p91__3, p91__4⟩ := hQ91_
  have N91_ := Fr.app N80_ N91_q
  have K91_ := K80_.trans p91__0 (allS (Or.inl (List.mem_of_getElem? (i := 0) rfl)) (allS (Or.inr sz_b26_) all0))
  refine jg T91_ mM 557 ll27 [(.ref a)] (fun tT kK => ?_) ?_
  · refine XS.iload X91_.here hx rfl (hC e32_472.1) rfl ?_
    refine XS.iload X91_.here hx rfl (hC e32_472.2.1) rfl ?_
    refine XS.icmpYes X91_.here hx rfl (pc0 := 476) (pc' := 556) rfl (hC e32_472.2.2.1) rfl (flt ((by decide) : ¬ ((0 : Int32) < (0 : Int32)))).2.1 (by decide) (by decide) ?_
    refine XS.aloadN X91_.here hx rfl (hC e32_472.2.2.2) rfl rfl ?_
    exact kK
  refine jv X91_ hx hZ (y := jy18) hown (jk hw 220 rfl) (jk hw 221 rfl) (jk hw 223 rfl) (jk hw 222 rfl) (jk hw 224 rfl) (jk hw 56 rfl) (rm_tr2 lL Z a0 hw [] a b26_ k26_ ((t - f) + (ft - ff)) f t (ff - t) ff ft en_91_ vs_91_ T91_.heap n0 (Nat.le_trans Z0 K91_.1) p91__3 p91__4 p91__2 p91__1 g_a) p91__3.E rfl own_pd5 [] [] (hC e32_557.1) rfl rfl (by rw [hml]; rfl) (by decide) 0 (Nat.le_of_eq rfl) (by decide) (by decide) (by decide : 2 + 1 ≤ _) (by decide : 61 + 19 ≤ _) fun vv95_ T95_ L95_ X95_ hQ95_ => ?_
  obtain ⟨bc_95_, kc_95_, vs_95_, rfl, N95_q, p95__0, p95__1, p95__2, p95__3, p95__4⟩ := hQ95_
  have N95_ := Fr.app N91_ N95_q
  have sz_bc_95_ : h0.size ≤ bc_95_ := Nat.le_trans K91_.1 p95__1
  have K95_ := K91_.trans p95__0 (allS (Or.inl (List.mem_of_getElem? (i := 0) rfl)) all0)
  refine jg T95_ mM 561 ll27 [(.ref a)] (fun tT kK => ?_) ?_
  · refine XS.aloadN X95_.here hx rfl (hC e32_557.2.1) rfl rfl ?_
    exact kK
  refine jf X95_ hx hZ hown (jk hw 91 rfl) rfl p95__3.g0 (hC e32_557.2.2.1) fun T104_ X104_ e104_ => ?_
  refine jg T104_ mM 566 ll27 [(.int (lcmpW ((t - f) + (ft - ff)) (0 : Int64)))] (fun tT kK => ?_) ?_
  · refine XS.lconst X104_.here hx rfl (hC e32_557.2.2.2) ?_
    refine XS.lcmp X104_.here hx rfl (hC e32_565.1) rfl ?_
    exact kK
  have t105_ := own_add (x := (t - f)) (y := (ft - ff)) (by omega)
  have t106_ : (0 : Int64).toInt = 0 := rfl
  refine jg T104_ mM 573 ll27 [] (fun tT kK => ?_) ?_
  · refine XS.ifYes X104_.here hx rfl (pc0 := 566) (pc' := 573) rfl (hC e32_565.2.1) rfl ((if0 _ _).trans (feq (mt (lw_eq ((t - f) + (ft - ff)) (0 : Int64)).mp ((own_nev (by omega)) : ¬ (((t - f) + (ft - ff)) = (0 : Int64))))).2) (by decide) (by decide) ?_
    exact kK
  exact own_rV X104_ hx hlk hre (hC e32_565.2.2.1) e104_ (by decide) (by decide) ⟨bc_95_, kc_95_, en_91_, en_91_, vs_95_, rfl, N95_, K95_, sz_bc_95_, p95__2, (by omega), p95__3, p95__4⟩
theorem e32_49 : jD27 49 (.iload 10, 2) ∧ jD27 51 (.istore 13, 2) ∧ jD27 53 (.lload 11, 2) ∧ jD27 55 (.lstore 14, 2) := by decide +kernel
theorem e32_57 : jD27 57 (.aload 6, 2) ∧ jD27 59 (.getfield 69, 3) ∧ jD27 62 (.lstore 16, 2) ∧ jD27 64 (.aload 6, 2) := by decide +kernel
theorem e32_66 : jD27 66 (.getfield 66, 3) ∧ jD27 69 (.lstore 18, 2) ∧ jD27 71 (.lload 8, 2) ∧ jD27 73 (.aload 6, 2) := by decide +kernel
theorem e32_75 : jD27 75 (.getfield 66, 3) ∧ jD27 78 (.aload 6, 2) ∧ jD27 80 (.getfield 69, 3) ∧ jD27 83 (.lsub, 1) := by decide +kernel
theorem e32_84 : jD27 84 (.ladd, 1) ∧ jD27 85 (.lstore 8, 2) ∧ jD27 87 (.aload 6, 2) ∧ jD27 89 (.getfield 72, 3) := by decide +kernel
theorem e32_92 : jD27 92 (.istore 10, 2) ∧ jD27 94 (.aload 6, 2) ∧ jD27 96 (.invokevirtual 75, 3) ∧ jD27 99 (.istore 7, 2) := by decide +kernel
theorem e32_101 : jD27 101 (.aload 6, 2) ∧ jD27 103 (.getfield 69, 3) ∧ jD27 106 (.lload 18, 2) ∧ jD27 108 (.lsub, 1) := by decide +kernel
theorem e32_109 : jD27 109 (.lstore 11, 2) ∧ jD27 111 (.goto (-77), 3) ∧ jD27 126 (.iload 10, 2) := by decide +kernel
theorem own_ef_rm_S4 (mM : MethodId) (x0 : Addr) (x1 : Int64) (x2 : Int64) (x3 : Int32) : entryFrame mM #[(.ref x0), (.long x1), (.long x2), (.int x3)] 46 = mkF mM 0 #[.val (.ref x0), .val (.long x1), .second, .val (.long x2), .second, .val (.int x3), .unset, .unset, .unset, .unset, .unset, .unset, .unset, .unset, .unset, .unset, .unset, .unset, .unset, .unset, .unset, .unset, .unset, .unset, .unset, .unset, .unset, .unset, .unset, .unset, .unset, .unset, .unset, .unset, .unset, .unset, .unset, .unset, .unset, .unset, .unset, .unset, .unset, .unset, .unset, .unset] [] := by first | (simp [entryFrame, mkF, argsToLocals, Value.category]; done) | rfl
def Q_rm_S4 (Z : State) (a : Addr) (nb : Addr) (kn : ClassId) (sz : Int64) (ff : Int64) (ft : Int64) (lg : Int64) (lf : Int64) (lt : Int64) (ba : Addr) (kb : ClassId) (en : Int32) (z : Int32) (vs : List Value) (f : Int64) (t : Int64) (h0 : Heap) (n0 : Nat) (vV : Option Value) (hH : Heap) (lA : List Loc) : Prop := vV = none ∧ Fr n0 lA ∧ (Keep h0 hH [a]) ∧ (own_bP Z hH a ((0 : Int64) + (ft - ff)) ff ft (.ref nb) (0 : Int32) (0 : Int32) (-1 : Int32) (0 : Int64) ff ft)
theorem rm_S4 (lL : Launch) (Z : State) (a0 : Array Value) (hw : own_H a0 Z) (ws : List Jvm.Cond) (a : Addr) (nb : Addr) (kn : ClassId) (sz : Int64) (ff : Int64) (ft : Int64) (lg : Int64) (lf : Int64) (lt : Int64) (ba : Addr) (kb : ClassId) (en : Int32) (z : Int32) (vs : List Value) (f : Int64) (t : Int64) (h0 : Heap) (n0 : Nat) (Z0 : n0 ≤ h0.size) (F0 : own_bP Z h0 a sz ff ft (.ref ba) (0 : Int32) en (0 : Int32) lg lf lt) (Vb : Arv Z h0 ba kb .byte z vs (.int 0)) (hE : own_E vs en.toNatClampNeg lg.toInt) (hn : 0 ≤ en.toInt ∧ en.toInt ≤ z.toInt) (Vn : Arv Z h0 nb kn .byte (0 : Int32) [] (.int 0)) (Zb : Sta Z Z.heap "com/example/portion/portion/server/OffsetSet" "NO_BYTES" "[B" (.ref nb)) (O0 : Old Z n0 h0) (hf0 : 0 ≤ ff.toInt ∧ ff.toInt < 9223372036854775807) (hd : ft.toInt = ff.toInt + 1) (hg : 1 ≤ lg.toInt ∧ lf.toInt = ft.toInt + lg.toInt) (hl1 : lt.toInt = lf.toInt + 1) (h1 : f.toInt = lf.toInt) (h2 : t.toInt = lf.toInt + 1) (g_a : n0 ≤ a) :
    own_Met lL jy27 (Jvm.Cond.code jy27 prog_39_method_8_code 46 none :: ws) jr21 #[(.ref a), (.long f), (.long t), (.int 0)] Z h0 (Q_rm_S4 Z a nb kn sz ff ft lg lf lt ba kb en z vs f t h0 n0) := by
  refine own_begin (plainFor_of_name own_pn_com_example_portion_portion_server_OffsetSet_Page) (fun mM => own_ef_rm_S4 mM a f t (0 : Int32)) fun pP eE sS mM below meth cC s₁ hx hby hml hZ hown hnm hre hlk X0 e0 => ?_
  have hC := @Jvm.hb _ _ hby
  have N0 := Fr.nil n0
  have K0 := Keep.refl h0 [a]
  have rlt := rng64 lt
  let ll1 : Array Slot := #[vR a, vJ f, vS, vJ t, vS, vI 0, vU, vU, vU, vU, vU, vU, vU, vU, vU, vU, vU, vU, vU, vU, vU, vU, vU, vU, vU, vU, vU, vU, vU, vU, vU, vU, vU, vU, vU, vU, vU, vU, vU, vU, vU, vU, vU, vU, vU, vU]
  obtain ⟨T1_, h1_, X1_, e1_, E1_, A1_, D1_, -, st1_⟩ := newO X0 hx hZ hown (jk hw 114 rfl) (jk hw 115 rfl) (jk hw 116 rfl) e0 (g := (mkF mM 0 ll1 [])) rfl (hC e32_0.1) (by decide) (by decide)
  obtain ⟨b1_, g1_⟩ : ∃ z, z = h0.size := ⟨_, rfl⟩
  rw [← g1_] at A1_ D1_ st1_
  have sz_b1_ : h0.size ≤ b1_ := Nat.le_trans K0.1 (Nat.le_of_eq g1_.symm)
  have ge_b1_ : n0 ≤ b1_ := Nat.le_trans Z0 sz_b1_
  have ne2_ : a ≠ b1_ := Nat.ne_of_lt (Nat.lt_of_lt_of_le F0.lt (Nat.le_of_eq g1_.symm))
  have ne3_ : ba ≠ b1_ := Nat.ne_of_lt (Nat.lt_of_lt_of_le Vb.lt (Nat.le_of_eq g1_.symm))
  have ne4_ : nb ≠ b1_ := Nat.ne_of_lt (Nat.lt_of_lt_of_le Vn.lt (Nat.le_of_eq g1_.symm))
  have fc5_ := F0.ext E1_
  have fc6_ := Vb.ext E1_
  have fc7_ := Vn.ext E1_
  have fc8_ := O0.ext E1_
  have K1_ := K0.ext E1_
  have Bn1_ : own_bR Z h1_ b1_ .null (0 : Int64) (0 : Int64) (0 : Int32) := ⟨A1_, D1_ (Or.inr (jk hw 121 rfl)) (ty := (.object "com/example/portion/portion/server/OffsetSet$Page")) (by decide), D1_ (Or.inl (jk hw 125 rfl)) (ty := .long) (by decide), D1_ (Or.inl (jk hw 128 rfl)) (ty := .long) (by decide), D1_ (Or.inl (jk hw 132 rfl)) (ty := .int) (by decide)⟩
  refine own_fin st1_ ?_
  refine jg T1_ mM 5 ll1 [(.ref a), (.ref b1_), (.ref b1_)] (fun tT kK => ?_) ?_
  · refine XS.dup X1_.here hx rfl (hC e32_0.2.1) rfl rfl ?_
    refine XS.aloadN X1_.here hx rfl (hC e32_0.2.2.1) rfl rfl ?_
    exact kK
  obtain ⟨_, _, ⟨T9_, L9_, k9_, n9_⟩, -, X9_, ⟨Lc9_, hQ9_, l9_, y9_, z9_⟩, st9_⟩ := X1_.specialBackNest hx (y := jy19) rfl hown (own_mvMN hZ (jk hw 117 rfl)) (jm hZ hw 118 rfl) (jm hZ hw 119 rfl) (by decide) (backOf (W := 1) (rm_rn lL Z a0 hw [] b1_ a ff ft h1_ n0 (Nat.le_trans Z0 K1_.1) Bn1_ fc5_.E fc5_.g1 fc5_.g2 fc5_.g4 ge_b1_) hZ (jk hw 119 rfl) (jk hw 116 rfl) (by decide) (by decide)) (g := (mkF mM 5 ll1 [(.ref a), (.ref b1_), (.ref b1_)])) rfl (by rw [hml]; rfl) (Steps.refl _) (a := b1_) (argsL := [(.ref a)]) (rest := [(.ref b1_)]) (lenOf own_pd7 rfl) rfl (by show 2 * 0 + _ ≤ _; exact Nat.le_of_eq rfl) (hC e32_0.2.2.2) (fun _ _ => ⟨rfl, e1_, (by decide : 1 + 0 ≤ _), (by decide : 4 + 0 ≤ _)⟩)
  dsimp only [Pt.U, Pt.locs, Pt.cells, Pt.slots] at X9_ l9_ y9_ z9_ st9_ hQ9_
  subst l9_ y9_ z9_
  obtain ⟨rfl, N9_q, p9__0, p9__1⟩ := hQ9_
  have N9_ := Fr.app N0 N9_q
  have fc10_ := fc5_.keep p9__0 (ninS ne2_ nin0)
  have fc11_ := fc6_.keep p9__0 (ninS ne3_ nin0)
  have fc12_ := fc7_.keep p9__0 (ninS ne4_ nin0)
  have fc13_ := fc8_.keep p9__0 (allS ge_b1_ all0)
  have K9_ := K1_.trans p9__0 (allS (Or.inr sz_b1_) all0)
  refine own_fin (fun tT kK => st9_.trans kK) ?_
  let ll2 : Array Slot := #[vR a, vJ f, vS, vJ t, vS, vI 0, vR b1_, vI 1, vJ 0, vS, vI (-1), vJ 0, vS, vI (-1), vJ 0, vS, vJ 0, vS, vJ 0, vS, vU, vU, vU, vU, vU, vU, vU, vU, vU, vU, vU, vU, vU, vU, vU, vU, vU, vU, vU, vU, vU, vU, vU, vU, vU, vU]
  refine jg T9_ mM 41 ll2 [(.ref b1_)] (fun tT kK => ?_) ?_
  · let ll3 : Array Slot := #[vR a, vJ f, vS, vJ t, vS, vI 0, vR b1_, vU, vU, vU, vU, vU, vU, vU, vU, vU, vU, vU, vU, vU, vU, vU, vU, vU, vU, vU, vU, vU, vU, vU, vU, vU, vU, vU, vU, vU, vU, vU, vU, vU, vU, vU, vU, vU, vU, vU]
    refine XS.astore X9_.here hx rfl (hC e32_8.1) rfl rfl (l' := ll3) rfl ?_
    refine XS.iconst X9_.here hx rfl (hC e32_8.2.1) ?_
    let ll4 : Array Slot := #[vR a, vJ f, vS, vJ t, vS, vI 0, vR b1_, vI 1, vU, vU, vU, vU, vU, vU, vU, vU, vU, vU, vU, vU, vU, vU, vU, vU, vU, vU, vU, vU, vU, vU, vU, vU, vU, vU, vU, vU, vU, vU, vU, vU, vU, vU, vU, vU, vU, vU]
    refine XS.istore X9_.here hx rfl (hC e32_8.2.2.1) rfl (l' := ll4) rfl ?_
    refine XS.lconst X9_.here hx rfl (hC e32_8.2.2.2) ?_
    let ll5 : Array Slot := #[vR a, vJ f, vS, vJ t, vS, vI 0, vR b1_, vI 1, vJ 0, vS, vU, vU, vU, vU, vU, vU, vU, vU, vU, vU, vU, vU, vU, vU, vU, vU, vU, vU, vU, vU, vU, vU, vU, vU, vU, vU, vU, vU, vU, vU, vU, vU, vU, vU, vU, vU]
    refine XS.lstore X9_.here hx rfl (hC e32_14.1) rfl (l' := ll5) rfl ?_
    refine XS.iconst X9_.here hx rfl (hC e32_14.2.1) ?_
    let ll6 : Array Slot := #[vR a, vJ f, vS, vJ t, vS, vI 0, vR b1_, vI 1, vJ 0, vS, vI (-1), vU, vU, vU, vU, vU, vU, vU, vU, vU, vU, vU, vU, vU, vU, vU, vU, vU, vU, vU, vU, vU, vU, vU, vU, vU, vU, vU, vU, vU, vU, vU, vU, vU, vU, vU]
    refine XS.istore X9_.here hx rfl (hC e32_14.2.2.1) rfl (l' := ll6) rfl ?_
    refine XS.lconst X9_.here hx rfl (hC e32_14.2.2.2) ?_
    let ll7 : Array Slot := #[vR a, vJ f, vS, vJ t, vS, vI 0, vR b1_, vI 1, vJ 0, vS, vI (-1), vJ 0, vS, vU, vU, vU, vU, vU, vU, vU, vU, vU, vU, vU, vU, vU, vU, vU, vU, vU, vU, vU, vU, vU, vU, vU, vU, vU, vU, vU, vU, vU, vU, vU, vU, vU]
    refine XS.lstore X9_.here hx rfl (hC e32_20.1) rfl (l' := ll7) rfl ?_
    refine XS.iconst X9_.here hx rfl (hC e32_20.2.1) ?_
    let ll8 : Array Slot := #[vR a, vJ f, vS, vJ t, vS, vI 0, vR b1_, vI 1, vJ 0, vS, vI (-1), vJ 0, vS, vI (-1), vU, vU, vU, vU, vU, vU, vU, vU, vU, vU, vU, vU, vU, vU, vU, vU, vU, vU, vU, vU, vU, vU, vU, vU, vU, vU, vU, vU, vU, vU, vU, vU]
    refine XS.istore X9_.here hx rfl (hC e32_20.2.2.1) rfl (l' := ll8) rfl ?_
    refine XS.lconst X9_.here hx rfl (hC e32_20.2.2.2) ?_
    let ll9 : Array Slot := #[vR a, vJ f, vS, vJ t, vS, vI 0, vR b1_, vI 1, vJ 0, vS, vI (-1), vJ 0, vS, vI (-1), vJ 0, vS, vU, vU, vU, vU, vU, vU, vU, vU, vU, vU, vU, vU, vU, vU, vU, vU, vU, vU, vU, vU, vU, vU, vU, vU, vU, vU, vU, vU, vU, vU]
    refine XS.lstore X9_.here hx rfl (hC e32_26.1) rfl (l' := ll9) rfl ?_
    refine XS.lconst X9_.here hx rfl (hC e32_26.2.1) ?_
    let ll10 : Array Slot := #[vR a, vJ f, vS, vJ t, vS, vI 0, vR b1_, vI 1, vJ 0, vS, vI (-1), vJ 0, vS, vI (-1), vJ 0, vS, vJ 0, vS, vU, vU, vU, vU, vU, vU, vU, vU, vU, vU, vU, vU, vU, vU, vU, vU, vU, vU, vU, vU, vU, vU, vU, vU, vU, vU, vU, vU]
    refine XS.lstore X9_.here hx rfl (hC e32_26.2.2.1) rfl (l' := ll10) rfl ?_
    refine XS.lconst X9_.here hx rfl (hC e32_26.2.2.2) ?_
    refine XS.lstore X9_.here hx rfl (hC e32_32.1) rfl (l' := ll2) rfl ?_
    refine XS.iload X9_.here hx rfl (hC e32_32.2.1) rfl ?_
    refine XS.ifNo X9_.here hx rfl (hC e32_32.2.2.1) rfl ((if0 _ _).trans (feq ((by decide) : ¬ ((1 : Int32) = (0 : Int32)))).1) ?_
    refine XS.aload X9_.here hx rfl (hC e32_32.2.2.2) rfl rfl ?_
    exact kK
  refine jn X9_ hx hZ hown (jk hw 210 rfl) rfl p9__1.g2 (hC e32_41.1) fun T14_ X14_ e14_ => ?_
  refine jg T14_ mM 59 ll2 [(.ref b1_)] (fun tT kK => ?_) ?_
  · refine XS.lloadN X14_.here hx rfl (hC e32_41.2.1) rfl ?_
    refine XS.lcmp X14_.here hx rfl (hC e32_41.2.2.1) rfl ?_
    refine XS.ifNo X14_.here hx rfl (hC e32_41.2.2.2) rfl ((if0 _ _).trans (tlt ((lw_lt ft f).mpr ((own_lt (by omega)) : ft < f))).2.1) ?_
    refine XS.iload X14_.here hx rfl (hC e32_49.1) rfl ?_
    refine XS.istore X14_.here hx rfl (hC e32_49.2.1) rfl (l' := ll2) rfl ?_
    refine XS.lload X14_.here hx rfl (hC e32_49.2.2.1) rfl ?_
    refine XS.lstore X14_.here hx rfl (hC e32_49.2.2.2) rfl (l' := ll2) rfl ?_
    refine XS.aload X14_.here hx rfl (hC e32_57.1) rfl rfl ?_
    exact kK
  refine jn X14_ hx hZ hown (jk hw 211 rfl) e14_ p9__1.g1 (hC e32_57.2.1) fun T15_ X15_ e15_ => ?_
  let ll11 : Array Slot := #[vR a, vJ f, vS, vJ t, vS, vI 0, vR b1_, vI 1, vJ 0, vS, vI (-1), vJ 0, vS, vI (-1), vJ 0, vS, vJ ff, vS, vJ 0, vS, vU, vU, vU, vU, vU, vU, vU, vU, vU, vU, vU, vU, vU, vU, vU, vU, vU, vU, vU, vU, vU, vU, vU, vU, vU, vU]
  refine jg T15_ mM 66 ll11 [(.ref b1_)] (fun tT kK => ?_) ?_
  · refine XS.lstore X15_.here hx rfl (hC e32_57.2.2.1) rfl (l' := ll11) rfl ?_
    refine XS.aload X15_.here hx rfl (hC e32_57.2.2.2) rfl rfl ?_
    exact kK
  refine jn X15_ hx hZ hown (jk hw 210 rfl) e15_ p9__1.g2 (hC e32_66.1) fun T16_ X16_ e16_ => ?_
  let ll12 : Array Slot := #[vR a, vJ f, vS, vJ t, vS, vI 0, vR b1_, vI 1, vJ 0, vS, vI (-1), vJ 0, vS, vI (-1), vJ 0, vS, vJ ff, vS, vJ ft, vS, vU, vU, vU, vU, vU, vU, vU, vU, vU, vU, vU, vU, vU, vU, vU, vU, vU, vU, vU, vU, vU, vU, vU, vU, vU, vU]
  refine jg T16_ mM 75 ll12 [(.ref b1_), (.long 0)] (fun tT kK => ?_) ?_
  · refine XS.lstore X16_.here hx rfl (hC e32_66.2.1) rfl (l' := ll12) rfl ?_
    refine XS.lload X16_.here hx rfl (hC e32_66.2.2.1) rfl ?_
    refine XS.aload X16_.here hx rfl (hC e32_66.2.2.2) rfl rfl ?_
    exact kK
  refine jn X16_ hx hZ hown (jk hw 210 rfl) e16_ p9__1.g2 (hC e32_75.1) fun T17_ X17_ e17_ => ?_
  refine jg T17_ mM 80 ll12 [(.ref b1_), (.long ft), (.long 0)] (fun tT kK => ?_) ?_
  · refine XS.aload X17_.here hx rfl (hC e32_75.2.1) rfl rfl ?_
    exact kK
  refine jn X17_ hx hZ hown (jk hw 211 rfl) e17_ p9__1.g1 (hC e32_75.2.2.1) fun T18_ X18_ e18_ => ?_
  let ll13 : Array Slot := #[vR a, vJ f, vS, vJ t, vS, vI 0, vR b1_, vI 1, vJ ((0 : Int64) + (ft - ff)), vS, vI (-1), vJ 0, vS, vI (-1), vJ 0, vS, vJ ff, vS, vJ ft, vS, vU, vU, vU, vU, vU, vU, vU, vU, vU, vU, vU, vU, vU, vU, vU, vU, vU, vU, vU, vU, vU, vU, vU, vU, vU, vU]
  refine jg T18_ mM 89 ll13 [(.ref b1_)] (fun tT kK => ?_) ?_
  · refine XS.lsub X18_.here hx rfl (hC e32_75.2.2.2) rfl ?_
    refine XS.ladd X18_.here hx rfl (hC e32_84.1) rfl ?_
    refine XS.lstore X18_.here hx rfl (hC e32_84.2.1) rfl (l' := ll13) rfl ?_
    refine XS.aload X18_.here hx rfl (hC e32_84.2.2.1) rfl rfl ?_
    exact kK
  refine jn X18_ hx hZ hown (jk hw 212 rfl) e18_ p9__1.g3 (hC e32_84.2.2.2) fun T19_ X19_ e19_ => ?_
  let ll14 : Array Slot := #[vR a, vJ f, vS, vJ t, vS, vI 0, vR b1_, vI 1, vJ ((0 : Int64) + (ft - ff)), vS, vI 0, vJ 0, vS, vI (-1), vJ 0, vS, vJ ff, vS, vJ ft, vS, vU, vU, vU, vU, vU, vU, vU, vU, vU, vU, vU, vU, vU, vU, vU, vU, vU, vU, vU, vU, vU, vU, vU, vU, vU, vU]
  refine jg T19_ mM 96 ll14 [(.ref b1_)] (fun tT kK => ?_) ?_
  · refine XS.istore X19_.here hx rfl (hC e32_92.1) rfl (l' := ll14) rfl ?_
    refine XS.aload X19_.here hx rfl (hC e32_92.2.1) rfl rfl ?_
    exact kK
  refine jv X19_ hx hZ (y := jy20) hown (jk hw 133 rfl) (jk hw 134 rfl) (jk hw 136 rfl) (jk hw 135 rfl) (jk hw 137 rfl) (jk hw 116 rfl) (rm_n1 lL Z a0 hw [] b1_ a ba kb ff ft lg en z vs T9_.heap n0 (Nat.le_trans Z0 K9_.1) p9__1 fc10_.E fc10_.g3 fc11_ fc10_.g5 hE hn ge_b1_) p9__1.E e19_ own_pd8 [] [] (hC e32_92.2.2.1) rfl rfl (by rw [hml]; rfl) (by decide) 0 (Nat.le_of_eq rfl) (by decide) (by decide) (by decide : 1 + 0 ≤ _) (by decide : 4 + 0 ≤ _) fun vv20_ T20_ L20_ X20_ hQ20_ => ?_
  obtain ⟨rfl, N20_q, p20__0, p20__1⟩ := hQ20_
  have N20_ := Fr.app N9_ N20_q
  have fc21_ := fc10_.keep p20__0 (ninS ne2_ nin0)
  have fc22_ := fc11_.keep p20__0 (ninS ne3_ nin0)
  have fc23_ := fc12_.keep p20__0 (ninS ne4_ nin0)
  have fc24_ := fc13_.keep p20__0 (allS ge_b1_ all0)
  have K20_ := K9_.trans p20__0 (allS (Or.inr sz_b1_) all0)
  refine jg T20_ mM 103 ll14 [(.ref b1_)] (fun tT kK => ?_) ?_
  · refine XS.istore X20_.here hx rfl (hC e32_92.2.2.2) rfl (l' := ll14) rfl ?_
    refine XS.aload X20_.here hx rfl (hC e32_101.1) rfl rfl ?_
    exact kK
  refine jn X20_ hx hZ hown (jk hw 211 rfl) rfl p20__1.g1 (hC e32_101.2.1) fun T25_ X25_ e25_ => ?_
  let ll15 : Array Slot := #[vR a, vJ f, vS, vJ t, vS, vI 0, vR b1_, vI 1, vJ ((0 : Int64) + (ft - ff)), vS, vI 0, vJ ((ft + lg) - ft), vS, vI (-1), vJ 0, vS, vJ ff, vS, vJ ft, vS, vU, vU, vU, vU, vU, vU, vU, vU, vU, vU, vU, vU, vU, vU, vU, vU, vU, vU, vU, vU, vU, vU, vU, vU, vU, vU]
  refine jg T25_ mM 41 ll15 [(.ref b1_)] (fun tT kK => ?_) ?_
  · refine XS.lload X25_.here hx rfl (hC e32_101.2.2.1) rfl ?_
    refine XS.lsub X25_.here hx rfl (hC e32_101.2.2.2) rfl ?_
    refine XS.lstore X25_.here hx rfl (hC e32_109.1) rfl (l' := ll15) rfl ?_
    refine XS.goto X25_.here hx rfl (pc0 := 111) (pc' := 34) rfl (hC e32_109.2.1) (by decide) (by decide) ?_
    refine XS.iload X25_.here hx rfl (hC e32_32.2.1) rfl ?_
    refine XS.ifNo X25_.here hx rfl (hC e32_32.2.2.1) rfl ((if0 _ _).trans (feq ((by decide) : ¬ ((1 : Int32) = (0 : Int32)))).1) ?_
    refine XS.aload X25_.here hx rfl (hC e32_32.2.2.2) rfl rfl ?_
    exact kK
  refine jn X25_ hx hZ hown (jk hw 210 rfl) e25_ p20__1.g2 (hC e32_41.1) fun T26_ X26_ e26_ => ?_
  refine jg T26_ mM 46 ll15 [(.int (lcmpW ((ft + lg) + (1 : Int64)) f))] (fun tT kK => ?_) ?_
  · refine XS.lloadN X26_.here hx rfl (hC e32_41.2.1) rfl ?_
    refine XS.lcmp X26_.here hx rfl (hC e32_41.2.2.1) rfl ?_
    exact kK
  have t27_ := own_add (x := ft) (y := lg) (by omega)
  have t28_ : (1 : Int64).toInt = 1 := rfl
  have t29_ := own_add (x := (ft + lg)) (y := (1 : Int64)) (by omega)
  let ll16 : Array Slot := #[vR a, vJ f, vS, vJ t, vS, vI 0, vR b1_, vI 1, vJ ((0 : Int64) + (ft - ff)), vS, vI 0, vJ ((ft + lg) - ft), vS, vI (-1), vJ 0, vS, vJ ff, vS, vJ ft, vS, vI 0, vU, vU, vU, vU, vU, vU, vU, vU, vU, vU, vU, vU, vU, vU, vU, vU, vU, vU, vU, vU, vU, vU, vU, vU, vU]
  refine jg T26_ mM 137 ll16 [(.ref b1_)] (fun tT kK => ?_) ?_
  · refine XS.ifYes X26_.here hx rfl (pc0 := 46) (pc' := 114) rfl (hC e32_41.2.2.2) rfl ((if0 _ _).trans (flt (mt (lw_lt ((ft + lg) + (1 : Int64)) f).mp ((own_nl (by omega)) : ¬ (((ft + lg) + (1 : Int64)) < f)))).2.1) (by decide) (by decide) ?_
    refine XS.iload X26_.here hx rfl (hC e32_114.1) rfl ?_
    refine XS.ifYes X26_.here hx rfl (pc0 := 116) (pc' := 126) rfl (hC e32_114.2.1) rfl ((if0 _ _).trans (flt ((by decide) : ¬ ((0 : Int32) < (0 : Int32)))).2.1) (by decide) (by decide) ?_
    refine XS.iload X26_.here hx rfl (hC e32_109.2.2) rfl ?_
    refine XS.istore X26_.here hx rfl (hC e32_123.2.1) rfl (l' := ll16) rfl ?_
    refine XS.iload X26_.here hx rfl (hC e32_123.2.2.1) rfl ?_
    refine XS.ifNo X26_.here hx rfl (hC e32_123.2.2.2) rfl ((if0 _ _).trans (feq ((by decide) : ¬ ((1 : Int32) = (0 : Int32)))).1) ?_
    refine XS.aload X26_.here hx rfl (hC e32_135.1) rfl rfl ?_
    exact kK
  refine jn X26_ hx hZ hown (jk hw 211 rfl) e26_ p20__1.g1 (hC e32_135.2.1) fun T30_ X30_ e30_ => ?_
  let ll17 : Array Slot := #[vR a, vJ f, vS, vJ t, vS, vI 0, vR b1_, vI 1, vJ ((0 : Int64) + (ft - ff)), vS, vI 0, vJ ((ft + lg) - ft), vS, vI (-1), vJ 0, vS, vJ ff, vS, vJ ft, vS, vI 0, vI 1, vU, vU, vU, vU, vU, vU, vU, vU, vU, vU, vU, vU, vU, vU, vU, vU, vU, vU, vU, vU, vU, vU, vU, vU]
  refine jg T30_ mM 159 ll17 [(.ref b1_)] (fun tT kK => ?_) ?_
  · refine XS.lloadN X30_.here hx rfl (hC e32_135.2.2.1) rfl ?_
    refine XS.lcmp X30_.here hx rfl (hC e32_135.2.2.2) rfl ?_
    refine XS.ifNo X30_.here hx rfl (hC e32_142.1) rfl ((if0 _ _).trans (flt (mt (lw_gt (ft + lg) t).mp ((own_nl (by omega)) : ¬ (t < (ft + lg))))).2.2.1) ?_
    refine XS.iconst X30_.here hx rfl (hC e32_142.2.1) ?_
    refine XS.goto X30_.here hx rfl (pc0 := 146) (pc' := 150) rfl (hC e32_142.2.2.1) (by decide) (by decide) ?_
    refine XS.istore X30_.here hx rfl (hC e32_142.2.2.2) rfl (l' := ll17) rfl ?_
    refine XS.iload X30_.here hx rfl (hC e32_152.1) rfl ?_
    refine XS.ifNo X30_.here hx rfl (hC e32_152.2.1) rfl ((if0 _ _).trans (feq ((by decide) : ¬ ((1 : Int32) = (0 : Int32)))).1) ?_
    refine XS.aload X30_.here hx rfl (hC e32_152.2.2.1) rfl rfl ?_
    exact kK
  refine jn X30_ hx hZ hown (jk hw 211 rfl) e30_ p20__1.g1 (hC e32_152.2.2.2) fun T31_ X31_ e31_ => ?_
  let ll18 : Array Slot := #[vR a, vJ f, vS, vJ t, vS, vI 0, vR b1_, vI 1, vJ ((0 : Int64) + (ft - ff)), vS, vI 0, vJ ((ft + lg) - ft), vS, vI (-1), vJ 0, vS, vJ ff, vS, vJ ft, vS, vI 0, vI 1, vJ (ft + lg), vS, vJ t, vS, vJ 0, vS, vU, vU, vU, vU, vU, vU, vU, vU, vU, vU, vU, vU, vU, vU, vU, vU, vU, vU]
  refine jg T31_ mM 181 ll18 [(.ref b1_)] (fun tT kK => ?_) ?_
  · refine XS.goto X31_.here hx rfl (pc0 := 162) (pc' := 166) rfl (hC e32_162.1) (by decide) (by decide) ?_
    let ll19 : Array Slot := #[vR a, vJ f, vS, vJ t, vS, vI 0, vR b1_, vI 1, vJ ((0 : Int64) + (ft - ff)), vS, vI 0, vJ ((ft + lg) - ft), vS, vI (-1), vJ 0, vS, vJ ff, vS, vJ ft, vS, vI 0, vI 1, vJ (ft + lg), vS, vU, vU, vU, vU, vU, vU, vU, vU, vU, vU, vU, vU, vU, vU, vU, vU, vU, vU, vU, vU, vU, vU]
    refine XS.lstore X31_.here hx rfl (hC e32_162.2.1) rfl (l' := ll19) rfl ?_
    refine XS.lloadN X31_.here hx rfl (hC e32_162.2.2.1) rfl ?_
    let ll20 : Array Slot := #[vR a, vJ f, vS, vJ t, vS, vI 0, vR b1_, vI 1, vJ ((0 : Int64) + (ft - ff)), vS, vI 0, vJ ((ft + lg) - ft), vS, vI (-1), vJ 0, vS, vJ ff, vS, vJ ft, vS, vI 0, vI 1, vJ (ft + lg), vS, vJ t, vS, vU, vU, vU, vU, vU, vU, vU, vU, vU, vU, vU, vU, vU, vU, vU, vU, vU, vU, vU, vU]
    refine XS.lstore X31_.here hx rfl (hC e32_162.2.2.2) rfl (l' := ll20) rfl ?_
    refine XS.lconst X31_.here hx rfl (hC e32_171.1) ?_
    refine XS.lstore X31_.here hx rfl (hC e32_171.2.1) rfl (l' := ll18) rfl ?_
    refine XS.iload X31_.here hx rfl (hC e32_171.2.2.1) rfl ?_
    refine XS.ifNo X31_.here hx rfl (hC e32_171.2.2.2) rfl ((if0 _ _).trans (feq ((by decide) : ¬ ((1 : Int32) = (0 : Int32)))).1) ?_
    refine XS.aload X31_.here hx rfl (hC e32_179.1) rfl rfl ?_
    exact kK
  refine jn X31_ hx hZ hown (jk hw 211 rfl) e31_ p20__1.g1 (hC e32_179.2.1) fun T32_ X32_ e32_ => ?_
  refine jg T32_ mM 191 ll18 [(.ref b1_)] (fun tT kK => ?_) ?_
  · refine XS.lloadN X32_.here hx rfl (hC e32_179.2.2.1) rfl ?_
    show Steps pP.tables eE below (T32_.setTop (mkF mM 185 ll18 [(.long t), (.long (ft + lg))])) tT
    refine XS.lcmp X32_.here hx rfl (hC e32_179.2.2.2) rfl ?_
    refine XS.ifNo X32_.here hx rfl (hC e32_186.1) rfl ((if0 _ _).trans (flt (mt (lw_gt (ft + lg) t).mp ((own_nl (by omega)) : ¬ (t < (ft + lg))))).2.2.1) ?_
    refine XS.aload X32_.here hx rfl (hC e32_186.2.1) rfl rfl ?_
    exact kK
  refine jn X32_ hx hZ hown (jk hw 210 rfl) e32_ p20__1.g2 (hC e32_186.2.2.1) fun T33_ X33_ e33_ => ?_
  let ll21 : Array Slot := #[vR a, vJ f, vS, vJ t, vS, vI 0, vR b1_, vI 1, vJ ((0 : Int64) + (ft - ff)), vS, vI 0, vJ ((ft + lg) - ft), vS, vI (-1), vJ 0, vS, vJ ff, vS, vJ ft, vS, vI 0, vI 1, vJ (ft + lg), vS, vJ ((ft + lg) + (1 : Int64)), vS, vJ 0, vS, vU, vU, vU, vU, vU, vU, vU, vU, vU, vU, vU, vU, vU, vU, vU, vU, vU, vU]
  refine jg T33_ mM 200 ll21 [(.ref b1_), (.long 0)] (fun tT kK => ?_) ?_
  · refine XS.lstore X33_.here hx rfl (hC e32_186.2.2.2) rfl (l' := ll21) rfl ?_
    refine XS.lload X33_.here hx rfl (hC e32_196.1) rfl ?_
    refine XS.aload X33_.here hx rfl (hC e32_196.2.1) rfl rfl ?_
    exact kK
  refine jn X33_ hx hZ hown (jk hw 210 rfl) e33_ p20__1.g2 (hC e32_196.2.2.1) fun T34_ X34_ e34_ => ?_
  refine jg T34_ mM 205 ll21 [(.ref b1_), (.long ((ft + lg) + (1 : Int64))), (.long 0)] (fun tT kK => ?_) ?_
  · refine XS.aload X34_.here hx rfl (hC e32_196.2.2.2) rfl rfl ?_
    exact kK
  refine jn X34_ hx hZ hown (jk hw 211 rfl) e34_ p20__1.g1 (hC e32_205.1) fun T35_ X35_ e35_ => ?_
  let ll22 : Array Slot := #[vR a, vJ f, vS, vJ t, vS, vI 0, vR b1_, vI 1, vJ ((0 : Int64) + (ft - ff)), vS, vI 0, vJ ((ft + lg) - ft), vS, vI (-1), vJ 0, vS, vJ ff, vS, vJ ft, vS, vI 0, vI 1, vJ (ft + lg), vS, vJ ((ft + lg) + (1 : Int64)), vS, vJ ((0 : Int64) + (((ft + lg) + (1 : Int64)) - (ft + lg))), vS, vU, vU, vU, vU, vU, vU, vU, vU, vU, vU, vU, vU, vU, vU, vU, vU, vU, vU]
  refine jg T35_ mM 214 ll22 [(.ref b1_)] (fun tT kK => ?_) ?_
  · refine XS.lsub X35_.here hx rfl (hC e32_205.2.1) rfl ?_
    refine XS.ladd X35_.here hx rfl (hC e32_205.2.2.1) rfl ?_
    refine XS.lstore X35_.here hx rfl (hC e32_205.2.2.2) rfl (l' := ll22) rfl ?_
    refine XS.aload X35_.here hx rfl (hC e32_212.1) rfl rfl ?_
    exact kK
  refine jv X35_ hx hZ (y := jy20) hown (jk hw 133 rfl) (jk hw 134 rfl) (jk hw 136 rfl) (jk hw 135 rfl) (jk hw 137 rfl) (jk hw 116 rfl) (rm_nN lL Z a0 hw [] b1_ a (ft + lg) ((ft + lg) + (1 : Int64)) en T20_.heap n0 (Nat.le_trans Z0 K20_.1) p20__1 fc21_.g5) p20__1.E e35_ own_pd8 [] [] (hC e32_212.2.1) rfl rfl (by rw [hml]; rfl) (by decide) 0 (Nat.le_of_eq rfl) (by decide) (by decide) (by decide : 1 + 0 ≤ _) (by decide : 4 + 0 ≤ _) fun vv36_ T36_ L36_ X36_ hQ36_ => ?_
  obtain ⟨rfl, N36_q, p36__0⟩ := hQ36_
  have N36_ := Fr.app N20_ N36_q
  let ll23 : Array Slot := #[vR a, vJ f, vS, vJ t, vS, vI 0, vR b1_, vI 0, vJ ((0 : Int64) + (ft - ff)), vS, vI 0, vJ ((ft + lg) - ft), vS, vI (-1), vJ 0, vS, vJ ff, vS, vJ ft, vS, vI 0, vI 1, vJ (ft + lg), vS, vJ ((ft + lg) + (1 : Int64)), vS, vJ ((0 : Int64) + (((ft + lg) + (1 : Int64)) - (ft + lg))), vS, vI 0, vU, vU, vU, vU, vU, vU, vU, vU, vU, vU, vU, vU, vU, vU, vU, vU, vU]
  refine jg T36_ mM 228 ll23 [(.ref b1_)] (fun tT kK => ?_) ?_
  · let ll24 : Array Slot := #[vR a, vJ f, vS, vJ t, vS, vI 0, vR b1_, vI 0, vJ ((0 : Int64) + (ft - ff)), vS, vI 0, vJ ((ft + lg) - ft), vS, vI (-1), vJ 0, vS, vJ ff, vS, vJ ft, vS, vI 0, vI 1, vJ (ft + lg), vS, vJ ((ft + lg) + (1 : Int64)), vS, vJ ((0 : Int64) + (((ft + lg) + (1 : Int64)) - (ft + lg))), vS, vU, vU, vU, vU, vU, vU, vU, vU, vU, vU, vU, vU, vU, vU, vU, vU, vU, vU]
    refine XS.istore X36_.here hx rfl (hC e32_212.2.2.1) rfl (l' := ll24) rfl ?_
    refine XS.goto X36_.here hx rfl (pc0 := 219) (pc' := 174) rfl (hC e32_212.2.2.2) (by decide) (by decide) ?_
    refine XS.iload X36_.here hx rfl (hC e32_171.2.2.1) rfl ?_
    refine XS.ifYes X36_.here hx rfl (pc0 := 176) (pc' := 222) rfl (hC e32_171.2.2.2) rfl ((if0 _ _).trans (teq ((by decide) : (0 : Int32) = (0 : Int32))).1) (by decide) (by decide) ?_
    refine XS.iload X36_.here hx rfl (hC e32_222.1) rfl ?_
    refine XS.istore X36_.here hx rfl (hC e32_222.2.1) rfl (l' := ll23) rfl ?_
    refine XS.aload X36_.here hx rfl (hC e32_222.2.2.1) rfl rfl ?_
    exact kK
  refine jn X36_ hx hZ hown (jk hw 211 rfl) p36__0 p20__1.g1 (hC e32_222.2.2.2) fun T37_ X37_ e37_ => ?_
  let ll25 : Array Slot := #[vR a, vJ f, vS, vJ t, vS, vI 0, vR b1_, vI 0, vJ ((0 : Int64) + (ft - ff)), vS, vI 0, vJ ((ft + lg) - ft), vS, vI (-1), vJ 0, vS, vJ ff, vS, vJ ft, vS, vI 0, vI 1, vJ (ft + lg), vS, vJ ((ft + lg) + (1 : Int64)), vS, vJ ((0 : Int64) + (((ft + lg) + (1 : Int64)) - (ft + lg))), vS, vI 0, vJ (ft + lg), vS, vU, vU, vU, vU, vU, vU, vU, vU, vU, vU, vU, vU, vU, vU, vU]
  refine jg T37_ mM 235 ll25 [(.ref b1_)] (fun tT kK => ?_) ?_
  · refine XS.lstore X37_.here hx rfl (hC e32_231.1) rfl (l' := ll25) rfl ?_
    refine XS.aload X37_.here hx rfl (hC e32_231.2.1) rfl rfl ?_
    exact kK
  refine jn X37_ hx hZ hown (jk hw 210 rfl) e37_ p20__1.g2 (hC e32_231.2.2.1) fun T38_ X38_ e38_ => ?_
  let ll26 : Array Slot := #[vR a, vJ f, vS, vJ t, vS, vI 0, vR b1_, vI 0, vJ ((0 : Int64) + (ft - ff)), vS, vI 0, vJ ((ft + lg) - ft), vS, vI (-1), vJ 0, vS, vJ ff, vS, vJ ft, vS, vI 0, vI 1, vJ (ft + lg), vS, vJ ((ft + lg) + (1 : Int64)), vS, vJ ((0 : Int64) + (((ft + lg) + (1 : Int64)) - (ft + lg))), vS, vI 0, vJ (ft + lg), vS, vJ ((ft + lg) + (1 : Int64)), vS, vU, vU, vU, vU, vU, vU, vU, vU, vU, vU, vU, vU, vU]
  refine jg T38_ mM 254 ll26 [(.ref a)] (fun tT kK => ?_) ?_
  · refine XS.lstore X38_.here hx rfl (hC e32_231.2.2.2) rfl (l' := ll26) rfl ?_
    refine XS.iload X38_.here hx rfl (hC e32_240.1) rfl ?_
    refine XS.ifYes X38_.here hx rfl (pc0 := 242) (pc' := 253) rfl (hC e32_240.2.1) rfl ((if0 _ _).trans (teq ((by decide) : (0 : Int32) = (0 : Int32))).1) (by decide) (by decide) ?_
    refine XS.aloadN X38_.here hx rfl (hC e32_240.2.2.1) rfl rfl ?_
    exact kK
  refine jf X38_ hx hZ hown (jk hw 146 rfl) e38_ fc21_.g5 (hC e32_240.2.2.2) fun T39_ X39_ e39_ => ?_
  let ll27 : Array Slot := #[vR a, vJ f, vS, vJ t, vS, vI 0, vR b1_, vI 0, vJ ((0 : Int64) + (ft - ff)), vS, vI 0, vJ ((ft + lg) - ft), vS, vI (-1), vJ 0, vS, vJ ff, vS, vJ ft, vS, vI 0, vI 1, vJ (ft + lg), vS, vJ ((ft + lg) + (1 : Int64)), vS, vJ ((0 : Int64) + (((ft + lg) + (1 : Int64)) - (ft + lg))), vS, vI 0, vJ (ft + lg), vS, vJ ((ft + lg) + (1 : Int64)), vS, vI en, vU, vU, vU, vU, vU, vU, vU, vU, vU, vU, vU, vU]
  refine jg T39_ mM 260 ll27 [(.ref a)] (fun tT kK => ?_) ?_
  · refine XS.istore X39_.here hx rfl (hC e32_257.1) rfl (l' := ll27) rfl ?_
    refine XS.aloadN X39_.here hx rfl (hC e32_257.2.1) rfl rfl ?_
    exact kK
  refine jf X39_ hx hZ hown (jk hw 91 rfl) e39_ fc21_.g0 (hC e32_257.2.2.1) fun T40_ X40_ e40_ => ?_
  let ll28 : Array Slot := #[vR a, vJ f, vS, vJ t, vS, vI 0, vR b1_, vI 0, vJ ((0 : Int64) + (ft - ff)), vS, vI 0, vJ ((ft + lg) - ft), vS, vI (-1), vJ 0, vS, vJ ff, vS, vJ ft, vS, vI 0, vI 1, vJ (ft + lg), vS, vJ ((ft + lg) + (1 : Int64)), vS, vJ ((0 : Int64) + (((ft + lg) + (1 : Int64)) - (ft + lg))), vS, vI 0, vJ (ft + lg), vS, vJ ((ft + lg) + (1 : Int64)), vS, vI en, vJ (((sz - ((0 : Int64) + (ft - ff))) - ((0 : Int64) + (((ft + lg) + (1 : Int64)) - (ft + lg)))) - (0 : Int64)), vS, vU, vU, vU, vU, vU, vU, vU, vU, vU, vU]
  refine jg T40_ mM 287 ll28 [(.ref a)] (fun tT kK => ?_) ?_
  · refine XS.lload X40_.here hx rfl (hC e32_257.2.2.2) rfl ?_
    refine XS.lsub X40_.here hx rfl (hC e32_265.1) rfl ?_
    refine XS.lload X40_.here hx rfl (hC e32_265.2.1) rfl ?_
    refine XS.lsub X40_.here hx rfl (hC e32_265.2.2.1) rfl ?_
    refine XS.iload X40_.here hx rfl (hC e32_265.2.2.2) rfl ?_
    refine XS.ifYes X40_.here hx rfl (pc0 := 271) (pc' := 282) rfl (hC e32_271.1) rfl ((if0 _ _).trans (teq ((by decide) : (0 : Int32) = (0 : Int32))).1) (by decide) (by decide) ?_
    refine XS.lconst X40_.here hx rfl (hC e32_271.2.1) ?_
    refine XS.lsub X40_.here hx rfl (hC e32_271.2.2.1) rfl ?_
    refine XS.lstore X40_.here hx rfl (hC e32_271.2.2.2) rfl (l' := ll28) rfl ?_
    refine XS.aloadN X40_.here hx rfl (hC e32_286.1) rfl rfl ?_
    exact kK
  refine jf X40_ hx hZ hown (jk hw 63 rfl) e40_ fc21_.g3 (hC e32_286.2.1) fun T41_ X41_ e41_ => ?_
  let ll29 : Array Slot := #[vR a, vJ f, vS, vJ t, vS, vI 0, vR b1_, vI 0, vJ ((0 : Int64) + (ft - ff)), vS, vI 0, vJ ((ft + lg) - ft), vS, vI (-1), vJ 0, vS, vJ ff, vS, vJ ft, vS, vI 0, vI 1, vJ (ft + lg), vS, vJ ((ft + lg) + (1 : Int64)), vS, vJ ((0 : Int64) + (((ft + lg) + (1 : Int64)) - (ft + lg))), vS, vI 0, vJ (ft + lg), vS, vJ ((ft + lg) + (1 : Int64)), vS, vI en, vJ (((sz - ((0 : Int64) + (ft - ff))) - ((0 : Int64) + (((ft + lg) + (1 : Int64)) - (ft + lg)))) - (0 : Int64)), vS, vR ba, vU, vU, vU, vU, vU, vU, vU, vU, vU]
  refine jg T41_ mM 293 ll29 [(.ref a)] (fun tT kK => ?_) ?_
  · refine XS.astore X41_.here hx rfl (hC e32_286.2.2.1) rfl rfl (l' := ll29) rfl ?_
    refine XS.aloadN X41_.here hx rfl (hC e32_286.2.2.2) rfl rfl ?_
    exact kK
  refine jf X41_ hx hZ hown (jk hw 145 rfl) e41_ fc21_.g4 (hC e32_293.1) fun T42_ X42_ e42_ => ?_
  let ll30 : Array Slot := #[vR a, vJ f, vS, vJ t, vS, vI 0, vR b1_, vI 0, vJ ((0 : Int64) + (ft - ff)), vS, vI 0, vJ ((ft + lg) - ft), vS, vI (-1), vJ 0, vS, vJ ff, vS, vJ ft, vS, vI 0, vI 1, vJ (ft + lg), vS, vJ ((ft + lg) + (1 : Int64)), vS, vJ ((0 : Int64) + (((ft + lg) + (1 : Int64)) - (ft + lg))), vS, vI 0, vJ (ft + lg), vS, vJ ((ft + lg) + (1 : Int64)), vS, vI en, vJ (((sz - ((0 : Int64) + (ft - ff))) - ((0 : Int64) + (((ft + lg) + (1 : Int64)) - (ft + lg)))) - (0 : Int64)), vS, vR ba, vI 0, vU, vU, vU, vU, vU, vU, vU, vU]
  refine jg T42_ mM 299 ll30 [(.ref a)] (fun tT kK => ?_) ?_
  · refine XS.istore X42_.here hx rfl (hC e32_293.2.1) rfl (l' := ll30) rfl ?_
    refine XS.aloadN X42_.here hx rfl (hC e32_293.2.2.1) rfl rfl ?_
    exact kK
  refine jf X42_ hx hZ hown (jk hw 146 rfl) e42_ fc21_.g5 (hC e32_293.2.2.2) fun T43_ X43_ e43_ => ?_
  let ll31 : Array Slot := #[vR a, vJ f, vS, vJ t, vS, vI 0, vR b1_, vI 0, vJ ((0 : Int64) + (ft - ff)), vS, vI 0, vJ ((ft + lg) - ft), vS, vI (-1), vJ 0, vS, vJ ff, vS, vJ ft, vS, vI 0, vI 1, vJ (ft + lg), vS, vJ ((ft + lg) + (1 : Int64)), vS, vJ ((0 : Int64) + (((ft + lg) + (1 : Int64)) - (ft + lg))), vS, vI 0, vJ (ft + lg), vS, vJ ((ft + lg) + (1 : Int64)), vS, vI en, vJ (((sz - ((0 : Int64) + (ft - ff))) - ((0 : Int64) + (((ft + lg) + (1 : Int64)) - (ft + lg)))) - (0 : Int64)), vS, vR ba, vI 0, vI en, vU, vU, vU, vU, vU, vU, vU]
  refine jg T43_ mM 305 ll31 [(.ref a)] (fun tT kK => ?_) ?_
  · refine XS.istore X43_.here hx rfl (hC e32_302.1) rfl (l' := ll31) rfl ?_
    refine XS.aloadN X43_.here hx rfl (hC e32_302.2.1) rfl rfl ?_
    exact kK
  refine jf X43_ hx hZ hown (jk hw 65 rfl) e43_ fc21_.g6 (hC e32_302.2.2.1) fun T44_ X44_ e44_ => ?_
  let ll32 : Array Slot := #[vR a, vJ f, vS, vJ t, vS, vI 0, vR b1_, vI 0, vJ ((0 : Int64) + (ft - ff)), vS, vI 0, vJ ((ft + lg) - ft), vS, vI (-1), vJ 0, vS, vJ ff, vS, vJ ft, vS, vI 0, vI 1, vJ (ft + lg), vS, vJ ((ft + lg) + (1 : Int64)), vS, vJ ((0 : Int64) + (((ft + lg) + (1 : Int64)) - (ft + lg))), vS, vI 0, vJ (ft + lg), vS, vJ ((ft + lg) + (1 : Int64)), vS, vI en, vJ (((sz - ((0 : Int64) + (ft - ff))) - ((0 : Int64) + (((ft + lg) + (1 : Int64)) - (ft + lg)))) - (0 : Int64)), vS, vR ba, vI 0, vI en, vI 0, vU, vU, vU, vU, vU, vU]
  refine jg T44_ mM 311 ll32 [(.ref a)] (fun tT kK => ?_) ?_
  · refine XS.istore X44_.here hx rfl (hC e32_302.2.2.2) rfl (l' := ll32) rfl ?_
    refine XS.aloadN X44_.here hx rfl (hC e32_310.1) rfl rfl ?_
    exact kK
  refine jf X44_ hx hZ hown (jk hw 171 rfl) e44_ fc21_.g7 (hC e32_310.2.1) fun T45_ X45_ e45_ => ?_
  let ll33 : Array Slot := #[vR a, vJ f, vS, vJ t, vS, vI 0, vR b1_, vI 0, vJ ((0 : Int64) + (ft - ff)), vS, vI 0, vJ ((ft + lg) - ft), vS, vI (-1), vJ 0, vS, vJ ff, vS, vJ ft, vS, vI 0, vI 1, vJ (ft + lg), vS, vJ ((ft + lg) + (1 : Int64)), vS, vJ ((0 : Int64) + (((ft + lg) + (1 : Int64)) - (ft + lg))), vS, vI 0, vJ (ft + lg), vS, vJ ((ft + lg) + (1 : Int64)), vS, vI en, vJ (((sz - ((0 : Int64) + (ft - ff))) - ((0 : Int64) + (((ft + lg) + (1 : Int64)) - (ft + lg)))) - (0 : Int64)), vS, vR ba, vI 0, vI en, vI 0, vJ lg, vS, vU, vU, vU, vU]
  refine jg T45_ mM 317 ll33 [(.ref a)] (fun tT kK => ?_) ?_
  · refine XS.lstore X45_.here hx rfl (hC e32_310.2.2.1) rfl (l' := ll33) rfl ?_
    refine XS.aloadN X45_.here hx rfl (hC e32_310.2.2.2) rfl rfl ?_
    exact kK
  refine jf X45_ hx hZ hown (jk hw 173 rfl) e45_ fc21_.g8 (hC e32_317.1) fun T46_ X46_ e46_ => ?_
  let ll34 : Array Slot := #[vR a, vJ f, vS, vJ t, vS, vI 0, vR b1_, vI 0, vJ ((0 : Int64) + (ft - ff)), vS, vI 0, vJ ((ft + lg) - ft), vS, vI (-1), vJ 0, vS, vJ ff, vS, vJ ft, vS, vI 0, vI 1, vJ (ft + lg), vS, vJ ((ft + lg) + (1 : Int64)), vS, vJ ((0 : Int64) + (((ft + lg) + (1 : Int64)) - (ft + lg))), vS, vI 0, vJ (ft + lg), vS, vJ ((ft + lg) + (1 : Int64)), vS, vI en, vJ (((sz - ((0 : Int64) + (ft - ff))) - ((0 : Int64) + (((ft + lg) + (1 : Int64)) - (ft + lg)))) - (0 : Int64)), vS, vR ba, vI 0, vI en, vI 0, vJ lg, vS, vJ lf, vS, vU, vU]
  refine jg T46_ mM 323 ll34 [(.ref a)] (fun tT kK => ?_) ?_
  · refine XS.lstore X46_.here hx rfl (hC e32_317.2.1) rfl (l' := ll34) rfl ?_
    refine XS.aloadN X46_.here hx rfl (hC e32_317.2.2.1) rfl rfl ?_
    exact kK
  refine jf X46_ hx hZ hown (jk hw 175 rfl) e46_ fc21_.g9 (hC e32_317.2.2.2) fun T47_ X47_ e47_ => ?_
  let ll35 : Array Slot := #[vR a, vJ f, vS, vJ t, vS, vI 0, vR b1_, vI 0, vJ ((0 : Int64) + (ft - ff)), vS, vI 0, vJ ((ft + lg) - ft), vS, vI (-1), vJ 0, vS, vJ ff, vS, vJ ft, vS, vI 0, vI 1, vJ (ft + lg), vS, vJ ((ft + lg) + (1 : Int64)), vS, vJ ((0 : Int64) + (((ft + lg) + (1 : Int64)) - (ft + lg))), vS, vI 0, vJ (ft + lg), vS, vJ ((ft + lg) + (1 : Int64)), vS, vI en, vJ (((sz - ((0 : Int64) + (ft - ff))) - ((0 : Int64) + (((ft + lg) + (1 : Int64)) - (ft + lg)))) - (0 : Int64)), vS, vR ba, vI 0, vI en, vI 0, vJ lg, vS, vJ lf, vS, vJ lt, vS]
  refine jg T47_ mM 343 ll35 [(.int (((57 : Int32) + en) - en)), (.ref a)] (fun tT kK => ?_) ?_
  · refine XS.lstore X47_.here hx rfl (hC e32_326.1) rfl (l' := ll35) rfl ?_
    refine XS.aloadN X47_.here hx rfl (hC e32_326.2.1) rfl rfl ?_
    refine XS.iload X47_.here hx rfl (hC e32_326.2.2.1) rfl ?_
    refine XS.iload X47_.here hx rfl (hC e32_326.2.2.2) rfl ?_
    refine XS.isub X47_.here hx rfl (hC e32_333.1) rfl ?_
    refine XS.bipush X47_.here hx rfl (hC e32_333.2.1) ?_
    refine XS.iadd X47_.here hx rfl (hC e32_333.2.2.1) rfl ?_
    refine XS.iload X47_.here hx rfl (hC e32_333.2.2.2) rfl ?_
    refine XS.iadd X47_.here hx rfl (hC e32_339.1) rfl ?_
    refine XS.iload X47_.here hx rfl (hC e32_339.2.1) rfl ?_
    refine XS.isub X47_.here hx rfl (hC e32_339.2.2.1) rfl ?_
    exact kK
  show own_Fin pP eE below _ (T47_.setTop (mkF mM 343 #[.val (.ref a), .val (.long f), .second, .val (.long t), .second, .val (.int 0), .val (.ref b1_), .val (.int 0), .val (.long ((0 : Int64) + (ft - ff))), .second, .val (.int 0), .val (.long ((ft + lg) - ft)), .second, .val (.int (-1)), .val (.long 0), .second, .val (.long ff), .second, .val (.long ft), .second, .val (.int 0), .val (.int 1), .val (.long (ft + lg)), .second, .val (.long ((ft + lg) + (1 : Int64))), .second, .val (.long ((0 : Int64) + (((ft + lg) + (1 : Int64)) - (ft + lg)))), .second, .val (.int 0), .val (.long (ft + lg)), .second, .val (.long ((ft + lg) + (1 : Int64))), .second, .val (.int en), .val (.long (((sz - ((0 : Int64) + (ft - ff))) - ((0 : Int64) + (((ft + lg) + (1 : Int64)) - (ft + lg)))) - (0 : Int64))), .second, .val (.ref ba), .val (.int 0), .val (.int en), .val (.int 0), .val (.long lg), .second, .val (.long lf), .second, .val (.long lt), .second] [(.int (((57 : Int32) + en) - en)), (.ref a)]))
  rw [show (((57 : Int32) + en) - en) = (57 : Int32) from own_57 en]
  obtain ⟨T48_, h48_, k48_, X48_, e48_, E48_, A48_, st48_⟩ := newP X47_ hx hZ (jk hw 169 rfl) e47_ (g := (mkF mM 343 ll35 [(.int 57), (.ref a)])) rfl (hC e32_339.2.2.2) rfl (by decide) (cap := 57) (by decide) (by decide) (by decide) (by decide)
  obtain ⟨b48_, g48_⟩ : ∃ z, z = T20_.heap.size := ⟨_, rfl⟩
  rw [← g48_] at A48_ st48_
  have ne49_ : a ≠ b48_ := Nat.ne_of_lt (Nat.lt_of_lt_of_le fc21_.lt (Nat.le_of_eq g48_.symm))
  have fc53_ := fc21_.ext E48_
  have fc54_ := fc22_.ext E48_
  have fc55_ := fc23_.ext E48_
  have fc56_ := fc24_.ext E48_
  have K48_ := K20_.ext E48_
  have V48_ : Arv Z h48_ b48_ k48_ .byte (57 : Int32) [] (.int 0) := Arv.new A48_ (by decide)
  refine own_fin st48_ ?_
  refine jq X48_ hx hZ hown (jk hw 63 rfl) e48_ fc53_.g3 fc53_.E (jk hw 64 rfl) (jk hw 55 rfl) (ty := (.array .byte)) (by decide) rfl rfl (hC e32_345.1) K48_ N36_ (Or.inl (List.mem_of_getElem? (i := 0) rfl)) g_a fun T58_ h58_ X58_ e58_ W58_ Fw58_ K58_ N58_ => ?_
  have ne59_ : ba ≠ a := (Ne.symm (own_neV fc53_.E fc54_ (jk hw 55 rfl)))
  have ne60_ : nb ≠ a := (Ne.symm (own_neV fc53_.E fc55_ (jk hw 55 rfl)))
  have fc61_ := fc54_.other W58_ ne59_
  have fc62_ := fc55_.other W58_ ne60_
  have fc63_ := fc56_.wr W58_ g_a
  have fc65_ := V48_.other W58_ (Ne.symm ne49_)
  have Bw58_ := fc53_.s3 hw W58_
  refine jg T58_ mM 353 ll35 [(.ref a), (.int 0), (.ref ba)] (fun tT kK => ?_) ?_
  · refine XS.aload X58_.here hx rfl (hC e32_345.2.1) rfl rfl ?_
    refine XS.iload X58_.here hx rfl (hC e32_345.2.2.1) rfl ?_
    refine XS.aloadN X58_.here hx rfl (hC e32_345.2.2.2) rfl rfl ?_
    exact kK
  refine jf X58_ hx hZ hown (jk hw 63 rfl) e58_ Bw58_.g3 (hC e32_353.1) fun T66_ X66_ e66_ => ?_
  refine jg T66_ mM 362 ll35 [(.int 0), (.int 0), (.ref b48_), (.int 0), (.ref ba)] (fun tT kK => ?_) ?_
  · refine XS.iconst X66_.here hx rfl (hC e32_353.2.1) ?_
    refine XS.iload X66_.here hx rfl (hC e32_353.2.2.1) rfl ?_
    refine XS.iload X66_.here hx rfl (hC e32_353.2.2.2) rfl ?_
    refine XS.isub X66_.here hx rfl (hC e32_361.1) rfl ?_
    exact kK
  obtain ⟨T67_, X67_, e67_, st67_⟩ := own_cp0 X66_ hx hZ hown (jk hw 170 rfl) (jk hw 76 rfl) (jk hw 74 rfl) (jk hw 75 rfl) e66_ fc61_ fc65_ (Or.inl ⟨rfl, rfl⟩) (by decide) (by decide) (Nat.zero_le _) (Nat.zero_le _) (g := (mkF mM 362 ll35 [(.int 0), (.int 0), (.ref b48_), (.int 0), (.ref ba)])) rfl (by rw [hml]; rfl) rfl (hC e32_361.2.1) (by decide) (W := 0) (by show 2 * 0 + _ ≤ _; exact Nat.le_of_eq rfl) (by decide)
  refine own_fin st67_ ?_
  refine jg T67_ mM 367 ll35 [(.int 0), (.ref a)] (fun tT kK => ?_) ?_
  · refine XS.aloadN X67_.here hx rfl (hC e32_361.2.2.1) rfl rfl ?_
    refine XS.iconst X67_.here hx rfl (hC e32_361.2.2.2) ?_
    exact kK
  refine jq X67_ hx hZ hown (jk hw 145 rfl) e67_ Bw58_.g4 Bw58_.E (jk hw 130 rfl) (jk hw 55 rfl) (ty := .int) (by decide) rfl rfl (hC e32_367.1) K58_ N58_ (Or.inl (List.mem_of_getElem? (i := 0) rfl)) g_a fun T68_ h68_ X68_ e68_ W68_ Fw68_ K68_ N68_ => ?_
  have fc70_ := fc62_.other W68_ ne60_
  have fc71_ := fc63_.wr W68_ g_a
  have fc73_ := fc65_.other W68_ (Ne.symm ne49_)
  have Bw68_ := Bw58_.s4 hw W68_
  refine jg T68_ mM 376 ll35 [(.int 0), (.ref a)] (fun tT kK => ?_) ?_
  · refine XS.aloadN X68_.here hx rfl (hC e32_367.2.1) rfl rfl ?_
    refine XS.iload X68_.here hx rfl (hC e32_367.2.2.1) rfl ?_
    refine XS.iload X68_.here hx rfl (hC e32_367.2.2.2) rfl ?_
    refine XS.isub X68_.here hx rfl (hC e32_375.1) rfl ?_
    exact kK
  refine jq X68_ hx hZ hown (jk hw 146 rfl) e68_ Bw68_.g5 Bw68_.E (jk hw 139 rfl) (jk hw 55 rfl) (ty := .int) (by decide) rfl rfl (hC e32_375.2.1) K68_ N68_ (Or.inl (List.mem_of_getElem? (i := 0) rfl)) g_a fun T74_ h74_ X74_ e74_ W74_ Fw74_ K74_ N74_ => ?_
  have fc76_ := fc70_.other W74_ ne60_
  have fc77_ := fc71_.wr W74_ g_a
  have fc79_ := fc73_.other W74_ (Ne.symm ne49_)
  have Bw74_ := Bw68_.s5 hw W74_
  refine jg T74_ mM 382 ll35 [(.long ((0 : Int64) + (ft - ff))), (.ref a)] (fun tT kK => ?_) ?_
  · refine XS.aloadN X74_.here hx rfl (hC e32_375.2.2.1) rfl rfl ?_
    refine XS.lload X74_.here hx rfl (hC e32_375.2.2.2) rfl ?_
    exact kK
  refine jq X74_ hx hZ hown (jk hw 91 rfl) e74_ Bw74_.g0 Bw74_.E (jk hw 78 rfl) (jk hw 55 rfl) (ty := .long) (by decide) rfl rfl (hC e32_382.1) K74_ N74_ (Or.inl (List.mem_of_getElem? (i := 0) rfl)) g_a fun T80_ h80_ X80_ e80_ W80_ Fw80_ K80_ N80_ => ?_
  have fc82_ := fc76_.other W80_ ne60_
  have fc83_ := fc77_.wr W80_ g_a
  have fc85_ := fc79_.other W80_ (Ne.symm ne49_)
  have Bw80_ := Bw74_.s0 hw W80_
  refine jg T80_ mM 400 ll35 [(.int (-1)), (.ref a)] (fun tT kK => ?_) ?_
  · refine XS.aloadN X80_.here hx rfl (hC e32_382.2.1) rfl rfl ?_
    refine XS.iload X80_.here hx rfl (hC e32_382.2.2.1) rfl ?_
    refine XS.ifNo X80_.here hx rfl (hC e32_382.2.2.2) rfl ((if0 _ _).trans (tlt ((by decide) : (-1 : Int32) < (0 : Int32))).2.1) ?_
    refine XS.iconst X80_.here hx rfl (hC e32_391.1) ?_
    refine XS.goto X80_.here hx rfl (pc0 := 392) (pc' := 400) rfl (hC e32_391.2.1) (by decide) (by decide) ?_
    exact kK
  refine jq X80_ hx hZ hown (jk hw 65 rfl) e80_ Bw80_.g6 Bw80_.E (jk hw 66 rfl) (jk hw 55 rfl) (ty := .int) (by decide) rfl rfl (hC e32_391.2.2.1) K80_ N80_ (Or.inl (List.mem_of_getElem? (i := 0) rfl)) g_a fun T86_ h86_ X86_ e86_ W86_ Fw86_ K86_ N86_ => ?_
  have fc88_ := fc82_.other W86_ ne60_
  have fc89_ := fc83_.wr W86_ g_a
  have fc91_ := fc85_.other W86_ (Ne.symm ne49_)
  have Bw86_ := Bw80_.s6 hw W86_
  refine jg T86_ mM 406 ll35 [(.long 0), (.ref a)] (fun tT kK => ?_) ?_
  · refine XS.aloadN X86_.here hx rfl (hC e32_391.2.2.2) rfl rfl ?_
    show Steps pP.tables eE below (T86_.setTop (mkF mM 404 ll35 [(.ref a)])) tT
    refine XS.lload X86_.here hx rfl (hC e32_404.1) rfl ?_
    exact kK
  refine jq X86_ hx hZ hown (jk hw 171 rfl) e86_ Bw86_.g7 Bw86_.E (jk hw 172 rfl) (jk hw 55 rfl) (ty := .long) (by decide) rfl rfl (hC e32_404.2.1) K86_ N86_ (Or.inl (List.mem_of_getElem? (i := 0) rfl)) g_a fun T92_ h92_ X92_ e92_ W92_ Fw92_ K92_ N92_ => ?_
  have fc94_ := fc88_.other W92_ ne60_
  have fc95_ := fc89_.wr W92_ g_a
  have fc97_ := fc91_.other W92_ (Ne.symm ne49_)
  have Bw92_ := Bw86_.s7 hw W92_
  refine jg T92_ mM 412 ll35 [(.long ff), (.ref a)] (fun tT kK => ?_) ?_
  · refine XS.aloadN X92_.here hx rfl (hC e32_404.2.2.1) rfl rfl ?_
    refine XS.lload X92_.here hx rfl (hC e32_404.2.2.2) rfl ?_
    exact kK
  refine jq X92_ hx hZ hown (jk hw 173 rfl) e92_ Bw92_.g8 Bw92_.E (jk hw 174 rfl) (jk hw 55 rfl) (ty := .long) (by decide) rfl rfl (hC e32_412.1) K92_ N92_ (Or.inl (List.mem_of_getElem? (i := 0) rfl)) g_a fun T98_ h98_ X98_ e98_ W98_ Fw98_ K98_ N98_ => ?_
  have fc100_ := fc94_.other W98_ ne60_
  have fc101_ := fc95_.wr W98_ g_a
  have fc103_ := fc97_.other W98_ (Ne.symm ne49_)
  have Bw98_ := Bw92_.s8 hw W98_
  refine jg T98_ mM 418 ll35 [(.long ft), (.ref a)] (fun tT kK => ?_) ?_
  · refine XS.aloadN X98_.here hx rfl (hC e32_412.2.1) rfl rfl ?_
    refine XS.lload X98_.here hx rfl (hC e32_412.2.2.1) rfl ?_
    exact kK
  refine jq X98_ hx hZ hown (jk hw 175 rfl) e98_ Bw98_.g9 Bw98_.E (jk hw 176 rfl) (jk hw 55 rfl) (ty := .long) (by decide) rfl rfl (hC e32_412.2.2.2) K98_ N98_ (Or.inl (List.mem_of_getElem? (i := 0) rfl)) g_a fun T104_ h104_ X104_ e104_ W104_ Fw104_ K104_ N104_ => ?_
  have fc106_ := fc100_.other W104_ ne60_
  have fc107_ := fc101_.wr W104_ g_a
  have fc109_ := fc103_.other W104_ (Ne.symm ne49_)
  have Bw104_ := Bw98_.s9 hw W104_
  refine jg T104_ mM 449 ll35 [(.long f), (.long (ft + lg)), (.ref a)] (fun tT kK => ?_) ?_
  · refine XS.iload X104_.here hx rfl (hC e32_421.1) rfl ?_
    refine XS.ifYes X104_.here hx rfl (pc0 := 423) (pc' := 445) rfl (hC e32_421.2.1) rfl ((if0 _ _).trans (teq ((by decide) : (0 : Int32) = (0 : Int32))).1) (by decide) (by decide) ?_
    refine XS.aloadN X104_.here hx rfl (hC e32_421.2.2.1) rfl rfl ?_
    refine XS.lload X104_.here hx rfl (hC e32_421.2.2.2) rfl ?_
    refine XS.lloadN X104_.here hx rfl (hC e32_448.1) rfl ?_
    exact kK
  refine jw X104_ hx hZ (y := jy17) hown (jk hw 252 rfl) (jk hw 253 rfl) (own_selP (y := jy17) hZ (jk hw 55 rfl) (jk hw 254 rfl) (jk hw 253 rfl) (by decide)) (jk hw 254 rfl) (jk hw 255 rfl) (jk hw 56 rfl) (rm_eia0 lL Z a0 hw [] a (ft + lg) f h104_ n0 (Nat.le_trans Z0 K104_.1) (by omega)) Bw104_.E e104_ own_pd6 [(.long (ft + lg)), (.long f)] [] (hC e32_448.2.1) rfl rfl (by rw [hml]; rfl) (by decide) 0 (Nat.le_of_eq rfl) (by decide) (by decide) (by decide : 2 + 0 ≤ _) (by decide : 61 + 0 ≤ _) fun vv110_ T110_ L110_ X110_ hQ110_ => ?_
  obtain ⟨rfl, N110_q, p110__0⟩ := hQ110_
  have N110_ := Fr.app N104_ N110_q
  refine jg T110_ mM 456 ll35 [(.long ((ft + lg) + (1 : Int64))), (.long t), (.ref a)] (fun tT kK => ?_) ?_
  · refine XS.aloadN X110_.here hx rfl (hC e32_448.2.2.1) rfl rfl ?_
    refine XS.lloadN X110_.here hx rfl (hC e32_448.2.2.2) rfl ?_
    refine XS.lload X110_.here hx rfl (hC e32_454.1) rfl ?_
    exact kK
  refine jw X110_ hx hZ (y := jy17) hown (jk hw 252 rfl) (jk hw 253 rfl) (own_selP (y := jy17) hZ (jk hw 55 rfl) (jk hw 254 rfl) (jk hw 253 rfl) (by decide)) (jk hw 254 rfl) (jk hw 255 rfl) (jk hw 56 rfl) (rm_eia0 lL Z a0 hw [] a t ((ft + lg) + (1 : Int64)) h104_ n0 (Nat.le_trans Z0 K104_.1) (by omega)) Bw104_.E p110__0 own_pd6 [(.long t), (.long ((ft + lg) + (1 : Int64)))] [] (hC e32_454.2.1) rfl rfl (by rw [hml]; rfl) (by decide) 0 (Nat.le_of_eq rfl) (by decide) (by decide) (by decide : 2 + 0 ≤ _) (by decide : 61 + 0 ≤ _) fun vv111_ T111_ L111_ X111_ hQ111_ => ?_
  obtain ⟨rfl, N111_q, p111__0⟩ := hQ111_
  have N111_ := Fr.app N110_ N111_q
  refine jg T111_ mM 557 ll35 [(.ref a)] (fun tT kK => ?_) ?_
  · refine XS.iload X111_.here hx rfl (hC e32_454.2.2.1) rfl ?_
    refine XS.ifYes X111_.here hx rfl (pc0 := 461) (pc' := 472) rfl (hC e32_454.2.2.2) rfl ((if0 _ _).trans (teq ((by decide) : (0 : Int32) = (0 : Int32))).1) (by decide) (by decide) ?_
    refine XS.iload X111_.here hx rfl (hC e32_472.1) rfl ?_
    refine XS.iload X111_.here hx rfl (hC e32_472.2.1) rfl ?_
    refine XS.icmpYes X111_.here hx rfl (pc0 := 476) (pc' := 556) rfl (hC e32_472.2.2.1) rfl (flt ((own_nl3 (by omega)) : ¬ (en < en))).2.1 (by decide) (by decide) ?_
    refine XS.aloadN X111_.here hx rfl (hC e32_472.2.2.2) rfl rfl ?_
    exact kK
  refine jv X111_ hx hZ (y := jy18) hown (jk hw 220 rfl) (jk hw 221 rfl) (jk hw 223 rfl) (jk hw 222 rfl) (jk hw 224 rfl) (jk hw 56 rfl) (rm_tr0 lL Z a0 hw [] a b48_ nb k48_ kn ((0 : Int64) + (ft - ff)) ff ft (0 : Int64) ff ft h104_ n0 (Nat.le_trans Z0 K104_.1) Bw104_ fc109_ fc106_ Zb fc107_ g_a) Bw104_.E p111__0 own_pd5 [] [] (hC e32_557.1) rfl rfl (by rw [hml]; rfl) (by decide) 0 (Nat.le_of_eq rfl) (by decide) (by decide) (by decide : 2 + 0 ≤ _) (by decide : 61 + 0 ≤ _) fun vv112_ T112_ L112_ X112_ hQ112_ => ?_
  obtain ⟨rfl, N112_q, p112__0, p112__1⟩ := hQ112_
  have N112_ := Fr.app N111_ N112_q
  have K112_ := K104_.trans p112__0 (allS (Or.inl (List.mem_of_getElem? (i := 0) rfl)) all0)
  refine jg T112_ mM 561 ll35 [(.ref a)] (fun tT kK => ?_) ?_
  · refine XS.aloadN X112_.here hx rfl (hC e32_557.2.1) rfl rfl ?_
    exact kK
  refine jf X112_ hx hZ hown (jk hw 91 rfl) rfl p112__1.g0 (hC e32_557.2.2.1) fun T118_ X118_ e118_ => ?_
  refine jg T118_ mM 566 ll35 [(.int (lcmpW ((0 : Int64) + (ft - ff)) (0 : Int64)))] (fun tT kK => ?_) ?_
  · refine XS.lconst X118_.here hx rfl (hC e32_557.2.2.2) ?_
    refine XS.lcmp X118_.here hx rfl (hC e32_565.1) rfl ?_
    exact kK
  have t119_ : (0 : Int64).toInt = 0 := rfl
  have t120_ := rng64 ft
  have t121_ := rng64 ff
  have t122_ := own_sub (x := ft) (y := ff) (by omega)
  have t123_ := own_add (x := (0 : Int64)) (y := (ft - ff)) (by omega)
  refine jg T118_ mM 573 ll35 [] (fun tT kK => ?_) ?_
  · refine XS.ifYes X118_.here hx rfl (pc0 := 566) (pc' := 573) rfl (hC e32_565.2.1) rfl ((if0 _ _).trans (feq (mt (lw_eq ((0 : Int64) + (ft - ff)) (0 : Int64)).mp ((own_nev (by omega)) : ¬ (((0 : Int64) + (ft - ff)) = (0 : Int64))))).2) (by decide) (by decide) ?_
    exact kK
  exact own_rV X118_ hx hlk hre (hC e32_565.2.2.1) e118_ (by decide) (by decide) ⟨rfl, N112_, K112_, p112__1⟩
theorem e31_0 : jD28 0 (.aload_n 0, 1) ∧ jD28 1 (.getfield 16, 3) ∧ jD28 4 (.iload_n 1, 1) ∧ jD28 5 (.aaload, 1) := by decide +kernel
theorem e31_6 : jD28 6 (.astore 7, 2) ∧ jD28 8 (.aload 7, 2) ∧ jD28 10 (.getfield 46, 3) ∧ jD28 13 (.lstore 8, 2) := by decide +kernel
theorem e31_15 : jD28 15 (.aload 7, 2) ∧ jD28 17 (.lload_n 2, 1) ∧ jD28 18 (.lload 4, 2) ∧ jD28 20 (.iload 6, 2) := by decide +kernel
theorem d31_22 : jD28 22 (.invokevirtual 156, 3) := by decide +kernel
theorem own_pd11 : parseMethodDescriptor "(JJZ)V" = some ⟨[.long, .long, .boolean], none⟩ := by decide +kernel
theorem e31_25 : jD28 25 (.aload_n 0, 1) ∧ jD28 26 (.dup, 1) ∧ jD28 27 (.getfield 23, 3) ∧ jD28 30 (.aload 7, 2) := by decide +kernel
theorem e31_32 : jD28 32 (.getfield 46, 3) ∧ jD28 35 (.lload 8, 2) ∧ jD28 37 (.lsub, 1) ∧ jD28 38 (.ladd, 1) := by decide +kernel
theorem e31_39 : jD28 39 (.putfield 23, 3) ∧ jD28 42 (.aload 7, 2) ∧ jD28 44 (.invokevirtual 145, 3) := by decide +kernel
theorem own_pd12 : parseMethodDescriptor "()I" = some ⟨[], some .int⟩ := by decide +kernel
theorem e31_47 : jD28 47 (.iconst 1, 1) ∧ jD28 48 (.iadd, 1) ∧ jD28 49 (.istore 10, 2) ∧ jD28 51 (.aload 7, 2) := by decide +kernel
theorem e31_53 : jD28 53 (.getfield 46, 3) ∧ jD28 56 (.lconst 0, 1) ∧ jD28 57 (.lcmp, 1) ∧ jD28 58 (.ifCond .ne 18, 3) := by decide +kernel
theorem e31_76 : jD28 76 (.iload 10, 2) ∧ jD28 78 (.aload_n 0, 1) ∧ jD28 79 (.getfield 19, 3) ∧ jD28 82 (.bipush 19, 2) := by decide +kernel
theorem e31_84 : jD28 84 (.iadd, 1) ∧ jD28 85 (.if_icmp .le 62, 3) ∧ jD28 147 (.iload 10, 2) ∧ jD28 149 (.aload_n 0, 1) := by decide +kernel
theorem e31_150 : jD28 150 (.getfield 19, 3) ∧ jD28 153 (.iconst 2, 1) ∧ jD28 154 (.idiv, 1) ∧ jD28 155 (.if_icmp .ge 90, 3) := by decide +kernel
theorem e31_158 : jD28 158 (.iload_n 1, 1) ∧ jD28 159 (.iconst 1, 1) ∧ jD28 160 (.iadd, 1) ∧ jD28 161 (.aload_n 0, 1) := by decide +kernel
theorem e31_162 : jD28 162 (.getfield 109, 3) ∧ jD28 165 (.if_icmp .ge 41, 3) ∧ jD28 206 (.iload_n 1, 1) ∧ jD28 207 (.ifCond .le 38, 3) := by decide +kernel
theorem d31_245 : jD28 245 (.return_, 1) := by decide +kernel
theorem own_ef_rm_E1 (mM : MethodId) (x0 : Addr) (x1 : Int32) (x2 : Int64) (x3 : Int64) (x4 : Int32) : entryFrame mM #[(.ref x0), (.int x1), (.long x2), (.long x3), (.int x4)] 12 = mkF mM 0 #[.val (.ref x0), .val (.int x1), .val (.long x2), .second, .val (.long x3), .second, .val (.int x4), .unset, .unset, .unset, .unset, .unset] [] := by first | (simp [entryFrame, mkF, argsToLocals, Value.category]; done) | rfl
def Q_rm_E1 (Z : State) (pg : Addr) (st : Addr) (pa : Addr) (np : Addr) (nb : Addr) (kq : ClassId) (kp : ClassId) (kn : ClassId) (pb : Int32) (zs : Int64) (sz : Int64) (ff : Int64) (ft : Int64) (lg : Int64) (lf : Int64) (lt : Int64) (f : Int64) (t : Int64) (hv : Int32) (h0 : Heap) (n0 : Nat) (vV : Option Value) (hH : Heap) (lA : List Loc) : Prop := ∃ z' : Int64, ∃ s' : Int64, ∃ f' : Int64, ∃ t' : Int64, vV = none ∧ Fr n0 lA ∧ (Keep h0 hH [st, pg]) ∧ ((hv.toInt = 1 ∧ s'.toInt = 2 ∧ f'.toInt = f.toInt ∧ t'.toInt = ft.toInt) ∨ (hv.toInt = 0 ∧ s'.toInt = 1 ∧ f'.toInt = ff.toInt ∧ t'.toInt = f.toInt)) ∧ (z'.toInt = s'.toInt) ∧ (own_bO Z hH st z' (.ref pa) (1 : Int32) pb) ∧ (own_bP Z hH pg s' f' t' (.ref nb) (0 : Int32) (0 : Int32) (-1 : Int32) (0 : Int64) (0 : Int64) (0 : Int64))
theorem rm_E1 (lL : Launch) (Z : State) (a0 : Array Value) (hw : own_H a0 Z) (ws : List Jvm.Cond) (pg : Addr) (st : Addr) (pa : Addr) (np : Addr) (nb : Addr) (kq : ClassId) (kp : ClassId) (kn : ClassId) (pb : Int32) (zs : Int64) (sz : Int64) (ff : Int64) (ft : Int64) (lg : Int64) (lf : Int64) (lt : Int64) (f : Int64) (t : Int64) (hv : Int32) (h0 : Heap) (n0 : Nat) (Z0 : n0 ≤ h0.size) (F0 : own_bO Z h0 st zs (.ref pa) (1 : Int32) pb) (Vp : Arv Z h0 pa kq (.object "com/example/portion/portion/server/OffsetSet$Page") (2 : Int32) [(.ref pg), .null] .null) (Vn : Arv Z h0 np kp (.object "com/example/portion/portion/server/OffsetSet$Page") (0 : Int32) [] .null) (Vm : Arv Z h0 nb kn .byte (0 : Int32) [] (.int 0)) (Zp : Sta Z Z.heap "com/example/portion/portion/server/OffsetSet" "NO_PAGES" "[Lcom/example/portion/portion/server/OffsetSet$Page;" (.ref np)) (Zb : Sta Z Z.heap "com/example/portion/portion/server/OffsetSet" "NO_BYTES" "[B" (.ref nb)) (O0 : Old Z n0 h0) (G0 : own_bP Z h0 pg sz ff ft (.ref nb) (0 : Int32) (0 : Int32) (-1 : Int32) lg lf lt) (g_st : n0 ≤ st) (g_pg : n0 ≤ pg) (ne_np_pa : np ≠ pa) (hvv : (hv.toInt = 1 ∧ sz.toInt = 1 ∧ ft.toInt = ff.toInt + 1 ∧ f.toInt + 1 = ff.toInt ∧ t.toInt = ff.toInt) ∨ (hv.toInt = 0 ∧ sz.toInt = 2 ∧ ft.toInt = ff.toInt + 2 ∧ f.toInt = ff.toInt + 1 ∧ t.toInt = ff.toInt + 2)) (hf0 : 0 ≤ f.toInt) (hff : 0 ≤ ff.toInt) (hzs : 1 ≤ zs.toInt ∧ zs.toInt ≤ 2) (hzz : sz.toInt = zs.toInt) (hp : 1 ≤ pb.toInt ∧ pb.toInt ≤ 1024) :
    own_Met lL jy28 (Jvm.Cond.code jy28 prog_38_method_21_code 12 none :: ws) jr23 #[(.ref st), (.int 0), (.long f), (.long t), (.int hv)] Z h0 (Q_rm_E1 Z pg st pa np nb kq kp kn pb zs sz ff ft lg lf lt f t hv h0 n0) := by
  refine own_begin (plainFor_of_name own_pn_com_example_portion_portion_server_OffsetSet) (fun mM => own_ef_rm_E1 mM st (0 : Int32) f t hv) fun pP eE sS mM below meth cC s₁ hx hby hml hZ hown hnm hre hlk X0 e0 => ?_
  have hC := @Jvm.hb _ _ hby
  have N0 := Fr.nil n0
  have K0 := Keep.refl h0 [st, pg]
  let ll1 : Array Slot := #[vR st, vI 0, vJ f, vS, vJ t, vS, vI hv, vU, vU, vU, vU, vU]
  refine jg s₁ mM 1 ll1 [(.ref st)] (fun tT kK => ?_) ?_
  · refine XS.aloadN X0.here hx rfl (hC e31_0.1) rfl rfl ?_
    exact kK
  refine jf X0 hx hZ hown (jk hw 12 rfl) e0 F0.g1 (hC e31_0.2.1) fun T1_ X1_ e1_ => ?_
  refine jg T1_ mM 5 ll1 [(.int 0), (.ref pa)] (fun tT kK => ?_) ?_
  · refine XS.iloadN X1_.here hx rfl (hC e31_0.2.2.1) rfl ?_
    exact kK
  obtain ⟨cl2_, Ar2_, qk2_, Sz2_, Nn2_, Hh2_, Gg2_⟩ := id Vp
  have hin3_ : ¬ ((0 : Int32) < 0 ∨ cl2_.slots.size ≤ ((0 : Int32)).toNatClampNeg) := inb_of Sz2_ ⟨by decide, by decide⟩
  have hat3_ : cl2_.slots[((0 : Int32)).toNatClampNeg]? = some (.ref pg) := Hh2_.at hin3_ rfl
  let ll2 : Array Slot := #[vR st, vI 0, vJ f, vS, vJ t, vS, vI hv, vR pg, vU, vU, vU, vU]
  refine jg T1_ mM 10 ll2 [(.ref pg)] (fun tT kK => ?_) ?_
  · refine X1_.aaload hx (j := (0 : Int32)) (v := (.ref pg)) (own_rw e1_ Ar2_.1) (State.isArrayOf_alike hZ.alike Ar2_.2.1) rfl Ar2_.2.2 hin3_ hat3_ (g := (mkF mM 5 ll1 [(.int 0), (.ref pa)])) rfl rfl (hC e31_0.2.2.2) _ ?_
    refine XS.astore X1_.here hx rfl (hC e31_6.1) rfl rfl (l' := ll2) rfl ?_
    refine XS.aload X1_.here hx rfl (hC e31_6.2.1) rfl rfl ?_
    exact kK
  obtain ⟨T4_, X4_, e4_, st4_⟩ := own_getRef X1_ hx hZ hown (jk hw 77 rfl) Via.refl e1_ G0.g0 (g := (mkF mM 10 ll2 [(.ref pg)])) rfl rfl (hC e31_6.2.2.1)
  refine own_fin st4_ ?_
  let ll3 : Array Slot := #[vR st, vI 0, vJ f, vS, vJ t, vS, vI hv, vR pg, vJ sz, vS, vU, vU]
  refine jg T4_ mM 22 ll3 [(.int hv), (.long t), (.long f), (.ref pg)] (fun tT kK => ?_) ?_
  · refine XS.lstore X4_.here hx rfl (hC e31_6.2.2.2) rfl (l' := ll3) rfl ?_
    refine XS.aload X4_.here hx rfl (hC e31_15.1) rfl rfl ?_
    refine XS.lloadN X4_.here hx rfl (hC e31_15.2.1) rfl ?_
    refine XS.lload X4_.here hx rfl (hC e31_15.2.2.1) rfl ?_
    refine XS.iload X4_.here hx rfl (hC e31_15.2.2.2) rfl ?_
    exact kK
  refine jv X4_ hx hZ (y := jy27) hown (jk hw 205 rfl) (jk hw 206 rfl) (jk hw 208 rfl) (jk hw 207 rfl) (jk hw 209 rfl) (jk hw 56 rfl) (rm_S1 lL Z a0 hw [] pg nb kn sz ff ft lg lf lt f t hv h0 n0 (Nat.le_trans Z0 K0.1) G0 Vm Zb O0 (by omega) (by omega) (by omega) g_pg) G0.E e4_ own_pd11 [(.long f), (.long t), (.int hv)] [] (hC d31_22) rfl rfl (by rw [hml]; rfl) (by decide) 0 (Nat.le_of_eq rfl) (by decide) (by decide) (by decide : 0 + 2 ≤ _) (by decide : 0 + 61 ≤ _) fun vv5_ T5_ L5_ X5_ hQ5_ => ?_
  obtain ⟨s'_5_, f'_5_, t'_5_, rfl, N5_q, p5__0, p5__1, p5__2⟩ := hQ5_
  have N5_ := Fr.app N0 N5_q
  have ne6_ : st ≠ pg := (Exa.ne F0.E G0.E (by decide))
  have fc10_ := F0.keep p5__0 (ninS ne6_ nin0)
  have K5_ := K0.trans p5__0 (allS (Or.inl (List.mem_of_getElem? (i := 1) rfl)) all0)
  refine jg T5_ mM 27 ll3 [(.ref st), (.ref st)] (fun tT kK => ?_) ?_
  · refine XS.aloadN X5_.here hx rfl (hC e31_25.1) rfl rfl ?_
    refine XS.dup X5_.here hx rfl (hC e31_25.2.1) rfl rfl ?_
    exact kK
  refine jf X5_ hx hZ hown (jk hw 21 rfl) rfl fc10_.g0 (hC e31_25.2.2.1) fun T15_ X15_ e15_ => ?_
  refine jg T15_ mM 32 ll3 [(.ref pg), (.long zs), (.ref st)] (fun tT kK => ?_) ?_
  · refine XS.aload X15_.here hx rfl (hC e31_25.2.2.2) rfl rfl ?_
    exact kK
  obtain ⟨T16_, X16_, e16_, st16_⟩ := own_getRef X15_ hx hZ hown (jk hw 77 rfl) Via.refl e15_ p5__2.g0 (g := (mkF mM 32 ll3 [(.ref pg), (.long zs), (.ref st)])) rfl rfl (hC e31_32.1)
  refine own_fin st16_ ?_
  refine jg T16_ mM 39 ll3 [(.long (zs + (s'_5_ - sz))), (.ref st)] (fun tT kK => ?_) ?_
  · refine XS.lload X16_.here hx rfl (hC e31_32.2.1) rfl ?_
    refine XS.lsub X16_.here hx rfl (hC e31_32.2.2.1) rfl ?_
    refine XS.ladd X16_.here hx rfl (hC e31_32.2.2.2) rfl ?_
    exact kK
  refine jq X16_ hx hZ hown (jk hw 21 rfl) e16_ fc10_.g0 fc10_.E (jk hw 22 rfl) (jk hw 2 rfl) (ty := .long) (by decide) rfl rfl (hC e31_39.1) K5_ N5_ (Or.inl (List.mem_of_getElem? (i := 0) rfl)) g_st fun T17_ h17_ X17_ e17_ W17_ Fw17_ K17_ N17_ => ?_
  have fc25_ := p5__2.other W17_ (Ne.symm ne6_)
  have Bw17_ := fc10_.s0 hw W17_
  refine jg T17_ mM 44 ll3 [(.ref pg)] (fun tT kK => ?_) ?_
  · refine XS.aload X17_.here hx rfl (hC e31_39.2.1) rfl rfl ?_
    exact kK
  refine jv X17_ hx hZ (y := jy7) hown (jk hw 152 rfl) (jk hw 153 rfl) (jk hw 155 rfl) (jk hw 154 rfl) (jk hw 156 rfl) (jk hw 56 rfl) (rm_bc lL Z a0 hw [] pg (0 : Int32) h17_ n0 (Nat.le_trans Z0 K17_.1) fc25_.g5 fc25_.g4) fc25_.E e17_ own_pd12 [] [] (hC e31_39.2.2) rfl rfl (by rw [hml]; rfl) (by decide) 0 (Nat.le_of_eq rfl) (by decide) (by decide) (by decide : 2 + 0 ≤ _) (by decide : 61 + 0 ≤ _) fun vv26_ T26_ L26_ X26_ hQ26_ => ?_
  obtain ⟨rfl, N26_q, p26__0⟩ := hQ26_
  have N26_ := Fr.app N17_ N26_q
  let ll4 : Array Slot := #[vR st, vI 0, vJ f, vS, vJ t, vS, vI hv, vR pg, vJ sz, vS, vI (((0 : Int32) - (0 : Int32)) + (1 : Int32)), vU]
  refine jg T26_ mM 53 ll4 [(.ref pg)] (fun tT kK => ?_) ?_
  · refine XS.iconst X26_.here hx rfl (hC e31_47.1) ?_
    refine XS.iadd X26_.here hx rfl (hC e31_47.2.1) rfl ?_
    refine XS.istore X26_.here hx rfl (hC e31_47.2.2.1) rfl (l' := ll4) rfl ?_
    refine XS.aload X26_.here hx rfl (hC e31_47.2.2.2) rfl rfl ?_
    exact kK
  obtain ⟨T27_, X27_, e27_, st27_⟩ := own_getRef X26_ hx hZ hown (jk hw 77 rfl) Via.refl p26__0 fc25_.g0 (g := (mkF mM 53 ll4 [(.ref pg)])) rfl rfl (hC e31_53.1)
  refine own_fin st27_ ?_
  refine jg T27_ mM 58 ll4 [(.int (lcmpW s'_5_ (0 : Int64)))] (fun tT kK => ?_) ?_
  · refine XS.lconst X27_.here hx rfl (hC e31_53.2.1) ?_
    refine XS.lcmp X27_.here hx rfl (hC e31_53.2.2.1) rfl ?_
    exact kK
  have t28_ : (0 : Int64).toInt = 0 := rfl
  refine jg T27_ mM 79 ll4 [(.ref st), (.int (((0 : Int32) - (0 : Int32)) + (1 : Int32)))] (fun tT kK => ?_) ?_
  · refine XS.ifYes X27_.here hx rfl (pc0 := 58) (pc' := 76) rfl (hC e31_53.2.2.2) rfl ((if0 _ _).trans (feq (mt (lw_eq s'_5_ (0 : Int64)).mp ((own_nev (by omega)) : ¬ (s'_5_ = (0 : Int64))))).2) (by decide) (by decide) ?_
    refine XS.iload X27_.here hx rfl (hC e31_76.1) rfl ?_
    refine XS.aloadN X27_.here hx rfl (hC e31_76.2.1) rfl rfl ?_
    exact kK
  refine jf X27_ hx hZ hown (jk hw 14 rfl) e27_ Bw17_.g3 (hC e31_76.2.2.1) fun T29_ X29_ e29_ => ?_
  refine jg T29_ mM 85 ll4 [(.int (pb + (19 : Int32))), (.int (((0 : Int32) - (0 : Int32)) + (1 : Int32)))] (fun tT kK => ?_) ?_
  · refine XS.bipush X29_.here hx rfl (hC e31_76.2.2.2) ?_
    refine XS.iadd X29_.here hx rfl (hC e31_84.1) rfl ?_
    exact kK
  have t30_ : (19 : Int32).toInt = 19 := rfl
  have t31_ := own_add3 (x := pb) (y := (19 : Int32)) (by omega)
  have t32_ : (0 : Int32).toInt = 0 := rfl
  have t33_ := own_sub3 (x := (0 : Int32)) (y := (0 : Int32)) (by omega)
  have t34_ : (1 : Int32).toInt = 1 := rfl
  have t35_ := own_add3 (x := ((0 : Int32) - (0 : Int32))) (y := (1 : Int32)) (by omega)
  refine jg T29_ mM 150 ll4 [(.ref st), (.int (((0 : Int32) - (0 : Int32)) + (1 : Int32)))] (fun tT kK => ?_) ?_
  · refine XS.icmpYes X29_.here hx rfl (pc0 := 85) (pc' := 147) rfl (hC e31_84.2.1) rfl (flt ((own_nl3 (by omega)) : ¬ ((pb + (19 : Int32)) < (((0 : Int32) - (0 : Int32)) + (1 : Int32))))).2.2.2 (by decide) (by decide) ?_
    refine XS.iload X29_.here hx rfl (hC e31_84.2.2.1) rfl ?_
    refine XS.aloadN X29_.here hx rfl (hC e31_84.2.2.2) rfl rfl ?_
    exact kK
  refine jf X29_ hx hZ hown (jk hw 14 rfl) e29_ Bw17_.g3 (hC e31_150.1) fun T36_ X36_ e36_ => ?_
  refine jg T36_ mM 155 ll4 [(.int (pb / (2 : Int32))), (.int (((0 : Int32) - (0 : Int32)) + (1 : Int32)))] (fun tT kK => ?_) ?_
  · refine XS.iconst X36_.here hx rfl (hC e31_150.2.1) ?_
    refine XS.idiv X36_.here hx rfl (hC e31_150.2.2.1) rfl (by decide) ?_
    exact kK
  by_cases hc155_37_ : (((0 : Int32) - (0 : Int32)) + (1 : Int32)) < (pb / (2 : Int32))
  · refine jg T36_ mM 162 ll4 [(.ref st), (.int 1)] (fun tT kK => ?_) ?_
    · refine XS.icmpNo X36_.here hx rfl (hC e31_150.2.2.2) rfl (tlt (hc155_37_ : (((0 : Int32) - (0 : Int32)) + (1 : Int32)) < (pb / (2 : Int32)))).2.1 ?_
      refine XS.iloadN X36_.here hx rfl (hC e31_158.1) rfl ?_
      refine XS.iconst X36_.here hx rfl (hC e31_158.2.1) ?_
      refine XS.iadd X36_.here hx rfl (hC e31_158.2.2.1) rfl ?_
      refine XS.aloadN X36_.here hx rfl (hC e31_158.2.2.2) rfl rfl ?_
      exact kK
    refine jf X36_ hx hZ hown (jk hw 40 rfl) e36_ Bw17_.g2 (hC e31_162.1) fun T38_ X38_ e38_ => ?_
    refine jg T38_ mM 245 ll4 [] (fun tT kK => ?_) ?_
    · refine XS.icmpYes X38_.here hx rfl (pc0 := 165) (pc' := 206) rfl (hC e31_162.2.1) rfl (flt ((by decide) : ¬ ((1 : Int32) < (1 : Int32)))).2.1 (by decide) (by decide) ?_
      refine XS.iloadN X38_.here hx rfl (hC e31_162.2.2.1) rfl ?_
      show Steps pP.tables eE below (T38_.setTop (mkF mM 207 ll4 [(.int 0)])) tT
      refine XS.ifYes X38_.here hx rfl (pc0 := 207) (pc' := 245) rfl (hC e31_162.2.2.2) rfl ((if0 _ _).trans (flt ((by decide) : ¬ ((0 : Int32) < (0 : Int32)))).2.2.2) (by decide) (by decide) ?_
      exact kK
    have t39_ := rng64 s'_5_
    have t40_ := rng64 sz
    have t41_ := own_sub (x := s'_5_) (y := sz) (by omega)
    have t42_ := own_add (x := zs) (y := (s'_5_ - sz)) (by omega)
    exact own_rV X38_ hx hlk hre (hC d31_245) e38_ (by decide) (by decide) ⟨(zs + (s'_5_ - sz)), s'_5_, f'_5_, t'_5_, rfl, N26_, K17_, (by omega), (by omega), Bw17_, fc25_⟩
  · refine jg T36_ mM 245 ll4 [] (fun tT kK => ?_) ?_
    · refine XS.icmpYes X36_.here hx rfl (pc0 := 155) (pc' := 245) rfl (hC e31_150.2.2.2) rfl (flt (hc155_37_ : ¬ ((((0 : Int32) - (0 : Int32)) + (1 : Int32)) < (pb / (2 : Int32))))).2.1 (by decide) (by decide) ?_
      exact kK
    have t43_ := rng64 s'_5_
    have t44_ := rng64 sz
    have t45_ := own_sub (x := s'_5_) (y := sz) (by omega)
    have t46_ := own_add (x := zs) (y := (s'_5_ - sz)) (by omega)
    exact own_rV X36_ hx hlk hre (hC d31_245) e36_ (by decide) (by decide) ⟨(zs + (s'_5_ - sz)), s'_5_, f'_5_, t'_5_, rfl, N26_, K17_, (by omega), (by omega), Bw17_, fc25_⟩
theorem own_ef_rm_E2 (mM : MethodId) (x0 : Addr) (x1 : Int32) (x2 : Int64) (x3 : Int64) (x4 : Int32) : entryFrame mM #[(.ref x0), (.int x1), (.long x2), (.long x3), (.int x4)] 12 = mkF mM 0 #[.val (.ref x0), .val (.int x1), .val (.long x2), .second, .val (.long x3), .second, .val (.int x4), .unset, .unset, .unset, .unset, .unset] [] := by first | (simp [entryFrame, mkF, argsToLocals, Value.category]; done) | rfl
def Q_rm_E2 (Z : State) (pg : Addr) (st : Addr) (pa : Addr) (np : Addr) (nb : Addr) (kq : ClassId) (kp : ClassId) (kn : ClassId) (pb : Int32) (zs : Int64) (sz : Int64) (ff : Int64) (ft : Int64) (lg : Int64) (lf : Int64) (lt : Int64) (f : Int64) (t : Int64) (h0 : Heap) (n0 : Nat) (vV : Option Value) (hH : Heap) (lA : List Loc) : Prop := ∃ ba : Addr, ∃ kb : ClassId, ∃ en : Int32, ∃ z : Int32, ∃ vs : List Value, vV = none ∧ Fr n0 lA ∧ (Keep h0 hH [st, pg]) ∧ (h0.size ≤ ba) ∧ (own_E vs en.toNatClampNeg (ff - t).toInt) ∧ (1 ≤ en.toInt ∧ en.toInt ≤ 19 ∧ en.toInt ≤ z.toInt) ∧ (own_bP Z hH pg ((t - f) + (ft - ff)) f t (.ref ba) (0 : Int32) en (0 : Int32) (ff - t) ff ft) ∧ (Arv Z hH ba kb .byte z vs (.int 0)) ∧ (own_bO Z hH st (zs + (((t - f) + (ft - ff)) - sz)) (.ref pa) (1 : Int32) pb)
theorem rm_E2 (lL : Launch) (Z : State) (a0 : Array Value) (hw : own_H a0 Z) (ws : List Jvm.Cond) (pg : Addr) (st : Addr) (pa : Addr) (np : Addr) (nb : Addr) (kq : ClassId) (kp : ClassId) (kn : ClassId) (pb : Int32) (zs : Int64) (sz : Int64) (ff : Int64) (ft : Int64) (lg : Int64) (lf : Int64) (lt : Int64) (f : Int64) (t : Int64) (h0 : Heap) (n0 : Nat) (Z0 : n0 ≤ h0.size) (F0 : own_bO Z h0 st zs (.ref pa) (1 : Int32) pb) (Vp : Arv Z h0 pa kq (.object "com/example/portion/portion/server/OffsetSet$Page") (2 : Int32) [(.ref pg), .null] .null) (Vn : Arv Z h0 np kp (.object "com/example/portion/portion/server/OffsetSet$Page") (0 : Int32) [] .null) (Vm : Arv Z h0 nb kn .byte (0 : Int32) [] (.int 0)) (Zp : Sta Z Z.heap "com/example/portion/portion/server/OffsetSet" "NO_PAGES" "[Lcom/example/portion/portion/server/OffsetSet$Page;" (.ref np)) (Zb : Sta Z Z.heap "com/example/portion/portion/server/OffsetSet" "NO_BYTES" "[B" (.ref nb)) (O0 : Old Z n0 h0) (G0 : own_bP Z h0 pg sz ff ft (.ref nb) (0 : Int32) (0 : Int32) (-1 : Int32) lg lf lt) (g_st : n0 ≤ st) (g_pg : n0 ≤ pg) (ne_np_pa : np ≠ pa) (hf0 : 0 ≤ f.toInt) (hd : ft.toInt = ff.toInt + 1) (hs : sz.toInt = 1) (hzs : 1 ≤ zs.toInt ∧ zs.toInt ≤ 2) (h1 : t.toInt = f.toInt + 1) (h2 : t.toInt < ff.toInt) (h3 : ft.toInt = ff.toInt + 1) (hp : 1 ≤ pb.toInt ∧ pb.toInt ≤ 1024) :
    own_Met lL jy28 (Jvm.Cond.code jy28 prog_38_method_21_code 12 none :: ws) jr24 #[(.ref st), (.int 0), (.long f), (.long t), (.int 1)] Z h0 (Q_rm_E2 Z pg st pa np nb kq kp kn pb zs sz ff ft lg lf lt f t h0 n0) := by
  refine own_begin (plainFor_of_name own_pn_com_example_portion_portion_server_OffsetSet) (fun mM => own_ef_rm_E2 mM st (0 : Int32) f t (1 : Int32)) fun pP eE sS mM below meth cC s₁ hx hby hml hZ hown hnm hre hlk X0 e0 => ?_
  have hC := @Jvm.hb _ _ hby
  have N0 := Fr.nil n0
  have K0 := Keep.refl h0 [st, pg]
  let ll1 : Array Slot := #[vR st, vI 0, vJ f, vS, vJ t, vS, vI 1, vU, vU, vU, vU, vU]
  refine jg s₁ mM 1 ll1 [(.ref st)] (fun tT kK => ?_) ?_
  · refine XS.aloadN X0.here hx rfl (hC e31_0.1) rfl rfl ?_
    exact kK
  refine jf X0 hx hZ hown (jk hw 12 rfl) e0 F0.g1 (hC e31_0.2.1) fun T1_ X1_ e1_ => ?_
  refine jg T1_ mM 5 ll1 [(.int 0), (.ref pa)] (fun tT kK => ?_) ?_
  · refine XS.iloadN X1_.here hx rfl (hC e31_0.2.2.1) rfl ?_
    exact kK
  obtain ⟨cl2_, Ar2_, qk2_, Sz2_, Nn2_, Hh2_, Gg2_⟩ := id Vp
  have hin3_ : ¬ ((0 : Int32) < 0 ∨ cl2_.slots.size ≤ ((0 : Int32)).toNatClampNeg) := inb_of Sz2_ ⟨by decide, by decide⟩
  have hat3_ : cl2_.slots[((0 : Int32)).toNatClampNeg]? = some (.ref pg) := Hh2_.at hin3_ rfl
  let ll2 : Array Slot := #[vR st, vI 0, vJ f, vS, vJ t, vS, vI 1, vR pg, vU, vU, vU, vU]
  refine jg T1_ mM 10 ll2 [(.ref pg)] (fun tT kK => ?_) ?_
  · refine X1_.aaload hx (j := (0 : Int32)) (v := (.ref pg)) (own_rw e1_ Ar2_.1) (State.isArrayOf_alike hZ.alike Ar2_.2.1) rfl Ar2_.2.2 hin3_ hat3_ (g := (mkF mM 5 ll1 [(.int 0), (.ref pa)])) rfl rfl (hC e31_0.2.2.2) _ ?_
    refine XS.astore X1_.here hx rfl (hC e31_6.1) rfl rfl (l' := ll2) rfl ?_
    refine XS.aload X1_.here hx rfl (hC e31_6.2.1) rfl rfl ?_
    exact kK
  obtain ⟨T4_, X4_, e4_, st4_⟩ := own_getRef X1_ hx hZ hown (jk hw 77 rfl) Via.refl e1_ G0.g0 (g := (mkF mM 10 ll2 [(.ref pg)])) rfl rfl (hC e31_6.2.2.1)
  refine own_fin st4_ ?_
  let ll3 : Array Slot := #[vR st, vI 0, vJ f, vS, vJ t, vS, vI 1, vR pg, vJ sz, vS, vU, vU]
  refine jg T4_ mM 22 ll3 [(.int 1), (.long t), (.long f), (.ref pg)] (fun tT kK => ?_) ?_
  · refine XS.lstore X4_.here hx rfl (hC e31_6.2.2.2) rfl (l' := ll3) rfl ?_
    refine XS.aload X4_.here hx rfl (hC e31_15.1) rfl rfl ?_
    refine XS.lloadN X4_.here hx rfl (hC e31_15.2.1) rfl ?_
    refine XS.lload X4_.here hx rfl (hC e31_15.2.2.1) rfl ?_
    refine XS.iload X4_.here hx rfl (hC e31_15.2.2.2) rfl ?_
    exact kK
  refine jv X4_ hx hZ (y := jy27) hown (jk hw 205 rfl) (jk hw 206 rfl) (jk hw 208 rfl) (jk hw 207 rfl) (jk hw 209 rfl) (jk hw 56 rfl) (rm_S2 lL Z a0 hw [] pg nb kn sz ff ft lg lf lt f t h0 n0 (Nat.le_trans Z0 K0.1) G0 Vm Zb O0 (by omega) (by omega) (by omega) (by omega) (by omega) (by omega) g_pg) G0.E e4_ own_pd11 [(.long f), (.long t), (.int 1)] [] (hC d31_22) rfl rfl (by rw [hml]; rfl) (by decide) 0 (Nat.le_of_eq rfl) (by decide) (by decide) (by decide : 0 + 3 ≤ _) (by decide : 0 + 80 ≤ _) fun vv5_ T5_ L5_ X5_ hQ5_ => ?_
  obtain ⟨ba_5_, kb_5_, en_5_, z_5_, vs_5_, rfl, N5_q, p5__0, p5__1, p5__2, p5__3, p5__4, p5__5⟩ := hQ5_
  have N5_ := Fr.app N0 N5_q
  have sz_ba_5_ : h0.size ≤ ba_5_ := Nat.le_trans K0.1 p5__1
  have ne6_ : st ≠ ba_5_ := Nat.ne_of_lt (Nat.lt_of_lt_of_le F0.lt p5__1)
  have ne11_ : st ≠ pg := (Exa.ne F0.E G0.E (by decide))
  have fc15_ := F0.keep p5__0 (ninS ne11_ nin0)
  have K5_ := K0.trans p5__0 (allS (Or.inl (List.mem_of_getElem? (i := 1) rfl)) all0)
  refine jg T5_ mM 27 ll3 [(.ref st), (.ref st)] (fun tT kK => ?_) ?_
  · refine XS.aloadN X5_.here hx rfl (hC e31_25.1) rfl rfl ?_
    refine XS.dup X5_.here hx rfl (hC e31_25.2.1) rfl rfl ?_
    exact kK
  refine jf X5_ hx hZ hown (jk hw 21 rfl) rfl fc15_.g0 (hC e31_25.2.2.1) fun T20_ X20_ e20_ => ?_
  refine jg T20_ mM 32 ll3 [(.ref pg), (.long zs), (.ref st)] (fun tT kK => ?_) ?_
  · refine XS.aload X20_.here hx rfl (hC e31_25.2.2.2) rfl rfl ?_
    exact kK
  obtain ⟨T21_, X21_, e21_, st21_⟩ := own_getRef X20_ hx hZ hown (jk hw 77 rfl) Via.refl e20_ p5__4.g0 (g := (mkF mM 32 ll3 [(.ref pg), (.long zs), (.ref st)])) rfl rfl (hC e31_32.1)
  refine own_fin st21_ ?_
  refine jg T21_ mM 39 ll3 [(.long (zs + (((t - f) + (ft - ff)) - sz))), (.ref st)] (fun tT kK => ?_) ?_
  · refine XS.lload X21_.here hx rfl (hC e31_32.2.1) rfl ?_
    refine XS.lsub X21_.here hx rfl (hC e31_32.2.2.1) rfl ?_
    refine XS.ladd X21_.here hx rfl (hC e31_32.2.2.2) rfl ?_
    exact kK
  refine jq X21_ hx hZ hown (jk hw 21 rfl) e21_ fc15_.g0 fc15_.E (jk hw 22 rfl) (jk hw 2 rfl) (ty := .long) (by decide) rfl rfl (hC e31_39.1) K5_ N5_ (Or.inl (List.mem_of_getElem? (i := 0) rfl)) g_st fun T22_ h22_ X22_ e22_ W22_ Fw22_ K22_ N22_ => ?_
  have fc30_ := p5__4.other W22_ (Ne.symm ne11_)
  have fc31_ := p5__5.other W22_ (Ne.symm ne6_)
  have Bw22_ := fc15_.s0 hw W22_
  refine jg T22_ mM 44 ll3 [(.ref pg)] (fun tT kK => ?_) ?_
  · refine XS.aload X22_.here hx rfl (hC e31_39.2.1) rfl rfl ?_
    exact kK
  refine jv X22_ hx hZ (y := jy7) hown (jk hw 152 rfl) (jk hw 153 rfl) (jk hw 155 rfl) (jk hw 154 rfl) (jk hw 156 rfl) (jk hw 56 rfl) (rm_bc lL Z a0 hw [] pg en_5_ h22_ n0 (Nat.le_trans Z0 K22_.1) fc30_.g5 fc30_.g4) fc30_.E e22_ own_pd12 [] [] (hC e31_39.2.2) rfl rfl (by rw [hml]; rfl) (by decide) 0 (Nat.le_of_eq rfl) (by decide) (by decide) (by decide : 3 + 0 ≤ _) (by decide : 80 + 0 ≤ _) fun vv32_ T32_ L32_ X32_ hQ32_ => ?_
  obtain ⟨rfl, N32_q, p32__0⟩ := hQ32_
  have N32_ := Fr.app N22_ N32_q
  let ll4 : Array Slot := #[vR st, vI 0, vJ f, vS, vJ t, vS, vI 1, vR pg, vJ sz, vS, vI ((en_5_ - (0 : Int32)) + (1 : Int32)), vU]
  refine jg T32_ mM 53 ll4 [(.ref pg)] (fun tT kK => ?_) ?_
  · refine XS.iconst X32_.here hx rfl (hC e31_47.1) ?_
    refine XS.iadd X32_.here hx rfl (hC e31_47.2.1) rfl ?_
    refine XS.istore X32_.here hx rfl (hC e31_47.2.2.1) rfl (l' := ll4) rfl ?_
    refine XS.aload X32_.here hx rfl (hC e31_47.2.2.2) rfl rfl ?_
    exact kK
  obtain ⟨T33_, X33_, e33_, st33_⟩ := own_getRef X32_ hx hZ hown (jk hw 77 rfl) Via.refl p32__0 fc30_.g0 (g := (mkF mM 53 ll4 [(.ref pg)])) rfl rfl (hC e31_53.1)
  refine own_fin st33_ ?_
  refine jg T33_ mM 58 ll4 [(.int (lcmpW ((t - f) + (ft - ff)) (0 : Int64)))] (fun tT kK => ?_) ?_
  · refine XS.lconst X33_.here hx rfl (hC e31_53.2.1) ?_
    refine XS.lcmp X33_.here hx rfl (hC e31_53.2.2.1) rfl ?_
    exact kK
  have t34_ := rng64 t
  have t35_ := rng64 f
  have t36_ := own_sub (x := t) (y := f) (by omega)
  have t37_ := rng64 ft
  have t38_ := rng64 ff
  have t39_ := own_sub (x := ft) (y := ff) (by omega)
  have t40_ := own_add (x := (t - f)) (y := (ft - ff)) (by omega)
  have t41_ : (0 : Int64).toInt = 0 := rfl
  refine jg T33_ mM 79 ll4 [(.ref st), (.int ((en_5_ - (0 : Int32)) + (1 : Int32)))] (fun tT kK => ?_) ?_
  · refine XS.ifYes X33_.here hx rfl (pc0 := 58) (pc' := 76) rfl (hC e31_53.2.2.2) rfl ((if0 _ _).trans (feq (mt (lw_eq ((t - f) + (ft - ff)) (0 : Int64)).mp ((own_nev (by omega)) : ¬ (((t - f) + (ft - ff)) = (0 : Int64))))).2) (by decide) (by decide) ?_
    refine XS.iload X33_.here hx rfl (hC e31_76.1) rfl ?_
    refine XS.aloadN X33_.here hx rfl (hC e31_76.2.1) rfl rfl ?_
    exact kK
  refine jf X33_ hx hZ hown (jk hw 14 rfl) e33_ Bw22_.g3 (hC e31_76.2.2.1) fun T42_ X42_ e42_ => ?_
  refine jg T42_ mM 85 ll4 [(.int (pb + (19 : Int32))), (.int ((en_5_ - (0 : Int32)) + (1 : Int32)))] (fun tT kK => ?_) ?_
  · refine XS.bipush X42_.here hx rfl (hC e31_76.2.2.2) ?_
    refine XS.iadd X42_.here hx rfl (hC e31_84.1) rfl ?_
    exact kK
  have t43_ : (19 : Int32).toInt = 19 := rfl
  have t44_ := own_add3 (x := pb) (y := (19 : Int32)) (by omega)
  have t45_ : (0 : Int32).toInt = 0 := rfl
  have t46_ := own_sub3 (x := en_5_) (y := (0 : Int32)) (by omega)
  have t47_ : (1 : Int32).toInt = 1 := rfl
  have t48_ := own_add3 (x := (en_5_ - (0 : Int32))) (y := (1 : Int32)) (by omega)
  refine jg T42_ mM 150 ll4 [(.ref st), (.int ((en_5_ - (0 : Int32)) + (1 : Int32)))] (fun tT kK => ?_) ?_
  · refine XS.icmpYes X42_.here hx rfl (pc0 := 85) (pc' := 147) rfl (hC e31_84.2.1) rfl (flt ((own_nl3 (by omega)) : ¬ ((pb + (19 : Int32)) < ((en_5_ - (0 : Int32)) + (1 : Int32))))).2.2.2 (by decide) (by decide) ?_
    refine XS.iload X42_.here hx rfl (hC e31_84.2.2.1) rfl ?_
    refine XS.aloadN X42_.here hx rfl (hC e31_84.2.2.2) rfl rfl ?_
    exact kK
  refine jf X42_ hx hZ hown (jk hw 14 rfl) e42_ Bw22_.g3 (hC e31_150.1) fun T49_ X49_ e49_ => ?_
  refine jg T49_ mM 155 ll4 [(.int (pb / (2 : Int32))), (.int ((en_5_ - (0 : Int32)) + (1 : Int32)))] (fun tT kK => ?_) ?_
  · refine XS.iconst X49_.here hx rfl (hC e31_150.2.1) ?_
    refine XS.idiv X49_.here hx rfl (hC e31_150.2.2.1) rfl (by decide) ?_
    exact kK
  by_cases hc155_50_ : ((en_5_ - (0 : Int32)) + (1 : Int32)) < (pb / (2 : Int32))
  · refine jg T49_ mM 162 ll4 [(.ref st), (.int 1)] (fun tT kK => ?_) ?_
    · refine XS.icmpNo X49_.here hx rfl (hC e31_150.2.2.2) rfl (tlt (hc155_50_ : ((en_5_ - (0 : Int32)) + (1 : Int32)) < (pb / (2 : Int32)))).2.1 ?_
      refine XS.iloadN X49_.here hx rfl (hC e31_158.1) rfl ?_
      refine XS.iconst X49_.here hx rfl (hC e31_158.2.1) ?_
      refine XS.iadd X49_.here hx rfl (hC e31_158.2.2.1) rfl ?_
      refine XS.aloadN X49_.here hx rfl (hC e31_158.2.2.2) rfl rfl ?_
      exact kK
    refine jf X49_ hx hZ hown (jk hw 40 rfl) e49_ Bw22_.g2 (hC e31_162.1) fun T51_ X51_ e51_ => ?_
    refine jg T51_ mM 245 ll4 [] (fun tT kK => ?_) ?_
    · refine XS.icmpYes X51_.here hx rfl (pc0 := 165) (pc' := 206) rfl (hC e31_162.2.1) rfl (flt ((by decide) : ¬ ((1 : Int32) < (1 : Int32)))).2.1 (by decide) (by decide) ?_
      refine XS.iloadN X51_.here hx rfl (hC e31_162.2.2.1) rfl ?_
      show Steps pP.tables eE below (T51_.setTop (mkF mM 207 ll4 [(.int 0)])) tT
      refine XS.ifYes X51_.here hx rfl (pc0 := 207) (pc' := 245) rfl (hC e31_162.2.2.2) rfl ((if0 _ _).trans (flt ((by decide) : ¬ ((0 : Int32) < (0 : Int32)))).2.2.2) (by decide) (by decide) ?_
      exact kK
    exact own_rV X51_ hx hlk hre (hC d31_245) e51_ (by decide) (by decide) ⟨ba_5_, kb_5_, en_5_, z_5_, vs_5_, rfl, N32_, K22_, sz_ba_5_, p5__2, p5__3, fc30_, fc31_, Bw22_⟩
  · refine jg T49_ mM 245 ll4 [] (fun tT kK => ?_) ?_
    · refine XS.icmpYes X49_.here hx rfl (pc0 := 155) (pc' := 245) rfl (hC e31_150.2.2.2) rfl (flt (hc155_50_ : ¬ (((en_5_ - (0 : Int32)) + (1 : Int32)) < (pb / (2 : Int32))))).2.1 (by decide) (by decide) ?_
      exact kK
    exact own_rV X49_ hx hlk hre (hC d31_245) e49_ (by decide) (by decide) ⟨ba_5_, kb_5_, en_5_, z_5_, vs_5_, rfl, N32_, K22_, sz_ba_5_, p5__2, p5__3, fc30_, fc31_, Bw22_⟩
theorem own_ef_rm_E4 (mM : MethodId) (x0 : Addr) (x1 : Int32) (x2 : Int64) (x3 : Int64) (x4 : Int32) : entryFrame mM #[(.ref x0), (.int x1), (.long x2), (.long x3), (.int x4)] 12 = mkF mM 0 #[.val (.ref x0), .val (.int x1), .val (.long x2), .second, .val (.long x3), .second, .val (.int x4), .unset, .unset, .unset, .unset, .unset] [] := by first | (simp [entryFrame, mkF, argsToLocals, Value.category]; done) | rfl
def Q_rm_E4 (Z : State) (pg : Addr) (st : Addr) (pa : Addr) (np : Addr) (nb : Addr) (kq : ClassId) (kp : ClassId) (kn : ClassId) (pb : Int32) (zs : Int64) (sz : Int64) (ff : Int64) (ft : Int64) (lg : Int64) (lf : Int64) (lt : Int64) (ba : Addr) (kb : ClassId) (en : Int32) (z : Int32) (vs : List Value) (f : Int64) (t : Int64) (h0 : Heap) (n0 : Nat) (vV : Option Value) (hH : Heap) (lA : List Loc) : Prop := vV = none ∧ Fr n0 lA ∧ (Keep h0 hH [st, pg]) ∧ (own_bO Z hH st (zs + (((0 : Int64) + (ft - ff)) - sz)) (.ref pa) (1 : Int32) pb)
theorem rm_E4 (lL : Launch) (Z : State) (a0 : Array Value) (hw : own_H a0 Z) (ws : List Jvm.Cond) (pg : Addr) (st : Addr) (pa : Addr) (np : Addr) (nb : Addr) (kq : ClassId) (kp : ClassId) (kn : ClassId) (pb : Int32) (zs : Int64) (sz : Int64) (ff : Int64) (ft : Int64) (lg : Int64) (lf : Int64) (lt : Int64) (ba : Addr) (kb : ClassId) (en : Int32) (z : Int32) (vs : List Value) (f : Int64) (t : Int64) (h0 : Heap) (n0 : Nat) (Z0 : n0 ≤ h0.size) (F0 : own_bO Z h0 st zs (.ref pa) (1 : Int32) pb) (Vp : Arv Z h0 pa kq (.object "com/example/portion/portion/server/OffsetSet$Page") (2 : Int32) [(.ref pg), .null] .null) (Vn : Arv Z h0 np kp (.object "com/example/portion/portion/server/OffsetSet$Page") (0 : Int32) [] .null) (Vm : Arv Z h0 nb kn .byte (0 : Int32) [] (.int 0)) (Zp : Sta Z Z.heap "com/example/portion/portion/server/OffsetSet" "NO_PAGES" "[Lcom/example/portion/portion/server/OffsetSet$Page;" (.ref np)) (Zb : Sta Z Z.heap "com/example/portion/portion/server/OffsetSet" "NO_BYTES" "[B" (.ref nb)) (O0 : Old Z n0 h0) (G0 : own_bP Z h0 pg sz ff ft (.ref ba) (0 : Int32) en (0 : Int32) lg lf lt) (Vb : Arv Z h0 ba kb .byte z vs (.int 0)) (hE : own_E vs en.toNatClampNeg lg.toInt) (hn : 0 ≤ en.toInt ∧ en.toInt ≤ z.toInt) (g_st : n0 ≤ st) (g_pg : n0 ≤ pg) (ne_np_pa : np ≠ pa) (hf0 : 0 ≤ ff.toInt ∧ ff.toInt < 9223372036854775807) (hd : ft.toInt = ff.toInt + 1) (hg : 1 ≤ lg.toInt ∧ lf.toInt = ft.toInt + lg.toInt) (hl1 : lt.toInt = lf.toInt + 1) (hzs : 1 ≤ zs.toInt ∧ zs.toInt ≤ 2) (h1 : f.toInt = lf.toInt) (h2 : t.toInt = lf.toInt + 1) (hs2 : sz.toInt = 2) (hp : 1 ≤ pb.toInt ∧ pb.toInt ≤ 1024) :
    own_Met lL jy28 (Jvm.Cond.code jy28 prog_38_method_21_code 12 none :: ws) jr23 #[(.ref st), (.int 0), (.long f), (.long t), (.int 0)] Z h0 (Q_rm_E4 Z pg st pa np nb kq kp kn pb zs sz ff ft lg lf lt ba kb en z vs f t h0 n0) := by
  refine own_begin (plainFor_of_name own_pn_com_example_portion_portion_server_OffsetSet) (fun mM => own_ef_rm_E4 mM st (0 : Int32) f t (0 : Int32)) fun pP eE sS mM below meth cC s₁ hx hby hml hZ hown hnm hre hlk X0 e0 => ?_
  have hC := @Jvm.hb _ _ hby
  have N0 := Fr.nil n0
  have K0 := Keep.refl h0 [st, pg]
  let ll1 : Array Slot := #[vR st, vI 0, vJ f, vS, vJ t, vS, vI 0, vU, vU, vU, vU, vU]
  refine jg s₁ mM 1 ll1 [(.ref st)] (fun tT kK => ?_) ?_
  · refine XS.aloadN X0.here hx rfl (hC e31_0.1) rfl rfl ?_
    exact kK
  refine jf X0 hx hZ hown (jk hw 12 rfl) e0 F0.g1 (hC e31_0.2.1) fun T1_ X1_ e1_ => ?_
  refine jg T1_ mM 5 ll1 [(.int 0), (.ref pa)] (fun tT kK => ?_) ?_
  · refine XS.iloadN X1_.here hx rfl (hC e31_0.2.2.1) rfl ?_
    exact kK
  obtain ⟨cl2_, Ar2_, qk2_, Sz2_, Nn2_, Hh2_, Gg2_⟩ := id Vp
  have hin3_ : ¬ ((0 : Int32) < 0 ∨ cl2_.slots.size ≤ ((0 : Int32)).toNatClampNeg) := inb_of Sz2_ ⟨by decide, by decide⟩
  have hat3_ : cl2_.slots[((0 : Int32)).toNatClampNeg]? = some (.ref pg) := Hh2_.at hin3_ rfl
  let ll2 : Array Slot := #[vR st, vI 0, vJ f, vS, vJ t, vS, vI 0, vR pg, vU, vU, vU, vU]
  refine jg T1_ mM 10 ll2 [(.ref pg)] (fun tT kK => ?_) ?_
  · refine X1_.aaload hx (j := (0 : Int32)) (v := (.ref pg)) (own_rw e1_ Ar2_.1) (State.isArrayOf_alike hZ.alike Ar2_.2.1) rfl Ar2_.2.2 hin3_ hat3_ (g := (mkF mM 5 ll1 [(.int 0), (.ref pa)])) rfl rfl (hC e31_0.2.2.2) _ ?_
    refine XS.astore X1_.here hx rfl (hC e31_6.1) rfl rfl (l' := ll2) rfl ?_
    refine XS.aload X1_.here hx rfl (hC e31_6.2.1) rfl rfl ?_
    exact kK
  obtain ⟨T4_, X4_, e4_, st4_⟩ := own_getRef X1_ hx hZ hown (jk hw 77 rfl) Via.refl e1_ G0.g0 (g := (mkF mM 10 ll2 [(.ref pg)])) rfl rfl (hC e31_6.2.2.1)
  refine own_fin st4_ ?_
  let ll3 : Array Slot := #[vR st, vI 0, vJ f, vS, vJ t, vS, vI 0, vR pg, vJ sz, vS, vU, vU]
  refine jg T4_ mM 22 ll3 [(.int 0), (.long t), (.long f), (.ref pg)] (fun tT kK => ?_) ?_
  · refine XS.lstore X4_.here hx rfl (hC e31_6.2.2.2) rfl (l' := ll3) rfl ?_
    refine XS.aload X4_.here hx rfl (hC e31_15.1) rfl rfl ?_
    refine XS.lloadN X4_.here hx rfl (hC e31_15.2.1) rfl ?_
    refine XS.lload X4_.here hx rfl (hC e31_15.2.2.1) rfl ?_
    refine XS.iload X4_.here hx rfl (hC e31_15.2.2.2) rfl ?_
    exact kK
  refine jv X4_ hx hZ (y := jy27) hown (jk hw 205 rfl) (jk hw 206 rfl) (jk hw 208 rfl) (jk hw 207 rfl) (jk hw 209 rfl) (jk hw 56 rfl) (rm_S4 lL Z a0 hw [] pg nb kn sz ff ft lg lf lt ba kb en z vs f t h0 n0 (Nat.le_trans Z0 K0.1) G0 Vb hE hn Vm Zb O0 (by omega) (by omega) (by omega) (by omega) (by omega) (by omega) g_pg) G0.E e4_ own_pd11 [(.long f), (.long t), (.int 0)] [] (hC d31_22) rfl rfl (by rw [hml]; rfl) (by decide) 0 (Nat.le_of_eq rfl) (by decide) (by decide) (by decide : 0 + 2 ≤ _) (by decide : 0 + 61 ≤ _) fun vv5_ T5_ L5_ X5_ hQ5_ => ?_
  obtain ⟨rfl, N5_q, p5__0, p5__1⟩ := hQ5_
  have N5_ := Fr.app N0 N5_q
  have ne6_ : st ≠ pg := (Exa.ne F0.E G0.E (by decide))
  have fc11_ := F0.keep p5__0 (ninS ne6_ nin0)
  have K5_ := K0.trans p5__0 (allS (Or.inl (List.mem_of_getElem? (i := 1) rfl)) all0)
  refine jg T5_ mM 27 ll3 [(.ref st), (.ref st)] (fun tT kK => ?_) ?_
  · refine XS.aloadN X5_.here hx rfl (hC e31_25.1) rfl rfl ?_
    refine XS.dup X5_.here hx rfl (hC e31_25.2.1) rfl rfl ?_
    exact kK
  refine jf X5_ hx hZ hown (jk hw 21 rfl) rfl fc11_.g0 (hC e31_25.2.2.1) fun T17_ X17_ e17_ => ?_
  refine jg T17_ mM 32 ll3 [(.ref pg), (.long zs), (.ref st)] (fun tT kK => ?_) ?_
  · refine XS.aload X17_.here hx rfl (hC e31_25.2.2.2) rfl rfl ?_
    exact kK
  obtain ⟨T18_, X18_, e18_, st18_⟩ := own_getRef X17_ hx hZ hown (jk hw 77 rfl) Via.refl e17_ p5__1.g0 (g := (mkF mM 32 ll3 [(.ref pg), (.long zs), (.ref st)])) rfl rfl (hC e31_32.1)
  refine own_fin st18_ ?_
  refine jg T18_ mM 39 ll3 [(.long (zs + (((0 : Int64) + (ft - ff)) - sz))), (.ref st)] (fun tT kK => ?_) ?_
  · refine XS.lload X18_.here hx rfl (hC e31_32.2.1) rfl ?_
    refine XS.lsub X18_.here hx rfl (hC e31_32.2.2.1) rfl ?_
    refine XS.ladd X18_.here hx rfl (hC e31_32.2.2.2) rfl ?_
    exact kK
  refine jq X18_ hx hZ hown (jk hw 21 rfl) e18_ fc11_.g0 fc11_.E (jk hw 22 rfl) (jk hw 2 rfl) (ty := .long) (by decide) rfl rfl (hC e31_39.1) K5_ N5_ (Or.inl (List.mem_of_getElem? (i := 0) rfl)) g_st fun T19_ h19_ X19_ e19_ W19_ Fw19_ K19_ N19_ => ?_
  have fc29_ := p5__1.other W19_ (Ne.symm ne6_)
  have Bw19_ := fc11_.s0 hw W19_
  refine jg T19_ mM 44 ll3 [(.ref pg)] (fun tT kK => ?_) ?_
  · refine XS.aload X19_.here hx rfl (hC e31_39.2.1) rfl rfl ?_
    exact kK
  refine jv X19_ hx hZ (y := jy7) hown (jk hw 152 rfl) (jk hw 153 rfl) (jk hw 155 rfl) (jk hw 154 rfl) (jk hw 156 rfl) (jk hw 56 rfl) (rm_bc lL Z a0 hw [] pg (0 : Int32) h19_ n0 (Nat.le_trans Z0 K19_.1) fc29_.g5 fc29_.g4) fc29_.E e19_ own_pd12 [] [] (hC e31_39.2.2) rfl rfl (by rw [hml]; rfl) (by decide) 0 (Nat.le_of_eq rfl) (by decide) (by decide) (by decide : 2 + 0 ≤ _) (by decide : 61 + 0 ≤ _) fun vv30_ T30_ L30_ X30_ hQ30_ => ?_
  obtain ⟨rfl, N30_q, p30__0⟩ := hQ30_
  have N30_ := Fr.app N19_ N30_q
  let ll4 : Array Slot := #[vR st, vI 0, vJ f, vS, vJ t, vS, vI 0, vR pg, vJ sz, vS, vI (((0 : Int32) - (0 : Int32)) + (1 : Int32)), vU]
  refine jg T30_ mM 53 ll4 [(.ref pg)] (fun tT kK => ?_) ?_
  · refine XS.iconst X30_.here hx rfl (hC e31_47.1) ?_
    refine XS.iadd X30_.here hx rfl (hC e31_47.2.1) rfl ?_
    refine XS.istore X30_.here hx rfl (hC e31_47.2.2.1) rfl (l' := ll4) rfl ?_
    refine XS.aload X30_.here hx rfl (hC e31_47.2.2.2) rfl rfl ?_
    exact kK
  obtain ⟨T31_, X31_, e31_, st31_⟩ := own_getRef X30_ hx hZ hown (jk hw 77 rfl) Via.refl p30__0 fc29_.g0 (g := (mkF mM 53 ll4 [(.ref pg)])) rfl rfl (hC e31_53.1)
  refine own_fin st31_ ?_
  refine jg T31_ mM 58 ll4 [(.int (lcmpW ((0 : Int64) + (ft - ff)) (0 : Int64)))] (fun tT kK => ?_) ?_
  · refine XS.lconst X31_.here hx rfl (hC e31_53.2.1) ?_
    refine XS.lcmp X31_.here hx rfl (hC e31_53.2.2.1) rfl ?_
    exact kK
  have t32_ : (0 : Int64).toInt = 0 := rfl
  have t33_ := rng64 ft
  have t34_ := rng64 ff
  have t35_ := own_sub (x := ft) (y := ff) (by omega)
  have t36_ := own_add (x := (0 : Int64)) (y := (ft - ff)) (by omega)
  refine jg T31_ mM 79 ll4 [(.ref st), (.int (((0 : Int32) - (0 : Int32)) + (1 : Int32)))] (fun tT kK => ?_) ?_
  · refine XS.ifYes X31_.here hx rfl (pc0 := 58) (pc' := 76) rfl (hC e31_53.2.2.2) rfl ((if0 _ _).trans (feq (mt (lw_eq ((0 : Int64) + (ft - ff)) (0 : Int64)).mp ((own_nev (by omega)) : ¬ (((0 : Int64) + (ft - ff)) = (0 : Int64))))).2) (by decide) (by decide) ?_
    refine XS.iload X31_.here hx rfl (hC e31_76.1) rfl ?_
    refine XS.aloadN X31_.here hx rfl (hC e31_76.2.1) rfl rfl ?_
    exact kK
  refine jf X31_ hx hZ hown (jk hw 14 rfl) e31_ Bw19_.g3 (hC e31_76.2.2.1) fun T37_ X37_ e37_ => ?_
  refine jg T37_ mM 85 ll4 [(.int (pb + (19 : Int32))), (.int (((0 : Int32) - (0 : Int32)) + (1 : Int32)))] (fun tT kK => ?_) ?_
  · refine XS.bipush X37_.here hx rfl (hC e31_76.2.2.2) ?_
    refine XS.iadd X37_.here hx rfl (hC e31_84.1) rfl ?_
    exact kK
  have t38_ : (19 : Int32).toInt = 19 := rfl
  have t39_ := own_add3 (x := pb) (y := (19 : Int32)) (by omega)
  have t40_ : (0 : Int32).toInt = 0 := rfl
  have t41_ := own_sub3 (x := (0 : Int32)) (y := (0 : Int32)) (by omega)
  have t42_ : (1 : Int32).toInt = 1 := rfl
  have t43_ := own_add3 (x := ((0 : Int32) - (0 : Int32))) (y := (1 : Int32)) (by omega)
  refine jg T37_ mM 150 ll4 [(.ref st), (.int (((0 : Int32) - (0 : Int32)) + (1 : Int32)))] (fun tT kK => ?_) ?_
  · refine XS.icmpYes X37_.here hx rfl (pc0 := 85) (pc' := 147) rfl (hC e31_84.2.1) rfl (flt ((own_nl3 (by omega)) : ¬ ((pb + (19 : Int32)) < (((0 : Int32) - (0 : Int32)) + (1 : Int32))))).2.2.2 (by decide) (by decide) ?_
    refine XS.iload X37_.here hx rfl (hC e31_84.2.2.1) rfl ?_
    refine XS.aloadN X37_.here hx rfl (hC e31_84.2.2.2) rfl rfl ?_
    exact kK
  refine jf X37_ hx hZ hown (jk hw 14 rfl) e37_ Bw19_.g3 (hC e31_150.1) fun T44_ X44_ e44_ => ?_
  refine jg T44_ mM 155 ll4 [(.int (pb / (2 : Int32))), (.int (((0 : Int32) - (0 : Int32)) + (1 : Int32)))] (fun tT kK => ?_) ?_
  · refine XS.iconst X44_.here hx rfl (hC e31_150.2.1) ?_
    refine XS.idiv X44_.here hx rfl (hC e31_150.2.2.1) rfl (by decide) ?_
    exact kK
  by_cases hc155_45_ : (((0 : Int32) - (0 : Int32)) + (1 : Int32)) < (pb / (2 : Int32))
  · refine jg T44_ mM 162 ll4 [(.ref st), (.int 1)] (fun tT kK => ?_) ?_
    · refine XS.icmpNo X44_.here hx rfl (hC e31_150.2.2.2) rfl (tlt (hc155_45_ : (((0 : Int32) - (0 : Int32)) + (1 : Int32)) < (pb / (2 : Int32)))).2.1 ?_
      refine XS.iloadN X44_.here hx rfl (hC e31_158.1) rfl ?_
      refine XS.iconst X44_.here hx rfl (hC e31_158.2.1) ?_
      refine XS.iadd X44_.here hx rfl (hC e31_158.2.2.1) rfl ?_
      refine XS.aloadN X44_.here hx rfl (hC e31_158.2.2.2) rfl rfl ?_
      exact kK
    refine jf X44_ hx hZ hown (jk hw 40 rfl) e44_ Bw19_.g2 (hC e31_162.1) fun T46_ X46_ e46_ => ?_
    refine jg T46_ mM 245 ll4 [] (fun tT kK => ?_) ?_
    · refine XS.icmpYes X46_.here hx rfl (pc0 := 165) (pc' := 206) rfl (hC e31_162.2.1) rfl (flt ((by decide) : ¬ ((1 : Int32) < (1 : Int32)))).2.1 (by decide) (by decide) ?_
      refine XS.iloadN X46_.here hx rfl (hC e31_162.2.2.1) rfl ?_
      show Steps pP.tables eE below (T46_.setTop (mkF mM 207 ll4 [(.int 0)])) tT
      refine XS.ifYes X46_.here hx rfl (pc0 := 207) (pc' := 245) rfl (hC e31_162.2.2.2) rfl ((if0 _ _).trans (flt ((by decide) : ¬ ((0 : Int32) < (0 : Int32)))).2.2.2) (by decide) (by decide) ?_
      exact kK
    exact own_rV X46_ hx hlk hre (hC d31_245) e46_ (by decide) (by decide) ⟨rfl, N30_, K19_, Bw19_⟩
  · refine jg T44_ mM 245 ll4 [] (fun tT kK => ?_) ?_
    · refine XS.icmpYes X44_.here hx rfl (pc0 := 155) (pc' := 245) rfl (hC e31_150.2.2.2) rfl (flt (hc155_45_ : ¬ ((((0 : Int32) - (0 : Int32)) + (1 : Int32)) < (pb / (2 : Int32))))).2.1 (by decide) (by decide) ?_
      exact kK
    exact own_rV X44_ hx hlk hre (hC d31_245) e44_ (by decide) (by decide) ⟨rfl, N30_, K19_, Bw19_⟩
theorem e10_0 : jD29 0 (.iload_n 1, 1) ∧ jD29 1 (.ifCond .ge 7, 3) ∧ jD29 4 (.aconst_null, 1) ∧ jD29 5 (.goto 9, 3) := by decide +kernel
theorem e10_14 : jD29 14 (.astore 6, 2) ∧ jD29 16 (.aload 6, 2) ∧ jD29 18 (.ifnull 25, 3) ∧ jD29 43 (.aload 6, 2) := by decide +kernel
theorem e10_45 : jD29 45 (.ifnull 8, 3) ∧ jD29 53 (.new 35, 3) ∧ jD29 56 (.dup, 1) ∧ jD29 57 (.invokespecial 152, 3) := by decide +kernel
theorem e10_60 : jD29 60 (.astore 6, 2) ∧ jD29 62 (.aload_n 0, 1) ∧ jD29 63 (.iload_n 1, 1) ∧ jD29 64 (.iconst 1, 1) := by decide +kernel
theorem e10_65 : jD29 65 (.iadd, 1) ∧ jD29 66 (.iload_n 1, 1) ∧ jD29 67 (.iconst 1, 1) ∧ jD29 68 (.iadd, 1) := by decide +kernel
theorem e10_69 : jD29 69 (.iconst 1, 1) ∧ jD29 70 (.anewarray 35, 3) ∧ jD29 73 (.dup, 1) ∧ jD29 74 (.iconst 0, 1) := by decide +kernel
theorem e10_75 : jD29 75 (.aload 6, 2) ∧ jD29 77 (.aastore, 1) ∧ jD29 78 (.iconst 1, 1) ∧ jD29 79 (.invokevirtual 47, 3) := by decide +kernel
theorem e10_82 : jD29 82 (.aload 6, 2) ∧ jD29 84 (.getfield 46, 3) ∧ jD29 87 (.lstore 7, 2) ∧ jD29 89 (.aload 6, 2) := by decide +kernel
theorem e10_91 : jD29 91 (.lload_n 2, 1) ∧ jD29 92 (.lload 4, 2) ∧ jD29 94 (.invokevirtual 153, 3) ∧ jD29 97 (.aload_n 0, 1) := by decide +kernel
theorem e10_98 : jD29 98 (.dup, 1) ∧ jD29 99 (.getfield 23, 3) ∧ jD29 102 (.aload 6, 2) ∧ jD29 104 (.getfield 46, 3) := by decide +kernel
theorem e10_107 : jD29 107 (.lload 7, 2) ∧ jD29 109 (.lsub, 1) ∧ jD29 110 (.ladd, 1) ∧ jD29 111 (.putfield 23, 3) := by decide +kernel
theorem d10_114 : jD29 114 (.return_, 1) := by decide +kernel
theorem own_ef_rm_ata (mM : MethodId) (x0 : Addr) (x1 : Int32) (x2 : Int64) (x3 : Int64) : entryFrame mM #[(.ref x0), (.int x1), (.long x2), (.long x3)] 9 = mkF mM 0 #[.val (.ref x0), .val (.int x1), .val (.long x2), .second, .val (.long x3), .second, .unset, .unset, .unset] [] := by first | (simp [entryFrame, mkF, argsToLocals, Value.category]; done) | rfl
def Q_rm_ata (Z : State) (st : Addr) (np : Addr) (nb : Addr) (kp : ClassId) (pb : Int32) (f : Int64) (t : Int64) (h0 : Heap) (n0 : Nat) (vV : Option Value) (hH : Heap) (lA : List Loc) : Prop := ∃ pg : Addr, ∃ pa : Addr, ∃ kq : ClassId, vV = none ∧ Fr n0 lA ∧ (Keep h0 hH [st]) ∧ (h0.size ≤ pg) ∧ (h0.size ≤ pa) ∧ (Ovr Z kq "com/example/portion/portion/server/OffsetSet$Page") ∧ (np ≠ pa) ∧ (own_bO Z hH st ((0 : Int64) + ((t - f) - (0 : Int64))) (.ref pa) (1 : Int32) pb) ∧ (own_bP Z hH pg (t - f) f t (.ref nb) (0 : Int32) (0 : Int32) (-1 : Int32) (0 : Int64) (0 : Int64) (0 : Int64)) ∧ (Arv Z hH pa kq (.object "com/example/portion/portion/server/OffsetSet$Page") (2 : Int32) [(.ref pg), .null] .null)
theorem rm_ata (lL : Launch) (Z : State) (a0 : Array Value) (hw : own_H a0 Z) (ws : List Jvm.Cond) (st : Addr) (np : Addr) (nb : Addr) (kp : ClassId) (pb : Int32) (f : Int64) (t : Int64) (h0 : Heap) (n0 : Nat) (Z0 : n0 ≤ h0.size) (F0 : own_bO Z h0 st (0 : Int64) (.ref np) (0 : Int32) pb) (Zb : Sta Z Z.heap "com/example/portion/portion/server/OffsetSet" "NO_BYTES" "[B" (.ref nb)) (O0 : Old Z n0 h0) (Vn : Arv Z h0 np kp (.object "com/example/portion/portion/server/OffsetSet$Page") (0 : Int32) [] .null) (g_st : n0 ≤ st) :
    own_Met lL jy29 (Jvm.Cond.code jy29 prog_38_method_20_code 9 none :: ws) jr25 #[(.ref st), (.int (-1)), (.long f), (.long t)] Z h0 (Q_rm_ata Z st np nb kp pb f t h0 n0) := by
  refine own_begin (plainFor_of_name own_pn_com_example_portion_portion_server_OffsetSet) (fun mM => own_ef_rm_ata mM st (-1 : Int32) f t) fun pP eE sS mM below meth cC s₁ hx hby hml hZ hown hnm hre hlk X0 e0 => ?_
  have hC := @Jvm.hb _ _ hby
  have N0 := Fr.nil n0
  have K0 := Keep.refl h0 [st]
  let ll1 : Array Slot := #[vR st, vI (-1), vJ f, vS, vJ t, vS, vN, vU, vU]
  refine jg s₁ mM 53 ll1 [] (fun tT kK => ?_) ?_
  · refine XS.iloadN X0.here hx rfl (hC e10_0.1) rfl ?_
    refine XS.ifNo X0.here hx rfl (hC e10_0.2.1) rfl ((if0 _ _).trans (tlt ((by decide) : (-1 : Int32) < (0 : Int32))).2.1) ?_
    refine XS.aconstNull X0.here hx rfl (hC e10_0.2.2.1) ?_
    refine XS.goto X0.here hx rfl (pc0 := 5) (pc' := 14) rfl (hC e10_0.2.2.2) (by decide) (by decide) ?_
    refine XS.astore X0.here hx rfl (hC e10_14.1) rfl rfl (l' := ll1) rfl ?_
    refine XS.aload X0.here hx rfl (hC e10_14.2.1) rfl rfl ?_
    refine XS.ifnullYes X0.here hx rfl (pc0 := 18) (pc' := 43) rfl (hC e10_14.2.2.1) rfl (by decide) (by decide) ?_
    refine XS.aload X0.here hx rfl (hC e10_14.2.2.2) rfl rfl ?_
    refine XS.ifnullYes X0.here hx rfl (pc0 := 45) (pc' := 53) rfl (hC e10_45.1) rfl (by decide) (by decide) ?_
    exact kK
  obtain ⟨T1_, h1_, X1_, e1_, E1_, A1_, D1_, -, st1_⟩ := newO X0 hx hZ hown (jk hw 54 rfl) (jk hw 55 rfl) (jk hw 56 rfl) e0 (g := (mkF mM 53 ll1 [])) rfl (hC e10_45.2.1) (by decide) (by decide)
  obtain ⟨b1_, g1_⟩ : ∃ z, z = h0.size := ⟨_, rfl⟩
  rw [← g1_] at A1_ D1_ st1_
  have sz_b1_ : h0.size ≤ b1_ := Nat.le_trans K0.1 (Nat.le_of_eq g1_.symm)
  have ge_b1_ : n0 ≤ b1_ := Nat.le_trans Z0 sz_b1_
  have ne2_ : st ≠ b1_ := Nat.ne_of_lt (Nat.lt_of_lt_of_le F0.lt (Nat.le_of_eq g1_.symm))
  have ne3_ : np ≠ b1_ := Nat.ne_of_lt (Nat.lt_of_lt_of_le Vn.lt (Nat.le_of_eq g1_.symm))
  have fc4_ := F0.ext E1_
  have fc5_ := O0.ext E1_
  have fc6_ := Vn.ext E1_
  have K1_ := K0.ext E1_
  have Bn1_ : own_bP Z h1_ b1_ (0 : Int64) (0 : Int64) (0 : Int64) .null (0 : Int32) (0 : Int32) (0 : Int32) (0 : Int64) (0 : Int64) (0 : Int64) := ⟨A1_, D1_ (Or.inl (jk hw 78 rfl)) (ty := .long) (by decide), D1_ (Or.inl (jk hw 93 rfl)) (ty := .long) (by decide), D1_ (Or.inl (jk hw 90 rfl)) (ty := .long) (by decide), D1_ (Or.inl (jk hw 64 rfl)) (ty := (.array .byte)) (by decide), D1_ (Or.inl (jk hw 130 rfl)) (ty := .int) (by decide), D1_ (Or.inl (jk hw 139 rfl)) (ty := .int) (by decide), D1_ (Or.inl (jk hw 66 rfl)) (ty := .int) (by decide), D1_ (Or.inl (jk hw 172 rfl)) (ty := .long) (by decide), D1_ (Or.inl (jk hw 174 rfl)) (ty := .long) (by decide), D1_ (Or.inl (jk hw 176 rfl)) (ty := .long) (by decide)⟩
  refine own_fin st1_ ?_
  refine jg T1_ mM 57 ll1 [(.ref b1_), (.ref b1_)] (fun tT kK => ?_) ?_
  · refine XS.dup X1_.here hx rfl (hC e10_45.2.2.1) rfl rfl ?_
    exact kK
  obtain ⟨_, _, ⟨T7_, L7_, k7_, n7_⟩, -, X7_, ⟨Lc7_, hQ7_, l7_, y7_, z7_⟩, st7_⟩ := own_specialRef X1_ hx hZ (y := jy9) rfl hown (jk hw 57 rfl) (jk hw 58 rfl) (jm hZ hw 59 rfl) (by decide) (backOf (W := 1) (rm_pg lL Z a0 hw [] b1_ nb h1_ n0 (Nat.le_trans Z0 K1_.1) Bn1_ Zb fc5_ ge_b1_) hZ (jk hw 59 rfl) (jk hw 56 rfl) (by decide) (by decide)) (g := (mkF mM 57 ll1 [(.ref b1_), (.ref b1_)])) rfl (by rw [hml]; rfl) (Steps.refl _) (a := b1_) (argsL := []) (rest := [(.ref b1_)]) (lenOf own_pd5 rfl) rfl (by show 2 * 0 + _ ≤ _; exact Nat.le_of_eq rfl) (hC e10_45.2.2.2) (fun _ _ => ⟨rfl, e1_, (by decide : 1 + 0 ≤ _), (by decide : 10 + 0 ≤ _)⟩)
  dsimp only [Pt.U, Pt.locs, Pt.cells, Pt.slots] at X7_ l7_ y7_ z7_ st7_ hQ7_
  subst l7_ y7_ z7_
  obtain ⟨rfl, N7_q, p7__0, p7__1⟩ := hQ7_
  have N7_ := Fr.app N0 N7_q
  have fc8_ := fc4_.keep p7__0 (ninS ne2_ nin0)
  have fc10_ := fc6_.keep p7__0 (ninS ne3_ nin0)
  have K7_ := K1_.trans p7__0 (allS (Or.inr sz_b1_) all0)
  refine own_fin (fun tT kK => st7_.trans kK) ?_
  let ll2 : Array Slot := #[vR st, vI (-1), vJ f, vS, vJ t, vS, vR b1_, vU, vU]
  refine jg T7_ mM 70 ll2 [(.int 1), (.int 0), (.int 0), (.ref st)] (fun tT kK => ?_) ?_
  · refine XS.astore X7_.here hx rfl (hC e10_60.1) rfl rfl (l' := ll2) rfl ?_
    refine XS.aloadN X7_.here hx rfl (hC e10_60.2.1) rfl rfl ?_
    refine XS.iloadN X7_.here hx rfl (hC e10_60.2.2.1) rfl ?_
    refine XS.iconst X7_.here hx rfl (hC e10_60.2.2.2) ?_
    refine XS.iadd X7_.here hx rfl (hC e10_65.1) rfl ?_
    refine XS.iloadN X7_.here hx rfl (hC e10_65.2.1) rfl ?_
    refine XS.iconst X7_.here hx rfl (hC e10_65.2.2.1) ?_
    refine XS.iadd X7_.here hx rfl (hC e10_65.2.2.2) rfl ?_
    refine XS.iconst X7_.here hx rfl (hC e10_69.1) ?_
    exact kK
  obtain ⟨T11_, h11_, k11_, X11_, e11_, E11_, A11_, O11_, st11_⟩ := newR X7_ hx hZ hown (jk hw 54 rfl) (jk hw 67 rfl) rfl (g := (mkF mM 70 ll2 [(.int 1), (.int 0), (.int 0), (.ref st)])) rfl (hC e10_69.2.1) rfl (by decide) (cap := 1) (by decide) (by decide) (by decide) (by decide)
  obtain ⟨b11_, g11_⟩ : ∃ z, z = T7_.heap.size := ⟨_, rfl⟩
  rw [← g11_] at A11_ st11_
  have sz_b11_ : h0.size ≤ b11_ := Nat.le_trans K7_.1 (Nat.le_of_eq g11_.symm)
  have ge_b11_ : n0 ≤ b11_ := Nat.le_trans Z0 sz_b11_
  have ne12_ : st ≠ b11_ := Nat.ne_of_lt (Nat.lt_of_lt_of_le fc8_.lt (Nat.le_of_eq g11_.symm))
  have ne13_ : np ≠ b11_ := Nat.ne_of_lt (Nat.lt_of_lt_of_le fc10_.lt (Nat.le_of_eq g11_.symm))
  have ne14_ : b1_ ≠ b11_ := Nat.ne_of_lt (Nat.lt_of_lt_of_le p7__1.lt (Nat.le_of_eq g11_.symm))
  have fc15_ := fc8_.ext E11_
  have fc17_ := fc10_.ext E11_
  have fc18_ := p7__1.ext E11_
  have K11_ := K7_.ext E11_
  have V11_ : Arv Z h11_ b11_ k11_ (.object "com/example/portion/portion/server/OffsetSet$Page") (1 : Int32) [.null] .null := (Arv.new A11_ (by decide)).pad (pad_rep [] .null 1)
  refine own_fin st11_ ?_
  refine jg T11_ mM 77 ll2 [(.ref b1_), (.int 0), (.ref b11_), (.ref b11_), (.int 0), (.int 0), (.ref st)] (fun tT kK => ?_) ?_
  · refine XS.dup X11_.here hx rfl (hC e10_69.2.2.1) rfl rfl ?_
    refine XS.iconst X11_.here hx rfl (hC e10_69.2.2.2) ?_
    refine XS.aload X11_.here hx rfl (hC e10_75.1) rfl rfl ?_
    exact kK
  obtain ⟨cl19_, Ar19_, qk19_, Sz19_, Nn19_, Hh19_, Gg19_⟩ := id V11_
  have hin20_ : ¬ ((0 : Int32) < 0 ∨ cl19_.slots.size ≤ ((0 : Int32)).toNatClampNeg) := inb_of Sz19_ ⟨by decide, by decide⟩
  obtain ⟨T20_, h20_, X20_, e20_, W20_, st20_⟩ := stR X11_ hx hZ e11_ Ar19_ (j := (0 : Int32)) hin20_ rfl (Sto.ofV Ar19_ qk19_ O11_ (Ins.self fc18_.E)) (g := (mkF mM 77 ll2 [(.ref b1_), (.int 0), (.ref b11_), (.ref b11_), (.int 0), (.int 0), (.ref st)])) rfl rfl (hC e10_75.2.1)
  have V20_ : Arv Z h20_ b11_ k11_ (.object "com/example/portion/portion/server/OffsetSet$Page") (1 : Int32) [(.ref b1_)] .null := Arv.set Ar19_ qk19_ Sz19_ Nn19_ Hh19_ Gg19_ rfl W20_ 0 rfl (Nat.le_of_ble_eq_true rfl)
  have fc21_ := fc15_.other W20_ ne12_
  have fc23_ := fc17_.other W20_ ne13_
  have fc24_ := fc18_.other W20_ ne14_
  have K20_ := K11_.wr W20_ (Or.inr sz_b11_)
  have N20_ := Fr.snoc X20_ N7_ ge_b11_
  refine own_fin st20_ ?_
  refine jg T20_ mM 79 ll2 [(.int 1), (.ref b11_), (.int 0), (.int 0), (.ref st)] (fun tT kK => ?_) ?_
  · refine XS.iconst X20_.here hx rfl (hC e10_75.2.2.1) ?_
    exact kK
  refine jw X20_ hx hZ (y := jy10) hown (jk hw 69 rfl) (jk hw 70 rfl) (own_selP (y := jy10) hZ (jk hw 2 rfl) (jk hw 71 rfl) (jk hw 70 rfl) (by decide)) (jk hw 71 rfl) (jk hw 72 rfl) (jk hw 3 rfl) (rm_rpa lL Z a0 hw [] st b11_ b1_ np kp k11_ (0 : Int64) pb h20_ n0 (Nat.le_trans Z0 K20_.1) fc21_ fc23_ V20_ fc24_.E g_st (Ne.symm ne13_)) fc21_.E e20_ own_pd9 [(.int 0), (.int 0), (.ref b11_), (.int 1)] [] (hC e10_75.2.2.2) rfl rfl (by rw [hml]; rfl) (by decide) 0 (Nat.le_of_eq rfl) (by decide) (by decide) (by decide : 2 + 1 ≤ _) (by decide : 11 + 2 ≤ _) fun vv25_ T25_ L25_ X25_ hQ25_ => ?_
  obtain ⟨pa_25_, kq_25_, rfl, N25_q, p25__0, p25__1, p25__2, p25__3, p25__4⟩ := hQ25_
  have N25_ := Fr.app N20_ N25_q
  have sz_pa_25_ : h0.size ≤ pa_25_ := Nat.le_trans K20_.1 p25__1
  have ne26_ : st ≠ pa_25_ := Nat.ne_of_lt (Nat.lt_of_lt_of_le fc21_.lt p25__1)
  have ne27_ : np ≠ pa_25_ := Nat.ne_of_lt (Nat.lt_of_lt_of_le fc23_.lt p25__1)
  have ne28_ : b1_ ≠ pa_25_ := Nat.ne_of_lt (Nat.lt_of_lt_of_le fc24_.lt p25__1)
  have fc33_ := fc24_.keep p25__0 (ninS (Ne.symm ne2_) nin0)
  have K25_ := K20_.trans p25__0 (allS (Or.inl (List.mem_of_getElem? (i := 0) rfl)) all0)
  refine jg T25_ mM 84 ll2 [(.ref b1_)] (fun tT kK => ?_) ?_
  · refine XS.aload X25_.here hx rfl (hC e10_82.1) rfl rfl ?_
    exact kK
  obtain ⟨T35_, X35_, e35_, st35_⟩ := own_getRef X25_ hx hZ hown (jk hw 77 rfl) Via.refl rfl fc33_.g0 (g := (mkF mM 84 ll2 [(.ref b1_)])) rfl rfl (hC e10_82.2.1)
  refine own_fin st35_ ?_
  let ll3 : Array Slot := #[vR st, vI (-1), vJ f, vS, vJ t, vS, vR b1_, vJ 0, vS]
  refine jg T35_ mM 94 ll3 [(.long t), (.long f), (.ref b1_)] (fun tT kK => ?_) ?_
  · refine XS.lstore X35_.here hx rfl (hC e10_82.2.2.1) rfl (l' := ll3) rfl ?_
    refine XS.aload X35_.here hx rfl (hC e10_82.2.2.2) rfl rfl ?_
    refine XS.lloadN X35_.here hx rfl (hC e10_91.1) rfl ?_
    refine XS.lload X35_.here hx rfl (hC e10_91.2.1) rfl ?_
    exact kK
  refine jv X35_ hx hZ (y := jy16) hown (jk hw 79 rfl) (jk hw 80 rfl) (jk hw 82 rfl) (jk hw 81 rfl) (jk hw 83 rfl) (jk hw 56 rfl) (rm_ex0 lL Z a0 hw [] b1_ nb (0 : Int64) (0 : Int64) (0 : Int64) (0 : Int64) (0 : Int64) f t T25_.heap n0 (Nat.le_trans Z0 K25_.1) fc33_ ge_b1_) fc33_.E e35_ own_pd6 [(.long f), (.long t)] [] (hC e10_91.2.2.1) rfl rfl (by rw [hml]; rfl) (by decide) 0 (Nat.le_of_eq rfl) (by decide) (by decide) (by decide : 3 + 0 ≤ _) (by decide : 13 + 0 ≤ _) fun vv36_ T36_ L36_ X36_ hQ36_ => ?_
  obtain ⟨rfl, N36_q, p36__0, p36__1⟩ := hQ36_
  have N36_ := Fr.app N25_ N36_q
  have fc40_ := p25__3.keep p36__0 (ninS ne2_ nin0)
  have fc41_ := p25__4.keep p36__0 (ninS (Ne.symm ne28_) nin0)
  have K36_ := K25_.trans p36__0 (allS (Or.inr sz_b1_) all0)
  refine jg T36_ mM 99 ll3 [(.ref st), (.ref st)] (fun tT kK => ?_) ?_
  · refine XS.aloadN X36_.here hx rfl (hC e10_91.2.2.2) rfl rfl ?_
    refine XS.dup X36_.here hx rfl (hC e10_98.1) rfl rfl ?_
    exact kK
  refine jf X36_ hx hZ hown (jk hw 21 rfl) rfl fc40_.g0 (hC e10_98.2.1) fun T42_ X42_ e42_ => ?_
  refine jg T42_ mM 104 ll3 [(.ref b1_), (.long 0), (.ref st)] (fun tT kK => ?_) ?_
  · refine XS.aload X42_.here hx rfl (hC e10_98.2.2.1) rfl rfl ?_
    exact kK
  obtain ⟨T43_, X43_, e43_, st43_⟩ := own_getRef X42_ hx hZ hown (jk hw 77 rfl) Via.refl e42_ p36__1.g0 (g := (mkF mM 104 ll3 [(.ref b1_), (.long 0), (.ref st)])) rfl rfl (hC e10_98.2.2.2)
  refine own_fin st43_ ?_
  refine jg T43_ mM 111 ll3 [(.long ((0 : Int64) + ((t - f) - (0 : Int64)))), (.ref st)] (fun tT kK => ?_) ?_
  · refine XS.lload X43_.here hx rfl (hC e10_107.1) rfl ?_
    refine XS.lsub X43_.here hx rfl (hC e10_107.2.1) rfl ?_
    refine XS.ladd X43_.here hx rfl (hC e10_107.2.2.1) rfl ?_
    exact kK
  refine jq X43_ hx hZ hown (jk hw 21 rfl) e43_ fc40_.g0 fc40_.E (jk hw 22 rfl) (jk hw 2 rfl) (ty := .long) (by decide) rfl rfl (hC e10_107.2.2.2) K36_ N36_ (Or.inl (List.mem_of_getElem? (i := 0) rfl)) g_st fun T44_ h44_ X44_ e44_ W44_ Fw44_ K44_ N44_ => ?_
  have fc48_ := fc41_.other W44_ (Ne.symm ne26_)
  have fc49_ := p36__1.other W44_ (Ne.symm ne2_)
  have Bw44_ := fc40_.s0 hw W44_
  exact own_rV X44_ hx hlk hre (hC d10_114) e44_ (by decide) (by decide) ⟨b1_, pa_25_, kq_25_, rfl, N44_, K44_, sz_b1_, sz_pa_25_, p25__2, ne27_, Bw44_, fc49_, fc48_⟩
theorem e9_0 : jD30 0 (.aload_n 0, 1) ∧ jD30 1 (.aload_n 0, 1) ∧ jD30 2 (.getfield 109, 3) ∧ jD30 5 (.iconst 1, 1) := by decide +kernel
theorem e9_6 : jD30 6 (.isub, 1) ∧ jD30 7 (.lload_n 1, 1) ∧ jD30 8 (.lload_n 3, 1) ∧ jD30 9 (.invokevirtual 78, 3) := by decide +kernel
theorem own_pd13 : parseMethodDescriptor "(IJJ)V" = some ⟨[.int, .long, .long], none⟩ := by decide +kernel
theorem d9_12 : jD30 12 (.return_, 1) := by decide +kernel
theorem own_ef_rm_app (mM : MethodId) (x0 : Addr) (x1 : Int64) (x2 : Int64) : entryFrame mM #[(.ref x0), (.long x1), (.long x2)] 5 = mkF mM 0 #[.val (.ref x0), .val (.long x1), .second, .val (.long x2), .second] [] := by first | (simp [entryFrame, mkF, argsToLocals, Value.category]; done) | rfl
def Q_rm_app (Z : State) (st : Addr) (np : Addr) (nb : Addr) (kp : ClassId) (pb : Int32) (f : Int64) (t : Int64) (h0 : Heap) (n0 : Nat) (vV : Option Value) (hH : Heap) (lA : List Loc) : Prop := ∃ pg : Addr, ∃ pa : Addr, ∃ kq : ClassId, vV = none ∧ Fr n0 lA ∧ (Keep h0 hH [st]) ∧ (h0.size ≤ pg) ∧ (h0.size ≤ pa) ∧ (Ovr Z kq "com/example/portion/portion/server/OffsetSet$Page") ∧ (np ≠ pa) ∧ (own_bO Z hH st ((0 : Int64) + ((t - f) - (0 : Int64))) (.ref pa) (1 : Int32) pb) ∧ (own_bP Z hH pg (t - f) f t (.ref nb) (0 : Int32) (0 : Int32) (-1 : Int32) (0 : Int64) (0 : Int64) (0 : Int64)) ∧ (Arv Z hH pa kq (.object "com/example/portion/portion/server/OffsetSet$Page") (2 : Int32) [(.ref pg), .null] .null)
theorem rm_app (lL : Launch) (Z : State) (a0 : Array Value) (hw : own_H a0 Z) (ws : List Jvm.Cond) (st : Addr) (np : Addr) (nb : Addr) (kp : ClassId) (pb : Int32) (f : Int64) (t : Int64) (h0 : Heap) (n0 : Nat) (Z0 : n0 ≤ h0.size) (F0 : own_bO Z h0 st (0 : Int64) (.ref np) (0 : Int32) pb) (Zb : Sta Z Z.heap "com/example/portion/portion/server/OffsetSet" "NO_BYTES" "[B" (.ref nb)) (O0 : Old Z n0 h0) (Vn : Arv Z h0 np kp (.object "com/example/portion/portion/server/OffsetSet$Page") (0 : Int32) [] .null) (g_st : n0 ≤ st) :
    own_Met lL jy30 (Jvm.Cond.code jy30 prog_38_method_19_code 5 none :: ws) jr26 #[(.ref st), (.long f), (.long t)] Z h0 (Q_rm_app Z st np nb kp pb f t h0 n0) := by
  refine own_begin (plainFor_of_name own_pn_com_example_portion_portion_server_OffsetSet) (fun mM => own_ef_rm_app mM st f t) fun pP eE sS mM below meth cC s₁ hx hby hml hZ hown hnm hre hlk X0 e0 => ?_
  have hC := @Jvm.hb _ _ hby
  have N0 := Fr.nil n0
  have K0 := Keep.refl h0 [st]
  let ll1 : Array Slot := #[vR st, vJ f, vS, vJ t, vS]
  refine jg s₁ mM 2 ll1 [(.ref st), (.ref st)] (fun tT kK => ?_) ?_
  · refine XS.aloadN X0.here hx rfl (hC e9_0.1) rfl rfl ?_
    refine XS.aloadN X0.here hx rfl (hC e9_0.2.1) rfl rfl ?_
    exact kK
  refine jf X0 hx hZ hown (jk hw 40 rfl) e0 F0.g2 (hC e9_0.2.2.1) fun T1_ X1_ e1_ => ?_
  refine jg T1_ mM 9 ll1 [(.long t), (.long f), (.int (-1)), (.ref st)] (fun tT kK => ?_) ?_
  · refine XS.iconst X1_.here hx rfl (hC e9_0.2.2.2) ?_
    refine XS.isub X1_.here hx rfl (hC e9_6.1) rfl ?_
    refine XS.lloadN X1_.here hx rfl (hC e9_6.2.1) rfl ?_
    refine XS.lloadN X1_.here hx rfl (hC e9_6.2.2.1) rfl ?_
    exact kK
  refine jw X1_ hx hZ (y := jy29) hown (jk hw 50 rfl) (jk hw 51 rfl) (own_selP (y := jy29) hZ (jk hw 2 rfl) (jk hw 52 rfl) (jk hw 51 rfl) (by decide)) (jk hw 52 rfl) (jk hw 53 rfl) (jk hw 3 rfl) (rm_ata lL Z a0 hw [] st np nb kp pb f t h0 n0 (Nat.le_trans Z0 K0.1) F0 Zb O0 Vn g_st) F0.E e1_ own_pd13 [(.int (-1)), (.long f), (.long t)] [] (hC e9_6.2.2.2) rfl rfl (by rw [hml]; rfl) (by decide) 0 (Nat.le_of_eq rfl) (by decide) (by decide) (by decide : 0 + 3 ≤ _) (by decide : 0 + 13 ≤ _) fun vv2_ T2_ L2_ X2_ hQ2_ => ?_
  obtain ⟨pg_2_, pa_2_, kq_2_, rfl, N2_q, p2__0, p2__1, p2__2, p2__3, p2__4, p2__5, p2__6, p2__7⟩ := hQ2_
  have N2_ := Fr.app N0 N2_q
  have sz_pg_2_ : h0.size ≤ pg_2_ := Nat.le_trans K0.1 p2__1
  have sz_pa_2_ : h0.size ≤ pa_2_ := Nat.le_trans K0.1 p2__2
  have K2_ := K0.trans p2__0 (allS (Or.inl (List.mem_of_getElem? (i := 0) rfl)) all0)
  exact own_rV X2_ hx hlk hre (hC d9_12) rfl (by decide) (by decide) ⟨pg_2_, pa_2_, kq_2_, rfl, N2_, K2_, sz_pg_2_, sz_pa_2_, p2__3, p2__4, p2__5, p2__6, p2__7⟩
theorem e5_0 : jD31 0 (.lload_n 1, 1) ∧ jD31 1 (.lload_n 3, 1) ∧ jD31 2 (.invokestatic 63, 3) ∧ jD31 5 (.iconst 0, 1) := by decide +kernel
theorem e5_6 : jD31 6 (.aload_n 0, 1) ∧ jD31 7 (.lload_n 1, 1) ∧ jD31 8 (.invokevirtual 51, 3) := by decide +kernel
theorem own_pd14 : parseMethodDescriptor "(J)I" = some ⟨[.long], some .int⟩ := by decide +kernel
theorem e5_11 : jD31 11 (.invokestatic 66, 3) ∧ jD31 14 (.istore 5, 2) ∧ jD31 16 (.iconst 0, 1) ∧ jD31 17 (.aload_n 0, 1) := by decide +kernel
theorem e5_18 : jD31 18 (.lload_n 3, 1) ∧ jD31 19 (.invokevirtual 51, 3) ∧ jD31 22 (.invokestatic 66, 3) ∧ jD31 25 (.istore 6, 2) := by decide +kernel
theorem e5_27 : jD31 27 (.aload_n 0, 1) ∧ jD31 28 (.getfield 23, 3) ∧ jD31 31 (.lconst 0, 1) ∧ jD31 32 (.lcmp, 1) := by decide +kernel
theorem e5_33 : jD31 33 (.ifCond .ne 12, 3) ∧ jD31 36 (.aload_n 0, 1) ∧ jD31 37 (.lload_n 1, 1) ∧ jD31 38 (.lload_n 3, 1) := by decide +kernel
theorem e5_39 : jD31 39 (.invokevirtual 72, 3) ∧ jD31 42 (.goto 81, 3) ∧ jD31 123 (.return_, 1) := by decide +kernel
theorem own_ef_rm_ar0 (mM : MethodId) (x0 : Addr) (x1 : Int64) (x2 : Int64) : entryFrame mM #[(.ref x0), (.long x1), (.long x2)] 8 = mkF mM 0 #[.val (.ref x0), .val (.long x1), .second, .val (.long x2), .second, .unset, .unset, .unset] [] := by first | (simp [entryFrame, mkF, argsToLocals, Value.category]; done) | rfl
def Q_rm_ar0 (Z : State) (st : Addr) (np : Addr) (nb : Addr) (kp : ClassId) (pb : Int32) (f : Int64) (t : Int64) (h0 : Heap) (n0 : Nat) (vV : Option Value) (hH : Heap) (lA : List Loc) : Prop := ∃ pg : Addr, ∃ pa : Addr, ∃ kq : ClassId, vV = none ∧ Fr n0 lA ∧ (Keep h0 hH [st]) ∧ (h0.size ≤ pg) ∧ (h0.size ≤ pa) ∧ (Ovr Z kq "com/example/portion/portion/server/OffsetSet$Page") ∧ (np ≠ pa) ∧ (own_bO Z hH st ((0 : Int64) + ((t - f) - (0 : Int64))) (.ref pa) (1 : Int32) pb) ∧ (own_bP Z hH pg (t - f) f t (.ref nb) (0 : Int32) (0 : Int32) (-1 : Int32) (0 : Int64) (0 : Int64) (0 : Int64)) ∧ (Arv Z hH pa kq (.object "com/example/portion/portion/server/OffsetSet$Page") (2 : Int32) [(.ref pg), .null] .null)
theorem rm_ar0 (lL : Launch) (Z : State) (a0 : Array Value) (hw : own_H a0 Z) (ws : List Jvm.Cond) (st : Addr) (np : Addr) (nb : Addr) (kp : ClassId) (pb : Int32) (f : Int64) (t : Int64) (h0 : Heap) (n0 : Nat) (Z0 : n0 ≤ h0.size) (F0 : own_bO Z h0 st (0 : Int64) (.ref np) (0 : Int32) pb) (Zb : Sta Z Z.heap "com/example/portion/portion/server/OffsetSet" "NO_BYTES" "[B" (.ref nb)) (O0 : Old Z n0 h0) (Vn : Arv Z h0 np kp (.object "com/example/portion/portion/server/OffsetSet$Page") (0 : Int32) [] .null) (g_st : n0 ≤ st) (c1 : 0 ≤ f.toInt) (c2 : f.toInt < t.toInt) :
    own_Met lL jy31 (Jvm.Cond.code jy31 prog_38_method_9_code 8 none :: ws) jr27 #[(.ref st), (.long f), (.long t)] Z h0 (Q_rm_ar0 Z st np nb kp pb f t h0 n0) := by
  refine own_begin (plainFor_of_name own_pn_com_example_portion_portion_server_OffsetSet) (fun mM => own_ef_rm_ar0 mM st f t) fun pP eE sS mM below meth cC s₁ hx hby hml hZ hown hnm hre hlk X0 e0 => ?_
  have hC := @Jvm.hb _ _ hby
  have N0 := Fr.nil n0
  have K0 := Keep.refl h0 [st]
  let ll1 : Array Slot := #[vR st, vJ f, vS, vJ t, vS, vU, vU, vU]
  refine jg s₁ mM 2 ll1 [(.long t), (.long f)] (fun tT kK => ?_) ?_
  · refine XS.lloadN X0.here hx rfl (hC e5_0.1) rfl ?_
    refine XS.lloadN X0.here hx rfl (hC e5_0.2.1) rfl ?_
    exact kK
  refine jc X0 hx hZ (y := jy0) hown (jk hw 33 rfl) (jk hw 34 rfl) (jk hw 3 rfl) (jk hw 35 rfl) (rm_req lL Z a0 hw [] f t h0 n0 (Nat.le_trans Z0 K0.1) (by omega) (by omega)) e0 own_pd6 [(.long f), (.long t)] [] (hC e5_0.2.2.1) rfl rfl (by rw [hml]; rfl) (by decide) 0 (Nat.le_of_eq rfl) (by decide) (by decide) (by decide : 0 + 0 ≤ _) (by decide : 0 + 0 ≤ _) fun vv1_ T1_ L1_ X1_ hQ1_ => ?_
  obtain ⟨rfl, N1_q, p1__0⟩ := hQ1_
  have N1_ := Fr.app N0 N1_q
  refine jg T1_ mM 8 ll1 [(.long f), (.ref st), (.int 0)] (fun tT kK => ?_) ?_
  · refine XS.iconst X1_.here hx rfl (hC e5_0.2.2.2) ?_
    refine XS.aloadN X1_.here hx rfl (hC e5_6.1) rfl rfl ?_
    refine XS.lloadN X1_.here hx rfl (hC e5_6.2.1) rfl ?_
    exact kK
  refine jw X1_ hx hZ (y := jy4) hown (jk hw 36 rfl) (jk hw 37 rfl) (own_selP (y := jy4) hZ (jk hw 2 rfl) (jk hw 38 rfl) (jk hw 37 rfl) (by decide)) (jk hw 38 rfl) (jk hw 39 rfl) (jk hw 3 rfl) (rm_pa0 lL Z a0 hw [] st f h0 n0 (Nat.le_trans Z0 K0.1) F0.g2) F0.E p1__0 own_pd14 [(.long f)] [(.int 0)] (hC e5_6.2.2) rfl rfl (by rw [hml]; rfl) (by decide) 1 (Nat.le_of_eq rfl) (by decide) (by decide) (by decide : 0 + 0 ≤ _) (by decide : 0 + 0 ≤ _) fun vv2_ T2_ L2_ X2_ hQ2_ => ?_
  obtain ⟨rfl, N2_q, p2__0⟩ := hQ2_
  have N2_ := Fr.app N1_ N2_q
  refine jc X2_ hx hZ (y := jy1) hown (jk hw 42 rfl) (jk hw 43 rfl) (jk hw 44 rfl) (jk hw 45 rfl) (rm_mxa lL Z a0 hw []  h0 n0 (Nat.le_trans Z0 K0.1) ) p2__0 own_pd1 [(.int 0), (.int (-1))] [] (hC e5_11.1) rfl rfl (by rw [hml]; rfl) (by decide) 0 (Nat.le_of_eq rfl) (by decide) (by decide) (by decide : 0 + 0 ≤ _) (by decide : 0 + 0 ≤ _) fun vv3_ T3_ L3_ X3_ hQ3_ => ?_
  obtain ⟨rfl, N3_q, p3__0⟩ := hQ3_
  have N3_ := Fr.app N2_ N3_q
  let ll2 : Array Slot := #[vR st, vJ f, vS, vJ t, vS, vI 0, vU, vU]
  refine jg T3_ mM 19 ll2 [(.long t), (.ref st), (.int 0)] (fun tT kK => ?_) ?_
  · refine XS.istore X3_.here hx rfl (hC e5_11.2.1) rfl (l' := ll2) rfl ?_
    refine XS.iconst X3_.here hx rfl (hC e5_11.2.2.1) ?_
    refine XS.aloadN X3_.here hx rfl (hC e5_11.2.2.2) rfl rfl ?_
    refine XS.lloadN X3_.here hx rfl (hC e5_18.1) rfl ?_
    exact kK
  refine jw X3_ hx hZ (y := jy4) hown (jk hw 36 rfl) (jk hw 37 rfl) (own_selP (y := jy4) hZ (jk hw 2 rfl) (jk hw 38 rfl) (jk hw 37 rfl) (by decide)) (jk hw 38 rfl) (jk hw 39 rfl) (jk hw 3 rfl) (rm_pa0 lL Z a0 hw [] st t h0 n0 (Nat.le_trans Z0 K0.1) F0.g2) F0.E p3__0 own_pd14 [(.long t)] [(.int 0)] (hC e5_18.2.1) rfl rfl (by rw [hml]; rfl) (by decide) 1 (Nat.le_of_eq rfl) (by decide) (by decide) (by decide : 0 + 0 ≤ _) (by decide : 0 + 0 ≤ _) fun vv4_ T4_ L4_ X4_ hQ4_ => ?_
  obtain ⟨rfl, N4_q, p4__0⟩ := hQ4_
  have N4_ := Fr.app N3_ N4_q
  refine jc X4_ hx hZ (y := jy1) hown (jk hw 42 rfl) (jk hw 43 rfl) (jk hw 44 rfl) (jk hw 45 rfl) (rm_mxa lL Z a0 hw []  h0 n0 (Nat.le_trans Z0 K0.1) ) p4__0 own_pd1 [(.int 0), (.int (-1))] [] (hC e5_18.2.2.1) rfl rfl (by rw [hml]; rfl) (by decide) 0 (Nat.le_of_eq rfl) (by decide) (by decide) (by decide : 0 + 0 ≤ _) (by decide : 0 + 0 ≤ _) fun vv5_ T5_ L5_ X5_ hQ5_ => ?_
  obtain ⟨rfl, N5_q, p5__0⟩ := hQ5_
  have N5_ := Fr.app N4_ N5_q
  let ll3 : Array Slot := #[vR st, vJ f, vS, vJ t, vS, vI 0, vI 0, vU]
  refine jg T5_ mM 28 ll3 [(.ref st)] (fun tT kK => ?_) ?_
  · refine XS.istore X5_.here hx rfl (hC e5_18.2.2.2) rfl (l' := ll3) rfl ?_
    refine XS.aloadN X5_.here hx rfl (hC e5_27.1) rfl rfl ?_
    exact kK
  refine jf X5_ hx hZ hown (jk hw 21 rfl) p5__0 F0.g0 (hC e5_27.2.1) fun T6_ X6_ e6_ => ?_
  refine jg T6_ mM 39 ll3 [(.long t), (.long f), (.ref st)] (fun tT kK => ?_) ?_
  · refine XS.lconst X6_.here hx rfl (hC e5_27.2.2.1) ?_
    refine XS.lcmp X6_.here hx rfl (hC e5_27.2.2.2) rfl ?_
    refine XS.ifNo X6_.here hx rfl (hC e5_33.1) rfl ((if0 _ _).trans (teq ((lw_eq (0 : Int64) (0 : Int64)).mpr ((by decide) : (0 : Int64) = (0 : Int64)))).2) ?_
    refine XS.aloadN X6_.here hx rfl (hC e5_33.2.1) rfl rfl ?_
    refine XS.lloadN X6_.here hx rfl (hC e5_33.2.2.1) rfl ?_
    refine XS.lloadN X6_.here hx rfl (hC e5_33.2.2.2) rfl ?_
    exact kK
  refine jw X6_ hx hZ (y := jy30) hown (jk hw 46 rfl) (jk hw 47 rfl) (own_selP (y := jy30) hZ (jk hw 2 rfl) (jk hw 48 rfl) (jk hw 47 rfl) (by decide)) (jk hw 48 rfl) (jk hw 49 rfl) (jk hw 3 rfl) (rm_app lL Z a0 hw [] st np nb kp pb f t h0 n0 (Nat.le_trans Z0 K0.1) F0 Zb O0 Vn g_st) F0.E e6_ own_pd6 [(.long f), (.long t)] [] (hC e5_39.1) rfl rfl (by rw [hml]; rfl) (by decide) 0 (Nat.le_of_eq rfl) (by decide) (by decide) (by decide : 0 + 3 ≤ _) (by decide : 0 + 13 ≤ _) fun vv7_ T7_ L7_ X7_ hQ7_ => ?_
  obtain ⟨pg_7_, pa_7_, kq_7_, rfl, N7_q, p7__0, p7__1, p7__2, p7__3, p7__4, p7__5, p7__6, p7__7⟩ := hQ7_
  have N7_ := Fr.app N5_ N7_q
  have sz_pg_7_ : h0.size ≤ pg_7_ := Nat.le_trans K0.1 p7__1
  have sz_pa_7_ : h0.size ≤ pa_7_ := Nat.le_trans K0.1 p7__2
  have K7_ := K0.trans p7__0 (allS (Or.inl (List.mem_of_getElem? (i := 0) rfl)) all0)
  refine jg T7_ mM 123 ll3 [] (fun tT kK => ?_) ?_
  · refine XS.goto X7_.here hx rfl (pc0 := 42) (pc' := 123) rfl (hC e5_39.2.1) (by decide) (by decide) ?_
    exact kK
  exact own_rV X7_ hx hlk hre (hC e5_39.2.2) rfl (by decide) (by decide) ⟨pg_7_, pa_7_, kq_7_, rfl, N7_, K7_, sz_pg_7_, sz_pa_7_, p7__3, p7__4, p7__5, p7__6, p7__7⟩
theorem own_sz1 (a : Int64) : (0 : Int64) + (((a + (1 : Int64)) - a) - (0 : Int64)) = (1 : Int64) := by
  have : (a + (1 : Int64)) - a = 1 := by rw [Int64.add_comm, Int64.add_sub_cancel]
  rw [this]; rfl
theorem own_sz2 (a : Int64) : (a + (1 : Int64)) - a = (1 : Int64) := by rw [Int64.add_comm, Int64.add_sub_cancel]
theorem e4_0 : jD32 0 (.aload_n 0, 1) ∧ jD32 1 (.lload_n 1, 1) ∧ jD32 2 (.lload_n 1, 1) ∧ jD32 3 (.lconst 1, 1) := by decide +kernel
theorem e4_4 : jD32 4 (.ladd, 1) ∧ jD32 5 (.invokevirtual 59, 3) ∧ jD32 8 (.return_, 1) := by decide +kernel
theorem own_ef_rm_add0 (mM : MethodId) (x0 : Addr) (x1 : Int64) : entryFrame mM #[(.ref x0), (.long x1)] 3 = mkF mM 0 #[.val (.ref x0), .val (.long x1), .second] [] := by first | (simp [entryFrame, mkF, argsToLocals, Value.category]; done) | rfl
def Q_rm_add0 (Z : State) (st : Addr) (np : Addr) (nb : Addr) (kp : ClassId) (pb : Int32) (f : Int64) (h0 : Heap) (n0 : Nat) (vV : Option Value) (hH : Heap) (lA : List Loc) : Prop := ∃ pg : Addr, ∃ pa : Addr, ∃ kq : ClassId, vV = none ∧ Fr n0 lA ∧ (Keep h0 hH [st]) ∧ (h0.size ≤ pg) ∧ (h0.size ≤ pa) ∧ (Ovr Z kq "com/example/portion/portion/server/OffsetSet$Page") ∧ (np ≠ pa) ∧ (own_bO Z hH st (1 : Int64) (.ref pa) (1 : Int32) pb) ∧ (own_bP Z hH pg (1 : Int64) f (f + (1 : Int64)) (.ref nb) (0 : Int32) (0 : Int32) (-1 : Int32) (0 : Int64) (0 : Int64) (0 : Int64)) ∧ (Arv Z hH pa kq (.object "com/example/portion/portion/server/OffsetSet$Page") (2 : Int32) [(.ref pg), .null] .null)
theorem rm_add0 (lL : Launch) (Z : State) (a0 : Array Value) (hw : own_H a0 Z) (ws : List Jvm.Cond) (st : Addr) (np : Addr) (nb : Addr) (kp : ClassId) (pb : Int32) (f : Int64) (h0 : Heap) (n0 : Nat) (Z0 : n0 ≤ h0.size) (F0 : own_bO Z h0 st (0 : Int64) (.ref np) (0 : Int32) pb) (Zb : Sta Z Z.heap "com/example/portion/portion/server/OffsetSet" "NO_BYTES" "[B" (.ref nb)) (O0 : Old Z n0 h0) (Vn : Arv Z h0 np kp (.object "com/example/portion/portion/server/OffsetSet$Page") (0 : Int32) [] .null) (g_st : n0 ≤ st) (c1 : 0 ≤ f.toInt ∧ f.toInt < 9223372036854775807) :
    own_Met lL jy32 (Jvm.Cond.code jy32 prog_38_method_8_code 3 none :: ws) jr28 #[(.ref st), (.long f)] Z h0 (Q_rm_add0 Z st np nb kp pb f h0 n0) := by
  refine own_begin (plainFor_of_name own_pn_com_example_portion_portion_server_OffsetSet) (fun mM => own_ef_rm_add0 mM st f) fun pP eE sS mM below meth cC s₁ hx hby hml hZ hown hnm hre hlk X0 e0 => ?_
  have hC := @Jvm.hb _ _ hby
  have N0 := Fr.nil n0
  have K0 := Keep.refl h0 [st]
  refine jg s₁ mM 5 #[vR st, vJ f, vS] [(.long (f + (1 : Int64))), (.long f), (.ref st)] (fun tT kK => ?_) ?_
  · refine XS.aloadN X0.here hx rfl (hC e4_0.1) rfl rfl ?_
    refine XS.lloadN X0.here hx rfl (hC e4_0.2.1) rfl ?_
    refine XS.lloadN X0.here hx rfl (hC e4_0.2.2.1) rfl ?_
    refine XS.lconst X0.here hx rfl (hC e4_0.2.2.2) ?_
    refine XS.ladd X0.here hx rfl (hC e4_4.1) rfl ?_
    exact kK
  have t1_ : (1 : Int64).toInt = 1 := rfl
  have t2_ := own_add (x := f) (y := (1 : Int64)) (by omega)
  refine jv X0 hx hZ (y := jy31) hown (jk hw 28 rfl) (jk hw 29 rfl) (jk hw 31 rfl) (jk hw 30 rfl) (jk hw 32 rfl) (jk hw 3 rfl) (rm_ar0 lL Z a0 hw [] st np nb kp pb f (f + (1 : Int64)) h0 n0 (Nat.le_trans Z0 K0.1) F0 Zb O0 Vn g_st (by omega) (by omega)) F0.E e0 own_pd6 [(.long f), (.long (f + (1 : Int64)))] [] (hC e4_4.2.1) rfl rfl (by rw [hml]; rfl) (by decide) 0 (Nat.le_of_eq rfl) (by decide) (by decide) (by decide : 0 + 3 ≤ _) (by decide : 0 + 13 ≤ _) fun vv3_ T3_ L3_ X3_ hQ3_ => ?_
  obtain ⟨pg_3_, pa_3_, kq_3_, rfl, N3_q, p3__0, p3__1, p3__2, p3__3, p3__4, p3__5, p3__6, p3__7⟩ := hQ3_
  have N3_ := Fr.app N0 N3_q
  have sz_pg_3_ : h0.size ≤ pg_3_ := Nat.le_trans K0.1 p3__1
  have sz_pa_3_ : h0.size ≤ pa_3_ := Nat.le_trans K0.1 p3__2
  have K3_ := K0.trans p3__0 (allS (Or.inl (List.mem_of_getElem? (i := 0) rfl)) all0)
  have Fs1 := p3__5
  rw [own_sz1 f] at Fs1
  have Fg1 := p3__6
  rw [own_sz2 f] at Fg1
  exact own_rV X3_ hx hlk hre (hC e4_4.2.2) rfl (by decide) (by decide) ⟨pg_3_, pa_3_, kq_3_, rfl, N3_, K3_, sz_pg_3_, sz_pa_3_, p3__3, p3__4, Fs1, Fg1, p3__7⟩
theorem e13_85 : jD16 85 (.lload_n 3, 1) ∧ jD16 86 (.lload 5, 2) ∧ jD16 88 (.lcmp, 1) ∧ jD16 89 (.ifCond .le 31, 3) := by decide +kernel
theorem e13_92 : jD16 92 (.aload_n 0, 1) ∧ jD16 93 (.getfield 18, 3) ∧ jD16 96 (.ifCond .ge 24, 3) ∧ jD16 99 (.aload_n 0, 1) := by decide +kernel
theorem e13_100 : jD16 100 (.lload_n 3, 1) ∧ jD16 101 (.putfield 29, 3) ∧ jD16 104 (.aload_n 0, 1) ∧ jD16 105 (.dup, 1) := by decide +kernel
theorem e13_106 : jD16 106 (.getfield 45, 3) ∧ jD16 109 (.lload_n 3, 1) ∧ jD16 110 (.lload 5, 2) ∧ jD16 112 (.lsub, 1) := by decide +kernel
theorem e13_113 : jD16 113 (.ladd, 1) ∧ jD16 114 (.putfield 45, 3) ∧ jD16 117 (.goto 46, 3) ∧ jD16 120 (.lload_n 3, 1) := by decide +kernel
theorem e13_121 : jD16 121 (.lload 5, 2) ∧ jD16 123 (.lcmp, 1) ∧ jD16 124 (.ifCond .le 39, 3) := by decide +kernel
theorem own_ef_rm_exA (mM : MethodId) (x0 : Addr) (x1 : Int64) (x2 : Int64) : entryFrame mM #[(.ref x0), (.long x1), (.long x2)] 7 = mkF mM 0 #[.val (.ref x0), .val (.long x1), .second, .val (.long x2), .second, .unset, .unset] [] := by first | (simp [entryFrame, mkF, argsToLocals, Value.category]; done) | rfl
def Q_rm_exA (Z : State) (a : Addr) (nb : Addr) (sz : Int64) (ff : Int64) (ft : Int64) (lg : Int64) (lf : Int64) (lt : Int64) (f : Int64) (t : Int64) (h0 : Heap) (n0 : Nat) (vV : Option Value) (hH : Heap) (lA : List Loc) : Prop := ∃ sz' : Int64, ∃ ft' : Int64, vV = none ∧ Fr n0 lA ∧ (Keep h0 hH [a]) ∧ ((ft.toInt < t.toInt ∧ sz'.toInt = 2 ∧ ft'.toInt = t.toInt) ∨ (t.toInt ≤ ft.toInt ∧ sz'.toInt = 1 ∧ ft'.toInt = ft.toInt)) ∧ (own_bP Z hH a sz' ff ft' (.ref nb) (0 : Int32) (0 : Int32) (-1 : Int32) lg lf lt)
theorem rm_exA (lL : Launch) (Z : State) (a0 : Array Value) (hw : own_H a0 Z) (ws : List Jvm.Cond) (a : Addr) (nb : Addr) (sz : Int64) (ff : Int64) (ft : Int64) (lg : Int64) (lf : Int64) (lt : Int64) (f : Int64) (t : Int64) (h0 : Heap) (n0 : Nat) (Z0 : n0 ≤ h0.size) (F0 : own_bP Z h0 a sz ff ft (.ref nb) (0 : Int32) (0 : Int32) (-1 : Int32) lg lf lt) (hs : 1 ≤ sz.toInt) (h1 : f.toInt ≤ ft.toInt) (c2 : t.toInt = f.toInt + 1) (hs2 : sz.toInt = 1) (h0f : 0 ≤ ft.toInt) (g_a : n0 ≤ a) :
    own_Met lL jy16 (Jvm.Cond.code jy16 prog_39_method_5_code 7 none :: ws) jr1 #[(.ref a), (.long f), (.long t)] Z h0 (Q_rm_exA Z a nb sz ff ft lg lf lt f t h0 n0) := by
  refine own_begin (plainFor_of_name own_pn_com_example_portion_portion_server_OffsetSet_Page) (fun mM => own_ef_rm_exA mM a f t) fun pP eE sS mM below meth cC s₁ hx hby hml hZ hown hnm hre hlk X0 e0 => ?_
  have hC := @Jvm.hb _ _ hby
  have N0 := Fr.nil n0
  have K0 := Keep.refl h0 [a]
  let ll1 : Array Slot := #[vR a, vJ f, vS, vJ t, vS, vU, vU]
  refine jg s₁ mM 1 ll1 [(.ref a)] (fun tT kK => ?_) ?_
  · refine XS.aloadN X0.here hx rfl (hC e13_0.1) rfl rfl ?_
    exact kK
  refine jv X0 hx hZ (y := jy5) hown (jk hw 84 rfl) (jk hw 85 rfl) (jk hw 87 rfl) (jk hw 86 rfl) (jk hw 88 rfl) (jk hw 56 rfl) (rm_lta lL Z a0 hw [] a ft h0 n0 (Nat.le_trans Z0 K0.1) F0.g6 F0.g2) F0.E e0 own_pd4 [] [] (hC e13_0.2) rfl rfl (by rw [hml]; rfl) (by decide) 0 (Nat.le_of_eq rfl) (by decide) (by decide) (by decide : 0 + 0 ≤ _) (by decide : 0 + 0 ≤ _) fun vv1_ T1_ L1_ X1_ hQ1_ => ?_
  obtain ⟨rfl, N1_q, p1__0⟩ := hQ1_
  have N1_ := Fr.app N0 N1_q
  let ll2 : Array Slot := #[vR a, vJ f, vS, vJ t, vS, vJ ft, vS]
  refine jg T1_ mM 7 ll2 [(.ref a)] (fun tT kK => ?_) ?_
  · refine XS.lstore X1_.here hx rfl (hC e13_4.1) rfl (l' := ll2) rfl ?_
    refine XS.aloadN X1_.here hx rfl (hC e13_4.2.1) rfl rfl ?_
    exact kK
  refine jf X1_ hx hZ hown (jk hw 91 rfl) p1__0 F0.g0 (hC e13_4.2.2.1) fun T2_ X2_ e2_ => ?_
  refine jg T2_ mM 12 ll2 [(.int (lcmpW sz (0 : Int64)))] (fun tT kK => ?_) ?_
  · refine XS.lconst X2_.here hx rfl (hC e13_4.2.2.2) ?_
    refine XS.lcmp X2_.here hx rfl (hC e13_11.1) rfl ?_
    exact kK
  have t3_ : (0 : Int64).toInt = 0 := rfl
  refine jg T2_ mM 89 ll2 [(.int (lcmpW t ft))] (fun tT kK => ?_) ?_
  · refine XS.ifYes X2_.here hx rfl (pc0 := 12) (pc' := 35) rfl (hC e13_11.2.1) rfl ((if0 _ _).trans (feq (mt (lw_eq sz (0 : Int64)).mp ((own_nev (by omega)) : ¬ (sz = (0 : Int64))))).2) (by decide) (by decide) ?_
    refine XS.lloadN X2_.here hx rfl (hC e13_35.1) rfl ?_
    refine XS.lload X2_.here hx rfl (hC e13_35.2.1) rfl ?_
    refine XS.lcmp X2_.here hx rfl (hC e13_35.2.2.1) rfl ?_
    refine XS.ifYes X2_.here hx rfl (pc0 := 39) (pc' := 85) rfl (hC e13_35.2.2.2) rfl ((if0 _ _).trans (flt (mt (lw_gt f ft).mp ((own_nl (by omega)) : ¬ (ft < f)))).2.2.2) (by decide) (by decide) ?_
    refine XS.lloadN X2_.here hx rfl (hC e13_85.1) rfl ?_
    refine XS.lload X2_.here hx rfl (hC e13_85.2.1) rfl ?_
    refine XS.lcmp X2_.here hx rfl (hC e13_85.2.2.1) rfl ?_
    exact kK
  by_cases hc89_4_ : ft < t
  · refine jg T2_ mM 92 ll2 [] (fun tT kK => ?_) ?_
    · refine XS.ifNo X2_.here hx rfl (hC e13_85.2.2.2) rfl ((if0 _ _).trans (tlt ((lw_gt t ft).mpr (hc89_4_ : ft < t))).2.2.2) ?_
      exact kK
    have t5_ := own_tlt hc89_4_
    refine jg T2_ mM 93 ll2 [(.ref a)] (fun tT kK => ?_) ?_
    · refine XS.aloadN X2_.here hx rfl (hC e13_92.1) rfl rfl ?_
      exact kK
    refine jf X2_ hx hZ hown (jk hw 65 rfl) e2_ F0.g6 (hC e13_92.2.1) fun T6_ X6_ e6_ => ?_
    refine jg T6_ mM 101 ll2 [(.long t), (.ref a)] (fun tT kK => ?_) ?_
    · refine XS.ifNo X6_.here hx rfl (hC e13_92.2.2.1) rfl ((if0 _ _).trans (tlt ((by decide) : (-1 : Int32) < (0 : Int32))).2.1) ?_
      refine XS.aloadN X6_.here hx rfl (hC e13_92.2.2.2) rfl rfl ?_
      refine XS.lloadN X6_.here hx rfl (hC e13_100.1) rfl ?_
      exact kK
    refine jq X6_ hx hZ hown (jk hw 89 rfl) e6_ F0.g2 F0.E (jk hw 90 rfl) (jk hw 55 rfl) (ty := .long) (by decide) rfl rfl (hC e13_100.2.1) K0 N1_ (Or.inl (List.mem_of_getElem? (i := 0) rfl)) g_a fun T7_ h7_ X7_ e7_ W7_ Fw7_ K7_ N7_ => ?_
    have Bw7_ := F0.s2 hw W7_
    refine jg T7_ mM 106 ll2 [(.ref a), (.ref a)] (fun tT kK => ?_) ?_
    · refine XS.aloadN X7_.here hx rfl (hC e13_100.2.2.1) rfl rfl ?_
      refine XS.dup X7_.here hx rfl (hC e13_100.2.2.2) rfl rfl ?_
      exact kK
    refine jf X7_ hx hZ hown (jk hw 91 rfl) e7_ Bw7_.g0 (hC e13_106.1) fun T8_ X8_ e8_ => ?_
    refine jg T8_ mM 114 ll2 [(.long (sz + (t - ft))), (.ref a)] (fun tT kK => ?_) ?_
    · refine XS.lloadN X8_.here hx rfl (hC e13_106.2.1) rfl ?_
      refine XS.lload X8_.here hx rfl (hC e13_106.2.2.1) rfl ?_
      refine XS.lsub X8_.here hx rfl (hC e13_106.2.2.2) rfl ?_
      refine XS.ladd X8_.here hx rfl (hC e13_113.1) rfl ?_
      exact kK
    refine jq X8_ hx hZ hown (jk hw 91 rfl) e8_ Bw7_.g0 Bw7_.E (jk hw 78 rfl) (jk hw 55 rfl) (ty := .long) (by decide) rfl rfl (hC e13_113.2.1) K7_ N7_ (Or.inl (List.mem_of_getElem? (i := 0) rfl)) g_a fun T9_ h9_ X9_ e9_ W9_ Fw9_ K9_ N9_ => ?_
    have Bw9_ := Bw7_.s0 hw W9_
    refine jg T9_ mM 163 ll2 [] (fun tT kK => ?_) ?_
    · refine XS.goto X9_.here hx rfl (pc0 := 117) (pc' := 163) rfl (hC e13_113.2.2.1) (by decide) (by decide) ?_
      exact kK
    have t10_ := rng64 t
    have t11_ := rng64 ft
    have t12_ := own_sub (x := t) (y := ft) (by omega)
    have t13_ := own_add (x := sz) (y := (t - ft)) (by omega)
    exact own_rV X9_ hx hlk hre (hC e13_29.2.2) e9_ (by decide) (by decide) ⟨(sz + (t - ft)), t, rfl, N9_, K9_, (by omega), Bw9_⟩
  · refine jg T2_ mM 120 ll2 [] (fun tT kK => ?_) ?_
    · refine XS.ifYes X2_.here hx rfl (pc0 := 89) (pc' := 120) rfl (hC e13_85.2.2.2) rfl ((if0 _ _).trans (flt (mt (lw_gt t ft).mp (hc89_4_ : ¬ (ft < t)))).2.2.2) (by decide) (by decide) ?_
      exact kK
    have t14_ := own_tnl hc89_4_
    refine jg T2_ mM 163 ll2 [] (fun tT kK => ?_) ?_
    · refine XS.lloadN X2_.here hx rfl (hC e13_113.2.2.2) rfl ?_
      refine XS.lload X2_.here hx rfl (hC e13_121.1) rfl ?_
      refine XS.lcmp X2_.here hx rfl (hC e13_121.2.1) rfl ?_
      refine XS.ifYes X2_.here hx rfl (pc0 := 124) (pc' := 163) rfl (hC e13_121.2.2) rfl ((if0 _ _).trans (flt (mt (lw_gt t ft).mp (hc89_4_ : ¬ (ft < t)))).2.2.2) (by decide) (by decide) ?_
      exact kK
    exact own_rV X2_ hx hlk hre (hC e13_29.2.2) e2_ (by decide) (by decide) ⟨sz, ft, rfl, N1_, K0, (by omega), F0⟩
theorem e10_8 : jD29 8 (.aload_n 0, 1) ∧ jD29 9 (.getfield 16, 3) ∧ jD29 12 (.iload_n 1, 1) ∧ jD29 13 (.aaload, 1) := by decide +kernel
theorem e10_21 : jD29 21 (.aload 6, 2) ∧ jD29 23 (.invokevirtual 145, 3) ∧ jD29 26 (.aload_n 0, 1) ∧ jD29 27 (.getfield 19, 3) := by decide +kernel
theorem d10_30 : jD29 30 (.if_icmp .lt 52, 3) := by decide +kernel
theorem own_ef_rm_atA (mM : MethodId) (x0 : Addr) (x1 : Int32) (x2 : Int64) (x3 : Int64) : entryFrame mM #[(.ref x0), (.int x1), (.long x2), (.long x3)] 9 = mkF mM 0 #[.val (.ref x0), .val (.int x1), .val (.long x2), .second, .val (.long x3), .second, .unset, .unset, .unset] [] := by first | (simp [entryFrame, mkF, argsToLocals, Value.category]; done) | rfl
def Q_rm_atA (Z : State) (pg : Addr) (st : Addr) (pa : Addr) (np : Addr) (nb : Addr) (kq : ClassId) (kp : ClassId) (kn : ClassId) (pb : Int32) (zs : Int64) (sz : Int64) (ff : Int64) (ft : Int64) (lg : Int64) (lf : Int64) (lt : Int64) (f : Int64) (t : Int64) (h0 : Heap) (n0 : Nat) (vV : Option Value) (hH : Heap) (lA : List Loc) : Prop := ∃ zs' : Int64, ∃ sz' : Int64, ∃ ff' : Int64, ∃ ft' : Int64, ∃ lg' : Int64, ∃ lf' : Int64, ∃ lt' : Int64, vV = none ∧ Fr n0 lA ∧ (Keep h0 hH [st, pg]) ∧ ((f.toInt = ff.toInt ∧ ff'.toInt = ff.toInt ∧ ft'.toInt = ff.toInt + 1 ∧ sz'.toInt = 1 ∧ zs'.toInt = 1) ∨ (f.toInt = ff.toInt + 1 ∧ ff'.toInt = ff.toInt ∧ ft'.toInt = ff.toInt + 2 ∧ sz'.toInt = 2 ∧ zs'.toInt = 2) ∨ (f.toInt + 1 = ff.toInt ∧ ff'.toInt = f.toInt ∧ ft'.toInt = f.toInt + 2 ∧ sz'.toInt = 2 ∧ zs'.toInt = 2)) ∧ (own_bO Z hH st zs' (.ref pa) (1 : Int32) pb) ∧ (own_bP Z hH pg sz' ff' ft' (.ref nb) (0 : Int32) (0 : Int32) (-1 : Int32) lg' lf' lt')
theorem rm_atA (lL : Launch) (Z : State) (a0 : Array Value) (hw : own_H a0 Z) (ws : List Jvm.Cond) (pg : Addr) (st : Addr) (pa : Addr) (np : Addr) (nb : Addr) (kq : ClassId) (kp : ClassId) (kn : ClassId) (pb : Int32) (zs : Int64) (sz : Int64) (ff : Int64) (ft : Int64) (lg : Int64) (lf : Int64) (lt : Int64) (f : Int64) (t : Int64) (h0 : Heap) (n0 : Nat) (Z0 : n0 ≤ h0.size) (F0 : own_bO Z h0 st zs (.ref pa) (1 : Int32) pb) (Vp : Arv Z h0 pa kq (.object "com/example/portion/portion/server/OffsetSet$Page") (2 : Int32) [(.ref pg), .null] .null) (Vn : Arv Z h0 np kp (.object "com/example/portion/portion/server/OffsetSet$Page") (0 : Int32) [] .null) (Vm : Arv Z h0 nb kn .byte (0 : Int32) [] (.int 0)) (Zp : Sta Z Z.heap "com/example/portion/portion/server/OffsetSet" "NO_PAGES" "[Lcom/example/portion/portion/server/OffsetSet$Page;" (.ref np)) (Zb : Sta Z Z.heap "com/example/portion/portion/server/OffsetSet" "NO_BYTES" "[B" (.ref nb)) (O0 : Old Z n0 h0) (G0 : own_bP Z h0 pg sz ff ft (.ref nb) (0 : Int32) (0 : Int32) (-1 : Int32) lg lf lt) (g_st : n0 ≤ st) (g_pg : n0 ≤ pg) (ne_np_pa : np ≠ pa) (c0 : 0 ≤ f.toInt ∧ f.toInt < 9223372036854775807) (hff : 0 ≤ ff.toInt ∧ ft.toInt = ff.toInt + 1) (hs : sz.toInt = 1) (hzs : zs.toInt = 1) (hp : 1 ≤ pb.toInt ∧ pb.toInt ≤ 1024) (c2 : t.toInt = f.toInt + 1) (e1 : f.toInt = ff.toInt ∨ f.toInt = ff.toInt + 1) :
    own_Met lL jy29 (Jvm.Cond.code jy29 prog_38_method_20_code 9 none :: ws) jr10 #[(.ref st), (.int 0), (.long f), (.long t)] Z h0 (Q_rm_atA Z pg st pa np nb kq kp kn pb zs sz ff ft lg lf lt f t h0 n0) := by
  refine own_begin (plainFor_of_name own_pn_com_example_portion_portion_server_OffsetSet) (fun mM => own_ef_rm_atA mM st (0 : Int32) f t) fun pP eE sS mM below meth cC s₁ hx hby hml hZ hown hnm hre hlk X0 e0 => ?_
  have hC := @Jvm.hb _ _ hby
  have N0 := Fr.nil n0
  have K0 := Keep.refl h0 [st, pg]
  let ll1 : Array Slot := #[vR st, vI 0, vJ f, vS, vJ t, vS, vU, vU, vU]
  refine jg s₁ mM 9 ll1 [(.ref st)] (fun tT kK => ?_) ?_
  · refine XS.iloadN X0.here hx rfl (hC e10_0.1) rfl ?_
    refine XS.ifYes X0.here hx rfl (pc0 := 1) (pc' := 8) rfl (hC e10_0.2.1) rfl ((if0 _ _).trans (flt ((by decide) : ¬ ((0 : Int32) < (0 : Int32)))).2.1) (by decide) (by decide) ?_
    refine XS.aloadN X0.here hx rfl (hC e10_8.1) rfl rfl ?_
    exact kK
  refine jf X0 hx hZ hown (jk hw 12 rfl) e0 F0.g1 (hC e10_8.2.1) fun T1_ X1_ e1_ => ?_
  refine jg T1_ mM 13 ll1 [(.int 0), (.ref pa)] (fun tT kK => ?_) ?_
  · refine XS.iloadN X1_.here hx rfl (hC e10_8.2.2.1) rfl ?_
    exact kK
  obtain ⟨cl2_, Ar2_, qk2_, Sz2_, Nn2_, Hh2_, Gg2_⟩ := id Vp
  have hin3_ : ¬ ((0 : Int32) < 0 ∨ cl2_.slots.size ≤ ((0 : Int32)).toNatClampNeg) := inb_of Sz2_ ⟨by decide, by decide⟩
  have hat3_ : cl2_.slots[((0 : Int32)).toNatClampNeg]? = some (.ref pg) := Hh2_.at hin3_ rfl
  let ll2 : Array Slot := #[vR st, vI 0, vJ f, vS, vJ t, vS, vR pg, vU, vU]
  refine jg T1_ mM 23 ll2 [(.ref pg)] (fun tT kK => ?_) ?_
  · refine X1_.aaload hx (j := (0 : Int32)) (v := (.ref pg)) (own_rw e1_ Ar2_.1) (State.isArrayOf_alike hZ.alike Ar2_.2.1) rfl Ar2_.2.2 hin3_ hat3_ (g := (mkF mM 13 ll1 [(.int 0), (.ref pa)])) rfl rfl (hC e10_8.2.2.2) _ ?_
    refine XS.astore X1_.here hx rfl (hC e10_14.1) rfl rfl (l' := ll2) rfl ?_
    refine XS.aload X1_.here hx rfl (hC e10_14.2.1) rfl rfl ?_
    refine XS.ifnullNo X1_.here hx rfl (hC e10_14.2.2.1) rfl ?_
    refine XS.aload X1_.here hx rfl (hC e10_21.1) rfl rfl ?_
    exact kK
  refine jv X1_ hx hZ (y := jy7) hown (jk hw 152 rfl) (jk hw 153 rfl) (jk hw 155 rfl) (jk hw 154 rfl) (jk hw 156 rfl) (jk hw 56 rfl) (rm_bc lL Z a0 hw [] pg (0 : Int32) h0 n0 (Nat.le_trans Z0 K0.1) G0.g5 G0.g4) G0.E e1_ own_pd12 [] [] (hC e10_21.2.1) rfl rfl (by rw [hml]; rfl) (by decide) 0 (Nat.le_of_eq rfl) (by decide) (by decide) (by decide : 0 + 0 ≤ _) (by decide : 0 + 0 ≤ _) fun vv4_ T4_ L4_ X4_ hQ4_ => ?_
  obtain ⟨rfl, N4_q, p4__0⟩ := hQ4_
  have N4_ := Fr.app N0 N4_q
  refine jg T4_ mM 27 ll2 [(.ref st), (.int ((0 : Int32) - (0 : Int32)))] (fun tT kK => ?_) ?_
  · refine XS.aloadN X4_.here hx rfl (hC e10_21.2.2.1) rfl rfl ?_
    exact kK
  refine jf X4_ hx hZ hown (jk hw 14 rfl) p4__0 F0.g3 (hC e10_21.2.2.2) fun T5_ X5_ e5_ => ?_
  have t6_ : (0 : Int32).toInt = 0 := rfl
  have t7_ := own_sub3 (x := (0 : Int32)) (y := (0 : Int32)) (by omega)
  refine jg T5_ mM 84 ll2 [(.ref pg)] (fun tT kK => ?_) ?_
  · refine XS.icmpYes X5_.here hx rfl (pc0 := 30) (pc' := 82) rfl (hC d10_30) rfl (tlt ((own_lt3 (by omega)) : ((0 : Int32) - (0 : Int32)) < pb)).1 (by decide) (by decide) ?_
    refine XS.aload X5_.here hx rfl (hC e10_82.1) rfl rfl ?_
    exact kK
  obtain ⟨T8_, X8_, e8_, st8_⟩ := own_getRef X5_ hx hZ hown (jk hw 77 rfl) Via.refl e5_ G0.g0 (g := (mkF mM 84 ll2 [(.ref pg)])) rfl rfl (hC e10_82.2.1)
  refine own_fin st8_ ?_
  let ll3 : Array Slot := #[vR st, vI 0, vJ f, vS, vJ t, vS, vR pg, vJ sz, vS]
  refine jg T8_ mM 94 ll3 [(.long t), (.long f), (.ref pg)] (fun tT kK => ?_) ?_
  · refine XS.lstore X8_.here hx rfl (hC e10_82.2.2.1) rfl (l' := ll3) rfl ?_
    refine XS.aload X8_.here hx rfl (hC e10_82.2.2.2) rfl rfl ?_
    refine XS.lloadN X8_.here hx rfl (hC e10_91.1) rfl ?_
    refine XS.lload X8_.here hx rfl (hC e10_91.2.1) rfl ?_
    exact kK
  refine jv X8_ hx hZ (y := jy16) hown (jk hw 79 rfl) (jk hw 80 rfl) (jk hw 82 rfl) (jk hw 81 rfl) (jk hw 83 rfl) (jk hw 56 rfl) (rm_exA lL Z a0 hw [] pg nb sz ff ft lg lf lt f t h0 n0 (Nat.le_trans Z0 K0.1) G0 (by omega) (by omega) (by omega) (by omega) (by omega) g_pg) G0.E e8_ own_pd6 [(.long f), (.long t)] [] (hC e10_91.2.2.1) rfl rfl (by rw [hml]; rfl) (by decide) 0 (Nat.le_of_eq rfl) (by decide) (by decide) (by decide : 0 + 0 ≤ _) (by decide : 0 + 0 ≤ _) fun vv9_ T9_ L9_ X9_ hQ9_ => ?_
  obtain ⟨sz'_9_, ft'_9_, rfl, N9_q, p9__0, p9__1, p9__2⟩ := hQ9_
  have N9_ := Fr.app N4_ N9_q
  have ne10_ : st ≠ pg := (Exa.ne F0.E G0.E (by decide))
  have fc14_ := F0.keep p9__0 (ninS ne10_ nin0)
  have K9_ := K0.trans p9__0 (allS (Or.inl (List.mem_of_getElem? (i := 1) rfl)) all0)
  refine jg T9_ mM 99 ll3 [(.ref st), (.ref st)] (fun tT kK => ?_) ?_
  · refine XS.aloadN X9_.here hx rfl (hC e10_91.2.2.2) rfl rfl ?_
    refine XS.dup X9_.here hx rfl (hC e10_98.1) rfl rfl ?_
    exact kK
  refine jf X9_ hx hZ hown (jk hw 21 rfl) rfl fc14_.g0 (hC e10_98.2.1) fun T19_ X19_ e19_ => ?_
  refine jg T19_ mM 104 ll3 [(.ref pg), (.long zs), (.ref st)] (fun tT kK => ?_) ?_
  · refine XS.aload X19_.here hx rfl (hC e10_98.2.2.1) rfl rfl ?_
    exact kK
  obtain ⟨T20_, X20_, e20_, st20_⟩ := own_getRef X19_ hx hZ hown (jk hw 77 rfl) Via.refl e19_ p9__2.g0 (g := (mkF mM 104 ll3 [(.ref pg), (.long zs), (.ref st)])) rfl rfl (hC e10_98.2.2.2)
  refine own_fin st20_ ?_
  refine jg T20_ mM 111 ll3 [(.long (zs + (sz'_9_ - sz))), (.ref st)] (fun tT kK => ?_) ?_
  · refine XS.lload X20_.here hx rfl (hC e10_107.1) rfl ?_
    refine XS.lsub X20_.here hx rfl (hC e10_107.2.1) rfl ?_
    refine XS.ladd X20_.here hx rfl (hC e10_107.2.2.1) rfl ?_
    exact kK
  refine jq X20_ hx hZ hown (jk hw 21 rfl) e20_ fc14_.g0 fc14_.E (jk hw 22 rfl) (jk hw 2 rfl) (ty := .long) (by decide) rfl rfl (hC e10_107.2.2.2) K9_ N9_ (Or.inl (List.mem_of_getElem? (i := 0) rfl)) g_st fun T21_ h21_ X21_ e21_ W21_ Fw21_ K21_ N21_ => ?_
  have fc29_ := p9__2.other W21_ (Ne.symm ne10_)
  have Bw21_ := fc14_.s0 hw W21_
  have t30_ := rng64 sz'_9_
  have t31_ := rng64 sz
  have t32_ := own_sub (x := sz'_9_) (y := sz) (by omega)
  have t33_ := own_add (x := zs) (y := (sz'_9_ - sz)) (by omega)
  exact own_rV X21_ hx hlk hre (hC d10_114) e21_ (by decide) (by decide) ⟨(zs + (sz'_9_ - sz)), sz'_9_, ff, ft'_9_, lg, lf, lt, rfl, N21_, K21_, (by omega), Bw21_, fc29_⟩
theorem e5_45 : jD31 45 (.iload 5, 2) ∧ jD31 47 (.iload 6, 2) ∧ jD31 49 (.if_icmp .ne 29, 3) ∧ jD31 52 (.lload_n 1, 1) := by decide +kernel
theorem e5_53 : jD31 53 (.aload_n 0, 1) ∧ jD31 54 (.getfield 16, 3) ∧ jD31 57 (.iload 5, 2) ∧ jD31 59 (.aaload, 1) := by decide +kernel
theorem e5_60 : jD31 60 (.invokevirtual 75, 3) ∧ jD31 63 (.lcmp, 1) ∧ jD31 64 (.ifCond .lt 14, 3) ∧ jD31 78 (.iload 5, 2) := by decide +kernel
theorem e5_80 : jD31 80 (.iload 6, 2) ∧ jD31 82 (.if_icmp .ne 15, 3) ∧ jD31 85 (.aload_n 0, 1) ∧ jD31 86 (.iload 5, 2) := by decide +kernel
theorem e5_88 : jD31 88 (.lload_n 1, 1) ∧ jD31 89 (.lload_n 3, 1) ∧ jD31 90 (.iconst 1, 1) ∧ jD31 91 (.invokevirtual 82, 3) := by decide +kernel
theorem own_pd15 : parseMethodDescriptor "(IJJZ)V" = some ⟨[.int, .long, .long, .boolean], none⟩ := by decide +kernel
theorem e5_94 : jD31 94 (.goto 29, 3) ∧ jD31 67 (.aload_n 0, 1) ∧ jD31 68 (.iload 5, 2) ∧ jD31 70 (.lload_n 1, 1) := by decide +kernel
theorem e5_71 : jD31 71 (.lload_n 3, 1) ∧ jD31 72 (.invokevirtual 78, 3) ∧ jD31 75 (.goto 48, 3) := by decide +kernel
theorem own_ef_rm_arA (mM : MethodId) (x0 : Addr) (x1 : Int64) (x2 : Int64) : entryFrame mM #[(.ref x0), (.long x1), (.long x2)] 8 = mkF mM 0 #[.val (.ref x0), .val (.long x1), .second, .val (.long x2), .second, .unset, .unset, .unset] [] := by first | (simp [entryFrame, mkF, argsToLocals, Value.category]; done) | rfl
def Q_rm_arA (Z : State) (pg : Addr) (st : Addr) (pa : Addr) (np : Addr) (nb : Addr) (kq : ClassId) (kp : ClassId) (kn : ClassId) (pb : Int32) (zs : Int64) (sz : Int64) (ff : Int64) (ft : Int64) (lg : Int64) (lf : Int64) (lt : Int64) (f : Int64) (t : Int64) (h0 : Heap) (n0 : Nat) (vV : Option Value) (hH : Heap) (lA : List Loc) : Prop := ∃ zs' : Int64, ∃ sz' : Int64, ∃ ff' : Int64, ∃ ft' : Int64, ∃ lg' : Int64, ∃ lf' : Int64, ∃ lt' : Int64, vV = none ∧ Fr n0 lA ∧ (Keep h0 hH [st, pg]) ∧ ((f.toInt = ff.toInt ∧ ff'.toInt = ff.toInt ∧ ft'.toInt = ff.toInt + 1 ∧ sz'.toInt = 1 ∧ zs'.toInt = 1) ∨ (f.toInt = ff.toInt + 1 ∧ ff'.toInt = ff.toInt ∧ ft'.toInt = ff.toInt + 2 ∧ sz'.toInt = 2 ∧ zs'.toInt = 2) ∨ (f.toInt + 1 = ff.toInt ∧ ff'.toInt = f.toInt ∧ ft'.toInt = f.toInt + 2 ∧ sz'.toInt = 2 ∧ zs'.toInt = 2)) ∧ (own_bO Z hH st zs' (.ref pa) (1 : Int32) pb) ∧ (own_bP Z hH pg sz' ff' ft' (.ref nb) (0 : Int32) (0 : Int32) (-1 : Int32) lg' lf' lt')
theorem rm_arA (lL : Launch) (Z : State) (a0 : Array Value) (hw : own_H a0 Z) (ws : List Jvm.Cond) (pg : Addr) (st : Addr) (pa : Addr) (np : Addr) (nb : Addr) (kq : ClassId) (kp : ClassId) (kn : ClassId) (pb : Int32) (zs : Int64) (sz : Int64) (ff : Int64) (ft : Int64) (lg : Int64) (lf : Int64) (lt : Int64) (f : Int64) (t : Int64) (h0 : Heap) (n0 : Nat) (Z0 : n0 ≤ h0.size) (F0 : own_bO Z h0 st zs (.ref pa) (1 : Int32) pb) (Vp : Arv Z h0 pa kq (.object "com/example/portion/portion/server/OffsetSet$Page") (2 : Int32) [(.ref pg), .null] .null) (Vn : Arv Z h0 np kp (.object "com/example/portion/portion/server/OffsetSet$Page") (0 : Int32) [] .null) (Vm : Arv Z h0 nb kn .byte (0 : Int32) [] (.int 0)) (Zp : Sta Z Z.heap "com/example/portion/portion/server/OffsetSet" "NO_PAGES" "[Lcom/example/portion/portion/server/OffsetSet$Page;" (.ref np)) (Zb : Sta Z Z.heap "com/example/portion/portion/server/OffsetSet" "NO_BYTES" "[B" (.ref nb)) (O0 : Old Z n0 h0) (G0 : own_bP Z h0 pg sz ff ft (.ref nb) (0 : Int32) (0 : Int32) (-1 : Int32) lg lf lt) (g_st : n0 ≤ st) (g_pg : n0 ≤ pg) (ne_np_pa : np ≠ pa) (c0 : 0 ≤ f.toInt ∧ f.toInt < 9223372036854775807) (hff : 0 ≤ ff.toInt ∧ ft.toInt = ff.toInt + 1) (hs : sz.toInt = 1) (hzs : zs.toInt = 1) (hp : 1 ≤ pb.toInt ∧ pb.toInt ≤ 1024) (c2 : t.toInt = f.toInt + 1) (e1 : f.toInt = ff.toInt ∨ f.toInt = ff.toInt + 1 ∨ f.toInt + 1 = ff.toInt) :
    own_Met lL jy31 (Jvm.Cond.code jy31 prog_38_method_9_code 8 none :: ws) jr29 #[(.ref st), (.long f), (.long t)] Z h0 (Q_rm_arA Z pg st pa np nb kq kp kn pb zs sz ff ft lg lf lt f t h0 n0) := by
  refine own_begin (plainFor_of_name own_pn_com_example_portion_portion_server_OffsetSet) (fun mM => own_ef_rm_arA mM st f t) fun pP eE sS mM below meth cC s₁ hx hby hml hZ hown hnm hre hlk X0 e0 => ?_
  have hC := @Jvm.hb _ _ hby
  have N0 := Fr.nil n0
  have K0 := Keep.refl h0 [st, pg]
  let ll1 : Array Slot := #[vR st, vJ f, vS, vJ t, vS, vU, vU, vU]
  refine jg s₁ mM 2 ll1 [(.long t), (.long f)] (fun tT kK => ?_) ?_
  · refine XS.lloadN X0.here hx rfl (hC e5_0.1) rfl ?_
    refine XS.lloadN X0.here hx rfl (hC e5_0.2.1) rfl ?_
    exact kK
  refine jc X0 hx hZ (y := jy0) hown (jk hw 33 rfl) (jk hw 34 rfl) (jk hw 3 rfl) (jk hw 35 rfl) (rm_req lL Z a0 hw [] f t h0 n0 (Nat.le_trans Z0 K0.1) (by omega) (by omega)) e0 own_pd6 [(.long f), (.long t)] [] (hC e5_0.2.2.1) rfl rfl (by rw [hml]; rfl) (by decide) 0 (Nat.le_of_eq rfl) (by decide) (by decide) (by decide : 0 + 0 ≤ _) (by decide : 0 + 0 ≤ _) fun vv1_ T1_ L1_ X1_ hQ1_ => ?_
  obtain ⟨rfl, N1_q, p1__0⟩ := hQ1_
  have N1_ := Fr.app N0 N1_q
  refine jg T1_ mM 8 ll1 [(.long f), (.ref st), (.int 0)] (fun tT kK => ?_) ?_
  · refine XS.iconst X1_.here hx rfl (hC e5_0.2.2.2) ?_
    refine XS.aloadN X1_.here hx rfl (hC e5_6.1) rfl rfl ?_
    refine XS.lloadN X1_.here hx rfl (hC e5_6.2.1) rfl ?_
    exact kK
  by_cases hc2_ : f < ff
  · have t3_ := own_tlt hc2_
    refine jw X1_ hx hZ (y := jy4) hown (jk hw 36 rfl) (jk hw 37 rfl) (own_selP (y := jy4) hZ (jk hw 2 rfl) (jk hw 38 rfl) (jk hw 37 rfl) (by decide)) (jk hw 38 rfl) (jk hw 39 rfl) (jk hw 3 rfl) (rm_pan lL Z a0 hw [] st pa pg kq f ff h0 n0 (Nat.le_trans Z0 K0.1) F0.g2 F0.g1 Vp G0.g1 (by omega)) F0.E p1__0 own_pd14 [(.long f)] [(.int 0)] (hC e5_6.2.2) rfl rfl (by rw [hml]; rfl) (by decide) 1 (Nat.le_of_eq rfl) (by decide) (by decide) (by decide : 0 + 0 ≤ _) (by decide : 0 + 0 ≤ _) fun vv4_ T4_ L4_ X4_ hQ4_ => ?_
    obtain ⟨rfl, N4_q, p4__0⟩ := hQ4_
    have N4_ := Fr.app N1_ N4_q
    refine jc X4_ hx hZ (y := jy1) hown (jk hw 42 rfl) (jk hw 43 rfl) (jk hw 44 rfl) (jk hw 45 rfl) (rm_mxa lL Z a0 hw []  h0 n0 (Nat.le_trans Z0 K0.1) ) p4__0 own_pd1 [(.int 0), (.int (-1))] [] (hC e5_11.1) rfl rfl (by rw [hml]; rfl) (by decide) 0 (Nat.le_of_eq rfl) (by decide) (by decide) (by decide : 0 + 0 ≤ _) (by decide : 0 + 0 ≤ _) fun vv5_ T5_ L5_ X5_ hQ5_ => ?_
    obtain ⟨rfl, N5_q, p5__0⟩ := hQ5_
    have N5_ := Fr.app N4_ N5_q
    let ll2 : Array Slot := #[vR st, vJ f, vS, vJ t, vS, vI 0, vU, vU]
    refine jg T5_ mM 19 ll2 [(.long t), (.ref st), (.int 0)] (fun tT kK => ?_) ?_
    · refine XS.istore X5_.here hx rfl (hC e5_11.2.1) rfl (l' := ll2) rfl ?_
      refine XS.iconst X5_.here hx rfl (hC e5_11.2.2.1) ?_
      refine XS.aloadN X5_.here hx rfl (hC e5_11.2.2.2) rfl rfl ?_
      refine XS.lloadN X5_.here hx rfl (hC e5_18.1) rfl ?_
      exact kK
    refine jw X5_ hx hZ (y := jy4) hown (jk hw 36 rfl) (jk hw 37 rfl) (own_selP (y := jy4) hZ (jk hw 2 rfl) (jk hw 38 rfl) (jk hw 37 rfl) (by decide)) (jk hw 38 rfl) (jk hw 39 rfl) (jk hw 3 rfl) (rm_pay lL Z a0 hw [] st pa pg kq t ff h0 n0 (Nat.le_trans Z0 K0.1) F0.g2 F0.g1 Vp G0.g1 (by omega)) F0.E p5__0 own_pd14 [(.long t)] [(.int 0)] (hC e5_18.2.1) rfl rfl (by rw [hml]; rfl) (by decide) 1 (Nat.le_of_eq rfl) (by decide) (by decide) (by decide : 0 + 0 ≤ _) (by decide : 0 + 0 ≤ _) fun vv6_ T6_ L6_ X6_ hQ6_ => ?_
    obtain ⟨rfl, N6_q, p6__0⟩ := hQ6_
    have N6_ := Fr.app N5_ N6_q
    refine jc X6_ hx hZ (y := jy1) hown (jk hw 42 rfl) (jk hw 43 rfl) (jk hw 44 rfl) (jk hw 45 rfl) (rm_mxb lL Z a0 hw []  h0 n0 (Nat.le_trans Z0 K0.1) ) p6__0 own_pd1 [(.int 0), (.int 0)] [] (hC e5_18.2.2.1) rfl rfl (by rw [hml]; rfl) (by decide) 0 (Nat.le_of_eq rfl) (by decide) (by decide) (by decide : 0 + 0 ≤ _) (by decide : 0 + 0 ≤ _) fun vv7_ T7_ L7_ X7_ hQ7_ => ?_
    obtain ⟨rfl, N7_q, p7__0⟩ := hQ7_
    have N7_ := Fr.app N6_ N7_q
    let ll3 : Array Slot := #[vR st, vJ f, vS, vJ t, vS, vI 0, vI 0, vU]
    refine jg T7_ mM 28 ll3 [(.ref st)] (fun tT kK => ?_) ?_
    · refine XS.istore X7_.here hx rfl (hC e5_18.2.2.2) rfl (l' := ll3) rfl ?_
      refine XS.aloadN X7_.here hx rfl (hC e5_27.1) rfl rfl ?_
      exact kK
    refine jf X7_ hx hZ hown (jk hw 21 rfl) p7__0 F0.g0 (hC e5_27.2.1) fun T8_ X8_ e8_ => ?_
    refine jg T8_ mM 33 ll3 [(.int (lcmpW zs (0 : Int64)))] (fun tT kK => ?_) ?_
    · refine XS.lconst X8_.here hx rfl (hC e5_27.2.2.1) ?_
      refine XS.lcmp X8_.here hx rfl (hC e5_27.2.2.2) rfl ?_
      exact kK
    have t9_ : (0 : Int64).toInt = 0 := rfl
    refine jg T8_ mM 54 ll3 [(.ref st), (.long f)] (fun tT kK => ?_) ?_
    · refine XS.ifYes X8_.here hx rfl (pc0 := 33) (pc' := 45) rfl (hC e5_33.1) rfl ((if0 _ _).trans (feq (mt (lw_eq zs (0 : Int64)).mp ((own_nev (by omega)) : ¬ (zs = (0 : Int64))))).2) (by decide) (by decide) ?_
      refine XS.iload X8_.here hx rfl (hC e5_45.1) rfl ?_
      refine XS.iload X8_.here hx rfl (hC e5_45.2.1) rfl ?_
      refine XS.icmpNo X8_.here hx rfl (hC e5_45.2.2.1) rfl (teq ((by decide) : (0 : Int32) = (0 : Int32))).2 ?_
      refine XS.lloadN X8_.here hx rfl (hC e5_45.2.2.2) rfl ?_
      refine XS.aloadN X8_.here hx rfl (hC e5_53.1) rfl rfl ?_
      exact kK
    refine jf X8_ hx hZ hown (jk hw 12 rfl) e8_ F0.g1 (hC e5_53.2.1) fun T10_ X10_ e10_ => ?_
    refine jg T10_ mM 59 ll3 [(.int 0), (.ref pa), (.long f)] (fun tT kK => ?_) ?_
    · refine XS.iload X10_.here hx rfl (hC e5_53.2.2.1) rfl ?_
      exact kK
    obtain ⟨cl11_, Ar11_, qk11_, Sz11_, Nn11_, Hh11_, Gg11_⟩ := id Vp
    have hin12_ : ¬ ((0 : Int32) < 0 ∨ cl11_.slots.size ≤ ((0 : Int32)).toNatClampNeg) := inb_of Sz11_ ⟨by decide, by decide⟩
    have hat12_ : cl11_.slots[((0 : Int32)).toNatClampNeg]? = some (.ref pg) := Hh11_.at hin12_ rfl
    refine jg T10_ mM 60 ll3 [(.ref pg), (.long f)] (fun tT kK => ?_) ?_
    · refine X10_.aaload hx (j := (0 : Int32)) (v := (.ref pg)) (own_rw e10_ Ar11_.1) (State.isArrayOf_alike hZ.alike Ar11_.2.1) rfl Ar11_.2.2 hin12_ hat12_ (g := (mkF mM 59 ll3 [(.int 0), (.ref pa), (.long f)])) rfl rfl (hC e5_53.2.2.2) _ ?_
      exact kK
    refine jv X10_ hx hZ (y := jy6) hown (jk hw 147 rfl) (jk hw 148 rfl) (jk hw 150 rfl) (jk hw 149 rfl) (jk hw 151 rfl) (jk hw 56 rfl) (rm_lfa lL Z a0 hw [] pg ff h0 n0 (Nat.le_trans Z0 K0.1) G0.g6 G0.g1) G0.E e10_ own_pd4 [] [(.long f)] (hC e5_60.1) rfl rfl (by rw [hml]; rfl) (by decide) 2 (Nat.le_of_eq rfl) (by decide) (by decide) (by decide : 0 + 0 ≤ _) (by decide : 0 + 0 ≤ _) fun vv13_ T13_ L13_ X13_ hQ13_ => ?_
    obtain ⟨rfl, N13_q, p13__0⟩ := hQ13_
    have N13_ := Fr.app N7_ N13_q
    refine jg T13_ mM 91 ll3 [(.int 1), (.long t), (.long f), (.int 0), (.ref st)] (fun tT kK => ?_) ?_
    · refine XS.lcmp X13_.here hx rfl (hC e5_60.2.1) rfl ?_
      refine XS.ifYes X13_.here hx rfl (pc0 := 64) (pc' := 78) rfl (hC e5_60.2.2.1) rfl ((if0 _ _).trans (tlt ((lw_lt f ff).mpr (hc2_ : f < ff))).1) (by decide) (by decide) ?_
      refine XS.iload X13_.here hx rfl (hC e5_60.2.2.2) rfl ?_
      refine XS.iload X13_.here hx rfl (hC e5_80.1) rfl ?_
      refine XS.icmpNo X13_.here hx rfl (hC e5_80.2.1) rfl (teq ((by decide) : (0 : Int32) = (0 : Int32))).2 ?_
      refine XS.aloadN X13_.here hx rfl (hC e5_80.2.2.1) rfl rfl ?_
      refine XS.iload X13_.here hx rfl (hC e5_80.2.2.2) rfl ?_
      refine XS.lloadN X13_.here hx rfl (hC e5_88.1) rfl ?_
      refine XS.lloadN X13_.here hx rfl (hC e5_88.2.1) rfl ?_
      refine XS.iconst X13_.here hx rfl (hC e5_88.2.2.1) ?_
      exact kK
    have t14_ : (1 : Int32).toInt = 1 := rfl
    refine jw X13_ hx hZ (y := jy28) hown (jk hw 201 rfl) (jk hw 202 rfl) (own_selP (y := jy28) hZ (jk hw 2 rfl) (jk hw 203 rfl) (jk hw 202 rfl) (by decide)) (jk hw 203 rfl) (jk hw 204 rfl) (jk hw 3 rfl) (rm_E1 lL Z a0 hw [] pg st pa np nb kq kp kn pb zs sz ff ft lg lf lt f t (1 : Int32) h0 n0 (Nat.le_trans Z0 K0.1) F0 Vp Vn Vm Zp Zb O0 G0 g_st g_pg ne_np_pa (by omega) (by omega) (by omega) (by omega) (by omega) (by omega)) F0.E p13__0 own_pd15 [(.int 0), (.long f), (.long t), (.int 1)] [] (hC e5_88.2.2.2) rfl rfl (by rw [hml]; rfl) (by decide) 0 (Nat.le_of_eq rfl) (by decide) (by decide) (by decide : 0 + 2 ≤ _) (by decide : 0 + 61 ≤ _) fun vv15_ T15_ L15_ X15_ hQ15_ => ?_
    obtain ⟨z'_15_, s'_15_, f'_15_, t'_15_, rfl, N15_q, p15__0, p15__1, p15__2, p15__3, p15__4⟩ := hQ15_
    have N15_ := Fr.app N13_ N15_q
    have K15_ := K0.trans p15__0 (allS (Or.inl (List.mem_of_getElem? (i := 0) rfl)) (allS (Or.inl (List.mem_of_getElem? (i := 1) rfl)) all0))
    refine jg T15_ mM 123 ll3 [] (fun tT kK => ?_) ?_
    · refine XS.goto X15_.here hx rfl (pc0 := 94) (pc' := 123) rfl (hC e5_94.1) (by decide) (by decide) ?_
      exact kK
    exact own_rV X15_ hx hlk hre (hC e5_39.2.2) rfl (by decide) (by decide) ⟨z'_15_, s'_15_, f'_15_, t'_15_, (0 : Int64), (0 : Int64), (0 : Int64), rfl, N15_, K15_, (by omega), p15__3, p15__4⟩
  · have t27_ := own_tnl hc2_
    refine jw X1_ hx hZ (y := jy4) hown (jk hw 36 rfl) (jk hw 37 rfl) (own_selP (y := jy4) hZ (jk hw 2 rfl) (jk hw 38 rfl) (jk hw 37 rfl) (by decide)) (jk hw 38 rfl) (jk hw 39 rfl) (jk hw 3 rfl) (rm_pay lL Z a0 hw [] st pa pg kq f ff h0 n0 (Nat.le_trans Z0 K0.1) F0.g2 F0.g1 Vp G0.g1 (by omega)) F0.E p1__0 own_pd14 [(.long f)] [(.int 0)] (hC e5_6.2.2) rfl rfl (by rw [hml]; rfl) (by decide) 1 (Nat.le_of_eq rfl) (by decide) (by decide) (by decide : 0 + 0 ≤ _) (by decide : 0 + 0 ≤ _) fun vv28_ T28_ L28_ X28_ hQ28_ => ?_
    obtain ⟨rfl, N28_q, p28__0⟩ := hQ28_
    have N28_ := Fr.app N1_ N28_q
    refine jc X28_ hx hZ (y := jy1) hown (jk hw 42 rfl) (jk hw 43 rfl) (jk hw 44 rfl) (jk hw 45 rfl) (rm_mxb lL Z a0 hw []  h0 n0 (Nat.le_trans Z0 K0.1) ) p28__0 own_pd1 [(.int 0), (.int 0)] [] (hC e5_11.1) rfl rfl (by rw [hml]; rfl) (by decide) 0 (Nat.le_of_eq rfl) (by decide) (by decide) (by decide : 0 + 0 ≤ _) (by decide : 0 + 0 ≤ _) fun vv29_ T29_ L29_ X29_ hQ29_ => ?_
    obtain ⟨rfl, N29_q, p29__0⟩ := hQ29_
    have N29_ := Fr.app N28_ N29_q
    let ll4 : Array Slot := #[vR st, vJ f, vS, vJ t, vS, vI 0, vU, vU]
    refine jg T29_ mM 19 ll4 [(.long t), (.ref st), (.int 0)] (fun tT kK => ?_) ?_
    · refine XS.istore X29_.here hx rfl (hC e5_11.2.1) rfl (l' := ll4) rfl ?_
      refine XS.iconst X29_.here hx rfl (hC e5_11.2.2.1) ?_
      refine XS.aloadN X29_.here hx rfl (hC e5_11.2.2.2) rfl rfl ?_
      refine XS.lloadN X29_.here hx rfl (hC e5_18.1) rfl ?_
      exact kK
    refine jw X29_ hx hZ (y := jy4) hown (jk hw 36 rfl) (jk hw 37 rfl) (own_selP (y := jy4) hZ (jk hw 2 rfl) (jk hw 38 rfl) (jk hw 37 rfl) (by decide)) (jk hw 38 rfl) (jk hw 39 rfl) (jk hw 3 rfl) (rm_pay lL Z a0 hw [] st pa pg kq t ff h0 n0 (Nat.le_trans Z0 K0.1) F0.g2 F0.g1 Vp G0.g1 (by omega)) F0.E p29__0 own_pd14 [(.long t)] [(.int 0)] (hC e5_18.2.1) rfl rfl (by rw [hml]; rfl) (by decide) 1 (Nat.le_of_eq rfl) (by decide) (by decide) (by decide : 0 + 0 ≤ _) (by decide : 0 + 0 ≤ _) fun vv30_ T30_ L30_ X30_ hQ30_ => ?_
    obtain ⟨rfl, N30_q, p30__0⟩ := hQ30_
    have N30_ := Fr.app N29_ N30_q
    refine jc X30_ hx hZ (y := jy1) hown (jk hw 42 rfl) (jk hw 43 rfl) (jk hw 44 rfl) (jk hw 45 rfl) (rm_mxb lL Z a0 hw []  h0 n0 (Nat.le_trans Z0 K0.1) ) p30__0 own_pd1 [(.int 0), (.int 0)] [] (hC e5_18.2.2.1) rfl rfl (by rw [hml]; rfl) (by decide) 0 (Nat.le_of_eq rfl) (by decide) (by decide) (by decide : 0 + 0 ≤ _) (by decide : 0 + 0 ≤ _) fun vv31_ T31_ L31_ X31_ hQ31_ => ?_
    obtain ⟨rfl, N31_q, p31__0⟩ := hQ31_
    have N31_ := Fr.app N30_ N31_q
    let ll5 : Array Slot := #[vR st, vJ f, vS, vJ t, vS, vI 0, vI 0, vU]
    refine jg T31_ mM 28 ll5 [(.ref st)] (fun tT kK => ?_) ?_
    · refine XS.istore X31_.here hx rfl (hC e5_18.2.2.2) rfl (l' := ll5) rfl ?_
      refine XS.aloadN X31_.here hx rfl (hC e5_27.1) rfl rfl ?_
      exact kK
    refine jf X31_ hx hZ hown (jk hw 21 rfl) p31__0 F0.g0 (hC e5_27.2.1) fun T32_ X32_ e32_ => ?_
    refine jg T32_ mM 33 ll5 [(.int (lcmpW zs (0 : Int64)))] (fun tT kK => ?_) ?_
    · refine XS.lconst X32_.here hx rfl (hC e5_27.2.2.1) ?_
      refine XS.lcmp X32_.here hx rfl (hC e5_27.2.2.2) rfl ?_
      exact kK
    have t33_ : (0 : Int64).toInt = 0 := rfl
    refine jg T32_ mM 54 ll5 [(.ref st), (.long f)] (fun tT kK => ?_) ?_
    · refine XS.ifYes X32_.here hx rfl (pc0 := 33) (pc' := 45) rfl (hC e5_33.1) rfl ((if0 _ _).trans (feq (mt (lw_eq zs (0 : Int64)).mp ((own_nev (by omega)) : ¬ (zs = (0 : Int64))))).2) (by decide) (by decide) ?_
      refine XS.iload X32_.here hx rfl (hC e5_45.1) rfl ?_
      refine XS.iload X32_.here hx rfl (hC e5_45.2.1) rfl ?_
      refine XS.icmpNo X32_.here hx rfl (hC e5_45.2.2.1) rfl (teq ((by decide) : (0 : Int32) = (0 : Int32))).2 ?_
      refine XS.lloadN X32_.here hx rfl (hC e5_45.2.2.2) rfl ?_
      refine XS.aloadN X32_.here hx rfl (hC e5_53.1) rfl rfl ?_
      exact kK
    refine jf X32_ hx hZ hown (jk hw 12 rfl) e32_ F0.g1 (hC e5_53.2.1) fun T34_ X34_ e34_ => ?_
    refine jg T34_ mM 59 ll5 [(.int 0), (.ref pa), (.long f)] (fun tT kK => ?_) ?_
    · refine XS.iload X34_.here hx rfl (hC e5_53.2.2.1) rfl ?_
      exact kK
    obtain ⟨cl35_, Ar35_, qk35_, Sz35_, Nn35_, Hh35_, Gg35_⟩ := id Vp
    have hin36_ : ¬ ((0 : Int32) < 0 ∨ cl35_.slots.size ≤ ((0 : Int32)).toNatClampNeg) := inb_of Sz35_ ⟨by decide, by decide⟩
    have hat36_ : cl35_.slots[((0 : Int32)).toNatClampNeg]? = some (.ref pg) := Hh35_.at hin36_ rfl
    refine jg T34_ mM 60 ll5 [(.ref pg), (.long f)] (fun tT kK => ?_) ?_
    · refine X34_.aaload hx (j := (0 : Int32)) (v := (.ref pg)) (own_rw e34_ Ar35_.1) (State.isArrayOf_alike hZ.alike Ar35_.2.1) rfl Ar35_.2.2 hin36_ hat36_ (g := (mkF mM 59 ll5 [(.int 0), (.ref pa), (.long f)])) rfl rfl (hC e5_53.2.2.2) _ ?_
      exact kK
    refine jv X34_ hx hZ (y := jy6) hown (jk hw 147 rfl) (jk hw 148 rfl) (jk hw 150 rfl) (jk hw 149 rfl) (jk hw 151 rfl) (jk hw 56 rfl) (rm_lfa lL Z a0 hw [] pg ff h0 n0 (Nat.le_trans Z0 K0.1) G0.g6 G0.g1) G0.E e34_ own_pd4 [] [(.long f)] (hC e5_60.1) rfl rfl (by rw [hml]; rfl) (by decide) 2 (Nat.le_of_eq rfl) (by decide) (by decide) (by decide : 0 + 0 ≤ _) (by decide : 0 + 0 ≤ _) fun vv37_ T37_ L37_ X37_ hQ37_ => ?_
    obtain ⟨rfl, N37_q, p37__0⟩ := hQ37_
    have N37_ := Fr.app N31_ N37_q
    refine jg T37_ mM 72 ll5 [(.long t), (.long f), (.int 0), (.ref st)] (fun tT kK => ?_) ?_
    · refine XS.lcmp X37_.here hx rfl (hC e5_60.2.1) rfl ?_
      refine XS.ifNo X37_.here hx rfl (hC e5_60.2.2.1) rfl ((if0 _ _).trans (flt (mt (lw_lt f ff).mp (hc2_ : ¬ (f < ff)))).1) ?_
      refine XS.aloadN X37_.here hx rfl (hC e5_94.2.1) rfl rfl ?_
      refine XS.iload X37_.here hx rfl (hC e5_94.2.2.1) rfl ?_
      refine XS.lloadN X37_.here hx rfl (hC e5_94.2.2.2) rfl ?_
      refine XS.lloadN X37_.here hx rfl (hC e5_71.1) rfl ?_
      exact kK
    refine jw X37_ hx hZ (y := jy29) hown (jk hw 50 rfl) (jk hw 51 rfl) (own_selP (y := jy29) hZ (jk hw 2 rfl) (jk hw 52 rfl) (jk hw 51 rfl) (by decide)) (jk hw 52 rfl) (jk hw 53 rfl) (jk hw 3 rfl) (rm_atA lL Z a0 hw [] pg st pa np nb kq kp kn pb zs sz ff ft lg lf lt f t h0 n0 (Nat.le_trans Z0 K0.1) F0 Vp Vn Vm Zp Zb O0 G0 g_st g_pg ne_np_pa (by omega) (by omega) (by omega) (by omega) (by omega) (by omega) (by omega)) F0.E p37__0 own_pd13 [(.int 0), (.long f), (.long t)] [] (hC e5_71.2.1) rfl rfl (by rw [hml]; rfl) (by decide) 0 (Nat.le_of_eq rfl) (by decide) (by decide) (by decide : 0 + 0 ≤ _) (by decide : 0 + 0 ≤ _) fun vv38_ T38_ L38_ X38_ hQ38_ => ?_
    obtain ⟨zs'_38_, sz'_38_, ff'_38_, ft'_38_, lg'_38_, lf'_38_, lt'_38_, rfl, N38_q, p38__0, p38__1, p38__2, p38__3⟩ := hQ38_
    have N38_ := Fr.app N37_ N38_q
    have K38_ := K0.trans p38__0 (allS (Or.inl (List.mem_of_getElem? (i := 0) rfl)) (allS (Or.inl (List.mem_of_getElem? (i := 1) rfl)) all0))
    refine jg T38_ mM 123 ll5 [] (fun tT kK => ?_) ?_
    · refine XS.goto X38_.here hx rfl (pc0 := 75) (pc' := 123) rfl (hC e5_71.2.2) (by decide) (by decide) ?_
      exact kK
    exact own_rV X38_ hx hlk hre (hC e5_39.2.2) rfl (by decide) (by decide) ⟨zs'_38_, sz'_38_, ff'_38_, ft'_38_, lg'_38_, lf'_38_, lt'_38_, rfl, N38_, K38_, (by omega), p38__2, p38__3⟩
theorem own_ef_rm_adA (mM : MethodId) (x0 : Addr) (x1 : Int64) : entryFrame mM #[(.ref x0), (.long x1)] 3 = mkF mM 0 #[.val (.ref x0), .val (.long x1), .second] [] := by first | (simp [entryFrame, mkF, argsToLocals, Value.category]; done) | rfl
def Q_rm_adA (Z : State) (pg : Addr) (st : Addr) (pa : Addr) (np : Addr) (nb : Addr) (kq : ClassId) (kp : ClassId) (kn : ClassId) (pb : Int32) (zs : Int64) (sz : Int64) (ff : Int64) (ft : Int64) (lg : Int64) (lf : Int64) (lt : Int64) (f : Int64) (h0 : Heap) (n0 : Nat) (vV : Option Value) (hH : Heap) (lA : List Loc) : Prop := ∃ zs' : Int64, ∃ sz' : Int64, ∃ ff' : Int64, ∃ ft' : Int64, ∃ lg' : Int64, ∃ lf' : Int64, ∃ lt' : Int64, vV = none ∧ Fr n0 lA ∧ (Keep h0 hH [st, pg]) ∧ ((f.toInt = ff.toInt ∧ ff'.toInt = ff.toInt ∧ ft'.toInt = ff.toInt + 1 ∧ sz'.toInt = 1 ∧ zs'.toInt = 1) ∨ (f.toInt = ff.toInt + 1 ∧ ff'.toInt = ff.toInt ∧ ft'.toInt = ff.toInt + 2 ∧ sz'.toInt = 2 ∧ zs'.toInt = 2) ∨ (f.toInt + 1 = ff.toInt ∧ ff'.toInt = f.toInt ∧ ft'.toInt = f.toInt + 2 ∧ sz'.toInt = 2 ∧ zs'.toInt = 2)) ∧ (own_bO Z hH st zs' (.ref pa) (1 : Int32) pb) ∧ (own_bP Z hH pg sz' ff' ft' (.ref nb) (0 : Int32) (0 : Int32) (-1 : Int32) lg' lf' lt')
theorem rm_adA (lL : Launch) (Z : State) (a0 : Array Value) (hw : own_H a0 Z) (ws : List Jvm.Cond) (pg : Addr) (st : Addr) (pa : Addr) (np : Addr) (nb : Addr) (kq : ClassId) (kp : ClassId) (kn : ClassId) (pb : Int32) (zs : Int64) (sz : Int64) (ff : Int64) (ft : Int64) (lg : Int64) (lf : Int64) (lt : Int64) (f : Int64) (h0 : Heap) (n0 : Nat) (Z0 : n0 ≤ h0.size) (F0 : own_bO Z h0 st zs (.ref pa) (1 : Int32) pb) (Vp : Arv Z h0 pa kq (.object "com/example/portion/portion/server/OffsetSet$Page") (2 : Int32) [(.ref pg), .null] .null) (Vn : Arv Z h0 np kp (.object "com/example/portion/portion/server/OffsetSet$Page") (0 : Int32) [] .null) (Vm : Arv Z h0 nb kn .byte (0 : Int32) [] (.int 0)) (Zp : Sta Z Z.heap "com/example/portion/portion/server/OffsetSet" "NO_PAGES" "[Lcom/example/portion/portion/server/OffsetSet$Page;" (.ref np)) (Zb : Sta Z Z.heap "com/example/portion/portion/server/OffsetSet" "NO_BYTES" "[B" (.ref nb)) (O0 : Old Z n0 h0) (G0 : own_bP Z h0 pg sz ff ft (.ref nb) (0 : Int32) (0 : Int32) (-1 : Int32) lg lf lt) (g_st : n0 ≤ st) (g_pg : n0 ≤ pg) (ne_np_pa : np ≠ pa) (c0 : 0 ≤ f.toInt ∧ f.toInt < 9223372036854775807) (hff : 0 ≤ ff.toInt ∧ ft.toInt = ff.toInt + 1) (hs : sz.toInt = 1) (hzs : zs.toInt = 1) (hp : 1 ≤ pb.toInt ∧ pb.toInt ≤ 1024) (e1 : f.toInt = ff.toInt ∨ f.toInt = ff.toInt + 1 ∨ f.toInt + 1 = ff.toInt) :
    own_Met lL jy32 (Jvm.Cond.code jy32 prog_38_method_8_code 3 none :: ws) jr30 #[(.ref st), (.long f)] Z h0 (Q_rm_adA Z pg st pa np nb kq kp kn pb zs sz ff ft lg lf lt f h0 n0) := by
  refine own_begin (plainFor_of_name own_pn_com_example_portion_portion_server_OffsetSet) (fun mM => own_ef_rm_adA mM st f) fun pP eE sS mM below meth cC s₁ hx hby hml hZ hown hnm hre hlk X0 e0 => ?_
  have hC := @Jvm.hb _ _ hby
  have N0 := Fr.nil n0
  have K0 := Keep.refl h0 [st, pg]
  refine jg s₁ mM 5 #[vR st, vJ f, vS] [(.long (f + (1 : Int64))), (.long f), (.ref st)] (fun tT kK => ?_) ?_
  · refine XS.aloadN X0.here hx rfl (hC e4_0.1) rfl rfl ?_
    refine XS.lloadN X0.here hx rfl (hC e4_0.2.1) rfl ?_
    refine XS.lloadN X0.here hx rfl (hC e4_0.2.2.1) rfl ?_
    refine XS.lconst X0.here hx rfl (hC e4_0.2.2.2) ?_
    refine XS.ladd X0.here hx rfl (hC e4_4.1) rfl ?_
    exact kK
  have t1_ : (1 : Int64).toInt = 1 := rfl
  have t2_ := own_add (x := f) (y := (1 : Int64)) (by omega)
  refine jv X0 hx hZ (y := jy31) hown (jk hw 28 rfl) (jk hw 29 rfl) (jk hw 31 rfl) (jk hw 30 rfl) (jk hw 32 rfl) (jk hw 3 rfl) (rm_arA lL Z a0 hw [] pg st pa np nb kq kp kn pb zs sz ff ft lg lf lt f (f + (1 : Int64)) h0 n0 (Nat.le_trans Z0 K0.1) F0 Vp Vn Vm Zp Zb O0 G0 g_st g_pg ne_np_pa (by omega) (by omega) (by omega) (by omega) (by omega) (by omega) (by omega)) F0.E e0 own_pd6 [(.long f), (.long (f + (1 : Int64)))] [] (hC e4_4.2.1) rfl rfl (by rw [hml]; rfl) (by decide) 0 (Nat.le_of_eq rfl) (by decide) (by decide) (by decide : 0 + 2 ≤ _) (by decide : 0 + 61 ≤ _) fun vv3_ T3_ L3_ X3_ hQ3_ => ?_
  obtain ⟨zs'_3_, sz'_3_, ff'_3_, ft'_3_, lg'_3_, lf'_3_, lt'_3_, rfl, N3_q, p3__0, p3__1, p3__2, p3__3⟩ := hQ3_
  have N3_ := Fr.app N0 N3_q
  have K3_ := K0.trans p3__0 (allS (Or.inl (List.mem_of_getElem? (i := 0) rfl)) (allS (Or.inl (List.mem_of_getElem? (i := 1) rfl)) all0))
  exact own_rV X3_ hx hlk hre (hC e4_4.2.2) rfl (by decide) (by decide) ⟨zs'_3_, sz'_3_, ff'_3_, ft'_3_, lg'_3_, lf'_3_, lt'_3_, rfl, N3_, K3_, (by omega), p3__2, p3__3⟩
theorem own_ef_rm_atB (mM : MethodId) (x0 : Addr) (x1 : Int32) (x2 : Int64) (x3 : Int64) : entryFrame mM #[(.ref x0), (.int x1), (.long x2), (.long x3)] 9 = mkF mM 0 #[.val (.ref x0), .val (.int x1), .val (.long x2), .second, .val (.long x3), .second, .unset, .unset, .unset] [] := by first | (simp [entryFrame, mkF, argsToLocals, Value.category]; done) | rfl
def Q_rm_atB (Z : State) (pg : Addr) (st : Addr) (pa : Addr) (np : Addr) (nb : Addr) (kq : ClassId) (kp : ClassId) (kn : ClassId) (pb : Int32) (zs : Int64) (sz : Int64) (ff : Int64) (ft : Int64) (lg : Int64) (lf : Int64) (lt : Int64) (f : Int64) (t : Int64) (h0 : Heap) (n0 : Nat) (vV : Option Value) (hH : Heap) (lA : List Loc) : Prop := ∃ zs' : Int64, ∃ sz' : Int64, ∃ ff' : Int64, ∃ ft' : Int64, ∃ lg' : Int64, ∃ lf' : Int64, ∃ lt' : Int64, ∃ ba : Addr, ∃ kb : ClassId, ∃ z : Int32, ∃ en : Int32, ∃ vs : List Value, vV = none ∧ Fr n0 lA ∧ (Keep h0 hH [st, pg]) ∧ (h0.size ≤ ba) ∧ (sz'.toInt = 2 ∧ zs'.toInt = 2 ∧ ft'.toInt = ff'.toInt + 1 ∧ lf'.toInt = ft'.toInt + lg'.toInt ∧ 1 ≤ lg'.toInt ∧ lt'.toInt = lf'.toInt + 1 ∧ ((ff'.toInt = ff.toInt ∧ lf'.toInt = f.toInt) ∨ (ff'.toInt = f.toInt ∧ lf'.toInt = ff.toInt))) ∧ (own_E vs en.toNatClampNeg lg'.toInt) ∧ (1 ≤ en.toInt ∧ en.toInt ≤ z.toInt) ∧ (own_bO Z hH st zs' (.ref pa) (1 : Int32) pb) ∧ (own_bP Z hH pg sz' ff' ft' (.ref ba) (0 : Int32) en (0 : Int32) lg' lf' lt') ∧ (Arv Z hH ba kb .byte z vs (.int 0))
theorem rm_atB (lL : Launch) (Z : State) (a0 : Array Value) (hw : own_H a0 Z) (ws : List Jvm.Cond) (pg : Addr) (st : Addr) (pa : Addr) (np : Addr) (nb : Addr) (kq : ClassId) (kp : ClassId) (kn : ClassId) (pb : Int32) (zs : Int64) (sz : Int64) (ff : Int64) (ft : Int64) (lg : Int64) (lf : Int64) (lt : Int64) (f : Int64) (t : Int64) (h0 : Heap) (n0 : Nat) (Z0 : n0 ≤ h0.size) (F0 : own_bO Z h0 st zs (.ref pa) (1 : Int32) pb) (Vp : Arv Z h0 pa kq (.object "com/example/portion/portion/server/OffsetSet$Page") (2 : Int32) [(.ref pg), .null] .null) (Vn : Arv Z h0 np kp (.object "com/example/portion/portion/server/OffsetSet$Page") (0 : Int32) [] .null) (Vm : Arv Z h0 nb kn .byte (0 : Int32) [] (.int 0)) (Zp : Sta Z Z.heap "com/example/portion/portion/server/OffsetSet" "NO_PAGES" "[Lcom/example/portion/portion/server/OffsetSet$Page;" (.ref np)) (Zb : Sta Z Z.heap "com/example/portion/portion/server/OffsetSet" "NO_BYTES" "[B" (.ref nb)) (O0 : Old Z n0 h0) (G0 : own_bP Z h0 pg sz ff ft (.ref nb) (0 : Int32) (0 : Int32) (-1 : Int32) lg lf lt) (g_st : n0 ≤ st) (g_pg : n0 ≤ pg) (ne_np_pa : np ≠ pa) (c0 : 0 ≤ f.toInt ∧ f.toInt < 9223372036854775807) (hff : 0 ≤ ff.toInt ∧ ft.toInt = ff.toInt + 1) (hs : sz.toInt = 1) (hzs : zs.toInt = 1) (hp : 1 ≤ pb.toInt ∧ pb.toInt ≤ 1024) (c2 : t.toInt = f.toInt + 1) (e1 : ff.toInt + 1 < f.toInt) :
    own_Met lL jy29 (Jvm.Cond.code jy29 prog_38_method_20_code 9 none :: ws) jr31 #[(.ref st), (.int 0), (.long f), (.long t)] Z h0 (Q_rm_atB Z pg st pa np nb kq kp kn pb zs sz ff ft lg lf lt f t h0 n0) := by
  refine own_begin (plainFor_of_name own_pn_com_example_portion_portion_server_OffsetSet) (fun mM => own_ef_rm_atB mM st (0 : Int32) f t) fun pP eE sS mM below meth cC s₁ hx hby hml hZ hown hnm hre hlk X0 e0 => ?_
  have hC := @Jvm.hb _ _ hby
  have N0 := Fr.nil n0
  have K0 := Keep.refl h0 [st, pg]
  let ll1 : Array Slot := #[vR st, vI 0, vJ f, vS, vJ t, vS, vU, vU, vU]
  refine jg s₁ mM 9 ll1 [(.ref st)] (fun tT kK => ?_) ?_
  · refine XS.iloadN X0.here hx rfl (hC e10_0.1) rfl ?_
    refine XS.ifYes X0.here hx rfl (pc0 := 1) (pc' := 8) rfl (hC e10_0.2.1) rfl ((if0 _ _).trans (flt ((by decide) : ¬ ((0 : Int32) < (0 : Int32)))).2.1) (by decide) (by decide) ?_
    refine XS.aloadN X0.here hx rfl (hC e10_8.1) rfl rfl ?_
    exact kK
  refine jf X0 hx hZ hown (jk hw 12 rfl) e0 F0.g1 (hC e10_8.2.1) fun T1_ X1_ e1_ => ?_
  refine jg T1_ mM 13 ll1 [(.int 0), (.ref pa)] (fun tT kK => ?_) ?_
  · refine XS.iloadN X1_.here hx rfl (hC e10_8.2.2.1) rfl ?_
    exact kK
  obtain ⟨cl2_, Ar2_, qk2_, Sz2_, Nn2_, Hh2_, Gg2_⟩ := id Vp
  have hin3_ : ¬ ((0 : Int32) < 0 ∨ cl2_.slots.size ≤ ((0 : Int32)).toNatClampNeg) := inb_of Sz2_ ⟨by decide, by decide⟩
  have hat3_ : cl2_.slots[((0 : Int32)).toNatClampNeg]? = some (.ref pg) := Hh2_.at hin3_ rfl
  let ll2 : Array Slot := #[vR st, vI 0, vJ f, vS, vJ t, vS, vR pg, vU, vU]
  refine jg T1_ mM 23 ll2 [(.ref pg)] (fun tT kK => ?_) ?_
  · refine X1_.aaload hx (j := (0 : Int32)) (v := (.ref pg)) (own_rw e1_ Ar2_.1) (State.isArrayOf_alike hZ.alike Ar2_.2.1) rfl Ar2_.2.2 hin3_ hat3_ (g := (mkF mM 13 ll1 [(.int 0), (.ref pa)])) rfl rfl (hC e10_8.2.2.2) _ ?_
    refine XS.astore X1_.here hx rfl (hC e10_14.1) rfl rfl (l' := ll2) rfl ?_
    refine XS.aload X1_.here hx rfl (hC e10_14.2.1) rfl rfl ?_
    refine XS.ifnullNo X1_.here hx rfl (hC e10_14.2.2.1) rfl ?_
    refine XS.aload X1_.here hx rfl (hC e10_21.1) rfl rfl ?_
    exact kK
  refine jv X1_ hx hZ (y := jy7) hown (jk hw 152 rfl) (jk hw 153 rfl) (jk hw 155 rfl) (jk hw 154 rfl) (jk hw 156 rfl) (jk hw 56 rfl) (rm_bc lL Z a0 hw [] pg (0 : Int32) h0 n0 (Nat.le_trans Z0 K0.1) G0.g5 G0.g4) G0.E e1_ own_pd12 [] [] (hC e10_21.2.1) rfl rfl (by rw [hml]; rfl) (by decide) 0 (Nat.le_of_eq rfl) (by decide) (by decide) (by decide : 0 + 0 ≤ _) (by decide : 0 + 0 ≤ _) fun vv4_ T4_ L4_ X4_ hQ4_ => ?_
  obtain ⟨rfl, N4_q, p4__0⟩ := hQ4_
  have N4_ := Fr.app N0 N4_q
  refine jg T4_ mM 27 ll2 [(.ref st), (.int ((0 : Int32) - (0 : Int32)))] (fun tT kK => ?_) ?_
  · refine XS.aloadN X4_.here hx rfl (hC e10_21.2.2.1) rfl rfl ?_
    exact kK
  refine jf X4_ hx hZ hown (jk hw 14 rfl) p4__0 F0.g3 (hC e10_21.2.2.2) fun T5_ X5_ e5_ => ?_
  have t6_ : (0 : Int32).toInt = 0 := rfl
  have t7_ := own_sub3 (x := (0 : Int32)) (y := (0 : Int32)) (by omega)
  refine jg T5_ mM 84 ll2 [(.ref pg)] (fun tT kK => ?_) ?_
  · refine XS.icmpYes X5_.here hx rfl (pc0 := 30) (pc' := 82) rfl (hC d10_30) rfl (tlt ((own_lt3 (by omega)) : ((0 : Int32) - (0 : Int32)) < pb)).1 (by decide) (by decide) ?_
    refine XS.aload X5_.here hx rfl (hC e10_82.1) rfl rfl ?_
    exact kK
  obtain ⟨T8_, X8_, e8_, st8_⟩ := own_getRef X5_ hx hZ hown (jk hw 77 rfl) Via.refl e5_ G0.g0 (g := (mkF mM 84 ll2 [(.ref pg)])) rfl rfl (hC e10_82.2.1)
  refine own_fin st8_ ?_
  let ll3 : Array Slot := #[vR st, vI 0, vJ f, vS, vJ t, vS, vR pg, vJ sz, vS]
  refine jg T8_ mM 94 ll3 [(.long t), (.long f), (.ref pg)] (fun tT kK => ?_) ?_
  · refine XS.lstore X8_.here hx rfl (hC e10_82.2.2.1) rfl (l' := ll3) rfl ?_
    refine XS.aload X8_.here hx rfl (hC e10_82.2.2.2) rfl rfl ?_
    refine XS.lloadN X8_.here hx rfl (hC e10_91.1) rfl ?_
    refine XS.lload X8_.here hx rfl (hC e10_91.2.1) rfl ?_
    exact kK
  have t9_ := rng64 t
  have t10_ := rng64 f
  have t11_ := own_sub (x := t) (y := f) (by omega)
  refine jv X8_ hx hZ (y := jy16) hown (jk hw 79 rfl) (jk hw 80 rfl) (jk hw 82 rfl) (jk hw 81 rfl) (jk hw 83 rfl) (jk hw 56 rfl) (rm_exb lL Z a0 hw [] pg nb kn sz ff ft lg lf lt f t h0 n0 (Nat.le_trans Z0 K0.1) G0 Vm (by omega) (by omega) (by omega) (by omega) g_pg) G0.E e8_ own_pd6 [(.long f), (.long t)] [] (hC e10_91.2.2.1) rfl rfl (by rw [hml]; rfl) (by decide) 0 (Nat.le_of_eq rfl) (by decide) (by decide) (by decide : 0 + 1 ≤ _) (by decide : 0 + 28 ≤ _) fun vv12_ T12_ L12_ X12_ hQ12_ => ?_
  obtain ⟨ba_12_, kb_12_, en_12_, vs_12_, rfl, N12_q, p12__0, p12__1, p12__2, p12__3, p12__4, p12__5⟩ := hQ12_
  have N12_ := Fr.app N4_ N12_q
  have sz_ba_12_ : h0.size ≤ ba_12_ := Nat.le_trans K0.1 p12__1
  have ne13_ : st ≠ ba_12_ := Nat.ne_of_lt (Nat.lt_of_lt_of_le F0.lt p12__1)
  have ne18_ : st ≠ pg := (Exa.ne F0.E G0.E (by decide))
  have fc22_ := F0.keep p12__0 (ninS ne18_ nin0)
  have K12_ := K0.trans p12__0 (allS (Or.inl (List.mem_of_getElem? (i := 1) rfl)) all0)
  refine jg T12_ mM 99 ll3 [(.ref st), (.ref st)] (fun tT kK => ?_) ?_
  · refine XS.aloadN X12_.here hx rfl (hC e10_91.2.2.2) rfl rfl ?_
    refine XS.dup X12_.here hx rfl (hC e10_98.1) rfl rfl ?_
    exact kK
  refine jf X12_ hx hZ hown (jk hw 21 rfl) rfl fc22_.g0 (hC e10_98.2.1) fun T27_ X27_ e27_ => ?_
  refine jg T27_ mM 104 ll3 [(.ref pg), (.long zs), (.ref st)] (fun tT kK => ?_) ?_
  · refine XS.aload X27_.here hx rfl (hC e10_98.2.2.1) rfl rfl ?_
    exact kK
  obtain ⟨T28_, X28_, e28_, st28_⟩ := own_getRef X27_ hx hZ hown (jk hw 77 rfl) Via.refl e27_ p12__4.g0 (g := (mkF mM 104 ll3 [(.ref pg), (.long zs), (.ref st)])) rfl rfl (hC e10_98.2.2.2)
  refine own_fin st28_ ?_
  refine jg T28_ mM 111 ll3 [(.long (zs + ((sz + (t - f)) - sz))), (.ref st)] (fun tT kK => ?_) ?_
  · refine XS.lload X28_.here hx rfl (hC e10_107.1) rfl ?_
    refine XS.lsub X28_.here hx rfl (hC e10_107.2.1) rfl ?_
    refine XS.ladd X28_.here hx rfl (hC e10_107.2.2.1) rfl ?_
    exact kK
  refine jq X28_ hx hZ hown (jk hw 21 rfl) e28_ fc22_.g0 fc22_.E (jk hw 22 rfl) (jk hw 2 rfl) (ty := .long) (by decide) rfl rfl (hC e10_107.2.2.2) K12_ N12_ (Or.inl (List.mem_of_getElem? (i := 0) rfl)) g_st fun T29_ h29_ X29_ e29_ W29_ Fw29_ K29_ N29_ => ?_
  have fc37_ := p12__4.other W29_ (Ne.symm ne18_)
  have fc38_ := p12__5.other W29_ (Ne.symm ne13_)
  have Bw29_ := fc22_.s0 hw W29_
  have t39_ := own_add (x := sz) (y := (t - f)) (by omega)
  have t40_ := rng64 sz
  have t41_ := own_sub (x := (sz + (t - f))) (y := sz) (by omega)
  have t42_ := own_add (x := zs) (y := ((sz + (t - f)) - sz)) (by omega)
  have t43_ := rng64 ft
  have t44_ := own_sub (x := f) (y := ft) (by omega)
  have t45_ : (28 : Int32).toInt = 28 := rfl
  exact own_rV X29_ hx hlk hre (hC d10_114) e29_ (by decide) (by decide) ⟨(zs + ((sz + (t - f)) - sz)), (sz + (t - f)), ff, ft, (f - ft), f, t, ba_12_, kb_12_, (28 : Int32), en_12_, vs_12_, rfl, N29_, K29_, sz_ba_12_, (by omega), p12__2, (by omega), Bw29_, fc37_, fc38_⟩
theorem own_ef_rm_arB (mM : MethodId) (x0 : Addr) (x1 : Int64) (x2 : Int64) : entryFrame mM #[(.ref x0), (.long x1), (.long x2)] 8 = mkF mM 0 #[.val (.ref x0), .val (.long x1), .second, .val (.long x2), .second, .unset, .unset, .unset] [] := by first | (simp [entryFrame, mkF, argsToLocals, Value.category]; done) | rfl
def Q_rm_arB (Z : State) (pg : Addr) (st : Addr) (pa : Addr) (np : Addr) (nb : Addr) (kq : ClassId) (kp : ClassId) (kn : ClassId) (pb : Int32) (zs : Int64) (sz : Int64) (ff : Int64) (ft : Int64) (lg : Int64) (lf : Int64) (lt : Int64) (f : Int64) (t : Int64) (h0 : Heap) (n0 : Nat) (vV : Option Value) (hH : Heap) (lA : List Loc) : Prop := ∃ zs' : Int64, ∃ sz' : Int64, ∃ ff' : Int64, ∃ ft' : Int64, ∃ lg' : Int64, ∃ lf' : Int64, ∃ lt' : Int64, ∃ ba : Addr, ∃ kb : ClassId, ∃ z : Int32, ∃ en : Int32, ∃ vs : List Value, vV = none ∧ Fr n0 lA ∧ (Keep h0 hH [st, pg]) ∧ (h0.size ≤ ba) ∧ (sz'.toInt = 2 ∧ zs'.toInt = 2 ∧ ft'.toInt = ff'.toInt + 1 ∧ lf'.toInt = ft'.toInt + lg'.toInt ∧ 1 ≤ lg'.toInt ∧ lt'.toInt = lf'.toInt + 1 ∧ ((ff'.toInt = ff.toInt ∧ lf'.toInt = f.toInt) ∨ (ff'.toInt = f.toInt ∧ lf'.toInt = ff.toInt))) ∧ (own_E vs en.toNatClampNeg lg'.toInt) ∧ (1 ≤ en.toInt ∧ en.toInt ≤ z.toInt) ∧ (own_bO Z hH st zs' (.ref pa) (1 : Int32) pb) ∧ (own_bP Z hH pg sz' ff' ft' (.ref ba) (0 : Int32) en (0 : Int32) lg' lf' lt') ∧ (Arv Z hH ba kb .byte z vs (.int 0))
theorem rm_arB (lL : Launch) (Z : State) (a0 : Array Value) (hw : own_H a0 Z) (ws : List Jvm.Cond) (pg : Addr) (st : Addr) (pa : Addr) (np : Addr) (nb : Addr) (kq : ClassId) (kp : ClassId) (kn : ClassId) (pb : Int32) (zs : Int64) (sz : Int64) (ff : Int64) (ft : Int64) (lg : Int64) (lf : Int64) (lt : Int64) (f : Int64) (t : Int64) (h0 : Heap) (n0 : Nat) (Z0 : n0 ≤ h0.size) (F0 : own_bO Z h0 st zs (.ref pa) (1 : Int32) pb) (Vp : Arv Z h0 pa kq (.object "com/example/portion/portion/server/OffsetSet$Page") (2 : Int32) [(.ref pg), .null] .null) (Vn : Arv Z h0 np kp (.object "com/example/portion/portion/server/OffsetSet$Page") (0 : Int32) [] .null) (Vm : Arv Z h0 nb kn .byte (0 : Int32) [] (.int 0)) (Zp : Sta Z Z.heap "com/example/portion/portion/server/OffsetSet" "NO_PAGES" "[Lcom/example/portion/portion/server/OffsetSet$Page;" (.ref np)) (Zb : Sta Z Z.heap "com/example/portion/portion/server/OffsetSet" "NO_BYTES" "[B" (.ref nb)) (O0 : Old Z n0 h0) (G0 : own_bP Z h0 pg sz ff ft (.ref nb) (0 : Int32) (0 : Int32) (-1 : Int32) lg lf lt) (g_st : n0 ≤ st) (g_pg : n0 ≤ pg) (ne_np_pa : np ≠ pa) (c0 : 0 ≤ f.toInt ∧ f.toInt < 9223372036854775807) (hff : 0 ≤ ff.toInt ∧ ft.toInt = ff.toInt + 1) (hs : sz.toInt = 1) (hzs : zs.toInt = 1) (hp : 1 ≤ pb.toInt ∧ pb.toInt ≤ 1024) (c2 : t.toInt = f.toInt + 1) (e1 : ff.toInt + 1 < f.toInt ∨ f.toInt + 1 < ff.toInt) :
    own_Met lL jy31 (Jvm.Cond.code jy31 prog_38_method_9_code 8 none :: ws) jr32 #[(.ref st), (.long f), (.long t)] Z h0 (Q_rm_arB Z pg st pa np nb kq kp kn pb zs sz ff ft lg lf lt f t h0 n0) := by
  refine own_begin (plainFor_of_name own_pn_com_example_portion_portion_server_OffsetSet) (fun mM => own_ef_rm_arB mM st f t) fun pP eE sS mM below meth cC s₁ hx hby hml hZ hown hnm hre hlk X0 e0 => ?_
  have hC := @Jvm.hb _ _ hby
  have N0 := Fr.nil n0
  have K0 := Keep.refl h0 [st, pg]
  let ll1 : Array Slot := #[vR st, vJ f, vS, vJ t, vS, vU, vU, vU]
  refine jg s₁ mM 2 ll1 [(.long t), (.long f)] (fun tT kK => ?_) ?_
  · refine XS.lloadN X0.here hx rfl (hC e5_0.1) rfl ?_
    refine XS.lloadN X0.here hx rfl (hC e5_0.2.1) rfl ?_
    exact kK
  refine jc X0 hx hZ (y := jy0) hown (jk hw 33 rfl) (jk hw 34 rfl) (jk hw 3 rfl) (jk hw 35 rfl) (rm_req lL Z a0 hw [] f t h0 n0 (Nat.le_trans Z0 K0.1) (by omega) (by omega)) e0 own_pd6 [(.long f), (.long t)] [] (hC e5_0.2.2.1) rfl rfl (by rw [hml]; rfl) (by decide) 0 (Nat.le_of_eq rfl) (by decide) (by decide) (by decide : 0 + 0 ≤ _) (by decide : 0 + 0 ≤ _) fun vv1_ T1_ L1_ X1_ hQ1_ => ?_
  obtain ⟨rfl, N1_q, p1__0⟩ := hQ1_
  have N1_ := Fr.app N0 N1_q
  refine jg T1_ mM 8 ll1 [(.long f), (.ref st), (.int 0)] (fun tT kK => ?_) ?_
  · refine XS.iconst X1_.here hx rfl (hC e5_0.2.2.2) ?_
    refine XS.aloadN X1_.here hx rfl (hC e5_6.1) rfl rfl ?_
    refine XS.lloadN X1_.here hx rfl (hC e5_6.2.1) rfl ?_
    exact kK
  by_cases hc2_ : f < ff
  · have t3_ := own_tlt hc2_
    refine jw X1_ hx hZ (y := jy4) hown (jk hw 36 rfl) (jk hw 37 rfl) (own_selP (y := jy4) hZ (jk hw 2 rfl) (jk hw 38 rfl) (jk hw 37 rfl) (by decide)) (jk hw 38 rfl) (jk hw 39 rfl) (jk hw 3 rfl) (rm_pan lL Z a0 hw [] st pa pg kq f ff h0 n0 (Nat.le_trans Z0 K0.1) F0.g2 F0.g1 Vp G0.g1 (by omega)) F0.E p1__0 own_pd14 [(.long f)] [(.int 0)] (hC e5_6.2.2) rfl rfl (by rw [hml]; rfl) (by decide) 1 (Nat.le_of_eq rfl) (by decide) (by decide) (by decide : 0 + 0 ≤ _) (by decide : 0 + 0 ≤ _) fun vv4_ T4_ L4_ X4_ hQ4_ => ?_
    obtain ⟨rfl, N4_q, p4__0⟩ := hQ4_
    have N4_ := Fr.app N1_ N4_q
    refine jc X4_ hx hZ (y := jy1) hown (jk hw 42 rfl) (jk hw 43 rfl) (jk hw 44 rfl) (jk hw 45 rfl) (rm_mxa lL Z a0 hw []  h0 n0 (Nat.le_trans Z0 K0.1) ) p4__0 own_pd1 [(.int 0), (.int (-1))] [] (hC e5_11.1) rfl rfl (by rw [hml]; rfl) (by decide) 0 (Nat.le_of_eq rfl) (by decide) (by decide) (by decide : 0 + 0 ≤ _) (by decide : 0 + 0 ≤ _) fun vv5_ T5_ L5_ X5_ hQ5_ => ?_
    obtain ⟨rfl, N5_q, p5__0⟩ := hQ5_
    have N5_ := Fr.app N4_ N5_q
    let ll2 : Array Slot := #[vR st, vJ f, vS, vJ t, vS, vI 0, vU, vU]
    refine jg T5_ mM 19 ll2 [(.long t), (.ref st), (.int 0)] (fun tT kK => ?_) ?_
    · refine XS.istore X5_.here hx rfl (hC e5_11.2.1) rfl (l' := ll2) rfl ?_
      refine XS.iconst X5_.here hx rfl (hC e5_11.2.2.1) ?_
      refine XS.aloadN X5_.here hx rfl (hC e5_11.2.2.2) rfl rfl ?_
      refine XS.lloadN X5_.here hx rfl (hC e5_18.1) rfl ?_
      exact kK
    refine jw X5_ hx hZ (y := jy4) hown (jk hw 36 rfl) (jk hw 37 rfl) (own_selP (y := jy4) hZ (jk hw 2 rfl) (jk hw 38 rfl) (jk hw 37 rfl) (by decide)) (jk hw 38 rfl) (jk hw 39 rfl) (jk hw 3 rfl) (rm_pan lL Z a0 hw [] st pa pg kq t ff h0 n0 (Nat.le_trans Z0 K0.1) F0.g2 F0.g1 Vp G0.g1 (by omega)) F0.E p5__0 own_pd14 [(.long t)] [(.int 0)] (hC e5_18.2.1) rfl rfl (by rw [hml]; rfl) (by decide) 1 (Nat.le_of_eq rfl) (by decide) (by decide) (by decide : 0 + 0 ≤ _) (by decide : 0 + 0 ≤ _) fun vv6_ T6_ L6_ X6_ hQ6_ => ?_
    obtain ⟨rfl, N6_q, p6__0⟩ := hQ6_
    have N6_ := Fr.app N5_ N6_q
    refine jc X6_ hx hZ (y := jy1) hown (jk hw 42 rfl) (jk hw 43 rfl) (jk hw 44 rfl) (jk hw 45 rfl) (rm_mxa lL Z a0 hw []  h0 n0 (Nat.le_trans Z0 K0.1) ) p6__0 own_pd1 [(.int 0), (.int (-1))] [] (hC e5_18.2.2.1) rfl rfl (by rw [hml]; rfl) (by decide) 0 (Nat.le_of_eq rfl) (by decide) (by decide) (by decide : 0 + 0 ≤ _) (by decide : 0 + 0 ≤ _) fun vv7_ T7_ L7_ X7_ hQ7_ => ?_
    obtain ⟨rfl, N7_q, p7__0⟩ := hQ7_
    have N7_ := Fr.app N6_ N7_q
    let ll3 : Array Slot := #[vR st, vJ f, vS, vJ t, vS, vI 0, vI 0, vU]
    refine jg T7_ mM 28 ll3 [(.ref st)] (fun tT kK => ?_) ?_
    · refine XS.istore X7_.here hx rfl (hC e5_18.2.2.2) rfl (l' := ll3) rfl ?_
      refine XS.aloadN X7_.here hx rfl (hC e5_27.1) rfl rfl ?_
      exact kK
    refine jf X7_ hx hZ hown (jk hw 21 rfl) p7__0 F0.g0 (hC e5_27.2.1) fun T8_ X8_ e8_ => ?_
    refine jg T8_ mM 33 ll3 [(.int (lcmpW zs (0 : Int64)))] (fun tT kK => ?_) ?_
    · refine XS.lconst X8_.here hx rfl (hC e5_27.2.2.1) ?_
      refine XS.lcmp X8_.here hx rfl (hC e5_27.2.2.2) rfl ?_
      exact kK
    have t9_ : (0 : Int64).toInt = 0 := rfl
    refine jg T8_ mM 54 ll3 [(.ref st), (.long f)] (fun tT kK => ?_) ?_
    · refine XS.ifYes X8_.here hx rfl (pc0 := 33) (pc' := 45) rfl (hC e5_33.1) rfl ((if0 _ _).trans (feq (mt (lw_eq zs (0 : Int64)).mp ((own_nev (by omega)) : ¬ (zs = (0 : Int64))))).2) (by decide) (by decide) ?_
      refine XS.iload X8_.here hx rfl (hC e5_45.1) rfl ?_
      refine XS.iload X8_.here hx rfl (hC e5_45.2.1) rfl ?_
      refine XS.icmpNo X8_.here hx rfl (hC e5_45.2.2.1) rfl (teq ((by decide) : (0 : Int32) = (0 : Int32))).2 ?_
      refine XS.lloadN X8_.here hx rfl (hC e5_45.2.2.2) rfl ?_
      refine XS.aloadN X8_.here hx rfl (hC e5_53.1) rfl rfl ?_
      exact kK
    refine jf X8_ hx hZ hown (jk hw 12 rfl) e8_ F0.g1 (hC e5_53.2.1) fun T10_ X10_ e10_ => ?_
    refine jg T10_ mM 59 ll3 [(.int 0), (.ref pa), (.long f)] (fun tT kK => ?_) ?_
    · refine XS.iload X10_.here hx rfl (hC e5_53.2.2.1) rfl ?_
      exact kK
    obtain ⟨cl11_, Ar11_, qk11_, Sz11_, Nn11_, Hh11_, Gg11_⟩ := id Vp
    have hin12_ : ¬ ((0 : Int32) < 0 ∨ cl11_.slots.size ≤ ((0 : Int32)).toNatClampNeg) := inb_of Sz11_ ⟨by decide, by decide⟩
    have hat12_ : cl11_.slots[((0 : Int32)).toNatClampNeg]? = some (.ref pg) := Hh11_.at hin12_ rfl
    refine jg T10_ mM 60 ll3 [(.ref pg), (.long f)] (fun tT kK => ?_) ?_
    · refine X10_.aaload hx (j := (0 : Int32)) (v := (.ref pg)) (own_rw e10_ Ar11_.1) (State.isArrayOf_alike hZ.alike Ar11_.2.1) rfl Ar11_.2.2 hin12_ hat12_ (g := (mkF mM 59 ll3 [(.int 0), (.ref pa), (.long f)])) rfl rfl (hC e5_53.2.2.2) _ ?_
      exact kK
    refine jv X10_ hx hZ (y := jy6) hown (jk hw 147 rfl) (jk hw 148 rfl) (jk hw 150 rfl) (jk hw 149 rfl) (jk hw 151 rfl) (jk hw 56 rfl) (rm_lfa lL Z a0 hw [] pg ff h0 n0 (Nat.le_trans Z0 K0.1) G0.g6 G0.g1) G0.E e10_ own_pd4 [] [(.long f)] (hC e5_60.1) rfl rfl (by rw [hml]; rfl) (by decide) 2 (Nat.le_of_eq rfl) (by decide) (by decide) (by decide : 0 + 0 ≤ _) (by decide : 0 + 0 ≤ _) fun vv13_ T13_ L13_ X13_ hQ13_ => ?_
    obtain ⟨rfl, N13_q, p13__0⟩ := hQ13_
    have N13_ := Fr.app N7_ N13_q
    refine jg T13_ mM 91 ll3 [(.int 1), (.long t), (.long f), (.int 0), (.ref st)] (fun tT kK => ?_) ?_
    · refine XS.lcmp X13_.here hx rfl (hC e5_60.2.1) rfl ?_
      refine XS.ifYes X13_.here hx rfl (pc0 := 64) (pc' := 78) rfl (hC e5_60.2.2.1) rfl ((if0 _ _).trans (tlt ((lw_lt f ff).mpr (hc2_ : f < ff))).1) (by decide) (by decide) ?_
      refine XS.iload X13_.here hx rfl (hC e5_60.2.2.2) rfl ?_
      refine XS.iload X13_.here hx rfl (hC e5_80.1) rfl ?_
      refine XS.icmpNo X13_.here hx rfl (hC e5_80.2.1) rfl (teq ((by decide) : (0 : Int32) = (0 : Int32))).2 ?_
      refine XS.aloadN X13_.here hx rfl (hC e5_80.2.2.1) rfl rfl ?_
      refine XS.iload X13_.here hx rfl (hC e5_80.2.2.2) rfl ?_
      refine XS.lloadN X13_.here hx rfl (hC e5_88.1) rfl ?_
      refine XS.lloadN X13_.here hx rfl (hC e5_88.2.1) rfl ?_
      refine XS.iconst X13_.here hx rfl (hC e5_88.2.2.1) ?_
      exact kK
    refine jw X13_ hx hZ (y := jy28) hown (jk hw 201 rfl) (jk hw 202 rfl) (own_selP (y := jy28) hZ (jk hw 2 rfl) (jk hw 203 rfl) (jk hw 202 rfl) (by decide)) (jk hw 203 rfl) (jk hw 204 rfl) (jk hw 3 rfl) (rm_E2 lL Z a0 hw [] pg st pa np nb kq kp kn pb zs sz ff ft lg lf lt f t h0 n0 (Nat.le_trans Z0 K0.1) F0 Vp Vn Vm Zp Zb O0 G0 g_st g_pg ne_np_pa (by omega) (by omega) (by omega) (by omega) (by omega) (by omega) (by omega) (by omega)) F0.E p13__0 own_pd15 [(.int 0), (.long f), (.long t), (.int 1)] [] (hC e5_88.2.2.2) rfl rfl (by rw [hml]; rfl) (by decide) 0 (Nat.le_of_eq rfl) (by decide) (by decide) (by decide : 0 + 3 ≤ _) (by decide : 0 + 80 ≤ _) fun vv14_ T14_ L14_ X14_ hQ14_ => ?_
    obtain ⟨ba_14_, kb_14_, en_14_, z_14_, vs_14_, rfl, N14_q, p14__0, p14__1, p14__2, p14__3, p14__4, p14__5, p14__6⟩ := hQ14_
    have N14_ := Fr.app N13_ N14_q
    have sz_ba_14_ : h0.size ≤ ba_14_ := Nat.le_trans K0.1 p14__1
    have K14_ := K0.trans p14__0 (allS (Or.inl (List.mem_of_getElem? (i := 0) rfl)) (allS (Or.inl (List.mem_of_getElem? (i := 1) rfl)) all0))
    refine jg T14_ mM 123 ll3 [] (fun tT kK => ?_) ?_
    · refine XS.goto X14_.here hx rfl (pc0 := 94) (pc' := 123) rfl (hC e5_94.1) (by decide) (by decide) ?_
      exact kK
    have t31_ := rng64 t
    have t32_ := rng64 f
    have t33_ := own_sub (x := t) (y := f) (by omega)
    have t34_ := rng64 ft
    have t35_ := rng64 ff
    have t36_ := own_sub (x := ft) (y := ff) (by omega)
    have t37_ := own_add (x := (t - f)) (y := (ft - ff)) (by omega)
    have t38_ := rng64 sz
    have t39_ := own_sub (x := ((t - f) + (ft - ff))) (y := sz) (by omega)
    have t40_ := own_add (x := zs) (y := (((t - f) + (ft - ff)) - sz)) (by omega)
    have t41_ := own_sub (x := ff) (y := t) (by omega)
    exact own_rV X14_ hx hlk hre (hC e5_39.2.2) rfl (by decide) (by decide) ⟨(zs + (((t - f) + (ft - ff)) - sz)), ((t - f) + (ft - ff)), f, t, (ff - t), ff, ft, ba_14_, kb_14_, z_14_, en_14_, vs_14_, rfl, N14_, K14_, sz_ba_14_, (by omega), p14__2, (by omega), p14__6, p14__4, p14__5⟩
  · have t42_ := own_tnl hc2_
    refine jw X1_ hx hZ (y := jy4) hown (jk hw 36 rfl) (jk hw 37 rfl) (own_selP (y := jy4) hZ (jk hw 2 rfl) (jk hw 38 rfl) (jk hw 37 rfl) (by decide)) (jk hw 38 rfl) (jk hw 39 rfl) (jk hw 3 rfl) (rm_pay lL Z a0 hw [] st pa pg kq f ff h0 n0 (Nat.le_trans Z0 K0.1) F0.g2 F0.g1 Vp G0.g1 (by omega)) F0.E p1__0 own_pd14 [(.long f)] [(.int 0)] (hC e5_6.2.2) rfl rfl (by rw [hml]; rfl) (by decide) 1 (Nat.le_of_eq rfl) (by decide) (by decide) (by decide : 0 + 0 ≤ _) (by decide : 0 + 0 ≤ _) fun vv43_ T43_ L43_ X43_ hQ43_ => ?_
    obtain ⟨rfl, N43_q, p43__0⟩ := hQ43_
    have N43_ := Fr.app N1_ N43_q
    refine jc X43_ hx hZ (y := jy1) hown (jk hw 42 rfl) (jk hw 43 rfl) (jk hw 44 rfl) (jk hw 45 rfl) (rm_mxb lL Z a0 hw []  h0 n0 (Nat.le_trans Z0 K0.1) ) p43__0 own_pd1 [(.int 0), (.int 0)] [] (hC e5_11.1) rfl rfl (by rw [hml]; rfl) (by decide) 0 (Nat.le_of_eq rfl) (by decide) (by decide) (by decide : 0 + 0 ≤ _) (by decide : 0 + 0 ≤ _) fun vv44_ T44_ L44_ X44_ hQ44_ => ?_
    obtain ⟨rfl, N44_q, p44__0⟩ := hQ44_
    have N44_ := Fr.app N43_ N44_q
    let ll4 : Array Slot := #[vR st, vJ f, vS, vJ t, vS, vI 0, vU, vU]
    refine jg T44_ mM 19 ll4 [(.long t), (.ref st), (.int 0)] (fun tT kK => ?_) ?_
    · refine XS.istore X44_.here hx rfl (hC e5_11.2.1) rfl (l' := ll4) rfl ?_
      refine XS.iconst X44_.here hx rfl (hC e5_11.2.2.1) ?_
      refine XS.aloadN X44_.here hx rfl (hC e5_11.2.2.2) rfl rfl ?_
      refine XS.lloadN X44_.here hx rfl (hC e5_18.1) rfl ?_
      exact kK
    refine jw X44_ hx hZ (y := jy4) hown (jk hw 36 rfl) (jk hw 37 rfl) (own_selP (y := jy4) hZ (jk hw 2 rfl) (jk hw 38 rfl) (jk hw 37 rfl) (by decide)) (jk hw 38 rfl) (jk hw 39 rfl) (jk hw 3 rfl) (rm_pay lL Z a0 hw [] st pa pg kq t ff h0 n0 (Nat.le_trans Z0 K0.1) F0.g2 F0.g1 Vp G0.g1 (by omega)) F0.E p44__0 own_pd14 [(.long t)] [(.int 0)] (hC e5_18.2.1) rfl rfl (by rw [hml]; rfl) (by decide) 1 (Nat.le_of_eq rfl) (by decide) (by decide) (by decide : 0 + 0 ≤ _) (by decide : 0 + 0 ≤ _) fun vv45_ T45_ L45_ X45_ hQ45_ => ?_
    obtain ⟨rfl, N45_q, p45__0⟩ := hQ45_
    have N45_ := Fr.app N44_ N45_q
    refine jc X45_ hx hZ (y := jy1) hown (jk hw 42 rfl) (jk hw 43 rfl) (jk hw 44 rfl) (jk hw 45 rfl) (rm_mxb lL Z a0 hw []  h0 n0 (Nat.le_trans Z0 K0.1) ) p45__0 own_pd1 [(.int 0), (.int 0)] [] (hC e5_18.2.2.1) rfl rfl (by rw [hml]; rfl) (by decide) 0 (Nat.le_of_eq rfl) (by decide) (by decide) (by decide : 0 + 0 ≤ _) (by decide : 0 + 0 ≤ _) fun vv46_ T46_ L46_ X46_ hQ46_ => ?_
    obtain ⟨rfl, N46_q, p46__0⟩ := hQ46_
    have N46_ := Fr.app N45_ N46_q
    let ll5 : Array Slot := #[vR st, vJ f, vS, vJ t, vS, vI 0, vI 0, vU]
    refine jg T46_ mM 28 ll5 [(.ref st)] (fun tT kK => ?_) ?_
    · refine XS.istore X46_.here hx rfl (hC e5_18.2.2.2) rfl (l' := ll5) rfl ?_
      refine XS.aloadN X46_.here hx rfl (hC e5_27.1) rfl rfl ?_
      exact kK
    refine jf X46_ hx hZ hown (jk hw 21 rfl) p46__0 F0.g0 (hC e5_27.2.1) fun T47_ X47_ e47_ => ?_
    refine jg T47_ mM 33 ll5 [(.int (lcmpW zs (0 : Int64)))] (fun tT kK => ?_) ?_
    · refine XS.lconst X47_.here hx rfl (hC e5_27.2.2.1) ?_
      refine XS.lcmp X47_.here hx rfl (hC e5_27.2.2.2) rfl ?_
      exact kK
    have t48_ : (0 : Int64).toInt = 0 := rfl
    refine jg T47_ mM 54 ll5 [(.ref st), (.long f)] (fun tT kK => ?_) ?_
    · refine XS.ifYes X47_.here hx rfl (pc0 := 33) (pc' := 45) rfl (hC e5_33.1) rfl ((if0 _ _).trans (feq (mt (lw_eq zs (0 : Int64)).mp ((own_nev (by omega)) : ¬ (zs = (0 : Int64))))).2) (by decide) (by decide) ?_
      refine XS.iload X47_.here hx rfl (hC e5_45.1) rfl ?_
      refine XS.iload X47_.here hx rfl (hC e5_45.2.1) rfl ?_
      refine XS.icmpNo X47_.here hx rfl (hC e5_45.2.2.1) rfl (teq ((by decide) : (0 : Int32) = (0 : Int32))).2 ?_
      refine XS.lloadN X47_.here hx rfl (hC e5_45.2.2.2) rfl ?_
      refine XS.aloadN X47_.here hx rfl (hC e5_53.1) rfl rfl ?_
      exact kK
    refine jf X47_ hx hZ hown (jk hw 12 rfl) e47_ F0.g1 (hC e5_53.2.1) fun T49_ X49_ e49_ => ?_
    refine jg T49_ mM 59 ll5 [(.int 0), (.ref pa), (.long f)] (fun tT kK => ?_) ?_
    · refine XS.iload X49_.here hx rfl (hC e5_53.2.2.1) rfl ?_
      exact kK
    obtain ⟨cl50_, Ar50_, qk50_, Sz50_, Nn50_, Hh50_, Gg50_⟩ := id Vp
    have hin51_ : ¬ ((0 : Int32) < 0 ∨ cl50_.slots.size ≤ ((0 : Int32)).toNatClampNeg) := inb_of Sz50_ ⟨by decide, by decide⟩
    have hat51_ : cl50_.slots[((0 : Int32)).toNatClampNeg]? = some (.ref pg) := Hh50_.at hin51_ rfl
    refine jg T49_ mM 60 ll5 [(.ref pg), (.long f)] (fun tT kK => ?_) ?_
    · refine X49_.aaload hx (j := (0 : Int32)) (v := (.ref pg)) (own_rw e49_ Ar50_.1) (State.isArrayOf_alike hZ.alike Ar50_.2.1) rfl Ar50_.2.2 hin51_ hat51_ (g := (mkF mM 59 ll5 [(.int 0), (.ref pa), (.long f)])) rfl rfl (hC e5_53.2.2.2) _ ?_
      exact kK
    refine jv X49_ hx hZ (y := jy6) hown (jk hw 147 rfl) (jk hw 148 rfl) (jk hw 150 rfl) (jk hw 149 rfl) (jk hw 151 rfl) (jk hw 56 rfl) (rm_lfa lL Z a0 hw [] pg ff h0 n0 (Nat.le_trans Z0 K0.1) G0.g6 G0.g1) G0.E e49_ own_pd4 [] [(.long f)] (hC e5_60.1) rfl rfl (by rw [hml]; rfl) (by decide) 2 (Nat.le_of_eq rfl) (by decide) (by decide) (by decide : 0 + 0 ≤ _) (by decide : 0 + 0 ≤ _) fun vv52_ T52_ L52_ X52_ hQ52_ => ?_
    obtain ⟨rfl, N52_q, p52__0⟩ := hQ52_
    have N52_ := Fr.app N46_ N52_q
    refine jg T52_ mM 72 ll5 [(.long t), (.long f), (.int 0), (.ref st)] (fun tT kK => ?_) ?_
    · refine XS.lcmp X52_.here hx rfl (hC e5_60.2.1) rfl ?_
      refine XS.ifNo X52_.here hx rfl (hC e5_60.2.2.1) rfl ((if0 _ _).trans (flt (mt (lw_lt f ff).mp (hc2_ : ¬ (f < ff)))).1) ?_
      refine XS.aloadN X52_.here hx rfl (hC e5_94.2.1) rfl rfl ?_
      refine XS.iload X52_.here hx rfl (hC e5_94.2.2.1) rfl ?_
      refine XS.lloadN X52_.here hx rfl (hC e5_94.2.2.2) rfl ?_
      refine XS.lloadN X52_.here hx rfl (hC e5_71.1) rfl ?_
      exact kK
    refine jw X52_ hx hZ (y := jy29) hown (jk hw 50 rfl) (jk hw 51 rfl) (own_selP (y := jy29) hZ (jk hw 2 rfl) (jk hw 52 rfl) (jk hw 51 rfl) (by decide)) (jk hw 52 rfl) (jk hw 53 rfl) (jk hw 3 rfl) (rm_atB lL Z a0 hw [] pg st pa np nb kq kp kn pb zs sz ff ft lg lf lt f t h0 n0 (Nat.le_trans Z0 K0.1) F0 Vp Vn Vm Zp Zb O0 G0 g_st g_pg ne_np_pa (by omega) (by omega) (by omega) (by omega) (by omega) (by omega) (by omega)) F0.E p52__0 own_pd13 [(.int 0), (.long f), (.long t)] [] (hC e5_71.2.1) rfl rfl (by rw [hml]; rfl) (by decide) 0 (Nat.le_of_eq rfl) (by decide) (by decide) (by decide : 0 + 1 ≤ _) (by decide : 0 + 28 ≤ _) fun vv53_ T53_ L53_ X53_ hQ53_ => ?_
    obtain ⟨zs'_53_, sz'_53_, ff'_53_, ft'_53_, lg'_53_, lf'_53_, lt'_53_, ba_53_, kb_53_, z_53_, en_53_, vs_53_, rfl, N53_q, p53__0, p53__1, p53__2, p53__3, p53__4, p53__5, p53__6, p53__7⟩ := hQ53_
    have N53_ := Fr.app N52_ N53_q
    have sz_ba_53_ : h0.size ≤ ba_53_ := Nat.le_trans K0.1 p53__1
    have K53_ := K0.trans p53__0 (allS (Or.inl (List.mem_of_getElem? (i := 0) rfl)) (allS (Or.inl (List.mem_of_getElem? (i := 1) rfl)) all0))
    refine jg T53_ mM 123 ll5 [] (fun tT kK => ?_) ?_
    · refine XS.goto X53_.here hx rfl (pc0 := 75) (pc' := 123) rfl (hC e5_71.2.2) (by decide) (by decide) ?_
      exact kK
    exact own_rV X53_ hx hlk hre (hC e5_39.2.2) rfl (by decide) (by decide) ⟨zs'_53_, sz'_53_, ff'_53_, ft'_53_, lg'_53_, lf'_53_, lt'_53_, ba_53_, kb_53_, z_53_, en_53_, vs_53_, rfl, N53_, K53_, sz_ba_53_, (by omega), p53__3, (by omega), p53__5, p53__6, p53__7⟩
theorem own_ef_rm_adB (mM : MethodId) (x0 : Addr) (x1 : Int64) : entryFrame mM #[(.ref x0), (.long x1)] 3 = mkF mM 0 #[.val (.ref x0), .val (.long x1), .second] [] := by first | (simp [entryFrame, mkF, argsToLocals, Value.category]; done) | rfl
def Q_rm_adB (Z : State) (pg : Addr) (st : Addr) (pa : Addr) (np : Addr) (nb : Addr) (kq : ClassId) (kp : ClassId) (kn : ClassId) (pb : Int32) (zs : Int64) (sz : Int64) (ff : Int64) (ft : Int64) (lg : Int64) (lf : Int64) (lt : Int64) (f : Int64) (h0 : Heap) (n0 : Nat) (vV : Option Value) (hH : Heap) (lA : List Loc) : Prop := ∃ zs' : Int64, ∃ sz' : Int64, ∃ ff' : Int64, ∃ ft' : Int64, ∃ lg' : Int64, ∃ lf' : Int64, ∃ lt' : Int64, ∃ ba : Addr, ∃ kb : ClassId, ∃ z : Int32, ∃ en : Int32, ∃ vs : List Value, vV = none ∧ Fr n0 lA ∧ (Keep h0 hH [st, pg]) ∧ (h0.size ≤ ba) ∧ (sz'.toInt = 2 ∧ zs'.toInt = 2 ∧ ft'.toInt = ff'.toInt + 1 ∧ lf'.toInt = ft'.toInt + lg'.toInt ∧ 1 ≤ lg'.toInt ∧ lt'.toInt = lf'.toInt + 1 ∧ ((ff'.toInt = ff.toInt ∧ lf'.toInt = f.toInt) ∨ (ff'.toInt = f.toInt ∧ lf'.toInt = ff.toInt))) ∧ (own_E vs en.toNatClampNeg lg'.toInt) ∧ (1 ≤ en.toInt ∧ en.toInt ≤ z.toInt) ∧ (own_bO Z hH st zs' (.ref pa) (1 : Int32) pb) ∧ (own_bP Z hH pg sz' ff' ft' (.ref ba) (0 : Int32) en (0 : Int32) lg' lf' lt') ∧ (Arv Z hH ba kb .byte z vs (.int 0))
theorem rm_adB (lL : Launch) (Z : State) (a0 : Array Value) (hw : own_H a0 Z) (ws : List Jvm.Cond) (pg : Addr) (st : Addr) (pa : Addr) (np : Addr) (nb : Addr) (kq : ClassId) (kp : ClassId) (kn : ClassId) (pb : Int32) (zs : Int64) (sz : Int64) (ff : Int64) (ft : Int64) (lg : Int64) (lf : Int64) (lt : Int64) (f : Int64) (h0 : Heap) (n0 : Nat) (Z0 : n0 ≤ h0.size) (F0 : own_bO Z h0 st zs (.ref pa) (1 : Int32) pb) (Vp : Arv Z h0 pa kq (.object "com/example/portion/portion/server/OffsetSet$Page") (2 : Int32) [(.ref pg), .null] .null) (Vn : Arv Z h0 np kp (.object "com/example/portion/portion/server/OffsetSet$Page") (0 : Int32) [] .null) (Vm : Arv Z h0 nb kn .byte (0 : Int32) [] (.int 0)) (Zp : Sta Z Z.heap "com/example/portion/portion/server/OffsetSet" "NO_PAGES" "[Lcom/example/portion/portion/server/OffsetSet$Page;" (.ref np)) (Zb : Sta Z Z.heap "com/example/portion/portion/server/OffsetSet" "NO_BYTES" "[B" (.ref nb)) (O0 : Old Z n0 h0) (G0 : own_bP Z h0 pg sz ff ft (.ref nb) (0 : Int32) (0 : Int32) (-1 : Int32) lg lf lt) (g_st : n0 ≤ st) (g_pg : n0 ≤ pg) (ne_np_pa : np ≠ pa) (c0 : 0 ≤ f.toInt ∧ f.toInt < 9223372036854775807) (hff : 0 ≤ ff.toInt ∧ ft.toInt = ff.toInt + 1) (hs : sz.toInt = 1) (hzs : zs.toInt = 1) (hp : 1 ≤ pb.toInt ∧ pb.toInt ≤ 1024) (e1 : ff.toInt + 1 < f.toInt ∨ f.toInt + 1 < ff.toInt) :
    own_Met lL jy32 (Jvm.Cond.code jy32 prog_38_method_8_code 3 none :: ws) jr33 #[(.ref st), (.long f)] Z h0 (Q_rm_adB Z pg st pa np nb kq kp kn pb zs sz ff ft lg lf lt f h0 n0) := by
  refine own_begin (plainFor_of_name own_pn_com_example_portion_portion_server_OffsetSet) (fun mM => own_ef_rm_adB mM st f) fun pP eE sS mM below meth cC s₁ hx hby hml hZ hown hnm hre hlk X0 e0 => ?_
  have hC := @Jvm.hb _ _ hby
  have N0 := Fr.nil n0
  have K0 := Keep.refl h0 [st, pg]
  refine jg s₁ mM 5 #[vR st, vJ f, vS] [(.long (f + (1 : Int64))), (.long f), (.ref st)] (fun tT kK => ?_) ?_
  · refine XS.aloadN X0.here hx rfl (hC e4_0.1) rfl rfl ?_
    refine XS.lloadN X0.here hx rfl (hC e4_0.2.1) rfl ?_
    refine XS.lloadN X0.here hx rfl (hC e4_0.2.2.1) rfl ?_
    refine XS.lconst X0.here hx rfl (hC e4_0.2.2.2) ?_
    refine XS.ladd X0.here hx rfl (hC e4_4.1) rfl ?_
    exact kK
  have t1_ : (1 : Int64).toInt = 1 := rfl
  have t2_ := own_add (x := f) (y := (1 : Int64)) (by omega)
  refine jv X0 hx hZ (y := jy31) hown (jk hw 28 rfl) (jk hw 29 rfl) (jk hw 31 rfl) (jk hw 30 rfl) (jk hw 32 rfl) (jk hw 3 rfl) (rm_arB lL Z a0 hw [] pg st pa np nb kq kp kn pb zs sz ff ft lg lf lt f (f + (1 : Int64)) h0 n0 (Nat.le_trans Z0 K0.1) F0 Vp Vn Vm Zp Zb O0 G0 g_st g_pg ne_np_pa (by omega) (by omega) (by omega) (by omega) (by omega) (by omega) (by omega)) F0.E e0 own_pd6 [(.long f), (.long (f + (1 : Int64)))] [] (hC e4_4.2.1) rfl rfl (by rw [hml]; rfl) (by decide) 0 (Nat.le_of_eq rfl) (by decide) (by decide) (by decide : 0 + 3 ≤ _) (by decide : 0 + 80 ≤ _) fun vv3_ T3_ L3_ X3_ hQ3_ => ?_
  obtain ⟨zs'_3_, sz'_3_, ff'_3_, ft'_3_, lg'_3_, lf'_3_, lt'_3_, ba_3_, kb_3_, z_3_, en_3_, vs_3_, rfl, N3_q, p3__0, p3__1, p3__2, p3__3, p3__4, p3__5, p3__6, p3__7⟩ := hQ3_
  have N3_ := Fr.app N0 N3_q
  have sz_ba_3_ : h0.size ≤ ba_3_ := Nat.le_trans K0.1 p3__1
  have K3_ := K0.trans p3__0 (allS (Or.inl (List.mem_of_getElem? (i := 0) rfl)) (allS (Or.inl (List.mem_of_getElem? (i := 1) rfl)) all0))
  exact own_rV X3_ hx hlk hre (hC e4_4.2.2) rfl (by decide) (by decide) ⟨zs'_3_, sz'_3_, ff'_3_, ft'_3_, lg'_3_, lf'_3_, lt'_3_, ba_3_, kb_3_, z_3_, en_3_, vs_3_, rfl, N3_, K3_, sz_ba_3_, (by omega), p3__3, (by omega), p3__5, p3__6, p3__7⟩
theorem e39_0 : jD33 0 (.iconst 0, 1) ∧ jD33 1 (.istore_n 3, 1) ∧ jD33 2 (.aload_n 0, 1) ∧ jD33 3 (.getfield 45, 3) := by decide +kernel
theorem e39_6 : jD33 6 (.lconst 0, 1) ∧ jD33 7 (.lcmp, 1) ∧ jD33 8 (.ifCond .le 85, 3) ∧ jD33 11 (.lload_n 1, 1) := by decide +kernel
theorem e39_12 : jD33 12 (.aload_n 0, 1) ∧ jD33 13 (.getfield 22, 3) ∧ jD33 16 (.lcmp, 1) ∧ jD33 17 (.ifCond .lt 76, 3) := by decide +kernel
theorem e39_20 : jD33 20 (.lload_n 1, 1) ∧ jD33 21 (.aload_n 0, 1) ∧ jD33 22 (.invokevirtual 41, 3) ∧ jD33 25 (.lcmp, 1) := by decide +kernel
theorem e39_26 : jD33 26 (.ifCond .ge 67, 3) ∧ jD33 29 (.new 61, 3) ∧ jD33 32 (.dup, 1) ∧ jD33 33 (.aload_n 0, 1) := by decide +kernel
theorem e39_34 : jD33 34 (.invokespecial 63, 3) ∧ jD33 37 (.astore 4, 2) ∧ jD33 39 (.iconst 1, 1) ∧ jD33 40 (.istore 5, 2) := by decide +kernel
theorem e39_42 : jD33 42 (.iload 5, 2) ∧ jD33 44 (.ifCond .eq 23, 3) ∧ jD33 47 (.lload_n 1, 1) ∧ jD33 48 (.aload 4, 2) := by decide +kernel
theorem e39_50 : jD33 50 (.getfield 66, 3) ∧ jD33 53 (.lcmp, 1) ∧ jD33 54 (.ifCond .lt 13, 3) ∧ jD33 67 (.lload_n 1, 1) := by decide +kernel
theorem e39_68 : jD33 68 (.aload 4, 2) ∧ jD33 70 (.getfield 69, 3) ∧ jD33 73 (.lcmp, 1) ∧ jD33 74 (.ifCond .lt 17, 3) := by decide +kernel
theorem e39_77 : jD33 77 (.lload_n 1, 1) ∧ jD33 78 (.aload 4, 2) ∧ jD33 80 (.getfield 66, 3) ∧ jD33 83 (.lcmp, 1) := by decide +kernel
theorem e39_84 : jD33 84 (.ifCond .ge 7, 3) ∧ jD33 87 (.iconst 1, 1) ∧ jD33 88 (.goto 4, 3) ∧ jD33 92 (.istore_n 3, 1) := by decide +kernel
theorem e39_93 : jD33 93 (.iload_n 3, 1) ∧ jD33 94 (.ireturn, 1) := by decide +kernel
theorem own_ef_rm_cpA (mM : MethodId) (x0 : Addr) (x1 : Int64) : entryFrame mM #[(.ref x0), (.long x1)] 6 = mkF mM 0 #[.val (.ref x0), .val (.long x1), .second, .unset, .unset, .unset] [] := by first | (simp [entryFrame, mkF, argsToLocals, Value.category]; done) | rfl
def Q_rm_cpA (Z : State) (pg : Addr) (nb : Addr) (sz : Int64) (ff : Int64) (ft : Int64) (lg : Int64) (lf : Int64) (lt : Int64) (o : Int64) (h0 : Heap) (n0 : Nat) (vV : Option Value) (hH : Heap) (lA : List Loc) : Prop := ∃ c' : Int32, vV = some (.int c') ∧ Fr n0 lA ∧ (Keep h0 hH []) ∧ ((c'.toInt = 1 ∧ ff.toInt ≤ o.toInt ∧ o.toInt < ft.toInt) ∨ (c'.toInt = 0 ∧ (o.toInt < ff.toInt ∨ ft.toInt ≤ o.toInt)))
theorem rm_cpA (lL : Launch) (Z : State) (a0 : Array Value) (hw : own_H a0 Z) (ws : List Jvm.Cond) (pg : Addr) (nb : Addr) (sz : Int64) (ff : Int64) (ft : Int64) (lg : Int64) (lf : Int64) (lt : Int64) (o : Int64) (h0 : Heap) (n0 : Nat) (Z0 : n0 ≤ h0.size) (G0 : own_bP Z h0 pg sz ff ft (.ref nb) (0 : Int32) (0 : Int32) (-1 : Int32) lg lf lt) (hs : 1 ≤ sz.toInt) (c1 : ff.toInt ≤ o.toInt) :
    own_Met lL jy33 (Jvm.Cond.code jy33 prog_39_method_11_code 6 (some .boolean) :: ws) jr15 #[(.ref pg), (.long o)] Z h0 (Q_rm_cpA Z pg nb sz ff ft lg lf lt o h0 n0) := by
  refine own_begin (plainFor_of_name own_pn_com_example_portion_portion_server_OffsetSet_Page) (fun mM => own_ef_rm_cpA mM pg o) fun pP eE sS mM below meth cC s₁ hx hby hml hZ hown hnm hre hlk X0 e0 => ?_
  have hC := @Jvm.hb _ _ hby
  have N0 := Fr.nil n0
  have K0 := Keep.refl h0 ([] : List Addr)
  let ll1 : Array Slot := #[vR pg, vJ o, vS, vI 0, vU, vU]
  refine jg s₁ mM 3 ll1 [(.ref pg)] (fun tT kK => ?_) ?_
  · refine XS.iconst X0.here hx rfl (hC e39_0.1) ?_
    refine XS.istoreN X0.here hx rfl (hC e39_0.2.1) rfl (l' := ll1) rfl ?_
    refine XS.aloadN X0.here hx rfl (hC e39_0.2.2.1) rfl rfl ?_
    exact kK
  refine jf X0 hx hZ hown (jk hw 91 rfl) e0 G0.g0 (hC e39_0.2.2.2) fun T1_ X1_ e1_ => ?_
  refine jg T1_ mM 8 ll1 [(.int (lcmpW sz (0 : Int64)))] (fun tT kK => ?_) ?_
  · refine XS.lconst X1_.here hx rfl (hC e39_6.1) ?_
    refine XS.lcmp X1_.here hx rfl (hC e39_6.2.1) rfl ?_
    exact kK
  have t2_ : (0 : Int64).toInt = 0 := rfl
  refine jg T1_ mM 13 ll1 [(.ref pg), (.long o)] (fun tT kK => ?_) ?_
  · refine XS.ifNo X1_.here hx rfl (hC e39_6.2.2.1) rfl ((if0 _ _).trans (tlt ((lw_gt sz (0 : Int64)).mpr ((own_lt (by omega)) : (0 : Int64) < sz))).2.2.2) ?_
    refine XS.lloadN X1_.here hx rfl (hC e39_6.2.2.2) rfl ?_
    refine XS.aloadN X1_.here hx rfl (hC e39_12.1) rfl rfl ?_
    exact kK
  refine jf X1_ hx hZ hown (jk hw 92 rfl) e1_ G0.g1 (hC e39_12.2.1) fun T3_ X3_ e3_ => ?_
  refine jg T3_ mM 22 ll1 [(.ref pg), (.long o)] (fun tT kK => ?_) ?_
  · refine XS.lcmp X3_.here hx rfl (hC e39_12.2.2.1) rfl ?_
    refine XS.ifNo X3_.here hx rfl (hC e39_12.2.2.2) rfl ((if0 _ _).trans (flt (mt (lw_lt o ff).mp ((own_nl (by omega)) : ¬ (o < ff)))).1) ?_
    refine XS.lloadN X3_.here hx rfl (hC e39_20.1) rfl ?_
    refine XS.aloadN X3_.here hx rfl (hC e39_20.2.1) rfl rfl ?_
    exact kK
  refine jv X3_ hx hZ (y := jy5) hown (jk hw 84 rfl) (jk hw 85 rfl) (jk hw 87 rfl) (jk hw 86 rfl) (jk hw 88 rfl) (jk hw 56 rfl) (rm_lta lL Z a0 hw [] pg ft h0 n0 (Nat.le_trans Z0 K0.1) G0.g6 G0.g2) G0.E e3_ own_pd4 [] [(.long o)] (hC e39_20.2.2.1) rfl rfl (by rw [hml]; rfl) (by decide) 2 (Nat.le_of_eq rfl) (by decide) (by decide) (by decide : 0 + 0 ≤ _) (by decide : 0 + 0 ≤ _) fun vv4_ T4_ L4_ X4_ hQ4_ => ?_
  obtain ⟨rfl, N4_q, p4__0⟩ := hQ4_
  have N4_ := Fr.app N0 N4_q
  refine jg T4_ mM 26 ll1 [(.int (lcmpW o ft))] (fun tT kK => ?_) ?_
  · refine XS.lcmp X4_.here hx rfl (hC e39_20.2.2.2) rfl ?_
    exact kK
  by_cases hc26_5_ : o < ft
  · refine jg T4_ mM 29 ll1 [] (fun tT kK => ?_) ?_
    · refine XS.ifNo X4_.here hx rfl (hC e39_26.1) rfl ((if0 _ _).trans (tlt ((lw_lt o ft).mpr (hc26_5_ : o < ft))).2.1) ?_
      exact kK
    have t6_ := own_tlt hc26_5_
    obtain ⟨T7_, h7_, X7_, e7_, E7_, A7_, D7_, -, st7_⟩ := newO X4_ hx hZ hown (jk hw 114 rfl) (jk hw 115 rfl) (jk hw 116 rfl) p4__0 (g := (mkF mM 29 ll1 [])) rfl (hC e39_26.2.1) (by decide) (by decide)
    obtain ⟨b7_, g7_⟩ : ∃ z, z = h0.size := ⟨_, rfl⟩
    rw [← g7_] at A7_ D7_ st7_
    have sz_b7_ : h0.size ≤ b7_ := Nat.le_trans K0.1 (Nat.le_of_eq g7_.symm)
    have ge_b7_ : n0 ≤ b7_ := Nat.le_trans Z0 sz_b7_
    have fc9_ := G0.ext E7_
    have K7_ := K0.ext E7_
    have Bn7_ : own_bR Z h7_ b7_ .null (0 : Int64) (0 : Int64) (0 : Int32) := ⟨A7_, D7_ (Or.inr (jk hw 121 rfl)) (ty := (.object "com/example/portion/portion/server/OffsetSet$Page")) (by decide), D7_ (Or.inl (jk hw 125 rfl)) (ty := .long) (by decide), D7_ (Or.inl (jk hw 128 rfl)) (ty := .long) (by decide), D7_ (Or.inl (jk hw 132 rfl)) (ty := .int) (by decide)⟩
    refine own_fin st7_ ?_
    refine jg T7_ mM 34 ll1 [(.ref pg), (.ref b7_), (.ref b7_)] (fun tT kK => ?_) ?_
    · refine XS.dup X7_.here hx rfl (hC e39_26.2.2.1) rfl rfl ?_
      refine XS.aloadN X7_.here hx rfl (hC e39_26.2.2.2) rfl rfl ?_
      exact kK
    obtain ⟨_, _, ⟨T10_, L10_, k10_, n10_⟩, -, X10_, ⟨Lc10_, hQ10_, l10_, y10_, z10_⟩, st10_⟩ := X7_.specialBackNest hx (y := jy19) rfl hown (own_mvMN hZ (jk hw 117 rfl)) (jm hZ hw 118 rfl) (jm hZ hw 119 rfl) (by decide) (backOf (W := 1) (rm_rn lL Z a0 hw [] b7_ pg ff ft h7_ n0 (Nat.le_trans Z0 K7_.1) Bn7_ fc9_.E fc9_.g1 fc9_.g2 fc9_.g4 ge_b7_) hZ (jk hw 119 rfl) (jk hw 116 rfl) (by decide) (by decide)) (g := (mkF mM 34 ll1 [(.ref pg), (.ref b7_), (.ref b7_)])) rfl (by rw [hml]; rfl) (Steps.refl _) (a := b7_) (argsL := [(.ref pg)]) (rest := [(.ref b7_)]) (lenOf own_pd7 rfl) rfl (by show 2 * 0 + _ ≤ _; exact Nat.le_of_eq rfl) (hC e39_34.1) (fun _ _ => ⟨rfl, e7_, (by decide : 1 + 0 ≤ _), (by decide : 4 + 0 ≤ _)⟩)
    dsimp only [Pt.U, Pt.locs, Pt.cells, Pt.slots] at X10_ l10_ y10_ z10_ st10_ hQ10_
    subst l10_ y10_ z10_
    obtain ⟨rfl, N10_q, p10__0, p10__1⟩ := hQ10_
    have N10_ := Fr.app N4_ N10_q
    have K10_ := K7_.trans p10__0 (allS (Or.inr sz_b7_) all0)
    refine own_fin (fun tT kK => st10_.trans kK) ?_
    let ll2 : Array Slot := #[vR pg, vJ o, vS, vI 0, vR b7_, vI 1]
    refine jg T10_ mM 50 ll2 [(.ref b7_), (.long o)] (fun tT kK => ?_) ?_
    · let ll3 : Array Slot := #[vR pg, vJ o, vS, vI 0, vR b7_, vU]
      refine XS.astore X10_.here hx rfl (hC e39_34.2.1) rfl rfl (l' := ll3) rfl ?_
      refine XS.iconst X10_.here hx rfl (hC e39_34.2.2.1) ?_
      refine XS.istore X10_.here hx rfl (hC e39_34.2.2.2) rfl (l' := ll2) rfl ?_
      refine XS.iload X10_.here hx rfl (hC e39_42.1) rfl ?_
      refine XS.ifNo X10_.here hx rfl (hC e39_42.2.1) rfl ((if0 _ _).trans (feq ((by decide) : ¬ ((1 : Int32) = (0 : Int32)))).1) ?_
      refine XS.lloadN X10_.here hx rfl (hC e39_42.2.2.1) rfl ?_
      refine XS.aload X10_.here hx rfl (hC e39_42.2.2.2) rfl rfl ?_
      exact kK
    refine jn X10_ hx hZ hown (jk hw 210 rfl) rfl p10__1.g2 (hC e39_50.1) fun T12_ X12_ e12_ => ?_
    refine jg T12_ mM 70 ll2 [(.ref b7_), (.long o)] (fun tT kK => ?_) ?_
    · refine XS.lcmp X12_.here hx rfl (hC e39_50.2.1) rfl ?_
      refine XS.ifYes X12_.here hx rfl (pc0 := 54) (pc' := 67) rfl (hC e39_50.2.2.1) rfl ((if0 _ _).trans (tlt ((lw_lt o ft).mpr (hc26_5_ : o < ft))).1) (by decide) (by decide) ?_
      refine XS.lloadN X12_.here hx rfl (hC e39_50.2.2.2) rfl ?_
      refine XS.aload X12_.here hx rfl (hC e39_68.1) rfl rfl ?_
      exact kK
    refine jn X12_ hx hZ hown (jk hw 211 rfl) e12_ p10__1.g1 (hC e39_68.2.1) fun T13_ X13_ e13_ => ?_
    refine jg T13_ mM 80 ll2 [(.ref b7_), (.long o)] (fun tT kK => ?_) ?_
    · refine XS.lcmp X13_.here hx rfl (hC e39_68.2.2.1) rfl ?_
      refine XS.ifNo X13_.here hx rfl (hC e39_68.2.2.2) rfl ((if0 _ _).trans (flt (mt (lw_lt o ff).mp ((own_nl (by omega)) : ¬ (o < ff)))).1) ?_
      refine XS.lloadN X13_.here hx rfl (hC e39_77.1) rfl ?_
      refine XS.aload X13_.here hx rfl (hC e39_77.2.1) rfl rfl ?_
      exact kK
    refine jn X13_ hx hZ hown (jk hw 210 rfl) e13_ p10__1.g2 (hC e39_77.2.2.1) fun T14_ X14_ e14_ => ?_
    let ll4 : Array Slot := #[vR pg, vJ o, vS, vI 1, vR b7_, vI 1]
    refine jg T14_ mM 94 ll4 [(.int 1)] (fun tT kK => ?_) ?_
    · refine XS.lcmp X14_.here hx rfl (hC e39_77.2.2.2) rfl ?_
      refine XS.ifNo X14_.here hx rfl (hC e39_84.1) rfl ((if0 _ _).trans (tlt ((lw_lt o ft).mpr (hc26_5_ : o < ft))).2.1) ?_
      refine XS.iconst X14_.here hx rfl (hC e39_84.2.1) ?_
      refine XS.goto X14_.here hx rfl (pc0 := 88) (pc' := 92) rfl (hC e39_84.2.2.1) (by decide) (by decide) ?_
      refine XS.istoreN X14_.here hx rfl (hC e39_84.2.2.2) rfl (l' := ll4) rfl ?_
      refine XS.iloadN X14_.here hx rfl (hC e39_93.1) rfl ?_
      exact kK
    have t15_ : (1 : Int32).toInt = 1 := rfl
    exact own_rL X14_ hx hlk hre (by simp) (hC e39_93.2) (w := (.int 1)) rfl e14_ (by decide) (by decide) ⟨(1 : Int32), rfl, N10_, K10_, (by omega)⟩
  · refine jg T4_ mM 93 ll1 [] (fun tT kK => ?_) ?_
    · refine XS.ifYes X4_.here hx rfl (pc0 := 26) (pc' := 93) rfl (hC e39_26.1) rfl ((if0 _ _).trans (flt (mt (lw_lt o ft).mp (hc26_5_ : ¬ (o < ft)))).2.1) (by decide) (by decide) ?_
      exact kK
    have t16_ := own_tnl hc26_5_
    refine jg T4_ mM 94 ll1 [(.int 0)] (fun tT kK => ?_) ?_
    · refine XS.iloadN X4_.here hx rfl (hC e39_93.1) rfl ?_
      exact kK
    have t17_ : (0 : Int32).toInt = 0 := rfl
    exact own_rL X4_ hx hlk hre (by simp) (hC e39_93.2) (w := (.int 0)) rfl p4__0 (by decide) (by decide) ⟨(0 : Int32), rfl, N4_, K0, (by omega)⟩
theorem e39_57 : jD33 57 (.aload 4, 2) ∧ jD33 59 (.invokevirtual 75, 3) ∧ jD33 62 (.istore 5, 2) ∧ jD33 64 (.goto (-22), 3) := by decide +kernel
theorem d39_91 : jD33 91 (.iconst 0, 1) := by decide +kernel
theorem own_ef_rm_cpB (mM : MethodId) (x0 : Addr) (x1 : Int64) : entryFrame mM #[(.ref x0), (.long x1)] 6 = mkF mM 0 #[.val (.ref x0), .val (.long x1), .second, .unset, .unset, .unset] [] := by first | (simp [entryFrame, mkF, argsToLocals, Value.category]; done) | rfl
def Q_rm_cpB (Z : State) (pg : Addr) (sz : Int64) (ff : Int64) (ft : Int64) (lg : Int64) (lf : Int64) (lt : Int64) (ba : Addr) (kb : ClassId) (en : Int32) (z : Int32) (vs : List Value) (o : Int64) (h0 : Heap) (n0 : Nat) (vV : Option Value) (hH : Heap) (lA : List Loc) : Prop := ∃ c' : Int32, vV = some (.int c') ∧ Fr n0 lA ∧ (Keep h0 hH []) ∧ ((c'.toInt = 1 ∧ (o.toInt = ff.toInt ∨ o.toInt = lf.toInt)) ∨ (c'.toInt = 0 ∧ (¬ o.toInt = ff.toInt) ∧ (¬ o.toInt = lf.toInt)))
theorem rm_cpB (lL : Launch) (Z : State) (a0 : Array Value) (hw : own_H a0 Z) (ws : List Jvm.Cond) (pg : Addr) (sz : Int64) (ff : Int64) (ft : Int64) (lg : Int64) (lf : Int64) (lt : Int64) (ba : Addr) (kb : ClassId) (en : Int32) (z : Int32) (vs : List Value) (o : Int64) (h0 : Heap) (n0 : Nat) (Z0 : n0 ≤ h0.size) (G0 : own_bP Z h0 pg sz ff ft (.ref ba) (0 : Int32) en (0 : Int32) lg lf lt) (Vb : Arv Z h0 ba kb .byte z vs (.int 0)) (hE : own_E vs en.toNatClampNeg lg.toInt) (hn : 0 ≤ en.toInt ∧ en.toInt ≤ z.toInt) (hs : 1 ≤ sz.toInt) (hd : 0 ≤ ff.toInt ∧ ft.toInt = ff.toInt + 1) (hg : 1 ≤ lg.toInt ∧ lf.toInt = ft.toInt + lg.toInt) (hl1 : lt.toInt = lf.toInt + 1) (c1 : ff.toInt ≤ o.toInt) :
    own_Met lL jy33 (Jvm.Cond.code jy33 prog_39_method_11_code 6 (some .boolean) :: ws) jr16 #[(.ref pg), (.long o)] Z h0 (Q_rm_cpB Z pg sz ff ft lg lf lt ba kb en z vs o h0 n0) := by
  refine own_begin (plainFor_of_name own_pn_com_example_portion_portion_server_OffsetSet_Page) (fun mM => own_ef_rm_cpB mM pg o) fun pP eE sS mM below meth cC s₁ hx hby hml hZ hown hnm hre hlk X0 e0 => ?_
  have hC := @Jvm.hb _ _ hby
  have N0 := Fr.nil n0
  have K0 := Keep.refl h0 ([] : List Addr)
  have rlt := rng64 lt
  let ll1 : Array Slot := #[vR pg, vJ o, vS, vI 0, vU, vU]
  refine jg s₁ mM 3 ll1 [(.ref pg)] (fun tT kK => ?_) ?_
  · refine XS.iconst X0.here hx rfl (hC e39_0.1) ?_
    refine XS.istoreN X0.here hx rfl (hC e39_0.2.1) rfl (l' := ll1) rfl ?_
    refine XS.aloadN X0.here hx rfl (hC e39_0.2.2.1) rfl rfl ?_
    exact kK
  refine jf X0 hx hZ hown (jk hw 91 rfl) e0 G0.g0 (hC e39_0.2.2.2) fun T1_ X1_ e1_ => ?_
  refine jg T1_ mM 8 ll1 [(.int (lcmpW sz (0 : Int64)))] (fun tT kK => ?_) ?_
  · refine XS.lconst X1_.here hx rfl (hC e39_6.1) ?_
    refine XS.lcmp X1_.here hx rfl (hC e39_6.2.1) rfl ?_
    exact kK
  have t2_ : (0 : Int64).toInt = 0 := rfl
  refine jg T1_ mM 13 ll1 [(.ref pg), (.long o)] (fun tT kK => ?_) ?_
  · refine XS.ifNo X1_.here hx rfl (hC e39_6.2.2.1) rfl ((if0 _ _).trans (tlt ((lw_gt sz (0 : Int64)).mpr ((own_lt (by omega)) : (0 : Int64) < sz))).2.2.2) ?_
    refine XS.lloadN X1_.here hx rfl (hC e39_6.2.2.2) rfl ?_
    refine XS.aloadN X1_.here hx rfl (hC e39_12.1) rfl rfl ?_
    exact kK
  refine jf X1_ hx hZ hown (jk hw 92 rfl) e1_ G0.g1 (hC e39_12.2.1) fun T3_ X3_ e3_ => ?_
  refine jg T3_ mM 22 ll1 [(.ref pg), (.long o)] (fun tT kK => ?_) ?_
  · refine XS.lcmp X3_.here hx rfl (hC e39_12.2.2.1) rfl ?_
    refine XS.ifNo X3_.here hx rfl (hC e39_12.2.2.2) rfl ((if0 _ _).trans (flt (mt (lw_lt o ff).mp ((own_nl (by omega)) : ¬ (o < ff)))).1) ?_
    refine XS.lloadN X3_.here hx rfl (hC e39_20.1) rfl ?_
    refine XS.aloadN X3_.here hx rfl (hC e39_20.2.1) rfl rfl ?_
    exact kK
  refine jv X3_ hx hZ (y := jy5) hown (jk hw 84 rfl) (jk hw 85 rfl) (jk hw 87 rfl) (jk hw 86 rfl) (jk hw 88 rfl) (jk hw 56 rfl) (rm_ltb lL Z a0 hw [] pg lt h0 n0 (Nat.le_trans Z0 K0.1) G0.g6 G0.g9) G0.E e3_ own_pd4 [] [(.long o)] (hC e39_20.2.2.1) rfl rfl (by rw [hml]; rfl) (by decide) 2 (Nat.le_of_eq rfl) (by decide) (by decide) (by decide : 0 + 0 ≤ _) (by decide : 0 + 0 ≤ _) fun vv4_ T4_ L4_ X4_ hQ4_ => ?_
  obtain ⟨rfl, N4_q, p4__0⟩ := hQ4_
  have N4_ := Fr.app N0 N4_q
  refine jg T4_ mM 26 ll1 [(.int (lcmpW o lt))] (fun tT kK => ?_) ?_
  · refine XS.lcmp X4_.here hx rfl (hC e39_20.2.2.2) rfl ?_
    exact kK
  by_cases hc26_5_ : o < lt
  · refine jg T4_ mM 29 ll1 [] (fun tT kK => ?_) ?_
    · refine XS.ifNo X4_.here hx rfl (hC e39_26.1) rfl ((if0 _ _).trans (tlt ((lw_lt o lt).mpr (hc26_5_ : o < lt))).2.1) ?_
      exact kK
    have t6_ := own_tlt hc26_5_
    obtain ⟨T7_, h7_, X7_, e7_, E7_, A7_, D7_, -, st7_⟩ := newO X4_ hx hZ hown (jk hw 114 rfl) (jk hw 115 rfl) (jk hw 116 rfl) p4__0 (g := (mkF mM 29 ll1 [])) rfl (hC e39_26.2.1) (by decide) (by decide)
    obtain ⟨b7_, g7_⟩ : ∃ z, z = h0.size := ⟨_, rfl⟩
    rw [← g7_] at A7_ D7_ st7_
    have sz_b7_ : h0.size ≤ b7_ := Nat.le_trans K0.1 (Nat.le_of_eq g7_.symm)
    have ge_b7_ : n0 ≤ b7_ := Nat.le_trans Z0 sz_b7_
    have ne8_ : pg ≠ b7_ := Nat.ne_of_lt (Nat.lt_of_lt_of_le G0.lt (Nat.le_of_eq g7_.symm))
    have ne9_ : ba ≠ b7_ := Nat.ne_of_lt (Nat.lt_of_lt_of_le Vb.lt (Nat.le_of_eq g7_.symm))
    have fc10_ := G0.ext E7_
    have fc11_ := Vb.ext E7_
    have K7_ := K0.ext E7_
    have Bn7_ : own_bR Z h7_ b7_ .null (0 : Int64) (0 : Int64) (0 : Int32) := ⟨A7_, D7_ (Or.inr (jk hw 121 rfl)) (ty := (.object "com/example/portion/portion/server/OffsetSet$Page")) (by decide), D7_ (Or.inl (jk hw 125 rfl)) (ty := .long) (by decide), D7_ (Or.inl (jk hw 128 rfl)) (ty := .long) (by decide), D7_ (Or.inl (jk hw 132 rfl)) (ty := .int) (by decide)⟩
    refine own_fin st7_ ?_
    refine jg T7_ mM 34 ll1 [(.ref pg), (.ref b7_), (.ref b7_)] (fun tT kK => ?_) ?_
    · refine XS.dup X7_.here hx rfl (hC e39_26.2.2.1) rfl rfl ?_
      refine XS.aloadN X7_.here hx rfl (hC e39_26.2.2.2) rfl rfl ?_
      exact kK
    obtain ⟨_, _, ⟨T12_, L12_, k12_, n12_⟩, -, X12_, ⟨Lc12_, hQ12_, l12_, y12_, z12_⟩, st12_⟩ := X7_.specialBackNest hx (y := jy19) rfl hown (own_mvMN hZ (jk hw 117 rfl)) (jm hZ hw 118 rfl) (jm hZ hw 119 rfl) (by decide) (backOf (W := 1) (rm_rn lL Z a0 hw [] b7_ pg ff ft h7_ n0 (Nat.le_trans Z0 K7_.1) Bn7_ fc10_.E fc10_.g1 fc10_.g2 fc10_.g4 ge_b7_) hZ (jk hw 119 rfl) (jk hw 116 rfl) (by decide) (by decide)) (g := (mkF mM 34 ll1 [(.ref pg), (.ref b7_), (.ref b7_)])) rfl (by rw [hml]; rfl) (Steps.refl _) (a := b7_) (argsL := [(.ref pg)]) (rest := [(.ref b7_)]) (lenOf own_pd7 rfl) rfl (by show 2 * 0 + _ ≤ _; exact Nat.le_of_eq rfl) (hC e39_34.1) (fun _ _ => ⟨rfl, e7_, (by decide : 1 + 0 ≤ _), (by decide : 4 + 0 ≤ _)⟩)
    dsimp only [Pt.U, Pt.locs, Pt.cells, Pt.slots] at X12_ l12_ y12_ z12_ st12_ hQ12_
    subst l12_ y12_ z12_
    obtain ⟨rfl, N12_q, p12__0, p12__1⟩ := hQ12_
    have N12_ := Fr.app N4_ N12_q
    have fc13_ := fc10_.keep p12__0 (ninS ne8_ nin0)
    have fc14_ := fc11_.keep p12__0 (ninS ne9_ nin0)
    have K12_ := K7_.trans p12__0 (allS (Or.inr sz_b7_) all0)
    refine own_fin (fun tT kK => st12_.trans kK) ?_
    let ll2 : Array Slot := #[vR pg, vJ o, vS, vI 0, vR b7_, vI 1]
    refine jg T12_ mM 50 ll2 [(.ref b7_), (.long o)] (fun tT kK => ?_) ?_
    · let ll3 : Array Slot := #[vR pg, vJ o, vS, vI 0, vR b7_, vU]
      refine XS.astore X12_.here hx rfl (hC e39_34.2.1) rfl rfl (l' := ll3) rfl ?_
      refine XS.iconst X12_.here hx rfl (hC e39_34.2.2.1) ?_
      refine XS.istore X12_.here hx rfl (hC e39_34.2.2.2) rfl (l' := ll2) rfl ?_
      refine XS.iload X12_.here hx rfl (hC e39_42.1) rfl ?_
      refine XS.ifNo X12_.here hx rfl (hC e39_42.2.1) rfl ((if0 _ _).trans (feq ((by decide) : ¬ ((1 : Int32) = (0 : Int32)))).1) ?_
      refine XS.lloadN X12_.here hx rfl (hC e39_42.2.2.1) rfl ?_
      refine XS.aload X12_.here hx rfl (hC e39_42.2.2.2) rfl rfl ?_
      exact kK
    refine jn X12_ hx hZ hown (jk hw 210 rfl) rfl p12__1.g2 (hC e39_50.1) fun T15_ X15_ e15_ => ?_
    refine jg T15_ mM 54 ll2 [(.int (lcmpW o ft))] (fun tT kK => ?_) ?_
    · refine XS.lcmp X15_.here hx rfl (hC e39_50.2.1) rfl ?_
      exact kK
    by_cases hc54_16_ : o < ft
    · refine jg T15_ mM 67 ll2 [] (fun tT kK => ?_) ?_
      · refine XS.ifYes X15_.here hx rfl (pc0 := 54) (pc' := 67) rfl (hC e39_50.2.2.1) rfl ((if0 _ _).trans (tlt ((lw_lt o ft).mpr (hc54_16_ : o < ft))).1) (by decide) (by decide) ?_
        exact kK
      have t17_ := own_tlt hc54_16_
      refine jg T15_ mM 70 ll2 [(.ref b7_), (.long o)] (fun tT kK => ?_) ?_
      · refine XS.lloadN X15_.here hx rfl (hC e39_50.2.2.2) rfl ?_
        refine XS.aload X15_.here hx rfl (hC e39_68.1) rfl rfl ?_
        exact kK
      refine jn X15_ hx hZ hown (jk hw 211 rfl) e15_ p12__1.g1 (hC e39_68.2.1) fun T18_ X18_ e18_ => ?_
      refine jg T18_ mM 80 ll2 [(.ref b7_), (.long o)] (fun tT kK => ?_) ?_
      · refine XS.lcmp X18_.here hx rfl (hC e39_68.2.2.1) rfl ?_
        refine XS.ifNo X18_.here hx rfl (hC e39_68.2.2.2) rfl ((if0 _ _).trans (flt (mt (lw_lt o ff).mp ((own_nl (by omega)) : ¬ (o < ff)))).1) ?_
        refine XS.lloadN X18_.here hx rfl (hC e39_77.1) rfl ?_
        refine XS.aload X18_.here hx rfl (hC e39_77.2.1) rfl rfl ?_
        exact kK
      refine jn X18_ hx hZ hown (jk hw 210 rfl) e18_ p12__1.g2 (hC e39_77.2.2.1) fun T19_ X19_ e19_ => ?_
      let ll4 : Array Slot := #[vR pg, vJ o, vS, vI 1, vR b7_, vI 1]
      refine jg T19_ mM 94 ll4 [(.int 1)] (fun tT kK => ?_) ?_
      · refine XS.lcmp X19_.here hx rfl (hC e39_77.2.2.2) rfl ?_
        refine XS.ifNo X19_.here hx rfl (hC e39_84.1) rfl ((if0 _ _).trans (tlt ((lw_lt o ft).mpr (hc54_16_ : o < ft))).2.1) ?_
        refine XS.iconst X19_.here hx rfl (hC e39_84.2.1) ?_
        refine XS.goto X19_.here hx rfl (pc0 := 88) (pc' := 92) rfl (hC e39_84.2.2.1) (by decide) (by decide) ?_
        refine XS.istoreN X19_.here hx rfl (hC e39_84.2.2.2) rfl (l' := ll4) rfl ?_
        refine XS.iloadN X19_.here hx rfl (hC e39_93.1) rfl ?_
        exact kK
      have t20_ : (1 : Int32).toInt = 1 := rfl
      exact own_rL X19_ hx hlk hre (by simp) (hC e39_93.2) (w := (.int 1)) rfl e19_ (by decide) (by decide) ⟨(1 : Int32), rfl, N12_, K12_, (by omega)⟩
    · refine jg T15_ mM 57 ll2 [] (fun tT kK => ?_) ?_
      · refine XS.ifNo X15_.here hx rfl (hC e39_50.2.2.1) rfl ((if0 _ _).trans (flt (mt (lw_lt o ft).mp (hc54_16_ : ¬ (o < ft)))).1) ?_
        exact kK
      have t21_ := own_tnl hc54_16_
      refine jg T15_ mM 59 ll2 [(.ref b7_)] (fun tT kK => ?_) ?_
      · refine XS.aload X15_.here hx rfl (hC e39_57.1) rfl rfl ?_
        exact kK
      refine jv X15_ hx hZ (y := jy20) hown (jk hw 133 rfl) (jk hw 134 rfl) (jk hw 136 rfl) (jk hw 135 rfl) (jk hw 137 rfl) (jk hw 116 rfl) (rm_n1 lL Z a0 hw [] b7_ pg ba kb ff ft lg en z vs T12_.heap n0 (Nat.le_trans Z0 K12_.1) p12__1 fc13_.E fc13_.g3 fc14_ fc13_.g5 hE hn ge_b7_) p12__1.E e15_ own_pd8 [] [] (hC e39_57.2.1) rfl rfl (by rw [hml]; rfl) (by decide) 0 (Nat.le_of_eq rfl) (by decide) (by decide) (by decide : 1 + 0 ≤ _) (by decide : 4 + 0 ≤ _) fun vv22_ T22_ L22_ X22_ hQ22_ => ?_
      obtain ⟨rfl, N22_q, p22__0, p22__1⟩ := hQ22_
      have N22_ := Fr.app N12_ N22_q
      have K22_ := K12_.trans p22__0 (allS (Or.inr sz_b7_) all0)
      refine jg T22_ mM 50 ll2 [(.ref b7_), (.long o)] (fun tT kK => ?_) ?_
      · refine XS.istore X22_.here hx rfl (hC e39_57.2.2.1) rfl (l' := ll2) rfl ?_
        refine XS.goto X22_.here hx rfl (pc0 := 64) (pc' := 42) rfl (hC e39_57.2.2.2) (by decide) (by decide) ?_
        refine XS.iload X22_.here hx rfl (hC e39_42.1) rfl ?_
        refine XS.ifNo X22_.here hx rfl (hC e39_42.2.1) rfl ((if0 _ _).trans (feq ((by decide) : ¬ ((1 : Int32) = (0 : Int32)))).1) ?_
        refine XS.lloadN X22_.here hx rfl (hC e39_42.2.2.1) rfl ?_
        refine XS.aload X22_.here hx rfl (hC e39_42.2.2.2) rfl rfl ?_
        exact kK
      refine jn X22_ hx hZ hown (jk hw 210 rfl) rfl p22__1.g2 (hC e39_50.1) fun T25_ X25_ e25_ => ?_
      refine jg T25_ mM 54 ll2 [(.int (lcmpW o ((ft + lg) + (1 : Int64))))] (fun tT kK => ?_) ?_
      · refine XS.lcmp X25_.here hx rfl (hC e39_50.2.1) rfl ?_
        exact kK
      have t26_ := own_add (x := ft) (y := lg) (by omega)
      have t27_ : (1 : Int64).toInt = 1 := rfl
      have t28_ := own_add (x := (ft + lg)) (y := (1 : Int64)) (by omega)
      refine jg T25_ mM 70 ll2 [(.ref b7_), (.long o)] (fun tT kK => ?_) ?_
      · refine XS.ifYes X25_.here hx rfl (pc0 := 54) (pc' := 67) rfl (hC e39_50.2.2.1) rfl ((if0 _ _).trans (tlt ((lw_lt o ((ft + lg) + (1 : Int64))).mpr ((own_lt (by omega)) : o < ((ft + lg) + (1 : Int64))))).1) (by decide) (by decide) ?_
        refine XS.lloadN X25_.here hx rfl (hC e39_50.2.2.2) rfl ?_
        refine XS.aload X25_.here hx rfl (hC e39_68.1) rfl rfl ?_
        exact kK
      refine jn X25_ hx hZ hown (jk hw 211 rfl) e25_ p22__1.g1 (hC e39_68.2.1) fun T29_ X29_ e29_ => ?_
      refine jg T29_ mM 74 ll2 [(.int (lcmpW o (ft + lg)))] (fun tT kK => ?_) ?_
      · refine XS.lcmp X29_.here hx rfl (hC e39_68.2.2.1) rfl ?_
        exact kK
      by_cases hc74_30_ : o < (ft + lg)
      · refine jg T29_ mM 91 ll2 [] (fun tT kK => ?_) ?_
        · refine XS.ifYes X29_.here hx rfl (pc0 := 74) (pc' := 91) rfl (hC e39_68.2.2.2) rfl ((if0 _ _).trans (tlt ((lw_lt o (ft + lg)).mpr (hc74_30_ : o < (ft + lg)))).1) (by decide) (by decide) ?_
          exact kK
        have t31_ := own_tlt hc74_30_
        refine jg T29_ mM 94 ll2 [(.int 0)] (fun tT kK => ?_) ?_
        · refine XS.iconst X29_.here hx rfl (hC d39_91) ?_
          refine XS.istoreN X29_.here hx rfl (hC e39_84.2.2.2) rfl (l' := ll2) rfl ?_
          show Steps pP.tables eE below (T29_.setTop (mkF mM 93 ll2 [])) tT
          refine XS.iloadN X29_.here hx rfl (hC e39_93.1) rfl ?_
          exact kK
        have t32_ : (0 : Int32).toInt = 0 := rfl
        exact own_rL X29_ hx hlk hre (by simp) (hC e39_93.2) (w := (.int 0)) rfl e29_ (by decide) (by decide) ⟨(0 : Int32), rfl, N22_, K22_, (by omega)⟩
      · refine jg T29_ mM 77 ll2 [] (fun tT kK => ?_) ?_
        · refine XS.ifNo X29_.here hx rfl (hC e39_68.2.2.2) rfl ((if0 _ _).trans (flt (mt (lw_lt o (ft + lg)).mp (hc74_30_ : ¬ (o < (ft + lg))))).1) ?_
          exact kK
        have t33_ := own_tnl hc74_30_
        refine jg T29_ mM 80 ll2 [(.ref b7_), (.long o)] (fun tT kK => ?_) ?_
        · refine XS.lloadN X29_.here hx rfl (hC e39_77.1) rfl ?_
          refine XS.aload X29_.here hx rfl (hC e39_77.2.1) rfl rfl ?_
          exact kK
        refine jn X29_ hx hZ hown (jk hw 210 rfl) e29_ p22__1.g2 (hC e39_77.2.2.1) fun T34_ X34_ e34_ => ?_
        let ll5 : Array Slot := #[vR pg, vJ o, vS, vI 1, vR b7_, vI 1]
        refine jg T34_ mM 94 ll5 [(.int 1)] (fun tT kK => ?_) ?_
        · refine XS.lcmp X34_.here hx rfl (hC e39_77.2.2.2) rfl ?_
          refine XS.ifNo X34_.here hx rfl (hC e39_84.1) rfl ((if0 _ _).trans (tlt ((lw_lt o ((ft + lg) + (1 : Int64))).mpr ((own_lt (by omega)) : o < ((ft + lg) + (1 : Int64))))).2.1) ?_
          refine XS.iconst X34_.here hx rfl (hC e39_84.2.1) ?_
          refine XS.goto X34_.here hx rfl (pc0 := 88) (pc' := 92) rfl (hC e39_84.2.2.1) (by decide) (by decide) ?_
          refine XS.istoreN X34_.here hx rfl (hC e39_84.2.2.2) rfl (l' := ll5) rfl ?_
          refine XS.iloadN X34_.here hx rfl (hC e39_93.1) rfl ?_
          exact kK
        have t35_ : (1 : Int32).toInt = 1 := rfl
        exact own_rL X34_ hx hlk hre (by simp) (hC e39_93.2) (w := (.int 1)) rfl e34_ (by decide) (by decide) ⟨(1 : Int32), rfl, N22_, K22_, (by omega)⟩
  · refine jg T4_ mM 93 ll1 [] (fun tT kK => ?_) ?_
    · refine XS.ifYes X4_.here hx rfl (pc0 := 26) (pc' := 93) rfl (hC e39_26.1) rfl ((if0 _ _).trans (flt (mt (lw_lt o lt).mp (hc26_5_ : ¬ (o < lt)))).2.1) (by decide) (by decide) ?_
      exact kK
    have t36_ := own_tnl hc26_5_
    refine jg T4_ mM 94 ll1 [(.int 0)] (fun tT kK => ?_) ?_
    · refine XS.iloadN X4_.here hx rfl (hC e39_93.1) rfl ?_
      exact kK
    have t37_ : (0 : Int32).toInt = 0 := rfl
    exact own_rL X4_ hx hlk hre (by simp) (hC e39_93.2) (w := (.int 0)) rfl p4__0 (by decide) (by decide) ⟨(0 : Int32), rfl, N4_, K0, (by omega)⟩
theorem e38_0 : jD34 0 (.aload_n 0, 1) ∧ jD34 1 (.lload_n 1, 1) ∧ jD34 2 (.invokevirtual 51, 3) ∧ jD34 5 (.istore_n 3, 1) := by decide +kernel
theorem e38_6 : jD34 6 (.iload_n 3, 1) ∧ jD34 7 (.ifCond .lt 20, 3) ∧ jD34 27 (.iconst 0, 1) ∧ jD34 28 (.ireturn, 1) := by decide +kernel
theorem e38_10 : jD34 10 (.aload_n 0, 1) ∧ jD34 11 (.getfield 16, 3) ∧ jD34 14 (.iload_n 3, 1) ∧ jD34 15 (.aaload, 1) := by decide +kernel
theorem e38_16 : jD34 16 (.lload_n 1, 1) ∧ jD34 17 (.invokevirtual 55, 3) := by decide +kernel
theorem own_pd16 : parseMethodDescriptor "(J)Z" = some ⟨[.long], some .boolean⟩ := by decide +kernel
theorem e38_20 : jD34 20 (.ifCond .eq 7, 3) ∧ jD34 23 (.iconst 1, 1) ∧ jD34 24 (.goto 4, 3) := by decide +kernel
theorem own_ef_rm_cA (mM : MethodId) (x0 : Addr) (x1 : Int64) : entryFrame mM #[(.ref x0), (.long x1)] 4 = mkF mM 0 #[.val (.ref x0), .val (.long x1), .second, .unset] [] := by first | (simp [entryFrame, mkF, argsToLocals, Value.category]; done) | rfl
def Q_rm_cA (Z : State) (st : Addr) (pa : Addr) (pg : Addr) (kq : ClassId) (nb : Addr) (sz : Int64) (ff : Int64) (ft : Int64) (lg : Int64) (lf : Int64) (lt : Int64) (o : Int64) (h0 : Heap) (n0 : Nat) (vV : Option Value) (hH : Heap) (lA : List Loc) : Prop := ∃ c' : Int32, vV = some (.int c') ∧ Fr n0 lA ∧ (Keep h0 hH []) ∧ ((c'.toInt = 1 ∧ ff.toInt ≤ o.toInt ∧ o.toInt < ft.toInt) ∨ (c'.toInt = 0 ∧ (o.toInt < ff.toInt ∨ ft.toInt ≤ o.toInt)))
theorem rm_cA (lL : Launch) (Z : State) (a0 : Array Value) (hw : own_H a0 Z) (ws : List Jvm.Cond) (st : Addr) (pa : Addr) (pg : Addr) (kq : ClassId) (nb : Addr) (sz : Int64) (ff : Int64) (ft : Int64) (lg : Int64) (lf : Int64) (lt : Int64) (o : Int64) (h0 : Heap) (n0 : Nat) (Z0 : n0 ≤ h0.size) (Es : jE0 Z h0 st) (Fc : jF2 Z h0 st (.int 1)) (Fp : jF1 Z h0 st (.ref pa)) (Vp : Arv Z h0 pa kq (.object "com/example/portion/portion/server/OffsetSet$Page") (2 : Int32) [(.ref pg), .null] .null) (G0 : own_bP Z h0 pg sz ff ft (.ref nb) (0 : Int32) (0 : Int32) (-1 : Int32) lg lf lt) (hs : 1 ≤ sz.toInt) :
    own_Met lL jy34 (Jvm.Cond.code jy34 prog_38_method_7_code 4 (some .boolean) :: ws) jr34 #[(.ref st), (.long o)] Z h0 (Q_rm_cA Z st pa pg kq nb sz ff ft lg lf lt o h0 n0) := by
  refine own_begin (plainFor_of_name own_pn_com_example_portion_portion_server_OffsetSet) (fun mM => own_ef_rm_cA mM st o) fun pP eE sS mM below meth cC s₁ hx hby hml hZ hown hnm hre hlk X0 e0 => ?_
  have hC := @Jvm.hb _ _ hby
  have N0 := Fr.nil n0
  have K0 := Keep.refl h0 ([] : List Addr)
  by_cases hc1_ : o < ff
  · have t2_ := own_tlt hc1_
    let ll1 : Array Slot := #[vR st, vJ o, vS, vU]
    refine jg s₁ mM 2 ll1 [(.long o), (.ref st)] (fun tT kK => ?_) ?_
    · refine XS.aloadN X0.here hx rfl (hC e38_0.1) rfl rfl ?_
      refine XS.lloadN X0.here hx rfl (hC e38_0.2.1) rfl ?_
      exact kK
    refine jw X0 hx hZ (y := jy4) hown (jk hw 36 rfl) (jk hw 37 rfl) (own_selP (y := jy4) hZ (jk hw 2 rfl) (jk hw 38 rfl) (jk hw 37 rfl) (by decide)) (jk hw 38 rfl) (jk hw 39 rfl) (jk hw 3 rfl) (rm_pan lL Z a0 hw [] st pa pg kq o ff h0 n0 (Nat.le_trans Z0 K0.1) Fc Fp Vp G0.g1 (by omega)) Es e0 own_pd14 [(.long o)] [] (hC e38_0.2.2.1) rfl rfl (by rw [hml]; rfl) (by decide) 0 (Nat.le_of_eq rfl) (by decide) (by decide) (by decide : 0 + 0 ≤ _) (by decide : 0 + 0 ≤ _) fun vv3_ T3_ L3_ X3_ hQ3_ => ?_
    obtain ⟨rfl, N3_q, p3__0⟩ := hQ3_
    have N3_ := Fr.app N0 N3_q
    let ll2 : Array Slot := #[vR st, vJ o, vS, vI (-1)]
    refine jg T3_ mM 28 ll2 [(.int 0)] (fun tT kK => ?_) ?_
    · refine XS.istoreN X3_.here hx rfl (hC e38_0.2.2.2) rfl (l' := ll2) rfl ?_
      refine XS.iloadN X3_.here hx rfl (hC e38_6.1) rfl ?_
      refine XS.ifYes X3_.here hx rfl (pc0 := 7) (pc' := 27) rfl (hC e38_6.2.1) rfl ((if0 _ _).trans (tlt ((by decide) : (-1 : Int32) < (0 : Int32))).1) (by decide) (by decide) ?_
      refine XS.iconst X3_.here hx rfl (hC e38_6.2.2.1) ?_
      exact kK
    have t4_ : (0 : Int32).toInt = 0 := rfl
    exact own_rL X3_ hx hlk hre (by simp) (hC e38_6.2.2.2) (w := (.int 0)) rfl p3__0 (by decide) (by decide) ⟨(0 : Int32), rfl, N3_, K0, (by omega)⟩
  · have t5_ := own_tnl hc1_
    let ll3 : Array Slot := #[vR st, vJ o, vS, vU]
    refine jg s₁ mM 2 ll3 [(.long o), (.ref st)] (fun tT kK => ?_) ?_
    · refine XS.aloadN X0.here hx rfl (hC e38_0.1) rfl rfl ?_
      refine XS.lloadN X0.here hx rfl (hC e38_0.2.1) rfl ?_
      exact kK
    refine jw X0 hx hZ (y := jy4) hown (jk hw 36 rfl) (jk hw 37 rfl) (own_selP (y := jy4) hZ (jk hw 2 rfl) (jk hw 38 rfl) (jk hw 37 rfl) (by decide)) (jk hw 38 rfl) (jk hw 39 rfl) (jk hw 3 rfl) (rm_pay lL Z a0 hw [] st pa pg kq o ff h0 n0 (Nat.le_trans Z0 K0.1) Fc Fp Vp G0.g1 (by omega)) Es e0 own_pd14 [(.long o)] [] (hC e38_0.2.2.1) rfl rfl (by rw [hml]; rfl) (by decide) 0 (Nat.le_of_eq rfl) (by decide) (by decide) (by decide : 0 + 0 ≤ _) (by decide : 0 + 0 ≤ _) fun vv6_ T6_ L6_ X6_ hQ6_ => ?_
    obtain ⟨rfl, N6_q, p6__0⟩ := hQ6_
    have N6_ := Fr.app N0 N6_q
    let ll4 : Array Slot := #[vR st, vJ o, vS, vI 0]
    refine jg T6_ mM 11 ll4 [(.ref st)] (fun tT kK => ?_) ?_
    · refine XS.istoreN X6_.here hx rfl (hC e38_0.2.2.2) rfl (l' := ll4) rfl ?_
      refine XS.iloadN X6_.here hx rfl (hC e38_6.1) rfl ?_
      refine XS.ifNo X6_.here hx rfl (hC e38_6.2.1) rfl ((if0 _ _).trans (flt ((by decide) : ¬ ((0 : Int32) < (0 : Int32)))).1) ?_
      refine XS.aloadN X6_.here hx rfl (hC e38_10.1) rfl rfl ?_
      exact kK
    refine jf X6_ hx hZ hown (jk hw 12 rfl) p6__0 Fp (hC e38_10.2.1) fun T7_ X7_ e7_ => ?_
    refine jg T7_ mM 15 ll4 [(.int 0), (.ref pa)] (fun tT kK => ?_) ?_
    · refine XS.iloadN X7_.here hx rfl (hC e38_10.2.2.1) rfl ?_
      exact kK
    obtain ⟨cl8_, Ar8_, qk8_, Sz8_, Nn8_, Hh8_, Gg8_⟩ := id Vp
    have hin9_ : ¬ ((0 : Int32) < 0 ∨ cl8_.slots.size ≤ ((0 : Int32)).toNatClampNeg) := inb_of Sz8_ ⟨by decide, by decide⟩
    have hat9_ : cl8_.slots[((0 : Int32)).toNatClampNeg]? = some (.ref pg) := Hh8_.at hin9_ rfl
    refine jg T7_ mM 17 ll4 [(.long o), (.ref pg)] (fun tT kK => ?_) ?_
    · refine X7_.aaload hx (j := (0 : Int32)) (v := (.ref pg)) (own_rw e7_ Ar8_.1) (State.isArrayOf_alike hZ.alike Ar8_.2.1) rfl Ar8_.2.2 hin9_ hat9_ (g := (mkF mM 15 ll4 [(.int 0), (.ref pa)])) rfl rfl (hC e38_10.2.2.2) _ ?_
      refine XS.lloadN X7_.here hx rfl (hC e38_16.1) rfl ?_
      exact kK
    refine jv X7_ hx hZ (y := jy33) hown (jk hw 240 rfl) (jk hw 241 rfl) (jk hw 243 rfl) (jk hw 242 rfl) (jk hw 244 rfl) (jk hw 56 rfl) (rm_cpA lL Z a0 hw [] pg nb sz ff ft lg lf lt o h0 n0 (Nat.le_trans Z0 K0.1) G0 (by omega) (by omega)) G0.E e7_ own_pd16 [(.long o)] [] (hC e38_16.2) rfl rfl (by rw [hml]; rfl) (by decide) 0 (Nat.le_of_eq rfl) (by decide) (by decide) (by decide : 0 + 1 ≤ _) (by decide : 0 + 4 ≤ _) fun vv10_ T10_ L10_ X10_ hQ10_ => ?_
    obtain ⟨c'_10_, rfl, N10_q, p10__0, p10__1⟩ := hQ10_
    have N10_ := Fr.app N6_ N10_q
    have K10_ := K0.trans p10__0 all0
    by_cases hc20_16_ : c'_10_ = (0 : Int32)
    · refine jg T10_ mM 27 ll4 [] (fun tT kK => ?_) ?_
      · refine XS.ifYes X10_.here hx rfl (pc0 := 20) (pc' := 27) rfl (hC e38_20.1) rfl ((if0 _ _).trans (teq (hc20_16_ : c'_10_ = (0 : Int32))).1) (by decide) (by decide) ?_
        exact kK
      have t17_ : (0 : Int32).toInt = 0 := rfl
      have t18_ := congrArg Int32.toInt hc20_16_
      refine jg T10_ mM 28 ll4 [(.int 0)] (fun tT kK => ?_) ?_
      · refine XS.iconst X10_.here hx rfl (hC e38_6.2.2.1) ?_
        exact kK
      exact own_rL X10_ hx hlk hre (by simp) (hC e38_6.2.2.2) (w := (.int 0)) rfl rfl (by decide) (by decide) ⟨(0 : Int32), rfl, N10_, K10_, (by omega)⟩
    · refine jg T10_ mM 23 ll4 [] (fun tT kK => ?_) ?_
      · refine XS.ifNo X10_.here hx rfl (hC e38_20.1) rfl ((if0 _ _).trans (feq (hc20_16_ : ¬ (c'_10_ = (0 : Int32)))).1) ?_
        exact kK
      have t19_ : (0 : Int32).toInt = 0 := rfl
      have t20_ := own_tne3 hc20_16_
      refine jg T10_ mM 28 ll4 [(.int 1)] (fun tT kK => ?_) ?_
      · refine XS.iconst X10_.here hx rfl (hC e38_20.2.1) ?_
        refine XS.goto X10_.here hx rfl (pc0 := 24) (pc' := 28) rfl (hC e38_20.2.2) (by decide) (by decide) ?_
        exact kK
      have t21_ : (1 : Int32).toInt = 1 := rfl
      exact own_rL X10_ hx hlk hre (by simp) (hC e38_6.2.2.2) (w := (.int 1)) rfl rfl (by decide) (by decide) ⟨(1 : Int32), rfl, N10_, K10_, (by omega)⟩
theorem own_ef_rm_cB (mM : MethodId) (x0 : Addr) (x1 : Int64) : entryFrame mM #[(.ref x0), (.long x1)] 4 = mkF mM 0 #[.val (.ref x0), .val (.long x1), .second, .unset] [] := by first | (simp [entryFrame, mkF, argsToLocals, Value.category]; done) | rfl
def Q_rm_cB (Z : State) (st : Addr) (pa : Addr) (pg : Addr) (kq : ClassId) (sz : Int64) (ff : Int64) (ft : Int64) (lg : Int64) (lf : Int64) (lt : Int64) (ba : Addr) (kb : ClassId) (en : Int32) (z : Int32) (vs : List Value) (o : Int64) (h0 : Heap) (n0 : Nat) (vV : Option Value) (hH : Heap) (lA : List Loc) : Prop := ∃ c' : Int32, vV = some (.int c') ∧ Fr n0 lA ∧ (Keep h0 hH []) ∧ ((c'.toInt = 1 ∧ (o.toInt = ff.toInt ∨ o.toInt = lf.toInt)) ∨ (c'.toInt = 0 ∧ (¬ o.toInt = ff.toInt) ∧ (¬ o.toInt = lf.toInt)))
theorem rm_cB (lL : Launch) (Z : State) (a0 : Array Value) (hw : own_H a0 Z) (ws : List Jvm.Cond) (st : Addr) (pa : Addr) (pg : Addr) (kq : ClassId) (sz : Int64) (ff : Int64) (ft : Int64) (lg : Int64) (lf : Int64) (lt : Int64) (ba : Addr) (kb : ClassId) (en : Int32) (z : Int32) (vs : List Value) (o : Int64) (h0 : Heap) (n0 : Nat) (Z0 : n0 ≤ h0.size) (Es : jE0 Z h0 st) (Fc : jF2 Z h0 st (.int 1)) (Fp : jF1 Z h0 st (.ref pa)) (Vp : Arv Z h0 pa kq (.object "com/example/portion/portion/server/OffsetSet$Page") (2 : Int32) [(.ref pg), .null] .null) (G0 : own_bP Z h0 pg sz ff ft (.ref ba) (0 : Int32) en (0 : Int32) lg lf lt) (Vb : Arv Z h0 ba kb .byte z vs (.int 0)) (hE : own_E vs en.toNatClampNeg lg.toInt) (hn : 0 ≤ en.toInt ∧ en.toInt ≤ z.toInt) (hs : 1 ≤ sz.toInt) (hd : 0 ≤ ff.toInt ∧ ft.toInt = ff.toInt + 1) (hg : 1 ≤ lg.toInt ∧ lf.toInt = ft.toInt + lg.toInt) (hl1 : lt.toInt = lf.toInt + 1) :
    own_Met lL jy34 (Jvm.Cond.code jy34 prog_38_method_7_code 4 (some .boolean) :: ws) jr35 #[(.ref st), (.long o)] Z h0 (Q_rm_cB Z st pa pg kq sz ff ft lg lf lt ba kb en z vs o h0 n0) := by
  refine own_begin (plainFor_of_name own_pn_com_example_portion_portion_server_OffsetSet) (fun mM => own_ef_rm_cB mM st o) fun pP eE sS mM below meth cC s₁ hx hby hml hZ hown hnm hre hlk X0 e0 => ?_
  have hC := @Jvm.hb _ _ hby
  have N0 := Fr.nil n0
  have K0 := Keep.refl h0 ([] : List Addr)
  by_cases hc1_ : o < ff
  · have t2_ := own_tlt hc1_
    let ll1 : Array Slot := #[vR st, vJ o, vS, vU]
    refine jg s₁ mM 2 ll1 [(.long o), (.ref st)] (fun tT kK => ?_) ?_
    · refine XS.aloadN X0.here hx rfl (hC e38_0.1) rfl rfl ?_
      refine XS.lloadN X0.here hx rfl (hC e38_0.2.1) rfl ?_
      exact kK
    refine jw X0 hx hZ (y := jy4) hown (jk hw 36 rfl) (jk hw 37 rfl) (own_selP (y := jy4) hZ (jk hw 2 rfl) (jk hw 38 rfl) (jk hw 37 rfl) (by decide)) (jk hw 38 rfl) (jk hw 39 rfl) (jk hw 3 rfl) (rm_pan lL Z a0 hw [] st pa pg kq o ff h0 n0 (Nat.le_trans Z0 K0.1) Fc Fp Vp G0.g1 (by omega)) Es e0 own_pd14 [(.long o)] [] (hC e38_0.2.2.1) rfl rfl (by rw [hml]; rfl) (by decide) 0 (Nat.le_of_eq rfl) (by decide) (by decide) (by decide : 0 + 0 ≤ _) (by decide : 0 + 0 ≤ _) fun vv3_ T3_ L3_ X3_ hQ3_ => ?_
    obtain ⟨rfl, N3_q, p3__0⟩ := hQ3_
    have N3_ := Fr.app N0 N3_q
    let ll2 : Array Slot := #[vR st, vJ o, vS, vI (-1)]
    refine jg T3_ mM 28 ll2 [(.int 0)] (fun tT kK => ?_) ?_
    · refine XS.istoreN X3_.here hx rfl (hC e38_0.2.2.2) rfl (l' := ll2) rfl ?_
      refine XS.iloadN X3_.here hx rfl (hC e38_6.1) rfl ?_
      refine XS.ifYes X3_.here hx rfl (pc0 := 7) (pc' := 27) rfl (hC e38_6.2.1) rfl ((if0 _ _).trans (tlt ((by decide) : (-1 : Int32) < (0 : Int32))).1) (by decide) (by decide) ?_
      refine XS.iconst X3_.here hx rfl (hC e38_6.2.2.1) ?_
      exact kK
    have t4_ : (0 : Int32).toInt = 0 := rfl
    exact own_rL X3_ hx hlk hre (by simp) (hC e38_6.2.2.2) (w := (.int 0)) rfl p3__0 (by decide) (by decide) ⟨(0 : Int32), rfl, N3_, K0, (by omega)⟩
  · have t5_ := own_tnl hc1_
    let ll3 : Array Slot := #[vR st, vJ o, vS, vU]
    refine jg s₁ mM 2 ll3 [(.long o), (.ref st)] (fun tT kK => ?_) ?_
    · refine XS.aloadN X0.here hx rfl (hC e38_0.1) rfl rfl ?_
      refine XS.lloadN X0.here hx rfl (hC e38_0.2.1) rfl ?_
      exact kK
    refine jw X0 hx hZ (y := jy4) hown (jk hw 36 rfl) (jk hw 37 rfl) (own_selP (y := jy4) hZ (jk hw 2 rfl) (jk hw 38 rfl) (jk hw 37 rfl) (by decide)) (jk hw 38 rfl) (jk hw 39 rfl) (jk hw 3 rfl) (rm_pay lL Z a0 hw [] st pa pg kq o ff h0 n0 (Nat.le_trans Z0 K0.1) Fc Fp Vp G0.g1 (by omega)) Es e0 own_pd14 [(.long o)] [] (hC e38_0.2.2.1) rfl rfl (by rw [hml]; rfl) (by decide) 0 (Nat.le_of_eq rfl) (by decide) (by decide) (by decide : 0 + 0 ≤ _) (by decide : 0 + 0 ≤ _) fun vv6_ T6_ L6_ X6_ hQ6_ => ?_
    obtain ⟨rfl, N6_q, p6__0⟩ := hQ6_
    have N6_ := Fr.app N0 N6_q
    let ll4 : Array Slot := #[vR st, vJ o, vS, vI 0]
    refine jg T6_ mM 11 ll4 [(.ref st)] (fun tT kK => ?_) ?_
    · refine XS.istoreN X6_.here hx rfl (hC e38_0.2.2.2) rfl (l' := ll4) rfl ?_
      refine XS.iloadN X6_.here hx rfl (hC e38_6.1) rfl ?_
      refine XS.ifNo X6_.here hx rfl (hC e38_6.2.1) rfl ((if0 _ _).trans (flt ((by decide) : ¬ ((0 : Int32) < (0 : Int32)))).1) ?_
      refine XS.aloadN X6_.here hx rfl (hC e38_10.1) rfl rfl ?_
      exact kK
    refine jf X6_ hx hZ hown (jk hw 12 rfl) p6__0 Fp (hC e38_10.2.1) fun T7_ X7_ e7_ => ?_
    refine jg T7_ mM 15 ll4 [(.int 0), (.ref pa)] (fun tT kK => ?_) ?_
    · refine XS.iloadN X7_.here hx rfl (hC e38_10.2.2.1) rfl ?_
      exact kK
    obtain ⟨cl8_, Ar8_, qk8_, Sz8_, Nn8_, Hh8_, Gg8_⟩ := id Vp
    have hin9_ : ¬ ((0 : Int32) < 0 ∨ cl8_.slots.size ≤ ((0 : Int32)).toNatClampNeg) := inb_of Sz8_ ⟨by decide, by decide⟩
    have hat9_ : cl8_.slots[((0 : Int32)).toNatClampNeg]? = some (.ref pg) := Hh8_.at hin9_ rfl
    refine jg T7_ mM 17 ll4 [(.long o), (.ref pg)] (fun tT kK => ?_) ?_
    · refine X7_.aaload hx (j := (0 : Int32)) (v := (.ref pg)) (own_rw e7_ Ar8_.1) (State.isArrayOf_alike hZ.alike Ar8_.2.1) rfl Ar8_.2.2 hin9_ hat9_ (g := (mkF mM 15 ll4 [(.int 0), (.ref pa)])) rfl rfl (hC e38_10.2.2.2) _ ?_
      refine XS.lloadN X7_.here hx rfl (hC e38_16.1) rfl ?_
      exact kK
    refine jv X7_ hx hZ (y := jy33) hown (jk hw 240 rfl) (jk hw 241 rfl) (jk hw 243 rfl) (jk hw 242 rfl) (jk hw 244 rfl) (jk hw 56 rfl) (rm_cpB lL Z a0 hw [] pg sz ff ft lg lf lt ba kb en z vs o h0 n0 (Nat.le_trans Z0 K0.1) G0 Vb hE (by omega) (by omega) (by omega) (by omega) (by omega) (by omega)) G0.E e7_ own_pd16 [(.long o)] [] (hC e38_16.2) rfl rfl (by rw [hml]; rfl) (by decide) 0 (Nat.le_of_eq rfl) (by decide) (by decide) (by decide : 0 + 1 ≤ _) (by decide : 0 + 4 ≤ _) fun vv10_ T10_ L10_ X10_ hQ10_ => ?_
    obtain ⟨c'_10_, rfl, N10_q, p10__0, p10__1⟩ := hQ10_
    have N10_ := Fr.app N6_ N10_q
    have K10_ := K0.trans p10__0 all0
    by_cases hc20_17_ : c'_10_ = (0 : Int32)
    · refine jg T10_ mM 27 ll4 [] (fun tT kK => ?_) ?_
      · refine XS.ifYes X10_.here hx rfl (pc0 := 20) (pc' := 27) rfl (hC e38_20.1) rfl ((if0 _ _).trans (teq (hc20_17_ : c'_10_ = (0 : Int32))).1) (by decide) (by decide) ?_
        exact kK
      have t18_ : (0 : Int32).toInt = 0 := rfl
      have t19_ := congrArg Int32.toInt hc20_17_
      refine jg T10_ mM 28 ll4 [(.int 0)] (fun tT kK => ?_) ?_
      · refine XS.iconst X10_.here hx rfl (hC e38_6.2.2.1) ?_
        exact kK
      exact own_rL X10_ hx hlk hre (by simp) (hC e38_6.2.2.2) (w := (.int 0)) rfl rfl (by decide) (by decide) ⟨(0 : Int32), rfl, N10_, K10_, (by omega)⟩
    · refine jg T10_ mM 23 ll4 [] (fun tT kK => ?_) ?_
      · refine XS.ifNo X10_.here hx rfl (hC e38_20.1) rfl ((if0 _ _).trans (feq (hc20_17_ : ¬ (c'_10_ = (0 : Int32)))).1) ?_
        exact kK
      have t20_ : (0 : Int32).toInt = 0 := rfl
      have t21_ := own_tne3 hc20_17_
      refine jg T10_ mM 28 ll4 [(.int 1)] (fun tT kK => ?_) ?_
      · refine XS.iconst X10_.here hx rfl (hC e38_20.2.1) ?_
        refine XS.goto X10_.here hx rfl (pc0 := 24) (pc' := 28) rfl (hC e38_20.2.2) (by decide) (by decide) ?_
        exact kK
      have t22_ : (1 : Int32).toInt = 1 := rfl
      exact own_rL X10_ hx hlk hre (by simp) (hC e38_6.2.2.2) (w := (.int 1)) rfl rfl (by decide) (by decide) ⟨(1 : Int32), rfl, N10_, K10_, (by omega)⟩
theorem e37_0 : jD35 0 (.aload_n 0, 1) ∧ jD35 1 (.lload_n 1, 1) ∧ jD35 2 (.invokevirtual 106, 3) ∧ jD35 5 (.istore_n 3, 1) := by decide +kernel
theorem e37_6 : jD35 6 (.iload_n 3, 1) ∧ jD35 7 (.ifCond .eq 20, 3) ∧ jD35 27 (.iload_n 3, 1) ∧ jD35 28 (.ifCond .eq 17, 3) := by decide +kernel
theorem e37_45 : jD35 45 (.iload_n 3, 1) ∧ jD35 46 (.ireturn, 1) ∧ jD35 10 (.lload_n 1, 1) ∧ jD35 11 (.aload_n 0, 1) := by decide +kernel
theorem e37_12 : jD35 12 (.invokevirtual 39, 3) ∧ jD35 15 (.lcmp, 1) ∧ jD35 16 (.ifCond .ne 11, 3) ∧ jD35 19 (.aload_n 0, 1) := by decide +kernel
theorem e37_20 : jD35 20 (.invokevirtual 107, 3) ∧ jD35 23 (.pop2, 1) ∧ jD35 24 (.goto 21, 3) ∧ jD35 31 (.aload_n 0, 1) := by decide +kernel
theorem e37_32 : jD35 32 (.aload_n 0, 1) ∧ jD35 33 (.lload_n 1, 1) ∧ jD35 34 (.invokevirtual 51, 3) ∧ jD35 37 (.lload_n 1, 1) := by decide +kernel
theorem e37_38 : jD35 38 (.lload_n 1, 1) ∧ jD35 39 (.lconst 1, 1) ∧ jD35 40 (.ladd, 1) ∧ jD35 41 (.iconst 0, 1) := by decide +kernel
theorem d37_42 : jD35 42 (.invokevirtual 82, 3) := by decide +kernel
theorem own_ef_rm_mA (mM : MethodId) (x0 : Addr) (x1 : Int64) : entryFrame mM #[(.ref x0), (.long x1)] 4 = mkF mM 0 #[.val (.ref x0), .val (.long x1), .second, .unset] [] := by first | (simp [entryFrame, mkF, argsToLocals, Value.category]; done) | rfl
def Q_rm_mA (Z : State) (pg : Addr) (st : Addr) (pa : Addr) (np : Addr) (nb : Addr) (kq : ClassId) (kp : ClassId) (kn : ClassId) (pb : Int32) (zs : Int64) (sz : Int64) (ff : Int64) (ft : Int64) (lg : Int64) (lf : Int64) (lt : Int64) (o : Int64) (h0 : Heap) (n0 : Nat) (vV : Option Value) (hH : Heap) (lA : List Loc) : Prop := ∃ b' : Int32, ∃ z' : Int64, vV = some (.int b') ∧ Fr n0 lA ∧ (Keep h0 hH [st, pg]) ∧ (z'.toInt = 0 ↔ (o.toInt = ff.toInt ∧ zs.toInt = 1)) ∧ (jE0 Z hH st) ∧ (jF0 Z hH st (.long z'))
theorem rm_mA (lL : Launch) (Z : State) (a0 : Array Value) (hw : own_H a0 Z) (ws : List Jvm.Cond) (pg : Addr) (st : Addr) (pa : Addr) (np : Addr) (nb : Addr) (kq : ClassId) (kp : ClassId) (kn : ClassId) (pb : Int32) (zs : Int64) (sz : Int64) (ff : Int64) (ft : Int64) (lg : Int64) (lf : Int64) (lt : Int64) (o : Int64) (h0 : Heap) (n0 : Nat) (Z0 : n0 ≤ h0.size) (F0 : own_bO Z h0 st zs (.ref pa) (1 : Int32) pb) (Vp : Arv Z h0 pa kq (.object "com/example/portion/portion/server/OffsetSet$Page") (2 : Int32) [(.ref pg), .null] .null) (Vn : Arv Z h0 np kp (.object "com/example/portion/portion/server/OffsetSet$Page") (0 : Int32) [] .null) (Vm : Arv Z h0 nb kn .byte (0 : Int32) [] (.int 0)) (Zp : Sta Z Z.heap "com/example/portion/portion/server/OffsetSet" "NO_PAGES" "[Lcom/example/portion/portion/server/OffsetSet$Page;" (.ref np)) (Zb : Sta Z Z.heap "com/example/portion/portion/server/OffsetSet" "NO_BYTES" "[B" (.ref nb)) (O0 : Old Z n0 h0) (G0 : own_bP Z h0 pg sz ff ft (.ref nb) (0 : Int32) (0 : Int32) (-1 : Int32) lg lf lt) (g_st : n0 ≤ st) (g_pg : n0 ≤ pg) (ne_np_pa : np ≠ pa) (hf0 : 0 ≤ ff.toInt ∧ ff.toInt < 9223372036854775807) (hp : 1 ≤ pb.toInt ∧ pb.toInt ≤ 1024) (hzz : sz.toInt = zs.toInt) (hzd : (zs.toInt = 1 ∧ ft.toInt = ff.toInt + 1) ∨ (zs.toInt = 2 ∧ ft.toInt = ff.toInt + 2)) :
    own_Met lL jy35 (Jvm.Cond.code jy35 prog_38_method_11_code 4 (some .boolean) :: ws) jr36 #[(.ref st), (.long o)] Z h0 (Q_rm_mA Z pg st pa np nb kq kp kn pb zs sz ff ft lg lf lt o h0 n0) := by
  refine own_begin (plainFor_of_name own_pn_com_example_portion_portion_server_OffsetSet) (fun mM => own_ef_rm_mA mM st o) fun pP eE sS mM below meth cC s₁ hx hby hml hZ hown hnm hre hlk X0 e0 => ?_
  have hC := @Jvm.hb _ _ hby
  have N0 := Fr.nil n0
  have K0 := Keep.refl h0 [st, pg]
  have rft := rng64 ft
  let ll1 : Array Slot := #[vR st, vJ o, vS, vU]
  refine jg s₁ mM 2 ll1 [(.long o), (.ref st)] (fun tT kK => ?_) ?_
  · refine XS.aloadN X0.here hx rfl (hC e37_0.1) rfl rfl ?_
    refine XS.lloadN X0.here hx rfl (hC e37_0.2.1) rfl ?_
    exact kK
  refine jv X0 hx hZ (y := jy34) hown (jk hw 235 rfl) (jk hw 236 rfl) (jk hw 238 rfl) (jk hw 237 rfl) (jk hw 239 rfl) (jk hw 3 rfl) (rm_cA lL Z a0 hw [] st pa pg kq nb sz ff ft lg lf lt o h0 n0 (Nat.le_trans Z0 K0.1) F0.E F0.g2 F0.g1 Vp G0 (by omega)) F0.E e0 own_pd16 [(.long o)] [] (hC e37_0.2.2.1) rfl rfl (by rw [hml]; rfl) (by decide) 0 (Nat.le_of_eq rfl) (by decide) (by decide) (by decide : 0 + 1 ≤ _) (by decide : 0 + 4 ≤ _) fun vv1_ T1_ L1_ X1_ hQ1_ => ?_
  obtain ⟨c'_1_, rfl, N1_q, p1__0, p1__1⟩ := hQ1_
  have N1_ := Fr.app N0 N1_q
  have fc2_ := F0.keep p1__0 nin0
  have fc3_ := Vp.keep p1__0 nin0
  have fc4_ := Vn.keep p1__0 nin0
  have fc5_ := Vm.keep p1__0 nin0
  have fc6_ := O0.keep p1__0 all0
  have fc7_ := G0.keep p1__0 nin0
  have K1_ := K0.trans p1__0 all0
  let ll2 : Array Slot := #[vR st, vJ o, vS, vI c'_1_]
  refine jg T1_ mM 7 ll2 [(.int c'_1_)] (fun tT kK => ?_) ?_
  · refine XS.istoreN X1_.here hx rfl (hC e37_0.2.2.2) rfl (l' := ll2) rfl ?_
    refine XS.iloadN X1_.here hx rfl (hC e37_6.1) rfl ?_
    exact kK
  by_cases hc7_8_ : c'_1_ = (0 : Int32)
  · refine jg T1_ mM 27 ll2 [] (fun tT kK => ?_) ?_
    · refine XS.ifYes X1_.here hx rfl (pc0 := 7) (pc' := 27) rfl (hC e37_6.2.1) rfl ((if0 _ _).trans (teq (hc7_8_ : c'_1_ = (0 : Int32))).1) (by decide) (by decide) ?_
      exact kK
    have t9_ : (0 : Int32).toInt = 0 := rfl
    have t10_ := congrArg Int32.toInt hc7_8_
    refine jg T1_ mM 46 ll2 [(.int c'_1_)] (fun tT kK => ?_) ?_
    · refine XS.iloadN X1_.here hx rfl (hC e37_6.2.2.1) rfl ?_
      refine XS.ifYes X1_.here hx rfl (pc0 := 28) (pc' := 45) rfl (hC e37_6.2.2.2) rfl ((if0 _ _).trans (teq (hc7_8_ : c'_1_ = (0 : Int32))).1) (by decide) (by decide) ?_
      refine XS.iloadN X1_.here hx rfl (hC e37_45.1) rfl ?_
      exact kK
    exact own_rN X1_ hx hlk hre (by simp) (hC e37_45.2.1) rfl (by decide) (by decide) ⟨(nar .boolean c'_1_), zs, rfl, N1_, K1_, (by omega), fc2_.E, fc2_.g0⟩
  · refine jg T1_ mM 10 ll2 [] (fun tT kK => ?_) ?_
    · refine XS.ifNo X1_.here hx rfl (hC e37_6.2.1) rfl ((if0 _ _).trans (feq (hc7_8_ : ¬ (c'_1_ = (0 : Int32)))).1) ?_
      exact kK
    have t11_ : (0 : Int32).toInt = 0 := rfl
    have t12_ := own_tne3 hc7_8_
    refine jg T1_ mM 12 ll2 [(.ref st), (.long o)] (fun tT kK => ?_) ?_
    · refine XS.lloadN X1_.here hx rfl (hC e37_45.2.2.1) rfl ?_
      refine XS.aloadN X1_.here hx rfl (hC e37_45.2.2.2) rfl rfl ?_
      exact kK
    refine jv X1_ hx hZ (y := jy25) hown (jk hw 99 rfl) (jk hw 100 rfl) (jk hw 102 rfl) (jk hw 101 rfl) (jk hw 103 rfl) (jk hw 3 rfl) (rm_fi lL Z a0 hw [] st pa pg kq ff zs T1_.heap n0 (Nat.le_trans Z0 K1_.1) fc2_.g0 fc2_.g1 fc3_ fc7_.g1 (by omega)) fc2_.E rfl own_pd4 [] [(.long o)] (hC e37_12.1) rfl rfl (by rw [hml]; rfl) (by decide) 2 (Nat.le_of_eq rfl) (by decide) (by decide) (by decide : 1 + 0 ≤ _) (by decide : 4 + 0 ≤ _) fun vv13_ T13_ L13_ X13_ hQ13_ => ?_
    obtain ⟨rfl, N13_q, p13__0⟩ := hQ13_
    have N13_ := Fr.app N1_ N13_q
    refine jg T13_ mM 16 ll2 [(.int (lcmpW o ff))] (fun tT kK => ?_) ?_
    · refine XS.lcmp X13_.here hx rfl (hC e37_12.2.1) rfl ?_
      exact kK
    by_cases hc16_14_ : o = ff
    · refine jg T13_ mM 19 ll2 [] (fun tT kK => ?_) ?_
      · refine XS.ifNo X13_.here hx rfl (hC e37_12.2.2.1) rfl ((if0 _ _).trans (teq ((lw_eq o ff).mpr (hc16_14_ : o = ff))).2) ?_
        exact kK
      have t15_ := congrArg Int64.toInt hc16_14_
      refine jg T13_ mM 20 ll2 [(.ref st)] (fun tT kK => ?_) ?_
      · refine XS.aloadN X13_.here hx rfl (hC e37_12.2.2.2) rfl rfl ?_
        exact kK
      refine jv X13_ hx hZ (y := jy26) hown (jk hw 250 rfl) (jk hw 95 rfl) (jk hw 97 rfl) (jk hw 96 rfl) (jk hw 98 rfl) (jk hw 3 rfl) (rm_RA lL Z a0 hw [] pg st pa np nb kq kp kn pb zs sz ff ft lg lf lt T1_.heap n0 (Nat.le_trans Z0 K1_.1) fc2_ fc3_ fc4_ fc5_ Zp Zb fc6_ fc7_ g_st g_pg ne_np_pa (by omega) (by omega) (by omega)) fc2_.E p13__0 own_pd4 [] [] (hC e37_20.1) rfl rfl (by rw [hml]; rfl) (by decide) 0 (Nat.le_of_eq rfl) (by decide) (by decide) (by decide : 1 + 1 ≤ _) (by decide : 4 + 4 ≤ _) fun vv16_ T16_ L16_ X16_ hQ16_ => ?_
      obtain ⟨z'_16_, rfl, N16_q, p16__0, p16__1, p16__2, p16__3⟩ := hQ16_
      have N16_ := Fr.app N13_ N16_q
      have K16_ := K1_.trans p16__0 (allS (Or.inl (List.mem_of_getElem? (i := 0) rfl)) (allS (Or.inl (List.mem_of_getElem? (i := 1) rfl)) all0))
      refine jg T16_ mM 46 ll2 [(.int c'_1_)] (fun tT kK => ?_) ?_
      · jvm_step X16_.here [X16_.here.top, hx, (hC e37_20.2.1), Value.category]
        refine XS.goto X16_.here hx rfl (pc0 := 24) (pc' := 45) rfl (hC e37_20.2.2.1) (by decide) (by decide) ?_
        refine XS.iloadN X16_.here hx rfl (hC e37_45.1) rfl ?_
        exact kK
      exact own_rN X16_ hx hlk hre (by simp) (hC e37_45.2.1) rfl (by decide) (by decide) ⟨(nar .boolean c'_1_), z'_16_, rfl, N16_, K16_, (by omega), p16__2, p16__3⟩
    · refine jg T13_ mM 27 ll2 [] (fun tT kK => ?_) ?_
      · refine XS.ifYes X13_.here hx rfl (pc0 := 16) (pc' := 27) rfl (hC e37_12.2.2.1) rfl ((if0 _ _).trans (feq (mt (lw_eq o ff).mp (hc16_14_ : ¬ (o = ff)))).2) (by decide) (by decide) ?_
        exact kK
      have t29_ := own_tne hc16_14_
      refine jg T13_ mM 34 ll2 [(.long o), (.ref st), (.ref st)] (fun tT kK => ?_) ?_
      · refine XS.iloadN X13_.here hx rfl (hC e37_6.2.2.1) rfl ?_
        refine XS.ifNo X13_.here hx rfl (hC e37_6.2.2.2) rfl ((if0 _ _).trans (feq (hc7_8_ : ¬ (c'_1_ = (0 : Int32)))).1) ?_
        refine XS.aloadN X13_.here hx rfl (hC e37_20.2.2.2) rfl rfl ?_
        refine XS.aloadN X13_.here hx rfl (hC e37_32.1) rfl rfl ?_
        refine XS.lloadN X13_.here hx rfl (hC e37_32.2.1) rfl ?_
        exact kK
      refine jw X13_ hx hZ (y := jy4) hown (jk hw 36 rfl) (jk hw 37 rfl) (own_selP (y := jy4) hZ (jk hw 2 rfl) (jk hw 38 rfl) (jk hw 37 rfl) (by decide)) (jk hw 38 rfl) (jk hw 39 rfl) (jk hw 3 rfl) (rm_pay lL Z a0 hw [] st pa pg kq o ff T1_.heap n0 (Nat.le_trans Z0 K1_.1) fc2_.g2 fc2_.g1 fc3_ fc7_.g1 (by omega)) fc2_.E p13__0 own_pd14 [(.long o)] [(.ref st)] (hC e37_32.2.2.1) rfl rfl (by rw [hml]; rfl) (by decide) 1 (Nat.le_of_eq rfl) (by decide) (by decide) (by decide : 1 + 0 ≤ _) (by decide : 4 + 0 ≤ _) fun vv30_ T30_ L30_ X30_ hQ30_ => ?_
      obtain ⟨rfl, N30_q, p30__0⟩ := hQ30_
      have N30_ := Fr.app N13_ N30_q
      refine jg T30_ mM 42 ll2 [(.int 0), (.long (o + (1 : Int64))), (.long o), (.int 0), (.ref st)] (fun tT kK => ?_) ?_
      · refine XS.lloadN X30_.here hx rfl (hC e37_32.2.2.2) rfl ?_
        refine XS.lloadN X30_.here hx rfl (hC e37_38.1) rfl ?_
        refine XS.lconst X30_.here hx rfl (hC e37_38.2.1) ?_
        refine XS.ladd X30_.here hx rfl (hC e37_38.2.2.1) rfl ?_
        refine XS.iconst X30_.here hx rfl (hC e37_38.2.2.2) ?_
        exact kK
      have t31_ : (1 : Int64).toInt = 1 := rfl
      have t32_ := own_add (x := o) (y := (1 : Int64)) (by omega)
      refine jw X30_ hx hZ (y := jy28) hown (jk hw 201 rfl) (jk hw 202 rfl) (own_selP (y := jy28) hZ (jk hw 2 rfl) (jk hw 203 rfl) (jk hw 202 rfl) (by decide)) (jk hw 203 rfl) (jk hw 204 rfl) (jk hw 3 rfl) (rm_E1 lL Z a0 hw [] pg st pa np nb kq kp kn pb zs sz ff ft lg lf lt o (o + (1 : Int64)) (0 : Int32) T1_.heap n0 (Nat.le_trans Z0 K1_.1) fc2_ fc3_ fc4_ fc5_ Zp Zb fc6_ fc7_ g_st g_pg ne_np_pa (by omega) (by omega) (by omega) (by omega) (by omega) (by omega)) fc2_.E p30__0 own_pd15 [(.int 0), (.long o), (.long (o + (1 : Int64))), (.int 0)] [] (hC d37_42) rfl rfl (by rw [hml]; rfl) (by decide) 0 (Nat.le_of_eq rfl) (by decide) (by decide) (by decide : 1 + 2 ≤ _) (by decide : 4 + 61 ≤ _) fun vv33_ T33_ L33_ X33_ hQ33_ => ?_
      obtain ⟨z'_33_, s'_33_, f'_33_, t'_33_, rfl, N33_q, p33__0, p33__1, p33__2, p33__3, p33__4⟩ := hQ33_
      have N33_ := Fr.app N30_ N33_q
      have K33_ := K1_.trans p33__0 (allS (Or.inl (List.mem_of_getElem? (i := 0) rfl)) (allS (Or.inl (List.mem_of_getElem? (i := 1) rfl)) all0))
      refine jg T33_ mM 46 ll2 [(.int c'_1_)] (fun tT kK => ?_) ?_
      · refine XS.iloadN X33_.here hx rfl (hC e37_45.1) rfl ?_
        exact kK
      exact own_rN X33_ hx hlk hre (by simp) (hC e37_45.2.1) rfl (by decide) (by decide) ⟨(nar .boolean c'_1_), z'_33_, rfl, N33_, K33_, (by omega), p33__3.E, p33__3.g0⟩
theorem own_ef_rm_mB (mM : MethodId) (x0 : Addr) (x1 : Int64) : entryFrame mM #[(.ref x0), (.long x1)] 4 = mkF mM 0 #[.val (.ref x0), .val (.long x1), .second, .unset] [] := by first | (simp [entryFrame, mkF, argsToLocals, Value.category]; done) | rfl
def Q_rm_mB (Z : State) (pg : Addr) (st : Addr) (pa : Addr) (np : Addr) (nb : Addr) (kq : ClassId) (kp : ClassId) (kn : ClassId) (pb : Int32) (zs : Int64) (sz : Int64) (ff : Int64) (ft : Int64) (lg : Int64) (lf : Int64) (lt : Int64) (ba : Addr) (kb : ClassId) (en : Int32) (z : Int32) (vs : List Value) (o : Int64) (h0 : Heap) (n0 : Nat) (vV : Option Value) (hH : Heap) (lA : List Loc) : Prop := ∃ b' : Int32, ∃ z' : Int64, vV = some (.int b') ∧ Fr n0 lA ∧ (Keep h0 hH [st, pg]) ∧ (1 ≤ z'.toInt) ∧ (jE0 Z hH st) ∧ (jF0 Z hH st (.long z'))
theorem rm_mB (lL : Launch) (Z : State) (a0 : Array Value) (hw : own_H a0 Z) (ws : List Jvm.Cond) (pg : Addr) (st : Addr) (pa : Addr) (np : Addr) (nb : Addr) (kq : ClassId) (kp : ClassId) (kn : ClassId) (pb : Int32) (zs : Int64) (sz : Int64) (ff : Int64) (ft : Int64) (lg : Int64) (lf : Int64) (lt : Int64) (ba : Addr) (kb : ClassId) (en : Int32) (z : Int32) (vs : List Value) (o : Int64) (h0 : Heap) (n0 : Nat) (Z0 : n0 ≤ h0.size) (F0 : own_bO Z h0 st zs (.ref pa) (1 : Int32) pb) (Vp : Arv Z h0 pa kq (.object "com/example/portion/portion/server/OffsetSet$Page") (2 : Int32) [(.ref pg), .null] .null) (Vn : Arv Z h0 np kp (.object "com/example/portion/portion/server/OffsetSet$Page") (0 : Int32) [] .null) (Vm : Arv Z h0 nb kn .byte (0 : Int32) [] (.int 0)) (Zp : Sta Z Z.heap "com/example/portion/portion/server/OffsetSet" "NO_PAGES" "[Lcom/example/portion/portion/server/OffsetSet$Page;" (.ref np)) (Zb : Sta Z Z.heap "com/example/portion/portion/server/OffsetSet" "NO_BYTES" "[B" (.ref nb)) (O0 : Old Z n0 h0) (G0 : own_bP Z h0 pg sz ff ft (.ref ba) (0 : Int32) en (0 : Int32) lg lf lt) (Vb : Arv Z h0 ba kb .byte z vs (.int 0)) (hE : own_E vs en.toNatClampNeg lg.toInt) (hn : 0 ≤ en.toInt ∧ en.toInt ≤ z.toInt) (g_st : n0 ≤ st) (g_pg : n0 ≤ pg) (ne_np_pa : np ≠ pa) (hf0 : 0 ≤ ff.toInt ∧ ff.toInt < 9223372036854775807) (hd : ft.toInt = ff.toInt + 1) (hg : 1 ≤ lg.toInt ∧ lf.toInt = ft.toInt + lg.toInt) (hl1 : lt.toInt = lf.toInt + 1) (hp : 1 ≤ pb.toInt ∧ pb.toInt ≤ 1024) (hzz : sz.toInt = 2) (hzd : zs.toInt = 2) :
    own_Met lL jy35 (Jvm.Cond.code jy35 prog_38_method_11_code 4 (some .boolean) :: ws) jr36 #[(.ref st), (.long o)] Z h0 (Q_rm_mB Z pg st pa np nb kq kp kn pb zs sz ff ft lg lf lt ba kb en z vs o h0 n0) := by
  refine own_begin (plainFor_of_name own_pn_com_example_portion_portion_server_OffsetSet) (fun mM => own_ef_rm_mB mM st o) fun pP eE sS mM below meth cC s₁ hx hby hml hZ hown hnm hre hlk X0 e0 => ?_
  have hC := @Jvm.hb _ _ hby
  have N0 := Fr.nil n0
  have K0 := Keep.refl h0 [st, pg]
  have rlt := rng64 lt
  let ll1 : Array Slot := #[vR st, vJ o, vS, vU]
  refine jg s₁ mM 2 ll1 [(.long o), (.ref st)] (fun tT kK => ?_) ?_
  · refine XS.aloadN X0.here hx rfl (hC e37_0.1) rfl rfl ?_
    refine XS.lloadN X0.here hx rfl (hC e37_0.2.1) rfl ?_
    exact kK
  refine jv X0 hx hZ (y := jy34) hown (jk hw 235 rfl) (jk hw 236 rfl) (jk hw 238 rfl) (jk hw 237 rfl) (jk hw 239 rfl) (jk hw 3 rfl) (rm_cB lL Z a0 hw [] st pa pg kq sz ff ft lg lf lt ba kb en z vs o h0 n0 (Nat.le_trans Z0 K0.1) F0.E F0.g2 F0.g1 Vp G0 Vb hE hn (by omega) (by omega) (by omega) (by omega)) F0.E e0 own_pd16 [(.long o)] [] (hC e37_0.2.2.1) rfl rfl (by rw [hml]; rfl) (by decide) 0 (Nat.le_of_eq rfl) (by decide) (by decide) (by decide : 0 + 1 ≤ _) (by decide : 0 + 4 ≤ _) fun vv1_ T1_ L1_ X1_ hQ1_ => ?_
  obtain ⟨c'_1_, rfl, N1_q, p1__0, p1__1⟩ := hQ1_
  have N1_ := Fr.app N0 N1_q
  have fc2_ := F0.keep p1__0 nin0
  have fc3_ := Vp.keep p1__0 nin0
  have fc4_ := Vn.keep p1__0 nin0
  have fc5_ := Vm.keep p1__0 nin0
  have fc6_ := O0.keep p1__0 all0
  have fc7_ := G0.keep p1__0 nin0
  have fc8_ := Vb.keep p1__0 nin0
  have K1_ := K0.trans p1__0 all0
  let ll2 : Array Slot := #[vR st, vJ o, vS, vI c'_1_]
  refine jg T1_ mM 7 ll2 [(.int c'_1_)] (fun tT kK => ?_) ?_
  · refine XS.istoreN X1_.here hx rfl (hC e37_0.2.2.2) rfl (l' := ll2) rfl ?_
    refine XS.iloadN X1_.here hx rfl (hC e37_6.1) rfl ?_
    exact kK
  by_cases hc7_9_ : c'_1_ = (0 : Int32)
  · refine jg T1_ mM 27 ll2 [] (fun tT kK => ?_) ?_
    · refine XS.ifYes X1_.here hx rfl (pc0 := 7) (pc' := 27) rfl (hC e37_6.2.1) rfl ((if0 _ _).trans (teq (hc7_9_ : c'_1_ = (0 : Int32))).1) (by decide) (by decide) ?_
      exact kK
    have t10_ : (0 : Int32).toInt = 0 := rfl
    have t11_ := congrArg Int32.toInt hc7_9_
    refine jg T1_ mM 46 ll2 [(.int c'_1_)] (fun tT kK => ?_) ?_
    · refine XS.iloadN X1_.here hx rfl (hC e37_6.2.2.1) rfl ?_
      refine XS.ifYes X1_.here hx rfl (pc0 := 28) (pc' := 45) rfl (hC e37_6.2.2.2) rfl ((if0 _ _).trans (teq (hc7_9_ : c'_1_ = (0 : Int32))).1) (by decide) (by decide) ?_
      refine XS.iloadN X1_.here hx rfl (hC e37_45.1) rfl ?_
      exact kK
    exact own_rN X1_ hx hlk hre (by simp) (hC e37_45.2.1) rfl (by decide) (by decide) ⟨(nar .boolean c'_1_), zs, rfl, N1_, K1_, (by omega), fc2_.E, fc2_.g0⟩
  · refine jg T1_ mM 10 ll2 [] (fun tT kK => ?_) ?_
    · refine XS.ifNo X1_.here hx rfl (hC e37_6.2.1) rfl ((if0 _ _).trans (feq (hc7_9_ : ¬ (c'_1_ = (0 : Int32)))).1) ?_
      exact kK
    have t12_ : (0 : Int32).toInt = 0 := rfl
    have t13_ := own_tne3 hc7_9_
    refine jg T1_ mM 12 ll2 [(.ref st), (.long o)] (fun tT kK => ?_) ?_
    · refine XS.lloadN X1_.here hx rfl (hC e37_45.2.2.1) rfl ?_
      refine XS.aloadN X1_.here hx rfl (hC e37_45.2.2.2) rfl rfl ?_
      exact kK
    refine jv X1_ hx hZ (y := jy25) hown (jk hw 99 rfl) (jk hw 100 rfl) (jk hw 102 rfl) (jk hw 101 rfl) (jk hw 103 rfl) (jk hw 3 rfl) (rm_fi lL Z a0 hw [] st pa pg kq ff zs T1_.heap n0 (Nat.le_trans Z0 K1_.1) fc2_.g0 fc2_.g1 fc3_ fc7_.g1 (by omega)) fc2_.E rfl own_pd4 [] [(.long o)] (hC e37_12.1) rfl rfl (by rw [hml]; rfl) (by decide) 2 (Nat.le_of_eq rfl) (by decide) (by decide) (by decide : 1 + 0 ≤ _) (by decide : 4 + 0 ≤ _) fun vv14_ T14_ L14_ X14_ hQ14_ => ?_
    obtain ⟨rfl, N14_q, p14__0⟩ := hQ14_
    have N14_ := Fr.app N1_ N14_q
    refine jg T14_ mM 16 ll2 [(.int (lcmpW o ff))] (fun tT kK => ?_) ?_
    · refine XS.lcmp X14_.here hx rfl (hC e37_12.2.1) rfl ?_
      exact kK
    by_cases hc16_15_ : o = ff
    · refine jg T14_ mM 19 ll2 [] (fun tT kK => ?_) ?_
      · refine XS.ifNo X14_.here hx rfl (hC e37_12.2.2.1) rfl ((if0 _ _).trans (teq ((lw_eq o ff).mpr (hc16_15_ : o = ff))).2) ?_
        exact kK
      have t16_ := congrArg Int64.toInt hc16_15_
      refine jg T14_ mM 20 ll2 [(.ref st)] (fun tT kK => ?_) ?_
      · refine XS.aloadN X14_.here hx rfl (hC e37_12.2.2.2) rfl rfl ?_
        exact kK
      refine jv X14_ hx hZ (y := jy26) hown (jk hw 250 rfl) (jk hw 95 rfl) (jk hw 97 rfl) (jk hw 96 rfl) (jk hw 98 rfl) (jk hw 3 rfl) (rm_RB lL Z a0 hw [] pg st pa np nb kq kp kn pb zs sz ff ft lg lf lt ba kb en z vs T1_.heap n0 (Nat.le_trans Z0 K1_.1) fc2_ fc3_ fc4_ fc5_ Zp Zb fc6_ fc7_ fc8_ hE hn g_st g_pg ne_np_pa (by omega) (by omega) (by omega) (by omega)) fc2_.E p14__0 own_pd4 [] [] (hC e37_20.1) rfl rfl (by rw [hml]; rfl) (by decide) 0 (Nat.le_of_eq rfl) (by decide) (by decide) (by decide : 1 + 1 ≤ _) (by decide : 4 + 4 ≤ _) fun vv17_ T17_ L17_ X17_ hQ17_ => ?_
      obtain ⟨z'_17_, rfl, N17_q, p17__0, p17__1, p17__2, p17__3⟩ := hQ17_
      have N17_ := Fr.app N14_ N17_q
      have K17_ := K1_.trans p17__0 (allS (Or.inl (List.mem_of_getElem? (i := 0) rfl)) (allS (Or.inl (List.mem_of_getElem? (i := 1) rfl)) all0))
      refine jg T17_ mM 46 ll2 [(.int c'_1_)] (fun tT kK => ?_) ?_
      · jvm_step X17_.here [X17_.here.top, hx, (hC e37_20.2.1), Value.category]
        refine XS.goto X17_.here hx rfl (pc0 := 24) (pc' := 45) rfl (hC e37_20.2.2.1) (by decide) (by decide) ?_
        refine XS.iloadN X17_.here hx rfl (hC e37_45.1) rfl ?_
        exact kK
      exact own_rN X17_ hx hlk hre (by simp) (hC e37_45.2.1) rfl (by decide) (by decide) ⟨(nar .boolean c'_1_), z'_17_, rfl, N17_, K17_, (by omega), p17__2, p17__3⟩
    · refine jg T14_ mM 27 ll2 [] (fun tT kK => ?_) ?_
      · refine XS.ifYes X14_.here hx rfl (pc0 := 16) (pc' := 27) rfl (hC e37_12.2.2.1) rfl ((if0 _ _).trans (feq (mt (lw_eq o ff).mp (hc16_15_ : ¬ (o = ff)))).2) (by decide) (by decide) ?_
        exact kK
      have t33_ := own_tne hc16_15_
      refine jg T14_ mM 34 ll2 [(.long o), (.ref st), (.ref st)] (fun tT kK => ?_) ?_
      · refine XS.iloadN X14_.here hx rfl (hC e37_6.2.2.1) rfl ?_
        refine XS.ifNo X14_.here hx rfl (hC e37_6.2.2.2) rfl ((if0 _ _).trans (feq (hc7_9_ : ¬ (c'_1_ = (0 : Int32)))).1) ?_
        refine XS.aloadN X14_.here hx rfl (hC e37_20.2.2.2) rfl rfl ?_
        refine XS.aloadN X14_.here hx rfl (hC e37_32.1) rfl rfl ?_
        refine XS.lloadN X14_.here hx rfl (hC e37_32.2.1) rfl ?_
        exact kK
      refine jw X14_ hx hZ (y := jy4) hown (jk hw 36 rfl) (jk hw 37 rfl) (own_selP (y := jy4) hZ (jk hw 2 rfl) (jk hw 38 rfl) (jk hw 37 rfl) (by decide)) (jk hw 38 rfl) (jk hw 39 rfl) (jk hw 3 rfl) (rm_pay lL Z a0 hw [] st pa pg kq o ff T1_.heap n0 (Nat.le_trans Z0 K1_.1) fc2_.g2 fc2_.g1 fc3_ fc7_.g1 (by omega)) fc2_.E p14__0 own_pd14 [(.long o)] [(.ref st)] (hC e37_32.2.2.1) rfl rfl (by rw [hml]; rfl) (by decide) 1 (Nat.le_of_eq rfl) (by decide) (by decide) (by decide : 1 + 0 ≤ _) (by decide : 4 + 0 ≤ _) fun vv34_ T34_ L34_ X34_ hQ34_ => ?_
      obtain ⟨rfl, N34_q, p34__0⟩ := hQ34_
      have N34_ := Fr.app N14_ N34_q
      refine jg T34_ mM 42 ll2 [(.int 0), (.long (o + (1 : Int64))), (.long o), (.int 0), (.ref st)] (fun tT kK => ?_) ?_
      · refine XS.lloadN X34_.here hx rfl (hC e37_32.2.2.2) rfl ?_
        refine XS.lloadN X34_.here hx rfl (hC e37_38.1) rfl ?_
        refine XS.lconst X34_.here hx rfl (hC e37_38.2.1) ?_
        refine XS.ladd X34_.here hx rfl (hC e37_38.2.2.1) rfl ?_
        refine XS.iconst X34_.here hx rfl (hC e37_38.2.2.2) ?_
        exact kK
      have t35_ : (1 : Int64).toInt = 1 := rfl
      have t36_ := own_add (x := o) (y := (1 : Int64)) (by omega)
      refine jw X34_ hx hZ (y := jy28) hown (jk hw 201 rfl) (jk hw 202 rfl) (own_selP (y := jy28) hZ (jk hw 2 rfl) (jk hw 203 rfl) (jk hw 202 rfl) (by decide)) (jk hw 203 rfl) (jk hw 204 rfl) (jk hw 3 rfl) (rm_E4 lL Z a0 hw [] pg st pa np nb kq kp kn pb zs sz ff ft lg lf lt ba kb en z vs o (o + (1 : Int64)) T1_.heap n0 (Nat.le_trans Z0 K1_.1) fc2_ fc3_ fc4_ fc5_ Zp Zb fc6_ fc7_ fc8_ hE hn g_st g_pg ne_np_pa (by omega) (by omega) (by omega) (by omega) (by omega) (by omega) (by omega) (by omega) (by omega)) fc2_.E p34__0 own_pd15 [(.int 0), (.long o), (.long (o + (1 : Int64))), (.int 0)] [] (hC d37_42) rfl rfl (by rw [hml]; rfl) (by decide) 0 (Nat.le_of_eq rfl) (by decide) (by decide) (by decide : 1 + 2 ≤ _) (by decide : 4 + 61 ≤ _) fun vv37_ T37_ L37_ X37_ hQ37_ => ?_
      obtain ⟨rfl, N37_q, p37__0, p37__1⟩ := hQ37_
      have N37_ := Fr.app N34_ N37_q
      have K37_ := K1_.trans p37__0 (allS (Or.inl (List.mem_of_getElem? (i := 0) rfl)) (allS (Or.inl (List.mem_of_getElem? (i := 1) rfl)) all0))
      refine jg T37_ mM 46 ll2 [(.int c'_1_)] (fun tT kK => ?_) ?_
      · refine XS.iloadN X37_.here hx rfl (hC e37_45.1) rfl ?_
        exact kK
      have t53_ : (0 : Int64).toInt = 0 := rfl
      have t54_ := rng64 ft
      have t55_ := rng64 ff
      have t56_ := own_sub (x := ft) (y := ff) (by omega)
      have t57_ := own_add (x := (0 : Int64)) (y := (ft - ff)) (by omega)
      have t58_ := rng64 sz
      have t59_ := own_sub (x := ((0 : Int64) + (ft - ff))) (y := sz) (by omega)
      have t60_ := own_add (x := zs) (y := (((0 : Int64) + (ft - ff)) - sz)) (by omega)
      exact own_rN X37_ hx hlk hre (by simp) (hC e37_45.2.1) rfl (by decide) (by decide) ⟨(nar .boolean c'_1_), (zs + (((0 : Int64) + (ft - ff)) - sz)), rfl, N37_, K37_, (by omega), p37__1.E, p37__1.g0⟩
theorem e30_0 : jD36 0 (.aload_n 0, 1) ∧ jD36 1 (.getfield 45, 3) ∧ jD36 4 (.lconst 0, 1) ∧ jD36 5 (.lcmp, 1) := by decide +kernel
theorem e30_6 : jD36 6 (.ifCond .le 37, 3) ∧ jD36 9 (.aload_n 0, 1) ∧ jD36 10 (.getfield 29, 3) ∧ jD36 13 (.lload_n 1, 1) := by decide +kernel
theorem e30_14 : jD36 14 (.lcmp, 1) ∧ jD36 15 (.ifCond .gt 28, 3) ∧ jD36 43 (.aload_n 0, 1) ∧ jD36 44 (.getfield 45, 3) := by decide +kernel
theorem e30_47 : jD36 47 (.lconst 0, 1) ∧ jD36 48 (.lcmp, 1) ∧ jD36 49 (.ifCond .le 32, 3) ∧ jD36 52 (.aload_n 0, 1) := by decide +kernel
theorem e30_53 : jD36 53 (.getfield 22, 3) ∧ jD36 56 (.lload_n 1, 1) ∧ jD36 57 (.lcmp, 1) ∧ jD36 58 (.ifCond .ge 23, 3) := by decide +kernel
theorem e30_61 : jD36 61 (.aload_n 0, 1) ∧ jD36 62 (.dup, 1) ∧ jD36 63 (.getfield 45, 3) ∧ jD36 66 (.lload_n 1, 1) := by decide +kernel
theorem e30_67 : jD36 67 (.aload_n 0, 1) ∧ jD36 68 (.getfield 22, 3) ∧ jD36 71 (.lsub, 1) ∧ jD36 72 (.lsub, 1) := by decide +kernel
theorem e30_73 : jD36 73 (.putfield 45, 3) ∧ jD36 76 (.aload_n 0, 1) ∧ jD36 77 (.lload_n 1, 1) ∧ jD36 78 (.putfield 22, 3) := by decide +kernel
theorem d30_81 : jD36 81 (.return_, 1) := by decide +kernel
theorem own_ef_rm_bA (mM : MethodId) (x0 : Addr) (x1 : Int64) : entryFrame mM #[(.ref x0), (.long x1)] 3 = mkF mM 0 #[.val (.ref x0), .val (.long x1), .second] [] := by first | (simp [entryFrame, mkF, argsToLocals, Value.category]; done) | rfl
def Q_rm_bA (Z : State) (a : Addr) (nb : Addr) (sz : Int64) (ff : Int64) (ft : Int64) (lg : Int64) (lf : Int64) (lt : Int64) (o : Int64) (h0 : Heap) (n0 : Nat) (vV : Option Value) (hH : Heap) (lA : List Loc) : Prop := ∃ s' : Int64, vV = none ∧ Fr n0 lA ∧ (Keep h0 hH [a]) ∧ (1 ≤ s'.toInt ∧ s'.toInt ≤ sz.toInt) ∧ (jE1 Z hH a) ∧ (jF4 Z hH a (.long s'))
theorem rm_bA (lL : Launch) (Z : State) (a0 : Array Value) (hw : own_H a0 Z) (ws : List Jvm.Cond) (a : Addr) (nb : Addr) (sz : Int64) (ff : Int64) (ft : Int64) (lg : Int64) (lf : Int64) (lt : Int64) (o : Int64) (h0 : Heap) (n0 : Nat) (Z0 : n0 ≤ h0.size) (F0 : own_bP Z h0 a sz ff ft (.ref nb) (0 : Int32) (0 : Int32) (-1 : Int32) lg lf lt) (hf0 : 0 ≤ ff.toInt ∧ ff.toInt < 9223372036854775807) (hs : (sz.toInt = 1 ∧ ft.toInt = ff.toInt + 1) ∨ (sz.toInt = 2 ∧ ft.toInt = ff.toInt + 2)) (ho : o.toInt < ft.toInt) (g_a : n0 ≤ a) :
    own_Met lL jy36 (Jvm.Cond.code jy36 prog_39_method_7_code 3 none :: ws) jr0 #[(.ref a), (.long o)] Z h0 (Q_rm_bA Z a nb sz ff ft lg lf lt o h0 n0) := by
  refine own_begin (plainFor_of_name own_pn_com_example_portion_portion_server_OffsetSet_Page) (fun mM => own_ef_rm_bA mM a o) fun pP eE sS mM below meth cC s₁ hx hby hml hZ hown hnm hre hlk X0 e0 => ?_
  have hC := @Jvm.hb _ _ hby
  have N0 := Fr.nil n0
  have K0 := Keep.refl h0 [a]
  refine jg s₁ mM 1 #[vR a, vJ o, vS] [(.ref a)] (fun tT kK => ?_) ?_
  · refine XS.aloadN X0.here hx rfl (hC e30_0.1) rfl rfl ?_
    exact kK
  refine jf X0 hx hZ hown (jk hw 91 rfl) e0 F0.g0 (hC e30_0.2.1) fun T1_ X1_ e1_ => ?_
  refine jg T1_ mM 6 #[vR a, vJ o, vS] [(.int (lcmpW sz (0 : Int64)))] (fun tT kK => ?_) ?_
  · refine XS.lconst X1_.here hx rfl (hC e30_0.2.2.1) ?_
    refine XS.lcmp X1_.here hx rfl (hC e30_0.2.2.2) rfl ?_
    exact kK
  have t2_ : (0 : Int64).toInt = 0 := rfl
  refine jg T1_ mM 10 #[vR a, vJ o, vS] [(.ref a)] (fun tT kK => ?_) ?_
  · refine XS.ifNo X1_.here hx rfl (hC e30_6.1) rfl ((if0 _ _).trans (tlt ((lw_gt sz (0 : Int64)).mpr ((own_lt (by omega)) : (0 : Int64) < sz))).2.2.2) ?_
    refine XS.aloadN X1_.here hx rfl (hC e30_6.2.1) rfl rfl ?_
    exact kK
  refine jf X1_ hx hZ hown (jk hw 89 rfl) e1_ F0.g2 (hC e30_6.2.2.1) fun T3_ X3_ e3_ => ?_
  refine jg T3_ mM 44 #[vR a, vJ o, vS] [(.ref a)] (fun tT kK => ?_) ?_
  · refine XS.lloadN X3_.here hx rfl (hC e30_6.2.2.2) rfl ?_
    refine XS.lcmp X3_.here hx rfl (hC e30_14.1) rfl ?_
    refine XS.ifYes X3_.here hx rfl (pc0 := 15) (pc' := 43) rfl (hC e30_14.2.1) rfl ((if0 _ _).trans (tlt ((lw_gt ft o).mpr ((own_lt (by omega)) : o < ft))).2.2.1) (by decide) (by decide) ?_
    refine XS.aloadN X3_.here hx rfl (hC e30_14.2.2.1) rfl rfl ?_
    exact kK
  refine jf X3_ hx hZ hown (jk hw 91 rfl) e3_ F0.g0 (hC e30_14.2.2.2) fun T4_ X4_ e4_ => ?_
  refine jg T4_ mM 53 #[vR a, vJ o, vS] [(.ref a)] (fun tT kK => ?_) ?_
  · refine XS.lconst X4_.here hx rfl (hC e30_47.1) ?_
    refine XS.lcmp X4_.here hx rfl (hC e30_47.2.1) rfl ?_
    refine XS.ifNo X4_.here hx rfl (hC e30_47.2.2.1) rfl ((if0 _ _).trans (tlt ((lw_gt sz (0 : Int64)).mpr ((own_lt (by omega)) : (0 : Int64) < sz))).2.2.2) ?_
    refine XS.aloadN X4_.here hx rfl (hC e30_47.2.2.2) rfl rfl ?_
    exact kK
  refine jf X4_ hx hZ hown (jk hw 92 rfl) e4_ F0.g1 (hC e30_53.1) fun T5_ X5_ e5_ => ?_
  refine jg T5_ mM 58 #[vR a, vJ o, vS] [(.int (lcmpW ff o))] (fun tT kK => ?_) ?_
  · refine XS.lloadN X5_.here hx rfl (hC e30_53.2.1) rfl ?_
    refine XS.lcmp X5_.here hx rfl (hC e30_53.2.2.1) rfl ?_
    exact kK
  by_cases hc58_6_ : ff < o
  · refine jg T5_ mM 61 #[vR a, vJ o, vS] [] (fun tT kK => ?_) ?_
    · refine XS.ifNo X5_.here hx rfl (hC e30_53.2.2.2) rfl ((if0 _ _).trans (tlt ((lw_lt ff o).mpr (hc58_6_ : ff < o))).2.1) ?_
      exact kK
    have t7_ := own_tlt hc58_6_
    refine jg T5_ mM 63 #[vR a, vJ o, vS] [(.ref a), (.ref a)] (fun tT kK => ?_) ?_
    · refine XS.aloadN X5_.here hx rfl (hC e30_61.1) rfl rfl ?_
      refine XS.dup X5_.here hx rfl (hC e30_61.2.1) rfl rfl ?_
      exact kK
    refine jf X5_ hx hZ hown (jk hw 91 rfl) e5_ F0.g0 (hC e30_61.2.2.1) fun T8_ X8_ e8_ => ?_
    refine jg T8_ mM 68 #[vR a, vJ o, vS] [(.ref a), (.long o), (.long sz), (.ref a)] (fun tT kK => ?_) ?_
    · refine XS.lloadN X8_.here hx rfl (hC e30_61.2.2.2) rfl ?_
      refine XS.aloadN X8_.here hx rfl (hC e30_67.1) rfl rfl ?_
      exact kK
    refine jf X8_ hx hZ hown (jk hw 92 rfl) e8_ F0.g1 (hC e30_67.2.1) fun T9_ X9_ e9_ => ?_
    refine jg T9_ mM 73 #[vR a, vJ o, vS] [(.long (sz - (o - ff))), (.ref a)] (fun tT kK => ?_) ?_
    · refine XS.lsub X9_.here hx rfl (hC e30_67.2.2.1) rfl ?_
      refine XS.lsub X9_.here hx rfl (hC e30_67.2.2.2) rfl ?_
      exact kK
    refine jq X9_ hx hZ hown (jk hw 91 rfl) e9_ F0.g0 F0.E (jk hw 78 rfl) (jk hw 55 rfl) (ty := .long) (by decide) rfl rfl (hC e30_73.1) K0 N0 (Or.inl (List.mem_of_getElem? (i := 0) rfl)) g_a fun T10_ h10_ X10_ e10_ W10_ Fw10_ K10_ N10_ => ?_
    have Bw10_ := F0.s0 hw W10_
    refine jg T10_ mM 78 #[vR a, vJ o, vS] [(.long o), (.ref a)] (fun tT kK => ?_) ?_
    · refine XS.aloadN X10_.here hx rfl (hC e30_73.2.1) rfl rfl ?_
      refine XS.lloadN X10_.here hx rfl (hC e30_73.2.2.1) rfl ?_
      exact kK
    refine jq X10_ hx hZ hown (jk hw 92 rfl) e10_ Bw10_.g1 Bw10_.E (jk hw 93 rfl) (jk hw 55 rfl) (ty := .long) (by decide) rfl rfl (hC e30_73.2.2.2) K10_ N10_ (Or.inl (List.mem_of_getElem? (i := 0) rfl)) g_a fun T11_ h11_ X11_ e11_ W11_ Fw11_ K11_ N11_ => ?_
    have Bw11_ := Bw10_.s1 hw W11_
    have t12_ := rng64 o
    have t13_ := rng64 ff
    have t14_ := own_sub (x := o) (y := ff) (by omega)
    have t15_ := rng64 sz
    have t16_ := own_sub (x := sz) (y := (o - ff)) (by omega)
    exact own_rV X11_ hx hlk hre (hC d30_81) e11_ (by decide) (by decide) ⟨(sz - (o - ff)), rfl, N11_, K11_, (by omega), Bw11_.E, Bw11_.g0⟩
  · refine jg T5_ mM 81 #[vR a, vJ o, vS] [] (fun tT kK => ?_) ?_
    · refine XS.ifYes X5_.here hx rfl (pc0 := 58) (pc' := 81) rfl (hC e30_53.2.2.2) rfl ((if0 _ _).trans (flt (mt (lw_lt ff o).mp (hc58_6_ : ¬ (ff < o)))).2.1) (by decide) (by decide) ?_
      exact kK
    have t17_ := own_tnl hc58_6_
    exact own_rV X5_ hx hlk hre (hC d30_81) e5_ (by decide) (by decide) ⟨sz, rfl, N0, K0, (by omega), F0.E, F0.g0⟩
theorem e30_18 : jD36 18 (.aload_n 0, 1) ∧ jD36 19 (.dup, 1) ∧ jD36 20 (.getfield 45, 3) ∧ jD36 23 (.aload_n 0, 1) := by decide +kernel
theorem e30_24 : jD36 24 (.getfield 29, 3) ∧ jD36 27 (.aload_n 0, 1) ∧ jD36 28 (.getfield 22, 3) ∧ jD36 31 (.lsub, 1) := by decide +kernel
theorem e30_32 : jD36 32 (.lsub, 1) ∧ jD36 33 (.putfield 45, 3) ∧ jD36 36 (.aload_n 0, 1) ∧ jD36 37 (.invokevirtual 58, 3) := by decide +kernel
theorem d30_40 : jD36 40 (.goto (-40), 3) := by decide +kernel
theorem own_ef_rm_bB (mM : MethodId) (x0 : Addr) (x1 : Int64) : entryFrame mM #[(.ref x0), (.long x1)] 3 = mkF mM 0 #[.val (.ref x0), .val (.long x1), .second] [] := by first | (simp [entryFrame, mkF, argsToLocals, Value.category]; done) | rfl
def Q_rm_bB (Z : State) (a : Addr) (nb : Addr) (sz : Int64) (ff : Int64) (ft : Int64) (lg : Int64) (lf : Int64) (lt : Int64) (ba : Addr) (kb : ClassId) (en : Int32) (z : Int32) (vs : List Value) (o : Int64) (h0 : Heap) (n0 : Nat) (vV : Option Value) (hH : Heap) (lA : List Loc) : Prop := ∃ s' : Int64, vV = none ∧ Fr n0 lA ∧ (Keep h0 hH [a]) ∧ (1 ≤ s'.toInt ∧ s'.toInt ≤ sz.toInt) ∧ (jE1 Z hH a) ∧ (jF4 Z hH a (.long s'))
theorem rm_bB (lL : Launch) (Z : State) (a0 : Array Value) (hw : own_H a0 Z) (ws : List Jvm.Cond) (a : Addr) (nb : Addr) (sz : Int64) (ff : Int64) (ft : Int64) (lg : Int64) (lf : Int64) (lt : Int64) (ba : Addr) (kb : ClassId) (en : Int32) (z : Int32) (vs : List Value) (o : Int64) (h0 : Heap) (n0 : Nat) (Z0 : n0 ≤ h0.size) (F0 : own_bP Z h0 a sz ff ft (.ref ba) (0 : Int32) en (0 : Int32) lg lf lt) (Vb : Arv Z h0 ba kb .byte z vs (.int 0)) (hE : own_E vs en.toNatClampNeg lg.toInt) (hn : 0 ≤ en.toInt ∧ en.toInt ≤ z.toInt) (Zb : Sta Z Z.heap "com/example/portion/portion/server/OffsetSet" "NO_BYTES" "[B" (.ref nb)) (O0 : Old Z n0 h0) (hf0 : 0 ≤ ff.toInt ∧ ff.toInt < 9223372036854775807) (hd : ft.toInt = ff.toInt + 1) (hg : 1 ≤ lg.toInt ∧ lf.toInt = ft.toInt + lg.toInt) (hl1 : lt.toInt = lf.toInt + 1) (hs : sz.toInt = 2) (ho : o.toInt < lt.toInt) (g_a : n0 ≤ a) :
    own_Met lL jy36 (Jvm.Cond.code jy36 prog_39_method_7_code 3 none :: ws) jr18 #[(.ref a), (.long o)] Z h0 (Q_rm_bB Z a nb sz ff ft lg lf lt ba kb en z vs o h0 n0) := by
  refine own_begin (plainFor_of_name own_pn_com_example_portion_portion_server_OffsetSet_Page) (fun mM => own_ef_rm_bB mM a o) fun pP eE sS mM below meth cC s₁ hx hby hml hZ hown hnm hre hlk X0 e0 => ?_
  have hC := @Jvm.hb _ _ hby
  have N0 := Fr.nil n0
  have K0 := Keep.refl h0 [a]
  have rlt := rng64 lt
  refine jg s₁ mM 1 #[vR a, vJ o, vS] [(.ref a)] (fun tT kK => ?_) ?_
  · refine XS.aloadN X0.here hx rfl (hC e30_0.1) rfl rfl ?_
    exact kK
  refine jf X0 hx hZ hown (jk hw 91 rfl) e0 F0.g0 (hC e30_0.2.1) fun T1_ X1_ e1_ => ?_
  refine jg T1_ mM 6 #[vR a, vJ o, vS] [(.int (lcmpW sz (0 : Int64)))] (fun tT kK => ?_) ?_
  · refine XS.lconst X1_.here hx rfl (hC e30_0.2.2.1) ?_
    refine XS.lcmp X1_.here hx rfl (hC e30_0.2.2.2) rfl ?_
    exact kK
  have t2_ : (0 : Int64).toInt = 0 := rfl
  refine jg T1_ mM 10 #[vR a, vJ o, vS] [(.ref a)] (fun tT kK => ?_) ?_
  · refine XS.ifNo X1_.here hx rfl (hC e30_6.1) rfl ((if0 _ _).trans (tlt ((lw_gt sz (0 : Int64)).mpr ((own_lt (by omega)) : (0 : Int64) < sz))).2.2.2) ?_
    refine XS.aloadN X1_.here hx rfl (hC e30_6.2.1) rfl rfl ?_
    exact kK
  refine jf X1_ hx hZ hown (jk hw 89 rfl) e1_ F0.g2 (hC e30_6.2.2.1) fun T3_ X3_ e3_ => ?_
  refine jg T3_ mM 15 #[vR a, vJ o, vS] [(.int (lcmpW ft o))] (fun tT kK => ?_) ?_
  · refine XS.lloadN X3_.here hx rfl (hC e30_6.2.2.2) rfl ?_
    refine XS.lcmp X3_.here hx rfl (hC e30_14.1) rfl ?_
    exact kK
  by_cases hc15_4_ : o < ft
  · refine jg T3_ mM 43 #[vR a, vJ o, vS] [] (fun tT kK => ?_) ?_
    · refine XS.ifYes X3_.here hx rfl (pc0 := 15) (pc' := 43) rfl (hC e30_14.2.1) rfl ((if0 _ _).trans (tlt ((lw_gt ft o).mpr (hc15_4_ : o < ft))).2.2.1) (by decide) (by decide) ?_
      exact kK
    have t5_ := own_tlt hc15_4_
    refine jg T3_ mM 44 #[vR a, vJ o, vS] [(.ref a)] (fun tT kK => ?_) ?_
    · refine XS.aloadN X3_.here hx rfl (hC e30_14.2.2.1) rfl rfl ?_
      exact kK
    refine jf X3_ hx hZ hown (jk hw 91 rfl) e3_ F0.g0 (hC e30_14.2.2.2) fun T6_ X6_ e6_ => ?_
    refine jg T6_ mM 53 #[vR a, vJ o, vS] [(.ref a)] (fun tT kK => ?_) ?_
    · refine XS.lconst X6_.here hx rfl (hC e30_47.1) ?_
      refine XS.lcmp X6_.here hx rfl (hC e30_47.2.1) rfl ?_
      refine XS.ifNo X6_.here hx rfl (hC e30_47.2.2.1) rfl ((if0 _ _).trans (tlt ((lw_gt sz (0 : Int64)).mpr ((own_lt (by omega)) : (0 : Int64) < sz))).2.2.2) ?_
      refine XS.aloadN X6_.here hx rfl (hC e30_47.2.2.2) rfl rfl ?_
      exact kK
    refine jf X6_ hx hZ hown (jk hw 92 rfl) e6_ F0.g1 (hC e30_53.1) fun T7_ X7_ e7_ => ?_
    refine jg T7_ mM 81 #[vR a, vJ o, vS] [] (fun tT kK => ?_) ?_
    · refine XS.lloadN X7_.here hx rfl (hC e30_53.2.1) rfl ?_
      refine XS.lcmp X7_.here hx rfl (hC e30_53.2.2.1) rfl ?_
      refine XS.ifYes X7_.here hx rfl (pc0 := 58) (pc' := 81) rfl (hC e30_53.2.2.2) rfl ((if0 _ _).trans (flt (mt (lw_lt ff o).mp ((own_nl (by omega)) : ¬ (ff < o)))).2.1) (by decide) (by decide) ?_
      exact kK
    exact own_rV X7_ hx hlk hre (hC d30_81) e7_ (by decide) (by decide) ⟨sz, rfl, N0, K0, (by omega), F0.E, F0.g0⟩
  · refine jg T3_ mM 18 #[vR a, vJ o, vS] [] (fun tT kK => ?_) ?_
    · refine XS.ifNo X3_.here hx rfl (hC e30_14.2.1) rfl ((if0 _ _).trans (flt (mt (lw_gt ft o).mp (hc15_4_ : ¬ (o < ft)))).2.2.1) ?_
      exact kK
    have t8_ := own_tnl hc15_4_
    refine jg T3_ mM 20 #[vR a, vJ o, vS] [(.ref a), (.ref a)] (fun tT kK => ?_) ?_
    · refine XS.aloadN X3_.here hx rfl (hC e30_18.1) rfl rfl ?_
      refine XS.dup X3_.here hx rfl (hC e30_18.2.1) rfl rfl ?_
      exact kK
    refine jf X3_ hx hZ hown (jk hw 91 rfl) e3_ F0.g0 (hC e30_18.2.2.1) fun T9_ X9_ e9_ => ?_
    refine jg T9_ mM 24 #[vR a, vJ o, vS] [(.ref a), (.long sz), (.ref a)] (fun tT kK => ?_) ?_
    · refine XS.aloadN X9_.here hx rfl (hC e30_18.2.2.2) rfl rfl ?_
      exact kK
    refine jf X9_ hx hZ hown (jk hw 89 rfl) e9_ F0.g2 (hC e30_24.1) fun T10_ X10_ e10_ => ?_
    refine jg T10_ mM 28 #[vR a, vJ o, vS] [(.ref a), (.long ft), (.long sz), (.ref a)] (fun tT kK => ?_) ?_
    · refine XS.aloadN X10_.here hx rfl (hC e30_24.2.1) rfl rfl ?_
      exact kK
    refine jf X10_ hx hZ hown (jk hw 92 rfl) e10_ F0.g1 (hC e30_24.2.2.1) fun T11_ X11_ e11_ => ?_
    refine jg T11_ mM 33 #[vR a, vJ o, vS] [(.long (sz - (ft - ff))), (.ref a)] (fun tT kK => ?_) ?_
    · refine XS.lsub X11_.here hx rfl (hC e30_24.2.2.2) rfl ?_
      refine XS.lsub X11_.here hx rfl (hC e30_32.1) rfl ?_
      exact kK
    refine jq X11_ hx hZ hown (jk hw 91 rfl) e11_ F0.g0 F0.E (jk hw 78 rfl) (jk hw 55 rfl) (ty := .long) (by decide) rfl rfl (hC e30_32.2.1) K0 N0 (Or.inl (List.mem_of_getElem? (i := 0) rfl)) g_a fun T12_ h12_ X12_ e12_ W12_ Fw12_ K12_ N12_ => ?_
    have ne13_ : ba ≠ a := (Ne.symm (own_neV F0.E Vb (jk hw 55 rfl)))
    have fc14_ := Vb.other W12_ ne13_
    have fc15_ := O0.wr W12_ g_a
    have Bw12_ := F0.s0 hw W12_
    refine jg T12_ mM 37 #[vR a, vJ o, vS] [(.ref a)] (fun tT kK => ?_) ?_
    · refine XS.aloadN X12_.here hx rfl (hC e30_32.2.2.1) rfl rfl ?_
      exact kK
    refine jw X12_ hx hZ (y := jy23) hown (jk hw 110 rfl) (jk hw 111 rfl) (own_selP (y := jy23) hZ (jk hw 55 rfl) (jk hw 112 rfl) (jk hw 111 rfl) (by decide)) (jk hw 112 rfl) (jk hw 113 rfl) (jk hw 56 rfl) (rm_tB lL Z a0 hw [] a nb (sz - (ft - ff)) ff ft lg lf lt ba kb en z vs h12_ n0 (Nat.le_trans Z0 K12_.1) Bw12_ fc14_ hE hn Zb fc15_ g_a) Bw12_.E e12_ own_pd5 [] [] (hC e30_32.2.2.2) rfl rfl (by rw [hml]; rfl) (by decide) 0 (Nat.le_of_eq rfl) (by decide) (by decide) (by decide : 0 + 1 ≤ _) (by decide : 0 + 4 ≤ _) fun vv16_ T16_ L16_ X16_ hQ16_ => ?_
    obtain ⟨rfl, N16_q, p16__0, p16__1⟩ := hQ16_
    have N16_ := Fr.app N12_ N16_q
    have K16_ := K12_.trans p16__0 (allS (Or.inl (List.mem_of_getElem? (i := 0) rfl)) all0)
    refine jg T16_ mM 1 #[vR a, vJ o, vS] [(.ref a)] (fun tT kK => ?_) ?_
    · refine XS.goto X16_.here hx rfl (pc0 := 40) (pc' := 0) rfl (hC d30_40) (by decide) (by decide) ?_
      refine XS.aloadN X16_.here hx rfl (hC e30_0.1) rfl rfl ?_
      exact kK
    refine jf X16_ hx hZ hown (jk hw 91 rfl) rfl p16__1.g0 (hC e30_0.2.1) fun T19_ X19_ e19_ => ?_
    refine jg T19_ mM 6 #[vR a, vJ o, vS] [(.int (lcmpW (sz - (ft - ff)) (0 : Int64)))] (fun tT kK => ?_) ?_
    · refine XS.lconst X19_.here hx rfl (hC e30_0.2.2.1) ?_
      refine XS.lcmp X19_.here hx rfl (hC e30_0.2.2.2) rfl ?_
      exact kK
    have t20_ := rng64 ft
    have t21_ := rng64 ff
    have t22_ := own_sub (x := ft) (y := ff) (by omega)
    have t23_ := rng64 sz
    have t24_ := own_sub (x := sz) (y := (ft - ff)) (by omega)
    refine jg T19_ mM 10 #[vR a, vJ o, vS] [(.ref a)] (fun tT kK => ?_) ?_
    · refine XS.ifNo X19_.here hx rfl (hC e30_6.1) rfl ((if0 _ _).trans (tlt ((lw_gt (sz - (ft - ff)) (0 : Int64)).mpr ((own_lt (by omega)) : (0 : Int64) < (sz - (ft - ff))))).2.2.2) ?_
      refine XS.aloadN X19_.here hx rfl (hC e30_6.2.1) rfl rfl ?_
      exact kK
    refine jf X19_ hx hZ hown (jk hw 89 rfl) e19_ p16__1.g2 (hC e30_6.2.2.1) fun T25_ X25_ e25_ => ?_
    refine jg T25_ mM 15 #[vR a, vJ o, vS] [(.int (lcmpW ((ft + lg) + (1 : Int64)) o))] (fun tT kK => ?_) ?_
    · refine XS.lloadN X25_.here hx rfl (hC e30_6.2.2.2) rfl ?_
      refine XS.lcmp X25_.here hx rfl (hC e30_14.1) rfl ?_
      exact kK
    have t26_ := own_add (x := ft) (y := lg) (by omega)
    have t27_ : (1 : Int64).toInt = 1 := rfl
    have t28_ := own_add (x := (ft + lg)) (y := (1 : Int64)) (by omega)
    refine jg T25_ mM 44 #[vR a, vJ o, vS] [(.ref a)] (fun tT kK => ?_) ?_
    · refine XS.ifYes X25_.here hx rfl (pc0 := 15) (pc' := 43) rfl (hC e30_14.2.1) rfl ((if0 _ _).trans (tlt ((lw_gt ((ft + lg) + (1 : Int64)) o).mpr ((own_lt (by omega)) : o < ((ft + lg) + (1 : Int64))))).2.2.1) (by decide) (by decide) ?_
      refine XS.aloadN X25_.here hx rfl (hC e30_14.2.2.1) rfl rfl ?_
      exact kK
    refine jf X25_ hx hZ hown (jk hw 91 rfl) e25_ p16__1.g0 (hC e30_14.2.2.2) fun T29_ X29_ e29_ => ?_
    refine jg T29_ mM 53 #[vR a, vJ o, vS] [(.ref a)] (fun tT kK => ?_) ?_
    · refine XS.lconst X29_.here hx rfl (hC e30_47.1) ?_
      refine XS.lcmp X29_.here hx rfl (hC e30_47.2.1) rfl ?_
      refine XS.ifNo X29_.here hx rfl (hC e30_47.2.2.1) rfl ((if0 _ _).trans (tlt ((lw_gt (sz - (ft - ff)) (0 : Int64)).mpr ((own_lt (by omega)) : (0 : Int64) < (sz - (ft - ff))))).2.2.2) ?_
      refine XS.aloadN X29_.here hx rfl (hC e30_47.2.2.2) rfl rfl ?_
      exact kK
    refine jf X29_ hx hZ hown (jk hw 92 rfl) e29_ p16__1.g1 (hC e30_53.1) fun T30_ X30_ e30_ => ?_
    refine jg T30_ mM 81 #[vR a, vJ o, vS] [] (fun tT kK => ?_) ?_
    · refine XS.lloadN X30_.here hx rfl (hC e30_53.2.1) rfl ?_
      refine XS.lcmp X30_.here hx rfl (hC e30_53.2.2.1) rfl ?_
      refine XS.ifYes X30_.here hx rfl (pc0 := 58) (pc' := 81) rfl (hC e30_53.2.2.2) rfl ((if0 _ _).trans (flt (mt (lw_lt (ft + lg) o).mp ((own_nl (by omega)) : ¬ ((ft + lg) < o)))).2.1) (by decide) (by decide) ?_
      exact kK
    exact own_rV X30_ hx hlk hre (hC d30_81) e30_ (by decide) (by decide) ⟨(sz - (ft - ff)), rfl, N16_, K16_, (by omega), p16__1.E, p16__1.g0⟩
theorem e29_0 : jD37 0 (.aload_n 0, 1) ∧ jD37 1 (.getfield 23, 3) ∧ jD37 4 (.lconst 0, 1) ∧ jD37 5 (.lcmp, 1) := by decide +kernel
theorem e29_6 : jD37 6 (.ifCond .le 16, 3) ∧ jD37 9 (.aload_n 0, 1) ∧ jD37 10 (.invokevirtual 39, 3) ∧ jD37 13 (.lload_n 1, 1) := by decide +kernel
theorem e29_14 : jD37 14 (.lcmp, 1) ∧ jD37 15 (.ifCond .ge 7, 3) ∧ jD37 18 (.iconst 1, 1) ∧ jD37 19 (.goto 4, 3) := by decide +kernel
theorem e29_23 : jD37 23 (.istore_n 3, 1) ∧ jD37 22 (.iconst 0, 1) ∧ jD37 24 (.iconst 0, 1) ∧ jD37 25 (.istore 4, 2) := by decide +kernel
theorem e29_27 : jD37 27 (.iload 4, 2) ∧ jD37 29 (.aload_n 0, 1) ∧ jD37 30 (.getfield 109, 3) ∧ jD37 33 (.if_icmp .ge 43, 3) := by decide +kernel
theorem e29_36 : jD37 36 (.aload_n 0, 1) ∧ jD37 37 (.getfield 16, 3) ∧ jD37 40 (.iload 4, 2) ∧ jD37 42 (.aaload, 1) := by decide +kernel
theorem e29_43 : jD37 43 (.invokevirtual 103, 3) ∧ jD37 46 (.lload_n 1, 1) ∧ jD37 47 (.lcmp, 1) ∧ jD37 48 (.ifCond .gt 28, 3) := by decide +kernel
theorem e29_76 : jD37 76 (.iload 4, 2) ∧ jD37 78 (.ifCond .le 14, 3) ∧ jD37 92 (.aload_n 0, 1) ∧ jD37 93 (.getfield 109, 3) := by decide +kernel
theorem e29_96 : jD37 96 (.ifCond .le 45, 3) ∧ jD37 99 (.aload_n 0, 1) ∧ jD37 100 (.getfield 16, 3) ∧ jD37 103 (.iconst 0, 1) := by decide +kernel
theorem e29_104 : jD37 104 (.aaload, 1) ∧ jD37 105 (.getfield 46, 3) ∧ jD37 108 (.lstore 5, 2) ∧ jD37 110 (.aload_n 0, 1) := by decide +kernel
theorem e29_111 : jD37 111 (.getfield 16, 3) ∧ jD37 114 (.iconst 0, 1) ∧ jD37 115 (.aaload, 1) ∧ jD37 116 (.lload_n 1, 1) := by decide +kernel
theorem e29_117 : jD37 117 (.invokevirtual 112, 3) ∧ jD37 120 (.aload_n 0, 1) ∧ jD37 121 (.dup, 1) ∧ jD37 122 (.getfield 23, 3) := by decide +kernel
theorem e29_125 : jD37 125 (.lload 5, 2) ∧ jD37 127 (.aload_n 0, 1) ∧ jD37 128 (.getfield 16, 3) ∧ jD37 131 (.iconst 0, 1) := by decide +kernel
theorem e29_132 : jD37 132 (.aaload, 1) ∧ jD37 133 (.getfield 46, 3) ∧ jD37 136 (.lsub, 1) ∧ jD37 137 (.lsub, 1) := by decide +kernel
theorem e29_138 : jD37 138 (.putfield 23, 3) ∧ jD37 141 (.iload_n 3, 1) ∧ jD37 142 (.ireturn, 1) ∧ jD37 51 (.aload_n 0, 1) := by decide +kernel
theorem e29_52 : jD37 52 (.dup, 1) ∧ jD37 53 (.getfield 23, 3) ∧ jD37 56 (.aload_n 0, 1) ∧ jD37 57 (.getfield 16, 3) := by decide +kernel
theorem e29_60 : jD37 60 (.iload 4, 2) ∧ jD37 62 (.aaload, 1) ∧ jD37 63 (.getfield 46, 3) ∧ jD37 66 (.lsub, 1) := by decide +kernel
theorem e29_67 : jD37 67 (.putfield 23, 3) ∧ jD37 70 (.iinc 4 1, 3) ∧ jD37 73 (.goto (-46), 3) ∧ jD37 81 (.aload_n 0, 1) := by decide +kernel
theorem e29_82 : jD37 82 (.iconst 0, 1) ∧ jD37 83 (.iload 4, 2) ∧ jD37 85 (.getstatic 12, 3) ∧ jD37 88 (.iconst 0, 1) := by decide +kernel
theorem d29_89 : jD37 89 (.invokevirtual 47, 3) := by decide +kernel
theorem own_ef_rm_BA (mM : MethodId) (x0 : Addr) (x1 : Int64) : entryFrame mM #[(.ref x0), (.long x1)] 7 = mkF mM 0 #[.val (.ref x0), .val (.long x1), .second, .unset, .unset, .unset, .unset] [] := by first | (simp [entryFrame, mkF, argsToLocals, Value.category]; done) | rfl
def Q_rm_BA (Z : State) (pg : Addr) (st : Addr) (pa : Addr) (np : Addr) (nb : Addr) (kq : ClassId) (kp : ClassId) (kn : ClassId) (pb : Int32) (zs : Int64) (sz : Int64) (ff : Int64) (ft : Int64) (lg : Int64) (lf : Int64) (lt : Int64) (o : Int64) (h0 : Heap) (n0 : Nat) (vV : Option Value) (hH : Heap) (lA : List Loc) : Prop := ∃ b' : Int32, ∃ z' : Int64, vV = some (.int b') ∧ Fr n0 lA ∧ (Keep h0 hH [st, pg]) ∧ (z'.toInt = 0 ↔ ft.toInt ≤ o.toInt) ∧ (jE0 Z hH st) ∧ (jF0 Z hH st (.long z'))
theorem rm_BA (lL : Launch) (Z : State) (a0 : Array Value) (hw : own_H a0 Z) (ws : List Jvm.Cond) (pg : Addr) (st : Addr) (pa : Addr) (np : Addr) (nb : Addr) (kq : ClassId) (kp : ClassId) (kn : ClassId) (pb : Int32) (zs : Int64) (sz : Int64) (ff : Int64) (ft : Int64) (lg : Int64) (lf : Int64) (lt : Int64) (o : Int64) (h0 : Heap) (n0 : Nat) (Z0 : n0 ≤ h0.size) (F0 : own_bO Z h0 st zs (.ref pa) (1 : Int32) pb) (Vp : Arv Z h0 pa kq (.object "com/example/portion/portion/server/OffsetSet$Page") (2 : Int32) [(.ref pg), .null] .null) (Vn : Arv Z h0 np kp (.object "com/example/portion/portion/server/OffsetSet$Page") (0 : Int32) [] .null) (Vm : Arv Z h0 nb kn .byte (0 : Int32) [] (.int 0)) (Zp : Sta Z Z.heap "com/example/portion/portion/server/OffsetSet" "NO_PAGES" "[Lcom/example/portion/portion/server/OffsetSet$Page;" (.ref np)) (Zb : Sta Z Z.heap "com/example/portion/portion/server/OffsetSet" "NO_BYTES" "[B" (.ref nb)) (O0 : Old Z n0 h0) (G0 : own_bP Z h0 pg sz ff ft (.ref nb) (0 : Int32) (0 : Int32) (-1 : Int32) lg lf lt) (g_st : n0 ≤ st) (g_pg : n0 ≤ pg) (ne_np_pa : np ≠ pa) (hf0 : 0 ≤ ff.toInt ∧ ff.toInt < 9223372036854775807) (hp : 1 ≤ pb.toInt ∧ pb.toInt ≤ 1024) (hzz : sz.toInt = zs.toInt) (hzd : (zs.toInt = 1 ∧ ft.toInt = ff.toInt + 1) ∨ (zs.toInt = 2 ∧ ft.toInt = ff.toInt + 2)) :
    own_Met lL jy37 (Jvm.Cond.code jy37 prog_38_method_12_code 7 (some .boolean) :: ws) jr37 #[(.ref st), (.long o)] Z h0 (Q_rm_BA Z pg st pa np nb kq kp kn pb zs sz ff ft lg lf lt o h0 n0) := by
  refine own_begin (plainFor_of_name own_pn_com_example_portion_portion_server_OffsetSet) (fun mM => own_ef_rm_BA mM st o) fun pP eE sS mM below meth cC s₁ hx hby hml hZ hown hnm hre hlk X0 e0 => ?_
  have hC := @Jvm.hb _ _ hby
  have N0 := Fr.nil n0
  have K0 := Keep.refl h0 [st, pg]
  let ll1 : Array Slot := #[vR st, vJ o, vS, vU, vU, vU, vU]
  refine jg s₁ mM 1 ll1 [(.ref st)] (fun tT kK => ?_) ?_
  · refine XS.aloadN X0.here hx rfl (hC e29_0.1) rfl rfl ?_
    exact kK
  refine jf X0 hx hZ hown (jk hw 21 rfl) e0 F0.g0 (hC e29_0.2.1) fun T1_ X1_ e1_ => ?_
  refine jg T1_ mM 6 ll1 [(.int (lcmpW zs (0 : Int64)))] (fun tT kK => ?_) ?_
  · refine XS.lconst X1_.here hx rfl (hC e29_0.2.2.1) ?_
    refine XS.lcmp X1_.here hx rfl (hC e29_0.2.2.2) rfl ?_
    exact kK
  have t2_ : (0 : Int64).toInt = 0 := rfl
  refine jg T1_ mM 10 ll1 [(.ref st)] (fun tT kK => ?_) ?_
  · refine XS.ifNo X1_.here hx rfl (hC e29_6.1) rfl ((if0 _ _).trans (tlt ((lw_gt zs (0 : Int64)).mpr ((own_lt (by omega)) : (0 : Int64) < zs))).2.2.2) ?_
    refine XS.aloadN X1_.here hx rfl (hC e29_6.2.1) rfl rfl ?_
    exact kK
  refine jv X1_ hx hZ (y := jy25) hown (jk hw 99 rfl) (jk hw 100 rfl) (jk hw 102 rfl) (jk hw 101 rfl) (jk hw 103 rfl) (jk hw 3 rfl) (rm_fi lL Z a0 hw [] st pa pg kq ff zs h0 n0 (Nat.le_trans Z0 K0.1) F0.g0 F0.g1 Vp G0.g1 (by omega)) F0.E e1_ own_pd4 [] [] (hC e29_6.2.2.1) rfl rfl (by rw [hml]; rfl) (by decide) 0 (Nat.le_of_eq rfl) (by decide) (by decide) (by decide : 0 + 0 ≤ _) (by decide : 0 + 0 ≤ _) fun vv3_ T3_ L3_ X3_ hQ3_ => ?_
  obtain ⟨rfl, N3_q, p3__0⟩ := hQ3_
  have N3_ := Fr.app N0 N3_q
  refine jg T3_ mM 15 ll1 [(.int (lcmpW ff o))] (fun tT kK => ?_) ?_
  · refine XS.lloadN X3_.here hx rfl (hC e29_6.2.2.2) rfl ?_
    refine XS.lcmp X3_.here hx rfl (hC e29_14.1) rfl ?_
    exact kK
  obtain ⟨v4_, st5_⟩ : ∃ v4_ : Int32, ∀ tT, Steps pP.tables eE below (T3_.setTop (mkF mM 24 #[.val (.ref st), .val (.long o), .second, .val (.int v4_), .unset, .unset, .unset] [])) tT → Steps pP.tables eE below (T3_.setTop (mkF mM 15 #[.val (.ref st), .val (.long o), .second, .unset, .unset, .unset, .unset] [(.int (lcmpW ff o))])) tT := by
    by_cases hm1 : ff < o
    · refine ⟨(1 : Int32), fun tT kK => ?_⟩
      refine XS.ifNo X3_.here hx rfl (hC e29_14.2.1) rfl ((if0 _ _).trans (tlt ((lw_lt ff o).mpr (hm1 : ff < o))).2.1) ?_
      refine XS.iconst X3_.here hx rfl (hC e29_14.2.2.1) ?_
      refine XS.goto X3_.here hx rfl (pc0 := 19) (pc' := 23) rfl (hC e29_14.2.2.2) (by decide) (by decide) ?_
      let ll2 : Array Slot := #[vR st, vJ o, vS, vI 1, vU, vU, vU]
      refine XS.istoreN X3_.here hx rfl (hC e29_23.1) rfl (l' := ll2) rfl ?_
      exact kK
    · refine ⟨(0 : Int32), fun tT kK => ?_⟩
      refine XS.ifYes X3_.here hx rfl (pc0 := 15) (pc' := 22) rfl (hC e29_14.2.1) rfl ((if0 _ _).trans (flt (mt (lw_lt ff o).mp (hm1 : ¬ (ff < o)))).2.1) (by decide) (by decide) ?_
      refine XS.iconst X3_.here hx rfl (hC e29_23.2.1) ?_
      let ll3 : Array Slot := #[vR st, vJ o, vS, vI 0, vU, vU, vU]
      refine XS.istoreN X3_.here hx rfl (hC e29_23.1) rfl (l' := ll3) rfl ?_
      exact kK
  refine own_fin st5_ ?_
  let ll4 : Array Slot := #[vR st, vJ o, vS, vI v4_, vI 0, vU, vU]
  refine jg T3_ mM 30 ll4 [(.ref st), (.int 0)] (fun tT kK => ?_) ?_
  · refine XS.iconst X3_.here hx rfl (hC e29_23.2.2.1) ?_
    refine XS.istore X3_.here hx rfl (hC e29_23.2.2.2) rfl (l' := ll4) rfl ?_
    refine XS.iload X3_.here hx rfl (hC e29_27.1) rfl ?_
    refine XS.aloadN X3_.here hx rfl (hC e29_27.2.1) rfl rfl ?_
    exact kK
  refine jf X3_ hx hZ hown (jk hw 40 rfl) p3__0 F0.g2 (hC e29_27.2.2.1) fun T6_ X6_ e6_ => ?_
  refine jg T6_ mM 37 ll4 [(.ref st)] (fun tT kK => ?_) ?_
  · refine XS.icmpNo X6_.here hx rfl (hC e29_27.2.2.2) rfl (tlt ((by decide) : (0 : Int32) < (1 : Int32))).2.1 ?_
    refine XS.aloadN X6_.here hx rfl (hC e29_36.1) rfl rfl ?_
    exact kK
  refine jf X6_ hx hZ hown (jk hw 12 rfl) e6_ F0.g1 (hC e29_36.2.1) fun T7_ X7_ e7_ => ?_
  refine jg T7_ mM 42 ll4 [(.int 0), (.ref pa)] (fun tT kK => ?_) ?_
  · refine XS.iload X7_.here hx rfl (hC e29_36.2.2.1) rfl ?_
    exact kK
  obtain ⟨cl8_, Ar8_, qk8_, Sz8_, Nn8_, Hh8_, Gg8_⟩ := id Vp
  have hin9_ : ¬ ((0 : Int32) < 0 ∨ cl8_.slots.size ≤ ((0 : Int32)).toNatClampNeg) := inb_of Sz8_ ⟨by decide, by decide⟩
  have hat9_ : cl8_.slots[((0 : Int32)).toNatClampNeg]? = some (.ref pg) := Hh8_.at hin9_ rfl
  refine jg T7_ mM 43 ll4 [(.ref pg)] (fun tT kK => ?_) ?_
  · refine X7_.aaload hx (j := (0 : Int32)) (v := (.ref pg)) (own_rw e7_ Ar8_.1) (State.isArrayOf_alike hZ.alike Ar8_.2.1) rfl Ar8_.2.2 hin9_ hat9_ (g := (mkF mM 42 ll4 [(.int 0), (.ref pa)])) rfl rfl (hC e29_36.2.2.2) _ ?_
    exact kK
  refine jv X7_ hx hZ (y := jy5) hown (jk hw 195 rfl) (jk hw 85 rfl) (jk hw 87 rfl) (jk hw 86 rfl) (jk hw 88 rfl) (jk hw 56 rfl) (rm_lta lL Z a0 hw [] pg ft h0 n0 (Nat.le_trans Z0 K0.1) G0.g6 G0.g2) G0.E e7_ own_pd4 [] [] (hC e29_43.1) rfl rfl (by rw [hml]; rfl) (by decide) 0 (Nat.le_of_eq rfl) (by decide) (by decide) (by decide : 0 + 0 ≤ _) (by decide : 0 + 0 ≤ _) fun vv10_ T10_ L10_ X10_ hQ10_ => ?_
  obtain ⟨rfl, N10_q, p10__0⟩ := hQ10_
  have N10_ := Fr.app N3_ N10_q
  refine jg T10_ mM 48 ll4 [(.int (lcmpW ft o))] (fun tT kK => ?_) ?_
  · refine XS.lloadN X10_.here hx rfl (hC e29_43.2.1) rfl ?_
    refine XS.lcmp X10_.here hx rfl (hC e29_43.2.2.1) rfl ?_
    exact kK
  by_cases hc48_11_ : o < ft
  · refine jg T10_ mM 76 ll4 [] (fun tT kK => ?_) ?_
    · refine XS.ifYes X10_.here hx rfl (pc0 := 48) (pc' := 76) rfl (hC e29_43.2.2.2) rfl ((if0 _ _).trans (tlt ((lw_gt ft o).mpr (hc48_11_ : o < ft))).2.2.1) (by decide) (by decide) ?_
      exact kK
    have t12_ := own_tlt hc48_11_
    refine jg T10_ mM 93 ll4 [(.ref st)] (fun tT kK => ?_) ?_
    · refine XS.iload X10_.here hx rfl (hC e29_76.1) rfl ?_
      refine XS.ifYes X10_.here hx rfl (pc0 := 78) (pc' := 92) rfl (hC e29_76.2.1) rfl ((if0 _ _).trans (flt ((by decide) : ¬ ((0 : Int32) < (0 : Int32)))).2.2.2) (by decide) (by decide) ?_
      refine XS.aloadN X10_.here hx rfl (hC e29_76.2.2.1) rfl rfl ?_
      exact kK
    refine jf X10_ hx hZ hown (jk hw 40 rfl) p10__0 F0.g2 (hC e29_76.2.2.2) fun T13_ X13_ e13_ => ?_
    refine jg T13_ mM 100 ll4 [(.ref st)] (fun tT kK => ?_) ?_
    · refine XS.ifNo X13_.here hx rfl (hC e29_96.1) rfl ((if0 _ _).trans (tlt ((by decide) : (0 : Int32) < (1 : Int32))).2.2.2) ?_
      refine XS.aloadN X13_.here hx rfl (hC e29_96.2.1) rfl rfl ?_
      exact kK
    refine jf X13_ hx hZ hown (jk hw 12 rfl) e13_ F0.g1 (hC e29_96.2.2.1) fun T14_ X14_ e14_ => ?_
    refine jg T14_ mM 104 ll4 [(.int 0), (.ref pa)] (fun tT kK => ?_) ?_
    · refine XS.iconst X14_.here hx rfl (hC e29_96.2.2.2) ?_
      exact kK
    obtain ⟨cl15_, Ar15_, qk15_, Sz15_, Nn15_, Hh15_, Gg15_⟩ := id Vp
    have hin16_ : ¬ ((0 : Int32) < 0 ∨ cl15_.slots.size ≤ ((0 : Int32)).toNatClampNeg) := inb_of Sz15_ ⟨by decide, by decide⟩
    have hat16_ : cl15_.slots[((0 : Int32)).toNatClampNeg]? = some (.ref pg) := Hh15_.at hin16_ rfl
    refine jg T14_ mM 105 ll4 [(.ref pg)] (fun tT kK => ?_) ?_
    · refine X14_.aaload hx (j := (0 : Int32)) (v := (.ref pg)) (own_rw e14_ Ar15_.1) (State.isArrayOf_alike hZ.alike Ar15_.2.1) rfl Ar15_.2.2 hin16_ hat16_ (g := (mkF mM 104 ll4 [(.int 0), (.ref pa)])) rfl rfl (hC e29_104.1) _ ?_
      exact kK
    obtain ⟨T17_, X17_, e17_, st17_⟩ := own_getRef X14_ hx hZ hown (jk hw 77 rfl) Via.refl e14_ G0.g0 (g := (mkF mM 105 ll4 [(.ref pg)])) rfl rfl (hC e29_104.2.1)
    refine own_fin st17_ ?_
    let ll5 : Array Slot := #[vR st, vJ o, vS, vI v4_, vI 0, vJ sz, vS]
    refine jg T17_ mM 111 ll5 [(.ref st)] (fun tT kK => ?_) ?_
    · refine XS.lstore X17_.here hx rfl (hC e29_104.2.2.1) rfl (l' := ll5) rfl ?_
      refine XS.aloadN X17_.here hx rfl (hC e29_104.2.2.2) rfl rfl ?_
      exact kK
    refine jf X17_ hx hZ hown (jk hw 12 rfl) e17_ F0.g1 (hC e29_111.1) fun T18_ X18_ e18_ => ?_
    refine jg T18_ mM 115 ll5 [(.int 0), (.ref pa)] (fun tT kK => ?_) ?_
    · refine XS.iconst X18_.here hx rfl (hC e29_111.2.1) ?_
      exact kK
    obtain ⟨cl19_, Ar19_, qk19_, Sz19_, Nn19_, Hh19_, Gg19_⟩ := id Vp
    have hin20_ : ¬ ((0 : Int32) < 0 ∨ cl19_.slots.size ≤ ((0 : Int32)).toNatClampNeg) := inb_of Sz19_ ⟨by decide, by decide⟩
    have hat20_ : cl19_.slots[((0 : Int32)).toNatClampNeg]? = some (.ref pg) := Hh19_.at hin20_ rfl
    refine jg T18_ mM 117 ll5 [(.long o), (.ref pg)] (fun tT kK => ?_) ?_
    · refine X18_.aaload hx (j := (0 : Int32)) (v := (.ref pg)) (own_rw e18_ Ar19_.1) (State.isArrayOf_alike hZ.alike Ar19_.2.1) rfl Ar19_.2.2 hin20_ hat20_ (g := (mkF mM 115 ll5 [(.int 0), (.ref pa)])) rfl rfl (hC e29_111.2.2.1) _ ?_
      refine XS.lloadN X18_.here hx rfl (hC e29_111.2.2.2) rfl ?_
      exact kK
    refine jv X18_ hx hZ (y := jy36) hown (jk hw 196 rfl) (jk hw 197 rfl) (jk hw 199 rfl) (jk hw 198 rfl) (jk hw 200 rfl) (jk hw 56 rfl) (rm_bA lL Z a0 hw [] pg nb sz ff ft lg lf lt o h0 n0 (Nat.le_trans Z0 K0.1) G0 (by omega) (by omega) (by omega) g_pg) G0.E e18_ own_pd0 [(.long o)] [] (hC e29_117.1) rfl rfl (by rw [hml]; rfl) (by decide) 0 (Nat.le_of_eq rfl) (by decide) (by decide) (by decide : 0 + 0 ≤ _) (by decide : 0 + 0 ≤ _) fun vv21_ T21_ L21_ X21_ hQ21_ => ?_
    obtain ⟨s'_21_, rfl, N21_q, p21__0, p21__1, p21__2, p21__3⟩ := hQ21_
    have N21_ := Fr.app N10_ N21_q
    have ne22_ : st ≠ pg := (Exa.ne F0.E G0.E (by decide))
    have ne23_ : pa ≠ pg := (Ne.symm (own_neV G0.E Vp (jk hw 55 rfl)))
    have fc26_ := F0.keep p21__0 (ninS ne22_ nin0)
    have fc27_ := Vp.keep p21__0 (ninS ne23_ nin0)
    have K21_ := K0.trans p21__0 (allS (Or.inl (List.mem_of_getElem? (i := 1) rfl)) all0)
    refine jg T21_ mM 122 ll5 [(.ref st), (.ref st)] (fun tT kK => ?_) ?_
    · refine XS.aloadN X21_.here hx rfl (hC e29_117.2.1) rfl rfl ?_
      refine XS.dup X21_.here hx rfl (hC e29_117.2.2.1) rfl rfl ?_
      exact kK
    refine jf X21_ hx hZ hown (jk hw 21 rfl) rfl fc26_.g0 (hC e29_117.2.2.2) fun T31_ X31_ e31_ => ?_
    refine jg T31_ mM 128 ll5 [(.ref st), (.long sz), (.long zs), (.ref st)] (fun tT kK => ?_) ?_
    · refine XS.lload X31_.here hx rfl (hC e29_125.1) rfl ?_
      refine XS.aloadN X31_.here hx rfl (hC e29_125.2.1) rfl rfl ?_
      exact kK
    refine jf X31_ hx hZ hown (jk hw 12 rfl) e31_ fc26_.g1 (hC e29_125.2.2.1) fun T32_ X32_ e32_ => ?_
    refine jg T32_ mM 132 ll5 [(.int 0), (.ref pa), (.long sz), (.long zs), (.ref st)] (fun tT kK => ?_) ?_
    · refine XS.iconst X32_.here hx rfl (hC e29_125.2.2.2) ?_
      exact kK
    obtain ⟨cl33_, Ar33_, qk33_, Sz33_, Nn33_, Hh33_, Gg33_⟩ := id fc27_
    have hin34_ : ¬ ((0 : Int32) < 0 ∨ cl33_.slots.size ≤ ((0 : Int32)).toNatClampNeg) := inb_of Sz33_ ⟨by decide, by decide⟩
    have hat34_ : cl33_.slots[((0 : Int32)).toNatClampNeg]? = some (.ref pg) := Hh33_.at hin34_ rfl
    refine jg T32_ mM 133 ll5 [(.ref pg), (.long sz), (.long zs), (.ref st)] (fun tT kK => ?_) ?_
    · refine X32_.aaload hx (j := (0 : Int32)) (v := (.ref pg)) (own_rw e32_ Ar33_.1) (State.isArrayOf_alike hZ.alike Ar33_.2.1) rfl Ar33_.2.2 hin34_ hat34_ (g := (mkF mM 132 ll5 [(.int 0), (.ref pa), (.long sz), (.long zs), (.ref st)])) rfl rfl (hC e29_132.1) _ ?_
      exact kK
    obtain ⟨T35_, X35_, e35_, st35_⟩ := own_getRef X32_ hx hZ hown (jk hw 77 rfl) Via.refl e32_ p21__3 (g := (mkF mM 133 ll5 [(.ref pg), (.long sz), (.long zs), (.ref st)])) rfl rfl (hC e29_132.2.1)
    refine own_fin st35_ ?_
    refine jg T35_ mM 138 ll5 [(.long (zs - (sz - s'_21_))), (.ref st)] (fun tT kK => ?_) ?_
    · refine XS.lsub X35_.here hx rfl (hC e29_132.2.2.1) rfl ?_
      refine XS.lsub X35_.here hx rfl (hC e29_132.2.2.2) rfl ?_
      exact kK
    refine jq X35_ hx hZ hown (jk hw 21 rfl) e35_ fc26_.g0 fc26_.E (jk hw 22 rfl) (jk hw 2 rfl) (ty := .long) (by decide) rfl rfl (hC e29_138.1) K21_ N21_ (Or.inl (List.mem_of_getElem? (i := 0) rfl)) g_st fun T36_ h36_ X36_ e36_ W36_ Fw36_ K36_ N36_ => ?_
    have Bw36_ := fc26_.s0 hw W36_
    refine jg T36_ mM 142 ll5 [(.int v4_)] (fun tT kK => ?_) ?_
    · refine XS.iloadN X36_.here hx rfl (hC e29_138.2.1) rfl ?_
      exact kK
    have t46_ := rng64 sz
    have t47_ := rng64 s'_21_
    have t48_ := own_sub (x := sz) (y := s'_21_) (by omega)
    have t49_ := rng64 zs
    have t50_ := own_sub (x := zs) (y := (sz - s'_21_)) (by omega)
    exact own_rN X36_ hx hlk hre (by simp) (hC e29_138.2.2.1) e36_ (by decide) (by decide) ⟨(nar .boolean v4_), (zs - (sz - s'_21_)), rfl, N36_, K36_, (by omega), Bw36_.E, Bw36_.g0⟩
  · refine jg T10_ mM 51 ll4 [] (fun tT kK => ?_) ?_
    · refine XS.ifNo X10_.here hx rfl (hC e29_43.2.2.2) rfl ((if0 _ _).trans (flt (mt (lw_gt ft o).mp (hc48_11_ : ¬ (o < ft)))).2.2.1) ?_
      exact kK
    have t51_ := own_tnl hc48_11_
    refine jg T10_ mM 53 ll4 [(.ref st), (.ref st)] (fun tT kK => ?_) ?_
    · refine XS.aloadN X10_.here hx rfl (hC e29_138.2.2.2) rfl rfl ?_
      refine XS.dup X10_.here hx rfl (hC e29_52.1) rfl rfl ?_
      exact kK
    refine jf X10_ hx hZ hown (jk hw 21 rfl) p10__0 F0.g0 (hC e29_52.2.1) fun T52_ X52_ e52_ => ?_
    refine jg T52_ mM 57 ll4 [(.ref st), (.long zs), (.ref st)] (fun tT kK => ?_) ?_
    · refine XS.aloadN X52_.here hx rfl (hC e29_52.2.2.1) rfl rfl ?_
      exact kK
    refine jf X52_ hx hZ hown (jk hw 12 rfl) e52_ F0.g1 (hC e29_52.2.2.2) fun T53_ X53_ e53_ => ?_
    refine jg T53_ mM 62 ll4 [(.int 0), (.ref pa), (.long zs), (.ref st)] (fun tT kK => ?_) ?_
    · refine XS.iload X53_.here hx rfl (hC e29_60.1) rfl ?_
      exact kK
    obtain ⟨cl54_, Ar54_, qk54_, Sz54_, Nn54_, Hh54_, Gg54_⟩ := id Vp
    have hin55_ : ¬ ((0 : Int32) < 0 ∨ cl54_.slots.size ≤ ((0 : Int32)).toNatClampNeg) := inb_of Sz54_ ⟨by decide, by decide⟩
    have hat55_ : cl54_.slots[((0 : Int32)).toNatClampNeg]? = some (.ref pg) := Hh54_.at hin55_ rfl
    refine jg T53_ mM 63 ll4 [(.ref pg), (.long zs), (.ref st)] (fun tT kK => ?_) ?_
    · refine X53_.aaload hx (j := (0 : Int32)) (v := (.ref pg)) (own_rw e53_ Ar54_.1) (State.isArrayOf_alike hZ.alike Ar54_.2.1) rfl Ar54_.2.2 hin55_ hat55_ (g := (mkF mM 62 ll4 [(.int 0), (.ref pa), (.long zs), (.ref st)])) rfl rfl (hC e29_60.2.1) _ ?_
      exact kK
    obtain ⟨T56_, X56_, e56_, st56_⟩ := own_getRef X53_ hx hZ hown (jk hw 77 rfl) Via.refl e53_ G0.g0 (g := (mkF mM 63 ll4 [(.ref pg), (.long zs), (.ref st)])) rfl rfl (hC e29_60.2.2.1)
    refine own_fin st56_ ?_
    refine jg T56_ mM 67 ll4 [(.long (zs - sz)), (.ref st)] (fun tT kK => ?_) ?_
    · refine XS.lsub X56_.here hx rfl (hC e29_60.2.2.2) rfl ?_
      exact kK
    refine jq X56_ hx hZ hown (jk hw 21 rfl) e56_ F0.g0 F0.E (jk hw 22 rfl) (jk hw 2 rfl) (ty := .long) (by decide) rfl rfl (hC e29_67.1) K0 N10_ (Or.inl (List.mem_of_getElem? (i := 0) rfl)) g_st fun T57_ h57_ X57_ e57_ W57_ Fw57_ K57_ N57_ => ?_
    have ne58_ : pa ≠ st := (Ne.symm (own_neV F0.E Vp (jk hw 2 rfl)))
    have ne59_ : np ≠ st := (Ne.symm (own_neV F0.E Vn (jk hw 2 rfl)))
    have fc62_ := Vp.other W57_ ne58_
    have fc63_ := Vn.other W57_ ne59_
    have fc65_ := O0.wr W57_ g_st
    have Bw57_ := F0.s0 hw W57_
    let ll6 : Array Slot := #[vR st, vJ o, vS, vI v4_, vI 1, vU, vU]
    refine jg T57_ mM 30 ll6 [(.ref st), (.int 1)] (fun tT kK => ?_) ?_
    · refine XS.iinc X57_.here hx rfl (hC e29_67.2.1) rfl (l' := ll6) rfl ?_
      refine XS.goto X57_.here hx rfl (pc0 := 73) (pc' := 27) rfl (hC e29_67.2.2.1) (by decide) (by decide) ?_
      refine XS.iload X57_.here hx rfl (hC e29_27.1) rfl ?_
      refine XS.aloadN X57_.here hx rfl (hC e29_27.2.1) rfl rfl ?_
      exact kK
    refine jf X57_ hx hZ hown (jk hw 40 rfl) e57_ Bw57_.g2 (hC e29_27.2.2.1) fun T67_ X67_ e67_ => ?_
    refine jg T67_ mM 85 ll6 [(.int 1), (.int 0), (.ref st)] (fun tT kK => ?_) ?_
    · refine XS.icmpYes X67_.here hx rfl (pc0 := 33) (pc' := 76) rfl (hC e29_27.2.2.2) rfl (flt ((by decide) : ¬ ((1 : Int32) < (1 : Int32)))).2.1 (by decide) (by decide) ?_
      refine XS.iload X67_.here hx rfl (hC e29_76.1) rfl ?_
      refine XS.ifNo X67_.here hx rfl (hC e29_76.2.1) rfl ((if0 _ _).trans (tlt ((by decide) : (0 : Int32) < (1 : Int32))).2.2.2) ?_
      refine XS.aloadN X67_.here hx rfl (hC e29_67.2.2.2) rfl rfl ?_
      refine XS.iconst X67_.here hx rfl (hC e29_82.1) ?_
      refine XS.iload X67_.here hx rfl (hC e29_82.2.1) rfl ?_
      exact kK
    obtain ⟨T68_, X68_, e68_, st68_⟩ := getS2 X67_ hx hZ hown (host := "") (Or.inl (jk hw 10 rfl)) Via.refl e67_ (own_StaKeep fc65_ Zp) (g := (mkF mM 85 ll6 [(.int 1), (.int 0), (.ref st)])) rfl (hC e29_82.2.2.1)
    refine own_fin st68_ ?_
    refine jg T68_ mM 89 ll6 [(.int 0), (.ref np), (.int 1), (.int 0), (.ref st)] (fun tT kK => ?_) ?_
    · refine XS.iconst X68_.here hx rfl (hC e29_82.2.2.2) ?_
      exact kK
    refine jw X68_ hx hZ (y := jy10) hown (jk hw 69 rfl) (jk hw 70 rfl) (own_selP (y := jy10) hZ (jk hw 2 rfl) (jk hw 71 rfl) (jk hw 70 rfl) (by decide)) (jk hw 71 rfl) (jk hw 72 rfl) (jk hw 3 rfl) (rm_rp0 lL Z a0 hw [] st pg pa np kp kq (zs - sz) pb h57_ n0 (Nat.le_trans Z0 K57_.1) Bw57_ fc63_ fc62_ Zp fc65_ g_st ne_np_pa) Bw57_.E e68_ own_pd9 [(.int 0), (.int 1), (.ref np), (.int 0)] [] (hC d29_89) rfl rfl (by rw [hml]; rfl) (by decide) 0 (Nat.le_of_eq rfl) (by decide) (by decide) (by decide : 0 + 0 ≤ _) (by decide : 0 + 0 ≤ _) fun vv69_ T69_ L69_ X69_ hQ69_ => ?_
    obtain ⟨rfl, N69_q, p69__0, p69__1⟩ := hQ69_
    have N69_ := Fr.app N57_ N69_q
    have K69_ := K57_.trans p69__0 (allS (Or.inl (List.mem_of_getElem? (i := 0) rfl)) all0)
    refine jg T69_ mM 93 ll6 [(.ref st)] (fun tT kK => ?_) ?_
    · refine XS.aloadN X69_.here hx rfl (hC e29_76.2.2.1) rfl rfl ?_
      exact kK
    refine jf X69_ hx hZ hown (jk hw 40 rfl) rfl p69__1.g2 (hC e29_76.2.2.2) fun T75_ X75_ e75_ => ?_
    refine jg T75_ mM 142 ll6 [(.int v4_)] (fun tT kK => ?_) ?_
    · refine XS.ifYes X75_.here hx rfl (pc0 := 96) (pc' := 141) rfl (hC e29_96.1) rfl ((if0 _ _).trans (flt ((by decide) : ¬ ((0 : Int32) < (0 : Int32)))).2.2.2) (by decide) (by decide) ?_
      refine XS.iloadN X75_.here hx rfl (hC e29_138.2.1) rfl ?_
      exact kK
    have t76_ := rng64 zs
    have t77_ := rng64 sz
    have t78_ := own_sub (x := zs) (y := sz) (by omega)
    exact own_rN X75_ hx hlk hre (by simp) (hC e29_138.2.2.1) e75_ (by decide) (by decide) ⟨(nar .boolean v4_), (zs - sz), rfl, N69_, K69_, (by omega), p69__1.E, p69__1.g0⟩
theorem own_ef_rm_BB (mM : MethodId) (x0 : Addr) (x1 : Int64) : entryFrame mM #[(.ref x0), (.long x1)] 7 = mkF mM 0 #[.val (.ref x0), .val (.long x1), .second, .unset, .unset, .unset, .unset] [] := by first | (simp [entryFrame, mkF, argsToLocals, Value.category]; done) | rfl
def Q_rm_BB (Z : State) (pg : Addr) (st : Addr) (pa : Addr) (np : Addr) (nb : Addr) (kq : ClassId) (kp : ClassId) (kn : ClassId) (pb : Int32) (zs : Int64) (sz : Int64) (ff : Int64) (ft : Int64) (lg : Int64) (lf : Int64) (lt : Int64) (ba : Addr) (kb : ClassId) (en : Int32) (z : Int32) (vs : List Value) (o : Int64) (h0 : Heap) (n0 : Nat) (vV : Option Value) (hH : Heap) (lA : List Loc) : Prop := ∃ b' : Int32, ∃ z' : Int64, vV = some (.int b') ∧ Fr n0 lA ∧ (Keep h0 hH [st, pg]) ∧ (z'.toInt = 0 ↔ lt.toInt ≤ o.toInt) ∧ (jE0 Z hH st) ∧ (jF0 Z hH st (.long z'))
theorem rm_BB (lL : Launch) (Z : State) (a0 : Array Value) (hw : own_H a0 Z) (ws : List Jvm.Cond) (pg : Addr) (st : Addr) (pa : Addr) (np : Addr) (nb : Addr) (kq : ClassId) (kp : ClassId) (kn : ClassId) (pb : Int32) (zs : Int64) (sz : Int64) (ff : Int64) (ft : Int64) (lg : Int64) (lf : Int64) (lt : Int64) (ba : Addr) (kb : ClassId) (en : Int32) (z : Int32) (vs : List Value) (o : Int64) (h0 : Heap) (n0 : Nat) (Z0 : n0 ≤ h0.size) (F0 : own_bO Z h0 st zs (.ref pa) (1 : Int32) pb) (Vp : Arv Z h0 pa kq (.object "com/example/portion/portion/server/OffsetSet$Page") (2 : Int32) [(.ref pg), .null] .null) (Vn : Arv Z h0 np kp (.object "com/example/portion/portion/server/OffsetSet$Page") (0 : Int32) [] .null) (Vm : Arv Z h0 nb kn .byte (0 : Int32) [] (.int 0)) (Zp : Sta Z Z.heap "com/example/portion/portion/server/OffsetSet" "NO_PAGES" "[Lcom/example/portion/portion/server/OffsetSet$Page;" (.ref np)) (Zb : Sta Z Z.heap "com/example/portion/portion/server/OffsetSet" "NO_BYTES" "[B" (.ref nb)) (O0 : Old Z n0 h0) (G0 : own_bP Z h0 pg sz ff ft (.ref ba) (0 : Int32) en (0 : Int32) lg lf lt) (Vb : Arv Z h0 ba kb .byte z vs (.int 0)) (hE : own_E vs en.toNatClampNeg lg.toInt) (hn : 0 ≤ en.toInt ∧ en.toInt ≤ z.toInt) (g_st : n0 ≤ st) (g_pg : n0 ≤ pg) (ne_np_pa : np ≠ pa) (hf0 : 0 ≤ ff.toInt ∧ ff.toInt < 9223372036854775807) (hd : ft.toInt = ff.toInt + 1) (hg : 1 ≤ lg.toInt ∧ lf.toInt = ft.toInt + lg.toInt) (hl1 : lt.toInt = lf.toInt + 1) (hp : 1 ≤ pb.toInt ∧ pb.toInt ≤ 1024) (hzz : sz.toInt = 2) (hzd : zs.toInt = 2) :
    own_Met lL jy37 (Jvm.Cond.code jy37 prog_38_method_12_code 7 (some .boolean) :: ws) jr38 #[(.ref st), (.long o)] Z h0 (Q_rm_BB Z pg st pa np nb kq kp kn pb zs sz ff ft lg lf lt ba kb en z vs o h0 n0) := by
  refine own_begin (plainFor_of_name own_pn_com_example_portion_portion_server_OffsetSet) (fun mM => own_ef_rm_BB mM st o) fun pP eE sS mM below meth cC s₁ hx hby hml hZ hown hnm hre hlk X0 e0 => ?_
  have hC := @Jvm.hb _ _ hby
  have N0 := Fr.nil n0
  have K0 := Keep.refl h0 [st, pg]
  let ll1 : Array Slot := #[vR st, vJ o, vS, vU, vU, vU, vU]
  refine jg s₁ mM 1 ll1 [(.ref st)] (fun tT kK => ?_) ?_
  · refine XS.aloadN X0.here hx rfl (hC e29_0.1) rfl rfl ?_
    exact kK
  refine jf X0 hx hZ hown (jk hw 21 rfl) e0 F0.g0 (hC e29_0.2.1) fun T1_ X1_ e1_ => ?_
  refine jg T1_ mM 6 ll1 [(.int (lcmpW zs (0 : Int64)))] (fun tT kK => ?_) ?_
  · refine XS.lconst X1_.here hx rfl (hC e29_0.2.2.1) ?_
    refine XS.lcmp X1_.here hx rfl (hC e29_0.2.2.2) rfl ?_
    exact kK
  have t2_ : (0 : Int64).toInt = 0 := rfl
  refine jg T1_ mM 10 ll1 [(.ref st)] (fun tT kK => ?_) ?_
  · refine XS.ifNo X1_.here hx rfl (hC e29_6.1) rfl ((if0 _ _).trans (tlt ((lw_gt zs (0 : Int64)).mpr ((own_lt (by omega)) : (0 : Int64) < zs))).2.2.2) ?_
    refine XS.aloadN X1_.here hx rfl (hC e29_6.2.1) rfl rfl ?_
    exact kK
  refine jv X1_ hx hZ (y := jy25) hown (jk hw 99 rfl) (jk hw 100 rfl) (jk hw 102 rfl) (jk hw 101 rfl) (jk hw 103 rfl) (jk hw 3 rfl) (rm_fi lL Z a0 hw [] st pa pg kq ff zs h0 n0 (Nat.le_trans Z0 K0.1) F0.g0 F0.g1 Vp G0.g1 (by omega)) F0.E e1_ own_pd4 [] [] (hC e29_6.2.2.1) rfl rfl (by rw [hml]; rfl) (by decide) 0 (Nat.le_of_eq rfl) (by decide) (by decide) (by decide : 0 + 0 ≤ _) (by decide : 0 + 0 ≤ _) fun vv3_ T3_ L3_ X3_ hQ3_ => ?_
  obtain ⟨rfl, N3_q, p3__0⟩ := hQ3_
  have N3_ := Fr.app N0 N3_q
  refine jg T3_ mM 15 ll1 [(.int (lcmpW ff o))] (fun tT kK => ?_) ?_
  · refine XS.lloadN X3_.here hx rfl (hC e29_6.2.2.2) rfl ?_
    refine XS.lcmp X3_.here hx rfl (hC e29_14.1) rfl ?_
    exact kK
  obtain ⟨v4_, st5_⟩ : ∃ v4_ : Int32, ∀ tT, Steps pP.tables eE below (T3_.setTop (mkF mM 24 #[.val (.ref st), .val (.long o), .second, .val (.int v4_), .unset, .unset, .unset] [])) tT → Steps pP.tables eE below (T3_.setTop (mkF mM 15 #[.val (.ref st), .val (.long o), .second, .unset, .unset, .unset, .unset] [(.int (lcmpW ff o))])) tT := by
    by_cases hm1 : ff < o
    · refine ⟨(1 : Int32), fun tT kK => ?_⟩
      refine XS.ifNo X3_.here hx rfl (hC e29_14.2.1) rfl ((if0 _ _).trans (tlt ((lw_lt ff o).mpr (hm1 : ff < o))).2.1) ?_
      refine XS.iconst X3_.here hx rfl (hC e29_14.2.2.1) ?_
      refine XS.goto X3_.here hx rfl (pc0 := 19) (pc' := 23) rfl (hC e29_14.2.2.2) (by decide) (by decide) ?_
      let ll2 : Array Slot := #[vR st, vJ o, vS, vI 1, vU, vU, vU]
      refine XS.istoreN X3_.here hx rfl (hC e29_23.1) rfl (l' := ll2) rfl ?_
      exact kK
    · refine ⟨(0 : Int32), fun tT kK => ?_⟩
      refine XS.ifYes X3_.here hx rfl (pc0 := 15) (pc' := 22) rfl (hC e29_14.2.1) rfl ((if0 _ _).trans (flt (mt (lw_lt ff o).mp (hm1 : ¬ (ff < o)))).2.1) (by decide) (by decide) ?_
      refine XS.iconst X3_.here hx rfl (hC e29_23.2.1) ?_
      let ll3 : Array Slot := #[vR st, vJ o, vS, vI 0, vU, vU, vU]
      refine XS.istoreN X3_.here hx rfl (hC e29_23.1) rfl (l' := ll3) rfl ?_
      exact kK
  refine own_fin st5_ ?_
  let ll4 : Array Slot := #[vR st, vJ o, vS, vI v4_, vI 0, vU, vU]
  refine jg T3_ mM 30 ll4 [(.ref st), (.int 0)] (fun tT kK => ?_) ?_
  · refine XS.iconst X3_.here hx rfl (hC e29_23.2.2.1) ?_
    refine XS.istore X3_.here hx rfl (hC e29_23.2.2.2) rfl (l' := ll4) rfl ?_
    refine XS.iload X3_.here hx rfl (hC e29_27.1) rfl ?_
    refine XS.aloadN X3_.here hx rfl (hC e29_27.2.1) rfl rfl ?_
    exact kK
  refine jf X3_ hx hZ hown (jk hw 40 rfl) p3__0 F0.g2 (hC e29_27.2.2.1) fun T6_ X6_ e6_ => ?_
  refine jg T6_ mM 37 ll4 [(.ref st)] (fun tT kK => ?_) ?_
  · refine XS.icmpNo X6_.here hx rfl (hC e29_27.2.2.2) rfl (tlt ((by decide) : (0 : Int32) < (1 : Int32))).2.1 ?_
    refine XS.aloadN X6_.here hx rfl (hC e29_36.1) rfl rfl ?_
    exact kK
  refine jf X6_ hx hZ hown (jk hw 12 rfl) e6_ F0.g1 (hC e29_36.2.1) fun T7_ X7_ e7_ => ?_
  refine jg T7_ mM 42 ll4 [(.int 0), (.ref pa)] (fun tT kK => ?_) ?_
  · refine XS.iload X7_.here hx rfl (hC e29_36.2.2.1) rfl ?_
    exact kK
  obtain ⟨cl8_, Ar8_, qk8_, Sz8_, Nn8_, Hh8_, Gg8_⟩ := id Vp
  have hin9_ : ¬ ((0 : Int32) < 0 ∨ cl8_.slots.size ≤ ((0 : Int32)).toNatClampNeg) := inb_of Sz8_ ⟨by decide, by decide⟩
  have hat9_ : cl8_.slots[((0 : Int32)).toNatClampNeg]? = some (.ref pg) := Hh8_.at hin9_ rfl
  refine jg T7_ mM 43 ll4 [(.ref pg)] (fun tT kK => ?_) ?_
  · refine X7_.aaload hx (j := (0 : Int32)) (v := (.ref pg)) (own_rw e7_ Ar8_.1) (State.isArrayOf_alike hZ.alike Ar8_.2.1) rfl Ar8_.2.2 hin9_ hat9_ (g := (mkF mM 42 ll4 [(.int 0), (.ref pa)])) rfl rfl (hC e29_36.2.2.2) _ ?_
    exact kK
  refine jv X7_ hx hZ (y := jy5) hown (jk hw 195 rfl) (jk hw 85 rfl) (jk hw 87 rfl) (jk hw 86 rfl) (jk hw 88 rfl) (jk hw 56 rfl) (rm_ltb lL Z a0 hw [] pg lt h0 n0 (Nat.le_trans Z0 K0.1) G0.g6 G0.g9) G0.E e7_ own_pd4 [] [] (hC e29_43.1) rfl rfl (by rw [hml]; rfl) (by decide) 0 (Nat.le_of_eq rfl) (by decide) (by decide) (by decide : 0 + 0 ≤ _) (by decide : 0 + 0 ≤ _) fun vv10_ T10_ L10_ X10_ hQ10_ => ?_
  obtain ⟨rfl, N10_q, p10__0⟩ := hQ10_
  have N10_ := Fr.app N3_ N10_q
  refine jg T10_ mM 48 ll4 [(.int (lcmpW lt o))] (fun tT kK => ?_) ?_
  · refine XS.lloadN X10_.here hx rfl (hC e29_43.2.1) rfl ?_
    refine XS.lcmp X10_.here hx rfl (hC e29_43.2.2.1) rfl ?_
    exact kK
  by_cases hc48_11_ : o < lt
  · refine jg T10_ mM 76 ll4 [] (fun tT kK => ?_) ?_
    · refine XS.ifYes X10_.here hx rfl (pc0 := 48) (pc' := 76) rfl (hC e29_43.2.2.2) rfl ((if0 _ _).trans (tlt ((lw_gt lt o).mpr (hc48_11_ : o < lt))).2.2.1) (by decide) (by decide) ?_
      exact kK
    have t12_ := own_tlt hc48_11_
    refine jg T10_ mM 93 ll4 [(.ref st)] (fun tT kK => ?_) ?_
    · refine XS.iload X10_.here hx rfl (hC e29_76.1) rfl ?_
      refine XS.ifYes X10_.here hx rfl (pc0 := 78) (pc' := 92) rfl (hC e29_76.2.1) rfl ((if0 _ _).trans (flt ((by decide) : ¬ ((0 : Int32) < (0 : Int32)))).2.2.2) (by decide) (by decide) ?_
      refine XS.aloadN X10_.here hx rfl (hC e29_76.2.2.1) rfl rfl ?_
      exact kK
    refine jf X10_ hx hZ hown (jk hw 40 rfl) p10__0 F0.g2 (hC e29_76.2.2.2) fun T13_ X13_ e13_ => ?_
    refine jg T13_ mM 100 ll4 [(.ref st)] (fun tT kK => ?_) ?_
    · refine XS.ifNo X13_.here hx rfl (hC e29_96.1) rfl ((if0 _ _).trans (tlt ((by decide) : (0 : Int32) < (1 : Int32))).2.2.2) ?_
      refine XS.aloadN X13_.here hx rfl (hC e29_96.2.1) rfl rfl ?_
      exact kK
    refine jf X13_ hx hZ hown (jk hw 12 rfl) e13_ F0.g1 (hC e29_96.2.2.1) fun T14_ X14_ e14_ => ?_
    refine jg T14_ mM 104 ll4 [(.int 0), (.ref pa)] (fun tT kK => ?_) ?_
    · refine XS.iconst X14_.here hx rfl (hC e29_96.2.2.2) ?_
      exact kK
    obtain ⟨cl15_, Ar15_, qk15_, Sz15_, Nn15_, Hh15_, Gg15_⟩ := id Vp
    have hin16_ : ¬ ((0 : Int32) < 0 ∨ cl15_.slots.size ≤ ((0 : Int32)).toNatClampNeg) := inb_of Sz15_ ⟨by decide, by decide⟩
    have hat16_ : cl15_.slots[((0 : Int32)).toNatClampNeg]? = some (.ref pg) := Hh15_.at hin16_ rfl
    refine jg T14_ mM 105 ll4 [(.ref pg)] (fun tT kK => ?_) ?_
    · refine X14_.aaload hx (j := (0 : Int32)) (v := (.ref pg)) (own_rw e14_ Ar15_.1) (State.isArrayOf_alike hZ.alike Ar15_.2.1) rfl Ar15_.2.2 hin16_ hat16_ (g := (mkF mM 104 ll4 [(.int 0), (.ref pa)])) rfl rfl (hC e29_104.1) _ ?_
      exact kK
    obtain ⟨T17_, X17_, e17_, st17_⟩ := own_getRef X14_ hx hZ hown (jk hw 77 rfl) Via.refl e14_ G0.g0 (g := (mkF mM 105 ll4 [(.ref pg)])) rfl rfl (hC e29_104.2.1)
    refine own_fin st17_ ?_
    let ll5 : Array Slot := #[vR st, vJ o, vS, vI v4_, vI 0, vJ sz, vS]
    refine jg T17_ mM 111 ll5 [(.ref st)] (fun tT kK => ?_) ?_
    · refine XS.lstore X17_.here hx rfl (hC e29_104.2.2.1) rfl (l' := ll5) rfl ?_
      refine XS.aloadN X17_.here hx rfl (hC e29_104.2.2.2) rfl rfl ?_
      exact kK
    refine jf X17_ hx hZ hown (jk hw 12 rfl) e17_ F0.g1 (hC e29_111.1) fun T18_ X18_ e18_ => ?_
    refine jg T18_ mM 115 ll5 [(.int 0), (.ref pa)] (fun tT kK => ?_) ?_
    · refine XS.iconst X18_.here hx rfl (hC e29_111.2.1) ?_
      exact kK
    obtain ⟨cl19_, Ar19_, qk19_, Sz19_, Nn19_, Hh19_, Gg19_⟩ := id Vp
    have hin20_ : ¬ ((0 : Int32) < 0 ∨ cl19_.slots.size ≤ ((0 : Int32)).toNatClampNeg) := inb_of Sz19_ ⟨by decide, by decide⟩
    have hat20_ : cl19_.slots[((0 : Int32)).toNatClampNeg]? = some (.ref pg) := Hh19_.at hin20_ rfl
    refine jg T18_ mM 117 ll5 [(.long o), (.ref pg)] (fun tT kK => ?_) ?_
    · refine X18_.aaload hx (j := (0 : Int32)) (v := (.ref pg)) (own_rw e18_ Ar19_.1) (State.isArrayOf_alike hZ.alike Ar19_.2.1) rfl Ar19_.2.2 hin20_ hat20_ (g := (mkF mM 115 ll5 [(.int 0), (.ref pa)])) rfl rfl (hC e29_111.2.2.1) _ ?_
      refine XS.lloadN X18_.here hx rfl (hC e29_111.2.2.2) rfl ?_
      exact kK
    refine jv X18_ hx hZ (y := jy36) hown (jk hw 196 rfl) (jk hw 197 rfl) (jk hw 199 rfl) (jk hw 198 rfl) (jk hw 200 rfl) (jk hw 56 rfl) (rm_bB lL Z a0 hw [] pg nb sz ff ft lg lf lt ba kb en z vs o h0 n0 (Nat.le_trans Z0 K0.1) G0 Vb hE hn Zb O0 (by omega) (by omega) (by omega) (by omega) (by omega) (by omega) g_pg) G0.E e18_ own_pd0 [(.long o)] [] (hC e29_117.1) rfl rfl (by rw [hml]; rfl) (by decide) 0 (Nat.le_of_eq rfl) (by decide) (by decide) (by decide : 0 + 1 ≤ _) (by decide : 0 + 4 ≤ _) fun vv21_ T21_ L21_ X21_ hQ21_ => ?_
    obtain ⟨s'_21_, rfl, N21_q, p21__0, p21__1, p21__2, p21__3⟩ := hQ21_
    have N21_ := Fr.app N10_ N21_q
    have ne22_ : st ≠ pg := (Exa.ne F0.E G0.E (by decide))
    have ne23_ : pa ≠ pg := (Ne.symm (own_neV G0.E Vp (jk hw 55 rfl)))
    have fc27_ := F0.keep p21__0 (ninS ne22_ nin0)
    have fc28_ := Vp.keep p21__0 (ninS ne23_ nin0)
    have K21_ := K0.trans p21__0 (allS (Or.inl (List.mem_of_getElem? (i := 1) rfl)) all0)
    refine jg T21_ mM 122 ll5 [(.ref st), (.ref st)] (fun tT kK => ?_) ?_
    · refine XS.aloadN X21_.here hx rfl (hC e29_117.2.1) rfl rfl ?_
      refine XS.dup X21_.here hx rfl (hC e29_117.2.2.1) rfl rfl ?_
      exact kK
    refine jf X21_ hx hZ hown (jk hw 21 rfl) rfl fc27_.g0 (hC e29_117.2.2.2) fun T33_ X33_ e33_ => ?_
    refine jg T33_ mM 128 ll5 [(.ref st), (.long sz), (.long zs), (.ref st)] (fun tT kK => ?_) ?_
    · refine XS.lload X33_.here hx rfl (hC e29_125.1) rfl ?_
      refine XS.aloadN X33_.here hx rfl (hC e29_125.2.1) rfl rfl ?_
      exact kK
    refine jf X33_ hx hZ hown (jk hw 12 rfl) e33_ fc27_.g1 (hC e29_125.2.2.1) fun T34_ X34_ e34_ => ?_
    refine jg T34_ mM 132 ll5 [(.int 0), (.ref pa), (.long sz), (.long zs), (.ref st)] (fun tT kK => ?_) ?_
    · refine XS.iconst X34_.here hx rfl (hC e29_125.2.2.2) ?_
      exact kK
    obtain ⟨cl35_, Ar35_, qk35_, Sz35_, Nn35_, Hh35_, Gg35_⟩ := id fc28_
    have hin36_ : ¬ ((0 : Int32) < 0 ∨ cl35_.slots.size ≤ ((0 : Int32)).toNatClampNeg) := inb_of Sz35_ ⟨by decide, by decide⟩
    have hat36_ : cl35_.slots[((0 : Int32)).toNatClampNeg]? = some (.ref pg) := Hh35_.at hin36_ rfl
    refine jg T34_ mM 133 ll5 [(.ref pg), (.long sz), (.long zs), (.ref st)] (fun tT kK => ?_) ?_
    · refine X34_.aaload hx (j := (0 : Int32)) (v := (.ref pg)) (own_rw e34_ Ar35_.1) (State.isArrayOf_alike hZ.alike Ar35_.2.1) rfl Ar35_.2.2 hin36_ hat36_ (g := (mkF mM 132 ll5 [(.int 0), (.ref pa), (.long sz), (.long zs), (.ref st)])) rfl rfl (hC e29_132.1) _ ?_
      exact kK
    obtain ⟨T37_, X37_, e37_, st37_⟩ := own_getRef X34_ hx hZ hown (jk hw 77 rfl) Via.refl e34_ p21__3 (g := (mkF mM 133 ll5 [(.ref pg), (.long sz), (.long zs), (.ref st)])) rfl rfl (hC e29_132.2.1)
    refine own_fin st37_ ?_
    refine jg T37_ mM 138 ll5 [(.long (zs - (sz - s'_21_))), (.ref st)] (fun tT kK => ?_) ?_
    · refine XS.lsub X37_.here hx rfl (hC e29_132.2.2.1) rfl ?_
      refine XS.lsub X37_.here hx rfl (hC e29_132.2.2.2) rfl ?_
      exact kK
    refine jq X37_ hx hZ hown (jk hw 21 rfl) e37_ fc27_.g0 fc27_.E (jk hw 22 rfl) (jk hw 2 rfl) (ty := .long) (by decide) rfl rfl (hC e29_138.1) K21_ N21_ (Or.inl (List.mem_of_getElem? (i := 0) rfl)) g_st fun T38_ h38_ X38_ e38_ W38_ Fw38_ K38_ N38_ => ?_
    have Bw38_ := fc27_.s0 hw W38_
    refine jg T38_ mM 142 ll5 [(.int v4_)] (fun tT kK => ?_) ?_
    · refine XS.iloadN X38_.here hx rfl (hC e29_138.2.1) rfl ?_
      exact kK
    have t50_ := rng64 sz
    have t51_ := rng64 s'_21_
    have t52_ := own_sub (x := sz) (y := s'_21_) (by omega)
    have t53_ := rng64 zs
    have t54_ := own_sub (x := zs) (y := (sz - s'_21_)) (by omega)
    exact own_rN X38_ hx hlk hre (by simp) (hC e29_138.2.2.1) e38_ (by decide) (by decide) ⟨(nar .boolean v4_), (zs - (sz - s'_21_)), rfl, N38_, K38_, (by omega), Bw38_.E, Bw38_.g0⟩
  · refine jg T10_ mM 51 ll4 [] (fun tT kK => ?_) ?_
    · refine XS.ifNo X10_.here hx rfl (hC e29_43.2.2.2) rfl ((if0 _ _).trans (flt (mt (lw_gt lt o).mp (hc48_11_ : ¬ (o < lt)))).2.2.1) ?_
      exact kK
    have t55_ := own_tnl hc48_11_
    refine jg T10_ mM 53 ll4 [(.ref st), (.ref st)] (fun tT kK => ?_) ?_
    · refine XS.aloadN X10_.here hx rfl (hC e29_138.2.2.2) rfl rfl ?_
      refine XS.dup X10_.here hx rfl (hC e29_52.1) rfl rfl ?_
      exact kK
    refine jf X10_ hx hZ hown (jk hw 21 rfl) p10__0 F0.g0 (hC e29_52.2.1) fun T56_ X56_ e56_ => ?_
    refine jg T56_ mM 57 ll4 [(.ref st), (.long zs), (.ref st)] (fun tT kK => ?_) ?_
    · refine XS.aloadN X56_.here hx rfl (hC e29_52.2.2.1) rfl rfl ?_
      exact kK
    refine jf X56_ hx hZ hown (jk hw 12 rfl) e56_ F0.g1 (hC e29_52.2.2.2) fun T57_ X57_ e57_ => ?_
    refine jg T57_ mM 62 ll4 [(.int 0), (.ref pa), (.long zs), (.ref st)] (fun tT kK => ?_) ?_
    · refine XS.iload X57_.here hx rfl (hC e29_60.1) rfl ?_
      exact kK
    obtain ⟨cl58_, Ar58_, qk58_, Sz58_, Nn58_, Hh58_, Gg58_⟩ := id Vp
    have hin59_ : ¬ ((0 : Int32) < 0 ∨ cl58_.slots.size ≤ ((0 : Int32)).toNatClampNeg) := inb_of Sz58_ ⟨by decide, by decide⟩
    have hat59_ : cl58_.slots[((0 : Int32)).toNatClampNeg]? = some (.ref pg) := Hh58_.at hin59_ rfl
    refine jg T57_ mM 63 ll4 [(.ref pg), (.long zs), (.ref st)] (fun tT kK => ?_) ?_
    · refine X57_.aaload hx (j := (0 : Int32)) (v := (.ref pg)) (own_rw e57_ Ar58_.1) (State.isArrayOf_alike hZ.alike Ar58_.2.1) rfl Ar58_.2.2 hin59_ hat59_ (g := (mkF mM 62 ll4 [(.int 0), (.ref pa), (.long zs), (.ref st)])) rfl rfl (hC e29_60.2.1) _ ?_
      exact kK
    obtain ⟨T60_, X60_, e60_, st60_⟩ := own_getRef X57_ hx hZ hown (jk hw 77 rfl) Via.refl e57_ G0.g0 (g := (mkF mM 63 ll4 [(.ref pg), (.long zs), (.ref st)])) rfl rfl (hC e29_60.2.2.1)
    refine own_fin st60_ ?_
    refine jg T60_ mM 67 ll4 [(.long (zs - sz)), (.ref st)] (fun tT kK => ?_) ?_
    · refine XS.lsub X60_.here hx rfl (hC e29_60.2.2.2) rfl ?_
      exact kK
    refine jq X60_ hx hZ hown (jk hw 21 rfl) e60_ F0.g0 F0.E (jk hw 22 rfl) (jk hw 2 rfl) (ty := .long) (by decide) rfl rfl (hC e29_67.1) K0 N10_ (Or.inl (List.mem_of_getElem? (i := 0) rfl)) g_st fun T61_ h61_ X61_ e61_ W61_ Fw61_ K61_ N61_ => ?_
    have ne62_ : pa ≠ st := (Ne.symm (own_neV F0.E Vp (jk hw 2 rfl)))
    have ne63_ : np ≠ st := (Ne.symm (own_neV F0.E Vn (jk hw 2 rfl)))
    have fc67_ := Vp.other W61_ ne62_
    have fc68_ := Vn.other W61_ ne63_
    have fc70_ := O0.wr W61_ g_st
    have Bw61_ := F0.s0 hw W61_
    let ll6 : Array Slot := #[vR st, vJ o, vS, vI v4_, vI 1, vU, vU]
    refine jg T61_ mM 30 ll6 [(.ref st), (.int 1)] (fun tT kK => ?_) ?_
    · refine XS.iinc X61_.here hx rfl (hC e29_67.2.1) rfl (l' := ll6) rfl ?_
      refine XS.goto X61_.here hx rfl (pc0 := 73) (pc' := 27) rfl (hC e29_67.2.2.1) (by decide) (by decide) ?_
      refine XS.iload X61_.here hx rfl (hC e29_27.1) rfl ?_
      refine XS.aloadN X61_.here hx rfl (hC e29_27.2.1) rfl rfl ?_
      exact kK
    refine jf X61_ hx hZ hown (jk hw 40 rfl) e61_ Bw61_.g2 (hC e29_27.2.2.1) fun T73_ X73_ e73_ => ?_
    refine jg T73_ mM 85 ll6 [(.int 1), (.int 0), (.ref st)] (fun tT kK => ?_) ?_
    · refine XS.icmpYes X73_.here hx rfl (pc0 := 33) (pc' := 76) rfl (hC e29_27.2.2.2) rfl (flt ((by decide) : ¬ ((1 : Int32) < (1 : Int32)))).2.1 (by decide) (by decide) ?_
      refine XS.iload X73_.here hx rfl (hC e29_76.1) rfl ?_
      refine XS.ifNo X73_.here hx rfl (hC e29_76.2.1) rfl ((if0 _ _).trans (tlt ((by decide) : (0 : Int32) < (1 : Int32))).2.2.2) ?_
      refine XS.aloadN X73_.here hx rfl (hC e29_67.2.2.2) rfl rfl ?_
      refine XS.iconst X73_.here hx rfl (hC e29_82.1) ?_
      refine XS.iload X73_.here hx rfl (hC e29_82.2.1) rfl ?_
      exact kK
    obtain ⟨T74_, X74_, e74_, st74_⟩ := getS2 X73_ hx hZ hown (host := "") (Or.inl (jk hw 10 rfl)) Via.refl e73_ (own_StaKeep fc70_ Zp) (g := (mkF mM 85 ll6 [(.int 1), (.int 0), (.ref st)])) rfl (hC e29_82.2.2.1)
    refine own_fin st74_ ?_
    refine jg T74_ mM 89 ll6 [(.int 0), (.ref np), (.int 1), (.int 0), (.ref st)] (fun tT kK => ?_) ?_
    · refine XS.iconst X74_.here hx rfl (hC e29_82.2.2.2) ?_
      exact kK
    refine jw X74_ hx hZ (y := jy10) hown (jk hw 69 rfl) (jk hw 70 rfl) (own_selP (y := jy10) hZ (jk hw 2 rfl) (jk hw 71 rfl) (jk hw 70 rfl) (by decide)) (jk hw 71 rfl) (jk hw 72 rfl) (jk hw 3 rfl) (rm_rp0 lL Z a0 hw [] st pg pa np kp kq (zs - sz) pb h61_ n0 (Nat.le_trans Z0 K61_.1) Bw61_ fc68_ fc67_ Zp fc70_ g_st ne_np_pa) Bw61_.E e74_ own_pd9 [(.int 0), (.int 1), (.ref np), (.int 0)] [] (hC d29_89) rfl rfl (by rw [hml]; rfl) (by decide) 0 (Nat.le_of_eq rfl) (by decide) (by decide) (by decide : 0 + 0 ≤ _) (by decide : 0 + 0 ≤ _) fun vv75_ T75_ L75_ X75_ hQ75_ => ?_
    obtain ⟨rfl, N75_q, p75__0, p75__1⟩ := hQ75_
    have N75_ := Fr.app N61_ N75_q
    have K75_ := K61_.trans p75__0 (allS (Or.inl (List.mem_of_getElem? (i := 0) rfl)) all0)
    refine jg T75_ mM 93 ll6 [(.ref st)] (fun tT kK => ?_) ?_
    · refine XS.aloadN X75_.here hx rfl (hC e29_76.2.2.1) rfl rfl ?_
      exact kK
    refine jf X75_ hx hZ hown (jk hw 40 rfl) rfl p75__1.g2 (hC e29_76.2.2.2) fun T82_ X82_ e82_ => ?_
    refine jg T82_ mM 142 ll6 [(.int v4_)] (fun tT kK => ?_) ?_
    · refine XS.ifYes X82_.here hx rfl (pc0 := 96) (pc' := 141) rfl (hC e29_96.1) rfl ((if0 _ _).trans (flt ((by decide) : ¬ ((0 : Int32) < (0 : Int32)))).2.2.2) (by decide) (by decide) ?_
      refine XS.iloadN X82_.here hx rfl (hC e29_138.2.1) rfl ?_
      exact kK
    have t83_ := rng64 zs
    have t84_ := rng64 sz
    have t85_ := own_sub (x := zs) (y := sz) (by omega)
    exact own_rN X82_ hx hlk hre (by simp) (hC e29_138.2.2.1) e82_ (by decide) (by decide) ⟨(nar .boolean v4_), (zs - sz), rfl, N75_, K75_, (by omega), p75__1.E, p75__1.g0⟩
theorem e36_0 : jD38 0 (.aload_n 0, 1) ∧ jD38 1 (.lconst 0, 1) ∧ jD38 2 (.putfield 23, 3) ∧ jD38 5 (.aload_n 0, 1) := by decide +kernel
theorem e36_6 : jD38 6 (.getstatic 12, 3) ∧ jD38 9 (.putfield 16, 3) ∧ jD38 12 (.aload_n 0, 1) ∧ jD38 13 (.iconst 0, 1) := by decide +kernel
theorem e36_14 : jD38 14 (.putfield 109, 3) ∧ jD38 17 (.return_, 1) := by decide +kernel
theorem own_ef_rm_clr (mM : MethodId) (x0 : Addr) : entryFrame mM #[(.ref x0)] 1 = mkF mM 0 #[.val (.ref x0)] [] := by first | (simp [entryFrame, mkF, argsToLocals, Value.category]; done) | rfl
def Q_rm_clr (Z : State) (st : Addr) (np : Addr) (pa : Addr) (zs : Int64) (pc : Int32) (pb : Int32) (h0 : Heap) (n0 : Nat) (vV : Option Value) (hH : Heap) (lA : List Loc) : Prop := vV = none ∧ Fr n0 lA ∧ (Keep h0 hH [st]) ∧ (own_bO Z hH st (0 : Int64) (.ref np) (0 : Int32) pb)
theorem rm_clr (lL : Launch) (Z : State) (a0 : Array Value) (hw : own_H a0 Z) (ws : List Jvm.Cond) (st : Addr) (np : Addr) (pa : Addr) (zs : Int64) (pc : Int32) (pb : Int32) (h0 : Heap) (n0 : Nat) (Z0 : n0 ≤ h0.size) (F0 : own_bO Z h0 st zs (.ref pa) pc pb) (Zp : Sta Z Z.heap "com/example/portion/portion/server/OffsetSet" "NO_PAGES" "[Lcom/example/portion/portion/server/OffsetSet$Page;" (.ref np)) (O0 : Old Z n0 h0) (g_st : n0 ≤ st) :
    own_Met lL jy38 (Jvm.Cond.code jy38 prog_38_method_13_code 1 none :: ws) jr0 #[(.ref st)] Z h0 (Q_rm_clr Z st np pa zs pc pb h0 n0) := by
  refine own_begin (plainFor_of_name own_pn_com_example_portion_portion_server_OffsetSet) (fun mM => own_ef_rm_clr mM st) fun pP eE sS mM below meth cC s₁ hx hby hml hZ hown hnm hre hlk X0 e0 => ?_
  have hC := @Jvm.hb _ _ hby
  have N0 := Fr.nil n0
  have K0 := Keep.refl h0 [st]
  refine jg s₁ mM 2 #[vR st] [(.long 0), (.ref st)] (fun tT kK => ?_) ?_
  · refine XS.aloadN X0.here hx rfl (hC e36_0.1) rfl rfl ?_
    refine XS.lconst X0.here hx rfl (hC e36_0.2.1) ?_
    exact kK
  refine jq X0 hx hZ hown (jk hw 21 rfl) e0 F0.g0 F0.E (jk hw 22 rfl) (jk hw 2 rfl) (ty := .long) (by decide) rfl rfl (hC e36_0.2.2.1) K0 N0 (Or.inl (List.mem_of_getElem? (i := 0) rfl)) g_st fun T1_ h1_ X1_ e1_ W1_ Fw1_ K1_ N1_ => ?_
  have fc2_ := O0.wr W1_ g_st
  have Bw1_ := F0.s0 hw W1_
  refine jg T1_ mM 6 #[vR st] [(.ref st)] (fun tT kK => ?_) ?_
  · refine XS.aloadN X1_.here hx rfl (hC e36_0.2.2.2) rfl rfl ?_
    exact kK
  obtain ⟨T3_, X3_, e3_, st3_⟩ := getS2 X1_ hx hZ hown (host := "") (Or.inl (jk hw 10 rfl)) Via.refl e1_ (own_StaKeep fc2_ Zp) (g := (mkF mM 6 #[vR st] [(.ref st)])) rfl (hC e36_6.1)
  refine own_fin st3_ ?_
  refine jq X3_ hx hZ hown (jk hw 12 rfl) e3_ Bw1_.g1 Bw1_.E (jk hw 13 rfl) (jk hw 2 rfl) (ty := (.array (.object "com/example/portion/portion/server/OffsetSet$Page"))) (by decide) rfl rfl (hC e36_6.2.1) K1_ N1_ (Or.inl (List.mem_of_getElem? (i := 0) rfl)) g_st fun T4_ h4_ X4_ e4_ W4_ Fw4_ K4_ N4_ => ?_
  have Bw4_ := Bw1_.s1 hw W4_
  refine jg T4_ mM 14 #[vR st] [(.int 0), (.ref st)] (fun tT kK => ?_) ?_
  · refine XS.aloadN X4_.here hx rfl (hC e36_6.2.2.1) rfl rfl ?_
    refine XS.iconst X4_.here hx rfl (hC e36_6.2.2.2) ?_
    exact kK
  refine jq X4_ hx hZ hown (jk hw 40 rfl) e4_ Bw4_.g2 Bw4_.E (jk hw 41 rfl) (jk hw 2 rfl) (ty := .int) (by decide) rfl rfl (hC e36_14.1) K4_ N4_ (Or.inl (List.mem_of_getElem? (i := 0) rfl)) g_st fun T6_ h6_ X6_ e6_ W6_ Fw6_ K6_ N6_ => ?_
  have Bw6_ := Bw4_.s2 hw W6_
  exact own_rV X6_ hx hlk hre (hC e36_14.2) e6_ (by decide) (by decide) ⟨rfl, N6_, K6_, Bw6_⟩
theorem e3_0 : jD39 0 (.aload_n 0, 1) ∧ jD39 1 (.getfield 23, 3) ∧ jD39 4 (.lconst 0, 1) ∧ jD39 5 (.lcmp, 1) := by decide +kernel
theorem e3_6 : jD39 6 (.ifCond .ne 7, 3) ∧ jD39 9 (.iconst 1, 1) ∧ jD39 10 (.goto 4, 3) ∧ jD39 14 (.ireturn, 1) := by decide +kernel
theorem own_ef_rm_emY (mM : MethodId) (x0 : Addr) : entryFrame mM #[(.ref x0)] 1 = mkF mM 0 #[.val (.ref x0)] [] := by first | (simp [entryFrame, mkF, argsToLocals, Value.category]; done) | rfl
def Q_rm_emY (Z : State) (st : Addr) (z : Int64) (h0 : Heap) (n0 : Nat) (vV : Option Value) (hH : Heap) (lA : List Loc) : Prop := vV = some (.int 1) ∧ Fr n0 lA ∧ (hH = h0)
theorem rm_emY (lL : Launch) (Z : State) (a0 : Array Value) (hw : own_H a0 Z) (ws : List Jvm.Cond) (st : Addr) (z : Int64) (h0 : Heap) (n0 : Nat) (Z0 : n0 ≤ h0.size) (Fs : jF0 Z h0 st (.long z)) (hz : z.toInt = 0) :
    own_Met lL jy39 (Jvm.Cond.code jy39 prog_38_method_3_code 1 (some .boolean) :: ws) jr0 #[(.ref st)] Z h0 (Q_rm_emY Z st z h0 n0) := by
  refine own_begin (plainFor_of_name own_pn_com_example_portion_portion_server_OffsetSet) (fun mM => own_ef_rm_emY mM st) fun pP eE sS mM below meth cC s₁ hx hby hml hZ hown hnm hre hlk X0 e0 => ?_
  have hC := @Jvm.hb _ _ hby
  have N0 := Fr.nil n0
  have K0 := Keep.refl h0 ([] : List Addr)
  refine jg s₁ mM 1 #[vR st] [(.ref st)] (fun tT kK => ?_) ?_
  · refine XS.aloadN X0.here hx rfl (hC e3_0.1) rfl rfl ?_
    exact kK
  refine jf X0 hx hZ hown (jk hw 21 rfl) e0 Fs (hC e3_0.2.1) fun T1_ X1_ e1_ => ?_
  refine jg T1_ mM 6 #[vR st] [(.int (lcmpW z (0 : Int64)))] (fun tT kK => ?_) ?_
  · refine XS.lconst X1_.here hx rfl (hC e3_0.2.2.1) ?_
    refine XS.lcmp X1_.here hx rfl (hC e3_0.2.2.2) rfl ?_
    exact kK
  have t2_ : (0 : Int64).toInt = 0 := rfl
  refine jg T1_ mM 14 #[vR st] [(.int 1)] (fun tT kK => ?_) ?_
  · refine XS.ifNo X1_.here hx rfl (hC e3_6.1) rfl ((if0 _ _).trans (teq ((lw_eq z (0 : Int64)).mpr ((own_eqv (by omega)) : z = (0 : Int64)))).2) ?_
    refine XS.iconst X1_.here hx rfl (hC e3_6.2.1) ?_
    refine XS.goto X1_.here hx rfl (pc0 := 10) (pc' := 14) rfl (hC e3_6.2.2.1) (by decide) (by decide) ?_
    exact kK
  exact own_rL X1_ hx hlk hre (by simp) (hC e3_6.2.2.2) (w := (.int 1)) rfl e1_ (by decide) (by decide) ⟨rfl, N0, rfl⟩
theorem d3_13 : jD39 13 (.iconst 0, 1) := by decide +kernel
theorem own_ef_rm_emN (mM : MethodId) (x0 : Addr) : entryFrame mM #[(.ref x0)] 1 = mkF mM 0 #[.val (.ref x0)] [] := by first | (simp [entryFrame, mkF, argsToLocals, Value.category]; done) | rfl
def Q_rm_emN (Z : State) (st : Addr) (z : Int64) (h0 : Heap) (n0 : Nat) (vV : Option Value) (hH : Heap) (lA : List Loc) : Prop := vV = some (.int 0) ∧ Fr n0 lA ∧ (hH = h0)
theorem rm_emN (lL : Launch) (Z : State) (a0 : Array Value) (hw : own_H a0 Z) (ws : List Jvm.Cond) (st : Addr) (z : Int64) (h0 : Heap) (n0 : Nat) (Z0 : n0 ≤ h0.size) (Fs : jF0 Z h0 st (.long z)) (hz : ¬ z.toInt = 0) :
    own_Met lL jy39 (Jvm.Cond.code jy39 prog_38_method_3_code 1 (some .boolean) :: ws) jr0 #[(.ref st)] Z h0 (Q_rm_emN Z st z h0 n0) := by
  refine own_begin (plainFor_of_name own_pn_com_example_portion_portion_server_OffsetSet) (fun mM => own_ef_rm_emN mM st) fun pP eE sS mM below meth cC s₁ hx hby hml hZ hown hnm hre hlk X0 e0 => ?_
  have hC := @Jvm.hb _ _ hby
  have N0 := Fr.nil n0
  have K0 := Keep.refl h0 ([] : List Addr)
  refine jg s₁ mM 1 #[vR st] [(.ref st)] (fun tT kK => ?_) ?_
  · refine XS.aloadN X0.here hx rfl (hC e3_0.1) rfl rfl ?_
    exact kK
  refine jf X0 hx hZ hown (jk hw 21 rfl) e0 Fs (hC e3_0.2.1) fun T1_ X1_ e1_ => ?_
  refine jg T1_ mM 6 #[vR st] [(.int (lcmpW z (0 : Int64)))] (fun tT kK => ?_) ?_
  · refine XS.lconst X1_.here hx rfl (hC e3_0.2.2.1) ?_
    refine XS.lcmp X1_.here hx rfl (hC e3_0.2.2.2) rfl ?_
    exact kK
  have t2_ : (0 : Int64).toInt = 0 := rfl
  refine jg T1_ mM 14 #[vR st] [(.int 0)] (fun tT kK => ?_) ?_
  · refine XS.ifYes X1_.here hx rfl (pc0 := 6) (pc' := 13) rfl (hC e3_6.1) rfl ((if0 _ _).trans (feq (mt (lw_eq z (0 : Int64)).mp ((own_nev (by omega)) : ¬ (z = (0 : Int64))))).2) (by decide) (by decide) ?_
    refine XS.iconst X1_.here hx rfl (hC d3_13) ?_
    exact kK
  exact own_rL X1_ hx hlk hre (by simp) (hC e3_6.2.2.2) (w := (.int 0)) rfl e1_ (by decide) (by decide) ⟨rfl, N0, rfl⟩
theorem own_pn_com_example_portion_portion_server_OffsetSetIsEmptyPinLaw : plainName "com/example/portion/portion/server/OffsetSetIsEmptyPinLaw" = true := by first | (simp [plainName, overriddenIn]; done) | decide +kernel
theorem own_ef_rm0 (mM : MethodId) (x0 : Int64) (x1 : Int64) (x2 : Int64) (x3 : Int32) (x4 : Int32) : entryFrame mM #[(.long x0), (.long x1), (.long x2), (.int x3), (.int x4)] maxLocals = mkF mM 0 #[.val (.long x0), .second, .val (.long x1), .second, .val (.long x2), .second, .val (.int x3), .val (.int x4), .unset, .unset, .unset, .unset, .unset, .unset, .unset, .unset, .unset, .unset, .unset, .unset, .unset, .unset] [] := by first | (simp [entryFrame, mkF, argsToLocals, Value.category, maxLocals]; done) | rfl
def Q_rm0 (Z : State) (q1 : Int64) (q2 : Int64) (q3 : Int64) (p4 : Int32) (p5 : Int32) (np : Addr) (nb : Addr) (kp : ClassId) (kn : ClassId) (h0 : Heap) (n0 : Nat) (vV : Option Value) (hH : Heap) (lA : List Loc) : Prop := vV = some (.int 1) ∧ Fr n0 lA
theorem rm0 (lL : Launch) (Z : State) (a0 : Array Value) (hw : own_H a0 Z) (ws : List Jvm.Cond) (q1 : Int64) (q2 : Int64) (q3 : Int64) (p4 : Int32) (p5 : Int32) (np : Addr) (nb : Addr) (kp : ClassId) (kn : ClassId) (h0 : Heap) (n0 : Nat) (Z0 : n0 ≤ h0.size) (Zp : Sta Z Z.heap "com/example/portion/portion/server/OffsetSet" "NO_PAGES" "[Lcom/example/portion/portion/server/OffsetSet$Page;" (.ref np)) (Zb : Sta Z Z.heap "com/example/portion/portion/server/OffsetSet" "NO_BYTES" "[B" (.ref nb)) (O0 : Old Z n0 h0) (Vn : Arv Z h0 np kp (.object "com/example/portion/portion/server/OffsetSet$Page") (0 : Int32) [] .null) (Vb : Arv Z h0 nb kn .byte (0 : Int32) [] (.int 0)) :
    own_Met lL x (Jvm.Cond.code x code maxLocals ret :: ws) room_1 #[(.long q1), (.long q2), (.long q3), (.int p4), (.int p5)] Z h0 (Q_rm0 Z q1 q2 q3 p4 p5 np nb kp kn h0 n0) := by
  refine own_begin (plainFor_of_name own_pn_com_example_portion_portion_server_OffsetSetIsEmptyPinLaw) (fun mM => own_ef_rm0 mM q1 q2 q3 p4 p5) fun pP eE sS mM below meth cC s₁ hx hby hml hZ hown hnm hre hlk X0 e0 => ?_
  have hC := @Jvm.hb _ _ hby
  have N0 := Fr.nil n0
  have K0 := Keep.refl h0 ([] : List Addr)
  let ll1 : Array Slot := #[vJ q1, vS, vJ q2, vS, vJ q3, vS, vI p4, vI p5, vI ((p5 &&& (1023 : Int32)) + (1 : Int32)), vU, vU, vU, vU, vU, vU, vU, vU, vU, vU, vU, vU, vU]
  refine jg s₁ mM 10 ll1 [] (fun tT kK => ?_) ?_
  · refine XS.iload X0.here hx rfl (hC at_0) rfl ?_
    refine XS.sipush X0.here hx rfl (hC at_2) ?_
    refine XS.iand X0.here hx rfl (hC at_5) rfl ?_
    refine XS.iconst X0.here hx rfl (hC at_6) ?_
    refine XS.iadd X0.here hx rfl (hC at_7) rfl ?_
    refine XS.istore X0.here hx rfl (hC at_8) rfl (l' := ll1) rfl ?_
    exact kK
  show own_Fin pP eE below _ (s₁.setTop (mkF mM 10 #[.val (.long q1), .second, .val (.long q2), .second, .val (.long q3), .second, .val (.int p4), .val (.int p5), .val (.int ((p5 &&& (1023 : Int32)) + (1 : Int32))), .unset, .unset, .unset, .unset, .unset, .unset, .unset, .unset, .unset, .unset, .unset, .unset, .unset] []))
  generalize hpb : ((p5 &&& (1023 : Int32)) + (1 : Int32)) = pb
  have hp := own_pb hpb
  let ll2 : Array Slot := #[vJ q1, vS, vJ q2, vS, vJ q3, vS, vI p4, vI p5, vI pb, vJ ((q1 &&& (9223372036854775807 : Int64)) % (9223372036854775807 : Int64)), vS, vU, vU, vU, vU, vU, vU, vU, vU, vU, vU, vU]
  refine jg s₁ mM 21 ll2 [] (fun tT kK => ?_) ?_
  · refine XS.lloadN X0.here hx rfl (hC at_10) rfl ?_
    let ll3 : Array Slot := #[vJ q1, vS, vJ q2, vS, vJ q3, vS, vI p4, vI p5, vI pb, vU, vU, vU, vU, vU, vU, vU, vU, vU, vU, vU, vU, vU]
    refine X0.ldc2Long hx hown (jm hZ hw 0 rfl) (g := (mkF mM 11 ll3 [(.long q1)])) rfl (hC at_11) _ ?_
    refine XS.land X0.here hx rfl (hC at_14) rfl ?_
    refine X0.ldc2Long hx hown (jm hZ hw 0 rfl) (g := (mkF mM 15 ll3 [(.long (q1 &&& (9223372036854775807 : Int64)))])) rfl (hC at_15) _ ?_
    refine own_lremM X0.here hx rfl (hC at_18) rfl (by decide) ?_
    refine XS.lstore X0.here hx rfl (hC at_19) rfl (l' := ll2) rfl ?_
    exact kK
  show own_Fin pP eE below _ (s₁.setTop (mkF mM 21 #[.val (.long q1), .second, .val (.long q2), .second, .val (.long q3), .second, .val (.int p4), .val (.int p5), .val (.int pb), .val (.long ((q1 &&& (9223372036854775807 : Int64)) % (9223372036854775807 : Int64))), .second, .unset, .unset, .unset, .unset, .unset, .unset, .unset, .unset, .unset, .unset, .unset] []))
  generalize hxv : ((q1 &&& (9223372036854775807 : Int64)) % (9223372036854775807 : Int64)) = xv
  have hxv_ := own_xv hxv
  let ll4 : Array Slot := #[vJ q1, vS, vJ q2, vS, vJ q3, vS, vI p4, vI p5, vI pb, vJ xv, vS, vJ ((q2 &&& (9223372036854775807 : Int64)) % (9223372036854775807 : Int64)), vS, vU, vU, vU, vU, vU, vU, vU, vU, vU]
  refine jg s₁ mM 32 ll4 [] (fun tT kK => ?_) ?_
  · refine XS.lloadN X0.here hx rfl (hC at_21) rfl ?_
    let ll5 : Array Slot := #[vJ q1, vS, vJ q2, vS, vJ q3, vS, vI p4, vI p5, vI pb, vJ xv, vS, vU, vU, vU, vU, vU, vU, vU, vU, vU, vU, vU]
    refine X0.ldc2Long hx hown (jm hZ hw 0 rfl) (g := (mkF mM 22 ll5 [(.long q2)])) rfl (hC at_22) _ ?_
    refine XS.land X0.here hx rfl (hC at_25) rfl ?_
    refine X0.ldc2Long hx hown (jm hZ hw 0 rfl) (g := (mkF mM 26 ll5 [(.long (q2 &&& (9223372036854775807 : Int64)))])) rfl (hC at_26) _ ?_
    refine own_lremM X0.here hx rfl (hC at_29) rfl (by decide) ?_
    refine XS.lstore X0.here hx rfl (hC at_30) rfl (l' := ll4) rfl ?_
    exact kK
  show own_Fin pP eE below _ (s₁.setTop (mkF mM 32 #[.val (.long q1), .second, .val (.long q2), .second, .val (.long q3), .second, .val (.int p4), .val (.int p5), .val (.int pb), .val (.long xv), .second, .val (.long ((q2 &&& (9223372036854775807 : Int64)) % (9223372036854775807 : Int64))), .second, .unset, .unset, .unset, .unset, .unset, .unset, .unset, .unset, .unset] []))
  generalize hyv : ((q2 &&& (9223372036854775807 : Int64)) % (9223372036854775807 : Int64)) = yv
  have hyv_ := own_xv hyv
  obtain ⟨two, htwo, st1_⟩ : ∃ two : Int32, (two = (if (p4 &&& (4 : Int32)) = (0 : Int32) then (0 : Int32) else (1 : Int32))) ∧ ∀ tT, Steps pP.tables eE below (s₁.setTop (mkF mM 46 #[.val (.long q1), .second, .val (.long q2), .second, .val (.long q3), .second, .val (.int p4), .val (.int p5), .val (.int pb), .val (.long xv), .second, .val (.long yv), .second, .val (.int two), .unset, .unset, .unset, .unset, .unset, .unset, .unset, .unset] [])) tT → Steps pP.tables eE below (s₁.setTop (mkF mM 32 #[.val (.long q1), .second, .val (.long q2), .second, .val (.long q3), .second, .val (.int p4), .val (.int p5), .val (.int pb), .val (.long xv), .second, .val (.long yv), .second, .unset, .unset, .unset, .unset, .unset, .unset, .unset, .unset, .unset] [])) tT := by
    by_cases hm1 : (p4 &&& (4 : Int32)) = (0 : Int32)
    · refine ⟨(0 : Int32), by rw [if_pos hm1], fun tT kK => ?_⟩
      refine XS.iload X0.here hx rfl (hC at_32) rfl ?_
      refine XS.iconst X0.here hx rfl (hC at_34) ?_
      refine XS.iand X0.here hx rfl (hC at_35) rfl ?_
      refine XS.ifYes X0.here hx rfl (pc0 := 36) (pc' := 43) rfl (hC at_36) rfl ((if0 _ _).trans (teq (hm1 : (p4 &&& (4 : Int32)) = (0 : Int32))).1) (by decide) (by decide) ?_
      refine XS.iconst X0.here hx rfl (hC at_43) ?_
      let ll6 : Array Slot := #[vJ q1, vS, vJ q2, vS, vJ q3, vS, vI p4, vI p5, vI pb, vJ xv, vS, vJ yv, vS, vI 0, vU, vU, vU, vU, vU, vU, vU, vU]
      refine XS.istore X0.here hx rfl (hC at_44) rfl (l' := ll6) rfl ?_
      exact kK
    · refine ⟨(1 : Int32), by rw [if_neg hm1], fun tT kK => ?_⟩
      refine XS.iload X0.here hx rfl (hC at_32) rfl ?_
      refine XS.iconst X0.here hx rfl (hC at_34) ?_
      refine XS.iand X0.here hx rfl (hC at_35) rfl ?_
      refine XS.ifNo X0.here hx rfl (hC at_36) rfl ((if0 _ _).trans (feq (hm1 : ¬ ((p4 &&& (4 : Int32)) = (0 : Int32)))).1) ?_
      refine XS.iconst X0.here hx rfl (hC at_39) ?_
      refine XS.goto X0.here hx rfl (pc0 := 40) (pc' := 44) rfl (hC at_40) (by decide) (by decide) ?_
      let ll7 : Array Slot := #[vJ q1, vS, vJ q2, vS, vJ q3, vS, vI p4, vI p5, vI pb, vJ xv, vS, vJ yv, vS, vI 1, vU, vU, vU, vU, vU, vU, vU, vU]
      refine XS.istore X0.here hx rfl (hC at_44) rfl (l' := ll7) rfl ?_
      exact kK
  refine own_fin st1_ ?_
  obtain ⟨zv, st2_⟩ : ∃ zv : Int64, ∀ tT, Steps pP.tables eE below (s₁.setTop (mkF mM 63 #[.val (.long q1), .second, .val (.long q2), .second, .val (.long q3), .second, .val (.int p4), .val (.int p5), .val (.int pb), .val (.long xv), .second, .val (.long yv), .second, .val (.int two), .val (.long zv), .second, .unset, .unset, .unset, .unset, .unset, .unset] [])) tT → Steps pP.tables eE below (s₁.setTop (mkF mM 46 #[.val (.long q1), .second, .val (.long q2), .second, .val (.long q3), .second, .val (.int p4), .val (.int p5), .val (.int pb), .val (.long xv), .second, .val (.long yv), .second, .val (.int two), .unset, .unset, .unset, .unset, .unset, .unset, .unset, .unset] [])) tT := by
    by_cases hm1 : (p4 &&& (8 : Int32)) = (0 : Int32)
    · refine ⟨q3, fun tT kK => ?_⟩
      refine XS.iload X0.here hx rfl (hC at_46) rfl ?_
      refine XS.bipush X0.here hx rfl (hC at_48) ?_
      refine XS.iand X0.here hx rfl (hC at_50) rfl ?_
      refine XS.ifYes X0.here hx rfl (pc0 := 51) (pc' := 59) rfl (hC at_51) rfl ((if0 _ _).trans (teq (hm1 : (p4 &&& (8 : Int32)) = (0 : Int32))).1) (by decide) (by decide) ?_
      refine XS.lload X0.here hx rfl (hC at_59) rfl ?_
      let ll8 : Array Slot := #[vJ q1, vS, vJ q2, vS, vJ q3, vS, vI p4, vI p5, vI pb, vJ xv, vS, vJ yv, vS, vI two, vJ q3, vS, vU, vU, vU, vU, vU, vU]
      refine XS.lstore X0.here hx rfl (hC at_61) rfl (l' := ll8) rfl ?_
      exact kK
    · refine ⟨xv, fun tT kK => ?_⟩
      refine XS.iload X0.here hx rfl (hC at_46) rfl ?_
      refine XS.bipush X0.here hx rfl (hC at_48) ?_
      refine XS.iand X0.here hx rfl (hC at_50) rfl ?_
      refine XS.ifNo X0.here hx rfl (hC at_51) rfl ((if0 _ _).trans (feq (hm1 : ¬ ((p4 &&& (8 : Int32)) = (0 : Int32)))).1) ?_
      refine XS.lload X0.here hx rfl (hC at_54) rfl ?_
      refine XS.goto X0.here hx rfl (pc0 := 56) (pc' := 61) rfl (hC at_56) (by decide) (by decide) ?_
      let ll9 : Array Slot := #[vJ q1, vS, vJ q2, vS, vJ q3, vS, vI p4, vI p5, vI pb, vJ xv, vS, vJ yv, vS, vI two, vJ xv, vS, vU, vU, vU, vU, vU, vU]
      refine XS.lstore X0.here hx rfl (hC at_61) rfl (l' := ll9) rfl ?_
      exact kK
  refine own_fin st2_ ?_
  let ll10 : Array Slot := #[vJ q1, vS, vJ q2, vS, vJ q3, vS, vI p4, vI p5, vI pb, vJ xv, vS, vJ yv, vS, vI two, vJ zv, vS, vI (p4 &&& (3 : Int32)), vU, vU, vU, vU, vU]
  refine jg s₁ mM 69 ll10 [] (fun tT kK => ?_) ?_
  · refine XS.iload X0.here hx rfl (hC at_63) rfl ?_
    refine XS.iconst X0.here hx rfl (hC at_65) ?_
    refine XS.iand X0.here hx rfl (hC at_66) rfl ?_
    refine XS.istore X0.here hx rfl (hC at_67) rfl (l' := ll10) rfl ?_
    exact kK
  show own_Fin pP eE below _ (s₁.setTop (mkF mM 69 #[.val (.long q1), .second, .val (.long q2), .second, .val (.long q3), .second, .val (.int p4), .val (.int p5), .val (.int pb), .val (.long xv), .second, .val (.long yv), .second, .val (.int two), .val (.long zv), .second, .val (.int (p4 &&& (3 : Int32))), .unset, .unset, .unset, .unset, .unset] []))
  generalize hop : (p4 &&& (3 : Int32)) = op
  let ll11 : Array Slot := #[vJ q1, vS, vJ q2, vS, vJ q3, vS, vI p4, vI p5, vI pb, vJ xv, vS, vJ yv, vS, vI two, vJ zv, vS, vI op, vU, vU, vU, vU, vU]
  obtain ⟨T3_, h3_, X3_, e3_, E3_, A3_, D3_, -, st3_⟩ := newO X0 hx hZ hown (jk hw 1 rfl) (jk hw 2 rfl) (jk hw 3 rfl) e0 (g := (mkF mM 69 ll11 [])) rfl (hC at_69) (by decide) (by decide)
  obtain ⟨b3_, g3_⟩ : ∃ z, z = h0.size := ⟨_, rfl⟩
  rw [← g3_] at A3_ D3_ st3_
  have sz_b3_ : h0.size ≤ b3_ := Nat.le_trans K0.1 (Nat.le_of_eq g3_.symm)
  have ge_b3_ : n0 ≤ b3_ := Nat.le_trans Z0 sz_b3_
  have ne4_ : np ≠ b3_ := Nat.ne_of_lt (Nat.lt_of_lt_of_le Vn.lt (Nat.le_of_eq g3_.symm))
  have ne5_ : nb ≠ b3_ := Nat.ne_of_lt (Nat.lt_of_lt_of_le Vb.lt (Nat.le_of_eq g3_.symm))
  have fc6_ := O0.ext E3_
  have fc7_ := Vn.ext E3_
  have fc8_ := Vb.ext E3_
  have K3_ := K0.ext E3_
  have Bn3_ : own_bO Z h3_ b3_ (0 : Int64) .null (0 : Int32) (0 : Int32) := ⟨A3_, D3_ (Or.inl (jk hw 22 rfl)) (ty := .long) (by decide), D3_ (Or.inl (jk hw 13 rfl)) (ty := (.array (.object "com/example/portion/portion/server/OffsetSet$Page"))) (by decide), D3_ (Or.inl (jk hw 41 rfl)) (ty := .int) (by decide), D3_ (Or.inr (jk hw 15 rfl)) (ty := .int) (by decide)⟩
  refine own_fin st3_ ?_
  refine jg T3_ mM 75 ll11 [(.int pb), (.ref b3_), (.ref b3_)] (fun tT kK => ?_) ?_
  · refine XS.dup X3_.here hx rfl (hC at_72) rfl rfl ?_
    refine XS.iload X3_.here hx rfl (hC at_73) rfl ?_
    exact kK
  refine own_sb X3_ hx hZ (y := jy8) rfl hown (jk hw 4 rfl) (jk hw 5 rfl) (jk hw 6 rfl) (jk hw 3 rfl) (rm_os lL Z a0 hw [] b3_ np pb h3_ n0 (Nat.le_trans Z0 K3_.1) Bn3_ Zp fc6_ ge_b3_) (a := b3_) e3_ own_pd3 [(.int pb)] [(.ref b3_)] (hC at_75) rfl rfl (by rw [hml]; rfl) (by decide) 1 (Nat.le_of_eq rfl) (by decide) (by decide) (by decide : 1 + 0 ≤ _) (by decide : 4 + 0 ≤ _) fun vv9_ T9_ L9_ X9_ hQ9_ => ?_
  obtain ⟨rfl, N9_q, p9__0, p9__1⟩ := hQ9_
  have N9_ := Fr.app N0 N9_q
  have fc10_ := fc6_.keep p9__0 (allS ge_b3_ all0)
  have fc11_ := fc7_.keep p9__0 (ninS ne4_ nin0)
  have fc12_ := fc8_.keep p9__0 (ninS ne5_ nin0)
  have K9_ := K3_.trans p9__0 (allS (Or.inr sz_b3_) all0)
  let ll12 : Array Slot := #[vJ q1, vS, vJ q2, vS, vJ q3, vS, vI p4, vI p5, vI pb, vJ xv, vS, vJ yv, vS, vI two, vJ zv, vS, vI op, vR b3_, vU, vU, vU, vU]
  refine jg T9_ mM 82 ll12 [(.ref b3_)] (fun tT kK => ?_) ?_
  · refine XS.astore X9_.here hx rfl (hC at_78) rfl rfl (l' := ll12) rfl ?_
    refine XS.aload X9_.here hx rfl (hC at_80) rfl rfl ?_
    exact kK
  have t13_ : (0 : Int64).toInt = 0 := rfl
  refine jv X9_ hx hZ (y := jy39) hown (jk hw 16 rfl) (jk hw 17 rfl) (jk hw 19 rfl) (jk hw 18 rfl) (jk hw 20 rfl) (jk hw 3 rfl) (rm_emY lL Z a0 hw [] b3_ (0 : Int64) T9_.heap n0 (Nat.le_trans Z0 K9_.1) p9__1.g0 (by omega)) p9__1.E rfl own_pd8 [] [] (hC at_82) rfl rfl (by rw [hml]; rfl) (by decide) 0 (Nat.le_of_eq rfl) (by decide) (by decide) (by decide : 1 + 0 ≤ _) (by decide : 4 + 0 ≤ _) fun vv14_ T14_ L14_ X14_ hQ14_ => ?_
  obtain ⟨rfl, N14_q, p14__0⟩ := hQ14_
  have N14_ := Fr.app N9_ N14_q
  let ll13 : Array Slot := #[vJ q1, vS, vJ q2, vS, vJ q3, vS, vI p4, vI p5, vI pb, vJ xv, vS, vJ yv, vS, vI two, vJ zv, vS, vI op, vR b3_, vI 1, vU, vU, vU]
  refine jg T14_ mM 91 ll13 [(.long xv), (.ref b3_)] (fun tT kK => ?_) ?_
  · refine XS.istore X14_.here hx rfl (hC at_85) rfl (l' := ll13) rfl ?_
    refine XS.aload X14_.here hx rfl (hC at_87) rfl rfl ?_
    refine XS.lload X14_.here hx rfl (hC at_89) rfl ?_
    exact kK
  refine jv X14_ hx hZ (y := jy32) hown (jk hw 23 rfl) (jk hw 24 rfl) (jk hw 26 rfl) (jk hw 25 rfl) (jk hw 27 rfl) (jk hw 3 rfl) (rm_add0 lL Z a0 hw [] b3_ np nb kp pb xv T9_.heap n0 (Nat.le_trans Z0 K9_.1) p9__1 Zb fc10_ fc11_ ge_b3_ (by omega)) p9__1.E p14__0 own_pd0 [(.long xv)] [] (hC at_91) rfl rfl (by rw [hml]; rfl) (by decide) 0 (Nat.le_of_eq rfl) (by decide) (by decide) (by decide : 1 + 3 ≤ _) (by decide : 4 + 13 ≤ _) fun vv15_ T15_ L15_ X15_ hQ15_ => ?_
  obtain ⟨pg_15_, pa_15_, kq_15_, rfl, N15_q, p15__0, p15__1, p15__2, p15__3, p15__4, p15__5, p15__6, p15__7⟩ := hQ15_
  have N15_ := Fr.app N14_ N15_q
  have sz_pg_15_ : h0.size ≤ pg_15_ := Nat.le_trans K9_.1 p15__1
  have ge_pg_15_ : n0 ≤ pg_15_ := Nat.le_trans Z0 sz_pg_15_
  have ne16_ : np ≠ pg_15_ := Nat.ne_of_lt (Nat.lt_of_lt_of_le fc11_.lt p15__1)
  have ne17_ : nb ≠ pg_15_ := Nat.ne_of_lt (Nat.lt_of_lt_of_le fc12_.lt p15__1)
  have ne21_ : b3_ ≠ pa_15_ := Nat.ne_of_lt (Nat.lt_of_lt_of_le p9__1.lt p15__2)
  have fc22_ := fc10_.keep p15__0 (allS ge_b3_ all0)
  have fc23_ := fc11_.keep p15__0 (ninS ne4_ nin0)
  have fc24_ := fc12_.keep p15__0 (ninS ne5_ nin0)
  have K15_ := K9_.trans p15__0 (allS (Or.inr sz_b3_) all0)
  refine jg T15_ mM 96 ll13 [(.int two)] (fun tT kK => ?_) ?_
  · refine XS.iload X15_.here hx rfl (hC at_94) rfl ?_
    exact kK
  have jp25_ : ∀ (zq : Int64) (xq : Int32) (Tj25_ : State) (Lj25_ : List Loc) (hj25_ : Heap), ((zq.toInt = 0 ∧ xq.toInt = 1) ∨ ((¬ zq.toInt = 0) ∧ xq.toInt = 0)) → Stand pP lL eE room_1 sS mM #[(.long q1), (.long q2), (.long q3), (.int p4), (.int p5)] below meth cC Tj25_ Lj25_ 24 317 → Tj25_.heap = hj25_ → Keep h0 hj25_ ([] : List Addr) → (jE0 Z hj25_ b3_) → (jF0 Z hj25_ b3_ (.long zq)) → Fr n0 Lj25_ → own_Fin pP eE below (own_P sS room_1 (Q_rm0 Z q1 q2 q3 p4 p5 np nb kp kn h0 n0)) (Tj25_.setTop (mkF mM 245 #[.val (.long q1), .second, .val (.long q2), .second, .val (.long q3), .second, .val (.int p4), .val (.int p5), .val (.int pb), .val (.long xv), .second, .val (.long yv), .second, .val (.int two), .val (.long zv), .second, .val (.int op), .val (.ref b3_), .val (.int 1), .val (.int 0), .val (.int xq), .unset] [])) := by
    intro zq xq Tj25_ Lj25_ hj25_ jF Xj25_ ej25_ Kj25_ fj25__0 fj25__1 Nj25_
    by_cases hc26_ : zq = (0 : Int64)
    · have t27_ := congrArg Int64.toInt hc26_
      let ll14 : Array Slot := #[vJ q1, vS, vJ q2, vS, vJ q3, vS, vI p4, vI p5, vI pb, vJ xv, vS, vJ yv, vS, vI two, vJ zv, vS, vI op, vR b3_, vI 1, vI 0, vI xq, vU]
      refine jg Tj25_ mM 247 ll14 [(.ref b3_)] (fun tT kK => ?_) ?_
      · refine XS.aload Xj25_.here hx rfl (hC at_245) rfl rfl ?_
        exact kK
      refine jv Xj25_ hx hZ (y := jy39) hown (jk hw 16 rfl) (jk hw 17 rfl) (jk hw 19 rfl) (jk hw 18 rfl) (jk hw 20 rfl) (jk hw 3 rfl) (rm_emY lL Z a0 hw [] b3_ zq hj25_ n0 (Nat.le_trans Z0 Kj25_.1) fj25__1 (by omega)) fj25__0 ej25_ own_pd8 [] [] (hC at_247) rfl rfl (by rw [hml]; rfl) (by decide) 0 (Nat.le_of_eq rfl) (by decide) (by decide) (by decide : 24 + 0 ≤ _) (by decide : 317 + 0 ≤ _) fun vv28_ T28_ L28_ X28_ hQ28_ => ?_
      obtain ⟨rfl, N28_q, p28__0⟩ := hQ28_
      have N28_ := Fr.app Nj25_ N28_q
      let ll15 : Array Slot := #[vJ q1, vS, vJ q2, vS, vJ q3, vS, vI p4, vI p5, vI pb, vJ xv, vS, vJ yv, vS, vI two, vJ zv, vS, vI op, vR b3_, vI 1, vI 0, vI xq, vI 1]
      refine jg T28_ mM 266 ll15 [(.int xq), (.int 1)] (fun tT kK => ?_) ?_
      · refine XS.istore X28_.here hx rfl (hC at_250) rfl (l' := ll15) rfl ?_
        refine XS.iload X28_.here hx rfl (hC at_252) rfl ?_
        refine XS.ifNo X28_.here hx rfl (hC at_254) rfl ((if0 _ _).trans (feq ((by decide) : ¬ ((1 : Int32) = (0 : Int32)))).1) ?_
        refine XS.iload X28_.here hx rfl (hC at_257) rfl ?_
        refine XS.ifNo X28_.here hx rfl (hC at_259) rfl ((if0 _ _).trans (teq ((by decide) : (0 : Int32) = (0 : Int32))).2) ?_
        refine XS.iload X28_.here hx rfl (hC at_262) rfl ?_
        refine XS.iload X28_.here hx rfl (hC at_264) rfl ?_
        exact kK
      have t29_ : (1 : Int32).toInt = 1 := rfl
      refine jg T28_ mM 274 ll15 [(.int 1)] (fun tT kK => ?_) ?_
      · refine XS.icmpNo X28_.here hx rfl (hC at_266) rfl (teq ((own_eqv3 (by omega)) : (1 : Int32) = xq)).2 ?_
        refine XS.iconst X28_.here hx rfl (hC at_269) ?_
        show Steps pP.tables eE below (T28_.setTop (mkF mM 270 ll15 [(.int 1)])) tT
        refine XS.goto X28_.here hx rfl (pc0 := 270) (pc' := 274) rfl (hC at_270) (by decide) (by decide) ?_
        exact kK
      exact own_rL X28_ hx hlk hre (by simp) (hC at_274) (w := (.int 1)) rfl p28__0 (by decide) (by decide) ⟨rfl, N28_⟩
    · have t30_ := own_tne hc26_
      let ll16 : Array Slot := #[vJ q1, vS, vJ q2, vS, vJ q3, vS, vI p4, vI p5, vI pb, vJ xv, vS, vJ yv, vS, vI two, vJ zv, vS, vI op, vR b3_, vI 1, vI 0, vI xq, vU]
      refine jg Tj25_ mM 247 ll16 [(.ref b3_)] (fun tT kK => ?_) ?_
      · refine XS.aload Xj25_.here hx rfl (hC at_245) rfl rfl ?_
        exact kK
      refine jv Xj25_ hx hZ (y := jy39) hown (jk hw 16 rfl) (jk hw 17 rfl) (jk hw 19 rfl) (jk hw 18 rfl) (jk hw 20 rfl) (jk hw 3 rfl) (rm_emN lL Z a0 hw [] b3_ zq hj25_ n0 (Nat.le_trans Z0 Kj25_.1) fj25__1 (by omega)) fj25__0 ej25_ own_pd8 [] [] (hC at_247) rfl rfl (by rw [hml]; rfl) (by decide) 0 (Nat.le_of_eq rfl) (by decide) (by decide) (by decide : 24 + 0 ≤ _) (by decide : 317 + 0 ≤ _) fun vv31_ T31_ L31_ X31_ hQ31_ => ?_
      obtain ⟨rfl, N31_q, p31__0⟩ := hQ31_
      have N31_ := Fr.app Nj25_ N31_q
      let ll17 : Array Slot := #[vJ q1, vS, vJ q2, vS, vJ q3, vS, vI p4, vI p5, vI pb, vJ xv, vS, vJ yv, vS, vI two, vJ zv, vS, vI op, vR b3_, vI 1, vI 0, vI xq, vI 0]
      refine jg T31_ mM 266 ll17 [(.int xq), (.int 0)] (fun tT kK => ?_) ?_
      · refine XS.istore X31_.here hx rfl (hC at_250) rfl (l' := ll17) rfl ?_
        refine XS.iload X31_.here hx rfl (hC at_252) rfl ?_
        refine XS.ifNo X31_.here hx rfl (hC at_254) rfl ((if0 _ _).trans (feq ((by decide) : ¬ ((1 : Int32) = (0 : Int32)))).1) ?_
        refine XS.iload X31_.here hx rfl (hC at_257) rfl ?_
        refine XS.ifNo X31_.here hx rfl (hC at_259) rfl ((if0 _ _).trans (teq ((by decide) : (0 : Int32) = (0 : Int32))).2) ?_
        refine XS.iload X31_.here hx rfl (hC at_262) rfl ?_
        refine XS.iload X31_.here hx rfl (hC at_264) rfl ?_
        exact kK
      have t32_ : (0 : Int32).toInt = 0 := rfl
      refine jg T31_ mM 274 ll17 [(.int 1)] (fun tT kK => ?_) ?_
      · refine XS.icmpNo X31_.here hx rfl (hC at_266) rfl (teq ((own_eqv3 (by omega)) : (0 : Int32) = xq)).2 ?_
        refine XS.iconst X31_.here hx rfl (hC at_269) ?_
        show Steps pP.tables eE below (T31_.setTop (mkF mM 270 ll17 [(.int 1)])) tT
        refine XS.goto X31_.here hx rfl (pc0 := 270) (pc' := 274) rfl (hC at_270) (by decide) (by decide) ?_
        exact kK
      exact own_rL X31_ hx hlk hre (by simp) (hC at_274) (w := (.int 1)) rfl p31__0 (by decide) (by decide) ⟨rfl, N31_⟩
  have jp33_ : ∀ (zs : Int64) (sz : Int64) (ff : Int64) (ft : Int64) (lg : Int64) (lf : Int64) (lt : Int64) (Tj33_ : State) (Lj33_ : List Loc) (hj33_ : Heap), ((sz.toInt = zs.toInt ∧ 0 ≤ ff.toInt ∧ ff.toInt < 9223372036854775807) ∧ ((zs.toInt = 1 ∧ ft.toInt = ff.toInt + 1 ∧ ff.toInt = xv.toInt ∧ (two.toInt = 0 ∨ yv.toInt = xv.toInt)) ∨ (zs.toInt = 2 ∧ ft.toInt = ff.toInt + 2 ∧ (¬ two.toInt = 0) ∧ ((ff.toInt = xv.toInt ∧ yv.toInt = xv.toInt + 1) ∨ (ff.toInt = yv.toInt ∧ xv.toInt = yv.toInt + 1))))) → Stand pP lL eE room_1 sS mM #[(.long q1), (.long q2), (.long q3), (.int p4), (.int p5)] below meth cC Tj33_ Lj33_ 10 127 → Tj33_.heap = hj33_ → Keep h0 hj33_ ([] : List Addr) → (Old Z n0 hj33_) → (Arv Z hj33_ np kp (.object "com/example/portion/portion/server/OffsetSet$Page") (0 : Int32) [] .null) → (Arv Z hj33_ nb kn .byte (0 : Int32) [] (.int 0)) → (own_bO Z hj33_ b3_ zs (.ref pa_15_) (1 : Int32) pb) → (Arv Z hj33_ pa_15_ kq_15_ (.object "com/example/portion/portion/server/OffsetSet$Page") (2 : Int32) [(.ref pg_15_), .null] .null) → (own_bP Z hj33_ pg_15_ sz ff ft (.ref nb) (0 : Int32) (0 : Int32) (-1 : Int32) lg lf lt) → Fr n0 Lj33_ → own_Fin pP eE below (own_P sS room_1 (Q_rm0 Z q1 q2 q3 p4 p5 np nb kp kn h0 n0)) (Tj33_.setTop (mkF mM 106 #[.val (.long q1), .second, .val (.long q2), .second, .val (.long q3), .second, .val (.int p4), .val (.int p5), .val (.int pb), .val (.long xv), .second, .val (.long yv), .second, .val (.int two), .val (.long zv), .second, .val (.int op), .val (.ref b3_), .val (.int 1), .unset, .unset, .unset] [])) := by
    intro zs sz ff ft lg lf lt Tj33_ Lj33_ hj33_ jA Xj33_ ej33_ Kj33_ fj33__0 fj33__1 fj33__2 fj33__3 fj33__4 fj33__5 Nj33_
    refine jg Tj33_ mM 108 ll13 [(.ref b3_)] (fun tT kK => ?_) ?_
    · refine XS.aload Xj33_.here hx rfl (hC at_106) rfl rfl ?_
      exact kK
    refine jv Xj33_ hx hZ (y := jy39) hown (jk hw 16 rfl) (jk hw 17 rfl) (jk hw 19 rfl) (jk hw 18 rfl) (jk hw 20 rfl) (jk hw 3 rfl) (rm_emN lL Z a0 hw [] b3_ zs hj33_ n0 (Nat.le_trans Z0 Kj33_.1) fj33__3.g0 (by omega)) fj33__3.E ej33_ own_pd8 [] [] (hC at_108) rfl rfl (by rw [hml]; rfl) (by decide) 0 (Nat.le_of_eq rfl) (by decide) (by decide) (by decide : 10 + 0 ≤ _) (by decide : 127 + 0 ≤ _) fun vv34_ T34_ L34_ X34_ hQ34_ => ?_
    obtain ⟨rfl, N34_q, p34__0⟩ := hQ34_
    have N34_ := Fr.app Nj33_ N34_q
    let ll18 : Array Slot := #[vJ q1, vS, vJ q2, vS, vJ q3, vS, vI p4, vI p5, vI pb, vJ xv, vS, vJ yv, vS, vI two, vJ zv, vS, vI op, vR b3_, vI 1, vI 0, vU, vU]
    refine jg T34_ mM 115 ll18 [(.int op)] (fun tT kK => ?_) ?_
    · refine XS.istore X34_.here hx rfl (hC at_111) rfl (l' := ll18) rfl ?_
      refine XS.iload X34_.here hx rfl (hC at_113) rfl ?_
      exact kK
    by_cases hc115_35_ : op = (0 : Int32)
    · refine jg T34_ mM 118 ll18 [] (fun tT kK => ?_) ?_
      · refine XS.ifNo X34_.here hx rfl (hC at_115) rfl ((if0 _ _).trans (teq (hc115_35_ : op = (0 : Int32))).2) ?_
        exact kK
      have t36_ : (0 : Int32).toInt = 0 := rfl
      have t37_ := congrArg Int32.toInt hc115_35_
      refine jg T34_ mM 122 ll18 [(.long zv), (.ref b3_)] (fun tT kK => ?_) ?_
      · refine XS.aload X34_.here hx rfl (hC at_118) rfl rfl ?_
        refine XS.lload X34_.here hx rfl (hC at_120) rfl ?_
        exact kK
      refine jv X34_ hx hZ (y := jy35) hown (jk hw 230 rfl) (jk hw 231 rfl) (jk hw 233 rfl) (jk hw 232 rfl) (jk hw 234 rfl) (jk hw 3 rfl) (rm_mA lL Z a0 hw [] pg_15_ b3_ pa_15_ np nb kq_15_ kp kn pb zs sz ff ft lg lf lt zv hj33_ n0 (Nat.le_trans Z0 Kj33_.1) fj33__3 fj33__4 fj33__1 fj33__2 Zp Zb fj33__0 fj33__5 ge_b3_ ge_pg_15_ p15__4 (by omega) (by omega) (by omega) (by omega)) fj33__3.E p34__0 own_pd16 [(.long zv)] [] (hC at_122) rfl rfl (by rw [hml]; rfl) (by decide) 0 (Nat.le_of_eq rfl) (by decide) (by decide) (by decide : 10 + 3 ≤ _) (by decide : 127 + 65 ≤ _) fun vv38_ T38_ L38_ X38_ hQ38_ => ?_
      obtain ⟨b'_38_, z'_38_, rfl, N38_q, p38__0, p38__1, p38__2, p38__3⟩ := hQ38_
      have N38_ := Fr.app N34_ N38_q
      have K38_ := Kj33_.trans p38__0 (allS (Or.inr sz_b3_) (allS (Or.inr sz_pg_15_) all0))
      by_cases hc45_ : z'_38_ = (0 : Int64)
      · have t46_ := congrArg Int64.toInt hc45_
        refine jg T38_ mM 136 ll18 [(.int two)] (fun tT kK => ?_) ?_
        · refine XS.pop X38_.here hx rfl (hC at_125) rfl rfl ?_
          refine XS.lload X38_.here hx rfl (hC at_126) rfl ?_
          refine XS.lload X38_.here hx rfl (hC at_128) rfl ?_
          refine XS.lcmp X38_.here hx rfl (hC at_130) rfl ?_
          show Steps pP.tables eE below (T38_.setTop (mkF mM 131 ll18 [(.int (lcmpW zv xv))])) tT
          refine XS.ifNo X38_.here hx rfl (hC at_131) rfl ((if0 _ _).trans (teq ((lw_eq zv xv).mpr ((own_eqv (by omega)) : zv = xv))).2) ?_
          refine XS.iload X38_.here hx rfl (hC at_134) rfl ?_
          exact kK
        by_cases hc136_47_ : two = (0 : Int32)
        · refine jg T38_ mM 147 ll18 [] (fun tT kK => ?_) ?_
          · refine XS.ifYes X38_.here hx rfl (pc0 := 136) (pc' := 147) rfl (hC at_136) rfl ((if0 _ _).trans (teq (hc136_47_ : two = (0 : Int32))).1) (by decide) (by decide) ?_
            exact kK
          have t48_ := congrArg Int32.toInt hc136_47_
          let ll19 : Array Slot := #[vJ q1, vS, vJ q2, vS, vJ q3, vS, vI p4, vI p5, vI pb, vJ xv, vS, vJ yv, vS, vI two, vJ zv, vS, vI op, vR b3_, vI 1, vI 0, vI 1, vU]
          refine jg T38_ mM 245 ll19 [] (fun tT kK => ?_) ?_
          · refine XS.iconst X38_.here hx rfl (hC at_147) ?_
            refine XS.goto X38_.here hx rfl (pc0 := 148) (pc' := 152) rfl (hC at_148) (by decide) (by decide) ?_
            refine XS.istore X38_.here hx rfl (hC at_152) rfl (l' := ll19) rfl ?_
            refine XS.goto X38_.here hx rfl (pc0 := 154) (pc' := 245) rfl (hC at_154) (by decide) (by decide) ?_
            exact kK
          have t49_ : (1 : Int32).toInt = 1 := rfl
          exact jp25_ z'_38_ (1 : Int32) _ _ _ (by omega) (X38_.more (by decide) (by decide)) rfl K38_ p38__2 p38__3 N38_
        · refine jg T38_ mM 139 ll18 [] (fun tT kK => ?_) ?_
          · refine XS.ifNo X38_.here hx rfl (hC at_136) rfl ((if0 _ _).trans (feq (hc136_47_ : ¬ (two = (0 : Int32)))).1) ?_
            exact kK
          have t50_ := own_tne3 hc136_47_
          let ll20 : Array Slot := #[vJ q1, vS, vJ q2, vS, vJ q3, vS, vI p4, vI p5, vI pb, vJ xv, vS, vJ yv, vS, vI two, vJ zv, vS, vI op, vR b3_, vI 1, vI 0, vI 1, vU]
          refine jg T38_ mM 245 ll20 [] (fun tT kK => ?_) ?_
          · refine XS.lload X38_.here hx rfl (hC at_139) rfl ?_
            refine XS.lload X38_.here hx rfl (hC at_141) rfl ?_
            refine XS.lcmp X38_.here hx rfl (hC at_143) rfl ?_
            refine XS.ifNo X38_.here hx rfl (hC at_144) rfl ((if0 _ _).trans (teq ((lw_eq yv xv).mpr ((own_eqv (by omega)) : yv = xv))).2) ?_
            refine XS.iconst X38_.here hx rfl (hC at_147) ?_
            refine XS.goto X38_.here hx rfl (pc0 := 148) (pc' := 152) rfl (hC at_148) (by decide) (by decide) ?_
            refine XS.istore X38_.here hx rfl (hC at_152) rfl (l' := ll20) rfl ?_
            refine XS.goto X38_.here hx rfl (pc0 := 154) (pc' := 245) rfl (hC at_154) (by decide) (by decide) ?_
            exact kK
          have t51_ : (1 : Int32).toInt = 1 := rfl
          exact jp25_ z'_38_ (1 : Int32) _ _ _ (by omega) (X38_.more (by decide) (by decide)) rfl K38_ p38__2 p38__3 N38_
      · have t52_ := own_tne hc45_
        refine jg T38_ mM 131 ll18 [(.int (lcmpW zv xv))] (fun tT kK => ?_) ?_
        · refine XS.pop X38_.here hx rfl (hC at_125) rfl rfl ?_
          refine XS.lload X38_.here hx rfl (hC at_126) rfl ?_
          refine XS.lload X38_.here hx rfl (hC at_128) rfl ?_
          refine XS.lcmp X38_.here hx rfl (hC at_130) rfl ?_
          exact kK
        by_cases hc131_53_ : zv = xv
        · refine jg T38_ mM 134 ll18 [] (fun tT kK => ?_) ?_
          · refine XS.ifNo X38_.here hx rfl (hC at_131) rfl ((if0 _ _).trans (teq ((lw_eq zv xv).mpr (hc131_53_ : zv = xv))).2) ?_
            exact kK
          have t54_ := congrArg Int64.toInt hc131_53_
          let ll21 : Array Slot := #[vJ q1, vS, vJ q2, vS, vJ q3, vS, vI p4, vI p5, vI pb, vJ xv, vS, vJ yv, vS, vI two, vJ zv, vS, vI op, vR b3_, vI 1, vI 0, vI 0, vU]
          refine jg T38_ mM 245 ll21 [] (fun tT kK => ?_) ?_
          · refine XS.iload X38_.here hx rfl (hC at_134) rfl ?_
            refine XS.ifNo X38_.here hx rfl (hC at_136) rfl ((if0 _ _).trans (feq ((own_nev3 (by omega)) : ¬ (two = (0 : Int32)))).1) ?_
            refine XS.lload X38_.here hx rfl (hC at_139) rfl ?_
            refine XS.lload X38_.here hx rfl (hC at_141) rfl ?_
            refine XS.lcmp X38_.here hx rfl (hC at_143) rfl ?_
            refine XS.ifYes X38_.here hx rfl (pc0 := 144) (pc' := 151) rfl (hC at_144) rfl ((if0 _ _).trans (feq (mt (lw_eq yv xv).mp ((own_nev (by omega)) : ¬ (yv = xv)))).2) (by decide) (by decide) ?_
            refine XS.iconst X38_.here hx rfl (hC at_151) ?_
            refine XS.istore X38_.here hx rfl (hC at_152) rfl (l' := ll21) rfl ?_
            refine XS.goto X38_.here hx rfl (pc0 := 154) (pc' := 245) rfl (hC at_154) (by decide) (by decide) ?_
            exact kK
          exact jp25_ z'_38_ (0 : Int32) _ _ _ (by omega) (X38_.more (by decide) (by decide)) rfl K38_ p38__2 p38__3 N38_
        · refine jg T38_ mM 151 ll18 [] (fun tT kK => ?_) ?_
          · refine XS.ifYes X38_.here hx rfl (pc0 := 131) (pc' := 151) rfl (hC at_131) rfl ((if0 _ _).trans (feq (mt (lw_eq zv xv).mp (hc131_53_ : ¬ (zv = xv)))).2) (by decide) (by decide) ?_
            exact kK
          have t55_ := own_tne hc131_53_
          let ll22 : Array Slot := #[vJ q1, vS, vJ q2, vS, vJ q3, vS, vI p4, vI p5, vI pb, vJ xv, vS, vJ yv, vS, vI two, vJ zv, vS, vI op, vR b3_, vI 1, vI 0, vI 0, vU]
          refine jg T38_ mM 245 ll22 [] (fun tT kK => ?_) ?_
          · refine XS.iconst X38_.here hx rfl (hC at_151) ?_
            refine XS.istore X38_.here hx rfl (hC at_152) rfl (l' := ll22) rfl ?_
            refine XS.goto X38_.here hx rfl (pc0 := 154) (pc' := 245) rfl (hC at_154) (by decide) (by decide) ?_
            exact kK
          exact jp25_ z'_38_ (0 : Int32) _ _ _ (by omega) (X38_.more (by decide) (by decide)) rfl K38_ p38__2 p38__3 N38_
    · refine jg T34_ mM 157 ll18 [] (fun tT kK => ?_) ?_
      · refine XS.ifYes X34_.here hx rfl (pc0 := 115) (pc' := 157) rfl (hC at_115) rfl ((if0 _ _).trans (feq (hc115_35_ : ¬ (op = (0 : Int32)))).2) (by decide) (by decide) ?_
        exact kK
      have t56_ : (0 : Int32).toInt = 0 := rfl
      have t57_ := own_tne3 hc115_35_
      refine jg T34_ mM 160 ll18 [(.int 1), (.int op)] (fun tT kK => ?_) ?_
      · refine XS.iload X34_.here hx rfl (hC at_157) rfl ?_
        refine XS.iconst X34_.here hx rfl (hC at_159) ?_
        exact kK
      by_cases hc160_58_ : op = (1 : Int32)
      · refine jg T34_ mM 163 ll18 [] (fun tT kK => ?_) ?_
        · refine XS.icmpNo X34_.here hx rfl (hC at_160) rfl (teq (hc160_58_ : op = (1 : Int32))).2 ?_
          exact kK
        have t59_ : (1 : Int32).toInt = 1 := rfl
        have t60_ := congrArg Int32.toInt hc160_58_
        refine jg T34_ mM 167 ll18 [(.long zv), (.ref b3_)] (fun tT kK => ?_) ?_
        · refine XS.aload X34_.here hx rfl (hC at_163) rfl rfl ?_
          refine XS.lload X34_.here hx rfl (hC at_165) rfl ?_
          exact kK
        refine jv X34_ hx hZ (y := jy37) hown (jk hw 190 rfl) (jk hw 191 rfl) (jk hw 193 rfl) (jk hw 192 rfl) (jk hw 194 rfl) (jk hw 3 rfl) (rm_BA lL Z a0 hw [] pg_15_ b3_ pa_15_ np nb kq_15_ kp kn pb zs sz ff ft lg lf lt zv hj33_ n0 (Nat.le_trans Z0 Kj33_.1) fj33__3 fj33__4 fj33__1 fj33__2 Zp Zb fj33__0 fj33__5 ge_b3_ ge_pg_15_ p15__4 (by omega) (by omega) (by omega) (by omega)) fj33__3.E p34__0 own_pd16 [(.long zv)] [] (hC at_167) rfl rfl (by rw [hml]; rfl) (by decide) 0 (Nat.le_of_eq rfl) (by decide) (by decide) (by decide : 10 + 0 ≤ _) (by decide : 127 + 0 ≤ _) fun vv61_ T61_ L61_ X61_ hQ61_ => ?_
        obtain ⟨b'_61_, z'_61_, rfl, N61_q, p61__0, p61__1, p61__2, p61__3⟩ := hQ61_
        have N61_ := Fr.app N34_ N61_q
        have K61_ := Kj33_.trans p61__0 (allS (Or.inr sz_b3_) (allS (Or.inr sz_pg_15_) all0))
        by_cases hc68_ : z'_61_ = (0 : Int64)
        · have t69_ := congrArg Int64.toInt hc68_
          refine jg T61_ mM 181 ll18 [(.int two)] (fun tT kK => ?_) ?_
          · refine XS.pop X61_.here hx rfl (hC at_170) rfl rfl ?_
            show Steps pP.tables eE below (T61_.setTop (mkF mM 171 ll18 [])) tT
            refine XS.lload X61_.here hx rfl (hC at_171) rfl ?_
            refine XS.lload X61_.here hx rfl (hC at_173) rfl ?_
            refine XS.lcmp X61_.here hx rfl (hC at_175) rfl ?_
            refine XS.ifNo X61_.here hx rfl (hC at_176) rfl ((if0 _ _).trans (tlt ((lw_lt xv zv).mpr ((own_lt (by omega)) : xv < zv))).2.1) ?_
            refine XS.iload X61_.here hx rfl (hC at_179) rfl ?_
            exact kK
          by_cases hc181_70_ : two = (0 : Int32)
          · refine jg T61_ mM 192 ll18 [] (fun tT kK => ?_) ?_
            · refine XS.ifYes X61_.here hx rfl (pc0 := 181) (pc' := 192) rfl (hC at_181) rfl ((if0 _ _).trans (teq (hc181_70_ : two = (0 : Int32))).1) (by decide) (by decide) ?_
              exact kK
            have t71_ := congrArg Int32.toInt hc181_70_
            let ll23 : Array Slot := #[vJ q1, vS, vJ q2, vS, vJ q3, vS, vI p4, vI p5, vI pb, vJ xv, vS, vJ yv, vS, vI two, vJ zv, vS, vI op, vR b3_, vI 1, vI 0, vI 1, vU]
            refine jg T61_ mM 245 ll23 [] (fun tT kK => ?_) ?_
            · refine XS.iconst X61_.here hx rfl (hC at_192) ?_
              refine XS.goto X61_.here hx rfl (pc0 := 193) (pc' := 197) rfl (hC at_193) (by decide) (by decide) ?_
              refine XS.istore X61_.here hx rfl (hC at_197) rfl (l' := ll23) rfl ?_
              refine XS.goto X61_.here hx rfl (pc0 := 199) (pc' := 245) rfl (hC at_199) (by decide) (by decide) ?_
              exact kK
            exact jp25_ z'_61_ (1 : Int32) _ _ _ (by omega) (X61_.more (by decide) (by decide)) rfl K61_ p61__2 p61__3 N61_
          · refine jg T61_ mM 184 ll18 [] (fun tT kK => ?_) ?_
            · refine XS.ifNo X61_.here hx rfl (hC at_181) rfl ((if0 _ _).trans (feq (hc181_70_ : ¬ (two = (0 : Int32)))).1) ?_
              exact kK
            have t72_ := own_tne3 hc181_70_
            let ll24 : Array Slot := #[vJ q1, vS, vJ q2, vS, vJ q3, vS, vI p4, vI p5, vI pb, vJ xv, vS, vJ yv, vS, vI two, vJ zv, vS, vI op, vR b3_, vI 1, vI 0, vI 1, vU]
            refine jg T61_ mM 245 ll24 [] (fun tT kK => ?_) ?_
            · refine XS.lload X61_.here hx rfl (hC at_184) rfl ?_
              refine XS.lload X61_.here hx rfl (hC at_186) rfl ?_
              refine XS.lcmp X61_.here hx rfl (hC at_188) rfl ?_
              refine XS.ifNo X61_.here hx rfl (hC at_189) rfl ((if0 _ _).trans (tlt ((lw_lt yv zv).mpr ((own_lt (by omega)) : yv < zv))).2.1) ?_
              refine XS.iconst X61_.here hx rfl (hC at_192) ?_
              refine XS.goto X61_.here hx rfl (pc0 := 193) (pc' := 197) rfl (hC at_193) (by decide) (by decide) ?_
              refine XS.istore X61_.here hx rfl (hC at_197) rfl (l' := ll24) rfl ?_
              refine XS.goto X61_.here hx rfl (pc0 := 199) (pc' := 245) rfl (hC at_199) (by decide) (by decide) ?_
              exact kK
            exact jp25_ z'_61_ (1 : Int32) _ _ _ (by omega) (X61_.more (by decide) (by decide)) rfl K61_ p61__2 p61__3 N61_
        · have t73_ := own_tne hc68_
          refine jg T61_ mM 176 ll18 [(.int (lcmpW xv zv))] (fun tT kK => ?_) ?_
          · refine XS.pop X61_.here hx rfl (hC at_170) rfl rfl ?_
            show Steps pP.tables eE below (T61_.setTop (mkF mM 171 ll18 [])) tT
            refine XS.lload X61_.here hx rfl (hC at_171) rfl ?_
            refine XS.lload X61_.here hx rfl (hC at_173) rfl ?_
            refine XS.lcmp X61_.here hx rfl (hC at_175) rfl ?_
            exact kK
          by_cases hc176_74_ : xv < zv
          · refine jg T61_ mM 179 ll18 [] (fun tT kK => ?_) ?_
            · refine XS.ifNo X61_.here hx rfl (hC at_176) rfl ((if0 _ _).trans (tlt ((lw_lt xv zv).mpr (hc176_74_ : xv < zv))).2.1) ?_
              exact kK
            have t75_ := own_tlt hc176_74_
            let ll25 : Array Slot := #[vJ q1, vS, vJ q2, vS, vJ q3, vS, vI p4, vI p5, vI pb, vJ xv, vS, vJ yv, vS, vI two, vJ zv, vS, vI op, vR b3_, vI 1, vI 0, vI 0, vU]
            refine jg T61_ mM 245 ll25 [] (fun tT kK => ?_) ?_
            · refine XS.iload X61_.here hx rfl (hC at_179) rfl ?_
              refine XS.ifNo X61_.here hx rfl (hC at_181) rfl ((if0 _ _).trans (feq ((own_nev3 (by omega)) : ¬ (two = (0 : Int32)))).1) ?_
              refine XS.lload X61_.here hx rfl (hC at_184) rfl ?_
              refine XS.lload X61_.here hx rfl (hC at_186) rfl ?_
              refine XS.lcmp X61_.here hx rfl (hC at_188) rfl ?_
              refine XS.ifYes X61_.here hx rfl (pc0 := 189) (pc' := 196) rfl (hC at_189) rfl ((if0 _ _).trans (flt (mt (lw_lt yv zv).mp ((own_nl (by omega)) : ¬ (yv < zv)))).2.1) (by decide) (by decide) ?_
              refine XS.iconst X61_.here hx rfl (hC at_196) ?_
              refine XS.istore X61_.here hx rfl (hC at_197) rfl (l' := ll25) rfl ?_
              refine XS.goto X61_.here hx rfl (pc0 := 199) (pc' := 245) rfl (hC at_199) (by decide) (by decide) ?_
              exact kK
            exact jp25_ z'_61_ (0 : Int32) _ _ _ (by omega) (X61_.more (by decide) (by decide)) rfl K61_ p61__2 p61__3 N61_
          · refine jg T61_ mM 196 ll18 [] (fun tT kK => ?_) ?_
            · refine XS.ifYes X61_.here hx rfl (pc0 := 176) (pc' := 196) rfl (hC at_176) rfl ((if0 _ _).trans (flt (mt (lw_lt xv zv).mp (hc176_74_ : ¬ (xv < zv)))).2.1) (by decide) (by decide) ?_
              exact kK
            have t76_ := own_tnl hc176_74_
            let ll26 : Array Slot := #[vJ q1, vS, vJ q2, vS, vJ q3, vS, vI p4, vI p5, vI pb, vJ xv, vS, vJ yv, vS, vI two, vJ zv, vS, vI op, vR b3_, vI 1, vI 0, vI 0, vU]
            refine jg T61_ mM 245 ll26 [] (fun tT kK => ?_) ?_
            · refine XS.iconst X61_.here hx rfl (hC at_196) ?_
              refine XS.istore X61_.here hx rfl (hC at_197) rfl (l' := ll26) rfl ?_
              refine XS.goto X61_.here hx rfl (pc0 := 199) (pc' := 245) rfl (hC at_199) (by decide) (by decide) ?_
              exact kK
            exact jp25_ z'_61_ (0 : Int32) _ _ _ (by omega) (X61_.more (by decide) (by decide)) rfl K61_ p61__2 p61__3 N61_
      · refine jg T34_ mM 202 ll18 [] (fun tT kK => ?_) ?_
        · refine XS.icmpYes X34_.here hx rfl (pc0 := 160) (pc' := 202) rfl (hC at_160) rfl (feq (hc160_58_ : ¬ (op = (1 : Int32)))).2 (by decide) (by decide) ?_
          exact kK
        have t77_ : (1 : Int32).toInt = 1 := rfl
        have t78_ := own_tne3 hc160_58_
        refine jg T34_ mM 205 ll18 [(.int 2), (.int op)] (fun tT kK => ?_) ?_
        · refine XS.iload X34_.here hx rfl (hC at_202) rfl ?_
          refine XS.iconst X34_.here hx rfl (hC at_204) ?_
          exact kK
        by_cases hc205_79_ : op = (2 : Int32)
        · refine jg T34_ mM 208 ll18 [] (fun tT kK => ?_) ?_
          · refine XS.icmpNo X34_.here hx rfl (hC at_205) rfl (teq (hc205_79_ : op = (2 : Int32))).2 ?_
            exact kK
          have t80_ : (2 : Int32).toInt = 2 := rfl
          have t81_ := congrArg Int32.toInt hc205_79_
          refine jg T34_ mM 210 ll18 [(.ref b3_)] (fun tT kK => ?_) ?_
          · refine XS.aload X34_.here hx rfl (hC at_208) rfl rfl ?_
            exact kK
          refine jv X34_ hx hZ (y := jy26) hown (jk hw 94 rfl) (jk hw 95 rfl) (jk hw 97 rfl) (jk hw 96 rfl) (jk hw 98 rfl) (jk hw 3 rfl) (rm_RA lL Z a0 hw [] pg_15_ b3_ pa_15_ np nb kq_15_ kp kn pb zs sz ff ft lg lf lt hj33_ n0 (Nat.le_trans Z0 Kj33_.1) fj33__3 fj33__4 fj33__1 fj33__2 Zp Zb fj33__0 fj33__5 ge_b3_ ge_pg_15_ p15__4 (by omega) (by omega) (by omega)) fj33__3.E p34__0 own_pd4 [] [] (hC at_210) rfl rfl (by rw [hml]; rfl) (by decide) 0 (Nat.le_of_eq rfl) (by decide) (by decide) (by decide : 10 + 1 ≤ _) (by decide : 127 + 4 ≤ _) fun vv82_ T82_ L82_ X82_ hQ82_ => ?_
          obtain ⟨z'_82_, rfl, N82_q, p82__0, p82__1, p82__2, p82__3⟩ := hQ82_
          have N82_ := Fr.app N34_ N82_q
          have K82_ := Kj33_.trans p82__0 (allS (Or.inr sz_b3_) (allS (Or.inr sz_pg_15_) all0))
          by_cases hc89_ : zs = (1 : Int64)
          · have t90_ : (1 : Int64).toInt = 1 := rfl
            have t91_ := congrArg Int64.toInt hc89_
            refine jg T82_ mM 216 ll18 [(.int two)] (fun tT kK => ?_) ?_
            · jvm_step X82_.here [X82_.here.top, hx, (hC at_213), Value.category]
              refine XS.iload X82_.here hx rfl (hC at_214) rfl ?_
              exact kK
            by_cases hc216_92_ : two = (0 : Int32)
            · refine jg T82_ mM 227 ll18 [] (fun tT kK => ?_) ?_
              · refine XS.ifYes X82_.here hx rfl (pc0 := 216) (pc' := 227) rfl (hC at_216) rfl ((if0 _ _).trans (teq (hc216_92_ : two = (0 : Int32))).1) (by decide) (by decide) ?_
                exact kK
              have t93_ := congrArg Int32.toInt hc216_92_
              let ll27 : Array Slot := #[vJ q1, vS, vJ q2, vS, vJ q3, vS, vI p4, vI p5, vI pb, vJ xv, vS, vJ yv, vS, vI two, vJ zv, vS, vI op, vR b3_, vI 1, vI 0, vI 1, vU]
              refine jg T82_ mM 245 ll27 [] (fun tT kK => ?_) ?_
              · refine XS.iconst X82_.here hx rfl (hC at_227) ?_
                refine XS.goto X82_.here hx rfl (pc0 := 228) (pc' := 232) rfl (hC at_228) (by decide) (by decide) ?_
                refine XS.istore X82_.here hx rfl (hC at_232) rfl (l' := ll27) rfl ?_
                refine XS.goto X82_.here hx rfl (pc0 := 234) (pc' := 245) rfl (hC at_234) (by decide) (by decide) ?_
                exact kK
              exact jp25_ z'_82_ (1 : Int32) _ _ _ (by omega) (X82_.more (by decide) (by decide)) rfl K82_ p82__2 p82__3 N82_
            · refine jg T82_ mM 219 ll18 [] (fun tT kK => ?_) ?_
              · refine XS.ifNo X82_.here hx rfl (hC at_216) rfl ((if0 _ _).trans (feq (hc216_92_ : ¬ (two = (0 : Int32)))).1) ?_
                exact kK
              have t94_ := own_tne3 hc216_92_
              let ll28 : Array Slot := #[vJ q1, vS, vJ q2, vS, vJ q3, vS, vI p4, vI p5, vI pb, vJ xv, vS, vJ yv, vS, vI two, vJ zv, vS, vI op, vR b3_, vI 1, vI 0, vI 1, vU]
              refine jg T82_ mM 245 ll28 [] (fun tT kK => ?_) ?_
              · refine XS.lload X82_.here hx rfl (hC at_219) rfl ?_
                refine XS.lload X82_.here hx rfl (hC at_221) rfl ?_
                refine XS.lcmp X82_.here hx rfl (hC at_223) rfl ?_
                refine XS.ifNo X82_.here hx rfl (hC at_224) rfl ((if0 _ _).trans (teq ((lw_eq yv xv).mpr ((own_eqv (by omega)) : yv = xv))).2) ?_
                refine XS.iconst X82_.here hx rfl (hC at_227) ?_
                refine XS.goto X82_.here hx rfl (pc0 := 228) (pc' := 232) rfl (hC at_228) (by decide) (by decide) ?_
                refine XS.istore X82_.here hx rfl (hC at_232) rfl (l' := ll28) rfl ?_
                refine XS.goto X82_.here hx rfl (pc0 := 234) (pc' := 245) rfl (hC at_234) (by decide) (by decide) ?_
                exact kK
              exact jp25_ z'_82_ (1 : Int32) _ _ _ (by omega) (X82_.more (by decide) (by decide)) rfl K82_ p82__2 p82__3 N82_
          · have t95_ : (1 : Int64).toInt = 1 := rfl
            have t96_ := own_tne hc89_
            let ll29 : Array Slot := #[vJ q1, vS, vJ q2, vS, vJ q3, vS, vI p4, vI p5, vI pb, vJ xv, vS, vJ yv, vS, vI two, vJ zv, vS, vI op, vR b3_, vI 1, vI 0, vI 0, vU]
            refine jg T82_ mM 245 ll29 [] (fun tT kK => ?_) ?_
            · jvm_step X82_.here [X82_.here.top, hx, (hC at_213), Value.category]
              refine XS.iload X82_.here hx rfl (hC at_214) rfl ?_
              refine XS.ifNo X82_.here hx rfl (hC at_216) rfl ((if0 _ _).trans (feq ((own_nev3 (by omega)) : ¬ (two = (0 : Int32)))).1) ?_
              refine XS.lload X82_.here hx rfl (hC at_219) rfl ?_
              refine XS.lload X82_.here hx rfl (hC at_221) rfl ?_
              refine XS.lcmp X82_.here hx rfl (hC at_223) rfl ?_
              refine XS.ifYes X82_.here hx rfl (pc0 := 224) (pc' := 231) rfl (hC at_224) rfl ((if0 _ _).trans (feq (mt (lw_eq yv xv).mp ((own_nev (by omega)) : ¬ (yv = xv)))).2) (by decide) (by decide) ?_
              refine XS.iconst X82_.here hx rfl (hC at_231) ?_
              refine XS.istore X82_.here hx rfl (hC at_232) rfl (l' := ll29) rfl ?_
              refine XS.goto X82_.here hx rfl (pc0 := 234) (pc' := 245) rfl (hC at_234) (by decide) (by decide) ?_
              exact kK
            exact jp25_ z'_82_ (0 : Int32) _ _ _ (by omega) (X82_.more (by decide) (by decide)) rfl K82_ p82__2 p82__3 N82_
        · refine jg T34_ mM 237 ll18 [] (fun tT kK => ?_) ?_
          · refine XS.icmpYes X34_.here hx rfl (pc0 := 205) (pc' := 237) rfl (hC at_205) rfl (feq (hc205_79_ : ¬ (op = (2 : Int32)))).2 (by decide) (by decide) ?_
            exact kK
          have t97_ : (2 : Int32).toInt = 2 := rfl
          have t98_ := own_tne3 hc205_79_
          refine jg T34_ mM 239 ll18 [(.ref b3_)] (fun tT kK => ?_) ?_
          · refine XS.aload X34_.here hx rfl (hC at_237) rfl rfl ?_
            exact kK
          refine jv X34_ hx hZ (y := jy38) hown (jk hw 225 rfl) (jk hw 226 rfl) (jk hw 228 rfl) (jk hw 227 rfl) (jk hw 229 rfl) (jk hw 3 rfl) (rm_clr lL Z a0 hw [] b3_ np pa_15_ zs (1 : Int32) pb hj33_ n0 (Nat.le_trans Z0 Kj33_.1) fj33__3 Zp fj33__0 ge_b3_) fj33__3.E p34__0 own_pd5 [] [] (hC at_239) rfl rfl (by rw [hml]; rfl) (by decide) 0 (Nat.le_of_eq rfl) (by decide) (by decide) (by decide : 10 + 0 ≤ _) (by decide : 127 + 0 ≤ _) fun vv99_ T99_ L99_ X99_ hQ99_ => ?_
          obtain ⟨rfl, N99_q, p99__0, p99__1⟩ := hQ99_
          have N99_ := Fr.app N34_ N99_q
          have K99_ := Kj33_.trans p99__0 (allS (Or.inr sz_b3_) all0)
          let ll30 : Array Slot := #[vJ q1, vS, vJ q2, vS, vJ q3, vS, vI p4, vI p5, vI pb, vJ xv, vS, vJ yv, vS, vI two, vJ zv, vS, vI op, vR b3_, vI 1, vI 0, vI 1, vU]
          refine jg T99_ mM 245 ll30 [] (fun tT kK => ?_) ?_
          · refine XS.iconst X99_.here hx rfl (hC at_242) ?_
            refine XS.istore X99_.here hx rfl (hC at_243) rfl (l' := ll30) rfl ?_
            exact kK
          exact jp25_ (0 : Int64) (1 : Int32) _ _ _ (by omega) (X99_.more (by decide) (by decide)) rfl K99_ p99__1.E p99__1.g0 N99_
  have jp105_ : ∀ (zs : Int64) (sz : Int64) (ff : Int64) (ft : Int64) (lg : Int64) (lf : Int64) (lt : Int64) (ba : Addr) (kb : ClassId) (z : Int32) (en : Int32) (vs : List Value) (Tj105_ : State) (Lj105_ : List Loc) (hj105_ : Heap), ((sz.toInt = 2 ∧ zs.toInt = 2 ∧ 0 ≤ ff.toInt ∧ ft.toInt = ff.toInt + 1 ∧ lf.toInt = ft.toInt + lg.toInt ∧ 1 ≤ lg.toInt ∧ lt.toInt = lf.toInt + 1 ∧ (¬ two.toInt = 0) ∧ ((ff.toInt = xv.toInt ∧ lf.toInt = yv.toInt) ∨ (ff.toInt = yv.toInt ∧ lf.toInt = xv.toInt)))) → (own_E vs en.toNatClampNeg lg.toInt) → (0 ≤ en.toInt ∧ en.toInt ≤ z.toInt) → Stand pP lL eE room_1 sS mM #[(.long q1), (.long q2), (.long q3), (.int p4), (.int p5)] below meth cC Tj105_ Lj105_ 10 127 → Tj105_.heap = hj105_ → Keep h0 hj105_ ([] : List Addr) → (Old Z n0 hj105_) → (Arv Z hj105_ np kp (.object "com/example/portion/portion/server/OffsetSet$Page") (0 : Int32) [] .null) → (Arv Z hj105_ nb kn .byte (0 : Int32) [] (.int 0)) → (own_bO Z hj105_ b3_ zs (.ref pa_15_) (1 : Int32) pb) → (Arv Z hj105_ pa_15_ kq_15_ (.object "com/example/portion/portion/server/OffsetSet$Page") (2 : Int32) [(.ref pg_15_), .null] .null) → (own_bP Z hj105_ pg_15_ sz ff ft (.ref ba) (0 : Int32) en (0 : Int32) lg lf lt) → (Arv Z hj105_ ba kb .byte z vs (.int 0)) → Fr n0 Lj105_ → own_Fin pP eE below (own_P sS room_1 (Q_rm0 Z q1 q2 q3 p4 p5 np nb kp kn h0 n0)) (Tj105_.setTop (mkF mM 106 #[.val (.long q1), .second, .val (.long q2), .second, .val (.long q3), .second, .val (.int p4), .val (.int p5), .val (.int pb), .val (.long xv), .second, .val (.long yv), .second, .val (.int two), .val (.long zv), .second, .val (.int op), .val (.ref b3_), .val (.int 1), .unset, .unset, .unset] [])) := by
    intro zs sz ff ft lg lf lt ba kb z en vs Tj105_ Lj105_ hj105_ jB hE hn Xj105_ ej105_ Kj105_ fj105__0 fj105__1 fj105__2 fj105__3 fj105__4 fj105__5 fj105__6 Nj105_
    refine jg Tj105_ mM 108 ll13 [(.ref b3_)] (fun tT kK => ?_) ?_
    · refine XS.aload Xj105_.here hx rfl (hC at_106) rfl rfl ?_
      exact kK
    refine jv Xj105_ hx hZ (y := jy39) hown (jk hw 16 rfl) (jk hw 17 rfl) (jk hw 19 rfl) (jk hw 18 rfl) (jk hw 20 rfl) (jk hw 3 rfl) (rm_emN lL Z a0 hw [] b3_ zs hj105_ n0 (Nat.le_trans Z0 Kj105_.1) fj105__3.g0 (by omega)) fj105__3.E ej105_ own_pd8 [] [] (hC at_108) rfl rfl (by rw [hml]; rfl) (by decide) 0 (Nat.le_of_eq rfl) (by decide) (by decide) (by decide : 10 + 0 ≤ _) (by decide : 127 + 0 ≤ _) fun vv106_ T106_ L106_ X106_ hQ106_ => ?_
    obtain ⟨rfl, N106_q, p106__0⟩ := hQ106_
    have N106_ := Fr.app Nj105_ N106_q
    let ll31 : Array Slot := #[vJ q1, vS, vJ q2, vS, vJ q3, vS, vI p4, vI p5, vI pb, vJ xv, vS, vJ yv, vS, vI two, vJ zv, vS, vI op, vR b3_, vI 1, vI 0, vU, vU]
    refine jg T106_ mM 115 ll31 [(.int op)] (fun tT kK => ?_) ?_
    · refine XS.istore X106_.here hx rfl (hC at_111) rfl (l' := ll31) rfl ?_
      refine XS.iload X106_.here hx rfl (hC at_113) rfl ?_
      exact kK
    by_cases hc115_107_ : op = (0 : Int32)
    · refine jg T106_ mM 118 ll31 [] (fun tT kK => ?_) ?_
      · refine XS.ifNo X106_.here hx rfl (hC at_115) rfl ((if0 _ _).trans (teq (hc115_107_ : op = (0 : Int32))).2) ?_
        exact kK
      have t108_ : (0 : Int32).toInt = 0 := rfl
      have t109_ := congrArg Int32.toInt hc115_107_
      refine jg T106_ mM 122 ll31 [(.long zv), (.ref b3_)] (fun tT kK => ?_) ?_
      · refine XS.aload X106_.here hx rfl (hC at_118) rfl rfl ?_
        refine XS.lload X106_.here hx rfl (hC at_120) rfl ?_
        exact kK
      refine jv X106_ hx hZ (y := jy35) hown (jk hw 230 rfl) (jk hw 231 rfl) (jk hw 233 rfl) (jk hw 232 rfl) (jk hw 234 rfl) (jk hw 3 rfl) (rm_mB lL Z a0 hw [] pg_15_ b3_ pa_15_ np nb kq_15_ kp kn pb zs sz ff ft lg lf lt ba kb en z vs zv hj105_ n0 (Nat.le_trans Z0 Kj105_.1) fj105__3 fj105__4 fj105__1 fj105__2 Zp Zb fj105__0 fj105__5 fj105__6 hE hn ge_b3_ ge_pg_15_ p15__4 (by omega) (by omega) (by omega) (by omega) (by omega) (by omega) (by omega)) fj105__3.E p106__0 own_pd16 [(.long zv)] [] (hC at_122) rfl rfl (by rw [hml]; rfl) (by decide) 0 (Nat.le_of_eq rfl) (by decide) (by decide) (by decide : 10 + 3 ≤ _) (by decide : 127 + 65 ≤ _) fun vv110_ T110_ L110_ X110_ hQ110_ => ?_
      obtain ⟨b'_110_, z'_110_, rfl, N110_q, p110__0, p110__1, p110__2, p110__3⟩ := hQ110_
      have N110_ := Fr.app N106_ N110_q
      have K110_ := Kj105_.trans p110__0 (allS (Or.inr sz_b3_) (allS (Or.inr sz_pg_15_) all0))
      refine jg T110_ mM 131 ll31 [(.int (lcmpW zv xv))] (fun tT kK => ?_) ?_
      · refine XS.pop X110_.here hx rfl (hC at_125) rfl rfl ?_
        refine XS.lload X110_.here hx rfl (hC at_126) rfl ?_
        refine XS.lload X110_.here hx rfl (hC at_128) rfl ?_
        refine XS.lcmp X110_.here hx rfl (hC at_130) rfl ?_
        exact kK
      by_cases hc131_120_ : zv = xv
      · refine jg T110_ mM 134 ll31 [] (fun tT kK => ?_) ?_
        · refine XS.ifNo X110_.here hx rfl (hC at_131) rfl ((if0 _ _).trans (teq ((lw_eq zv xv).mpr (hc131_120_ : zv = xv))).2) ?_
          exact kK
        have t121_ := congrArg Int64.toInt hc131_120_
        let ll32 : Array Slot := #[vJ q1, vS, vJ q2, vS, vJ q3, vS, vI p4, vI p5, vI pb, vJ xv, vS, vJ yv, vS, vI two, vJ zv, vS, vI op, vR b3_, vI 1, vI 0, vI 0, vU]
        refine jg T110_ mM 245 ll32 [] (fun tT kK => ?_) ?_
        · refine XS.iload X110_.here hx rfl (hC at_134) rfl ?_
          refine XS.ifNo X110_.here hx rfl (hC at_136) rfl ((if0 _ _).trans (feq ((own_nev3 (by omega)) : ¬ (two = (0 : Int32)))).1) ?_
          refine XS.lload X110_.here hx rfl (hC at_139) rfl ?_
          refine XS.lload X110_.here hx rfl (hC at_141) rfl ?_
          refine XS.lcmp X110_.here hx rfl (hC at_143) rfl ?_
          refine XS.ifYes X110_.here hx rfl (pc0 := 144) (pc' := 151) rfl (hC at_144) rfl ((if0 _ _).trans (feq (mt (lw_eq yv xv).mp ((own_nev (by omega)) : ¬ (yv = xv)))).2) (by decide) (by decide) ?_
          refine XS.iconst X110_.here hx rfl (hC at_151) ?_
          refine XS.istore X110_.here hx rfl (hC at_152) rfl (l' := ll32) rfl ?_
          refine XS.goto X110_.here hx rfl (pc0 := 154) (pc' := 245) rfl (hC at_154) (by decide) (by decide) ?_
          exact kK
        exact jp25_ z'_110_ (0 : Int32) _ _ _ (by omega) (X110_.more (by decide) (by decide)) rfl K110_ p110__2 p110__3 N110_
      · refine jg T110_ mM 151 ll31 [] (fun tT kK => ?_) ?_
        · refine XS.ifYes X110_.here hx rfl (pc0 := 131) (pc' := 151) rfl (hC at_131) rfl ((if0 _ _).trans (feq (mt (lw_eq zv xv).mp (hc131_120_ : ¬ (zv = xv)))).2) (by decide) (by decide) ?_
          exact kK
        have t122_ := own_tne hc131_120_
        let ll33 : Array Slot := #[vJ q1, vS, vJ q2, vS, vJ q3, vS, vI p4, vI p5, vI pb, vJ xv, vS, vJ yv, vS, vI two, vJ zv, vS, vI op, vR b3_, vI 1, vI 0, vI 0, vU]
        refine jg T110_ mM 245 ll33 [] (fun tT kK => ?_) ?_
        · refine XS.iconst X110_.here hx rfl (hC at_151) ?_
          refine XS.istore X110_.here hx rfl (hC at_152) rfl (l' := ll33) rfl ?_
          refine XS.goto X110_.here hx rfl (pc0 := 154) (pc' := 245) rfl (hC at_154) (by decide) (by decide) ?_
          exact kK
        exact jp25_ z'_110_ (0 : Int32) _ _ _ (by omega) (X110_.more (by decide) (by decide)) rfl K110_ p110__2 p110__3 N110_
    · refine jg T106_ mM 157 ll31 [] (fun tT kK => ?_) ?_
      · refine XS.ifYes X106_.here hx rfl (pc0 := 115) (pc' := 157) rfl (hC at_115) rfl ((if0 _ _).trans (feq (hc115_107_ : ¬ (op = (0 : Int32)))).2) (by decide) (by decide) ?_
        exact kK
      have t123_ : (0 : Int32).toInt = 0 := rfl
      have t124_ := own_tne3 hc115_107_
      refine jg T106_ mM 160 ll31 [(.int 1), (.int op)] (fun tT kK => ?_) ?_
      · refine XS.iload X106_.here hx rfl (hC at_157) rfl ?_
        refine XS.iconst X106_.here hx rfl (hC at_159) ?_
        exact kK
      by_cases hc160_125_ : op = (1 : Int32)
      · refine jg T106_ mM 163 ll31 [] (fun tT kK => ?_) ?_
        · refine XS.icmpNo X106_.here hx rfl (hC at_160) rfl (teq (hc160_125_ : op = (1 : Int32))).2 ?_
          exact kK
        have t126_ : (1 : Int32).toInt = 1 := rfl
        have t127_ := congrArg Int32.toInt hc160_125_
        refine jg T106_ mM 167 ll31 [(.long zv), (.ref b3_)] (fun tT kK => ?_) ?_
        · refine XS.aload X106_.here hx rfl (hC at_163) rfl rfl ?_
          refine XS.lload X106_.here hx rfl (hC at_165) rfl ?_
          exact kK
        refine jv X106_ hx hZ (y := jy37) hown (jk hw 190 rfl) (jk hw 191 rfl) (jk hw 193 rfl) (jk hw 192 rfl) (jk hw 194 rfl) (jk hw 3 rfl) (rm_BB lL Z a0 hw [] pg_15_ b3_ pa_15_ np nb kq_15_ kp kn pb zs sz ff ft lg lf lt ba kb en z vs zv hj105_ n0 (Nat.le_trans Z0 Kj105_.1) fj105__3 fj105__4 fj105__1 fj105__2 Zp Zb fj105__0 fj105__5 fj105__6 hE hn ge_b3_ ge_pg_15_ p15__4 (by omega) (by omega) (by omega) (by omega) (by omega) (by omega) (by omega)) fj105__3.E p106__0 own_pd16 [(.long zv)] [] (hC at_167) rfl rfl (by rw [hml]; rfl) (by decide) 0 (Nat.le_of_eq rfl) (by decide) (by decide) (by decide : 10 + 1 ≤ _) (by decide : 127 + 4 ≤ _) fun vv128_ T128_ L128_ X128_ hQ128_ => ?_
        obtain ⟨b'_128_, z'_128_, rfl, N128_q, p128__0, p128__1, p128__2, p128__3⟩ := hQ128_
        have N128_ := Fr.app N106_ N128_q
        have K128_ := Kj105_.trans p128__0 (allS (Or.inr sz_b3_) (allS (Or.inr sz_pg_15_) all0))
        by_cases hc138_ : z'_128_ = (0 : Int64)
        · have t139_ := congrArg Int64.toInt hc138_
          refine jg T128_ mM 181 ll31 [(.int two)] (fun tT kK => ?_) ?_
          · refine XS.pop X128_.here hx rfl (hC at_170) rfl rfl ?_
            show Steps pP.tables eE below (T128_.setTop (mkF mM 171 ll31 [])) tT
            refine XS.lload X128_.here hx rfl (hC at_171) rfl ?_
            refine XS.lload X128_.here hx rfl (hC at_173) rfl ?_
            refine XS.lcmp X128_.here hx rfl (hC at_175) rfl ?_
            refine XS.ifNo X128_.here hx rfl (hC at_176) rfl ((if0 _ _).trans (tlt ((lw_lt xv zv).mpr ((own_lt (by omega)) : xv < zv))).2.1) ?_
            refine XS.iload X128_.here hx rfl (hC at_179) rfl ?_
            exact kK
          by_cases hc181_140_ : two = (0 : Int32)
          · refine jg T128_ mM 192 ll31 [] (fun tT kK => ?_) ?_
            · refine XS.ifYes X128_.here hx rfl (pc0 := 181) (pc' := 192) rfl (hC at_181) rfl ((if0 _ _).trans (teq (hc181_140_ : two = (0 : Int32))).1) (by decide) (by decide) ?_
              exact kK
            have t141_ := congrArg Int32.toInt hc181_140_
            let ll34 : Array Slot := #[vJ q1, vS, vJ q2, vS, vJ q3, vS, vI p4, vI p5, vI pb, vJ xv, vS, vJ yv, vS, vI two, vJ zv, vS, vI op, vR b3_, vI 1, vI 0, vI 1, vU]
            refine jg T128_ mM 245 ll34 [] (fun tT kK => ?_) ?_
            · refine XS.iconst X128_.here hx rfl (hC at_192) ?_
              refine XS.goto X128_.here hx rfl (pc0 := 193) (pc' := 197) rfl (hC at_193) (by decide) (by decide) ?_
              refine XS.istore X128_.here hx rfl (hC at_197) rfl (l' := ll34) rfl ?_
              refine XS.goto X128_.here hx rfl (pc0 := 199) (pc' := 245) rfl (hC at_199) (by decide) (by decide) ?_
              exact kK
            exact jp25_ z'_128_ (1 : Int32) _ _ _ (by omega) (X128_.more (by decide) (by decide)) rfl K128_ p128__2 p128__3 N128_
          · refine jg T128_ mM 184 ll31 [] (fun tT kK => ?_) ?_
            · refine XS.ifNo X128_.here hx rfl (hC at_181) rfl ((if0 _ _).trans (feq (hc181_140_ : ¬ (two = (0 : Int32)))).1) ?_
              exact kK
            have t142_ := own_tne3 hc181_140_
            let ll35 : Array Slot := #[vJ q1, vS, vJ q2, vS, vJ q3, vS, vI p4, vI p5, vI pb, vJ xv, vS, vJ yv, vS, vI two, vJ zv, vS, vI op, vR b3_, vI 1, vI 0, vI 1, vU]
            refine jg T128_ mM 245 ll35 [] (fun tT kK => ?_) ?_
            · refine XS.lload X128_.here hx rfl (hC at_184) rfl ?_
              refine XS.lload X128_.here hx rfl (hC at_186) rfl ?_
              refine XS.lcmp X128_.here hx rfl (hC at_188) rfl ?_
              refine XS.ifNo X128_.here hx rfl (hC at_189) rfl ((if0 _ _).trans (tlt ((lw_lt yv zv).mpr ((own_lt (by omega)) : yv < zv))).2.1) ?_
              refine XS.iconst X128_.here hx rfl (hC at_192) ?_
              refine XS.goto X128_.here hx rfl (pc0 := 193) (pc' := 197) rfl (hC at_193) (by decide) (by decide) ?_
              refine XS.istore X128_.here hx rfl (hC at_197) rfl (l' := ll35) rfl ?_
              refine XS.goto X128_.here hx rfl (pc0 := 199) (pc' := 245) rfl (hC at_199) (by decide) (by decide) ?_
              exact kK
            exact jp25_ z'_128_ (1 : Int32) _ _ _ (by omega) (X128_.more (by decide) (by decide)) rfl K128_ p128__2 p128__3 N128_
        · have t143_ := own_tne hc138_
          refine jg T128_ mM 176 ll31 [(.int (lcmpW xv zv))] (fun tT kK => ?_) ?_
          · refine XS.pop X128_.here hx rfl (hC at_170) rfl rfl ?_
            show Steps pP.tables eE below (T128_.setTop (mkF mM 171 ll31 [])) tT
            refine XS.lload X128_.here hx rfl (hC at_171) rfl ?_
            refine XS.lload X128_.here hx rfl (hC at_173) rfl ?_
            refine XS.lcmp X128_.here hx rfl (hC at_175) rfl ?_
            exact kK
          by_cases hc176_144_ : xv < zv
          · refine jg T128_ mM 179 ll31 [] (fun tT kK => ?_) ?_
            · refine XS.ifNo X128_.here hx rfl (hC at_176) rfl ((if0 _ _).trans (tlt ((lw_lt xv zv).mpr (hc176_144_ : xv < zv))).2.1) ?_
              exact kK
            have t145_ := own_tlt hc176_144_
            let ll36 : Array Slot := #[vJ q1, vS, vJ q2, vS, vJ q3, vS, vI p4, vI p5, vI pb, vJ xv, vS, vJ yv, vS, vI two, vJ zv, vS, vI op, vR b3_, vI 1, vI 0, vI 0, vU]
            refine jg T128_ mM 245 ll36 [] (fun tT kK => ?_) ?_
            · refine XS.iload X128_.here hx rfl (hC at_179) rfl ?_
              refine XS.ifNo X128_.here hx rfl (hC at_181) rfl ((if0 _ _).trans (feq ((own_nev3 (by omega)) : ¬ (two = (0 : Int32)))).1) ?_
              refine XS.lload X128_.here hx rfl (hC at_184) rfl ?_
              refine XS.lload X128_.here hx rfl (hC at_186) rfl ?_
              refine XS.lcmp X128_.here hx rfl (hC at_188) rfl ?_
              refine XS.ifYes X128_.here hx rfl (pc0 := 189) (pc' := 196) rfl (hC at_189) rfl ((if0 _ _).trans (flt (mt (lw_lt yv zv).mp ((own_nl (by omega)) : ¬ (yv < zv)))).2.1) (by decide) (by decide) ?_
              refine XS.iconst X128_.here hx rfl (hC at_196) ?_
              refine XS.istore X128_.here hx rfl (hC at_197) rfl (l' := ll36) rfl ?_
              refine XS.goto X128_.here hx rfl (pc0 := 199) (pc' := 245) rfl (hC at_199) (by decide) (by decide) ?_
              exact kK
            exact jp25_ z'_128_ (0 : Int32) _ _ _ (by omega) (X128_.more (by decide) (by decide)) rfl K128_ p128__2 p128__3 N128_
          · refine jg T128_ mM 196 ll31 [] (fun tT kK => ?_) ?_
            · refine XS.ifYes X128_.here hx rfl (pc0 := 176) (pc' := 196) rfl (hC at_176) rfl ((if0 _ _).trans (flt (mt (lw_lt xv zv).mp (hc176_144_ : ¬ (xv < zv)))).2.1) (by decide) (by decide) ?_
              exact kK
            have t146_ := own_tnl hc176_144_
            let ll37 : Array Slot := #[vJ q1, vS, vJ q2, vS, vJ q3, vS, vI p4, vI p5, vI pb, vJ xv, vS, vJ yv, vS, vI two, vJ zv, vS, vI op, vR b3_, vI 1, vI 0, vI 0, vU]
            refine jg T128_ mM 245 ll37 [] (fun tT kK => ?_) ?_
            · refine XS.iconst X128_.here hx rfl (hC at_196) ?_
              refine XS.istore X128_.here hx rfl (hC at_197) rfl (l' := ll37) rfl ?_
              refine XS.goto X128_.here hx rfl (pc0 := 199) (pc' := 245) rfl (hC at_199) (by decide) (by decide) ?_
              exact kK
            exact jp25_ z'_128_ (0 : Int32) _ _ _ (by omega) (X128_.more (by decide) (by decide)) rfl K128_ p128__2 p128__3 N128_
      · refine jg T106_ mM 202 ll31 [] (fun tT kK => ?_) ?_
        · refine XS.icmpYes X106_.here hx rfl (pc0 := 160) (pc' := 202) rfl (hC at_160) rfl (feq (hc160_125_ : ¬ (op = (1 : Int32)))).2 (by decide) (by decide) ?_
          exact kK
        have t147_ : (1 : Int32).toInt = 1 := rfl
        have t148_ := own_tne3 hc160_125_
        refine jg T106_ mM 205 ll31 [(.int 2), (.int op)] (fun tT kK => ?_) ?_
        · refine XS.iload X106_.here hx rfl (hC at_202) rfl ?_
          refine XS.iconst X106_.here hx rfl (hC at_204) ?_
          exact kK
        by_cases hc205_149_ : op = (2 : Int32)
        · refine jg T106_ mM 208 ll31 [] (fun tT kK => ?_) ?_
          · refine XS.icmpNo X106_.here hx rfl (hC at_205) rfl (teq (hc205_149_ : op = (2 : Int32))).2 ?_
            exact kK
          have t150_ : (2 : Int32).toInt = 2 := rfl
          have t151_ := congrArg Int32.toInt hc205_149_
          refine jg T106_ mM 210 ll31 [(.ref b3_)] (fun tT kK => ?_) ?_
          · refine XS.aload X106_.here hx rfl (hC at_208) rfl rfl ?_
            exact kK
          refine jv X106_ hx hZ (y := jy26) hown (jk hw 94 rfl) (jk hw 95 rfl) (jk hw 97 rfl) (jk hw 96 rfl) (jk hw 98 rfl) (jk hw 3 rfl) (rm_RB lL Z a0 hw [] pg_15_ b3_ pa_15_ np nb kq_15_ kp kn pb zs sz ff ft lg lf lt ba kb en z vs hj105_ n0 (Nat.le_trans Z0 Kj105_.1) fj105__3 fj105__4 fj105__1 fj105__2 Zp Zb fj105__0 fj105__5 fj105__6 hE hn ge_b3_ ge_pg_15_ p15__4 (by omega) (by omega) (by omega) (by omega)) fj105__3.E p106__0 own_pd4 [] [] (hC at_210) rfl rfl (by rw [hml]; rfl) (by decide) 0 (Nat.le_of_eq rfl) (by decide) (by decide) (by decide : 10 + 1 ≤ _) (by decide : 127 + 4 ≤ _) fun vv152_ T152_ L152_ X152_ hQ152_ => ?_
          obtain ⟨z'_152_, rfl, N152_q, p152__0, p152__1, p152__2, p152__3⟩ := hQ152_
          have N152_ := Fr.app N106_ N152_q
          have K152_ := Kj105_.trans p152__0 (allS (Or.inr sz_b3_) (allS (Or.inr sz_pg_15_) all0))
          let ll38 : Array Slot := #[vJ q1, vS, vJ q2, vS, vJ q3, vS, vI p4, vI p5, vI pb, vJ xv, vS, vJ yv, vS, vI two, vJ zv, vS, vI op, vR b3_, vI 1, vI 0, vI 0, vU]
          refine jg T152_ mM 245 ll38 [] (fun tT kK => ?_) ?_
          · jvm_step X152_.here [X152_.here.top, hx, (hC at_213), Value.category]
            refine XS.iload X152_.here hx rfl (hC at_214) rfl ?_
            refine XS.ifNo X152_.here hx rfl (hC at_216) rfl ((if0 _ _).trans (feq ((own_nev3 (by omega)) : ¬ (two = (0 : Int32)))).1) ?_
            refine XS.lload X152_.here hx rfl (hC at_219) rfl ?_
            refine XS.lload X152_.here hx rfl (hC at_221) rfl ?_
            refine XS.lcmp X152_.here hx rfl (hC at_223) rfl ?_
            refine XS.ifYes X152_.here hx rfl (pc0 := 224) (pc' := 231) rfl (hC at_224) rfl ((if0 _ _).trans (feq (mt (lw_eq yv xv).mp ((own_nev (by omega)) : ¬ (yv = xv)))).2) (by decide) (by decide) ?_
            refine XS.iconst X152_.here hx rfl (hC at_231) ?_
            refine XS.istore X152_.here hx rfl (hC at_232) rfl (l' := ll38) rfl ?_
            refine XS.goto X152_.here hx rfl (pc0 := 234) (pc' := 245) rfl (hC at_234) (by decide) (by decide) ?_
            exact kK
          exact jp25_ z'_152_ (0 : Int32) _ _ _ (by omega) (X152_.more (by decide) (by decide)) rfl K152_ p152__2 p152__3 N152_
        · refine jg T106_ mM 237 ll31 [] (fun tT kK => ?_) ?_
          · refine XS.icmpYes X106_.here hx rfl (pc0 := 205) (pc' := 237) rfl (hC at_205) rfl (feq (hc205_149_ : ¬ (op = (2 : Int32)))).2 (by decide) (by decide) ?_
            exact kK
          have t162_ : (2 : Int32).toInt = 2 := rfl
          have t163_ := own_tne3 hc205_149_
          refine jg T106_ mM 239 ll31 [(.ref b3_)] (fun tT kK => ?_) ?_
          · refine XS.aload X106_.here hx rfl (hC at_237) rfl rfl ?_
            exact kK
          refine jv X106_ hx hZ (y := jy38) hown (jk hw 225 rfl) (jk hw 226 rfl) (jk hw 228 rfl) (jk hw 227 rfl) (jk hw 229 rfl) (jk hw 3 rfl) (rm_clr lL Z a0 hw [] b3_ np pa_15_ zs (1 : Int32) pb hj105_ n0 (Nat.le_trans Z0 Kj105_.1) fj105__3 Zp fj105__0 ge_b3_) fj105__3.E p106__0 own_pd5 [] [] (hC at_239) rfl rfl (by rw [hml]; rfl) (by decide) 0 (Nat.le_of_eq rfl) (by decide) (by decide) (by decide : 10 + 0 ≤ _) (by decide : 127 + 0 ≤ _) fun vv164_ T164_ L164_ X164_ hQ164_ => ?_
          obtain ⟨rfl, N164_q, p164__0, p164__1⟩ := hQ164_
          have N164_ := Fr.app N106_ N164_q
          have K164_ := Kj105_.trans p164__0 (allS (Or.inr sz_b3_) all0)
          let ll39 : Array Slot := #[vJ q1, vS, vJ q2, vS, vJ q3, vS, vI p4, vI p5, vI pb, vJ xv, vS, vJ yv, vS, vI two, vJ zv, vS, vI op, vR b3_, vI 1, vI 0, vI 1, vU]
          refine jg T164_ mM 245 ll39 [] (fun tT kK => ?_) ?_
          · refine XS.iconst X164_.here hx rfl (hC at_242) ?_
            refine XS.istore X164_.here hx rfl (hC at_243) rfl (l' := ll39) rfl ?_
            exact kK
          exact jp25_ (0 : Int64) (1 : Int32) _ _ _ (by omega) (X164_.more (by decide) (by decide)) rfl K164_ p164__1.E p164__1.g0 N164_
  by_cases hc96_172_ : two = (0 : Int32)
  · refine jg T15_ mM 106 ll13 [] (fun tT kK => ?_) ?_
    · refine XS.ifYes X15_.here hx rfl (pc0 := 96) (pc' := 106) rfl (hC at_96) rfl ((if0 _ _).trans (teq (hc96_172_ : two = (0 : Int32))).1) (by decide) (by decide) ?_
      exact kK
    have t173_ : (0 : Int32).toInt = 0 := rfl
    have t174_ := congrArg Int32.toInt hc96_172_
    have t175_ : (1 : Int64).toInt = 1 := rfl
    have t176_ := own_add (x := xv) (y := (1 : Int64)) (by omega)
    exact jp33_ (1 : Int64) (1 : Int64) xv (xv + (1 : Int64)) (0 : Int64) (0 : Int64) (0 : Int64) _ _ _ (by omega) (X15_.more (by decide) (by decide)) rfl K15_ fc22_ fc23_ fc24_ p15__5 p15__7 p15__6 N15_
  · refine jg T15_ mM 99 ll13 [] (fun tT kK => ?_) ?_
    · refine XS.ifNo X15_.here hx rfl (hC at_96) rfl ((if0 _ _).trans (feq (hc96_172_ : ¬ (two = (0 : Int32)))).1) ?_
      exact kK
    have t177_ : (0 : Int32).toInt = 0 := rfl
    have t178_ := own_tne3 hc96_172_
    by_cases hc179_ : yv.toInt = xv.toInt ∨ yv.toInt = xv.toInt + 1 ∨ yv.toInt + 1 = xv.toInt
    · refine jg T15_ mM 103 ll13 [(.long yv), (.ref b3_)] (fun tT kK => ?_) ?_
      · refine XS.aload X15_.here hx rfl (hC at_99) rfl rfl ?_
        refine XS.lload X15_.here hx rfl (hC at_101) rfl ?_
        exact kK
      have t180_ : (1 : Int64).toInt = 1 := rfl
      have t181_ := own_add (x := xv) (y := (1 : Int64)) (by omega)
      refine jv X15_ hx hZ (y := jy32) hown (jk hw 23 rfl) (jk hw 24 rfl) (jk hw 26 rfl) (jk hw 25 rfl) (jk hw 27 rfl) (jk hw 3 rfl) (rm_adA lL Z a0 hw [] pg_15_ b3_ pa_15_ np nb kq_15_ kp kn pb (1 : Int64) (1 : Int64) xv (xv + (1 : Int64)) (0 : Int64) (0 : Int64) (0 : Int64) yv T15_.heap n0 (Nat.le_trans Z0 K15_.1) p15__5 p15__7 fc23_ fc24_ Zp Zb fc22_ p15__6 ge_b3_ ge_pg_15_ p15__4 (by omega) (by omega) (by omega) (by omega) (by omega) (by omega)) p15__5.E rfl own_pd0 [(.long yv)] [] (hC at_103) rfl rfl (by rw [hml]; rfl) (by decide) 0 (Nat.le_of_eq rfl) (by decide) (by decide) (by decide : 4 + 2 ≤ _) (by decide : 17 + 61 ≤ _) fun vv182_ T182_ L182_ X182_ hQ182_ => ?_
      obtain ⟨zs'_182_, sz'_182_, ff'_182_, ft'_182_, lg'_182_, lf'_182_, lt'_182_, rfl, N182_q, p182__0, p182__1, p182__2, p182__3⟩ := hQ182_
      have N182_ := Fr.app N15_ N182_q
      have ne183_ : pa_15_ ≠ pg_15_ := (Ne.symm (own_neV p15__6.E p15__7 (jk hw 55 rfl)))
      have fc184_ := fc22_.keep p182__0 (allS ge_b3_ (allS ge_pg_15_ all0))
      have fc185_ := fc23_.keep p182__0 (ninS ne4_ (ninS ne16_ nin0))
      have fc186_ := fc24_.keep p182__0 (ninS ne5_ (ninS ne17_ nin0))
      have fc187_ := p15__7.keep p182__0 (ninS (Ne.symm ne21_) (ninS ne183_ nin0))
      have K182_ := K15_.trans p182__0 (allS (Or.inr sz_b3_) (allS (Or.inr sz_pg_15_) all0))
      exact jp33_ zs'_182_ sz'_182_ ff'_182_ ft'_182_ lg'_182_ lf'_182_ lt'_182_ _ _ _ (by omega) (X182_.more (by decide) (by decide)) rfl K182_ fc184_ fc185_ fc186_ p182__2 fc187_ p182__3 N182_
    · refine jg T15_ mM 103 ll13 [(.long yv), (.ref b3_)] (fun tT kK => ?_) ?_
      · refine XS.aload X15_.here hx rfl (hC at_99) rfl rfl ?_
        refine XS.lload X15_.here hx rfl (hC at_101) rfl ?_
        exact kK
      have t188_ : (1 : Int64).toInt = 1 := rfl
      have t189_ := own_add (x := xv) (y := (1 : Int64)) (by omega)
      refine jv X15_ hx hZ (y := jy32) hown (jk hw 23 rfl) (jk hw 24 rfl) (jk hw 26 rfl) (jk hw 25 rfl) (jk hw 27 rfl) (jk hw 3 rfl) (rm_adB lL Z a0 hw [] pg_15_ b3_ pa_15_ np nb kq_15_ kp kn pb (1 : Int64) (1 : Int64) xv (xv + (1 : Int64)) (0 : Int64) (0 : Int64) (0 : Int64) yv T15_.heap n0 (Nat.le_trans Z0 K15_.1) p15__5 p15__7 fc23_ fc24_ Zp Zb fc22_ p15__6 ge_b3_ ge_pg_15_ p15__4 (by omega) (by omega) (by omega) (by omega) (by omega) (by omega)) p15__5.E rfl own_pd0 [(.long yv)] [] (hC at_103) rfl rfl (by rw [hml]; rfl) (by decide) 0 (Nat.le_of_eq rfl) (by decide) (by decide) (by decide : 4 + 3 ≤ _) (by decide : 17 + 80 ≤ _) fun vv190_ T190_ L190_ X190_ hQ190_ => ?_
      obtain ⟨zs'_190_, sz'_190_, ff'_190_, ft'_190_, lg'_190_, lf'_190_, lt'_190_, ba_190_, kb_190_, z_190_, en_190_, vs_190_, rfl, N190_q, p190__0, p190__1, p190__2, p190__3, p190__4, p190__5, p190__6, p190__7⟩ := hQ190_
      have N190_ := Fr.app N15_ N190_q
      have ne196_ : pa_15_ ≠ pg_15_ := (Ne.symm (own_neV p15__6.E p15__7 (jk hw 55 rfl)))
      have fc197_ := fc22_.keep p190__0 (allS ge_b3_ (allS ge_pg_15_ all0))
      have fc198_ := fc23_.keep p190__0 (ninS ne4_ (ninS ne16_ nin0))
      have fc199_ := fc24_.keep p190__0 (ninS ne5_ (ninS ne17_ nin0))
      have fc200_ := p15__7.keep p190__0 (ninS (Ne.symm ne21_) (ninS ne196_ nin0))
      have K190_ := K15_.trans p190__0 (allS (Or.inr sz_b3_) (allS (Or.inr sz_pg_15_) all0))
      exact jp105_ zs'_190_ sz'_190_ ff'_190_ ft'_190_ lg'_190_ lf'_190_ lt'_190_ ba_190_ kb_190_ z_190_ en_190_ vs_190_ _ _ _ (by omega) p190__3 (by omega) (X190_.more (by decide) (by decide)) rfl K190_ fc197_ fc198_ fc199_ p190__5 fc200_ p190__6 p190__7 N190_
theorem comes_1 {Post : Tables → Env → Array Value → State → Outcome → State → Prop} (hpost : ∀ tb e args s v u, (limb_1_1.after args s (.returned v) u = true ∧ limb_1_2.after args s (.returned v) u = true ∧ True) → FrameEnd s (.returned v) u (Jvm.fieldLocs frame_1_writes args s ++ Jvm.arrayLocs frame_1_arrays args s ++ Jvm.staticLocs frame_1_statics s) 32 384 → Post tb e args s (.returned v) u) :
    ArmFor flags0 classFile x code maxLocals ret World_1 tables_1 room_1 Calls_1 rest_1 Pre_1 Post := by
  intro l hfl _ _ p e ha hc hk s m args below hf hA hF happ hP
  obtain ⟨hcalls, hrest, hpre⟩ := hP
  obtain ⟨-, -, -, hnamed, -, -, -, hat⟩ := (Spec.applies_iff hf).mp happ
  obtain ⟨hg, hn⟩ := and_e (Cond.before_iff.mp (show (Jvm.Cond.and given_1 narrow_1).before args s = true from hpre))
  obtain ⟨gg1, gg2⟩ := and_e hg
  obtain ⟨gg3, gg4⟩ := and_e gg2
  obtain ⟨gg5, gg6⟩ := and_e gg4
  obtain ⟨gg7, gg8⟩ := and_e gg6
  obtain ⟨gg9, gg10⟩ := and_e gg8
  obtain ⟨w0, w1, w2, w3, w4, rfl⟩ : ∃ w0 w1 w2 w3 w4 : Value, args = #[w0, w1, w2, w3, w4] := by
    have hs : args.size = 5 := by simpa [Cond.value, given_1] using gg1
    obtain ⟨L⟩ := args
    match L, hs with
    | [w0, w1, w2, w3, w4], _ => exact ⟨w0, w1, w2, w3, w4, rfl⟩
  have hw := fun d (hd : d ∈ tables_1) => atoms_spec (ws := Jvm.Cond.code x code maxLocals ret :: tables_1) hat d (List.mem_cons_of_mem _ hd)
  have hfit : Fit s := fun {y c} hc i hi => by
    obtain ⟨ha, rfl⟩ := Array.getElem?_eq_some_iff.mp hc
    have q := List.all_eq_true.mp ((Array.all_eq_true_iff_forall_mem.mp hF) _ (Array.getElem_mem ha)) i (List.mem_range.mpr hi)
    simpa [Array.getElem?_eq_getElem hi] using q
  obtain ⟨i0, ei0⟩ := isL_v gg3
  obtain rfl : w0 = (.long i0) := Option.some.inj ei0
  obtain ⟨i1, ei1⟩ := isL_v gg5
  obtain rfl : w1 = (.long i1) := Option.some.inj ei1
  obtain ⟨i2, ei2⟩ := isL_v gg7
  obtain rfl : w2 = (.long i2) := Option.some.inj ei2
  obtain ⟨i3, ei3⟩ := is_v gg9
  obtain rfl : w3 = (.int i3) := Option.some.inj ei3
  obtain ⟨i4, ei4⟩ := is_v gg10
  obtain rfl : w4 = (.int i4) := Option.some.inj ei4
  obtain ⟨gg11, gg12⟩ := and_e hn
  obtain ⟨gg13, gg14⟩ := and_e gg12
  obtain ⟨gg15, gg16⟩ := and_e gg14
  obtain ⟨gg17, gg18⟩ := and_e gg16
  obtain ⟨gg19, gg20⟩ := and_e gg18
  obtain ⟨np, ev_np⟩ := arr_v gg11
  have S_np := Sta.start ev_np (Or.inr ⟨(jk hw 3 rfl), (jk hw 11 rfl)⟩)
  obtain ⟨cl_np, A_np⟩ := Arr.start ev_np gg11
  obtain ⟨z1_np, z2_np⟩ := IntBox.length_fwd (Cond.before_iff.mpr gg15) ev_np A_np.1 A_np.2.1 A_np.2.2
  have V_np := Arv.start (vs := []) (dv := .null) hfit A_np z1_np z2_np (by decide) (by decide) trivial
  obtain ⟨nb, ev_nb⟩ := arr_v gg17
  have S_nb := Sta.start ev_nb (Or.inr ⟨(jk hw 3 rfl), (jk hw 62 rfl)⟩)
  obtain ⟨cl_nb, A_nb⟩ := Arr.start ev_nb gg17
  obtain ⟨z1_nb, z2_nb⟩ := IntBox.length_fwd (Cond.before_iff.mpr gg20) ev_nb A_nb.1 A_nb.2.1 A_nb.2.2
  have V_nb := Arv.start (vs := []) (dv := (.int 0)) hfit A_nb z1_nb z2_nb (by decide) (by decide) trivial
  obtain ⟨n, o, h1, h2, h3, _, L, rfl, ⟨rfl, N⟩, hq⟩ := rm0 l s _ hw tables_1 i0 i1 i2 i3 i4 np nb cl_np.cls cl_nb.cls s.heap s.heap.size (Nat.le_refl _) S_np S_nb (Old.start s) V_np V_nb p e ha hc hk s m _ below hf ((Spec.applies_iff_loose hf).mp happ).1 ⟨rfl, State.Warmed39.refl s, rfl⟩ trivial
  refine ⟨n, _, h1, h2, h3, hpost _ _ _ _ _ _ ⟨Cond.after_iff.mpr rfl, Cond.after_iff.mpr (eq_i res_at (Term.int_eval (1)) rfl), trivial⟩ ⟨hq.1, hq.2.1, (hq.2.2.sift fun y hy => Or.inr (N y hy)).mono (by decide) (by decide)⟩⟩
theorem main_1_1 : Claimed_1_1 := comes_1 fun _ _ _ _ _ _ h hF => ⟨h.1, hF⟩
theorem main_1_2 : Claimed_1_2 := comes_1 fun _ _ _ _ _ _ h hF => ⟨h.2.1, hF⟩
end Jvm.Pilot.@@N@@
namespace Jvm.Pilot.@@N@@
open Jvm Jvm.ClassFile Sem Op Lib Jvm.Free Jvm.Stand Jvm.Pilot.@@N@@.Jvm.D
/-! MADE BY PROGRAM (witnessworld.py) out of the Statement's table words and the real class files: 14 classes; the members and pool entries that the words name. The judged class is class 1, her method 1. -/
namespace start1
open Jvm.ClassFile
def u (s : String) : CpInfo := .utf8 (stringToUtf16 s)
/-- a pool by its gaps: so many unusable entries, then the entry; so many at the end -/
def gap : Nat → List CpInfo → List CpInfo
  | 0, r => r
  | n + 1, r => .unusable :: gap n r
def poolList (es : List (Nat × CpInfo)) (last : Nat) : List CpInfo := es.foldr (fun e r => gap e.1 (e.2 :: r)) (gap last [])
def pool (es : List (Nat × CpInfo)) (last : Nat) : Array CpInfo := ⟨poolList es last⟩
def fileOf (pool : Array CpInfo) (this : Nat) (attrs : Array Attribute := #[]) (ms : Array MethodInfo := #[]) (fl : Nat := 33) (sup : Nat := 0) (ifs : Array Nat := #[]) (fds : Array FieldInfo := #[]) : ClassFile where
  minorVersion := 0
  majorVersion := 65
  constantPool := pool
  accessFlags := fl
  thisClass := this
  superClass := sup
  interfaces := ifs
  fields := fds
  methods := ms
  attributes := attrs
def plain (name : String) (sup : Option ClassId) : Class where
  name := name
  kind := .ordinary
  loader := none
  accessFlags := 33
  super := sup
  interfaces := #[]
  cf := none
  fields := #[]
  methods := #[]
  instanceTypes := #[]
  staticTypes := #[]
  resolved := #[]
  callSites := []
  init := .initialized
  statics := none
  mirror := none

def pool0 : Array CpInfo := pool [(5, u "<init>"), (0, u "()V"), (1, .class_ 10), (1, u "java/lang/Object")] 113

def k0c0 : Code := { maxStack := 0, maxLocals := 1, code := object_method_1_code, exceptionTable := #[], attributes := #[] }
def k0m0 : Method := { name := "<init>", desc := "()V", sig := { parameters := [], returnType := none }, accessFlags := 1, code := some k0c0 }
/-- java/lang/Object -/
def k0 : Class := { plain "java/lang/Object" none with
  accessFlags := 33
  interfaces := #[]
  cf := some (fileOf pool0 8 #[] #[{ accessFlags := 1, nameIndex := 5, descriptorIndex := 6, attributes := #[] }] 33 0 #[] #[])
  fields := #[]
  methods := #[k0m0]
  instanceTypes := #[]
  staticTypes := #[]
  resolved := Array.replicate 124 none
  statics := none }

def pool1 : Array CpInfo := pool [(2, .class_ 4), (1, u "java/lang/Object"), (0, u "<init>"), (0, u "()V"), (2, .long 9223372036854775807), (1, .class_ 12), (0, u "com/example/portion/portion/server/OffsetSet"), (0, .methodref 11 14), (0, .nameAndType 5 15), (0, u "(I)V"), (0, .methodref 11 17), (0, .nameAndType 18 19), (0, u "isEmpty"), (0, u "()Z"), (0, .methodref 11 21), (0, .nameAndType 22 23), (0, u "add"), (0, u "(J)V"), (0, .methodref 11 25), (0, .nameAndType 26 27), (0, u "remove"), (0, u "(J)Z"), (0, .methodref 11 29), (0, .nameAndType 30 27), (0, u "removeBefore"), (0, .methodref 11 32), (0, .nameAndType 33 34), (0, u "removeFirst"), (0, u "()J"), (0, .methodref 11 36), (0, .nameAndType 37 6), (0, u "clear"), (0, .class_ 39), (0, u "com/example/portion/portion/server/OffsetSetIsEmptyPinLaw"), (2, u "law"), (0, u "(JJJII)Z")] 3

def k1m0 : Method := { name := "<init>", desc := "()V", sig := { parameters := [], returnType := none }, accessFlags := 2, code := none }
def k1c1 : Code := { maxStack := 4, maxLocals := 22, code := code, exceptionTable := #[], attributes := #[] }
def k1m1 : Method := { name := "law", desc := "(JJJII)Z", sig := { parameters := [.long, .long, .long, .int, .int], returnType := some .boolean }, accessFlags := 9, code := some k1c1 }
/-- com/example/portion/portion/server/OffsetSetIsEmptyPinLaw -/
def k1 : Class := { plain "com/example/portion/portion/server/OffsetSetIsEmptyPinLaw" (some 0) with
  accessFlags := 49
  interfaces := #[]
  cf := some (fileOf pool1 38 #[] #[{ accessFlags := 2, nameIndex := 5, descriptorIndex := 6, attributes := #[] }, { accessFlags := 9, nameIndex := 42, descriptorIndex := 43, attributes := #[] }] 49 2 #[] #[])
  fields := #[]
  methods := #[k1m0, k1m1]
  instanceTypes := #[]
  staticTypes := #[]
  resolved := Array.replicate 47 none
  statics := none }

def pool2 : Array CpInfo := pool [(1, .class_ 2), (0, u "com/example/portion/portion/server/OffsetSet"), (2, u "<init>"), (0, u "(I)V"), (0, .methodref 8 9), (0, .class_ 10), (0, .nameAndType 5 11), (0, u "java/lang/Object"), (0, u "()V"), (0, .fieldref 1 13), (0, .nameAndType 14 15), (0, u "NO_PAGES"), (0, u "[Lcom/example/portion/portion/server/OffsetSet$Page;"), (0, .fieldref 1 17), (0, .nameAndType 18 15), (0, u "pages"), (0, .fieldref 1 20), (0, .nameAndType 21 22), (0, u "pageBytes"), (0, u "I"), (0, .fieldref 1 24), (0, .nameAndType 25 26), (0, u "size"), (0, u "J"), (7, .fieldref 35 36), (0, .class_ 37), (0, .nameAndType 38 26), (0, u "com/example/portion/portion/server/OffsetSet$Page"), (0, u "firstFrom"), (0, .methodref 1 40), (0, .nameAndType 41 42), (0, u "first"), (0, u "()J"), (0, .methodref 35 44), (0, .nameAndType 45 11), (0, u "removeFirst"), (0, .fieldref 35 24), (0, .methodref 1 48), (0, .nameAndType 49 50), (0, u "replacePages"), (0, u "(II[Lcom/example/portion/portion/server/OffsetSet$Page;I)V"), (0, .methodref 1 52), (0, .nameAndType 53 54), (0, u "pageAt"), (0, u "(J)I"), (0, .methodref 35 56), (0, .nameAndType 57 58), (0, u "contains"), (0, u "(J)Z"), (0, .methodref 1 60), (0, .nameAndType 61 62), (0, u "addRange"), (0, u "(JJ)V"), (0, .methodref 1 64), (0, .nameAndType 65 62), (0, u "requireRange"), (0, .methodref 67 68), (0, .class_ 69), (0, .nameAndType 70 71), (0, u "java/lang/Math"), (0, u "max"), (0, u "(II)I"), (0, .methodref 1 73), (0, .nameAndType 74 62), (0, u "append"), (0, .methodref 35 76), (0, .nameAndType 77 42), (0, u "lastRunFrom"), (0, .methodref 1 79), (0, .nameAndType 80 81), (0, u "appendTo"), (0, u "(IJJ)V"), (0, .methodref 1 83), (0, .nameAndType 84 85), (0, u "edit"), (0, u "(IJJZ)V"), (17, .methodref 35 104), (0, .nameAndType 105 42), (0, u "lastRunTo"), (0, .methodref 1 56), (0, .methodref 1 108), (0, .nameAndType 45 42), (0, .fieldref 1 110), (0, .nameAndType 111 22), (0, u "pageCount"), (0, .methodref 35 113), (0, .nameAndType 114 115), (0, u "removeBefore"), (0, u "(J)V"), (3, .class_ 120), (0, u "com/example/portion/portion/server/OffsetSet$Runs"), (6, u "()Z"), (7, .class_ 137), (1, u "com/example/portion/portion/server/OffsetSet$RunConsumer"), (7, .methodref 35 146), (0, .nameAndType 147 148), (0, u "byteCount"), (0, u "()I"), (0, .methodref 35 150), (0, .nameAndType 151 11), (0, u "trim"), (0, .methodref 35 9), (0, .methodref 35 154), (0, .nameAndType 155 62), (0, u "extend"), (0, .methodref 35 157), (0, .nameAndType 158 159), (0, u "set"), (0, u "(JJZ)V"), (7, .methodref 168 169), (0, .class_ 170), (0, .nameAndType 171 172), (0, u "java/lang/System"), (0, u "arraycopy"), (0, u "(Ljava/lang/Object;ILjava/lang/Object;II)V"), (12, u "NO_BYTES"), (0, u "[B"), (0, u "MIN_BYTES"), (2, u "MAX_RUN_BYTES"), (1, u "MAX_SHORT_GAP"), (0, u "MAX_SHORT_LENGTH"), (1, u "PAGE_BYTES"), (3, u "isEmpty"), (1, u "add"), (2, u "remove"), (0, u "clear"), (9, .class_ 216), (0, u "com/example/portion/portion/server/OffsetSet$Page$Runs")] 30

def k2m0 : Method := { name := "<init>", desc := "()V", sig := { parameters := [], returnType := none }, accessFlags := 0, code := none }
def k2c1 : Code := { maxStack := 2, maxLocals := 2, code := prog_38_method_2_code, exceptionTable := #[], attributes := #[] }
def k2m1 : Method := { name := "<init>", desc := "(I)V", sig := { parameters := [.int], returnType := none }, accessFlags := 0, code := some k2c1 }
def k2c2 : Code := { maxStack := 4, maxLocals := 1, code := prog_38_method_3_code, exceptionTable := #[], attributes := #[] }
def k2m2 : Method := { name := "isEmpty", desc := "()Z", sig := { parameters := [], returnType := some .boolean }, accessFlags := 0, code := some k2c2 }
def k2c3 : Code := { maxStack := 4, maxLocals := 1, code := prog_38_method_5_code, exceptionTable := #[], attributes := #[] }
def k2m3 : Method := { name := "first", desc := "()J", sig := { parameters := [], returnType := some .long }, accessFlags := 0, code := some k2c3 }
def k2c4 : Code := { maxStack := 5, maxLocals := 3, code := prog_38_method_6_code, exceptionTable := #[], attributes := #[] }
def k2m4 : Method := { name := "removeFirst", desc := "()J", sig := { parameters := [], returnType := some .long }, accessFlags := 0, code := some k2c4 }
def k2c5 : Code := { maxStack := 3, maxLocals := 4, code := prog_38_method_7_code, exceptionTable := #[], attributes := #[] }
def k2m5 : Method := { name := "contains", desc := "(J)Z", sig := { parameters := [.long], returnType := some .boolean }, accessFlags := 0, code := some k2c5 }
def k2c6 : Code := { maxStack := 7, maxLocals := 3, code := prog_38_method_8_code, exceptionTable := #[], attributes := #[] }
def k2m6 : Method := { name := "add", desc := "(J)V", sig := { parameters := [.long], returnType := none }, accessFlags := 0, code := some k2c6 }
def k2c7 : Code := { maxStack := 7, maxLocals := 8, code := prog_38_method_9_code, exceptionTable := #[], attributes := #[] }
def k2m7 : Method := { name := "addRange", desc := "(JJ)V", sig := { parameters := [.long, .long], returnType := none }, accessFlags := 0, code := some k2c7 }
def k2c8 : Code := { maxStack := 8, maxLocals := 4, code := prog_38_method_11_code, exceptionTable := #[], attributes := #[] }
def k2m8 : Method := { name := "remove", desc := "(J)Z", sig := { parameters := [.long], returnType := some .boolean }, accessFlags := 0, code := some k2c8 }
def k2c9 : Code := { maxStack := 7, maxLocals := 7, code := prog_38_method_12_code, exceptionTable := #[], attributes := #[] }
def k2m9 : Method := { name := "removeBefore", desc := "(J)Z", sig := { parameters := [.long], returnType := some .boolean }, accessFlags := 0, code := some k2c9 }
def k2c10 : Code := { maxStack := 3, maxLocals := 1, code := prog_38_method_13_code, exceptionTable := #[], attributes := #[] }
def k2m10 : Method := { name := "clear", desc := "()V", sig := { parameters := [], returnType := none }, accessFlags := 0, code := some k2c10 }
def k2c11 : Code := { maxStack := 6, maxLocals := 4, code := prog_38_method_16_code, exceptionTable := #[], attributes := #[] }
def k2m11 : Method := { name := "requireRange", desc := "(JJ)V", sig := { parameters := [.long, .long], returnType := none }, accessFlags := 8, code := some k2c11 }
def k2c12 : Code := { maxStack := 4, maxLocals := 6, code := prog_38_method_18_code, exceptionTable := #[], attributes := #[] }
def k2m12 : Method := { name := "pageAt", desc := "(J)I", sig := { parameters := [.long], returnType := some .int }, accessFlags := 2, code := some k2c12 }
def k2c13 : Code := { maxStack := 6, maxLocals := 5, code := prog_38_method_19_code, exceptionTable := #[], attributes := #[] }
def k2m13 : Method := { name := "append", desc := "(JJ)V", sig := { parameters := [.long, .long], returnType := none }, accessFlags := 2, code := some k2c13 }
def k2c14 : Code := { maxStack := 7, maxLocals := 9, code := prog_38_method_20_code, exceptionTable := #[], attributes := #[] }
def k2m14 : Method := { name := "appendTo", desc := "(IJJ)V", sig := { parameters := [.int, .long, .long], returnType := none }, accessFlags := 2, code := some k2c14 }
def k2c15 : Code := { maxStack := 7, maxLocals := 12, code := prog_38_method_21_code, exceptionTable := #[], attributes := #[] }
def k2m15 : Method := { name := "edit", desc := "(IJJZ)V", sig := { parameters := [.int, .long, .long, .boolean], returnType := none }, accessFlags := 2, code := some k2c15 }
def k2c16 : Code := { maxStack := 6, maxLocals := 7, code := prog_38_method_24_code, exceptionTable := #[], attributes := #[] }
def k2m16 : Method := { name := "replacePages", desc := "(II[Lcom/example/portion/portion/server/OffsetSet$Page;I)V", sig := { parameters := [.int, .int, (.array (.object "com/example/portion/portion/server/OffsetSet$Page")), .int], returnType := none }, accessFlags := 2, code := some k2c16 }
/-- com/example/portion/portion/server/OffsetSet -/
def k2 : Class := { plain "com/example/portion/portion/server/OffsetSet" (some 0) with
  accessFlags := 48
  interfaces := #[]
  cf := some (fileOf pool2 1 #[.nestMembers #[35, 215, 119, 135]] #[{ accessFlags := 0, nameIndex := 5, descriptorIndex := 11, attributes := #[] }, { accessFlags := 0, nameIndex := 5, descriptorIndex := 6, attributes := #[] }, { accessFlags := 0, nameIndex := 199, descriptorIndex := 127, attributes := #[] }, { accessFlags := 0, nameIndex := 41, descriptorIndex := 42, attributes := #[] }, { accessFlags := 0, nameIndex := 45, descriptorIndex := 42, attributes := #[] }, { accessFlags := 0, nameIndex := 57, descriptorIndex := 58, attributes := #[] }, { accessFlags := 0, nameIndex := 201, descriptorIndex := 115, attributes := #[] }, { accessFlags := 0, nameIndex := 61, descriptorIndex := 62, attributes := #[] }, { accessFlags := 0, nameIndex := 204, descriptorIndex := 58, attributes := #[] }, { accessFlags := 0, nameIndex := 114, descriptorIndex := 58, attributes := #[] }, { accessFlags := 0, nameIndex := 205, descriptorIndex := 11, attributes := #[] }, { accessFlags := 8, nameIndex := 65, descriptorIndex := 62, attributes := #[] }, { accessFlags := 2, nameIndex := 53, descriptorIndex := 54, attributes := #[] }, { accessFlags := 2, nameIndex := 74, descriptorIndex := 62, attributes := #[] }, { accessFlags := 2, nameIndex := 80, descriptorIndex := 81, attributes := #[] }, { accessFlags := 2, nameIndex := 84, descriptorIndex := 85, attributes := #[] }, { accessFlags := 2, nameIndex := 49, descriptorIndex := 50, attributes := #[] }] 48 8 #[] #[{ accessFlags := 26, nameIndex := 185, descriptorIndex := 186, attributes := #[] }, { accessFlags := 26, nameIndex := 14, descriptorIndex := 15, attributes := #[] }, { accessFlags := 26, nameIndex := 187, descriptorIndex := 22, attributes := #[] }, { accessFlags := 26, nameIndex := 190, descriptorIndex := 22, attributes := #[] }, { accessFlags := 26, nameIndex := 192, descriptorIndex := 22, attributes := #[] }, { accessFlags := 26, nameIndex := 193, descriptorIndex := 22, attributes := #[] }, { accessFlags := 26, nameIndex := 195, descriptorIndex := 22, attributes := #[] }, { accessFlags := 18, nameIndex := 21, descriptorIndex := 22, attributes := #[] }, { accessFlags := 2, nameIndex := 25, descriptorIndex := 26, attributes := #[] }, { accessFlags := 2, nameIndex := 18, descriptorIndex := 15, attributes := #[] }, { accessFlags := 2, nameIndex := 111, descriptorIndex := 22, attributes := #[] }])
  fields := #[{ name := "NO_BYTES", type := (.array .byte), accessFlags := 26, slot := 0, constantValue := 0 }, { name := "NO_PAGES", type := (.array (.object "com/example/portion/portion/server/OffsetSet$Page")), accessFlags := 26, slot := 1, constantValue := 0 }, { name := "MIN_BYTES", type := .int, accessFlags := 26, slot := 2, constantValue := 0 }, { name := "MAX_RUN_BYTES", type := .int, accessFlags := 26, slot := 3, constantValue := 0 }, { name := "MAX_SHORT_GAP", type := .int, accessFlags := 26, slot := 4, constantValue := 0 }, { name := "MAX_SHORT_LENGTH", type := .int, accessFlags := 26, slot := 5, constantValue := 0 }, { name := "PAGE_BYTES", type := .int, accessFlags := 26, slot := 6, constantValue := 0 }, { name := "pageBytes", type := .int, accessFlags := 18, slot := 0, constantValue := 0 }, { name := "size", type := .long, accessFlags := 2, slot := 1, constantValue := 0 }, { name := "pages", type := (.array (.object "com/example/portion/portion/server/OffsetSet$Page")), accessFlags := 2, slot := 2, constantValue := 0 }, { name := "pageCount", type := .int, accessFlags := 2, slot := 3, constantValue := 0 }]
  methods := #[k2m0, k2m1, k2m2, k2m3, k2m4, k2m5, k2m6, k2m7, k2m8, k2m9, k2m10, k2m11, k2m12, k2m13, k2m14, k2m15, k2m16]
  instanceTypes := #[.int, .long, (.array (.object "com/example/portion/portion/server/OffsetSet$Page")), .int]
  staticTypes := #[(.array .byte), (.array (.object "com/example/portion/portion/server/OffsetSet$Page")), .int, .int, .int, .int, .int]
  resolved := ((((Array.replicate 247 (none : Option Resolved)).set! 34 (some (.field 4 1))).set! 46 (some (.field 4 0))).set! 35 (some (.cls 4))).set! 152 (some (.method ⟨4, 0⟩))
  statics := some 0 }

def pool3 : Array CpInfo := pool [(1, .class_ 2), (0, u "java/lang/Math"), (1, .class_ 6), (1, u "java/lang/Object"), (0, u "<init>"), (0, u "()V"), (89, .class_ 100), (1, u "java/lang/Math$RandomNumberGeneratorHolder"), (20, u "(JJ)J"), (50, u "negativeZeroFloatBits"), (0, u "J"), (2, u "negativeZeroDoubleBits"), (21, u "max"), (2, u "min"), (43, u "$assertionsDisabled"), (0, u "Z"), (88, u "(II)I"), (2, u "twoToTheDoubleScaleDown"), (0, u "D"), (4, u "twoToTheDoubleScaleUp"), (9, u "E"), (3, u "PI"), (2, u "TAU"), (2, u "DEGREES_TO_RADIANS"), (0, u "RADIANS_TO_DEGREES")] 94

def k3m0 : Method := { name := "<init>", desc := "()V", sig := { parameters := [], returnType := none }, accessFlags := 2, code := none }
def k3c1 : Code := { maxStack := 2, maxLocals := 2, code := jdk_29_method_65_code, exceptionTable := #[], attributes := #[] }
def k3m1 : Method := { name := "max", desc := "(II)I", sig := { parameters := [.int, .int], returnType := some .int }, accessFlags := 9, code := some k3c1 }
def k3c2 : Code := { maxStack := 4, maxLocals := 4, code := jdk_29_method_66_code, exceptionTable := #[], attributes := #[] }
def k3m2 : Method := { name := "max", desc := "(JJ)J", sig := { parameters := [.long, .long], returnType := some .long }, accessFlags := 9, code := some k3c2 }
def k3c3 : Code := { maxStack := 4, maxLocals := 4, code := jdk_29_method_70_code, exceptionTable := #[], attributes := #[] }
def k3m3 : Method := { name := "min", desc := "(JJ)J", sig := { parameters := [.long, .long], returnType := some .long }, accessFlags := 9, code := some k3c3 }
/-- java/lang/Math -/
def k3 : Class := { plain "java/lang/Math" (some 0) with
  accessFlags := 49
  interfaces := #[]
  cf := some (fileOf pool3 1 #[.nestMembers #[98]] #[{ accessFlags := 2, nameIndex := 7, descriptorIndex := 8, attributes := #[] }, { accessFlags := 9, nameIndex := 198, descriptorIndex := 335, attributes := #[] }, { accessFlags := 9, nameIndex := 198, descriptorIndex := 121, attributes := #[] }, { accessFlags := 9, nameIndex := 201, descriptorIndex := 121, attributes := #[] }] 49 4 #[] #[{ accessFlags := 25, nameIndex := 354, descriptorIndex := 339, attributes := #[] }, { accessFlags := 25, nameIndex := 358, descriptorIndex := 339, attributes := #[] }, { accessFlags := 25, nameIndex := 361, descriptorIndex := 339, attributes := #[] }, { accessFlags := 26, nameIndex := 364, descriptorIndex := 339, attributes := #[] }, { accessFlags := 26, nameIndex := 365, descriptorIndex := 339, attributes := #[] }, { accessFlags := 26, nameIndex := 172, descriptorIndex := 173, attributes := #[] }, { accessFlags := 26, nameIndex := 176, descriptorIndex := 173, attributes := #[] }, { accessFlags := 8, nameIndex := 344, descriptorIndex := 339, attributes := #[] }, { accessFlags := 8, nameIndex := 338, descriptorIndex := 339, attributes := #[] }, { accessFlags := 4120, nameIndex := 245, descriptorIndex := 246, attributes := #[] }])
  fields := #[{ name := "E", type := .double, accessFlags := 25, slot := 0, constantValue := 0 }, { name := "PI", type := .double, accessFlags := 25, slot := 1, constantValue := 0 }, { name := "TAU", type := .double, accessFlags := 25, slot := 2, constantValue := 0 }, { name := "DEGREES_TO_RADIANS", type := .double, accessFlags := 26, slot := 3, constantValue := 0 }, { name := "RADIANS_TO_DEGREES", type := .double, accessFlags := 26, slot := 4, constantValue := 0 }, { name := "negativeZeroFloatBits", type := .long, accessFlags := 26, slot := 5, constantValue := 0 }, { name := "negativeZeroDoubleBits", type := .long, accessFlags := 26, slot := 6, constantValue := 0 }, { name := "twoToTheDoubleScaleUp", type := .double, accessFlags := 8, slot := 7, constantValue := 0 }, { name := "twoToTheDoubleScaleDown", type := .double, accessFlags := 8, slot := 8, constantValue := 0 }, { name := "$assertionsDisabled", type := .boolean, accessFlags := 4120, slot := 9, constantValue := 0 }]
  methods := #[k3m0, k3m1, k3m2, k3m3]
  instanceTypes := #[]
  staticTypes := #[.double, .double, .double, .double, .double, .long, .long, .double, .double, .boolean]
  resolved := Array.replicate 460 none
  statics := none }

def pool4 : Array CpInfo := pool [(1, .class_ 2), (0, u "com/example/portion/portion/server/OffsetSet"), (0, .methodref 4 5), (0, .class_ 6), (0, .nameAndType 7 8), (0, u "java/lang/Object"), (0, u "<init>"), (0, u "()V"), (0, .fieldref 1 10), (0, .nameAndType 11 12), (0, u "NO_BYTES"), (0, u "[B"), (0, .fieldref 14 15), (0, .class_ 16), (0, .nameAndType 17 12), (0, u "com/example/portion/portion/server/OffsetSet$Page"), (0, u "bytes"), (0, .fieldref 14 19), (0, .nameAndType 20 21), (0, u "lastAt"), (0, u "I"), (0, .fieldref 14 23), (0, .nameAndType 24 25), (0, u "firstFrom"), (0, u "J"), (0, .fieldref 14 27), (0, .nameAndType 28 25), (0, u "lastFrom"), (0, .fieldref 14 30), (0, .nameAndType 31 25), (0, u "firstTo"), (0, .fieldref 14 33), (0, .nameAndType 34 25), (0, u "lastTo"), (0, .fieldref 14 36), (0, .nameAndType 37 21), (0, u "end"), (0, .fieldref 14 39), (0, .nameAndType 40 21), (0, u "start"), (0, .methodref 14 42), (0, .nameAndType 43 44), (0, u "lastRunTo"), (0, u "()J"), (0, .fieldref 14 46), (0, .nameAndType 47 25), (0, u "size"), (0, .methodref 14 49), (0, .nameAndType 50 51), (0, u "makeRoom"), (0, u "(I)V"), (0, .fieldref 14 53), (0, .nameAndType 54 25), (0, u "lastGap"), (0, .methodref 14 56), (0, .nameAndType 57 8), (0, u "writeLastRun"), (0, .methodref 14 59), (0, .nameAndType 60 8), (0, u "takeNextRun"), (0, .class_ 62), (0, u "com/example/portion/portion/server/OffsetSet$Page$Runs"), (0, .methodref 61 64), (0, .nameAndType 7 65), (0, u "(Lcom/example/portion/portion/server/OffsetSet$Page;)V"), (0, .fieldref 61 67), (0, .nameAndType 68 25), (0, u "to"), (0, .fieldref 61 70), (0, .nameAndType 71 25), (0, u "from"), (0, .fieldref 61 73), (0, .nameAndType 74 21), (0, u "at"), (0, .methodref 61 76), (0, .nameAndType 77 78), (0, u "next"), (0, u "()Z"), (0, .methodref 80 81), (0, .class_ 82), (0, .nameAndType 83 84), (0, u "java/lang/System"), (0, u "arraycopy"), (0, u "(Ljava/lang/Object;ILjava/lang/Object;II)V"), (0, .methodref 86 87), (0, .class_ 88), (0, .nameAndType 89 90), (0, u "java/lang/Math"), (0, u "min"), (0, u "(JJ)J"), (0, .methodref 86 92), (0, .nameAndType 93 90), (0, u "max"), (0, .methodref 14 95), (0, .nameAndType 96 97), (0, u "extend"), (0, u "(JJ)V"), (0, .methodref 14 99), (0, .nameAndType 100 97), (0, u "extendIfAny"), (0, .methodref 14 102), (0, .nameAndType 103 8), (0, u "trim"), (0, .methodref 14 105), (0, .nameAndType 106 8), (0, u "clear"), (9, u "removeBefore"), (0, u "(J)V"), (6, u "set"), (0, u "(JJZ)V"), (0, .methodref 14 127), (0, .nameAndType 128 51), (0, u "moveTo"), (0, .methodref 14 130), (0, .nameAndType 131 132), (0, u "withRoom"), (0, u "(I)I"), (0, .methodref 86 134), (0, .nameAndType 93 135), (0, u "(II)I"), (0, .long 16), (1, .long 8), (1, .long 63), (1, .methodref 14 143), (0, .nameAndType 144 117), (0, u "write"), (0, .long 18446744073709551488), (1, .long 127), (1, .long 128), (3, u "lastRunFrom"), (1, u "byteCount"), (0, u "()I"), (0, u "removeFirst"), (3, u "contains"), (0, u "(J)Z")] 8

def k4c0 : Code := { maxStack := 2, maxLocals := 1, code := prog_39_method_1_code, exceptionTable := #[], attributes := #[] }
def k4m0 : Method := { name := "<init>", desc := "()V", sig := { parameters := [], returnType := none }, accessFlags := 2, code := some k4c0 }
def k4c1 : Code := { maxStack := 2, maxLocals := 1, code := prog_39_method_2_code, exceptionTable := #[], attributes := #[] }
def k4m1 : Method := { name := "lastRunFrom", desc := "()J", sig := { parameters := [], returnType := some .long }, accessFlags := 0, code := some k4c1 }
def k4c2 : Code := { maxStack := 2, maxLocals := 1, code := prog_39_method_3_code, exceptionTable := #[], attributes := #[] }
def k4m2 : Method := { name := "lastRunTo", desc := "()J", sig := { parameters := [], returnType := some .long }, accessFlags := 0, code := some k4c2 }
def k4c3 : Code := { maxStack := 2, maxLocals := 1, code := prog_39_method_4_code, exceptionTable := #[], attributes := #[] }
def k4m3 : Method := { name := "byteCount", desc := "()I", sig := { parameters := [], returnType := some .int }, accessFlags := 0, code := some k4c3 }
def k4c4 : Code := { maxStack := 7, maxLocals := 7, code := prog_39_method_5_code, exceptionTable := #[], attributes := #[] }
def k4m4 : Method := { name := "extend", desc := "(JJ)V", sig := { parameters := [.long, .long], returnType := none }, accessFlags := 0, code := some k4c4 }
def k4c5 : Code := { maxStack := 5, maxLocals := 1, code := prog_39_method_6_code, exceptionTable := #[], attributes := #[] }
def k4m5 : Method := { name := "removeFirst", desc := "()V", sig := { parameters := [], returnType := none }, accessFlags := 0, code := some k4c5 }
def k4c6 : Code := { maxStack := 7, maxLocals := 3, code := prog_39_method_7_code, exceptionTable := #[], attributes := #[] }
def k4m6 : Method := { name := "removeBefore", desc := "(J)V", sig := { parameters := [.long], returnType := none }, accessFlags := 0, code := some k4c6 }
def k4c7 : Code := { maxStack := 7, maxLocals := 46, code := prog_39_method_8_code, exceptionTable := #[], attributes := #[] }
def k4m7 : Method := { name := "set", desc := "(JJZ)V", sig := { parameters := [.long, .long, .boolean], returnType := none }, accessFlags := 0, code := some k4c7 }
def k4c8 : Code := { maxStack := 5, maxLocals := 5, code := prog_39_method_9_code, exceptionTable := #[], attributes := #[] }
def k4m8 : Method := { name := "extendIfAny", desc := "(JJ)V", sig := { parameters := [.long, .long], returnType := none }, accessFlags := 2, code := some k4c8 }
def k4c9 : Code := { maxStack := 4, maxLocals := 6, code := prog_39_method_11_code, exceptionTable := #[], attributes := #[] }
def k4m9 : Method := { name := "contains", desc := "(J)Z", sig := { parameters := [.long], returnType := some .boolean }, accessFlags := 0, code := some k4c9 }
def k4c10 : Code := { maxStack := 3, maxLocals := 1, code := prog_39_method_13_code, exceptionTable := #[], attributes := #[] }
def k4m10 : Method := { name := "trim", desc := "()V", sig := { parameters := [], returnType := none }, accessFlags := 0, code := some k4c10 }
def k4c11 : Code := { maxStack := 3, maxLocals := 1, code := prog_39_method_14_code, exceptionTable := #[], attributes := #[] }
def k4m11 : Method := { name := "clear", desc := "()V", sig := { parameters := [], returnType := none }, accessFlags := 0, code := some k4c11 }
def k4c12 : Code := { maxStack := 3, maxLocals := 2, code := prog_39_method_15_code, exceptionTable := #[], attributes := #[] }
def k4m12 : Method := { name := "takeNextRun", desc := "()V", sig := { parameters := [], returnType := none }, accessFlags := 2, code := some k4c12 }
def k4c13 : Code := { maxStack := 3, maxLocals := 2, code := prog_39_method_16_code, exceptionTable := #[], attributes := #[] }
def k4m13 : Method := { name := "makeRoom", desc := "(I)V", sig := { parameters := [.int], returnType := none }, accessFlags := 2, code := some k4c13 }
def k4c14 : Code := { maxStack := 4, maxLocals := 1, code := prog_39_method_17_code, exceptionTable := #[], attributes := #[] }
def k4m14 : Method := { name := "withRoom", desc := "(I)I", sig := { parameters := [.int], returnType := some .int }, accessFlags := 10, code := some k4c14 }
def k4c15 : Code := { maxStack := 6, maxLocals := 3, code := prog_39_method_18_code, exceptionTable := #[], attributes := #[] }
def k4m15 : Method := { name := "moveTo", desc := "(I)V", sig := { parameters := [.int], returnType := none }, accessFlags := 2, code := some k4c15 }
def k4c16 : Code := { maxStack := 8, maxLocals := 8, code := prog_39_method_19_code, exceptionTable := #[], attributes := #[] }
def k4m16 : Method := { name := "writeLastRun", desc := "()V", sig := { parameters := [], returnType := none }, accessFlags := 2, code := some k4c16 }
def k4c17 : Code := { maxStack := 6, maxLocals := 5, code := prog_39_method_20_code, exceptionTable := #[], attributes := #[] }
def k4m17 : Method := { name := "write", desc := "(J)V", sig := { parameters := [.long], returnType := none }, accessFlags := 2, code := some k4c17 }
/-- com/example/portion/portion/server/OffsetSet$Page -/
def k4 : Class := { plain "com/example/portion/portion/server/OffsetSet$Page" (some 0) with
  accessFlags := 48
  interfaces := #[]
  cf := some (fileOf pool4 14 #[.nestHost 1] #[{ accessFlags := 2, nameIndex := 7, descriptorIndex := 8, attributes := #[] }, { accessFlags := 0, nameIndex := 153, descriptorIndex := 44, attributes := #[] }, { accessFlags := 0, nameIndex := 43, descriptorIndex := 44, attributes := #[] }, { accessFlags := 0, nameIndex := 155, descriptorIndex := 156, attributes := #[] }, { accessFlags := 0, nameIndex := 96, descriptorIndex := 97, attributes := #[] }, { accessFlags := 0, nameIndex := 157, descriptorIndex := 8, attributes := #[] }, { accessFlags := 0, nameIndex := 116, descriptorIndex := 117, attributes := #[] }, { accessFlags := 0, nameIndex := 124, descriptorIndex := 125, attributes := #[] }, { accessFlags := 2, nameIndex := 100, descriptorIndex := 97, attributes := #[] }, { accessFlags := 0, nameIndex := 161, descriptorIndex := 162, attributes := #[] }, { accessFlags := 0, nameIndex := 103, descriptorIndex := 8, attributes := #[] }, { accessFlags := 0, nameIndex := 106, descriptorIndex := 8, attributes := #[] }, { accessFlags := 2, nameIndex := 60, descriptorIndex := 8, attributes := #[] }, { accessFlags := 2, nameIndex := 50, descriptorIndex := 51, attributes := #[] }, { accessFlags := 10, nameIndex := 131, descriptorIndex := 132, attributes := #[] }, { accessFlags := 2, nameIndex := 128, descriptorIndex := 51, attributes := #[] }, { accessFlags := 2, nameIndex := 57, descriptorIndex := 8, attributes := #[] }, { accessFlags := 2, nameIndex := 144, descriptorIndex := 117, attributes := #[] }] 48 4 #[] #[{ accessFlags := 2, nameIndex := 47, descriptorIndex := 25, attributes := #[] }, { accessFlags := 2, nameIndex := 24, descriptorIndex := 25, attributes := #[] }, { accessFlags := 2, nameIndex := 31, descriptorIndex := 25, attributes := #[] }, { accessFlags := 2, nameIndex := 17, descriptorIndex := 12, attributes := #[] }, { accessFlags := 2, nameIndex := 40, descriptorIndex := 21, attributes := #[] }, { accessFlags := 2, nameIndex := 37, descriptorIndex := 21, attributes := #[] }, { accessFlags := 2, nameIndex := 20, descriptorIndex := 21, attributes := #[] }, { accessFlags := 2, nameIndex := 54, descriptorIndex := 25, attributes := #[] }, { accessFlags := 2, nameIndex := 28, descriptorIndex := 25, attributes := #[] }, { accessFlags := 2, nameIndex := 34, descriptorIndex := 25, attributes := #[] }])
  fields := #[{ name := "size", type := .long, accessFlags := 2, slot := 0, constantValue := 0 }, { name := "firstFrom", type := .long, accessFlags := 2, slot := 1, constantValue := 0 }, { name := "firstTo", type := .long, accessFlags := 2, slot := 2, constantValue := 0 }, { name := "bytes", type := (.array .byte), accessFlags := 2, slot := 3, constantValue := 0 }, { name := "start", type := .int, accessFlags := 2, slot := 4, constantValue := 0 }, { name := "end", type := .int, accessFlags := 2, slot := 5, constantValue := 0 }, { name := "lastAt", type := .int, accessFlags := 2, slot := 6, constantValue := 0 }, { name := "lastGap", type := .long, accessFlags := 2, slot := 7, constantValue := 0 }, { name := "lastFrom", type := .long, accessFlags := 2, slot := 8, constantValue := 0 }, { name := "lastTo", type := .long, accessFlags := 2, slot := 9, constantValue := 0 }]
  methods := #[k4m0, k4m1, k4m2, k4m3, k4m4, k4m5, k4m6, k4m7, k4m8, k4m9, k4m10, k4m11, k4m12, k4m13, k4m14, k4m15, k4m16, k4m17]
  instanceTypes := #[.long, .long, .long, (.array .byte), .int, .int, .int, .long, .long, .long]
  staticTypes := #[]
  resolved := Array.replicate 171 none
  statics := none }

def pool5 : Array CpInfo := pool [(2, .class_ 4), (1, u "java/lang/Object"), (0, u "<init>"), (0, u "()V"), (1, .class_ 10), (1, u "java/lang/System"), (0, u "allowSecurityManager"), (0, u "I"), (16, u "cons"), (0, u "Ljava/io/Console;"), (77, .class_ 110), (1, u "java/lang/System$CallersHolder"), (43, u "initialErrStream"), (0, u "Ljava/io/PrintStream;"), (19, u "security"), (0, u "Ljava/lang/SecurityManager;"), (31, .class_ 209), (0, u "java/lang/System$1"), (7, u "props"), (0, u "Ljava/util/Properties;"), (2, u "lineSeparator"), (0, u "Ljava/lang/String;"), (96, .class_ 321), (1, u "java/lang/System$LoggerFinder"), (5, .class_ 328), (0, u "java/lang/System$Logger"), (67, u "err"), (2, u "out"), (91, u "notSupportedJnuEncoding"), (15, u "in"), (17, u "initialIn"), (0, u "Ljava/io/InputStream;"), (35, u "bootLayer"), (0, u "Ljava/lang/ModuleLayer;"), (99, .class_ 664), (0, u "java/lang/System$2"), (9, u "NEVER"), (2, u "MAYBE"), (49, u "arraycopy"), (0, u "(Ljava/lang/Object;ILjava/lang/Object;II)V"), (72, .class_ 802), (0, u "java/lang/System$Logger$Level")] 31

def k5m0 : Method := { name := "<init>", desc := "()V", sig := { parameters := [], returnType := none }, accessFlags := 2, code := none }
def k5m1 : Method := { name := "arraycopy", desc := "(Ljava/lang/Object;ILjava/lang/Object;II)V", sig := { parameters := [(.object "java/lang/Object"), .int, (.object "java/lang/Object"), .int, .int], returnType := none }, accessFlags := 265, code := none }
/-- java/lang/System -/
def k5 : Class := { plain "java/lang/System" (some 0) with
  accessFlags := 49
  interfaces := #[]
  cf := some (fileOf pool5 8 #[.nestMembers #[319, 327, 801, 108, 663, 208]] #[{ accessFlags := 2, nameIndex := 5, descriptorIndex := 6, attributes := #[] }, { accessFlags := 265, nameIndex := 727, descriptorIndex := 728, attributes := #[] }] 49 2 #[] #[{ accessFlags := 25, nameIndex := 507, descriptorIndex := 526, attributes := #[] }, { accessFlags := 25, nameIndex := 399, descriptorIndex := 155, attributes := #[] }, { accessFlags := 25, nameIndex := 396, descriptorIndex := 155, attributes := #[] }, { accessFlags := 10, nameIndex := 525, descriptorIndex := 526, attributes := #[] }, { accessFlags := 26, nameIndex := 674, descriptorIndex := 12, attributes := #[] }, { accessFlags := 26, nameIndex := 677, descriptorIndex := 12, attributes := #[] }, { accessFlags := 10, nameIndex := 11, descriptorIndex := 12, attributes := #[] }, { accessFlags := 74, nameIndex := 175, descriptorIndex := 176, attributes := #[] }, { accessFlags := 10, nameIndex := 491, descriptorIndex := 222, attributes := #[] }, { accessFlags := 74, nameIndex := 29, descriptorIndex := 30, attributes := #[] }, { accessFlags := 74, nameIndex := 154, descriptorIndex := 155, attributes := #[] }, { accessFlags := 10, nameIndex := 217, descriptorIndex := 218, attributes := #[] }, { accessFlags := 10, nameIndex := 221, descriptorIndex := 222, attributes := #[] }, { accessFlags := 8, nameIndex := 562, descriptorIndex := 563, attributes := #[] }])
  fields := #[{ name := "in", type := (.object "java/io/InputStream"), accessFlags := 25, slot := 0, constantValue := 0 }, { name := "out", type := (.object "java/io/PrintStream"), accessFlags := 25, slot := 1, constantValue := 0 }, { name := "err", type := (.object "java/io/PrintStream"), accessFlags := 25, slot := 2, constantValue := 0 }, { name := "initialIn", type := (.object "java/io/InputStream"), accessFlags := 10, slot := 3, constantValue := 0 }, { name := "NEVER", type := .int, accessFlags := 26, slot := 4, constantValue := 0 }, { name := "MAYBE", type := .int, accessFlags := 26, slot := 5, constantValue := 0 }, { name := "allowSecurityManager", type := .int, accessFlags := 10, slot := 6, constantValue := 0 }, { name := "security", type := (.object "java/lang/SecurityManager"), accessFlags := 74, slot := 7, constantValue := 0 }, { name := "notSupportedJnuEncoding", type := (.object "java/lang/String"), accessFlags := 10, slot := 8, constantValue := 0 }, { name := "cons", type := (.object "java/io/Console"), accessFlags := 74, slot := 9, constantValue := 0 }, { name := "initialErrStream", type := (.object "java/io/PrintStream"), accessFlags := 74, slot := 10, constantValue := 0 }, { name := "props", type := (.object "java/util/Properties"), accessFlags := 10, slot := 11, constantValue := 0 }, { name := "lineSeparator", type := (.object "java/lang/String"), accessFlags := 10, slot := 12, constantValue := 0 }, { name := "bootLayer", type := (.object "java/lang/ModuleLayer"), accessFlags := 8, slot := 13, constantValue := 0 }]
  methods := #[k5m0, k5m1]
  instanceTypes := #[]
  staticTypes := #[(.object "java/io/InputStream"), (.object "java/io/PrintStream"), (.object "java/io/PrintStream"), (.object "java/io/InputStream"), .int, .int, .int, (.object "java/lang/SecurityManager"), (.object "java/lang/String"), (.object "java/io/Console"), (.object "java/io/PrintStream"), (.object "java/util/Properties"), (.object "java/lang/String"), (.object "java/lang/ModuleLayer")]
  resolved := Array.replicate 834 none
  statics := none }

def pool6 : Array CpInfo := pool [(1, .fieldref 2 3), (0, .class_ 4), (0, .nameAndType 5 6), (0, u "com/example/portion/portion/server/OffsetSet$Page$Runs"), (0, u "this$0"), (0, u "Lcom/example/portion/portion/server/OffsetSet$Page;"), (0, .methodref 8 9), (0, .class_ 10), (0, .nameAndType 11 12), (0, u "java/lang/Object"), (0, u "<init>"), (0, u "()V"), (0, .fieldref 14 15), (0, .class_ 16), (0, .nameAndType 17 18), (0, u "com/example/portion/portion/server/OffsetSet$Page"), (0, u "firstFrom"), (0, u "J"), (0, .fieldref 2 20), (0, .nameAndType 21 18), (0, u "from"), (0, .fieldref 14 23), (0, .nameAndType 24 18), (0, u "firstTo"), (0, .fieldref 2 26), (0, .nameAndType 27 18), (0, u "to"), (0, .fieldref 14 29), (0, .nameAndType 30 31), (0, u "start"), (0, u "I"), (0, .fieldref 2 33), (0, .nameAndType 34 31), (0, u "at"), (0, .fieldref 14 36), (0, .nameAndType 37 31), (0, u "end"), (0, .fieldref 14 39), (0, .nameAndType 40 41), (0, u "bytes"), (0, u "[B"), (0, .methodref 2 43), (0, .nameAndType 44 45), (0, u "read"), (0, u "()J"), (0, u "(Lcom/example/portion/portion/server/OffsetSet$Page;)V"), (3, u "next"), (0, u "()Z"), (4, .class_ 57), (0, u "com/example/portion/portion/server/OffsetSet")] 3

def k6c0 : Code := { maxStack := 3, maxLocals := 2, code := prog_40_method_1_code, exceptionTable := #[], attributes := #[] }
def k6m0 : Method := { name := "<init>", desc := "(Lcom/example/portion/portion/server/OffsetSet$Page;)V", sig := { parameters := [(.object "com/example/portion/portion/server/OffsetSet$Page")], returnType := none }, accessFlags := 2, code := some k6c0 }
def k6c1 : Code := { maxStack := 5, maxLocals := 9, code := prog_40_method_2_code, exceptionTable := #[], attributes := #[] }
def k6m1 : Method := { name := "next", desc := "()Z", sig := { parameters := [], returnType := some .boolean }, accessFlags := 0, code := some k6c1 }
def k6c2 : Code := { maxStack := 5, maxLocals := 5, code := prog_40_method_3_code, exceptionTable := #[], attributes := #[] }
def k6m2 : Method := { name := "read", desc := "()J", sig := { parameters := [], returnType := some .long }, accessFlags := 2, code := some k6c2 }
/-- com/example/portion/portion/server/OffsetSet$Page$Runs -/
def k6 : Class := { plain "com/example/portion/portion/server/OffsetSet$Page$Runs" (some 0) with
  accessFlags := 48
  interfaces := #[]
  cf := some (fileOf pool6 2 #[.nestHost 56] #[{ accessFlags := 2, nameIndex := 11, descriptorIndex := 46, attributes := #[] }, { accessFlags := 0, nameIndex := 50, descriptorIndex := 51, attributes := #[] }, { accessFlags := 2, nameIndex := 44, descriptorIndex := 45, attributes := #[] }] 48 8 #[] #[{ accessFlags := 2, nameIndex := 21, descriptorIndex := 18, attributes := #[] }, { accessFlags := 2, nameIndex := 27, descriptorIndex := 18, attributes := #[] }, { accessFlags := 2, nameIndex := 34, descriptorIndex := 31, attributes := #[] }, { accessFlags := 4112, nameIndex := 5, descriptorIndex := 6, attributes := #[] }])
  fields := #[{ name := "from", type := .long, accessFlags := 2, slot := 0, constantValue := 0 }, { name := "to", type := .long, accessFlags := 2, slot := 1, constantValue := 0 }, { name := "at", type := .int, accessFlags := 2, slot := 2, constantValue := 0 }, { name := "this$0", type := (.object "com/example/portion/portion/server/OffsetSet$Page"), accessFlags := 4112, slot := 3, constantValue := 0 }]
  methods := #[k6m0, k6m1, k6m2]
  instanceTypes := #[.long, .long, .int, (.object "com/example/portion/portion/server/OffsetSet$Page")]
  staticTypes := #[]
  resolved := Array.replicate 61 none
  statics := none }

def pool7 : Array CpInfo := pool [(1, u "java/lang/Cloneable"), (0, .class_ 1), (0, u "java/lang/Object"), (0, .class_ 3)] 3

/-- java/lang/Cloneable -/
def k7 : Class := { plain "java/lang/Cloneable" (some 0) with
  accessFlags := 1537
  interfaces := #[]
  cf := some (fileOf pool7 2 #[] #[] 1537 4 #[] #[])
  fields := #[]
  methods := #[]
  instanceTypes := #[]
  staticTypes := #[]
  resolved := Array.replicate 8 none
  statics := none }

def pool8 : Array CpInfo := pool [(1, u "java/io/Serializable"), (0, .class_ 1), (0, u "java/lang/Object"), (0, .class_ 3)] 3

/-- java/io/Serializable -/
def k8 : Class := { plain "java/io/Serializable" (some 0) with
  accessFlags := 1537
  interfaces := #[]
  cf := some (fileOf pool8 2 #[] #[] 1537 4 #[] #[])
  fields := #[]
  methods := #[]
  instanceTypes := #[]
  staticTypes := #[]
  resolved := Array.replicate 8 none
  statics := none }

/-- the primitive byte -/
def k9 : Class := { plain "byte" none with kind := .primitive 'B', accessFlags := 0x411 }
/-- [B -/
def k10 : Class := { plain "[B" (some 0) with kind := .array 9 .byte, interfaces := #[7, 8], accessFlags := 1041 }

/-- the primitive int -/
def k11 : Class := { plain "int" none with kind := .primitive 'I', accessFlags := 0x411 }
/-- [I -/
def k12 : Class := { plain "[I" (some 0) with kind := .array 11 .int, interfaces := #[7, 8], accessFlags := 1041 }

/-- [Lcom/example/portion/portion/server/OffsetSet$Page; -/
def k13 : Class := { plain "[Lcom/example/portion/portion/server/OffsetSet$Page;" (some 0) with kind := .array 4 (.object "com/example/portion/portion/server/OffsetSet$Page"), interfaces := #[7, 8], accessFlags := 1041 }

def heap : Heap := #[{ cls := 2, slots := #[.ref 2, .ref 1, .int 0, .int 0, .int 0, .int 0, .int 0], vm := .statics 2 },
  { cls := 13, slots := #[], vm := .none },
  { cls := 10, slots := #[], vm := .none }]
def classes : Array Class := #[k0, k1, k2, k3, k4, k5, k6, k7, k8, k9, k10, k11, k12, k13]
def interned : List (Array UInt16 × Addr) := []
def slotsUsed : Nat := 7
def theMethod : MethodId := ⟨1, 1⟩
def args0 : Array Value := #[.long 5, .long 5, .long 5, .int 5, .int 5]
def aboutOver (below : List Frame) : State where
  vm := { classes := classes, interned := interned.toArray }
  heap := heap
  slotsUsed := slotsUsed
  threads := #[{ frames := .invoking theMethod args0 :: below }]
def below0 : List Frame := [.native { method := ⟨0, 0⟩, args := #[] }]
def about1 : State := aboutOver below0
def p0 : Program := .bare "" "" ""
def e0 : Env := launch0.env 0 0 0
theorem w_frames : about1.frames = Frame.invoking theMethod args0 :: below0 := rfl
set_option maxRecDepth 65536 in
theorem w_args : argsFit about1.vm theMethod args0 = true := by decide +kernel
set_option maxRecDepth 65536 in
theorem w_heap : heapFits about1 = true := by decide +kernel
set_option maxRecDepth 65536 in
theorem w_runnable : about1.curStatus? = some .runnable := by decide +kernel
set_option maxRecDepth 65536 in
theorem w_alone : about1.alone = true := by decide +kernel
set_option maxRecDepth 65536 in
theorem w_named : about1.methodNamed? x = some theMethod := by decide +kernel
set_option maxRecDepth 65536 in
theorem w_hears : about1.hears theMethod below0 = true := by decide +kernel
set_option maxRecDepth 65536 in
theorem w_ripe : about1.ripe theMethod args0 below0 = true := by decide +kernel
theorem w_running : about1.status = .running := rfl
set_option maxRecDepth 65536 in
theorem w_room : about1.hasRoom e0.platform room_1 = true :=
  launch0.hasRoom_least _ room_1 (by decide +kernel) (by decide +kernel) (by decide +kernel) (by decide +kernel) (by decide +kernel) (by decide +kernel)
theorem allAtoms_all (ts : List Jvm.Cond) (a : Array Jvm.Value) (st : Jvm.State) : (allAtoms ts).before a st = ts.all (fun c => c.before a st) := by
  induction ts with
  | nil => rfl
  | cons c t ih =>
    show (Jvm.Cond.and c (allAtoms t)).before a st = _
    rw [Jvm.Cond.before_and, ih, List.all_cons]
def words1 : List Jvm.Cond := Jvm.Cond.code x code maxLocals ret :: tables_1
/-- a 'code' word, met by the world's own term for the bytes: nothing is compared byte by byte -/
theorem code_word {y : MethodName} {bytes : ByteArray} {mx : Nat} {rt : Option FieldType} {a : Array Value} {s : State} {m : MethodId} {meth : Method} {c : Code} (h1 : s.methodNamed? y = some m) (h2 : s.vm.method? m = some meth) (h3 : meth.code = some c) (h4 : c.code = bytes)
    (h5 : (c.maxLocals == mx && c.exceptionTable.isEmpty && decide (c.maxStack ≤ mostOperands) && decide (meth.sig.returnType = rt) && !meth.locks && decide (parseMethodDescriptor y.desc = some meth.sig)) = true) : (Jvm.Cond.code y bytes mx rt).before a s = true := by
  simp only [Bool.and_eq_true, beq_iff_eq, Bool.not_eq_true', decide_eq_true_eq] at h5
  obtain ⟨⟨⟨⟨⟨g1, g2⟩, g3⟩, g4⟩, g5⟩, g6⟩ := h5
  simp [Cond.before, Cond.holds, Cond.value, h1, h2, h3, h4, g1, g2, g3, g4, g5, g6]
def isCode : Jvm.Cond → Bool
  | .code _ _ _ _ => true
  | _ => false
theorem all_split {L : List Jvm.Cond} {P : Jvm.Cond → Bool} (h1 : L.all (fun c => isCode c || P c) = true) (h2 : ∀ c ∈ L.filter isCode, P c = true) : L.all P = true := by
  refine List.all_eq_true.mpr fun c hc => ?_
  have h := List.all_eq_true.mp h1 c hc
  rcases Bool.eq_false_or_eq_true (isCode c) with hi | hi
  · exact h2 c (List.mem_filter.mpr ⟨hc, hi⟩)
  · simpa [hi] using h
set_option maxRecDepth 65536 in
theorem w_c0 : (Jvm.Cond.code x code maxLocals ret).before args0 about1 = true := code_word (m := ⟨1, 1⟩) (meth := k1m1) (c := k1c1) (by decide +kernel) rfl rfl rfl (by decide +kernel)
set_option maxRecDepth 65536 in
theorem w_c1 : (Jvm.Cond.code ({ cls := "com/example/portion/portion/server/OffsetSet", name := "<init>", desc := "(I)V" } : Jvm.MethodName) prog_38_method_2_code (2 : Nat) (Option.none : Option Jvm.ClassFile.FieldType)).before args0 about1 = true := code_word (m := ⟨2, 1⟩) (meth := k2m1) (c := k2c1) (by decide +kernel) rfl rfl rfl (by decide +kernel)
set_option maxRecDepth 65536 in
theorem w_c2 : (Jvm.Cond.code ({ cls := "java/lang/Object", name := "<init>", desc := "()V" } : Jvm.MethodName) object_method_1_code (1 : Nat) (Option.none : Option Jvm.ClassFile.FieldType)).before args0 about1 = true := code_word (m := ⟨0, 0⟩) (meth := k0m0) (c := k0c0) (by decide +kernel) rfl rfl rfl (by decide +kernel)
set_option maxRecDepth 65536 in
theorem w_c3 : (Jvm.Cond.code ({ cls := "com/example/portion/portion/server/OffsetSet", name := "isEmpty", desc := "()Z" } : Jvm.MethodName) prog_38_method_3_code (1 : Nat) (Option.some Jvm.ClassFile.FieldType.boolean)).before args0 about1 = true := code_word (m := ⟨2, 2⟩) (meth := k2m2) (c := k2c2) (by decide +kernel) rfl rfl rfl (by decide +kernel)
set_option maxRecDepth 65536 in
theorem w_c4 : (Jvm.Cond.code ({ cls := "com/example/portion/portion/server/OffsetSet", name := "add", desc := "(J)V" } : Jvm.MethodName) prog_38_method_8_code (3 : Nat) (Option.none : Option Jvm.ClassFile.FieldType)).before args0 about1 = true := code_word (m := ⟨2, 6⟩) (meth := k2m6) (c := k2c6) (by decide +kernel) rfl rfl rfl (by decide +kernel)
set_option maxRecDepth 65536 in
theorem w_c5 : (Jvm.Cond.code ({ cls := "com/example/portion/portion/server/OffsetSet", name := "addRange", desc := "(JJ)V" } : Jvm.MethodName) prog_38_method_9_code (8 : Nat) (Option.none : Option Jvm.ClassFile.FieldType)).before args0 about1 = true := code_word (m := ⟨2, 7⟩) (meth := k2m7) (c := k2c7) (by decide +kernel) rfl rfl rfl (by decide +kernel)
set_option maxRecDepth 65536 in
theorem w_c6 : (Jvm.Cond.code ({ cls := "com/example/portion/portion/server/OffsetSet", name := "requireRange", desc := "(JJ)V" } : Jvm.MethodName) prog_38_method_16_code (4 : Nat) (Option.none : Option Jvm.ClassFile.FieldType)).before args0 about1 = true := code_word (m := ⟨2, 11⟩) (meth := k2m11) (c := k2c11) (by decide +kernel) rfl rfl rfl (by decide +kernel)
set_option maxRecDepth 65536 in
theorem w_c7 : (Jvm.Cond.code ({ cls := "com/example/portion/portion/server/OffsetSet", name := "pageAt", desc := "(J)I" } : Jvm.MethodName) prog_38_method_18_code (6 : Nat) (Option.some Jvm.ClassFile.FieldType.int)).before args0 about1 = true := code_word (m := ⟨2, 12⟩) (meth := k2m12) (c := k2c12) (by decide +kernel) rfl rfl rfl (by decide +kernel)
set_option maxRecDepth 65536 in
theorem w_c8 : (Jvm.Cond.code ({ cls := "java/lang/Math", name := "max", desc := "(II)I" } : Jvm.MethodName) jdk_29_method_65_code (2 : Nat) (Option.some Jvm.ClassFile.FieldType.int)).before args0 about1 = true := code_word (m := ⟨3, 1⟩) (meth := k3m1) (c := k3c1) (by decide +kernel) rfl rfl rfl (by decide +kernel)
set_option maxRecDepth 65536 in
theorem w_c9 : (Jvm.Cond.code ({ cls := "com/example/portion/portion/server/OffsetSet", name := "append", desc := "(JJ)V" } : Jvm.MethodName) prog_38_method_19_code (5 : Nat) (Option.none : Option Jvm.ClassFile.FieldType)).before args0 about1 = true := code_word (m := ⟨2, 13⟩) (meth := k2m13) (c := k2c13) (by decide +kernel) rfl rfl rfl (by decide +kernel)
set_option maxRecDepth 65536 in
theorem w_c10 : (Jvm.Cond.code ({ cls := "com/example/portion/portion/server/OffsetSet", name := "appendTo", desc := "(IJJ)V" } : Jvm.MethodName) prog_38_method_20_code (9 : Nat) (Option.none : Option Jvm.ClassFile.FieldType)).before args0 about1 = true := code_word (m := ⟨2, 14⟩) (meth := k2m14) (c := k2c14) (by decide +kernel) rfl rfl rfl (by decide +kernel)
set_option maxRecDepth 65536 in
theorem w_c11 : (Jvm.Cond.code ({ cls := "com/example/portion/portion/server/OffsetSet$Page", name := "<init>", desc := "()V" } : Jvm.MethodName) prog_39_method_1_code (1 : Nat) (Option.none : Option Jvm.ClassFile.FieldType)).before args0 about1 = true := code_word (m := ⟨4, 0⟩) (meth := k4m0) (c := k4c0) (by decide +kernel) rfl rfl rfl (by decide +kernel)
set_option maxRecDepth 65536 in
theorem w_c12 : (Jvm.Cond.code ({ cls := "com/example/portion/portion/server/OffsetSet", name := "replacePages", desc := "(II[Lcom/example/portion/portion/server/OffsetSet$Page;I)V" } : Jvm.MethodName) prog_38_method_24_code (7 : Nat) (Option.none : Option Jvm.ClassFile.FieldType)).before args0 about1 = true := code_word (m := ⟨2, 16⟩) (meth := k2m16) (c := k2c16) (by decide +kernel) rfl rfl rfl (by decide +kernel)
set_option maxRecDepth 65536 in
theorem w_c13 : (Jvm.Cond.code ({ cls := "com/example/portion/portion/server/OffsetSet$Page", name := "extend", desc := "(JJ)V" } : Jvm.MethodName) prog_39_method_5_code (7 : Nat) (Option.none : Option Jvm.ClassFile.FieldType)).before args0 about1 = true := code_word (m := ⟨4, 4⟩) (meth := k4m4) (c := k4c4) (by decide +kernel) rfl rfl rfl (by decide +kernel)
set_option maxRecDepth 65536 in
theorem w_c14 : (Jvm.Cond.code ({ cls := "com/example/portion/portion/server/OffsetSet$Page", name := "lastRunTo", desc := "()J" } : Jvm.MethodName) prog_39_method_3_code (1 : Nat) (Option.some Jvm.ClassFile.FieldType.long)).before args0 about1 = true := code_word (m := ⟨4, 2⟩) (meth := k4m2) (c := k4c2) (by decide +kernel) rfl rfl rfl (by decide +kernel)
set_option maxRecDepth 65536 in
theorem w_c15 : (Jvm.Cond.code ({ cls := "com/example/portion/portion/server/OffsetSet", name := "removeFirst", desc := "()J" } : Jvm.MethodName) prog_38_method_6_code (3 : Nat) (Option.some Jvm.ClassFile.FieldType.long)).before args0 about1 = true := code_word (m := ⟨2, 4⟩) (meth := k2m4) (c := k2c4) (by decide +kernel) rfl rfl rfl (by decide +kernel)
set_option maxRecDepth 65536 in
theorem w_c16 : (Jvm.Cond.code ({ cls := "com/example/portion/portion/server/OffsetSet", name := "first", desc := "()J" } : Jvm.MethodName) prog_38_method_5_code (1 : Nat) (Option.some Jvm.ClassFile.FieldType.long)).before args0 about1 = true := code_word (m := ⟨2, 3⟩) (meth := k2m3) (c := k2c3) (by decide +kernel) rfl rfl rfl (by decide +kernel)
set_option maxRecDepth 65536 in
theorem w_c17 : (Jvm.Cond.code ({ cls := "com/example/portion/portion/server/OffsetSet$Page", name := "removeFirst", desc := "()V" } : Jvm.MethodName) prog_39_method_6_code (1 : Nat) (Option.none : Option Jvm.ClassFile.FieldType)).before args0 about1 = true := code_word (m := ⟨4, 5⟩) (meth := k4m5) (c := k4c5) (by decide +kernel) rfl rfl rfl (by decide +kernel)
set_option maxRecDepth 65536 in
theorem w_c18 : (Jvm.Cond.code ({ cls := "com/example/portion/portion/server/OffsetSet$Page", name := "takeNextRun", desc := "()V" } : Jvm.MethodName) prog_39_method_15_code (2 : Nat) (Option.none : Option Jvm.ClassFile.FieldType)).before args0 about1 = true := code_word (m := ⟨4, 12⟩) (meth := k4m12) (c := k4c12) (by decide +kernel) rfl rfl rfl (by decide +kernel)
set_option maxRecDepth 65536 in
theorem w_c19 : (Jvm.Cond.code ({ cls := "com/example/portion/portion/server/OffsetSet$Page$Runs", name := "<init>", desc := "(Lcom/example/portion/portion/server/OffsetSet$Page;)V" } : Jvm.MethodName) prog_40_method_1_code (2 : Nat) (Option.none : Option Jvm.ClassFile.FieldType)).before args0 about1 = true := code_word (m := ⟨6, 0⟩) (meth := k6m0) (c := k6c0) (by decide +kernel) rfl rfl rfl (by decide +kernel)
set_option maxRecDepth 65536 in
theorem w_c20 : (Jvm.Cond.code ({ cls := "com/example/portion/portion/server/OffsetSet$Page$Runs", name := "next", desc := "()Z" } : Jvm.MethodName) prog_40_method_2_code (9 : Nat) (Option.some Jvm.ClassFile.FieldType.boolean)).before args0 about1 = true := code_word (m := ⟨6, 1⟩) (meth := k6m1) (c := k6c1) (by decide +kernel) rfl rfl rfl (by decide +kernel)
set_option maxRecDepth 65536 in
theorem w_c21 : (Jvm.Cond.code ({ cls := "com/example/portion/portion/server/OffsetSet$Page", name := "clear", desc := "()V" } : Jvm.MethodName) prog_39_method_14_code (1 : Nat) (Option.none : Option Jvm.ClassFile.FieldType)).before args0 about1 = true := code_word (m := ⟨4, 11⟩) (meth := k4m11) (c := k4c11) (by decide +kernel) rfl rfl rfl (by decide +kernel)
set_option maxRecDepth 65536 in
theorem w_c22 : (Jvm.Cond.code ({ cls := "com/example/portion/portion/server/OffsetSet$Page", name := "lastRunFrom", desc := "()J" } : Jvm.MethodName) prog_39_method_2_code (1 : Nat) (Option.some Jvm.ClassFile.FieldType.long)).before args0 about1 = true := code_word (m := ⟨4, 1⟩) (meth := k4m1) (c := k4c1) (by decide +kernel) rfl rfl rfl (by decide +kernel)
set_option maxRecDepth 65536 in
theorem w_c23 : (Jvm.Cond.code ({ cls := "com/example/portion/portion/server/OffsetSet$Page", name := "byteCount", desc := "()I" } : Jvm.MethodName) prog_39_method_4_code (1 : Nat) (Option.some Jvm.ClassFile.FieldType.int)).before args0 about1 = true := code_word (m := ⟨4, 3⟩) (meth := k4m3) (c := k4c3) (by decide +kernel) rfl rfl rfl (by decide +kernel)
set_option maxRecDepth 65536 in
theorem w_c24 : (Jvm.Cond.code ({ cls := "com/example/portion/portion/server/OffsetSet$Page", name := "makeRoom", desc := "(I)V" } : Jvm.MethodName) prog_39_method_16_code (2 : Nat) (Option.none : Option Jvm.ClassFile.FieldType)).before args0 about1 = true := code_word (m := ⟨4, 13⟩) (meth := k4m13) (c := k4c13) (by decide +kernel) rfl rfl rfl (by decide +kernel)
set_option maxRecDepth 65536 in
theorem w_c25 : (Jvm.Cond.code ({ cls := "com/example/portion/portion/server/OffsetSet$Page", name := "withRoom", desc := "(I)I" } : Jvm.MethodName) prog_39_method_17_code (1 : Nat) (Option.some Jvm.ClassFile.FieldType.int)).before args0 about1 = true := code_word (m := ⟨4, 14⟩) (meth := k4m14) (c := k4c14) (by decide +kernel) rfl rfl rfl (by decide +kernel)
set_option maxRecDepth 65536 in
theorem w_c26 : (Jvm.Cond.code ({ cls := "com/example/portion/portion/server/OffsetSet$Page", name := "moveTo", desc := "(I)V" } : Jvm.MethodName) prog_39_method_18_code (3 : Nat) (Option.none : Option Jvm.ClassFile.FieldType)).before args0 about1 = true := code_word (m := ⟨4, 15⟩) (meth := k4m15) (c := k4c15) (by decide +kernel) rfl rfl rfl (by decide +kernel)
set_option maxRecDepth 65536 in
theorem w_c27 : (Jvm.Cond.code ({ cls := "com/example/portion/portion/server/OffsetSet$Page", name := "writeLastRun", desc := "()V" } : Jvm.MethodName) prog_39_method_19_code (8 : Nat) (Option.none : Option Jvm.ClassFile.FieldType)).before args0 about1 = true := code_word (m := ⟨4, 16⟩) (meth := k4m16) (c := k4c16) (by decide +kernel) rfl rfl rfl (by decide +kernel)
set_option maxRecDepth 65536 in
theorem w_c28 : (Jvm.Cond.code ({ cls := "com/example/portion/portion/server/OffsetSet$Page", name := "write", desc := "(J)V" } : Jvm.MethodName) prog_39_method_20_code (5 : Nat) (Option.none : Option Jvm.ClassFile.FieldType)).before args0 about1 = true := code_word (m := ⟨4, 17⟩) (meth := k4m17) (c := k4c17) (by decide +kernel) rfl rfl rfl (by decide +kernel)
set_option maxRecDepth 65536 in
theorem w_c29 : (Jvm.Cond.code ({ cls := "com/example/portion/portion/server/OffsetSet", name := "removeBefore", desc := "(J)Z" } : Jvm.MethodName) prog_38_method_12_code (7 : Nat) (Option.some Jvm.ClassFile.FieldType.boolean)).before args0 about1 = true := code_word (m := ⟨2, 9⟩) (meth := k2m9) (c := k2c9) (by decide +kernel) rfl rfl rfl (by decide +kernel)
set_option maxRecDepth 65536 in
theorem w_c30 : (Jvm.Cond.code ({ cls := "com/example/portion/portion/server/OffsetSet$Page", name := "removeBefore", desc := "(J)V" } : Jvm.MethodName) prog_39_method_7_code (3 : Nat) (Option.none : Option Jvm.ClassFile.FieldType)).before args0 about1 = true := code_word (m := ⟨4, 6⟩) (meth := k4m6) (c := k4c6) (by decide +kernel) rfl rfl rfl (by decide +kernel)
set_option maxRecDepth 65536 in
theorem w_c31 : (Jvm.Cond.code ({ cls := "com/example/portion/portion/server/OffsetSet", name := "edit", desc := "(IJJZ)V" } : Jvm.MethodName) prog_38_method_21_code (12 : Nat) (Option.none : Option Jvm.ClassFile.FieldType)).before args0 about1 = true := code_word (m := ⟨2, 15⟩) (meth := k2m15) (c := k2c15) (by decide +kernel) rfl rfl rfl (by decide +kernel)
set_option maxRecDepth 65536 in
theorem w_c32 : (Jvm.Cond.code ({ cls := "com/example/portion/portion/server/OffsetSet$Page", name := "set", desc := "(JJZ)V" } : Jvm.MethodName) prog_39_method_8_code (46 : Nat) (Option.none : Option Jvm.ClassFile.FieldType)).before args0 about1 = true := code_word (m := ⟨4, 7⟩) (meth := k4m7) (c := k4c7) (by decide +kernel) rfl rfl rfl (by decide +kernel)
set_option maxRecDepth 65536 in
theorem w_c33 : (Jvm.Cond.code ({ cls := "java/lang/Math", name := "min", desc := "(JJ)J" } : Jvm.MethodName) jdk_29_method_70_code (4 : Nat) (Option.some Jvm.ClassFile.FieldType.long)).before args0 about1 = true := code_word (m := ⟨3, 3⟩) (meth := k3m3) (c := k3c3) (by decide +kernel) rfl rfl rfl (by decide +kernel)
set_option maxRecDepth 65536 in
theorem w_c34 : (Jvm.Cond.code ({ cls := "java/lang/Math", name := "max", desc := "(JJ)J" } : Jvm.MethodName) jdk_29_method_66_code (4 : Nat) (Option.some Jvm.ClassFile.FieldType.long)).before args0 about1 = true := code_word (m := ⟨3, 2⟩) (meth := k3m2) (c := k3c2) (by decide +kernel) rfl rfl rfl (by decide +kernel)
set_option maxRecDepth 65536 in
theorem w_c35 : (Jvm.Cond.code ({ cls := "com/example/portion/portion/server/OffsetSet$Page", name := "trim", desc := "()V" } : Jvm.MethodName) prog_39_method_13_code (1 : Nat) (Option.none : Option Jvm.ClassFile.FieldType)).before args0 about1 = true := code_word (m := ⟨4, 10⟩) (meth := k4m10) (c := k4c10) (by decide +kernel) rfl rfl rfl (by decide +kernel)
set_option maxRecDepth 65536 in
theorem w_c36 : (Jvm.Cond.code ({ cls := "com/example/portion/portion/server/OffsetSet", name := "clear", desc := "()V" } : Jvm.MethodName) prog_38_method_13_code (1 : Nat) (Option.none : Option Jvm.ClassFile.FieldType)).before args0 about1 = true := code_word (m := ⟨2, 10⟩) (meth := k2m10) (c := k2c10) (by decide +kernel) rfl rfl rfl (by decide +kernel)
set_option maxRecDepth 65536 in
theorem w_c37 : (Jvm.Cond.code ({ cls := "com/example/portion/portion/server/OffsetSet", name := "remove", desc := "(J)Z" } : Jvm.MethodName) prog_38_method_11_code (4 : Nat) (Option.some Jvm.ClassFile.FieldType.boolean)).before args0 about1 = true := code_word (m := ⟨2, 8⟩) (meth := k2m8) (c := k2c8) (by decide +kernel) rfl rfl rfl (by decide +kernel)
set_option maxRecDepth 65536 in
theorem w_c38 : (Jvm.Cond.code ({ cls := "com/example/portion/portion/server/OffsetSet", name := "contains", desc := "(J)Z" } : Jvm.MethodName) prog_38_method_7_code (4 : Nat) (Option.some Jvm.ClassFile.FieldType.boolean)).before args0 about1 = true := code_word (m := ⟨2, 5⟩) (meth := k2m5) (c := k2c5) (by decide +kernel) rfl rfl rfl (by decide +kernel)
set_option maxRecDepth 65536 in
theorem w_c39 : (Jvm.Cond.code ({ cls := "com/example/portion/portion/server/OffsetSet$Page", name := "contains", desc := "(J)Z" } : Jvm.MethodName) prog_39_method_11_code (6 : Nat) (Option.some Jvm.ClassFile.FieldType.boolean)).before args0 about1 = true := code_word (m := ⟨4, 9⟩) (meth := k4m9) (c := k4c9) (by decide +kernel) rfl rfl rfl (by decide +kernel)
set_option maxRecDepth 65536 in
theorem w_c40 : (Jvm.Cond.code ({ cls := "com/example/portion/portion/server/OffsetSet$Page$Runs", name := "read", desc := "()J" } : Jvm.MethodName) prog_40_method_3_code (5 : Nat) (Option.some Jvm.ClassFile.FieldType.long)).before args0 about1 = true := code_word (m := ⟨6, 2⟩) (meth := k6m2) (c := k6c2) (by decide +kernel) rfl rfl rfl (by decide +kernel)
set_option maxRecDepth 65536 in
theorem w_c41 : (Jvm.Cond.code ({ cls := "com/example/portion/portion/server/OffsetSet$Page", name := "extendIfAny", desc := "(JJ)V" } : Jvm.MethodName) prog_39_method_9_code (5 : Nat) (Option.none : Option Jvm.ClassFile.FieldType)).before args0 about1 = true := code_word (m := ⟨4, 8⟩) (meth := k4m8) (c := k4c8) (by decide +kernel) rfl rfl rfl (by decide +kernel)
def codes1 : List Jvm.Cond := [Jvm.Cond.code x code maxLocals ret, Jvm.Cond.code ({ cls := "com/example/portion/portion/server/OffsetSet", name := "<init>", desc := "(I)V" } : Jvm.MethodName) prog_38_method_2_code (2 : Nat) (Option.none : Option Jvm.ClassFile.FieldType), Jvm.Cond.code ({ cls := "java/lang/Object", name := "<init>", desc := "()V" } : Jvm.MethodName) object_method_1_code (1 : Nat) (Option.none : Option Jvm.ClassFile.FieldType), Jvm.Cond.code ({ cls := "com/example/portion/portion/server/OffsetSet", name := "isEmpty", desc := "()Z" } : Jvm.MethodName) prog_38_method_3_code (1 : Nat) (Option.some Jvm.ClassFile.FieldType.boolean), Jvm.Cond.code ({ cls := "com/example/portion/portion/server/OffsetSet", name := "add", desc := "(J)V" } : Jvm.MethodName) prog_38_method_8_code (3 : Nat) (Option.none : Option Jvm.ClassFile.FieldType), Jvm.Cond.code ({ cls := "com/example/portion/portion/server/OffsetSet", name := "addRange", desc := "(JJ)V" } : Jvm.MethodName) prog_38_method_9_code (8 : Nat) (Option.none : Option Jvm.ClassFile.FieldType), Jvm.Cond.code ({ cls := "com/example/portion/portion/server/OffsetSet", name := "requireRange", desc := "(JJ)V" } : Jvm.MethodName) prog_38_method_16_code (4 : Nat) (Option.none : Option Jvm.ClassFile.FieldType), Jvm.Cond.code ({ cls := "com/example/portion/portion/server/OffsetSet", name := "pageAt", desc := "(J)I" } : Jvm.MethodName) prog_38_method_18_code (6 : Nat) (Option.some Jvm.ClassFile.FieldType.int), Jvm.Cond.code ({ cls := "java/lang/Math", name := "max", desc := "(II)I" } : Jvm.MethodName) jdk_29_method_65_code (2 : Nat) (Option.some Jvm.ClassFile.FieldType.int), Jvm.Cond.code ({ cls := "com/example/portion/portion/server/OffsetSet", name := "append", desc := "(JJ)V" } : Jvm.MethodName) prog_38_method_19_code (5 : Nat) (Option.none : Option Jvm.ClassFile.FieldType), Jvm.Cond.code ({ cls := "com/example/portion/portion/server/OffsetSet", name := "appendTo", desc := "(IJJ)V" } : Jvm.MethodName) prog_38_method_20_code (9 : Nat) (Option.none : Option Jvm.ClassFile.FieldType), Jvm.Cond.code ({ cls := "com/example/portion/portion/server/OffsetSet$Page", name := "<init>", desc := "()V" } : Jvm.MethodName) prog_39_method_1_code (1 : Nat) (Option.none : Option Jvm.ClassFile.FieldType), Jvm.Cond.code ({ cls := "com/example/portion/portion/server/OffsetSet", name := "replacePages", desc := "(II[Lcom/example/portion/portion/server/OffsetSet$Page;I)V" } : Jvm.MethodName) prog_38_method_24_code (7 : Nat) (Option.none : Option Jvm.ClassFile.FieldType), Jvm.Cond.code ({ cls := "com/example/portion/portion/server/OffsetSet$Page", name := "extend", desc := "(JJ)V" } : Jvm.MethodName) prog_39_method_5_code (7 : Nat) (Option.none : Option Jvm.ClassFile.FieldType), Jvm.Cond.code ({ cls := "com/example/portion/portion/server/OffsetSet$Page", name := "lastRunTo", desc := "()J" } : Jvm.MethodName) prog_39_method_3_code (1 : Nat) (Option.some Jvm.ClassFile.FieldType.long), Jvm.Cond.code ({ cls := "com/example/portion/portion/server/OffsetSet", name := "removeFirst", desc := "()J" } : Jvm.MethodName) prog_38_method_6_code (3 : Nat) (Option.some Jvm.ClassFile.FieldType.long), Jvm.Cond.code ({ cls := "com/example/portion/portion/server/OffsetSet", name := "first", desc := "()J" } : Jvm.MethodName) prog_38_method_5_code (1 : Nat) (Option.some Jvm.ClassFile.FieldType.long), Jvm.Cond.code ({ cls := "com/example/portion/portion/server/OffsetSet$Page", name := "removeFirst", desc := "()V" } : Jvm.MethodName) prog_39_method_6_code (1 : Nat) (Option.none : Option Jvm.ClassFile.FieldType), Jvm.Cond.code ({ cls := "com/example/portion/portion/server/OffsetSet$Page", name := "takeNextRun", desc := "()V" } : Jvm.MethodName) prog_39_method_15_code (2 : Nat) (Option.none : Option Jvm.ClassFile.FieldType), Jvm.Cond.code ({ cls := "com/example/portion/portion/server/OffsetSet$Page$Runs", name := "<init>", desc := "(Lcom/example/portion/portion/server/OffsetSet$Page;)V" } : Jvm.MethodName) prog_40_method_1_code (2 : Nat) (Option.none : Option Jvm.ClassFile.FieldType), Jvm.Cond.code ({ cls := "com/example/portion/portion/server/OffsetSet$Page$Runs", name := "next", desc := "()Z" } : Jvm.MethodName) prog_40_method_2_code (9 : Nat) (Option.some Jvm.ClassFile.FieldType.boolean), Jvm.Cond.code ({ cls := "com/example/portion/portion/server/OffsetSet$Page", name := "clear", desc := "()V" } : Jvm.MethodName) prog_39_method_14_code (1 : Nat) (Option.none : Option Jvm.ClassFile.FieldType), Jvm.Cond.code ({ cls := "com/example/portion/portion/server/OffsetSet$Page", name := "lastRunFrom", desc := "()J" } : Jvm.MethodName) prog_39_method_2_code (1 : Nat) (Option.some Jvm.ClassFile.FieldType.long), Jvm.Cond.code ({ cls := "com/example/portion/portion/server/OffsetSet$Page", name := "byteCount", desc := "()I" } : Jvm.MethodName) prog_39_method_4_code (1 : Nat) (Option.some Jvm.ClassFile.FieldType.int), Jvm.Cond.code ({ cls := "com/example/portion/portion/server/OffsetSet$Page", name := "makeRoom", desc := "(I)V" } : Jvm.MethodName) prog_39_method_16_code (2 : Nat) (Option.none : Option Jvm.ClassFile.FieldType), Jvm.Cond.code ({ cls := "com/example/portion/portion/server/OffsetSet$Page", name := "withRoom", desc := "(I)I" } : Jvm.MethodName) prog_39_method_17_code (1 : Nat) (Option.some Jvm.ClassFile.FieldType.int), Jvm.Cond.code ({ cls := "com/example/portion/portion/server/OffsetSet$Page", name := "moveTo", desc := "(I)V" } : Jvm.MethodName) prog_39_method_18_code (3 : Nat) (Option.none : Option Jvm.ClassFile.FieldType), Jvm.Cond.code ({ cls := "com/example/portion/portion/server/OffsetSet$Page", name := "writeLastRun", desc := "()V" } : Jvm.MethodName) prog_39_method_19_code (8 : Nat) (Option.none : Option Jvm.ClassFile.FieldType), Jvm.Cond.code ({ cls := "com/example/portion/portion/server/OffsetSet$Page", name := "write", desc := "(J)V" } : Jvm.MethodName) prog_39_method_20_code (5 : Nat) (Option.none : Option Jvm.ClassFile.FieldType), Jvm.Cond.code ({ cls := "com/example/portion/portion/server/OffsetSet", name := "removeBefore", desc := "(J)Z" } : Jvm.MethodName) prog_38_method_12_code (7 : Nat) (Option.some Jvm.ClassFile.FieldType.boolean), Jvm.Cond.code ({ cls := "com/example/portion/portion/server/OffsetSet$Page", name := "removeBefore", desc := "(J)V" } : Jvm.MethodName) prog_39_method_7_code (3 : Nat) (Option.none : Option Jvm.ClassFile.FieldType), Jvm.Cond.code ({ cls := "com/example/portion/portion/server/OffsetSet", name := "edit", desc := "(IJJZ)V" } : Jvm.MethodName) prog_38_method_21_code (12 : Nat) (Option.none : Option Jvm.ClassFile.FieldType), Jvm.Cond.code ({ cls := "com/example/portion/portion/server/OffsetSet$Page", name := "set", desc := "(JJZ)V" } : Jvm.MethodName) prog_39_method_8_code (46 : Nat) (Option.none : Option Jvm.ClassFile.FieldType), Jvm.Cond.code ({ cls := "java/lang/Math", name := "min", desc := "(JJ)J" } : Jvm.MethodName) jdk_29_method_70_code (4 : Nat) (Option.some Jvm.ClassFile.FieldType.long), Jvm.Cond.code ({ cls := "java/lang/Math", name := "max", desc := "(JJ)J" } : Jvm.MethodName) jdk_29_method_66_code (4 : Nat) (Option.some Jvm.ClassFile.FieldType.long), Jvm.Cond.code ({ cls := "com/example/portion/portion/server/OffsetSet$Page", name := "trim", desc := "()V" } : Jvm.MethodName) prog_39_method_13_code (1 : Nat) (Option.none : Option Jvm.ClassFile.FieldType), Jvm.Cond.code ({ cls := "com/example/portion/portion/server/OffsetSet", name := "clear", desc := "()V" } : Jvm.MethodName) prog_38_method_13_code (1 : Nat) (Option.none : Option Jvm.ClassFile.FieldType), Jvm.Cond.code ({ cls := "com/example/portion/portion/server/OffsetSet", name := "remove", desc := "(J)Z" } : Jvm.MethodName) prog_38_method_11_code (4 : Nat) (Option.some Jvm.ClassFile.FieldType.boolean), Jvm.Cond.code ({ cls := "com/example/portion/portion/server/OffsetSet", name := "contains", desc := "(J)Z" } : Jvm.MethodName) prog_38_method_7_code (4 : Nat) (Option.some Jvm.ClassFile.FieldType.boolean), Jvm.Cond.code ({ cls := "com/example/portion/portion/server/OffsetSet$Page", name := "contains", desc := "(J)Z" } : Jvm.MethodName) prog_39_method_11_code (6 : Nat) (Option.some Jvm.ClassFile.FieldType.boolean), Jvm.Cond.code ({ cls := "com/example/portion/portion/server/OffsetSet$Page$Runs", name := "read", desc := "()J" } : Jvm.MethodName) prog_40_method_3_code (5 : Nat) (Option.some Jvm.ClassFile.FieldType.long), Jvm.Cond.code ({ cls := "com/example/portion/portion/server/OffsetSet$Page", name := "extendIfAny", desc := "(JJ)V" } : Jvm.MethodName) prog_39_method_9_code (5 : Nat) (Option.none : Option Jvm.ClassFile.FieldType)]
set_option maxRecDepth 65536 in
theorem codes_eq : words1.filter isCode = codes1 := rfl
theorem w_codes : ∀ c ∈ words1.filter isCode, c.before args0 about1 = true := by
  rw [codes_eq]
  intro c hc
  simp only [codes1, List.mem_cons, List.not_mem_nil, or_false] at hc
  rcases hc with rfl | rfl | rfl | rfl | rfl | rfl | rfl | rfl | rfl | rfl | rfl | rfl | rfl | rfl | rfl | rfl | rfl | rfl | rfl | rfl | rfl | rfl | rfl | rfl | rfl | rfl | rfl | rfl | rfl | rfl | rfl | rfl | rfl | rfl | rfl | rfl | rfl | rfl | rfl | rfl | rfl | rfl
  · exact w_c0
  · exact w_c1
  · exact w_c2
  · exact w_c3
  · exact w_c4
  · exact w_c5
  · exact w_c6
  · exact w_c7
  · exact w_c8
  · exact w_c9
  · exact w_c10
  · exact w_c11
  · exact w_c12
  · exact w_c13
  · exact w_c14
  · exact w_c15
  · exact w_c16
  · exact w_c17
  · exact w_c18
  · exact w_c19
  · exact w_c20
  · exact w_c21
  · exact w_c22
  · exact w_c23
  · exact w_c24
  · exact w_c25
  · exact w_c26
  · exact w_c27
  · exact w_c28
  · exact w_c29
  · exact w_c30
  · exact w_c31
  · exact w_c32
  · exact w_c33
  · exact w_c34
  · exact w_c35
  · exact w_c36
  · exact w_c37
  · exact w_c38
  · exact w_c39
  · exact w_c40
  · exact w_c41
set_option maxRecDepth 65536 in
theorem w_t1 : (words1.take 24).all (fun c => isCode c || c.before args0 about1) = true := by decide +kernel
set_option maxRecDepth 65536 in
theorem w_t2 : ((words1.drop 24).take 24).all (fun c => isCode c || c.before args0 about1) = true := by decide +kernel
set_option maxRecDepth 65536 in
theorem w_t3 : (((words1.drop 24).drop 24).take 24).all (fun c => isCode c || c.before args0 about1) = true := by decide +kernel
set_option maxRecDepth 65536 in
theorem w_t4 : ((((words1.drop 24).drop 24).drop 24).take 24).all (fun c => isCode c || c.before args0 about1) = true := by decide +kernel
set_option maxRecDepth 65536 in
theorem w_t5 : (((((words1.drop 24).drop 24).drop 24).drop 24).take 24).all (fun c => isCode c || c.before args0 about1) = true := by decide +kernel
set_option maxRecDepth 65536 in
theorem w_t6 : ((((((words1.drop 24).drop 24).drop 24).drop 24).drop 24).take 24).all (fun c => isCode c || c.before args0 about1) = true := by decide +kernel
set_option maxRecDepth 65536 in
theorem w_t7 : (((((((words1.drop 24).drop 24).drop 24).drop 24).drop 24).drop 24).take 24).all (fun c => isCode c || c.before args0 about1) = true := by decide +kernel
set_option maxRecDepth 65536 in
theorem w_t8 : ((((((((words1.drop 24).drop 24).drop 24).drop 24).drop 24).drop 24).drop 24).take 24).all (fun c => isCode c || c.before args0 about1) = true := by decide +kernel
set_option maxRecDepth 65536 in
theorem w_t9 : (((((((((words1.drop 24).drop 24).drop 24).drop 24).drop 24).drop 24).drop 24).drop 24).take 24).all (fun c => isCode c || c.before args0 about1) = true := by decide +kernel
set_option maxRecDepth 65536 in
theorem w_t10 : ((((((((((words1.drop 24).drop 24).drop 24).drop 24).drop 24).drop 24).drop 24).drop 24).drop 24).take 24).all (fun c => isCode c || c.before args0 about1) = true := by decide +kernel
set_option maxRecDepth 65536 in
theorem w_t11 : ((((((((((words1.drop 24).drop 24).drop 24).drop 24).drop 24).drop 24).drop 24).drop 24).drop 24).drop 24).all (fun c => isCode c || c.before args0 about1) = true := by decide +kernel
theorem w_tables : (allAtoms (Jvm.Cond.code x code maxLocals ret :: tables_1)).before args0 about1 = true := by
  rw [allAtoms_all]
  show words1.all (fun c => c.before args0 about1) = true
  refine all_split ?_ w_codes
  rw [← List.take_append_drop 24 words1, List.all_append, w_t1, ← List.take_append_drop 24 (words1.drop 24), List.all_append, w_t2, ← List.take_append_drop 24 ((words1.drop 24).drop 24), List.all_append, w_t3, ← List.take_append_drop 24 (((words1.drop 24).drop 24).drop 24), List.all_append, w_t4, ← List.take_append_drop 24 ((((words1.drop 24).drop 24).drop 24).drop 24), List.all_append, w_t5, ← List.take_append_drop 24 (((((words1.drop 24).drop 24).drop 24).drop 24).drop 24), List.all_append, w_t6, ← List.take_append_drop 24 ((((((words1.drop 24).drop 24).drop 24).drop 24).drop 24).drop 24), List.all_append, w_t7, ← List.take_append_drop 24 (((((((words1.drop 24).drop 24).drop 24).drop 24).drop 24).drop 24).drop 24), List.all_append, w_t8, ← List.take_append_drop 24 ((((((((words1.drop 24).drop 24).drop 24).drop 24).drop 24).drop 24).drop 24).drop 24), List.all_append, w_t9, ← List.take_append_drop 24 (((((((((words1.drop 24).drop 24).drop 24).drop 24).drop 24).drop 24).drop 24).drop 24).drop 24), List.all_append, w_t10, w_t11]
  rfl
set_option maxRecDepth 65536 in
theorem w_case : (Jvm.Cond.and given_1 narrow_1).before args0 about1 = true := by decide +kernel
theorem w_applies : (headSpec (Jvm.Cond.code x code maxLocals ret :: tables_1) room_1).applies x e0.platform about1 = true :=
  (Spec.applies_iff w_frames).mpr ⟨w_running, w_runnable, w_alone, w_named, w_hears, w_ripe, w_room, w_tables⟩
theorem atStart : AtStart classFile x code maxLocals ret World_1 tables_1 room_1 Calls_1 rest_1 Pre_1 launch0 p0 e0 about1 theMethod args0 below0 :=
  ⟨lists_1, trivial, launch0.admits_env _ _ _, launch0.least_env, fairChoices_fair.cas, fairChoices_fair.clock, w_frames, w_args, w_heap, w_applies, trivial, trivial, w_case⟩
end start1
theorem witness_1 : WitnessClaimed_1 := ⟨start1.p0, start1.e0, start1.about1, start1.theMethod, start1.args0, start1.below0, start1.atStart⟩
end Jvm.Pilot.@@N@@
