import JvmDerived
import JvmDerived.Pilot.@@N@@Statement
import JvmDerived.Pilot.@@N@@Code
set_option linter.unusedVariables false
set_option linter.unusedSimpArgs false
namespace Jvm.OwnWalk
open Sem ClassFile Op Lib Jvm.Stand Jvm.Free Jvm.LawKit Jvm.RoadKit
/-- from t the run comes to an end of which P holds -/
def Win (tb : Tables) (e : Env) (below : List Frame) (P : State → Outcome → Prop) (t : State) : Prop :=
  ∃ s₂ o, Steps tb e below t s₂ ∧ s₂.status = .running ∧ Ended s₂ below o ∧ P s₂ o
theorem Win.go {tb : Tables} {e : Env} {below : List Frame} {P : State → Outcome → Prop} {t t' : State} (st : ∀ z, Steps tb e below t' z → Steps tb e below t z) (w : Win tb e below P t') : Win tb e below P t := by
  obtain ⟨s2, o, h, r⟩ := w; exact ⟨s2, o, st _ h, r⟩
theorem Win.come {tb : Tables} {e : Env} {below : List Frame} {P : State → Outcome → Prop} {t t' : State} (st : Steps tb e below t t') (w : Win tb e below P t') : Win tb e below P t := by
  obtain ⟨s2, o, h, r⟩ := w; exact ⟨s2, o, st.trans h, r⟩
/-- the body has returned v with the heap h, L written -/
def PostQ (s : State) (Q : Option Value → Heap → List Loc → Prop) (C S : Nat) (u : State) (o : Outcome) : Prop := ∃ v L, o = .returned v ∧ Q v u.heap L ∧ FrameEnd s o u L C S
section Ret
variable {p : Program} {l : Launch} {e : Env} {R : Room} {s : State} {m : MethodId} {args : Array Value} {below : List Frame} {meth : Method} {c : Code} {T : State} {locs : List Loc} {cells slots : Nat} {h : Heap} {Q : Option Value → Heap → List Loc → Prop} {C S : Nat}
theorem retI' (X : Stand p l e R s m args below meth c T locs cells slots) (hx : p.tables.exec = Jvm.exec) {pc : Nat} {Ls : Array Slot} {z : Int32} {rest : List Value} (hret : meth.sig.returnType = some .int) (hd : decode c.code pc = .ok (.ireturn, 1)) {fs : List Frame}
    (hl : ∀ (f : JFrame) (acts : List Action), f.method = m → f.locked = none → f.entered = [] → (doReturn e (T.setTop f) acts (some (.int z))).1 = T.setFrames fs) : Steps p.tables e below (T.setTop (mkF m pc Ls (.int z :: rest))) (T.setFrames fs) := by
  have hm' : T.vm.method? m = some meth := X.method'
  have hn : narrow .int (.int z) = .int z := rfl
  show Steps p.tables e below (T.setTop { method := m, pc := pc, locals := Ls, stack := _ :: rest, locked := none }) _
  jvm_step X.here [X.here.top, hx, hd, hm', hret, hn]
  first | (intro acts; rw [hl _ acts rfl rfl rfl]) | rw [hl _ _ rfl rfl rfl]
  exact Steps.refl _
theorem retA' (X : Stand p l e R s m args below meth c T locs cells slots) (hx : p.tables.exec = Jvm.exec) {pc : Nat} {Ls : Array Slot} {w : Value} {t : FieldType} (hret : meth.sig.returnType = some t) (ht : t.isReference = true) (hv : w.isRef = true) (hd : decode c.code pc = .ok (.areturn, 1)) {fs : List Frame}
    (hl : ∀ (f : JFrame) (acts : List Action), f.method = m → f.locked = none → f.entered = [] → (doReturn e (T.setTop f) acts (some w)).1 = T.setFrames fs) : Steps p.tables e below (T.setTop (mkF m pc Ls [w])) (T.setFrames fs) := by
  have hm' : T.vm.method? m = some meth := X.method'
  show Steps p.tables e below (T.setTop { method := m, pc := pc, locals := Ls, stack := [w], locked := none }) _
  jvm_step X.here [X.here.top, hx, hd, hm', hret, hv, ht]
  first | (intro acts; rw [hl _ acts rfl rfl rfl]) | rw [hl _ _ rfl rfl rfl]
  exact Steps.refl _
theorem winI (X : Stand p l e R s m args below meth c T locs cells slots) (hx : p.tables.exec = Jvm.exec) (hlk : meth.locks = false) (eT : T.heap = h) {pc : Nat} {Ls : Array Slot} {z : Int32} {rest : List Value} (hret : meth.sig.returnType = some .int) (hd : decode c.code pc = .ok (.ireturn, 1))
    (hc : cells ≤ C) (hs : slots ≤ S) (hQ : Q (some (.int z)) h locs) : Win p.tables e below (PostQ s Q C S) (T.setTop (mkF m pc Ls (.int z :: rest))) := by
  subst eT
  obtain ⟨fs, hr, hrun, hended, hW, hsame⟩ := X.leave (v := some (.int z)) (fun h => by rw [hret] at h; cases h) hlk
  exact ⟨_, _, retI' X hx hret hd hr, hrun, hended, _, _, rfl, hQ, ⟨_, rfl⟩, hW, hsame.mono hc hs⟩
theorem winN (X : Stand p l e R s m args below meth c T locs cells slots) (hx : p.tables.exec = Jvm.exec) (hlk : meth.locks = false) (eT : T.heap = h) {pc : Nat} {Ls : Array Slot} {z z' : Int32} {rest : List Value} {t : FieldType} (hret : meth.sig.returnType = some t) (ht : t = .boolean ∨ t = .byte ∨ t = .char ∨ t = .short) (hd : decode c.code pc = .ok (.ireturn, 1))
    (hc : cells ≤ C) (hs : slots ≤ S) (hz : nar t z = z') (hQ : Q (some (.int z')) h locs) : Win p.tables e below (PostQ s Q C S) (T.setTop (mkF m pc Ls (.int z :: rest))) := by
  subst eT hz
  obtain ⟨fs, hr, hrun, hended, hW, hsame⟩ := X.leave (v := some (.int (nar t z))) (fun h => by rw [hret] at h; cases h) hlk
  exact ⟨_, _, retN X hx hret ht hd hr, hrun, hended, _, _, rfl, hQ, ⟨_, rfl⟩, hW, hsame.mono hc hs⟩
theorem winL (X : Stand p l e R s m args below meth c T locs cells slots) (hx : p.tables.exec = Jvm.exec) (hlk : meth.locks = false) (eT : T.heap = h) {pc : Nat} {Ls : Array Slot} {z : Int64} (hret : meth.sig.returnType = some .long) (hd : decode c.code pc = .ok (.lreturn, 1))
    (hc : cells ≤ C) (hs : slots ≤ S) (hQ : Q (some (.long z)) h locs) : Win p.tables e below (PostQ s Q C S) (T.setTop (mkF m pc Ls [.long z])) := by
  subst eT
  obtain ⟨fs, hr, hrun, hended, hW, hsame⟩ := X.leave (v := some (.long z)) (fun h => by rw [hret] at h; cases h) hlk
  exact ⟨_, _, X.lreturnOut hx hret hd hr, hrun, hended, _, _, rfl, hQ, ⟨_, rfl⟩, hW, hsame.mono hc hs⟩
theorem winA (X : Stand p l e R s m args below meth c T locs cells slots) (hx : p.tables.exec = Jvm.exec) (hlk : meth.locks = false) (eT : T.heap = h) {pc : Nat} {Ls : Array Slot} {w : Value} {t : FieldType} (hret : meth.sig.returnType = some t) (ht : t.isReference = true) (hv : w.isRef = true) (hd : decode c.code pc = .ok (.areturn, 1))
    (hc : cells ≤ C) (hs : slots ≤ S) (hQ : Q (some w) h locs) : Win p.tables e below (PostQ s Q C S) (T.setTop (mkF m pc Ls [w])) := by
  subst eT
  obtain ⟨fs, hr, hrun, hended, hW, hsame⟩ := X.leave (v := some w) (fun h => by rw [hret] at h; cases h) hlk
  exact ⟨_, _, retA' X hx hret ht hv hd hr, hrun, hended, _, _, rfl, hQ, ⟨_, rfl⟩, hW, hsame.mono hc hs⟩
theorem winV (X : Stand p l e R s m args below meth c T locs cells slots) (hx : p.tables.exec = Jvm.exec) (hlk : meth.locks = false) (eT : T.heap = h) {pc : Nat} {Ls : Array Slot} (hret : meth.sig.returnType = none) (hd : decode c.code pc = .ok (.return_, 1))
    (hc : cells ≤ C) (hs : slots ≤ S) (hQ : Q none h locs) : Win p.tables e below (PostQ s Q C S) (T.setTop (mkF m pc Ls [])) := by
  subst eT
  obtain ⟨fs, hr, hrun, hended, hW, hsame⟩ := X.leave (v := none) (fun _ => rfl) hlk
  exact ⟨_, _, X.returnOut hx hret hd hr, hrun, hended, _, _, rfl, hQ, ⟨_, rfl⟩, hW, hsame.mono hc hs⟩
def PostQW (s : State) (Q : Option Value → Heap → List Loc → Prop) (C S : Nat) (u : State) (o : Outcome) : Prop := ∃ v L, o = .returned v ∧ Q v u.heap L ∧ ReturnedEndW s o u L C S
theorem winNW {vm0 : Vm} {k0 : Nat} (hS : s.Since vm0 k0) (hk : k0 ≤ h.size) (X : Stand p l e R (s.setVm vm0) m args below meth c T locs cells slots) (hx : p.tables.exec = Jvm.exec) (hlk : meth.locks = false) (eT : T.heap = h) {pc : Nat} {Ls : Array Slot} {z z' : Int32} {rest : List Value} {t : FieldType} (hret : meth.sig.returnType = some t) (ht : t = .boolean ∨ t = .byte ∨ t = .char ∨ t = .short) (hd : decode c.code pc = .ok (.ireturn, 1))
    (hc : cells ≤ C) (hs : slots ≤ S) (hz : nar t z = z') (hQ : Q (some (.int z')) h locs) : Win p.tables e below (PostQW s Q C S) (T.setTop (mkF m pc Ls (.int z :: rest))) := by
  subst eT hz
  obtain ⟨fs, hr, hrun, hended, h1, h2, h3, h4⟩ := X.leaveW hS hk (v := some (.int (nar t z))) (fun h => by rw [hret] at h; cases h) hlk
  exact ⟨_, _, retN X hx hret ht hd hr, hrun, hended, _, _, rfl, hQ, ⟨_, rfl⟩, h2, h3, h4.mono hc hs⟩
end Ret
section Steps
variable {tb : Tables} [Ours tb] {e : Env} {below : List Frame} {P : State → Outcome → Prop} {T : State} {m : MethodId} {c : Code} {pc pc' : Nat} {ls : Array Slot} {st : List Value}
theorem s_iloadN {k : Fin 4} {v : Int32} (h : At T m c below) (hx : tb.exec = Jvm.exec) (hd : decode c.code pc = .ok (.iload_n k, 1)) (hp : pc + 1 = pc') (hl : ls[k.val]? = some (.val (.int v))) (w : Win tb e below P (T.setTop (mkF m pc' ls (.int v :: st)))) : Win tb e below P (T.setTop (mkF m pc ls st)) := by
  subst hp; exact Win.go (fun _ k => XS.iloadN h hx rfl hd hl k) w
theorem s_iload {k : Nat} {v : Int32} (h : At T m c below) (hx : tb.exec = Jvm.exec) (hd : decode c.code pc = .ok (.iload k, 2)) (hp : pc + 2 = pc') (hl : ls[k]? = some (.val (.int v))) (w : Win tb e below P (T.setTop (mkF m pc' ls (.int v :: st)))) : Win tb e below P (T.setTop (mkF m pc ls st)) := by
  subst hp; exact Win.go (fun _ k => XS.iload h hx rfl hd hl k) w
theorem s_lloadN {k : Fin 4} {v : Int64} (h : At T m c below) (hx : tb.exec = Jvm.exec) (hd : decode c.code pc = .ok (.lload_n k, 1)) (hp : pc + 1 = pc') (hl : ls[k.val]? = some (.val (.long v))) (w : Win tb e below P (T.setTop (mkF m pc' ls (.long v :: st)))) : Win tb e below P (T.setTop (mkF m pc ls st)) := by
  subst hp; exact Win.go (fun _ k => XS.lloadN h hx rfl hd hl k) w
theorem s_lload {k : Nat} {v : Int64} (h : At T m c below) (hx : tb.exec = Jvm.exec) (hd : decode c.code pc = .ok (.lload k, 2)) (hp : pc + 2 = pc') (hl : ls[k]? = some (.val (.long v))) (w : Win tb e below P (T.setTop (mkF m pc' ls (.long v :: st)))) : Win tb e below P (T.setTop (mkF m pc ls st)) := by
  subst hp; exact Win.go (fun _ k => XS.lload h hx rfl hd hl k) w
theorem s_aloadN {k : Fin 4} {v : Value} (h : At T m c below) (hx : tb.exec = Jvm.exec) (hd : decode c.code pc = .ok (.aload_n k, 1)) (hp : pc + 1 = pc') (hl : ls[k.val]? = some (.val v)) (hv : v.isRef = true) (w : Win tb e below P (T.setTop (mkF m pc' ls (v :: st)))) : Win tb e below P (T.setTop (mkF m pc ls st)) := by
  subst hp; exact Win.go (fun _ k => XS.aloadN h hx rfl hd hl hv k) w
theorem s_aload {k : Nat} {v : Value} (h : At T m c below) (hx : tb.exec = Jvm.exec) (hd : decode c.code pc = .ok (.aload k, 2)) (hp : pc + 2 = pc') (hl : ls[k]? = some (.val v)) (hv : v.isRef = true) (w : Win tb e below P (T.setTop (mkF m pc' ls (v :: st)))) : Win tb e below P (T.setTop (mkF m pc ls st)) := by
  subst hp; exact Win.go (fun _ k => XS.aload h hx rfl hd hl hv k) w
theorem s_iadd {x y : Int32} (h : At T m c below) (hx : tb.exec = Jvm.exec) (hd : decode c.code pc = .ok (.iadd, 1)) (hp : pc + 1 = pc') (w : Win tb e below P (T.setTop (mkF m pc' ls (.int (x + y) :: st)))) : Win tb e below P (T.setTop (mkF m pc ls (.int y :: .int x :: st))) := by
  subst hp; exact Win.go (fun _ k => XS.iadd h hx rfl hd rfl k) w
theorem s_isub {x y : Int32} (h : At T m c below) (hx : tb.exec = Jvm.exec) (hd : decode c.code pc = .ok (.isub, 1)) (hp : pc + 1 = pc') (w : Win tb e below P (T.setTop (mkF m pc' ls (.int (x - y) :: st)))) : Win tb e below P (T.setTop (mkF m pc ls (.int y :: .int x :: st))) := by
  subst hp; exact Win.go (fun _ k => XS.isub h hx rfl hd rfl k) w
theorem s_imul {x y : Int32} (h : At T m c below) (hx : tb.exec = Jvm.exec) (hd : decode c.code pc = .ok (.imul, 1)) (hp : pc + 1 = pc') (w : Win tb e below P (T.setTop (mkF m pc' ls (.int (x * y) :: st)))) : Win tb e below P (T.setTop (mkF m pc ls (.int y :: .int x :: st))) := by
  subst hp; exact Win.go (fun _ k => XS.imul h hx rfl hd rfl k) w
theorem s_iand {x y : Int32} (h : At T m c below) (hx : tb.exec = Jvm.exec) (hd : decode c.code pc = .ok (.iand, 1)) (hp : pc + 1 = pc') (w : Win tb e below P (T.setTop (mkF m pc' ls (.int (x &&& y) :: st)))) : Win tb e below P (T.setTop (mkF m pc ls (.int y :: .int x :: st))) := by
  subst hp; exact Win.go (fun _ k => XS.iand h hx rfl hd rfl k) w
theorem s_ior {x y : Int32} (h : At T m c below) (hx : tb.exec = Jvm.exec) (hd : decode c.code pc = .ok (.ior, 1)) (hp : pc + 1 = pc') (w : Win tb e below P (T.setTop (mkF m pc' ls (.int (x ||| y) :: st)))) : Win tb e below P (T.setTop (mkF m pc ls (.int y :: .int x :: st))) := by
  subst hp; exact Win.go (fun _ k => XS.ior h hx rfl hd rfl k) w
theorem s_ixor {x y : Int32} (h : At T m c below) (hx : tb.exec = Jvm.exec) (hd : decode c.code pc = .ok (.ixor, 1)) (hp : pc + 1 = pc') (w : Win tb e below P (T.setTop (mkF m pc' ls (.int (x ^^^ y) :: st)))) : Win tb e below P (T.setTop (mkF m pc ls (.int y :: .int x :: st))) := by
  subst hp; exact Win.go (fun _ k => XS.ixor h hx rfl hd rfl k) w
theorem s_ladd {x y : Int64} (h : At T m c below) (hx : tb.exec = Jvm.exec) (hd : decode c.code pc = .ok (.ladd, 1)) (hp : pc + 1 = pc') (w : Win tb e below P (T.setTop (mkF m pc' ls (.long (x + y) :: st)))) : Win tb e below P (T.setTop (mkF m pc ls (.long y :: .long x :: st))) := by
  subst hp; exact Win.go (fun _ k => XS.ladd h hx rfl hd rfl k) w
theorem s_lsub {x y : Int64} (h : At T m c below) (hx : tb.exec = Jvm.exec) (hd : decode c.code pc = .ok (.lsub, 1)) (hp : pc + 1 = pc') (w : Win tb e below P (T.setTop (mkF m pc' ls (.long (x - y) :: st)))) : Win tb e below P (T.setTop (mkF m pc ls (.long y :: .long x :: st))) := by
  subst hp; exact Win.go (fun _ k => XS.lsub h hx rfl hd rfl k) w
theorem s_lmul {x y : Int64} (h : At T m c below) (hx : tb.exec = Jvm.exec) (hd : decode c.code pc = .ok (.lmul, 1)) (hp : pc + 1 = pc') (w : Win tb e below P (T.setTop (mkF m pc' ls (.long (x * y) :: st)))) : Win tb e below P (T.setTop (mkF m pc ls (.long y :: .long x :: st))) := by
  subst hp; exact Win.go (fun _ k => XS.lmul h hx rfl hd rfl k) w
theorem s_land {x y : Int64} (h : At T m c below) (hx : tb.exec = Jvm.exec) (hd : decode c.code pc = .ok (.land, 1)) (hp : pc + 1 = pc') (w : Win tb e below P (T.setTop (mkF m pc' ls (.long (x &&& y) :: st)))) : Win tb e below P (T.setTop (mkF m pc ls (.long y :: .long x :: st))) := by
  subst hp; exact Win.go (fun _ k => XS.land h hx rfl hd rfl k) w
theorem s_lor {x y : Int64} (h : At T m c below) (hx : tb.exec = Jvm.exec) (hd : decode c.code pc = .ok (.lor, 1)) (hp : pc + 1 = pc') (w : Win tb e below P (T.setTop (mkF m pc' ls (.long (x ||| y) :: st)))) : Win tb e below P (T.setTop (mkF m pc ls (.long y :: .long x :: st))) := by
  subst hp; exact Win.go (fun _ k => XS.lor h hx rfl hd rfl k) w
theorem s_lxor {x y : Int64} (h : At T m c below) (hx : tb.exec = Jvm.exec) (hd : decode c.code pc = .ok (.lxor, 1)) (hp : pc + 1 = pc') (w : Win tb e below P (T.setTop (mkF m pc' ls (.long (x ^^^ y) :: st)))) : Win tb e below P (T.setTop (mkF m pc ls (.long y :: .long x :: st))) := by
  subst hp; exact Win.go (fun _ k => XS.lxor h hx rfl hd rfl k) w
theorem s_iconst {i : Int} {z : Int32} (h : At T m c below) (hx : tb.exec = Jvm.exec) (hd : decode c.code pc = .ok (.iconst i, 1)) (hp : pc + 1 = pc') (hz : Int32.ofInt i = z) (w : Win tb e below P (T.setTop (mkF m pc' ls (.int z :: st)))) : Win tb e below P (T.setTop (mkF m pc ls st)) := by
  subst hp hz; exact Win.go (fun _ k => XS.iconst h hx rfl hd k) w
theorem s_bipush {i : Int} {z : Int32} (h : At T m c below) (hx : tb.exec = Jvm.exec) (hd : decode c.code pc = .ok (.bipush i, 2)) (hp : pc + 2 = pc') (hz : (Int8.ofInt i).toInt32 = z) (w : Win tb e below P (T.setTop (mkF m pc' ls (.int z :: st)))) : Win tb e below P (T.setTop (mkF m pc ls st)) := by
  subst hp hz; exact Win.go (fun _ k => XS.bipush h hx rfl hd k) w
theorem s_sipush {i : Int} {z : Int32} (h : At T m c below) (hx : tb.exec = Jvm.exec) (hd : decode c.code pc = .ok (.sipush i, 3)) (hp : pc + 3 = pc') (hz : (Int16.ofInt i).toInt32 = z) (w : Win tb e below P (T.setTop (mkF m pc' ls (.int z :: st)))) : Win tb e below P (T.setTop (mkF m pc ls st)) := by
  subst hp hz; exact Win.go (fun _ k => XS.sipush h hx rfl hd k) w
theorem s_lconst {i : Fin 2} {z : Int64} (h : At T m c below) (hx : tb.exec = Jvm.exec) (hd : decode c.code pc = .ok (.lconst i, 1)) (hp : pc + 1 = pc') (hz : Int64.ofNat i = z) (w : Win tb e below P (T.setTop (mkF m pc' ls (.long z :: st)))) : Win tb e below P (T.setTop (mkF m pc ls st)) := by
  subst hp hz; exact Win.go (fun _ k => XS.lconst h hx rfl hd k) w
theorem s_goto {o : Int} (h : At T m c below) (hx : tb.exec = Jvm.exec) (hd : decode c.code pc = .ok (.goto o, 3)) (ho : 0 ≤ (pc : Int) + o) (hp : ((pc : Int) + o).toNat = pc') (w : Win tb e below P (T.setTop (mkF m pc' ls st))) : Win tb e below P (T.setTop (mkF m pc ls st)) := by
  exact Win.go (fun _ k => XS.goto h hx rfl rfl hd ho hp k) w
theorem s_icmpYes {cd : ClassFile.Cond} {o : Int} {x y : Int32} (h : At T m c below) (hx : tb.exec = Jvm.exec) (hd : decode c.code pc = .ok (.if_icmp cd o, 3)) (hc : if_icmp.holds cd x y = true) (ho : 0 ≤ (pc : Int) + o) (hp : ((pc : Int) + o).toNat = pc') (w : Win tb e below P (T.setTop (mkF m pc' ls st))) : Win tb e below P (T.setTop (mkF m pc ls (.int y :: .int x :: st))) := by
  exact Win.go (fun _ k => XS.icmpYes h hx rfl rfl hd rfl hc ho hp k) w
theorem s_icmpNo {cd : ClassFile.Cond} {o : Int} {x y : Int32} (h : At T m c below) (hx : tb.exec = Jvm.exec) (hd : decode c.code pc = .ok (.if_icmp cd o, 3)) (hp : pc + 3 = pc') (hc : if_icmp.holds cd x y = false) (w : Win tb e below P (T.setTop (mkF m pc' ls st))) : Win tb e below P (T.setTop (mkF m pc ls (.int y :: .int x :: st))) := by
  subst hp; exact Win.go (fun _ k => XS.icmpNo h hx rfl hd rfl hc k) w
theorem s_ifYes {cd : ClassFile.Cond} {o : Int} {x : Int32} (h : At T m c below) (hx : tb.exec = Jvm.exec) (hd : decode c.code pc = .ok (.ifCond cd o, 3)) (hc : ifCond.holds cd x = true) (ho : 0 ≤ (pc : Int) + o) (hp : ((pc : Int) + o).toNat = pc') (w : Win tb e below P (T.setTop (mkF m pc' ls st))) : Win tb e below P (T.setTop (mkF m pc ls (.int x :: st))) := by
  exact Win.go (fun _ k => XS.ifYes h hx rfl rfl hd rfl hc ho hp k) w
theorem s_ifNo {cd : ClassFile.Cond} {o : Int} {x : Int32} (h : At T m c below) (hx : tb.exec = Jvm.exec) (hd : decode c.code pc = .ok (.ifCond cd o, 3)) (hp : pc + 3 = pc') (hc : ifCond.holds cd x = false) (w : Win tb e below P (T.setTop (mkF m pc' ls st))) : Win tb e below P (T.setTop (mkF m pc ls (.int x :: st))) := by
  subst hp; exact Win.go (fun _ k => XS.ifNo h hx rfl hd rfl hc k) w
theorem s_lcmp {x y : Int64} (h : At T m c below) (hx : tb.exec = Jvm.exec) (hd : decode c.code pc = .ok (.lcmp, 1)) (hp : pc + 1 = pc') (w : Win tb e below P (T.setTop (mkF m pc' ls (.int (lcmpW x y) :: st)))) : Win tb e below P (T.setTop (mkF m pc ls (.long y :: .long x :: st))) := by
  subst hp; exact Win.go (fun _ k => XS.lcmp h hx rfl hd rfl k) w
theorem s_istore {k : Nat} {x : Int32} {l' : Array Slot} (h : At T m c below) (hx : tb.exec = Jvm.exec) (hd : decode c.code pc = .ok (.istore k, 2)) (hp : pc + 2 = pc') (hl : storeLocals ls k (.int x) = some l') (w : Win tb e below P (T.setTop (mkF m pc' l' st))) : Win tb e below P (T.setTop (mkF m pc ls (.int x :: st))) := by
  subst hp; exact Win.go (fun _ k => XS.istore h hx rfl hd rfl hl k) w
theorem s_istoreN {k : Fin 4} {x : Int32} {l' : Array Slot} (h : At T m c below) (hx : tb.exec = Jvm.exec) (hd : decode c.code pc = .ok (.istore_n k, 1)) (hp : pc + 1 = pc') (hl : storeLocals ls k.val (.int x) = some l') (w : Win tb e below P (T.setTop (mkF m pc' l' st))) : Win tb e below P (T.setTop (mkF m pc ls (.int x :: st))) := by
  subst hp; exact Win.go (fun _ k => XS.istoreN h hx rfl hd rfl hl k) w
theorem s_lstore {k : Nat} {x : Int64} {l' : Array Slot} (h : At T m c below) (hx : tb.exec = Jvm.exec) (hd : decode c.code pc = .ok (.lstore k, 2)) (hp : pc + 2 = pc') (hl : storeLocals ls k (.long x) = some l') (w : Win tb e below P (T.setTop (mkF m pc' l' st))) : Win tb e below P (T.setTop (mkF m pc ls (.long x :: st))) := by
  subst hp; exact Win.go (fun _ k => XS.lstore h hx rfl hd rfl hl k) w
theorem s_lstoreN {k : Fin 4} {x : Int64} {l' : Array Slot} (h : At T m c below) (hx : tb.exec = Jvm.exec) (hd : decode c.code pc = .ok (.lstore_n k, 1)) (hp : pc + 1 = pc') (hl : storeLocals ls k.val (.long x) = some l') (w : Win tb e below P (T.setTop (mkF m pc' l' st))) : Win tb e below P (T.setTop (mkF m pc ls (.long x :: st))) := by
  subst hp; exact Win.go (fun _ k => XS.lstoreN h hx rfl hd rfl hl k) w
theorem s_astore {k : Nat} {x : Value} {l' : Array Slot} (h : At T m c below) (hx : tb.exec = Jvm.exec) (hd : decode c.code pc = .ok (.astore k, 2)) (hp : pc + 2 = pc') (hv : x.isRef = true) (hl : storeLocals ls k x = some l') (w : Win tb e below P (T.setTop (mkF m pc' l' st))) : Win tb e below P (T.setTop (mkF m pc ls (x :: st))) := by
  subst hp; exact Win.go (fun _ k => XS.astore h hx rfl hd rfl hv hl k) w
theorem s_astoreN {k : Fin 4} {x : Value} {l' : Array Slot} (h : At T m c below) (hx : tb.exec = Jvm.exec) (hd : decode c.code pc = .ok (.astore_n k, 1)) (hp : pc + 1 = pc') (hv : x.isRef = true) (hl : storeLocals ls k.val x = some l') (w : Win tb e below P (T.setTop (mkF m pc' l' st))) : Win tb e below P (T.setTop (mkF m pc ls (x :: st))) := by
  subst hp; exact Win.go (fun _ k => XS.astoreN h hx rfl hd rfl hv hl k) w
theorem s_dup {x : Value} (h : At T m c below) (hx : tb.exec = Jvm.exec) (hd : decode c.code pc = .ok (.dup, 1)) (hp : pc + 1 = pc') (hc : x.category = 1) (w : Win tb e below P (T.setTop (mkF m pc' ls (x :: x :: st)))) : Win tb e below P (T.setTop (mkF m pc ls (x :: st))) := by
  subst hp; exact Win.go (fun _ k => XS.dup h hx rfl hd rfl hc k) w
end Steps
/-- an array of ints by its places: place j holds f j -/
def AF (Z : State) (h : Heap) (a : Addr) (ty : FieldType) (n : Nat) (f : Int → Int32) : Prop := ∃ cl : Cell, Arr Z h a cl ty ∧ cl.slots.size = n ∧ ∀ j : Int32, 0 ≤ j.toInt → j.toInt < n → cl.slots[j.toNatClampNeg]? = some (.int (f j.toInt))
section AFs
variable {Z : State} {h h' : Heap} {a b : Addr} {ty : FieldType} {n : Nat} {f : Int → Int32} {ws : List Addr} {sl : Nat} {v : Value}
theorem AF.lt (F : AF Z h a ty n f) : a < h.size := by obtain ⟨c, A, -⟩ := F; exact A.lt
theorem AF.ext (F : AF Z h a ty n f) (E : Ext h h') : AF Z h' a ty n f := by obtain ⟨c, A, r⟩ := F; exact ⟨c, A.ext E, r⟩
theorem AF.other (F : AF Z h b ty n f) (W : Wr h h' a sl v) (q : b ≠ a) : AF Z h' b ty n f := by obtain ⟨c, A, r⟩ := F; exact ⟨c, A.other W q, r⟩
theorem AF.keep (F : AF Z h a ty n f) (K : Keep h h' ws) (q : a ∉ ws) : AF Z h' a ty n f := by obtain ⟨c, A, r⟩ := F; exact ⟨c, ⟨K.2.1 a c A.1 q, A.2⟩, r⟩
theorem AF.inb {c : Cell} {j : Int32} (S : c.slots.size = n) (q : 0 ≤ j.toInt ∧ j.toInt < n) : ¬ (j < 0 ∨ c.slots.size ≤ j.toNatClampNeg) := by
  rw [S, Int32.lt_iff_toInt_lt]; have e0 : (0 : Int32).toInt = 0 := rfl
  simp only [Int32.toNatClampNeg]; omega
def updF (f : Int → Int32) (j : Int) (v : Int32) : Int → Int32 := fun i => if i = j then v else f i
theorem updF_hit (f : Int → Int32) (j : Int) (v : Int32) : updF f j v j = v := if_pos rfl
theorem updF_miss {f : Int → Int32} {i j : Int} {v : Int32} (q : i ≠ j) : updF f j v i = f i := if_neg q
theorem AF.set {cl : Cell} {j v : Int32} (A : Arr Z h a cl ty) (S : cl.slots.size = n) (G : ∀ j : Int32, 0 ≤ j.toInt → j.toInt < n → cl.slots[j.toNatClampNeg]? = some (.int (f j.toInt))) (W : Wr h h' a j.toNatClampNeg (.int v)) (q : 0 ≤ j.toInt ∧ j.toInt < n) : AF Z h' a ty n (updF f j.toInt v) := by
  have e0 : (0 : Int32).toInt = 0 := rfl
  refine ⟨_, A.same W, by rw [sz_set]; exact S, fun k h0 h1 => ?_⟩
  by_cases e : k = j
  · subst e; rw [get_hit (AF.inb S q) rfl, updF_hit]
  · rw [get_miss (by rw [Int32.lt_iff_toInt_lt]; omega) (by rw [Int32.lt_iff_toInt_lt]; omega) e, updF_miss (fun z => e (Int32.toInt_inj.mp z))]; exact G k h0 h1
theorem AF.zero {k : ClassId} {z : Int32} (F : Arv Z h a k ty z [] (.int 0)) (q : z.toNatClampNeg = n) : AF Z h a ty n (fun _ => 0) := by
  obtain ⟨c, A, -, S, -, H, -⟩ := F
  refine ⟨c, A, S.trans q, fun j h0 h1 => ?_⟩
  have e : j.toNatClampNeg = j.toInt.toNat := rfl
  exact H _ (by rw [S, q, e]; omega)
theorem AF.ex {k : ClassId} {z : Int32} {vs : List Value} {dv : Value} (F : Arv Z h a k .byte z vs dv) (q : z.toNatClampNeg = n) : ∃ f, AF Z h a .byte n f := by
  obtain ⟨c, A, -, S, -, H, G⟩ := F
  refine ⟨fun i => match c.slots[i.toNat]? with | some (.int x) => x | _ => 0, c, A, S.trans q, fun j h0 h1 => ?_⟩
  have e : j.toNatClampNeg = j.toInt.toNat := rfl
  have hj : j.toInt.toNat < c.slots.size := by rw [S, q]; omega
  have e1 := H _ hj
  have e2 := G _ hj
  show c.slots[j.toInt.toNat]? = some (.int (match c.slots[j.toInt.toNat]? with | some (.int x) => x | _ => 0))
  cases hv : vs.getD j.toInt.toNat dv <;> rw [hv] at e1 e2 <;> first | (rw [e1]; done) | (exact absurd e2 (by simp [fits]))
/-- a byte array of length z -/
def BA (Z : State) (h : Heap) (a : Addr) (z : Int32) : Prop := ∃ (k : ClassId) (vs : List Value), Arv Z h a k .byte z vs (.int 0)
variable {z : Int32}
theorem BA.lt (F : BA Z h a z) : a < h.size := by obtain ⟨_, _, A⟩ := F; exact A.lt
theorem BA.ext (F : BA Z h a z) (E : Ext h h') : BA Z h' a z := by obtain ⟨k, vs, A⟩ := F; exact ⟨k, vs, A.ext E⟩
theorem BA.other (F : BA Z h b z) (W : Wr h h' a sl v) (q : b ≠ a) : BA Z h' b z := by obtain ⟨k, vs, A⟩ := F; exact ⟨k, vs, A.other W q⟩
theorem BA.keep (F : BA Z h a z) (K : Keep h h' ws) (q : a ∉ ws) : BA Z h' a z := by obtain ⟨k, vs, A⟩ := F; exact ⟨k, vs, A.keep K q⟩
theorem cpBA {p : Program} {l : Launch} {e : Env} {R : Room} {s : State} {m : MethodId} {args : Array Value} {below : List Frame} {meth : Method} {c : Code} {T : State} {locs : List Loc} {cells slots : Nat}
    (X : Stand p l e R s m args below meth c T locs cells slots) (hx : p.tables.exec = Jvm.exec) (hZ : Z.Warmed39 s.vm) {a0 : Array Value} {own : String} {index : Nat} (hown : s.vm.findClass own = some m.cls)
    (w1 : (Cond.methodLink own index Jvm.Stand.acN).before a0 Z = true) (w2 : (Cond.native Jvm.Stand.acN).before a0 Z = true) (w3 : (Cond.static Jvm.Stand.acN).before a0 Z = true) (w4 : (Cond.initialized "java/lang/System").before a0 Z = true) (eT : T.heap = h)
    {z' sp dp nn : Int32} (A : BA Z h a z) (B : BA Z h b z') (h1 : 0 ≤ sp.toInt) (h2 : 0 ≤ dp.toInt) (h3 : 0 ≤ nn.toInt) (h4 : sp.toInt + nn.toInt ≤ z.toInt) (h5 : dp.toInt + nn.toInt ≤ z'.toInt) {n0 : Nat} (N : Fr n0 locs) (ge : n0 ≤ b)
    {g : JFrame} (hg : g.method = m) (hsize : g.locals.size = c.maxLocals) {rest : List Value} (hs : g.stack = .int nn :: .int dp :: .ref b :: .int sp :: .ref a :: rest) (hd : decode c.code g.pc = .ok (.invokestatic index, 3))
    (hf : 1 ≤ R.frames) {W : Nat} (hW : 2 * g.monitorRoom + (rest.map fun v => v.category).sum ≤ W) (hlo : W + (nativeFrameWords "java/lang/System" "arraycopy" 5 + 11) ≤ R.locals) :
    ∃ T' h' L, Stand p l e R s m args below meth c T' L cells slots ∧ T'.heap = h' ∧ Fr n0 L ∧ Keep h h' [b] ∧ BA Z h' b z' ∧
      ∀ target, Steps p.tables e below (T'.setTop { g with pc := g.pc + 3, stack := rest }) target → Steps p.tables e below (T.setTop g) target := by
  have e0 : (0 : Int32).toInt = 0 := rfl
  obtain ⟨k, vs, A⟩ := A
  obtain ⟨k', vd, B⟩ := B
  have B' := B.pad (pad_rep vd (.int 0) z'.toNatClampNeg)
  obtain ⟨T', h', L, X', e', N', K, B2, st⟩ := cpA X hx hZ hown w1 w2 w3 w4 eT A B' (Or.inl ⟨rfl, rfl⟩) (by rw [Int32.lt_iff_toInt_lt]; omega) (by rw [Int32.lt_iff_toInt_lt]; omega) (by rw [Int32.lt_iff_toInt_lt]; omega) (by simp only [Int32.toNatClampNeg]; omega) (by simp only [Int32.toNatClampNeg]; omega) rfl (by simp only [List.length_append, List.length_replicate, Int32.toNatClampNeg]; omega) N ge hg hsize hs hd hf hW hlo
  exact ⟨T', h', L, X', e', N', K, ⟨k', _, B2⟩, st⟩
end AFs
theorem own_selPriv {s : State} {args : Array Value} {y y' : MethodName} (hn : y.cls = y'.cls) (w : (Cond.selects y'.cls y' y').before args s = true) (hpriv : s.PrivateAt y) (hinst : (Cond.instanceMethod y).before args s = true) (hy : y.cls ≠ "java/lang/invoke/MethodHandle" ∧ y.cls ≠ "java/lang/invoke/VarHandle") : (Cond.selects y.cls y y).before args s = true := by
  obtain ⟨c, r, m, h1, -, h3, -, k, h5, h6⟩ := Cond.selects_spec w
  have h7 := findClass_of_methodNamed h3
  cases h1.symm.trans h7
  exact selects_self_of_private (by rw [hn]; exact h7) h5 h6 hpriv hinst hy
theorem own_lremEq (x y : Int64) : x - (x / y) * y = x % y := by
  refine Int64.toInt_inj.mp ?_
  have h1 := rng64 (x % y)
  have e : x.toInt - x.toInt.tdiv y.toInt * y.toInt = (x % y).toInt := by rw [Int64.toInt_mod, Int.tmod_def, Int.mul_comm]
  rw [Int64.toInt_sub, Int64.toInt_mul, Int64.toInt_div, Int.bmod_mul_bmod, Int.sub_bmod_bmod, e]
  exact Int.bmod_eq_of_le_mul_two (by omega) (by omega)
theorem lremM {p : Program} {l : Launch} {e : Env} {R : Room} {s : State} {m : MethodId} {args : Array Value} {below : List Frame} {meth : Method} {c : Code} {T : State} {locs : List Loc} {cells slots : Nat} {g : JFrame} {target : State} (X : Stand p l e R s m args below meth c T locs cells slots) (hx : p.tables.exec = Jvm.exec) (hg : g.method = m) {x y : Int64} {rest : List Value} (hd : decode c.code g.pc = .ok (.lrem, 1)) (hs : g.stack = .long y :: .long x :: rest) (hy : y ≠ 0)
    (hr : Steps p.tables e below (T.setTop { g with pc := g.pc + 1, stack := .long (x % y) :: rest }) target) : Steps p.tables e below (T.setTop g) target :=
  XS.lrem X.here hx hg hd hs hy (by rw [own_lremEq]; exact hr)
/-! comparisons by the numbers -/
theorem tltI {x y : Int32} (h : x.toInt < y.toInt) : if_icmp.holds .lt x y = true ∧ if_icmp.holds .ge x y = false ∧ if_icmp.holds .gt y x = true ∧ if_icmp.holds .le y x = false := tlt (Int32.lt_iff_toInt_lt.mpr h)
theorem fltI {x y : Int32} (h : ¬ x.toInt < y.toInt) : if_icmp.holds .lt x y = false ∧ if_icmp.holds .ge x y = true ∧ if_icmp.holds .gt y x = false ∧ if_icmp.holds .le y x = true := flt (fun q => h (Int32.lt_iff_toInt_lt.mp q))
theorem teqI {x y : Int32} (h : x.toInt = y.toInt) : if_icmp.holds .eq x y = true ∧ if_icmp.holds .ne x y = false := teq (Int32.toInt_inj.mp h)
theorem feqI {x y : Int32} (h : ¬ x.toInt = y.toInt) : if_icmp.holds .eq x y = false ∧ if_icmp.holds .ne x y = true := feq (fun q => h (congrArg _ q))
theorem tltZ {x y : Int32} (h : x.toInt < y.toInt) : (y = 0 → ifCond.holds .lt x = true ∧ ifCond.holds .ge x = false) ∧ (x = 0 → ifCond.holds .gt y = true ∧ ifCond.holds .le y = false) :=
  ⟨fun q => by subst q; exact ⟨(if0 _ _).trans (tltI h).1, (if0 _ _).trans (tltI h).2.1⟩, fun q => by subst q; exact ⟨(if0 _ _).trans (tltI h).2.2.1, (if0 _ _).trans (tltI h).2.2.2⟩⟩
theorem tltL {x y : Int64} (h : x.toInt < y.toInt) : ifCond.holds .lt (lcmpW x y) = true ∧ ifCond.holds .ge (lcmpW x y) = false ∧ ifCond.holds .gt (lcmpW y x) = true ∧ ifCond.holds .le (lcmpW y x) = false :=
  have h' := Int64.lt_iff_toInt_lt.mpr h
  ⟨(if0 _ _).trans (tlt ((lw_lt x y).mpr h')).1, (if0 _ _).trans (tlt ((lw_lt x y).mpr h')).2.1, (if0 _ _).trans (tlt ((lw_gt y x).mpr h')).2.2.1, (if0 _ _).trans (tlt ((lw_gt y x).mpr h')).2.2.2⟩
theorem fltL {x y : Int64} (h : ¬ x.toInt < y.toInt) : ifCond.holds .lt (lcmpW x y) = false ∧ ifCond.holds .ge (lcmpW x y) = true ∧ ifCond.holds .gt (lcmpW y x) = false ∧ ifCond.holds .le (lcmpW y x) = true :=
  have h1 : ¬ lcmpW x y < 0 := fun q => h (Int64.lt_iff_toInt_lt.mp ((lw_lt x y).mp q))
  have h2 : ¬ 0 < lcmpW y x := fun q => h (Int64.lt_iff_toInt_lt.mp ((lw_gt y x).mp q))
  ⟨(if0 _ _).trans (flt h1).1, (if0 _ _).trans (flt h1).2.1, (if0 _ _).trans (flt h2).2.2.1, (if0 _ _).trans (flt h2).2.2.2⟩
theorem teqL {x y : Int64} (h : x.toInt = y.toInt) : ifCond.holds .eq (lcmpW x y) = true ∧ ifCond.holds .ne (lcmpW x y) = false :=
  have h' := (lw_eq x y).mpr (Int64.toInt_inj.mp h)
  ⟨(if0 _ _).trans (teq h').1, (if0 _ _).trans (teq h').2⟩
theorem feqL {x y : Int64} (h : ¬ x.toInt = y.toInt) : ifCond.holds .eq (lcmpW x y) = false ∧ ifCond.holds .ne (lcmpW x y) = true :=
  have h' : ¬ lcmpW x y = 0 := fun q => h (congrArg _ ((lw_eq x y).mp q))
  ⟨(if0 _ _).trans (feq h').1, (if0 _ _).trans (feq h').2⟩
end Jvm.OwnWalk
namespace Jvm.Pilot.@@N@@
open Jvm Jvm.ClassFile Sem Op Lib Jvm.Free Jvm.Stand Jvm.LawKit Jvm.RoadKit Bundle Jvm.OwnWalk Jvm.Pilot.@@N@@.Jvm.D
theorem own_fin {v : Int32} {N : Nat} (h0 : 0 ≤ v.toInt) (h1 : v.toInt < N) : ∃ k : Fin N, v = Int32.ofNat k.val := by
  refine ⟨⟨v.toInt.toNat, by omega⟩, Int32.toInt_inj.mp ?_⟩
  have := v.toInt_lt
  rw [Int32.toInt_ofNat_of_lt (by simp only; omega)]; simp only; omega
theorem own_or32' (x : Int32) : (x ||| 32) = x ∨ (x ||| 32) = x + 32 := by
  have h : x.toBitVec &&& 32#32 = 0#32 ∨ x.toBitVec &&& 32#32 = 32#32 := by
    have e : x.toBitVec &&& 32#32 = if x.toBitVec.getLsbD 5 then BitVec.twoPow 32 5 else 0#32 := BitVec.and_twoPow x.toBitVec 5
    rw [e]; split
    · exact Or.inr (by decide)
    · exact Or.inl rfl
  rcases h with h | h
  · right; apply Int32.toBitVec_inj.mp; exact (BitVec.add_eq_or_of_and_eq_zero _ _ h).symm
  · left; apply Int32.toBitVec_inj.mp; show x.toBitVec ||| 32#32 = x.toBitVec; rw [← h]; ext i hi; simp; intro a _; exact a
theorem own_or32 (x : Int32) : (97 ≤ (x ||| 32).toInt ∧ (x ||| 32).toInt ≤ 122) ↔ ((65 ≤ x.toInt ∧ x.toInt ≤ 90) ∨ (97 ≤ x.toInt ∧ x.toInt ≤ 122)) := by
  by_cases h : 0 ≤ x.toInt ∧ x.toInt < 128
  · obtain ⟨k, rfl⟩ := own_fin (N := 128) h.1 h.2
    revert k; decide +kernel
  · have h1 := c_iadd x 32
    have h2 := rng32 x
    have h3 := rng32 (x + 32)
    have h4 : (32 : Int32).toInt = 32 := rfl
    rcases own_or32' x with e | e <;> rw [e] <;> omega
theorem d1_0 : decode prog_53_method_5_code 0 = .ok (.iload_n 0, 1) := by decide +kernel
theorem d1_1 : decode prog_53_method_5_code 1 = .ok (.bipush 48, 2) := by decide +kernel
theorem d1_3 : decode prog_53_method_5_code 3 = .ok (.if_icmp .lt 9, 3) := by decide +kernel
theorem d1_6 : decode prog_53_method_5_code 6 = .ok (.iload_n 0, 1) := by decide +kernel
theorem d1_7 : decode prog_53_method_5_code 7 = .ok (.bipush 57, 2) := by decide +kernel
theorem d1_9 : decode prog_53_method_5_code 9 = .ok (.if_icmp .le 27, 3) := by decide +kernel
theorem d1_12 : decode prog_53_method_5_code 12 = .ok (.iload_n 0, 1) := by decide +kernel
theorem d1_13 : decode prog_53_method_5_code 13 = .ok (.bipush 65, 2) := by decide +kernel
theorem d1_15 : decode prog_53_method_5_code 15 = .ok (.if_icmp .lt 9, 3) := by decide +kernel
theorem d1_18 : decode prog_53_method_5_code 18 = .ok (.iload_n 0, 1) := by decide +kernel
theorem d1_19 : decode prog_53_method_5_code 19 = .ok (.bipush 90, 2) := by decide +kernel
theorem d1_21 : decode prog_53_method_5_code 21 = .ok (.if_icmp .le 15, 3) := by decide +kernel
theorem d1_24 : decode prog_53_method_5_code 24 = .ok (.iload_n 0, 1) := by decide +kernel
theorem d1_25 : decode prog_53_method_5_code 25 = .ok (.bipush 97, 2) := by decide +kernel
theorem d1_27 : decode prog_53_method_5_code 27 = .ok (.if_icmp .lt 13, 3) := by decide +kernel
theorem d1_30 : decode prog_53_method_5_code 30 = .ok (.iload_n 0, 1) := by decide +kernel
theorem d1_31 : decode prog_53_method_5_code 31 = .ok (.bipush 122, 2) := by decide +kernel
theorem d1_33 : decode prog_53_method_5_code 33 = .ok (.if_icmp .gt 7, 3) := by decide +kernel
theorem d1_36 : decode prog_53_method_5_code 36 = .ok (.iconst 1, 1) := by decide +kernel
theorem d1_37 : decode prog_53_method_5_code 37 = .ok (.goto 4, 3) := by decide +kernel
theorem d1_40 : decode prog_53_method_5_code 40 = .ok (.iconst 0, 1) := by decide +kernel
theorem d1_41 : decode prog_53_method_5_code 41 = .ok (.ireturn, 1) := by decide +kernel
theorem pn_1 : plainName "com/example/renkei/renkei/MessagePath" = true := by first | (simp [plainName, overriddenIn]; done) | decide +kernel
theorem ef_1 (m : MethodId) (a : Int32) : entryFrame m #[(.int a)] 1 = mkF m 0 #[.val (.int a)] [] := by first | (simp [entryFrame, mkF, argsToLocals, Value.category]; done) | rfl
def Q1 (Z : State) (a : Int32) (h0 : Heap) (n0 : Nat) (v : Option Value) (h : Heap) (L : List Loc) : Prop := Fr n0 L ∧ h = h0 ∧ (∃ z : Int32, v = some (.int z) ∧ ((z.toInt = 1 ∧ ((48 ≤ a.toInt ∧ a.toInt ≤ 57) ∨ (65 ≤ a.toInt ∧ a.toInt ≤ 90) ∨ (97 ≤ a.toInt ∧ a.toInt ≤ 122))) ∨ (z.toInt = 0 ∧ ¬ ((48 ≤ a.toInt ∧ a.toInt ≤ 57) ∨ (65 ≤ a.toInt ∧ a.toInt ≤ 90) ∨ (97 ≤ a.toInt ∧ a.toInt ≤ 122)))))
set_option maxRecDepth 65536 in
set_option maxHeartbeats 40000000 in
theorem rm1 (l : Launch) (Z : State) (a0 : Array Value) (hw : ∀ d ∈ tables_1, d.before a0 Z = true) (ws : List Jvm.Cond) (a : Int32) (h0 : Heap) (n0 : Nat) (Zs : n0 ≤ h0.size) :
    MetFree l (⟨"com/example/renkei/renkei/MessagePath", "isIdCharacter", "(I)Z"⟩ : MethodName) (head1 (Jvm.Cond.code (⟨"com/example/renkei/renkei/MessagePath", "isIdCharacter", "(I)Z"⟩ : MethodName) prog_53_method_5_code 1 (some .boolean) :: ws) ({ frames := 0, cells := 0, slots := 0, locals := 0 } : Room)) (fun as' U => as' = #[(.int a)] ∧ Z.Warmed39 U.vm ∧ U.heap = h0) (fun _ _ _ _ _ => True) (fun _ U o U' => ∃ v L, o = .returned v ∧ Q1 Z a h0 n0 v U'.heap L ∧ FrameEnd U o U' L ({ frames := 0, cells := 0, slots := 0, locals := 0 } : Room).cells ({ frames := 0, cells := 0, slots := 0, locals := 0 } : Room).slots) := by
  refine MetFree.of_bodySF (plainFor_of_name pn_1) hisR ?_
  intro p e s m args below meth c s₁ Bd hml0 hP hK
  obtain ⟨rfl, hZ, hh⟩ := hP
  have hx := Bd.exec
  have hby := Bd.bytes
  have hml : c.maxLocals = 1 := hml0
  have hown : s.vm.findClass "com/example/renkei/renkei/MessagePath" = some m.cls := findClass_of_methodNamed Bd.named
  have hnm := (name_of_methodNamed Bd.named Bd.method).1
  have hlk : meth.locks = false := Bd.notSynchronized
  have X0 : Stand p l e ({ frames := 0, cells := 0, slots := 0, locals := 0 } : Room) s m #[(.int a)] below meth c s₁ [] 0 0 := Stand.of_body Bd
  have e0 : s₁.heap = h0 := by rw [← hh, Bd.state]; rfl
  have Nf := Fr.nil n0
  refine (?_ : Win p.tables e below (PostQ s (Q1 Z a h0 n0) ({ frames := 0, cells := 0, slots := 0, locals := 0 } : Room).cells ({ frames := 0, cells := 0, slots := 0, locals := 0 } : Room).slots) (s₁.setTop (entryFrame m #[(.int a)] 1)))
  rw [ef_1]
  show Win p.tables e below _ (s₁.setTop (mkF m 0 #[.val (.int a)] []))
  refine s_iloadN (pc' := 1) X0.here hx (hb hby d1_0) rfl rfl ?_
  refine s_bipush (pc' := 3) (z := (48 : Int32)) X0.here hx (hb hby d1_1) rfl rfl ?_
  by_cases hc3 : (a).toInt < (48 : Int)
  · skip
    refine s_icmpYes (pc' := 12) X0.here hx (hb hby d1_3) (tltI (x := a) (y := (48 : Int32)) hc3).1 (by decide) (by decide) ?_
    refine s_iloadN (pc' := 13) X0.here hx (hb hby d1_12) rfl rfl ?_
    refine s_bipush (pc' := 15) (z := (65 : Int32)) X0.here hx (hb hby d1_13) rfl rfl ?_
    by_cases hc15 : (a).toInt < (65 : Int)
    · skip
      refine s_icmpYes (pc' := 24) X0.here hx (hb hby d1_15) (tltI (x := a) (y := (65 : Int32)) hc15).1 (by decide) (by decide) ?_
      refine s_iloadN (pc' := 25) X0.here hx (hb hby d1_24) rfl rfl ?_
      refine s_bipush (pc' := 27) (z := (97 : Int32)) X0.here hx (hb hby d1_25) rfl rfl ?_
      by_cases hc27 : (a).toInt < (97 : Int)
      · skip
        refine s_icmpYes (pc' := 40) X0.here hx (hb hby d1_27) (tltI (x := a) (y := (97 : Int32)) hc27).1 (by decide) (by decide) ?_
        refine s_iconst (pc' := 41) (z := (0 : Int32)) X0.here hx (hb hby d1_40) rfl rfl ?_
        refine winN X0 hx hlk e0 (t := .boolean) Bd.returns (by simp) (hb hby d1_41) (by decide) (by decide) (z' := (0 : Int32)) rfl ?_
        refine ⟨Nf, rfl, _, rfl, Or.inr ⟨rfl, ?_⟩⟩
        omega
      · skip
        refine s_icmpNo (pc' := 30) X0.here hx (hb hby d1_27) rfl (fltI (x := a) (y := (97 : Int32)) hc27).1 ?_
        refine s_iloadN (pc' := 31) X0.here hx (hb hby d1_30) rfl rfl ?_
        refine s_bipush (pc' := 33) (z := (122 : Int32)) X0.here hx (hb hby d1_31) rfl rfl ?_
        by_cases hc33 : (122 : Int) < (a).toInt
        · skip
          refine s_icmpYes (pc' := 40) X0.here hx (hb hby d1_33) (tltI (x := (122 : Int32)) (y := a) hc33).2.2.1 (by decide) (by decide) ?_
          refine s_iconst (pc' := 41) (z := (0 : Int32)) X0.here hx (hb hby d1_40) rfl rfl ?_
          refine winN X0 hx hlk e0 (t := .boolean) Bd.returns (by simp) (hb hby d1_41) (by decide) (by decide) (z' := (0 : Int32)) rfl ?_
          refine ⟨Nf, rfl, _, rfl, Or.inr ⟨rfl, ?_⟩⟩
          omega
        · skip
          refine s_icmpNo (pc' := 36) X0.here hx (hb hby d1_33) rfl (fltI (x := (122 : Int32)) (y := a) hc33).2.2.1 ?_
          refine s_iconst (pc' := 37) (z := (1 : Int32)) X0.here hx (hb hby d1_36) rfl rfl ?_
          refine s_goto (pc' := 41) X0.here hx (hb hby d1_37) (by decide) (by decide) ?_
          refine winN X0 hx hlk e0 (t := .boolean) Bd.returns (by simp) (hb hby d1_41) (by decide) (by decide) (z' := (1 : Int32)) rfl ?_
          refine ⟨Nf, rfl, _, rfl, Or.inl ⟨rfl, ?_⟩⟩
          omega
    · skip
      refine s_icmpNo (pc' := 18) X0.here hx (hb hby d1_15) rfl (fltI (x := a) (y := (65 : Int32)) hc15).1 ?_
      refine s_iloadN (pc' := 19) X0.here hx (hb hby d1_18) rfl rfl ?_
      refine s_bipush (pc' := 21) (z := (90 : Int32)) X0.here hx (hb hby d1_19) rfl rfl ?_
      by_cases hc21 : (90 : Int) < (a).toInt
      · skip
        refine s_icmpNo (pc' := 24) X0.here hx (hb hby d1_21) rfl (tltI (x := (90 : Int32)) (y := a) hc21).2.2.2 ?_
        refine s_iloadN (pc' := 25) X0.here hx (hb hby d1_24) rfl rfl ?_
        refine s_bipush (pc' := 27) (z := (97 : Int32)) X0.here hx (hb hby d1_25) rfl rfl ?_
        by_cases hc27 : (a).toInt < (97 : Int)
        · skip
          refine s_icmpYes (pc' := 40) X0.here hx (hb hby d1_27) (tltI (x := a) (y := (97 : Int32)) hc27).1 (by decide) (by decide) ?_
          refine s_iconst (pc' := 41) (z := (0 : Int32)) X0.here hx (hb hby d1_40) rfl rfl ?_
          refine winN X0 hx hlk e0 (t := .boolean) Bd.returns (by simp) (hb hby d1_41) (by decide) (by decide) (z' := (0 : Int32)) rfl ?_
          refine ⟨Nf, rfl, _, rfl, Or.inr ⟨rfl, ?_⟩⟩
          omega
        · skip
          refine s_icmpNo (pc' := 30) X0.here hx (hb hby d1_27) rfl (fltI (x := a) (y := (97 : Int32)) hc27).1 ?_
          refine s_iloadN (pc' := 31) X0.here hx (hb hby d1_30) rfl rfl ?_
          refine s_bipush (pc' := 33) (z := (122 : Int32)) X0.here hx (hb hby d1_31) rfl rfl ?_
          by_cases hc33 : (122 : Int) < (a).toInt
          · skip
            refine s_icmpYes (pc' := 40) X0.here hx (hb hby d1_33) (tltI (x := (122 : Int32)) (y := a) hc33).2.2.1 (by decide) (by decide) ?_
            refine s_iconst (pc' := 41) (z := (0 : Int32)) X0.here hx (hb hby d1_40) rfl rfl ?_
            refine winN X0 hx hlk e0 (t := .boolean) Bd.returns (by simp) (hb hby d1_41) (by decide) (by decide) (z' := (0 : Int32)) rfl ?_
            refine ⟨Nf, rfl, _, rfl, Or.inr ⟨rfl, ?_⟩⟩
            omega
          · skip
            refine s_icmpNo (pc' := 36) X0.here hx (hb hby d1_33) rfl (fltI (x := (122 : Int32)) (y := a) hc33).2.2.1 ?_
            refine s_iconst (pc' := 37) (z := (1 : Int32)) X0.here hx (hb hby d1_36) rfl rfl ?_
            refine s_goto (pc' := 41) X0.here hx (hb hby d1_37) (by decide) (by decide) ?_
            refine winN X0 hx hlk e0 (t := .boolean) Bd.returns (by simp) (hb hby d1_41) (by decide) (by decide) (z' := (1 : Int32)) rfl ?_
            refine ⟨Nf, rfl, _, rfl, Or.inl ⟨rfl, ?_⟩⟩
            omega
      · skip
        refine s_icmpYes (pc' := 36) X0.here hx (hb hby d1_21) (fltI (x := (90 : Int32)) (y := a) hc21).2.2.2 (by decide) (by decide) ?_
        refine s_iconst (pc' := 37) (z := (1 : Int32)) X0.here hx (hb hby d1_36) rfl rfl ?_
        refine s_goto (pc' := 41) X0.here hx (hb hby d1_37) (by decide) (by decide) ?_
        refine winN X0 hx hlk e0 (t := .boolean) Bd.returns (by simp) (hb hby d1_41) (by decide) (by decide) (z' := (1 : Int32)) rfl ?_
        refine ⟨Nf, rfl, _, rfl, Or.inl ⟨rfl, ?_⟩⟩
        omega
  · skip
    refine s_icmpNo (pc' := 6) X0.here hx (hb hby d1_3) rfl (fltI (x := a) (y := (48 : Int32)) hc3).1 ?_
    refine s_iloadN (pc' := 7) X0.here hx (hb hby d1_6) rfl rfl ?_
    refine s_bipush (pc' := 9) (z := (57 : Int32)) X0.here hx (hb hby d1_7) rfl rfl ?_
    by_cases hc9 : (57 : Int) < (a).toInt
    · skip
      refine s_icmpNo (pc' := 12) X0.here hx (hb hby d1_9) rfl (tltI (x := (57 : Int32)) (y := a) hc9).2.2.2 ?_
      refine s_iloadN (pc' := 13) X0.here hx (hb hby d1_12) rfl rfl ?_
      refine s_bipush (pc' := 15) (z := (65 : Int32)) X0.here hx (hb hby d1_13) rfl rfl ?_
      by_cases hc15 : (a).toInt < (65 : Int)
      · skip
        refine s_icmpYes (pc' := 24) X0.here hx (hb hby d1_15) (tltI (x := a) (y := (65 : Int32)) hc15).1 (by decide) (by decide) ?_
        refine s_iloadN (pc' := 25) X0.here hx (hb hby d1_24) rfl rfl ?_
        refine s_bipush (pc' := 27) (z := (97 : Int32)) X0.here hx (hb hby d1_25) rfl rfl ?_
        by_cases hc27 : (a).toInt < (97 : Int)
        · skip
          refine s_icmpYes (pc' := 40) X0.here hx (hb hby d1_27) (tltI (x := a) (y := (97 : Int32)) hc27).1 (by decide) (by decide) ?_
          refine s_iconst (pc' := 41) (z := (0 : Int32)) X0.here hx (hb hby d1_40) rfl rfl ?_
          refine winN X0 hx hlk e0 (t := .boolean) Bd.returns (by simp) (hb hby d1_41) (by decide) (by decide) (z' := (0 : Int32)) rfl ?_
          refine ⟨Nf, rfl, _, rfl, Or.inr ⟨rfl, ?_⟩⟩
          omega
        · skip
          refine s_icmpNo (pc' := 30) X0.here hx (hb hby d1_27) rfl (fltI (x := a) (y := (97 : Int32)) hc27).1 ?_
          refine s_iloadN (pc' := 31) X0.here hx (hb hby d1_30) rfl rfl ?_
          refine s_bipush (pc' := 33) (z := (122 : Int32)) X0.here hx (hb hby d1_31) rfl rfl ?_
          by_cases hc33 : (122 : Int) < (a).toInt
          · skip
            refine s_icmpYes (pc' := 40) X0.here hx (hb hby d1_33) (tltI (x := (122 : Int32)) (y := a) hc33).2.2.1 (by decide) (by decide) ?_
            refine s_iconst (pc' := 41) (z := (0 : Int32)) X0.here hx (hb hby d1_40) rfl rfl ?_
            refine winN X0 hx hlk e0 (t := .boolean) Bd.returns (by simp) (hb hby d1_41) (by decide) (by decide) (z' := (0 : Int32)) rfl ?_
            refine ⟨Nf, rfl, _, rfl, Or.inr ⟨rfl, ?_⟩⟩
            omega
          · skip
            refine s_icmpNo (pc' := 36) X0.here hx (hb hby d1_33) rfl (fltI (x := (122 : Int32)) (y := a) hc33).2.2.1 ?_
            refine s_iconst (pc' := 37) (z := (1 : Int32)) X0.here hx (hb hby d1_36) rfl rfl ?_
            refine s_goto (pc' := 41) X0.here hx (hb hby d1_37) (by decide) (by decide) ?_
            refine winN X0 hx hlk e0 (t := .boolean) Bd.returns (by simp) (hb hby d1_41) (by decide) (by decide) (z' := (1 : Int32)) rfl ?_
            refine ⟨Nf, rfl, _, rfl, Or.inl ⟨rfl, ?_⟩⟩
            omega
      · skip
        refine s_icmpNo (pc' := 18) X0.here hx (hb hby d1_15) rfl (fltI (x := a) (y := (65 : Int32)) hc15).1 ?_
        refine s_iloadN (pc' := 19) X0.here hx (hb hby d1_18) rfl rfl ?_
        refine s_bipush (pc' := 21) (z := (90 : Int32)) X0.here hx (hb hby d1_19) rfl rfl ?_
        by_cases hc21 : (90 : Int) < (a).toInt
        · skip
          refine s_icmpNo (pc' := 24) X0.here hx (hb hby d1_21) rfl (tltI (x := (90 : Int32)) (y := a) hc21).2.2.2 ?_
          refine s_iloadN (pc' := 25) X0.here hx (hb hby d1_24) rfl rfl ?_
          refine s_bipush (pc' := 27) (z := (97 : Int32)) X0.here hx (hb hby d1_25) rfl rfl ?_
          by_cases hc27 : (a).toInt < (97 : Int)
          · skip
            refine s_icmpYes (pc' := 40) X0.here hx (hb hby d1_27) (tltI (x := a) (y := (97 : Int32)) hc27).1 (by decide) (by decide) ?_
            refine s_iconst (pc' := 41) (z := (0 : Int32)) X0.here hx (hb hby d1_40) rfl rfl ?_
            refine winN X0 hx hlk e0 (t := .boolean) Bd.returns (by simp) (hb hby d1_41) (by decide) (by decide) (z' := (0 : Int32)) rfl ?_
            refine ⟨Nf, rfl, _, rfl, Or.inr ⟨rfl, ?_⟩⟩
            omega
          · skip
            refine s_icmpNo (pc' := 30) X0.here hx (hb hby d1_27) rfl (fltI (x := a) (y := (97 : Int32)) hc27).1 ?_
            refine s_iloadN (pc' := 31) X0.here hx (hb hby d1_30) rfl rfl ?_
            refine s_bipush (pc' := 33) (z := (122 : Int32)) X0.here hx (hb hby d1_31) rfl rfl ?_
            by_cases hc33 : (122 : Int) < (a).toInt
            · skip
              refine s_icmpYes (pc' := 40) X0.here hx (hb hby d1_33) (tltI (x := (122 : Int32)) (y := a) hc33).2.2.1 (by decide) (by decide) ?_
              refine s_iconst (pc' := 41) (z := (0 : Int32)) X0.here hx (hb hby d1_40) rfl rfl ?_
              refine winN X0 hx hlk e0 (t := .boolean) Bd.returns (by simp) (hb hby d1_41) (by decide) (by decide) (z' := (0 : Int32)) rfl ?_
              refine ⟨Nf, rfl, _, rfl, Or.inr ⟨rfl, ?_⟩⟩
              omega
            · skip
              refine s_icmpNo (pc' := 36) X0.here hx (hb hby d1_33) rfl (fltI (x := (122 : Int32)) (y := a) hc33).2.2.1 ?_
              refine s_iconst (pc' := 37) (z := (1 : Int32)) X0.here hx (hb hby d1_36) rfl rfl ?_
              refine s_goto (pc' := 41) X0.here hx (hb hby d1_37) (by decide) (by decide) ?_
              refine winN X0 hx hlk e0 (t := .boolean) Bd.returns (by simp) (hb hby d1_41) (by decide) (by decide) (z' := (1 : Int32)) rfl ?_
              refine ⟨Nf, rfl, _, rfl, Or.inl ⟨rfl, ?_⟩⟩
              omega
        · skip
          refine s_icmpYes (pc' := 36) X0.here hx (hb hby d1_21) (fltI (x := (90 : Int32)) (y := a) hc21).2.2.2 (by decide) (by decide) ?_
          refine s_iconst (pc' := 37) (z := (1 : Int32)) X0.here hx (hb hby d1_36) rfl rfl ?_
          refine s_goto (pc' := 41) X0.here hx (hb hby d1_37) (by decide) (by decide) ?_
          refine winN X0 hx hlk e0 (t := .boolean) Bd.returns (by simp) (hb hby d1_41) (by decide) (by decide) (z' := (1 : Int32)) rfl ?_
          refine ⟨Nf, rfl, _, rfl, Or.inl ⟨rfl, ?_⟩⟩
          omega
    · skip
      refine s_icmpYes (pc' := 36) X0.here hx (hb hby d1_9) (fltI (x := (57 : Int32)) (y := a) hc9).2.2.2 (by decide) (by decide) ?_
      refine s_iconst (pc' := 37) (z := (1 : Int32)) X0.here hx (hb hby d1_36) rfl rfl ?_
      refine s_goto (pc' := 41) X0.here hx (hb hby d1_37) (by decide) (by decide) ?_
      refine winN X0 hx hlk e0 (t := .boolean) Bd.returns (by simp) (hb hby d1_41) (by decide) (by decide) (z' := (1 : Int32)) rfl ?_
      refine ⟨Nf, rfl, _, rfl, Or.inl ⟨rfl, ?_⟩⟩
      omega
theorem d2_0 : decode method_2_code 0 = .ok (.iload_n 0, 1) := by decide +kernel
theorem d2_1 : decode method_2_code 1 = .ok (.i2l, 1) := by decide +kernel
theorem d2_2 : decode method_2_code 2 = .ok (.ldc2_w 7, 3) := by decide +kernel
theorem d2_5 : decode method_2_code 5 = .ok (.lsub, 1) := by decide +kernel
theorem d2_6 : decode method_2_code 6 = .ok (.lstore_n 1, 1) := by decide +kernel
theorem d2_7 : decode method_2_code 7 = .ok (.lload_n 1, 1) := by decide +kernel
theorem d2_8 : decode method_2_code 8 = .ok (.lconst 0, 1) := by decide +kernel
theorem d2_9 : decode method_2_code 9 = .ok (.lcmp, 1) := by decide +kernel
theorem d2_10 : decode method_2_code 10 = .ok (.ifCond .lt 15, 3) := by decide +kernel
theorem d2_13 : decode method_2_code 13 = .ok (.lload_n 1, 1) := by decide +kernel
theorem d2_14 : decode method_2_code 14 = .ok (.ldc2_w 9, 3) := by decide +kernel
theorem d2_17 : decode method_2_code 17 = .ok (.lcmp, 1) := by decide +kernel
theorem d2_18 : decode method_2_code 18 = .ok (.ifCond .ge 7, 3) := by decide +kernel
theorem d2_21 : decode method_2_code 21 = .ok (.iconst 1, 1) := by decide +kernel
theorem d2_22 : decode method_2_code 22 = .ok (.goto 4, 3) := by decide +kernel
theorem d2_25 : decode method_2_code 25 = .ok (.iconst 0, 1) := by decide +kernel
theorem d2_26 : decode method_2_code 26 = .ok (.istore_n 3, 1) := by decide +kernel
theorem d2_27 : decode method_2_code 27 = .ok (.iload_n 0, 1) := by decide +kernel
theorem d2_28 : decode method_2_code 28 = .ok (.bipush 32, 2) := by decide +kernel
theorem d2_30 : decode method_2_code 30 = .ok (.ior, 1) := by decide +kernel
theorem d2_31 : decode method_2_code 31 = .ok (.i2l, 1) := by decide +kernel
theorem d2_32 : decode method_2_code 32 = .ok (.ldc2_w 11, 3) := by decide +kernel
theorem d2_35 : decode method_2_code 35 = .ok (.lsub, 1) := by decide +kernel
theorem d2_36 : decode method_2_code 36 = .ok (.lstore 4, 2) := by decide +kernel
theorem d2_38 : decode method_2_code 38 = .ok (.lload 4, 2) := by decide +kernel
theorem d2_40 : decode method_2_code 40 = .ok (.lconst 0, 1) := by decide +kernel
theorem d2_41 : decode method_2_code 41 = .ok (.lcmp, 1) := by decide +kernel
theorem d2_42 : decode method_2_code 42 = .ok (.ifCond .lt 16, 3) := by decide +kernel
theorem d2_45 : decode method_2_code 45 = .ok (.lload 4, 2) := by decide +kernel
theorem d2_47 : decode method_2_code 47 = .ok (.ldc2_w 13, 3) := by decide +kernel
theorem d2_50 : decode method_2_code 50 = .ok (.lcmp, 1) := by decide +kernel
theorem d2_51 : decode method_2_code 51 = .ok (.ifCond .ge 7, 3) := by decide +kernel
theorem d2_54 : decode method_2_code 54 = .ok (.iconst 1, 1) := by decide +kernel
theorem d2_55 : decode method_2_code 55 = .ok (.goto 4, 3) := by decide +kernel
theorem d2_58 : decode method_2_code 58 = .ok (.iconst 0, 1) := by decide +kernel
theorem d2_59 : decode method_2_code 59 = .ok (.istore 6, 2) := by decide +kernel
theorem d2_61 : decode method_2_code 61 = .ok (.iload_n 3, 1) := by decide +kernel
theorem d2_62 : decode method_2_code 62 = .ok (.ifCond .ne 8, 3) := by decide +kernel
theorem d2_65 : decode method_2_code 65 = .ok (.iload 6, 2) := by decide +kernel
theorem d2_67 : decode method_2_code 67 = .ok (.ifCond .eq 7, 3) := by decide +kernel
theorem d2_70 : decode method_2_code 70 = .ok (.iconst 1, 1) := by decide +kernel
theorem d2_71 : decode method_2_code 71 = .ok (.goto 4, 3) := by decide +kernel
theorem d2_74 : decode method_2_code 74 = .ok (.iconst 0, 1) := by decide +kernel
theorem d2_75 : decode method_2_code 75 = .ok (.ireturn, 1) := by decide +kernel
theorem pn_2 : plainName "com/example/renkei/renkei/MessagePathIsIdCharacterPinLaw" = true := by first | (simp [plainName, overriddenIn]; done) | decide +kernel
theorem ef_2 (m : MethodId) (a : Int32) : entryFrame m #[(.int a)] 7 = mkF m 0 #[.val (.int a), .unset, .unset, .unset, .unset, .unset, .unset] [] := by first | (simp [entryFrame, mkF, argsToLocals, Value.category]; done) | rfl
def Q2 (Z : State) (a : Int32) (h0 : Heap) (n0 : Nat) (v : Option Value) (h : Heap) (L : List Loc) : Prop := Fr n0 L ∧ h = h0 ∧ (∃ z : Int32, v = some (.int z) ∧ ((z.toInt = 1 ∧ ((48 ≤ a.toInt ∧ a.toInt ≤ 57) ∨ (65 ≤ a.toInt ∧ a.toInt ≤ 90) ∨ (97 ≤ a.toInt ∧ a.toInt ≤ 122))) ∨ (z.toInt = 0 ∧ ¬ ((48 ≤ a.toInt ∧ a.toInt ≤ 57) ∨ (65 ≤ a.toInt ∧ a.toInt ≤ 90) ∨ (97 ≤ a.toInt ∧ a.toInt ≤ 122)))))
set_option maxRecDepth 65536 in
set_option maxHeartbeats 40000000 in
theorem rm2 (l : Launch) (Z : State) (a0 : Array Value) (hw : ∀ d ∈ tables_1, d.before a0 Z = true) (ws : List Jvm.Cond) (a : Int32) (h0 : Heap) (n0 : Nat) (Zs : n0 ≤ h0.size) :
    MetFree l (⟨"com/example/renkei/renkei/MessagePathIsIdCharacterPinLaw", "expected", "(I)Z"⟩ : MethodName) (head1 (Jvm.Cond.code (⟨"com/example/renkei/renkei/MessagePathIsIdCharacterPinLaw", "expected", "(I)Z"⟩ : MethodName) method_2_code 7 (some .boolean) :: ws) ({ frames := 0, cells := 0, slots := 0, locals := 0 } : Room)) (fun as' U => as' = #[(.int a)] ∧ Z.Warmed39 U.vm ∧ U.heap = h0) (fun _ _ _ _ _ => True) (fun _ U o U' => ∃ v L, o = .returned v ∧ Q2 Z a h0 n0 v U'.heap L ∧ FrameEnd U o U' L ({ frames := 0, cells := 0, slots := 0, locals := 0 } : Room).cells ({ frames := 0, cells := 0, slots := 0, locals := 0 } : Room).slots) := by
  refine MetFree.of_bodySF (plainFor_of_name pn_2) hisR ?_
  intro p e s m args below meth c s₁ Bd hml0 hP hK
  obtain ⟨rfl, hZ, hh⟩ := hP
  have hx := Bd.exec
  have hby := Bd.bytes
  have hml : c.maxLocals = 7 := hml0
  have hown : s.vm.findClass "com/example/renkei/renkei/MessagePathIsIdCharacterPinLaw" = some m.cls := findClass_of_methodNamed Bd.named
  have hnm := (name_of_methodNamed Bd.named Bd.method).1
  have hlk : meth.locks = false := Bd.notSynchronized
  have X0 : Stand p l e ({ frames := 0, cells := 0, slots := 0, locals := 0 } : Room) s m #[(.int a)] below meth c s₁ [] 0 0 := Stand.of_body Bd
  have e0 : s₁.heap = h0 := by rw [← hh, Bd.state]; rfl
  have Nf := Fr.nil n0
  refine (?_ : Win p.tables e below (PostQ s (Q2 Z a h0 n0) ({ frames := 0, cells := 0, slots := 0, locals := 0 } : Room).cells ({ frames := 0, cells := 0, slots := 0, locals := 0 } : Room).slots) (s₁.setTop (entryFrame m #[(.int a)] 7)))
  rw [ef_2]
  show Win p.tables e below _ (s₁.setTop (mkF m 0 #[.val (.int a), .unset, .unset, .unset, .unset, .unset, .unset] []))
  refine s_iloadN (pc' := 1) X0.here hx (hb hby d2_0) rfl rfl ?_
  refine Win.go (fun _ k => XS.i2l X0.here hx rfl (hb hby d2_1) rfl k) ?_
  show Win p.tables e below _ (s₁.setTop (mkF m 2 #[.val (.int a), .unset, .unset, .unset, .unset, .unset, .unset] [(.long (a.toInt64))]))
  refine Win.go (fun _ k => X0.ldc2Long hx hown (mvT hZ (hw _ (List.mem_of_getElem? (i := 8) rfl))) (g := (mkF m 2 #[.val (.int a), .unset, .unset, .unset, .unset, .unset, .unset] [(.long (a.toInt64))])) rfl (hb hby d2_2) _ k) ?_
  show Win p.tables e below _ (s₁.setTop (mkF m 5 #[.val (.int a), .unset, .unset, .unset, .unset, .unset, .unset] [(.long (48 : Int64)), (.long (a.toInt64))]))
  refine s_lsub (pc' := 6) X0.here hx (hb hby d2_5) rfl ?_
  refine s_lstoreN (pc' := 7) (l' := #[.val (.int a), .val (.long ((a.toInt64) - (48 : Int64))), .second, .unset, .unset, .unset, .unset]) X0.here hx (hb hby d2_6) rfl rfl ?_
  generalize hd : ((a.toInt64) - (48 : Int64)) = d
  show Win p.tables e below _ (s₁.setTop (mkF m 7 #[.val (.int a), .val (.long d), .second, .unset, .unset, .unset, .unset] []))
  have fd : d.toInt = a.toInt - 48 := by
    have h1 := c_lsub a.toInt64 48
    rw [hd, c_i2l] at h1
    have h2 := rng32 a
    have h3 := rng64 d
    have h4 : (48 : Int64).toInt = 48 := rfl
    omega
  refine s_lloadN (pc' := 8) X0.here hx (hb hby d2_7) rfl rfl ?_
  refine s_lconst (pc' := 9) (z := (0 : Int64)) X0.here hx (hb hby d2_8) rfl rfl ?_
  refine s_lcmp (pc' := 10) X0.here hx (hb hby d2_9) rfl ?_
  by_cases hc10 : (d).toInt < (0 : Int)
  · skip
    refine s_ifYes (pc' := 25) X0.here hx (hb hby d2_10) (tltL (x := d) (y := (0 : Int64)) hc10).1 (by decide) (by decide) ?_
    refine s_iconst (pc' := 26) (z := (0 : Int32)) X0.here hx (hb hby d2_25) rfl rfl ?_
    refine s_istoreN (pc' := 27) (l' := #[.val (.int a), .val (.long d), .second, .val (.int (0 : Int32)), .unset, .unset, .unset]) X0.here hx (hb hby d2_26) rfl rfl ?_
    refine s_iloadN (pc' := 28) X0.here hx (hb hby d2_27) rfl rfl ?_
    refine s_bipush (pc' := 30) (z := (32 : Int32)) X0.here hx (hb hby d2_28) rfl rfl ?_
    refine s_ior (pc' := 31) X0.here hx (hb hby d2_30) rfl ?_
    refine Win.go (fun _ k => XS.i2l X0.here hx rfl (hb hby d2_31) rfl k) ?_
    show Win p.tables e below _ (s₁.setTop (mkF m 32 #[.val (.int a), .val (.long d), .second, .val (.int (0 : Int32)), .unset, .unset, .unset] [(.long ((a ||| (32 : Int32)).toInt64))]))
    refine Win.go (fun _ k => X0.ldc2Long hx hown (mvT hZ (hw _ (List.mem_of_getElem? (i := 9) rfl))) (g := (mkF m 32 #[.val (.int a), .val (.long d), .second, .val (.int (0 : Int32)), .unset, .unset, .unset] [(.long ((a ||| (32 : Int32)).toInt64))])) rfl (hb hby d2_32) _ k) ?_
    show Win p.tables e below _ (s₁.setTop (mkF m 35 #[.val (.int a), .val (.long d), .second, .val (.int (0 : Int32)), .unset, .unset, .unset] [(.long (97 : Int64)), (.long ((a ||| (32 : Int32)).toInt64))]))
    refine s_lsub (pc' := 36) X0.here hx (hb hby d2_35) rfl ?_
    refine s_lstore (pc' := 38) (l' := #[.val (.int a), .val (.long d), .second, .val (.int (0 : Int32)), .val (.long (((a ||| (32 : Int32)).toInt64) - (97 : Int64))), .second, .unset]) X0.here hx (hb hby d2_36) rfl rfl ?_
    generalize hf : (((a ||| (32 : Int32)).toInt64) - (97 : Int64)) = f
    show Win p.tables e below _ (s₁.setTop (mkF m 38 #[.val (.int a), .val (.long d), .second, .val (.int (0 : Int32)), .val (.long f), .second, .unset] []))
    have ff : f.toInt = (a ||| 32).toInt - 97 := by
      have h1 := c_lsub (a ||| 32).toInt64 97
      rw [hf, c_i2l] at h1
      have h2 := rng32 (a ||| 32)
      have h3 := rng64 f
      have h4 : (97 : Int64).toInt = 97 := rfl
      omega
    have fo := own_or32 a
    refine s_lload (pc' := 40) X0.here hx (hb hby d2_38) rfl rfl ?_
    refine s_lconst (pc' := 41) (z := (0 : Int64)) X0.here hx (hb hby d2_40) rfl rfl ?_
    refine s_lcmp (pc' := 42) X0.here hx (hb hby d2_41) rfl ?_
    by_cases hc42 : (f).toInt < (0 : Int)
    · skip
      refine s_ifYes (pc' := 58) X0.here hx (hb hby d2_42) (tltL (x := f) (y := (0 : Int64)) hc42).1 (by decide) (by decide) ?_
      refine s_iconst (pc' := 59) (z := (0 : Int32)) X0.here hx (hb hby d2_58) rfl rfl ?_
      refine s_istore (pc' := 61) (l' := #[.val (.int a), .val (.long d), .second, .val (.int (0 : Int32)), .val (.long f), .second, .val (.int (0 : Int32))]) X0.here hx (hb hby d2_59) rfl rfl ?_
      refine s_iloadN (pc' := 62) X0.here hx (hb hby d2_61) rfl rfl ?_
      refine s_ifNo (pc' := 65) X0.here hx (hb hby d2_62) rfl ((if0 _ _).trans (teqI (x := (0 : Int32)) (y := (0 : Int32)) (by decide)).2) ?_
      refine s_iload (pc' := 67) X0.here hx (hb hby d2_65) rfl rfl ?_
      refine s_ifYes (pc' := 74) X0.here hx (hb hby d2_67) ((if0 _ _).trans (teqI (x := (0 : Int32)) (y := (0 : Int32)) (by decide)).1) (by decide) (by decide) ?_
      refine s_iconst (pc' := 75) (z := (0 : Int32)) X0.here hx (hb hby d2_74) rfl rfl ?_
      refine winN X0 hx hlk e0 (t := .boolean) Bd.returns (by simp) (hb hby d2_75) (by decide) (by decide) (z' := (0 : Int32)) rfl ?_
      refine ⟨Nf, rfl, _, rfl, Or.inr ⟨rfl, ?_⟩⟩
      omega
    · skip
      refine s_ifNo (pc' := 45) X0.here hx (hb hby d2_42) rfl (fltL (x := f) (y := (0 : Int64)) hc42).1 ?_
      refine s_lload (pc' := 47) X0.here hx (hb hby d2_45) rfl rfl ?_
      refine Win.go (fun _ k => X0.ldc2Long hx hown (mvT hZ (hw _ (List.mem_of_getElem? (i := 11) rfl))) (g := (mkF m 47 #[.val (.int a), .val (.long d), .second, .val (.int (0 : Int32)), .val (.long f), .second, .unset] [(.long f)])) rfl (hb hby d2_47) _ k) ?_
      show Win p.tables e below _ (s₁.setTop (mkF m 50 #[.val (.int a), .val (.long d), .second, .val (.int (0 : Int32)), .val (.long f), .second, .unset] [(.long (26 : Int64)), (.long f)]))
      refine s_lcmp (pc' := 51) X0.here hx (hb hby d2_50) rfl ?_
      by_cases hc51 : (f).toInt < (26 : Int)
      · skip
        refine s_ifNo (pc' := 54) X0.here hx (hb hby d2_51) rfl (tltL (x := f) (y := (26 : Int64)) hc51).2.1 ?_
        refine s_iconst (pc' := 55) (z := (1 : Int32)) X0.here hx (hb hby d2_54) rfl rfl ?_
        refine s_goto (pc' := 59) X0.here hx (hb hby d2_55) (by decide) (by decide) ?_
        refine s_istore (pc' := 61) (l' := #[.val (.int a), .val (.long d), .second, .val (.int (0 : Int32)), .val (.long f), .second, .val (.int (1 : Int32))]) X0.here hx (hb hby d2_59) rfl rfl ?_
        refine s_iloadN (pc' := 62) X0.here hx (hb hby d2_61) rfl rfl ?_
        refine s_ifNo (pc' := 65) X0.here hx (hb hby d2_62) rfl ((if0 _ _).trans (teqI (x := (0 : Int32)) (y := (0 : Int32)) (by decide)).2) ?_
        refine s_iload (pc' := 67) X0.here hx (hb hby d2_65) rfl rfl ?_
        refine s_ifNo (pc' := 70) X0.here hx (hb hby d2_67) rfl ((if0 _ _).trans (feqI (x := (1 : Int32)) (y := (0 : Int32)) (by decide)).1) ?_
        refine s_iconst (pc' := 71) (z := (1 : Int32)) X0.here hx (hb hby d2_70) rfl rfl ?_
        refine s_goto (pc' := 75) X0.here hx (hb hby d2_71) (by decide) (by decide) ?_
        refine winN X0 hx hlk e0 (t := .boolean) Bd.returns (by simp) (hb hby d2_75) (by decide) (by decide) (z' := (1 : Int32)) rfl ?_
        refine ⟨Nf, rfl, _, rfl, Or.inl ⟨rfl, ?_⟩⟩
        omega
      · skip
        refine s_ifYes (pc' := 58) X0.here hx (hb hby d2_51) (fltL (x := f) (y := (26 : Int64)) hc51).2.1 (by decide) (by decide) ?_
        refine s_iconst (pc' := 59) (z := (0 : Int32)) X0.here hx (hb hby d2_58) rfl rfl ?_
        refine s_istore (pc' := 61) (l' := #[.val (.int a), .val (.long d), .second, .val (.int (0 : Int32)), .val (.long f), .second, .val (.int (0 : Int32))]) X0.here hx (hb hby d2_59) rfl rfl ?_
        refine s_iloadN (pc' := 62) X0.here hx (hb hby d2_61) rfl rfl ?_
        refine s_ifNo (pc' := 65) X0.here hx (hb hby d2_62) rfl ((if0 _ _).trans (teqI (x := (0 : Int32)) (y := (0 : Int32)) (by decide)).2) ?_
        refine s_iload (pc' := 67) X0.here hx (hb hby d2_65) rfl rfl ?_
        refine s_ifYes (pc' := 74) X0.here hx (hb hby d2_67) ((if0 _ _).trans (teqI (x := (0 : Int32)) (y := (0 : Int32)) (by decide)).1) (by decide) (by decide) ?_
        refine s_iconst (pc' := 75) (z := (0 : Int32)) X0.here hx (hb hby d2_74) rfl rfl ?_
        refine winN X0 hx hlk e0 (t := .boolean) Bd.returns (by simp) (hb hby d2_75) (by decide) (by decide) (z' := (0 : Int32)) rfl ?_
        refine ⟨Nf, rfl, _, rfl, Or.inr ⟨rfl, ?_⟩⟩
        omega
  · skip
    refine s_ifNo (pc' := 13) X0.here hx (hb hby d2_10) rfl (fltL (x := d) (y := (0 : Int64)) hc10).1 ?_
    refine s_lloadN (pc' := 14) X0.here hx (hb hby d2_13) rfl rfl ?_
    refine Win.go (fun _ k => X0.ldc2Long hx hown (mvT hZ (hw _ (List.mem_of_getElem? (i := 10) rfl))) (g := (mkF m 14 #[.val (.int a), .val (.long d), .second, .unset, .unset, .unset, .unset] [(.long d)])) rfl (hb hby d2_14) _ k) ?_
    show Win p.tables e below _ (s₁.setTop (mkF m 17 #[.val (.int a), .val (.long d), .second, .unset, .unset, .unset, .unset] [(.long (10 : Int64)), (.long d)]))
    refine s_lcmp (pc' := 18) X0.here hx (hb hby d2_17) rfl ?_
    by_cases hc18 : (d).toInt < (10 : Int)
    · skip
      refine s_ifNo (pc' := 21) X0.here hx (hb hby d2_18) rfl (tltL (x := d) (y := (10 : Int64)) hc18).2.1 ?_
      refine s_iconst (pc' := 22) (z := (1 : Int32)) X0.here hx (hb hby d2_21) rfl rfl ?_
      refine s_goto (pc' := 26) X0.here hx (hb hby d2_22) (by decide) (by decide) ?_
      refine s_istoreN (pc' := 27) (l' := #[.val (.int a), .val (.long d), .second, .val (.int (1 : Int32)), .unset, .unset, .unset]) X0.here hx (hb hby d2_26) rfl rfl ?_
      refine s_iloadN (pc' := 28) X0.here hx (hb hby d2_27) rfl rfl ?_
      refine s_bipush (pc' := 30) (z := (32 : Int32)) X0.here hx (hb hby d2_28) rfl rfl ?_
      refine s_ior (pc' := 31) X0.here hx (hb hby d2_30) rfl ?_
      refine Win.go (fun _ k => XS.i2l X0.here hx rfl (hb hby d2_31) rfl k) ?_
      show Win p.tables e below _ (s₁.setTop (mkF m 32 #[.val (.int a), .val (.long d), .second, .val (.int (1 : Int32)), .unset, .unset, .unset] [(.long ((a ||| (32 : Int32)).toInt64))]))
      refine Win.go (fun _ k => X0.ldc2Long hx hown (mvT hZ (hw _ (List.mem_of_getElem? (i := 9) rfl))) (g := (mkF m 32 #[.val (.int a), .val (.long d), .second, .val (.int (1 : Int32)), .unset, .unset, .unset] [(.long ((a ||| (32 : Int32)).toInt64))])) rfl (hb hby d2_32) _ k) ?_
      show Win p.tables e below _ (s₁.setTop (mkF m 35 #[.val (.int a), .val (.long d), .second, .val (.int (1 : Int32)), .unset, .unset, .unset] [(.long (97 : Int64)), (.long ((a ||| (32 : Int32)).toInt64))]))
      refine s_lsub (pc' := 36) X0.here hx (hb hby d2_35) rfl ?_
      refine s_lstore (pc' := 38) (l' := #[.val (.int a), .val (.long d), .second, .val (.int (1 : Int32)), .val (.long (((a ||| (32 : Int32)).toInt64) - (97 : Int64))), .second, .unset]) X0.here hx (hb hby d2_36) rfl rfl ?_
      generalize hf : (((a ||| (32 : Int32)).toInt64) - (97 : Int64)) = f
      show Win p.tables e below _ (s₁.setTop (mkF m 38 #[.val (.int a), .val (.long d), .second, .val (.int (1 : Int32)), .val (.long f), .second, .unset] []))
      have ff : f.toInt = (a ||| 32).toInt - 97 := by
        have h1 := c_lsub (a ||| 32).toInt64 97
        rw [hf, c_i2l] at h1
        have h2 := rng32 (a ||| 32)
        have h3 := rng64 f
        have h4 : (97 : Int64).toInt = 97 := rfl
        omega
      have fo := own_or32 a
      refine s_lload (pc' := 40) X0.here hx (hb hby d2_38) rfl rfl ?_
      refine s_lconst (pc' := 41) (z := (0 : Int64)) X0.here hx (hb hby d2_40) rfl rfl ?_
      refine s_lcmp (pc' := 42) X0.here hx (hb hby d2_41) rfl ?_
      by_cases hc42 : (f).toInt < (0 : Int)
      · skip
        refine s_ifYes (pc' := 58) X0.here hx (hb hby d2_42) (tltL (x := f) (y := (0 : Int64)) hc42).1 (by decide) (by decide) ?_
        refine s_iconst (pc' := 59) (z := (0 : Int32)) X0.here hx (hb hby d2_58) rfl rfl ?_
        refine s_istore (pc' := 61) (l' := #[.val (.int a), .val (.long d), .second, .val (.int (1 : Int32)), .val (.long f), .second, .val (.int (0 : Int32))]) X0.here hx (hb hby d2_59) rfl rfl ?_
        refine s_iloadN (pc' := 62) X0.here hx (hb hby d2_61) rfl rfl ?_
        refine s_ifYes (pc' := 70) X0.here hx (hb hby d2_62) ((if0 _ _).trans (feqI (x := (1 : Int32)) (y := (0 : Int32)) (by decide)).2) (by decide) (by decide) ?_
        refine s_iconst (pc' := 71) (z := (1 : Int32)) X0.here hx (hb hby d2_70) rfl rfl ?_
        refine s_goto (pc' := 75) X0.here hx (hb hby d2_71) (by decide) (by decide) ?_
        refine winN X0 hx hlk e0 (t := .boolean) Bd.returns (by simp) (hb hby d2_75) (by decide) (by decide) (z' := (1 : Int32)) rfl ?_
        refine ⟨Nf, rfl, _, rfl, Or.inl ⟨rfl, ?_⟩⟩
        omega
      · skip
        refine s_ifNo (pc' := 45) X0.here hx (hb hby d2_42) rfl (fltL (x := f) (y := (0 : Int64)) hc42).1 ?_
        refine s_lload (pc' := 47) X0.here hx (hb hby d2_45) rfl rfl ?_
        refine Win.go (fun _ k => X0.ldc2Long hx hown (mvT hZ (hw _ (List.mem_of_getElem? (i := 11) rfl))) (g := (mkF m 47 #[.val (.int a), .val (.long d), .second, .val (.int (1 : Int32)), .val (.long f), .second, .unset] [(.long f)])) rfl (hb hby d2_47) _ k) ?_
        show Win p.tables e below _ (s₁.setTop (mkF m 50 #[.val (.int a), .val (.long d), .second, .val (.int (1 : Int32)), .val (.long f), .second, .unset] [(.long (26 : Int64)), (.long f)]))
        refine s_lcmp (pc' := 51) X0.here hx (hb hby d2_50) rfl ?_
        by_cases hc51 : (f).toInt < (26 : Int)
        · skip
          refine s_ifNo (pc' := 54) X0.here hx (hb hby d2_51) rfl (tltL (x := f) (y := (26 : Int64)) hc51).2.1 ?_
          refine s_iconst (pc' := 55) (z := (1 : Int32)) X0.here hx (hb hby d2_54) rfl rfl ?_
          refine s_goto (pc' := 59) X0.here hx (hb hby d2_55) (by decide) (by decide) ?_
          refine s_istore (pc' := 61) (l' := #[.val (.int a), .val (.long d), .second, .val (.int (1 : Int32)), .val (.long f), .second, .val (.int (1 : Int32))]) X0.here hx (hb hby d2_59) rfl rfl ?_
          refine s_iloadN (pc' := 62) X0.here hx (hb hby d2_61) rfl rfl ?_
          refine s_ifYes (pc' := 70) X0.here hx (hb hby d2_62) ((if0 _ _).trans (feqI (x := (1 : Int32)) (y := (0 : Int32)) (by decide)).2) (by decide) (by decide) ?_
          refine s_iconst (pc' := 71) (z := (1 : Int32)) X0.here hx (hb hby d2_70) rfl rfl ?_
          refine s_goto (pc' := 75) X0.here hx (hb hby d2_71) (by decide) (by decide) ?_
          refine winN X0 hx hlk e0 (t := .boolean) Bd.returns (by simp) (hb hby d2_75) (by decide) (by decide) (z' := (1 : Int32)) rfl ?_
          refine ⟨Nf, rfl, _, rfl, Or.inl ⟨rfl, ?_⟩⟩
          omega
        · skip
          refine s_ifYes (pc' := 58) X0.here hx (hb hby d2_51) (fltL (x := f) (y := (26 : Int64)) hc51).2.1 (by decide) (by decide) ?_
          refine s_iconst (pc' := 59) (z := (0 : Int32)) X0.here hx (hb hby d2_58) rfl rfl ?_
          refine s_istore (pc' := 61) (l' := #[.val (.int a), .val (.long d), .second, .val (.int (1 : Int32)), .val (.long f), .second, .val (.int (0 : Int32))]) X0.here hx (hb hby d2_59) rfl rfl ?_
          refine s_iloadN (pc' := 62) X0.here hx (hb hby d2_61) rfl rfl ?_
          refine s_ifYes (pc' := 70) X0.here hx (hb hby d2_62) ((if0 _ _).trans (feqI (x := (1 : Int32)) (y := (0 : Int32)) (by decide)).2) (by decide) (by decide) ?_
          refine s_iconst (pc' := 71) (z := (1 : Int32)) X0.here hx (hb hby d2_70) rfl rfl ?_
          refine s_goto (pc' := 75) X0.here hx (hb hby d2_71) (by decide) (by decide) ?_
          refine winN X0 hx hlk e0 (t := .boolean) Bd.returns (by simp) (hb hby d2_75) (by decide) (by decide) (z' := (1 : Int32)) rfl ?_
          refine ⟨Nf, rfl, _, rfl, Or.inl ⟨rfl, ?_⟩⟩
          omega
    · skip
      refine s_ifYes (pc' := 25) X0.here hx (hb hby d2_18) (fltL (x := d) (y := (10 : Int64)) hc18).2.1 (by decide) (by decide) ?_
      refine s_iconst (pc' := 26) (z := (0 : Int32)) X0.here hx (hb hby d2_25) rfl rfl ?_
      refine s_istoreN (pc' := 27) (l' := #[.val (.int a), .val (.long d), .second, .val (.int (0 : Int32)), .unset, .unset, .unset]) X0.here hx (hb hby d2_26) rfl rfl ?_
      refine s_iloadN (pc' := 28) X0.here hx (hb hby d2_27) rfl rfl ?_
      refine s_bipush (pc' := 30) (z := (32 : Int32)) X0.here hx (hb hby d2_28) rfl rfl ?_
      refine s_ior (pc' := 31) X0.here hx (hb hby d2_30) rfl ?_
      refine Win.go (fun _ k => XS.i2l X0.here hx rfl (hb hby d2_31) rfl k) ?_
      show Win p.tables e below _ (s₁.setTop (mkF m 32 #[.val (.int a), .val (.long d), .second, .val (.int (0 : Int32)), .unset, .unset, .unset] [(.long ((a ||| (32 : Int32)).toInt64))]))
      refine Win.go (fun _ k => X0.ldc2Long hx hown (mvT hZ (hw _ (List.mem_of_getElem? (i := 9) rfl))) (g := (mkF m 32 #[.val (.int a), .val (.long d), .second, .val (.int (0 : Int32)), .unset, .unset, .unset] [(.long ((a ||| (32 : Int32)).toInt64))])) rfl (hb hby d2_32) _ k) ?_
      show Win p.tables e below _ (s₁.setTop (mkF m 35 #[.val (.int a), .val (.long d), .second, .val (.int (0 : Int32)), .unset, .unset, .unset] [(.long (97 : Int64)), (.long ((a ||| (32 : Int32)).toInt64))]))
      refine s_lsub (pc' := 36) X0.here hx (hb hby d2_35) rfl ?_
      refine s_lstore (pc' := 38) (l' := #[.val (.int a), .val (.long d), .second, .val (.int (0 : Int32)), .val (.long (((a ||| (32 : Int32)).toInt64) - (97 : Int64))), .second, .unset]) X0.here hx (hb hby d2_36) rfl rfl ?_
      generalize hf : (((a ||| (32 : Int32)).toInt64) - (97 : Int64)) = f
      show Win p.tables e below _ (s₁.setTop (mkF m 38 #[.val (.int a), .val (.long d), .second, .val (.int (0 : Int32)), .val (.long f), .second, .unset] []))
      have ff : f.toInt = (a ||| 32).toInt - 97 := by
        have h1 := c_lsub (a ||| 32).toInt64 97
        rw [hf, c_i2l] at h1
        have h2 := rng32 (a ||| 32)
        have h3 := rng64 f
        have h4 : (97 : Int64).toInt = 97 := rfl
        omega
      have fo := own_or32 a
      refine s_lload (pc' := 40) X0.here hx (hb hby d2_38) rfl rfl ?_
      refine s_lconst (pc' := 41) (z := (0 : Int64)) X0.here hx (hb hby d2_40) rfl rfl ?_
      refine s_lcmp (pc' := 42) X0.here hx (hb hby d2_41) rfl ?_
      by_cases hc42 : (f).toInt < (0 : Int)
      · skip
        refine s_ifYes (pc' := 58) X0.here hx (hb hby d2_42) (tltL (x := f) (y := (0 : Int64)) hc42).1 (by decide) (by decide) ?_
        refine s_iconst (pc' := 59) (z := (0 : Int32)) X0.here hx (hb hby d2_58) rfl rfl ?_
        refine s_istore (pc' := 61) (l' := #[.val (.int a), .val (.long d), .second, .val (.int (0 : Int32)), .val (.long f), .second, .val (.int (0 : Int32))]) X0.here hx (hb hby d2_59) rfl rfl ?_
        refine s_iloadN (pc' := 62) X0.here hx (hb hby d2_61) rfl rfl ?_
        refine s_ifNo (pc' := 65) X0.here hx (hb hby d2_62) rfl ((if0 _ _).trans (teqI (x := (0 : Int32)) (y := (0 : Int32)) (by decide)).2) ?_
        refine s_iload (pc' := 67) X0.here hx (hb hby d2_65) rfl rfl ?_
        refine s_ifYes (pc' := 74) X0.here hx (hb hby d2_67) ((if0 _ _).trans (teqI (x := (0 : Int32)) (y := (0 : Int32)) (by decide)).1) (by decide) (by decide) ?_
        refine s_iconst (pc' := 75) (z := (0 : Int32)) X0.here hx (hb hby d2_74) rfl rfl ?_
        refine winN X0 hx hlk e0 (t := .boolean) Bd.returns (by simp) (hb hby d2_75) (by decide) (by decide) (z' := (0 : Int32)) rfl ?_
        refine ⟨Nf, rfl, _, rfl, Or.inr ⟨rfl, ?_⟩⟩
        omega
      · skip
        refine s_ifNo (pc' := 45) X0.here hx (hb hby d2_42) rfl (fltL (x := f) (y := (0 : Int64)) hc42).1 ?_
        refine s_lload (pc' := 47) X0.here hx (hb hby d2_45) rfl rfl ?_
        refine Win.go (fun _ k => X0.ldc2Long hx hown (mvT hZ (hw _ (List.mem_of_getElem? (i := 11) rfl))) (g := (mkF m 47 #[.val (.int a), .val (.long d), .second, .val (.int (0 : Int32)), .val (.long f), .second, .unset] [(.long f)])) rfl (hb hby d2_47) _ k) ?_
        show Win p.tables e below _ (s₁.setTop (mkF m 50 #[.val (.int a), .val (.long d), .second, .val (.int (0 : Int32)), .val (.long f), .second, .unset] [(.long (26 : Int64)), (.long f)]))
        refine s_lcmp (pc' := 51) X0.here hx (hb hby d2_50) rfl ?_
        by_cases hc51 : (f).toInt < (26 : Int)
        · skip
          refine s_ifNo (pc' := 54) X0.here hx (hb hby d2_51) rfl (tltL (x := f) (y := (26 : Int64)) hc51).2.1 ?_
          refine s_iconst (pc' := 55) (z := (1 : Int32)) X0.here hx (hb hby d2_54) rfl rfl ?_
          refine s_goto (pc' := 59) X0.here hx (hb hby d2_55) (by decide) (by decide) ?_
          refine s_istore (pc' := 61) (l' := #[.val (.int a), .val (.long d), .second, .val (.int (0 : Int32)), .val (.long f), .second, .val (.int (1 : Int32))]) X0.here hx (hb hby d2_59) rfl rfl ?_
          refine s_iloadN (pc' := 62) X0.here hx (hb hby d2_61) rfl rfl ?_
          refine s_ifNo (pc' := 65) X0.here hx (hb hby d2_62) rfl ((if0 _ _).trans (teqI (x := (0 : Int32)) (y := (0 : Int32)) (by decide)).2) ?_
          refine s_iload (pc' := 67) X0.here hx (hb hby d2_65) rfl rfl ?_
          refine s_ifNo (pc' := 70) X0.here hx (hb hby d2_67) rfl ((if0 _ _).trans (feqI (x := (1 : Int32)) (y := (0 : Int32)) (by decide)).1) ?_
          refine s_iconst (pc' := 71) (z := (1 : Int32)) X0.here hx (hb hby d2_70) rfl rfl ?_
          refine s_goto (pc' := 75) X0.here hx (hb hby d2_71) (by decide) (by decide) ?_
          refine winN X0 hx hlk e0 (t := .boolean) Bd.returns (by simp) (hb hby d2_75) (by decide) (by decide) (z' := (1 : Int32)) rfl ?_
          refine ⟨Nf, rfl, _, rfl, Or.inl ⟨rfl, ?_⟩⟩
          omega
        · skip
          refine s_ifYes (pc' := 58) X0.here hx (hb hby d2_51) (fltL (x := f) (y := (26 : Int64)) hc51).2.1 (by decide) (by decide) ?_
          refine s_iconst (pc' := 59) (z := (0 : Int32)) X0.here hx (hb hby d2_58) rfl rfl ?_
          refine s_istore (pc' := 61) (l' := #[.val (.int a), .val (.long d), .second, .val (.int (0 : Int32)), .val (.long f), .second, .val (.int (0 : Int32))]) X0.here hx (hb hby d2_59) rfl rfl ?_
          refine s_iloadN (pc' := 62) X0.here hx (hb hby d2_61) rfl rfl ?_
          refine s_ifNo (pc' := 65) X0.here hx (hb hby d2_62) rfl ((if0 _ _).trans (teqI (x := (0 : Int32)) (y := (0 : Int32)) (by decide)).2) ?_
          refine s_iload (pc' := 67) X0.here hx (hb hby d2_65) rfl rfl ?_
          refine s_ifYes (pc' := 74) X0.here hx (hb hby d2_67) ((if0 _ _).trans (teqI (x := (0 : Int32)) (y := (0 : Int32)) (by decide)).1) (by decide) (by decide) ?_
          refine s_iconst (pc' := 75) (z := (0 : Int32)) X0.here hx (hb hby d2_74) rfl rfl ?_
          refine winN X0 hx hlk e0 (t := .boolean) Bd.returns (by simp) (hb hby d2_75) (by decide) (by decide) (z' := (0 : Int32)) rfl ?_
          refine ⟨Nf, rfl, _, rfl, Or.inr ⟨rfl, ?_⟩⟩
          omega
theorem pd_0 : parseMethodDescriptor "(I)Z" = some ⟨[.int], some .boolean⟩ := by decide +kernel
theorem ef_0 (m : MethodId) (c0 : Int32) (k0 : Int32) : entryFrame m #[(.int c0), (.int k0)] maxLocals = mkF m 0 #[.val (.int c0), .val (.int k0), .unset, .unset, .unset] [] := by first | (simp [entryFrame, mkF, argsToLocals, Value.category, maxLocals]; done) | rfl
def Q0 (Z : State) (c0 : Int32) (k0 : Int32) (h0 : Heap) (n0 : Nat) (v : Option Value) (h : Heap) (L : List Loc) : Prop := Fr n0 L ∧ v = some (.int 1)
set_option maxRecDepth 65536 in
set_option maxHeartbeats 40000000 in
theorem rm0 (l : Launch) (Z : State) (a0 : Array Value) (hw : ∀ d ∈ tables_1, d.before a0 Z = true) (ws : List Jvm.Cond) (c0 : Int32) (k0 : Int32) (h0 : Heap) (n0 : Nat) (Zs : n0 ≤ h0.size) :
    MetFree l x (head1 (Jvm.Cond.code x code maxLocals ret :: ws) room_1) (fun as' U => as' = #[(.int c0), (.int k0)] ∧ Z.Warmed39 U.vm ∧ U.heap = h0) (fun _ _ _ _ _ => True) (fun _ U o U' => ∃ v L, o = .returned v ∧ Q0 Z c0 k0 h0 n0 v U'.heap L ∧ FrameEnd U o U' L room_1.cells room_1.slots) := by
  refine MetFree.of_bodySF (plainFor_of_name pn_2) hisR ?_
  intro p e s m args below meth c s₁ Bd hml0 hP hK
  obtain ⟨rfl, hZ, hh⟩ := hP
  have hx := Bd.exec
  have hby := Bd.bytes
  have hml : c.maxLocals = 5 := hml0
  have hown : s.vm.findClass "com/example/renkei/renkei/MessagePathIsIdCharacterPinLaw" = some m.cls := findClass_of_methodNamed Bd.named
  have hnm := (name_of_methodNamed Bd.named Bd.method).1
  have hlk : meth.locks = false := Bd.notSynchronized
  have X0 : Stand p l e room_1 s m #[(.int c0), (.int k0)] below meth c s₁ [] 0 0 := Stand.of_body Bd
  have e0 : s₁.heap = h0 := by rw [← hh, Bd.state]; rfl
  have Nf := Fr.nil n0
  refine (?_ : Win p.tables e below (PostQ s (Q0 Z c0 k0 h0 n0) room_1.cells room_1.slots) (s₁.setTop (entryFrame m #[(.int c0), (.int k0)] maxLocals)))
  rw [ef_0]
  show Win p.tables e below _ (s₁.setTop (mkF m 0 #[.val (.int c0), .val (.int k0), .unset, .unset, .unset] []))
  refine s_iloadN (pc' := 1) X0.here hx (hb hby at_0) rfl rfl ?_
  refine s_sipush (pc' := 4) (z := (255 : Int32)) X0.here hx (hb hby at_1) rfl rfl ?_
  refine s_iand (pc' := 5) X0.here hx (hb hby at_4) rfl ?_
  refine s_istoreN (pc' := 6) (l' := #[.val (.int c0), .val (.int k0), .val (.int (k0 &&& (255 : Int32))), .unset, .unset]) X0.here hx (hb hby at_5) rfl rfl ?_
  generalize hsm : (k0 &&& (255 : Int32)) = sm
  show Win p.tables e below _ (s₁.setTop (mkF m 6 #[.val (.int c0), .val (.int k0), .val (.int sm), .unset, .unset] []))
  refine s_iloadN (pc' := 7) X0.here hx (hb hby at_6) rfl rfl ?_
  obtain ⟨_, _, ⟨T_1, L_1, k_1, n_1⟩, -, X_1, ⟨Lc_1, hQ_1, l_1, y_1, z_1⟩, st_1⟩ := Jvm.LawKit.callS X0 hx (y := (⟨"com/example/renkei/renkei/MessagePath", "isIdCharacter", "(I)Z"⟩ : MethodName)) hown (mvT hZ (hw _ (List.mem_of_getElem? (i := 0) rfl))) (mvT hZ (hw _ (List.mem_of_getElem? (i := 1) rfl))) (mvT hZ (hw _ (List.mem_of_getElem? (i := 2) rfl))) (mvT hZ (hw _ (List.mem_of_getElem? (i := 3) rfl))) (by decide) (backOf (W := 0) (rm1 l Z a0 hw [] c0 h0 n0 Zs ) hZ (hw _ (List.mem_of_getElem? (i := 3) rfl)) (hw _ (List.mem_of_getElem? (i := 2) rfl)) (by decide) (by decide)) (g := (mkF m 7 #[.val (.int c0), .val (.int k0), .val (.int sm), .unset, .unset] [(.int c0)])) rfl (by rw [hml]; rfl) (argsL := [(.int c0)]) (rest := []) (lenOf pd_0 rfl) rfl (by show 2 * 0 + _ ≤ _; exact Nat.le_of_eq rfl) (hb hby at_7) (fun _ _ => ⟨rfl, e0, (by decide : 0 + 0 ≤ _), (by decide : 0 + 0 ≤ _)⟩)
  dsimp only [Pt.U, Pt.locs, Pt.cells, Pt.slots] at X_1 l_1 y_1 z_1 st_1 hQ_1
  subst l_1 y_1 z_1
  obtain ⟨Nq_1, e_1, r1, rfl, hr1⟩ := hQ_1
  replace Nf := Fr.app Nf Nq_1
  refine Win.go st_1 ?_
  show Win p.tables e below _ (T_1.setTop (mkF m 10 #[.val (.int c0), .val (.int k0), .val (.int sm), .unset, .unset] [(.int r1)]))
  refine s_iloadN (pc' := 11) X_1.here hx (hb hby at_10) rfl rfl ?_
  obtain ⟨_, _, ⟨T_2, L_2, k_2, n_2⟩, -, X_2, ⟨Lc_2, hQ_2, l_2, y_2, z_2⟩, st_2⟩ := Jvm.LawKit.callS X_1 hx (y := (⟨"com/example/renkei/renkei/MessagePathIsIdCharacterPinLaw", "expected", "(I)Z"⟩ : MethodName)) hown (mvT hZ (hw _ (List.mem_of_getElem? (i := 4) rfl))) (mvT hZ (hw _ (List.mem_of_getElem? (i := 5) rfl))) (mvT hZ (hw _ (List.mem_of_getElem? (i := 6) rfl))) (mvT hZ (hw _ (List.mem_of_getElem? (i := 7) rfl))) (by decide) (backOf (W := 1) (rm2 l Z a0 hw [] c0 h0 n0 Zs ) hZ (hw _ (List.mem_of_getElem? (i := 7) rfl)) (hw _ (List.mem_of_getElem? (i := 6) rfl)) (by decide) (by decide)) (g := (mkF m 11 #[.val (.int c0), .val (.int k0), .val (.int sm), .unset, .unset] [(.int c0), (.int r1)])) rfl (by rw [hml]; rfl) (argsL := [(.int c0)]) (rest := [(.int r1)]) (lenOf pd_0 rfl) rfl (by show 2 * 0 + _ ≤ _; exact Nat.le_of_eq rfl) (hb hby at_11) (fun _ _ => ⟨rfl, e_1, (by decide : 0 + 0 ≤ _), (by decide : 0 + 0 ≤ _)⟩)
  dsimp only [Pt.U, Pt.locs, Pt.cells, Pt.slots] at X_2 l_2 y_2 z_2 st_2 hQ_2
  subst l_2 y_2 z_2
  obtain ⟨Nq_2, e_2, r2, rfl, hr2⟩ := hQ_2
  replace Nf := Fr.app Nf Nq_2
  refine Win.go st_2 ?_
  show Win p.tables e below _ (T_2.setTop (mkF m 14 #[.val (.int c0), .val (.int k0), .val (.int sm), .unset, .unset] [(.int r2), (.int r1)]))
  by_cases hc14 : (r1).toInt = (r2).toInt
  · skip
    refine s_icmpNo (pc' := 17) X_2.here hx (hb hby at_14) rfl (teqI (x := r1) (y := r2) hc14).2 ?_
    refine s_iconst (pc' := 18) (z := (1 : Int32)) X_2.here hx (hb hby at_17) rfl rfl ?_
    refine s_goto (pc' := 22) X_2.here hx (hb hby at_18) (by decide) (by decide) ?_
    refine s_istoreN (pc' := 23) (l' := #[.val (.int c0), .val (.int k0), .val (.int sm), .val (.int (1 : Int32)), .unset]) X_2.here hx (hb hby at_22) rfl rfl ?_
    refine s_iloadN (pc' := 24) X_2.here hx (hb hby at_23) rfl rfl ?_
    obtain ⟨_, _, ⟨T_3, L_3, k_3, n_3⟩, -, X_3, ⟨Lc_3, hQ_3, l_3, y_3, z_3⟩, st_3⟩ := Jvm.LawKit.callS X_2 hx (y := (⟨"com/example/renkei/renkei/MessagePath", "isIdCharacter", "(I)Z"⟩ : MethodName)) hown (mvT hZ (hw _ (List.mem_of_getElem? (i := 0) rfl))) (mvT hZ (hw _ (List.mem_of_getElem? (i := 1) rfl))) (mvT hZ (hw _ (List.mem_of_getElem? (i := 2) rfl))) (mvT hZ (hw _ (List.mem_of_getElem? (i := 3) rfl))) (by decide) (backOf (W := 0) (rm1 l Z a0 hw [] sm h0 n0 Zs ) hZ (hw _ (List.mem_of_getElem? (i := 3) rfl)) (hw _ (List.mem_of_getElem? (i := 2) rfl)) (by decide) (by decide)) (g := (mkF m 24 #[.val (.int c0), .val (.int k0), .val (.int sm), .val (.int (1 : Int32)), .unset] [(.int sm)])) rfl (by rw [hml]; rfl) (argsL := [(.int sm)]) (rest := []) (lenOf pd_0 rfl) rfl (by show 2 * 0 + _ ≤ _; exact Nat.le_of_eq rfl) (hb hby at_24) (fun _ _ => ⟨rfl, e_2, (by decide : 0 + 0 ≤ _), (by decide : 0 + 0 ≤ _)⟩)
    dsimp only [Pt.U, Pt.locs, Pt.cells, Pt.slots] at X_3 l_3 y_3 z_3 st_3 hQ_3
    subst l_3 y_3 z_3
    obtain ⟨Nq_3, e_3, r3, rfl, hr3⟩ := hQ_3
    replace Nf := Fr.app Nf Nq_3
    refine Win.go st_3 ?_
    show Win p.tables e below _ (T_3.setTop (mkF m 27 #[.val (.int c0), .val (.int k0), .val (.int sm), .val (.int (1 : Int32)), .unset] [(.int r3)]))
    refine s_iloadN (pc' := 28) X_3.here hx (hb hby at_27) rfl rfl ?_
    obtain ⟨_, _, ⟨T_4, L_4, k_4, n_4⟩, -, X_4, ⟨Lc_4, hQ_4, l_4, y_4, z_4⟩, st_4⟩ := Jvm.LawKit.callS X_3 hx (y := (⟨"com/example/renkei/renkei/MessagePathIsIdCharacterPinLaw", "expected", "(I)Z"⟩ : MethodName)) hown (mvT hZ (hw _ (List.mem_of_getElem? (i := 4) rfl))) (mvT hZ (hw _ (List.mem_of_getElem? (i := 5) rfl))) (mvT hZ (hw _ (List.mem_of_getElem? (i := 6) rfl))) (mvT hZ (hw _ (List.mem_of_getElem? (i := 7) rfl))) (by decide) (backOf (W := 1) (rm2 l Z a0 hw [] sm h0 n0 Zs ) hZ (hw _ (List.mem_of_getElem? (i := 7) rfl)) (hw _ (List.mem_of_getElem? (i := 6) rfl)) (by decide) (by decide)) (g := (mkF m 28 #[.val (.int c0), .val (.int k0), .val (.int sm), .val (.int (1 : Int32)), .unset] [(.int sm), (.int r3)])) rfl (by rw [hml]; rfl) (argsL := [(.int sm)]) (rest := [(.int r3)]) (lenOf pd_0 rfl) rfl (by show 2 * 0 + _ ≤ _; exact Nat.le_of_eq rfl) (hb hby at_28) (fun _ _ => ⟨rfl, e_3, (by decide : 0 + 0 ≤ _), (by decide : 0 + 0 ≤ _)⟩)
    dsimp only [Pt.U, Pt.locs, Pt.cells, Pt.slots] at X_4 l_4 y_4 z_4 st_4 hQ_4
    subst l_4 y_4 z_4
    obtain ⟨Nq_4, e_4, r4, rfl, hr4⟩ := hQ_4
    replace Nf := Fr.app Nf Nq_4
    refine Win.go st_4 ?_
    show Win p.tables e below _ (T_4.setTop (mkF m 31 #[.val (.int c0), .val (.int k0), .val (.int sm), .val (.int (1 : Int32)), .unset] [(.int r4), (.int r3)]))
    by_cases hc31 : (r3).toInt = (r4).toInt
    · skip
      refine s_icmpNo (pc' := 34) X_4.here hx (hb hby at_31) rfl (teqI (x := r3) (y := r4) hc31).2 ?_
      refine s_iconst (pc' := 35) (z := (1 : Int32)) X_4.here hx (hb hby at_34) rfl rfl ?_
      refine s_goto (pc' := 39) X_4.here hx (hb hby at_35) (by decide) (by decide) ?_
      refine s_istore (pc' := 41) (l' := #[.val (.int c0), .val (.int k0), .val (.int sm), .val (.int (1 : Int32)), .val (.int (1 : Int32))]) X_4.here hx (hb hby at_39) rfl rfl ?_
      refine s_iloadN (pc' := 42) X_4.here hx (hb hby at_41) rfl rfl ?_
      refine s_ifNo (pc' := 45) X_4.here hx (hb hby at_42) rfl ((if0 _ _).trans (feqI (x := (1 : Int32)) (y := (0 : Int32)) (by decide)).1) ?_
      refine s_iload (pc' := 47) X_4.here hx (hb hby at_45) rfl rfl ?_
      refine s_ifNo (pc' := 50) X_4.here hx (hb hby at_47) rfl ((if0 _ _).trans (feqI (x := (1 : Int32)) (y := (0 : Int32)) (by decide)).1) ?_
      refine s_iconst (pc' := 51) (z := (1 : Int32)) X_4.here hx (hb hby at_50) rfl rfl ?_
      refine s_goto (pc' := 55) X_4.here hx (hb hby at_51) (by decide) (by decide) ?_
      refine winN X_4 hx hlk e_4 (t := .boolean) Bd.returns (by simp) (hb hby at_55) (by decide) (by decide) (z' := 1) rfl ⟨Nf, rfl⟩
    · skip
      refine s_icmpYes (pc' := 38) X_4.here hx (hb hby at_31) (feqI (x := r3) (y := r4) hc31).2 (by decide) (by decide) ?_
      refine s_iconst (pc' := 39) (z := (0 : Int32)) X_4.here hx (hb hby at_38) rfl rfl ?_
      refine s_istore (pc' := 41) (l' := #[.val (.int c0), .val (.int k0), .val (.int sm), .val (.int (1 : Int32)), .val (.int (0 : Int32))]) X_4.here hx (hb hby at_39) rfl rfl ?_
      refine s_iloadN (pc' := 42) X_4.here hx (hb hby at_41) rfl rfl ?_
      refine s_ifNo (pc' := 45) X_4.here hx (hb hby at_42) rfl ((if0 _ _).trans (feqI (x := (1 : Int32)) (y := (0 : Int32)) (by decide)).1) ?_
      refine s_iload (pc' := 47) X_4.here hx (hb hby at_45) rfl rfl ?_
      refine s_ifYes (pc' := 54) X_4.here hx (hb hby at_47) ((if0 _ _).trans (teqI (x := (0 : Int32)) (y := (0 : Int32)) (by decide)).1) (by decide) (by decide) ?_
      refine s_iconst (pc' := 55) (z := (0 : Int32)) X_4.here hx (hb hby at_54) rfl rfl ?_
      exfalso
      omega
  · skip
    refine s_icmpYes (pc' := 21) X_2.here hx (hb hby at_14) (feqI (x := r1) (y := r2) hc14).2 (by decide) (by decide) ?_
    refine s_iconst (pc' := 22) (z := (0 : Int32)) X_2.here hx (hb hby at_21) rfl rfl ?_
    refine s_istoreN (pc' := 23) (l' := #[.val (.int c0), .val (.int k0), .val (.int sm), .val (.int (0 : Int32)), .unset]) X_2.here hx (hb hby at_22) rfl rfl ?_
    refine s_iloadN (pc' := 24) X_2.here hx (hb hby at_23) rfl rfl ?_
    obtain ⟨_, _, ⟨T_5, L_5, k_5, n_5⟩, -, X_5, ⟨Lc_5, hQ_5, l_5, y_5, z_5⟩, st_5⟩ := Jvm.LawKit.callS X_2 hx (y := (⟨"com/example/renkei/renkei/MessagePath", "isIdCharacter", "(I)Z"⟩ : MethodName)) hown (mvT hZ (hw _ (List.mem_of_getElem? (i := 0) rfl))) (mvT hZ (hw _ (List.mem_of_getElem? (i := 1) rfl))) (mvT hZ (hw _ (List.mem_of_getElem? (i := 2) rfl))) (mvT hZ (hw _ (List.mem_of_getElem? (i := 3) rfl))) (by decide) (backOf (W := 0) (rm1 l Z a0 hw [] sm h0 n0 Zs ) hZ (hw _ (List.mem_of_getElem? (i := 3) rfl)) (hw _ (List.mem_of_getElem? (i := 2) rfl)) (by decide) (by decide)) (g := (mkF m 24 #[.val (.int c0), .val (.int k0), .val (.int sm), .val (.int (0 : Int32)), .unset] [(.int sm)])) rfl (by rw [hml]; rfl) (argsL := [(.int sm)]) (rest := []) (lenOf pd_0 rfl) rfl (by show 2 * 0 + _ ≤ _; exact Nat.le_of_eq rfl) (hb hby at_24) (fun _ _ => ⟨rfl, e_2, (by decide : 0 + 0 ≤ _), (by decide : 0 + 0 ≤ _)⟩)
    dsimp only [Pt.U, Pt.locs, Pt.cells, Pt.slots] at X_5 l_5 y_5 z_5 st_5 hQ_5
    subst l_5 y_5 z_5
    obtain ⟨Nq_5, e_5, r3, rfl, hr3⟩ := hQ_5
    replace Nf := Fr.app Nf Nq_5
    refine Win.go st_5 ?_
    show Win p.tables e below _ (T_5.setTop (mkF m 27 #[.val (.int c0), .val (.int k0), .val (.int sm), .val (.int (0 : Int32)), .unset] [(.int r3)]))
    refine s_iloadN (pc' := 28) X_5.here hx (hb hby at_27) rfl rfl ?_
    obtain ⟨_, _, ⟨T_6, L_6, k_6, n_6⟩, -, X_6, ⟨Lc_6, hQ_6, l_6, y_6, z_6⟩, st_6⟩ := Jvm.LawKit.callS X_5 hx (y := (⟨"com/example/renkei/renkei/MessagePathIsIdCharacterPinLaw", "expected", "(I)Z"⟩ : MethodName)) hown (mvT hZ (hw _ (List.mem_of_getElem? (i := 4) rfl))) (mvT hZ (hw _ (List.mem_of_getElem? (i := 5) rfl))) (mvT hZ (hw _ (List.mem_of_getElem? (i := 6) rfl))) (mvT hZ (hw _ (List.mem_of_getElem? (i := 7) rfl))) (by decide) (backOf (W := 1) (rm2 l Z a0 hw [] sm h0 n0 Zs ) hZ (hw _ (List.mem_of_getElem? (i := 7) rfl)) (hw _ (List.mem_of_getElem? (i := 6) rfl)) (by decide) (by decide)) (g := (mkF m 28 #[.val (.int c0), .val (.int k0), .val (.int sm), .val (.int (0 : Int32)), .unset] [(.int sm), (.int r3)])) rfl (by rw [hml]; rfl) (argsL := [(.int sm)]) (rest := [(.int r3)]) (lenOf pd_0 rfl) rfl (by show 2 * 0 + _ ≤ _; exact Nat.le_of_eq rfl) (hb hby at_28) (fun _ _ => ⟨rfl, e_5, (by decide : 0 + 0 ≤ _), (by decide : 0 + 0 ≤ _)⟩)
    dsimp only [Pt.U, Pt.locs, Pt.cells, Pt.slots] at X_6 l_6 y_6 z_6 st_6 hQ_6
    subst l_6 y_6 z_6
    obtain ⟨Nq_6, e_6, r4, rfl, hr4⟩ := hQ_6
    replace Nf := Fr.app Nf Nq_6
    refine Win.go st_6 ?_
    show Win p.tables e below _ (T_6.setTop (mkF m 31 #[.val (.int c0), .val (.int k0), .val (.int sm), .val (.int (0 : Int32)), .unset] [(.int r4), (.int r3)]))
    by_cases hc31 : (r3).toInt = (r4).toInt
    · skip
      refine s_icmpNo (pc' := 34) X_6.here hx (hb hby at_31) rfl (teqI (x := r3) (y := r4) hc31).2 ?_
      refine s_iconst (pc' := 35) (z := (1 : Int32)) X_6.here hx (hb hby at_34) rfl rfl ?_
      refine s_goto (pc' := 39) X_6.here hx (hb hby at_35) (by decide) (by decide) ?_
      refine s_istore (pc' := 41) (l' := #[.val (.int c0), .val (.int k0), .val (.int sm), .val (.int (0 : Int32)), .val (.int (1 : Int32))]) X_6.here hx (hb hby at_39) rfl rfl ?_
      refine s_iloadN (pc' := 42) X_6.here hx (hb hby at_41) rfl rfl ?_
      refine s_ifYes (pc' := 54) X_6.here hx (hb hby at_42) ((if0 _ _).trans (teqI (x := (0 : Int32)) (y := (0 : Int32)) (by decide)).1) (by decide) (by decide) ?_
      refine s_iconst (pc' := 55) (z := (0 : Int32)) X_6.here hx (hb hby at_54) rfl rfl ?_
      exfalso
      omega
    · skip
      refine s_icmpYes (pc' := 38) X_6.here hx (hb hby at_31) (feqI (x := r3) (y := r4) hc31).2 (by decide) (by decide) ?_
      refine s_iconst (pc' := 39) (z := (0 : Int32)) X_6.here hx (hb hby at_38) rfl rfl ?_
      refine s_istore (pc' := 41) (l' := #[.val (.int c0), .val (.int k0), .val (.int sm), .val (.int (0 : Int32)), .val (.int (0 : Int32))]) X_6.here hx (hb hby at_39) rfl rfl ?_
      refine s_iloadN (pc' := 42) X_6.here hx (hb hby at_41) rfl rfl ?_
      refine s_ifYes (pc' := 54) X_6.here hx (hb hby at_42) ((if0 _ _).trans (teqI (x := (0 : Int32)) (y := (0 : Int32)) (by decide)).1) (by decide) (by decide) ?_
      refine s_iconst (pc' := 55) (z := (0 : Int32)) X_6.here hx (hb hby at_54) rfl rfl ?_
      exfalso
      omega
set_option maxRecDepth 65536 in
set_option maxHeartbeats 40000000 in
theorem comes_1 {Post : Tables → Env → Array Value → State → Outcome → State → Prop} (hpost : ∀ tb e args s v u, (limb_1_1.after args s (.returned v) u = true ∧ limb_1_2.after args s (.returned v) u = true ∧ True) → FrameEnd s (.returned v) u (Jvm.fieldLocs frame_1_writes args s ++ Jvm.arrayLocs frame_1_arrays args s ++ Jvm.staticLocs frame_1_statics s) 0 0 → Post tb e args s (.returned v) u) :
    ArmFor flags0 classFile x code maxLocals ret World_1 tables_1 room_1 Calls_1 rest_1 Pre_1 Post := by
  intro l hfl _ _ p e ha hc hk s m args below hf hA hF happ hP
  obtain ⟨hcalls, hrest, hpre⟩ := hP
  obtain ⟨-, -, -, hnamed, -, -, -, hat⟩ := (Spec.applies_iff hf).mp happ
  obtain ⟨hg, hn⟩ := and_e (Cond.before_iff.mp (show (Jvm.Cond.and given_1 narrow_1).before args s = true from hpre))
  obtain ⟨g1, g2⟩ := and_e hg
  obtain ⟨g3, g4⟩ := and_e g2
  obtain ⟨w0, w1, rfl⟩ : ∃ w0 w1 : Value, args = #[w0, w1] := by
    have hs : args.size = 2 := by simpa [Cond.value, given_1] using g1
    obtain ⟨L⟩ := args
    match L, hs with
    | [w0, w1], _ => exact ⟨w0, w1, rfl⟩
  have hw := fun d (hd : d ∈ tables_1) => atoms_spec (ws := Jvm.Cond.code x code maxLocals ret :: tables_1) hat d (List.mem_cons_of_mem _ hd)
  have hfit : Fit s := fun {y c} hc i hi => by
    obtain ⟨ha, rfl⟩ := Array.getElem?_eq_some_iff.mp hc
    have q := List.all_eq_true.mp ((Array.all_eq_true_iff_forall_mem.mp hF) _ (Array.getElem_mem ha)) i (List.mem_range.mpr hi)
    simpa [Array.getElem?_eq_getElem hi] using q
  obtain ⟨i0, ei0⟩ := is_v g3
  obtain rfl : w0 = (.int i0) := Option.some.inj ei0
  obtain ⟨i1, ei1⟩ := is_v g4
  obtain rfl : w1 = (.int i1) := Option.some.inj ei1
  obtain ⟨n, o, h1, h2, h3, _, L, rfl, ⟨N, rfl⟩, hq⟩ := rm0 l s _ hw tables_1 i0 i1 s.heap s.heap.size (Nat.le_refl _) p e ha hc hk s m _ below hf ((Spec.applies_iff_loose hf).mp happ).1 ⟨rfl, State.Warmed39.refl s, rfl⟩ trivial
  refine ⟨n, _, h1, h2, h3, hpost _ _ _ _ _ _ ⟨Cond.after_iff.mpr rfl, Cond.after_iff.mpr (eq_i res_at (Term.int_eval (1)) rfl), trivial⟩ ⟨hq.1, hq.2.1, (hq.2.2.sift fun y hy => Or.inr (N y hy)).mono (by decide) (by decide)⟩⟩
theorem main_1_1 : Claimed_1_1 := comes_1 fun _ _ _ _ _ _ h hF => ⟨h.1, hF⟩
theorem main_1_2 : Claimed_1_2 := comes_1 fun _ _ _ _ _ _ h hF => ⟨h.2.1, hF⟩
end Jvm.Pilot.@@N@@
namespace Jvm.Pilot.@@N@@
open Jvm Jvm.ClassFile Sem Op Lib Jvm.Free Jvm.Stand Jvm.Pilot.@@N@@.Jvm.D
/-! MADE BY PROGRAM (witnessworld.py) out of the Statement's table words and the real class files: 10 classes; the members and pool entries that the words name. The judged class is class 1, her method 2. -/
namespace start1
open Jvm.ClassFile
def u (s : String) : CpInfo := .utf8 (stringToUtf16 s)
/-- a pool by its gaps: so many unusable entries, then the entry; so many at the end -/
def gap : Nat → List CpInfo → List CpInfo
  | 0, r => r
  | n + 1, r => .unusable :: gap n r
def poolList (es : List (Nat × CpInfo)) (last : Nat) : List CpInfo := es.foldr (fun e r => gap e.1 (e.2 :: r)) (gap last [])
def pool (es : List (Nat × CpInfo)) (last : Nat) : Array CpInfo := ⟨poolList es last⟩
def fileOf (pool : Array CpInfo) (this : Nat) (attrs : Array Attribute := #[]) (ms : Array MethodInfo := #[]) (fl : Nat := 33) (sup : Nat := 0) (ifs : Array Nat := #[]) (fds : Array FieldInfo := #[]) : ClassFile where
  minorVersion := 0
  majorVersion := 65
  constantPool := pool
  accessFlags := fl
  thisClass := this
  superClass := sup
  interfaces := ifs
  fields := fds
  methods := ms
  attributes := attrs
def plain (name : String) (sup : Option ClassId) : Class where
  name := name
  kind := .ordinary
  loader := none
  accessFlags := 33
  super := sup
  interfaces := #[]
  cf := none
  fields := #[]
  methods := #[]
  instanceTypes := #[]
  staticTypes := #[]
  resolved := #[]
  callSites := []
  init := .initialized
  statics := none
  mirror := none

def pool0 : Array CpInfo := pool [(5, u "<init>"), (0, u "()V"), (1, .class_ 10), (1, u "java/lang/Object")] 113

def k0m0 : Method := { name := "<init>", desc := "()V", sig := { parameters := [], returnType := none }, accessFlags := 1, code := none }
/-- java/lang/Object -/
def k0 : Class := { plain "java/lang/Object" none with
  accessFlags := 33
  interfaces := #[]
  cf := some (fileOf pool0 8 #[] #[{ accessFlags := 1, nameIndex := 5, descriptorIndex := 6, attributes := #[] }] 33 0 #[] #[])
  fields := #[]
  methods := #[k0m0]
  instanceTypes := #[]
  staticTypes := #[]
  resolved := Array.replicate 124 none
  statics := none }

def pool1 : Array CpInfo := pool [(2, .class_ 4), (1, u "java/lang/Object"), (0, u "<init>"), (0, u "()V"), (0, .long 48), (1, .long 10), (1, .long 97), (1, .long 26), (1, .methodref 16 17), (0, .class_ 18), (0, .nameAndType 19 20), (0, u "com/example/renkei/renkei/MessagePath"), (0, u "isIdCharacter"), (0, u "(I)Z"), (0, .methodref 22 23), (0, .class_ 24), (0, .nameAndType 25 20), (0, u "com/example/renkei/renkei/MessagePathIsIdCharacterPinLaw"), (0, u "expected"), (3, u "law"), (0, u "(II)Z")] 2

def k1m0 : Method := { name := "<init>", desc := "()V", sig := { parameters := [], returnType := none }, accessFlags := 2, code := none }
def k1c1 : Code := { maxStack := 4, maxLocals := 7, code := method_2_code, exceptionTable := #[], attributes := #[] }
def k1m1 : Method := { name := "expected", desc := "(I)Z", sig := { parameters := [.int], returnType := some .boolean }, accessFlags := 10, code := some k1c1 }
def k1c2 : Code := { maxStack := 2, maxLocals := 5, code := code, exceptionTable := #[], attributes := #[] }
def k1m2 : Method := { name := "law", desc := "(II)Z", sig := { parameters := [.int, .int], returnType := some .boolean }, accessFlags := 9, code := some k1c2 }
/-- com/example/renkei/renkei/MessagePathIsIdCharacterPinLaw -/
def k1 : Class := { plain "com/example/renkei/renkei/MessagePathIsIdCharacterPinLaw" (some 0) with
  accessFlags := 49
  interfaces := #[]
  cf := some (fileOf pool1 22 #[] #[{ accessFlags := 2, nameIndex := 5, descriptorIndex := 6, attributes := #[] }, { accessFlags := 10, nameIndex := 25, descriptorIndex := 20, attributes := #[] }, { accessFlags := 9, nameIndex := 29, descriptorIndex := 30, attributes := #[] }] 49 2 #[] #[])
  fields := #[]
  methods := #[k1m0, k1m1, k1m2]
  instanceTypes := #[]
  staticTypes := #[]
  resolved := Array.replicate 33 none
  statics := none }

def pool2 : Array CpInfo := pool [(2, .class_ 4), (1, u "java/lang/Object"), (0, u "<init>"), (0, u "()V"), (0, .class_ 8), (0, u "java/lang/Record")] 13

def k2m0 : Method := { name := "<init>", desc := "()V", sig := { parameters := [], returnType := none }, accessFlags := 4, code := none }
/-- java/lang/Record -/
def k2 : Class := { plain "java/lang/Record" (some 0) with
  accessFlags := 1057
  interfaces := #[]
  cf := some (fileOf pool2 7 #[] #[{ accessFlags := 4, nameIndex := 5, descriptorIndex := 6, attributes := #[] }] 1057 2 #[] #[])
  fields := #[]
  methods := #[k2m0]
  instanceTypes := #[]
  staticTypes := #[]
  resolved := Array.replicate 22 none
  statics := none }

def pool3 : Array CpInfo := pool [(2, .class_ 4), (1, u "java/lang/Record"), (13, .class_ 20), (1, u "com/example/renkei/renkei/MessagePath"), (0, u "isIdCharacter"), (0, u "(I)Z"), (18, u "segment"), (0, u "Ljava/lang/String;"), (2, u "occurrence"), (0, u "I"), (2, u "field"), (2, u "repetition"), (2, u "component"), (2, u "subcomponent"), (2, u "SYNTAX"), (0, u "Ljava/util/regex/Pattern;")] 109

def k3c0 : Code := { maxStack := 2, maxLocals := 1, code := prog_53_method_5_code, exceptionTable := #[], attributes := #[] }
def k3m0 : Method := { name := "isIdCharacter", desc := "(I)Z", sig := { parameters := [.int], returnType := some .boolean }, accessFlags := 8, code := some k3c0 }
/-- com/example/renkei/renkei/MessagePath -/
def k3 : Class := { plain "com/example/renkei/renkei/MessagePath" (some 2) with
  accessFlags := 49
  interfaces := #[]
  cf := some (fileOf pool3 18 #[] #[{ accessFlags := 8, nameIndex := 21, descriptorIndex := 22, attributes := #[] }] 49 2 #[] #[{ accessFlags := 18, nameIndex := 41, descriptorIndex := 42, attributes := #[] }, { accessFlags := 18, nameIndex := 45, descriptorIndex := 46, attributes := #[] }, { accessFlags := 18, nameIndex := 49, descriptorIndex := 46, attributes := #[] }, { accessFlags := 18, nameIndex := 52, descriptorIndex := 46, attributes := #[] }, { accessFlags := 18, nameIndex := 55, descriptorIndex := 46, attributes := #[] }, { accessFlags := 18, nameIndex := 58, descriptorIndex := 46, attributes := #[] }, { accessFlags := 26, nameIndex := 61, descriptorIndex := 62, attributes := #[] }])
  fields := #[{ name := "segment", type := (.object "java/lang/String"), accessFlags := 18, slot := 0, constantValue := 0 }, { name := "occurrence", type := .int, accessFlags := 18, slot := 1, constantValue := 0 }, { name := "field", type := .int, accessFlags := 18, slot := 2, constantValue := 0 }, { name := "repetition", type := .int, accessFlags := 18, slot := 3, constantValue := 0 }, { name := "component", type := .int, accessFlags := 18, slot := 4, constantValue := 0 }, { name := "subcomponent", type := .int, accessFlags := 18, slot := 5, constantValue := 0 }, { name := "SYNTAX", type := (.object "java/util/regex/Pattern"), accessFlags := 26, slot := 0, constantValue := 0 }]
  methods := #[k3m0]
  instanceTypes := #[(.object "java/lang/String"), .int, .int, .int, .int, .int]
  staticTypes := #[(.object "java/util/regex/Pattern")]
  resolved := Array.replicate 172 none
  statics := none }

def pool4 : Array CpInfo := pool [(1, u "java/lang/Cloneable"), (0, .class_ 1), (0, u "java/lang/Object"), (0, .class_ 3)] 3

/-- java/lang/Cloneable -/
def k4 : Class := { plain "java/lang/Cloneable" (some 0) with
  accessFlags := 1537
  interfaces := #[]
  cf := some (fileOf pool4 2 #[] #[] 1537 4 #[] #[])
  fields := #[]
  methods := #[]
  instanceTypes := #[]
  staticTypes := #[]
  resolved := Array.replicate 8 none
  statics := none }

def pool5 : Array CpInfo := pool [(1, u "java/io/Serializable"), (0, .class_ 1), (0, u "java/lang/Object"), (0, .class_ 3)] 3

/-- java/io/Serializable -/
def k5 : Class := { plain "java/io/Serializable" (some 0) with
  accessFlags := 1537
  interfaces := #[]
  cf := some (fileOf pool5 2 #[] #[] 1537 4 #[] #[])
  fields := #[]
  methods := #[]
  instanceTypes := #[]
  staticTypes := #[]
  resolved := Array.replicate 8 none
  statics := none }

/-- the primitive byte -/
def k6 : Class := { plain "byte" none with kind := .primitive 'B', accessFlags := 0x411 }
/-- [B -/
def k7 : Class := { plain "[B" (some 0) with kind := .array 6 .byte, interfaces := #[4, 5], accessFlags := 1041 }

/-- the primitive int -/
def k8 : Class := { plain "int" none with kind := .primitive 'I', accessFlags := 0x411 }
/-- [I -/
def k9 : Class := { plain "[I" (some 0) with kind := .array 8 .int, interfaces := #[4, 5], accessFlags := 1041 }

def heap : Heap := #[]
def classes : Array Class := #[k0, k1, k2, k3, k4, k5, k6, k7, k8, k9]
def interned : List (Array UInt16 × Addr) := []
def slotsUsed : Nat := 0
def theMethod : MethodId := ⟨1, 2⟩
def args0 : Array Value := #[.int 5, .int 5]
def aboutOver (below : List Frame) : State where
  vm := { classes := classes, interned := interned.toArray }
  heap := heap
  slotsUsed := slotsUsed
  threads := #[{ frames := .invoking theMethod args0 :: below }]
def below0 : List Frame := [.native { method := ⟨0, 0⟩, args := #[] }]
def about1 : State := aboutOver below0
def p0 : Program := .bare "" "" ""
def e0 : Env := launch0.env 0 0 0
theorem w_frames : about1.frames = Frame.invoking theMethod args0 :: below0 := rfl
set_option maxRecDepth 65536 in
theorem w_args : argsFit about1.vm theMethod args0 = true := by decide +kernel
set_option maxRecDepth 65536 in
theorem w_heap : heapFits about1 = true := by decide +kernel
set_option maxRecDepth 65536 in
theorem w_runnable : about1.curStatus? = some .runnable := by decide +kernel
set_option maxRecDepth 65536 in
theorem w_alone : about1.alone = true := by decide +kernel
set_option maxRecDepth 65536 in
theorem w_named : about1.methodNamed? x = some theMethod := by decide +kernel
set_option maxRecDepth 65536 in
theorem w_hears : about1.hears theMethod below0 = true := by decide +kernel
set_option maxRecDepth 65536 in
theorem w_ripe : about1.ripe theMethod args0 below0 = true := by decide +kernel
theorem w_running : about1.status = .running := rfl
set_option maxRecDepth 65536 in
theorem w_room : about1.hasRoom e0.platform room_1 = true :=
  launch0.hasRoom_least _ room_1 (by decide +kernel) (by decide +kernel) (by decide +kernel) (by decide +kernel) (by decide +kernel) (by decide +kernel)
theorem allAtoms_all (ts : List Jvm.Cond) (a : Array Jvm.Value) (st : Jvm.State) : (allAtoms ts).before a st = ts.all (fun c => c.before a st) := by
  induction ts with
  | nil => rfl
  | cons c t ih =>
    show (Jvm.Cond.and c (allAtoms t)).before a st = _
    rw [Jvm.Cond.before_and, ih, List.all_cons]
def words1 : List Jvm.Cond := Jvm.Cond.code x code maxLocals ret :: tables_1
/-- a 'code' word, met by the world's own term for the bytes: nothing is compared byte by byte -/
theorem code_word {y : MethodName} {bytes : ByteArray} {mx : Nat} {rt : Option FieldType} {a : Array Value} {s : State} {m : MethodId} {meth : Method} {c : Code} (h1 : s.methodNamed? y = some m) (h2 : s.vm.method? m = some meth) (h3 : meth.code = some c) (h4 : c.code = bytes)
    (h5 : (c.maxLocals == mx && c.exceptionTable.isEmpty && decide (c.maxStack ≤ mostOperands) && decide (meth.sig.returnType = rt) && !meth.locks && decide (parseMethodDescriptor y.desc = some meth.sig)) = true) : (Jvm.Cond.code y bytes mx rt).before a s = true := by
  simp only [Bool.and_eq_true, beq_iff_eq, Bool.not_eq_true', decide_eq_true_eq] at h5
  obtain ⟨⟨⟨⟨⟨g1, g2⟩, g3⟩, g4⟩, g5⟩, g6⟩ := h5
  simp [Cond.before, Cond.holds, Cond.value, h1, h2, h3, h4, g1, g2, g3, g4, g5, g6]
def isCode : Jvm.Cond → Bool
  | .code _ _ _ _ => true
  | _ => false
theorem all_split {L : List Jvm.Cond} {P : Jvm.Cond → Bool} (h1 : L.all (fun c => isCode c || P c) = true) (h2 : ∀ c ∈ L.filter isCode, P c = true) : L.all P = true := by
  refine List.all_eq_true.mpr fun c hc => ?_
  have h := List.all_eq_true.mp h1 c hc
  rcases Bool.eq_false_or_eq_true (isCode c) with hi | hi
  · exact h2 c (List.mem_filter.mpr ⟨hc, hi⟩)
  · simpa [hi] using h
set_option maxRecDepth 65536 in
theorem w_c0 : (Jvm.Cond.code x code maxLocals ret).before args0 about1 = true := code_word (m := ⟨1, 2⟩) (meth := k1m2) (c := k1c2) (by decide +kernel) rfl rfl rfl (by decide +kernel)
set_option maxRecDepth 65536 in
theorem w_c1 : (Jvm.Cond.code ({ cls := "com/example/renkei/renkei/MessagePath", name := "isIdCharacter", desc := "(I)Z" } : Jvm.MethodName) prog_53_method_5_code (1 : Nat) (Option.some Jvm.ClassFile.FieldType.boolean)).before args0 about1 = true := code_word (m := ⟨3, 0⟩) (meth := k3m0) (c := k3c0) (by decide +kernel) rfl rfl rfl (by decide +kernel)
set_option maxRecDepth 65536 in
theorem w_c2 : (Jvm.Cond.code ({ cls := "com/example/renkei/renkei/MessagePathIsIdCharacterPinLaw", name := "expected", desc := "(I)Z" } : Jvm.MethodName) method_2_code (7 : Nat) (Option.some Jvm.ClassFile.FieldType.boolean)).before args0 about1 = true := code_word (m := ⟨1, 1⟩) (meth := k1m1) (c := k1c1) (by decide +kernel) rfl rfl rfl (by decide +kernel)
def codes1 : List Jvm.Cond := [Jvm.Cond.code x code maxLocals ret, Jvm.Cond.code ({ cls := "com/example/renkei/renkei/MessagePath", name := "isIdCharacter", desc := "(I)Z" } : Jvm.MethodName) prog_53_method_5_code (1 : Nat) (Option.some Jvm.ClassFile.FieldType.boolean), Jvm.Cond.code ({ cls := "com/example/renkei/renkei/MessagePathIsIdCharacterPinLaw", name := "expected", desc := "(I)Z" } : Jvm.MethodName) method_2_code (7 : Nat) (Option.some Jvm.ClassFile.FieldType.boolean)]
set_option maxRecDepth 65536 in
theorem codes_eq : words1.filter isCode = codes1 := rfl
theorem w_codes : ∀ c ∈ words1.filter isCode, c.before args0 about1 = true := by
  rw [codes_eq]
  intro c hc
  simp only [codes1, List.mem_cons, List.not_mem_nil, or_false] at hc
  rcases hc with rfl | rfl | rfl
  · exact w_c0
  · exact w_c1
  · exact w_c2
set_option maxRecDepth 65536 in
theorem w_t1 : words1.all (fun c => isCode c || c.before args0 about1) = true := by decide +kernel
theorem w_tables : (allAtoms (Jvm.Cond.code x code maxLocals ret :: tables_1)).before args0 about1 = true := by
  rw [allAtoms_all]
  show words1.all (fun c => c.before args0 about1) = true
  refine all_split ?_ w_codes
  rw [w_t1]
set_option maxRecDepth 65536 in
theorem w_case : (Jvm.Cond.and given_1 narrow_1).before args0 about1 = true := by decide +kernel
theorem w_applies : (headSpec (Jvm.Cond.code x code maxLocals ret :: tables_1) room_1).applies x e0.platform about1 = true :=
  (Spec.applies_iff w_frames).mpr ⟨w_running, w_runnable, w_alone, w_named, w_hears, w_ripe, w_room, w_tables⟩
theorem atStart : AtStart classFile x code maxLocals ret World_1 tables_1 room_1 Calls_1 rest_1 Pre_1 launch0 p0 e0 about1 theMethod args0 below0 :=
  ⟨lists_1, trivial, launch0.admits_env _ _ _, launch0.least_env, fairChoices_fair.cas, fairChoices_fair.clock, w_frames, w_args, w_heap, w_applies, trivial, trivial, w_case⟩
end start1
theorem witness_1 : WitnessClaimed_1 := ⟨start1.p0, start1.e0, start1.about1, start1.theMethod, start1.args0, start1.below0, start1.atStart⟩
end Jvm.Pilot.@@N@@
