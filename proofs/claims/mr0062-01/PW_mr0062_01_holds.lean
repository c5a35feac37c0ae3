import PyProof.Rows.All
import Wide.All
import OpenK.AllK
import Wide.FinOn
import Open.Tops
import PySem.Challenge.RW_mr0062_01
set_option Elab.async false
section
open PySem PySem.W PyProof.Rows
namespace Mine
set_option maxRecDepth 100000
set_option maxHeartbeats 8000000
open_shared tp for PySem.Challenge.pw_mr0062_01 leaving 0
/-- the written part: the objects that the walk knows whole -/
noncomputable def hd.heap_39 : Params → Frag := fun P => (nat_lit 2, PySem.W.boot_o_2 P) :: (nat_lit 3, Mine.tp.o_189 P) :: (nat_lit 15, Mine.tp.o_7 P) :: (nat_lit 17, Mine.tp.o_9 P) :: (nat_lit 18, Mine.tp.o_10 P) :: (nat_lit 20, Mine.tp.o_12 P) :: (nat_lit 21, Mine.tp.o_13 P) :: (nat_lit 22, Mine.tp.o_17 P) :: (nat_lit 25, Mine.tp.o_20 P) :: (nat_lit 30, Mine.tp.o_25 P) :: (nat_lit 31, Mine.tp.o_26 P) :: (nat_lit 32, Mine.tp.o_27 P) :: (nat_lit 34, Mine.tp.o_29 P) :: (nat_lit 35, Mine.tp.o_30 P) :: (nat_lit 37, Mine.tp.o_32 P) :: (nat_lit 38, Mine.tp.o_33 P) :: (nat_lit 39, Mine.tp.o_34 P) :: (nat_lit 41, Mine.tp.o_36 P) :: (nat_lit 42, Mine.tp.o_37 P) :: (nat_lit 44, Mine.tp.o_39 P) :: (nat_lit 45, Mine.tp.o_40 P) :: (nat_lit 46, Mine.tp.o_41 P) :: (nat_lit 47, Mine.tp.o_42 P) :: (nat_lit 49, Mine.tp.o_44 P) :: (nat_lit 50, Mine.tp.o_45 P) :: (nat_lit 52, Mine.tp.o_47 P) :: (nat_lit 53, Mine.tp.o_48 P) :: (nat_lit 54, Mine.tp.o_49 P) :: (nat_lit 55, Mine.tp.o_50 P) :: (nat_lit 57, Mine.tp.o_52 P) :: (nat_lit 58, Mine.tp.o_53 P) :: (nat_lit 60, Mine.tp.o_55 P) :: (nat_lit 61, Mine.tp.o_56 P) :: (nat_lit 62, Mine.tp.o_57 P) :: (nat_lit 64, Mine.tp.o_59 P) :: (nat_lit 65, Mine.tp.o_60 P) :: (nat_lit 67, Mine.tp.o_62 P) :: (nat_lit 68, Mine.tp.o_63 P) :: (nat_lit 69, Mine.tp.o_64 P) :: (nat_lit 71, Mine.tp.o_66 P) :: (nat_lit 72, Mine.tp.o_67 P) :: (nat_lit 74, Mine.tp.o_69 P) :: (nat_lit 75, Mine.tp.o_70 P) :: (nat_lit 76, Mine.tp.o_71 P) :: (nat_lit 77, Mine.tp.o_72 P) :: (nat_lit 79, Mine.tp.o_74 P) :: (nat_lit 80, Mine.tp.o_75 P) :: (nat_lit 82, Mine.tp.o_77 P) :: (nat_lit 83, Mine.tp.o_78 P) :: (nat_lit 84, Mine.tp.o_79 P) :: (nat_lit 86, Mine.tp.o_81 P) :: (nat_lit 87, Mine.tp.o_82 P) :: (nat_lit 89, Mine.tp.o_84 P) :: (nat_lit 90, Mine.tp.o_85 P) :: (nat_lit 91, Mine.tp.o_86 P) :: (nat_lit 92, Mine.tp.o_87 P) :: (nat_lit 94, Mine.tp.o_89 P) :: (nat_lit 95, Mine.tp.o_90 P) :: (nat_lit 97, Mine.tp.o_92 P) :: (nat_lit 98, Mine.tp.o_93 P) :: (nat_lit 99, Mine.tp.o_94 P) :: (nat_lit 100, Mine.tp.o_95 P) :: (nat_lit 101, Mine.tp.o_96 P) :: (nat_lit 102, Mine.tp.o_97 P) :: (nat_lit 103, Mine.tp.o_98 P) :: (nat_lit 106, Mine.tp.o_104 P) :: (nat_lit 108, Mine.tp.o_106 P) :: (nat_lit 109, Mine.tp.o_107 P) :: (nat_lit 111, Mine.tp.o_109 P) :: (nat_lit 112, Mine.tp.o_110 P) :: (nat_lit 113, Mine.tp.o_111 P) :: (nat_lit 115, Mine.tp.o_113 P) :: (nat_lit 116, Mine.tp.o_114 P) :: (nat_lit 118, Mine.tp.o_116 P) :: (nat_lit 119, Mine.tp.o_117 P) :: (nat_lit 120, Mine.tp.o_118 P) :: (nat_lit 127, Mine.tp.o_125 P) :: (nat_lit 129, Mine.tp.o_127 P) :: (nat_lit 130, Mine.tp.o_128 P) :: (nat_lit 132, Mine.tp.o_130 P) :: (nat_lit 133, Mine.tp.o_131 P) :: (nat_lit 134, Mine.tp.o_132 P) :: (nat_lit 135, Mine.tp.o_133 P) :: (nat_lit 136, Mine.tp.o_140 P) :: (nat_lit 139, Mine.tp.o_141 P) :: (nat_lit 146, Mine.tp.o_148 P) :: (nat_lit 148, Mine.tp.o_150 P) :: (nat_lit 149, Mine.tp.o_151 P) :: (nat_lit 151, Mine.tp.o_153 P) :: (nat_lit 152, Mine.tp.o_154 P) :: (nat_lit 153, Mine.tp.o_155 P) :: (nat_lit 155, Mine.tp.o_157 P) :: (nat_lit 156, Mine.tp.o_158 P) :: (nat_lit 158, Mine.tp.o_160 P) :: (nat_lit 159, Mine.tp.o_161 P) :: (nat_lit 160, Mine.tp.o_162 P) :: (nat_lit 162, Mine.tp.o_164 P) :: (nat_lit 163, Mine.tp.o_165 P) :: (nat_lit 165, Mine.tp.o_167 P) :: (nat_lit 166, Mine.tp.o_168 P) :: (nat_lit 167, Mine.tp.o_169 P) :: (nat_lit 168, Mine.tp.o_170 P) :: (nat_lit 169, Mine.tp.o_171 P) :: (nat_lit 172, Mine.tp.o_174 P) :: (nat_lit 174, Mine.tp.o_176 P) :: (nat_lit 175, Mine.tp.o_177 P) :: (nat_lit 177, Mine.tp.o_179 P) :: (nat_lit 178, Mine.tp.o_180 P) :: (nat_lit 179, Mine.tp.o_181 P) :: (nat_lit 181, Mine.tp.o_183 P) :: (nat_lit 182, Mine.tp.o_184 P) :: (nat_lit 184, Mine.tp.o_186 P) :: (nat_lit 185, Mine.tp.o_187 P) :: (nat_lit 186, Mine.tp.o_191 P) :: (nat_lit 188, Mine.tp.o_193 P) :: (nat_lit 189, Mine.tp.o_194 P) :: (nat_lit 191, Mine.tp.o_196 P) :: (nat_lit 192, Mine.tp.o_197 P) :: (nat_lit 193, Mine.tp.o_198 P) :: (nat_lit 195, Mine.tp.o_200 P) :: (nat_lit 196, Mine.tp.o_201 P) :: (nat_lit 198, Mine.tp.o_203 P) :: (nat_lit 199, Mine.tp.o_204 P) :: (nat_lit 200, Mine.tp.o_205 P) :: (nat_lit 203, Mine.tp.o_208 P) :: (nat_lit 204, Mine.tp.o_209 P) :: (nat_lit 205, Mine.tp.o_210 P) :: (nat_lit 207, Mine.tp.o_212 P) :: (nat_lit 208, Mine.tp.o_213 P) :: (nat_lit 210, Mine.tp.o_215 P) :: (nat_lit 211, Mine.tp.o_216 P) :: (nat_lit 212, Mine.tp.o_217 P) :: (nat_lit 214, Mine.tp.o_219 P) :: (nat_lit 215, Mine.tp.o_220 P) :: (nat_lit 217, Mine.tp.o_222 P) :: (nat_lit 218, Mine.tp.o_223 P) :: []
end Mine
end
section
open PySem PySem.W PyProof.Rows PySem.Calls
namespace Mine
set_option maxRecDepth 100000
abbrev AA (n : Nat) : Around := { handled := none, depth := 400 + 10 * n, frames := none, guards := none, units := 1000 + 100 * n }
theorem wide {M : Model} {α : Type} {A A' : Around} {t : Sem α} {Q : α → Shared → Prop} {E : Value → Shared → Prop} {s : Shared} (hh : A'.handled = A.handled) (hd : A'.depth ≤ A.depth) (hu : A'.units ≤ A.units) (hf : A.frames = none) (hg : A.guards = none)
    (h : wpAny M A t Q E s) : wpAny M A' t Q E s :=
  fun Γ p hΓ => h Γ p ⟨hΓ.1.trans hh, Nat.le_trans hΓ.2.1 hd, (fun l hl => by rw [hf] at hl; cases hl), (fun g hl => by rw [hg] at hl; cases hl), Nat.le_trans hΓ.2.2.2.2 hu⟩
def Up (M : List Addr) (h h' : Heap) : Prop := ∀ b o, b ∉ M → h.get? b = some o → h'.get? b = some o
section
variable {prog : Program} {w : World} {A : Around} {s : Shared} {K : Frag} {hS : Heap} {p : Program} {loose : List Str} {mean : ExcName → Option Value} {mg mb : Str → Option Value} {news : List (Addr × Obj)}
  {R : Result → Shared → Prop} {name qual : Str} {params : Arguments} {body : List Stmt} {scope : Scope} {cl : List (Str × Addr)} {dV kV doc pm cdv ct oc : Value} {an od : Option Addr} {osl : Array (Option Value)} {f : Addr} {args : Args} {binds : List (Str × Value)}
theorem enterX (XS : K.In hS) (TS : Top p loose mean mg mb hS) (S : hS.StaysIn s.heap) (N0 : ∀ q ∈ news, s.heap.get? q.1 = some q.2 ∧ hS.get? q.1 = none)
    (ho : K.lookup f = some ⟨oc, od, .func (fnX name qual params body scope cl dV kV doc pm an cdv ct), osl⟩) (hcd : codeIn K cdv qual = true) (hroom : A.depth < recursionLimit)
    (hbind : BindsTo s (fnX name qual params body scope cl dV kV doc pm an cdv ct) args binds) (hloc : ∀ y ∈ binds, scope.names.lookup y.1 = some .local)
    (h : ∀ g L' h₁, Fr g L' h₁ (fun y => binds.reverse.lookup y) → News g L' h₁ news → K.In g → Top p loose mean mg mb g → Up (news.map (·.1)) s.heap g → hS.StaysIn g →
      (∀ b o, s.heap.get? b = some o → h₁.get? b = some o) →
      wpAny (model prog w) (A.deeper (envX qual scope L' f cdv cl)) (execs body (envX qual scope L' f cdv cl))
        (fun fl s' => R (.ok (.ret (match fl with | .ret v => v | _ => .none))) s')
        (fun e s' => wpAny (model prog w) (A.deeper (envX qual scope L' f cdv cl)) («leaving» (envX qual scope L' f cdv cl) e) (fun _ s'' => R (.error e) s'') (fun e' s'' => R (.error e') s'') s')
        { s with heap := h₁, toks := s.toks + binds.length })
    (hcell : ∀ x ∈ scope.names, x.2 ≠ .cell) (hco : scope.isCoroutine = false := by rfl) (hgen : scope.isGenerator = false := by rfl) (hk : scope.kind = .function := by rfl) : codeAny (model prog w) A (.call (.ref f) args) R s := by
  have X := XS.keeps S
  refine codeAny_call_def (fd := fnX name qual params body scope cl dV kV doc pm an cdv ct) (body := body) (binds := binds) hroom (X _ _ ho) rfl (TS.nolimit.keeps S) (codeRec_of X hcd) rfl hbind hcell hloc (fun h₁ hns hk₁ => ?_) hco hgen hk
  have st : hS.StaysIn (hideAll s.heap (news.map (·.1))) := fun b o e => hideAll_get _ (S b o e) fun q => by
    obtain ⟨x, hx, rfl⟩ := List.mem_map.mp q
    rw [(N0 x hx).2] at e; cases e
  have hn : ∀ x ∈ news, (hideAll s.heap (news.map (·.1))).get? x.1 = none := fun x hx => hideAll_none _ (List.mem_map_of_mem hx)
  have hup : Up (news.map (·.1)) s.heap (hideAll s.heap (news.map (·.1))) := fun b o hb e => hideAll_get _ e hb
  have hgs := hideAll_size (news.map (·.1)) s.heap
  have hof : ∀ b o, (hideAll s.heap (news.map (·.1))).get? b = some o → s.heap.get? b = some o := fun b o e => of_hideAll _ e
  generalize hideAll s.heap (news.map (·.1)) = g at st hn hup hgs hof
  exact h g s.heap.objs.size h₁ ⟨hns, fun b o e => hk₁ b o (hof b o e), Nat.le_of_eq hgs⟩
    (fun x hx => ⟨hk₁ _ _ (N0 x hx).1, Nat.ne_of_lt (Heap.lt_size (N0 x hx).1), hn x hx⟩) (XS.keeps st) (TS.keeps st) hup st hk₁
theorem enter (XS : K.In hS) (TS : Top p loose mean mg mb hS) (S : hS.StaysIn s.heap) (N0 : ∀ q ∈ news, s.heap.get? q.1 = some q.2 ∧ hS.get? q.1 = none)
    (ho : K.lookup f = some ⟨oc, od, .func (fnOf name qual params body scope dV kV doc pm an cdv ct), osl⟩) (hcd : codeIn K cdv qual = true) (hroom : A.depth < recursionLimit)
    (hbind : BindsTo s (fnOf name qual params body scope dV kV doc pm an cdv ct) args binds) (hloc : ∀ y ∈ binds, scope.names.lookup y.1 = some .local)
    (h : ∀ g L' h₁, Fr g L' h₁ (fun y => binds.reverse.lookup y) → News g L' h₁ news → K.In g → Top p loose mean mg mb g → Up (news.map (·.1)) s.heap g → hS.StaysIn g →
      (∀ b o, s.heap.get? b = some o → h₁.get? b = some o) →
      wpAny (model prog w) (A.deeper (envOf qual scope L' f cdv)) (execs body (envOf qual scope L' f cdv))
        (fun fl s' => R (.ok (.ret (match fl with | .ret v => v | _ => .none))) s')
        (fun e s' => wpAny (model prog w) (A.deeper (envOf qual scope L' f cdv)) («leaving» (envOf qual scope L' f cdv) e) (fun _ s'' => R (.error e) s'') (fun e' s'' => R (.error e') s'') s')
        { s with heap := h₁, toks := s.toks + binds.length })
    (hcell : ∀ x ∈ scope.names, x.2 ≠ .cell) (hco : scope.isCoroutine = false := by rfl) (hgen : scope.isGenerator = false := by rfl) (hk : scope.kind = .function := by rfl) : codeAny (model prog w) A (.call (.ref f) args) R s :=
  enterX (cl := []) XS TS S N0 ho hcd hroom hbind hloc h hcell hco hgen hk
end
end Mine
namespace Mine
theorem Up.keeps {h h' : Heap} (U : Up [] h h') : ∀ b o, h.get? b = some o → h'.get? b = some o := fun b o e => U b o (fun q => nomatch q) e
theorem Up.of {h h' : Heap} (U : ∀ b o, h.get? b = some o → h'.get? b = some o) : Up [] h h' := fun b o _ e => U b o e
theorem frUp {g h h' : Heap} {L : Addr} {m : Str → Option Value} (F : Fr g L h m) (U : Up [] h h') : Fr g L h' m := F.keeps U.keeps
theorem newsUp {g h h' : Heap} {L : Addr} {news : List (Addr × Obj)} (N : News g L h news) (U : Up [] h h') : News g L h' news := fun p hp => ⟨U.keeps _ _ (N p hp).1, (N p hp).2⟩
theorem upF {M : List Addr} {h₀ g h : Heap} {L : Addr} {m : Str → Option Value} (F : Fr g L h m) (gd : Up M h₀ g) : Up M h₀ h := fun b o hb e => F.keep b o (gd b o hb e)
theorem freshN {M : List Addr} {h₀ g h : Heap} {L : Addr} {news : List (Addr × Obj)} {D : Addr} {o : Obj} (N : News g L h news) (gd : Up M h₀ g) (hm : (D, o) ∈ news) (hD : D ∉ M) : h₀.get? D = none := by
  cases e : h₀.get? D with
  | none => rfl
  | some o' => have := (N _ hm).2.2; rw [gd _ _ hD e] at this; cases this
theorem newsAdd {g h h' : Heap} {L D : Addr} {m : Str → Option Value} {o : Obj} {news : List (Addr × Obj)} (F : Fr g L h m) (N : News g L h news) (U : Up [] h h') (hD : h'.get? D = some o) (hf : h.get? D = none) : News g L h' ((D, o) :: news) := by
  obtain ⟨oL, _, _, hL, _⟩ := F.ns
  intro p hp
  rcases List.mem_cons.mp hp with rfl | hp
  · refine ⟨hD, fun e => ?_, ?_⟩
    · rw [show D = L from e, hL] at hf; cases hf
    · cases e : g.get? D with
      | none => rfl
      | some o' => rw [F.keep _ _ e] at hf; cases hf
  · exact ⟨U.keeps _ _ (N p hp).1, (N p hp).2⟩
theorem frStat {hS g h : Heap} {L : Addr} {m : Str → Option Value} (F : Fr g L h m) (st : hS.StaysIn g) : hS.StaysIn h := fun b o e => F.keep b o (st b o e)
theorem newsNone {hS g h : Heap} {L : Addr} {news : List (Addr × Obj)} (N : News g L h news) (st : hS.StaysIn g) : ∀ q ∈ news, h.get? q.1 = some q.2 ∧ hS.get? q.1 = none := fun q hq => ⟨(N q hq).1, by
  cases e : hS.get? q.1 with
  | none => rfl
  | some o => have := (N q hq).2.2; rw [st _ _ e] at this; cases this⟩
end Mine
end
section
open PySem PySem.W PyProof.Rows PySem.Calls
namespace Mine
set_option maxRecDepth 100000
section
variable {prog : Program} {w : World} {A : Around} {E : Value → Shared → Prop} {s : Shared}
theorem str_meta : typeOf (.type "str") = pure (.type "type") := by rfl
theorem kind_isn : builtinKind "issubclass.nested" = none := by decide +kernel
theorem plain_isn : plainId "issubclass.nested" = true := by decide +kernel
theorem args_isn_3 (a b c : Value) : argsOk "issubclass.nested" ⟨[a, b, c], []⟩ := by unfold argsOk; kernel_rfl
theorem isSub_str : isSubtype (.type "str") (.type "str") = pure true := by rw [isSubtype_type]; kernel_rfl
theorem isSub_tt : isSubtype (.type "tuple") (.type "tuple") = pure true := by rw [isSubtype_type]; kernel_rfl
theorem isn_str {dep : Int} {tk : Tok} : Meets (Builtin.«issubclass.nested» ⟨[.type "str", .type "str", .int dep tk], []⟩) (fun _ R s => R (.ok (.ret (.bool true))) s) := by
  intro _ _ _ _ _ hs
  have h1 := str_meta
  have h2 := isSub_str
  repeat (any_goals (first | assumption | (rw [h2]) | wp_step))
theorem issub_str {tp : Addr} {Q : Value → Shared → Prop} (htp : s.heap.get? tp = some { cls := .type "tuple", data := .seq #[.type "str", .type "bytes"] })
    (h : ∀ tk, Q (.bool true) { s with toks := tk }) : wpAny (model prog w) A (call (.builtin "issubclass") [.type "str", .ref tp]) Q E s := by
  refine call_issubclass (S := fun _ R s => s.heap.get? tp = some { cls := .type "tuple", data := .seq #[.type "str", .type "bytes"] } ∧ ∀ tk, R (.ok (.ret (.bool true))) { s with toks := tk }) ?_ ⟨htp, h⟩
  intro _ _ A R s hs
  obtain ⟨htp, hq⟩ := hs
  refine issubclass_outer ?_
  obtain ⟨h, g, d, t, os⟩ := s
  have hT2 : (⟨h, g, d, t, os⟩ : Shared).TypeIs (.ref tp) "tuple" := ⟨_, htp, rfl⟩
  have f1 := isSub_tt
  repeat (any_goals (first | assumption | (with_reducible refine wpAny_call ?_; fail) | (refine call_function_meets kind_isn plain_isn F.entry_issubclass_nested (args_isn_3 _ _ _) isn_str ?_) | wp_step))
  all_goals exact hq _
end
end Mine
end
section
open PySem PySem.W PyProof.Rows PySem.Calls
set_option maxRecDepth 100000
set_option maxHeartbeats 8000000
namespace Mine
theorem fill : PySem.Challenge.rw_mr0062_01 = PySem.Challenge.rw_mr0062_01 ∧ hd.heap_39 = hd.heap_39 := by
  k_fill
  w_top off
  exact ⟨rfl, rfl⟩
section
variable {prog : Program} {w : World} {s : Shared} {hS : Heap} {p : Program} {loose : List Str} {mean : ExcName → Option Value} {mg mb : Str → Option Value} {Q : Value → Shared → Prop} {E : Value → Shared → Prop}
theorem fspath_s {x : Str} {t : Tok}
  (XS : (hd.heap_39 w.params).In hS) (TS : Top p loose mean mg mb hS) (S : hS.StaysIn s.heap)
  (k : ∀ h' tk, Up [] s.heap h' → Q (.str x t) { s with heap := h', toks := tk }) : wpAny (model prog w) (AA 5) (call (.ref 185) [.str x t]) Q E s := by
  refine wpAny_call ?_
  k_dflt (refine' enter (news := []) (binds := [(Str.ofString "path", Value.str x t)]) XS TS S ?k1 ?k2 ?k3 ?k4 ?k5 ?k6 ?_ ?c1 ?c2 ?c3 ?c4; (case k1 => exact fun _ h => nomatch h); (case k2 => k_is); (case k3 => k_is); (case k4 => decide); (case k5 => exact BindsTo.of_eq rfl); (case k6 => exact locs rfl); (case c1 => decide); (case c2 => exact rfl); (case c3 => exact rfl); (case c4 => exact rfl); k_whole)
  intro g L' h₁ F' N' X' T' up' st' kk'
  try dsimp only
  try k_fold
  clear XS TS
  k_steps
  rename_i D h' F N _
  refine issub_str (N _ (.head _)).1 fun tk => ?_
  k_steps
  rename_i F N _
  exact k _ _ (upF F up')
theorem get_sep_s {x : Str} {t : Tok} 
  (XS : (hd.heap_39 w.params).In hS) (TS : Top p loose mean mg mb hS) (S : hS.StaysIn s.heap)
  (k : ∀ h' tk t, Up [] s.heap h' → Q (.str "/" t) { s with heap := h', toks := tk }) : wpAny (model prog w) (AA 5) (call (.ref 112) [.str x t]) Q E s := by
  refine wpAny_call ?_
  k_dflt (refine' enter (news := []) (binds := [(Str.ofString "path", Value.str x t)]) XS TS S ?k1 ?k2 ?k3 ?k4 ?k5 ?k6 ?_ ?c1 ?c2 ?c3 ?c4; (case k1 => exact fun _ h => nomatch h); (case k2 => k_is); (case k3 => k_is); (case k4 => decide); (case k5 => exact BindsTo.of_eq rfl); (case k6 => exact locs rfl); (case c1 => decide); (case c2 => exact rfl); (case c3 => exact rfl); (case c4 => exact rfl); k_whole)
  intro g L' h₁ F' N' X' T' up' st' kk'
  try dsimp only
  try k_fold
  clear XS TS
  k_steps
  exact k _ _ _ (upF F' up')
abbrev sHead (x : Str) : Str := Txt.slice x none (some (Txt.rfind x (Str.ofString "/") + 1))
abbrev sTail (x : Str) : Str := Txt.slice x (some (Txt.rfind x (Str.ofString "/") + 1)) none
noncomputable def splitHead (x : Str) : Str := if ((sHead x).length : Int) ≠ 0 ∧ (sHead x != Txt.mul (Str.ofString "/") ((sHead x).length : Int)) = true then Txt.rstripChars (sHead x) (Str.ofString "/") else sHead x
theorem split_s {x : Str} {t : Tok} (hx : x.length ≤ 1000)
  (XS : (hd.heap_39 w.params).In hS) (TS : Top p loose mean mg mb hS) (S : hS.StaysIn s.heap)
  (k : ∀ h' tk D t1 t2, Up [] s.heap h' → s.heap.get? D = none → h'.get? D = some { cls := .type "tuple", data := .seq #[.str (splitHead x) t1, .str (sTail x) t2] } → (splitHead x).length ≤ x.length → (sTail x).length ≤ x.length → Q (.ref D) { s with heap := h', toks := tk })
  : wpAny (model prog w) (AA 4) (call (.ref 192) [.str x t]) Q E s := by
  refine wpAny_call ?_
  k_dflt (refine' enter (news := []) (binds := [(Str.ofString "p", Value.str x t)]) XS TS S ?k1 ?k2 ?k3 ?k4 ?k5 ?k6 ?_ ?c1 ?c2 ?c3 ?c4; (case k1 => exact fun _ h => nomatch h); (case k2 => k_is); (case k3 => k_is); (case k4 => decide); (case k5 => exact BindsTo.of_eq rfl); (case k6 => exact locs rfl); (case c1 => decide); (case c2 => exact rfl); (case c3 => exact rfl); (case c4 => exact rfl); k_whole)
  intro g L' h₁ F' N' X' T' up' st' kk'
  try dsimp only
  try k_fold
  k_steps
  refine wide (A := AA 5) rfl (Nat.le_of_ble_eq_true rfl) (Nat.le_of_ble_eq_true rfl) rfl rfl (fspath_s XS TS (frStat F' st') fun h' tk U => ?_)
  have F2 := frUp F' U
  have N2 := newsUp N' U
  clear F' N'
  k_steps
  rename_i F3 N3
  refine wide (A := AA 5) rfl (Nat.le_of_ble_eq_true rfl) (Nat.le_of_ble_eq_true rfl) rfl rfl (get_sep_s XS TS (frStat F3 st') fun h' tk tt U => ?_)
  have F4 := frUp F3 U
  have N4 := newsUp N3 U
  clear F3 N3
  k_steps
  · (rename Fr _ _ _ _ => F); (rename News _ _ _ _ => N)
    have hs : splitHead x = Txt.rstripChars (sHead x) (Str.ofString "/") := if_pos ⟨by with_reducible assumption, by with_reducible assumption⟩
    refine k _ _ _ _ _ (upF F up') (freshN N up' (.head _) (fun q => nomatch q)) (by rw [hs]; exact (N _ (.head _)).1) (by rw [hs]; exact Nat.le_trans (by with_reducible assumption) (by with_reducible assumption)) (by with_reducible assumption)
  · (rename Fr _ _ _ _ => F); (rename News _ _ _ _ => N)
    have hs : splitHead x = sHead x := if_neg (fun q => Bool.noConfusion ((by with_reducible assumption : (sHead x != Txt.mul (Str.ofString "/") ((sHead x).length : Int)) = false).symm.trans q.2))
    refine k _ _ _ _ _ (upF F up') (freshN N up' (.head _) (fun q => nomatch q)) (by rw [hs]; exact (N _ (.head _)).1) (by rw [hs]; assumption) (by with_reducible assumption)
  · (rename Fr _ _ _ _ => F); (rename News _ _ _ _ => N)
    have hs : splitHead x = sHead x := if_neg (fun q => absurd (by with_reducible assumption) q.1)
    refine k _ _ _ _ _ (upF F up') (freshN N up' (.head _) (fun q => nomatch q)) (by rw [hs]; exact (N _ (.head _)).1) (by rw [hs]; assumption) (by with_reducible assumption)
end
end Mine
end
section
open PySem PySem.W PyProof.Rows PySem.Calls
namespace Mine
set_option maxRecDepth 100000
/-- a turn's end -/
def Lower (I : Nat → Shared → Prop) (n : Nat) (s : Shared) : Prop := ∃ m, m < n ∧ I m s
theorem whileL {prog : Program} {w : World} {A : Around} {R : Result → Shared → Prop} {s : Shared} {test : Expr} {body orelse : List Stmt} {env : Env} (I : Nat → Shared → Prop)
    (turn : ∀ n s, I n s →
      wpAny (model prog w) A (isTrue test env (eval test env)) (fun b s₂ =>
        if b then wpAny (model prog w) A (execs body env) (fun f s₃ => match f with
            | .next | .cont => Lower I n s₃
            | .brk => R (.ok .next) s₃
            | .ret v => R (.ok (.ret v)) s₃) (notedBy (model prog w) A env fun e s' => R (.error e) s') s₂
        else wpAny (model prog w) A (execs orelse env) (fun f s₃ => R (.ok f) s₃) (notedBy (model prog w) A env fun e s' => R (.error e) s') s₂)
        (notedBy (model prog w) A env fun e s' => R (.error e) s') s)
    (n : Nat) (h : I n s) : codeAny (model prog w) A (.whileLoop test body orelse env) R s := codeAny_whileLoop I turn n h
/-- a pair of texts, as the ledger bears it: a tuple -/
abbrev tupO (p : Str × Str) (t1 t2 : Tok) : Obj := { cls := .type "tuple", data := .seq #[.str p.1 t1, .str p.2 t2] }
inductive PairsAt (h : Heap) : List Value → List (Str × Str) → Prop where
  | nil : PairsAt h [] []
  | cons {a : Addr} {p : Str × Str} {t1 t2 : Tok} {vs : List Value} {ps : List (Str × Str)} : h.get? a = some (tupO p t1 t2) → PairsAt h vs ps → PairsAt h (.ref a :: vs) (p :: ps)
theorem PairsAt.length {h : Heap} {vs : List Value} {ps : List (Str × Str)} (x : PairsAt h vs ps) : vs.length = ps.length := by
  induction x with
  | nil => rfl
  | cons _ _ ih => rw [List.length_cons, List.length_cons, ih]
theorem PairsAt.up {h h' : Heap} {M : List Addr} {vs : List Value} {ps : List (Str × Str)} (x : PairsAt h vs ps) (U : Up M h h') (hM : ∀ a ∈ M, ∀ o, h.get? a = some o → o.cls ≠ .type "tuple") : PairsAt h' vs ps := by
  induction x with
  | nil => exact .nil
  | cons ha _ ih => exact .cons (U _ _ (fun q => hM _ q _ ha rfl) ha) ih
theorem PairsAt.keeps {h h' : Heap} {vs : List Value} {ps : List (Str × Str)} (x : PairsAt h vs ps) (k : ∀ b o, h.get? b = some o → h'.get? b = some o) : PairsAt h' vs ps := by
  induction x with
  | nil => exact .nil
  | cons ha _ ih => exact .cons (k _ _ ha) ih
theorem PairsAt.append {h : Heap} {vs ws : List Value} {ps qs : List (Str × Str)} (x : PairsAt h vs ps) (y : PairsAt h ws qs) : PairsAt h (vs ++ ws) (ps ++ qs) := by
  induction x with
  | nil => exact y
  | cons ha _ ih => exact .cons ha ih
theorem PairsAt.take {h : Heap} {vs : List Value} {ps : List (Str × Str)} (x : PairsAt h vs ps) (n : Nat) : PairsAt h (vs.take n) (ps.take n) := by
  induction x generalizing n with
  | nil => simp only [List.take_nil]; exact .nil
  | cons ha _ ih => cases n with
    | zero => exact .nil
    | succ n => exact .cons ha (ih n)
theorem PairsAt.drop {h : Heap} {vs : List Value} {ps : List (Str × Str)} (x : PairsAt h vs ps) (n : Nat) : PairsAt h (vs.drop n) (ps.drop n) := by
  induction x generalizing n with
  | nil => simp only [List.drop_nil]; exact .nil
  | cons ha hr ih => cases n with
    | zero => exact .cons ha hr
    | succ n => exact ih n
theorem PairsAt.get {h : Heap} {vs : List Value} {ps : List (Str × Str)} (x : PairsAt h vs ps) {i : Nat} {v : Value} (hv : vs[i]? = some v) : ∃ a p t1 t2, v = .ref a ∧ ps[i]? = some p ∧ h.get? a = some (tupO p t1 t2) := by
  induction x generalizing i with
  | nil => simp at hv
  | cons ha hr ih => cases i with
    | zero => simp at hv; subst hv; exact ⟨_, _, _, _, rfl, rfl, ha⟩
    | succ i => simp only [List.getElem?_cons_succ] at hv ⊢; exact ih hv
/-- the same, by the ledger -/
inductive PairsIn (tl : List (Addr × Obj)) : List Value → List (Str × Str) → Prop where
  | nil : PairsIn tl [] []
  | cons {a : Addr} {p : Str × Str} {t1 t2 : Tok} {vs : List Value} {ps : List (Str × Str)} : (a, tupO p t1 t2) ∈ tl → PairsIn tl vs ps → PairsIn tl (.ref a :: vs) (p :: ps)
theorem PairsIn.mono {tl tl' : List (Addr × Obj)} (hs : ∀ q ∈ tl, q ∈ tl') {vs : List Value} {ps : List (Str × Str)} (x : PairsIn tl vs ps) : PairsIn tl' vs ps := by
  induction x with
  | nil => exact .nil
  | cons ha _ ih => exact .cons (hs _ ha) ih
theorem PairsIn.at {h : Heap} {tl : List (Addr × Obj)} {vs : List Value} {ps : List (Str × Str)} (x : PairsIn tl vs ps) (N : ∀ q ∈ tl, h.get? q.1 = some q.2) : PairsAt h vs ps := by
  induction x with
  | nil => exact .nil
  | cons ha _ ih => exact .cons (N _ ha) ih
theorem PairsIn.length {tl : List (Addr × Obj)} {vs : List Value} {ps : List (Str × Str)} (x : PairsIn tl vs ps) : vs.length = ps.length := by
  induction x with
  | nil => rfl
  | cons _ _ ih => rw [List.length_cons, List.length_cons, ih]
/-- the ledger of pairs that stand -/
theorem PairsAt.led {h : Heap} {vs : List Value} {ps : List (Str × Str)} (x : PairsAt h vs ps) : ∃ tl, PairsIn tl vs ps ∧ ∀ q ∈ tl, h.get? q.1 = some q.2 ∧ Value.ref q.1 ∈ vs ∧ q.2.cls = .type "tuple" := by
  induction x with
  | nil => exact ⟨[], .nil, fun _ h => nomatch h⟩
  | @cons a p t1 t2 vs ps ha _ ih =>
    obtain ⟨tl, h1, h2⟩ := ih
    refine ⟨(a, tupO p t1 t2) :: tl, .cons (.head _) (h1.mono fun q hq => .tail _ hq), fun q hq => ?_⟩
    rcases List.mem_cons.mp hq with rfl | hq
    · exact ⟨ha, .head _, rfl⟩
    · exact ⟨(h2 q hq).1, .tail _ (h2 q hq).2.1, (h2 q hq).2.2⟩
theorem newsCons {g h : Heap} {L : Addr} {news : List (Addr × Obj)} {x : Addr × Obj} (N : News g L h news) (hm : x ∈ news) : News g L h (x :: news) := fun q hq => by
  rcases List.mem_cons.mp hq with rfl | hq
  · exact N _ hm
  · exact N _ hq
/-- the text of some pairs -/
def textOf (ps : List (Str × Str)) : Str := Txt.join (Str.ofString "") (ps.map fun p => p.1 ++ p.2)
/-- slashes and a name -/
structure Good (p : Str × Str) : Prop where
  sl : ∃ k, 1 ≤ k ∧ k ≤ 3 ∧ p.1.cps.toList = List.replicate k 47
  ne : p.2.cps.toList ≠ []
  le : p.2.cps.toList.length ≤ 3
  no : 47 ∉ p.2.cps.toList
  ok : PyData.strOk p.2 = true
theorem addL {prog : Program} {w : World} {A : Around} {E : Value → Shared → Prop} {s : Shared} {h₀ : Heap} {L a b : Addr} {m : Str → Option Value} {news : List (Addr × Obj)} {xs ys : List Value} {n1 n2 : Nat} {Q : Value → Shared → Prop}
    (F : Fr h₀ L s.heap m) (N : News h₀ L s.heap news) (ha : (a, W.listOf xs.toArray n1) ∈ news) (hb : (b, W.listOf ys.toArray n2) ∈ news) (hz : xs.length + ys.length ≤ sizeLine)
    (h : ∀ D h', Fr h₀ L h' m → News h₀ L h' ((D, W.listOf (xs ++ ys).toArray 0) :: news) → (∀ p ∈ news, p.1 < D) → Q (.ref D) { s with heap := h' }) : wpAny (model prog w) A (binaryOp .Add (.ref a) (.ref b)) Q E s :=
  kmk_add_lit (zs := xs ++ ys) F N ⟨_, (N _ ha).1, rfl, _, rfl⟩ ⟨_, (N _ hb).1, rfl, _, rfl⟩ (by simp) h (by simpa using hz)
end Mine
end
section
open PySem PySem.W PyProof.Rows PySem.Calls
namespace Mine
set_option maxRecDepth 100000
theorem str_slash : Str.ofString "/" = ⟨#[47]⟩ := by decide +kernel
theorem str_nil : Str.ofString "" = ⟨#[]⟩ := by decide +kernel
theorem ext_cl {a b : Str} (h : a.cps.toList = b.cps.toList) : a = b := Str.ext' (Array.toList_inj.mp h)
theorem len_cl (a : Str) : a.length = a.cps.toList.length := by simp [Str.length]
theorem join_nil_cl : ∀ xs : List Str, (Txt.join (Str.ofString "") xs).cps.toList = (xs.map fun x => x.cps.toList).flatten := by
  intro xs
  show (Builtin.Str.glued (Str.ofString "") xs).cps.toList = _
  rw [StrLaws.glued_eq_join, str_nil]
  induction xs with
  | nil => rfl
  | cons x r ih =>
    cases r with
    | nil => simp [Str.join]
    | cons y r =>
      show (x ++ (⟨#[]⟩ : Str) ++ Str.join ⟨#[]⟩ (y :: r)).cps.toList = _
      rw [Str.cps_append, Str.cps_append, Array.toList_append, Array.toList_append, ih]
      simp
theorem textOf_cl (ps : List (Str × Str)) : (textOf ps).cps.toList = (ps.map fun p => p.1.cps.toList ++ p.2.cps.toList).flatten := by
  unfold textOf
  rw [join_nil_cl, List.map_map]
  congr 1
  apply List.map_congr_left
  intro p _
  simp [Str.cps_append]
theorem textOf_append_cl (ps qs : List (Str × Str)) : (textOf (ps ++ qs)).cps.toList = (textOf ps).cps.toList ++ (textOf qs).cps.toList := by
  rw [textOf_cl, textOf_cl, textOf_cl, List.map_append, List.flatten_append]
theorem textOf_snoc_cl (ps : List (Str × Str)) (p : Str × Str) : (textOf (ps ++ [p])).cps.toList = (textOf ps).cps.toList ++ (p.1.cps.toList ++ p.2.cps.toList) := by
  rw [textOf_append_cl, textOf_cl [p]]; simp
theorem textOf_len_append (ps qs : List (Str × Str)) : (textOf (ps ++ qs)).length = (textOf ps).length + (textOf qs).length := by
  rw [len_cl, len_cl, len_cl, textOf_append_cl, List.length_append]
theorem textOf_nil : textOf [] = Str.ofString "" := ext_cl (by rw [textOf_cl, str_nil]; rfl)
theorem textOf_len (ps : List (Str × Str)) : (textOf ps).length = (ps.map fun p => p.1.length + p.2.length).sum := by
  induction ps with
  | nil => rw [textOf_nil, str_nil]; rfl
  | cons p r ih =>
    have := textOf_len_append [p] r
    rw [List.singleton_append] at this
    rw [this, ih, List.map_cons, List.sum_cons, len_cl, textOf_cl]
    simp [len_cl]
theorem Good.len {p : Str × Str} (h : Good p) : 2 ≤ p.1.length + p.2.length ∧ p.1.length + p.2.length ≤ 6 := by
  obtain ⟨k, h1, h2, h3⟩ := h.sl
  have h4 := h.le
  have h5 : p.2.cps.toList.length ≠ 0 := fun q => h.ne (List.eq_nil_of_length_eq_zero q)
  have h6 : p.1.cps.toList.length = k := by rw [h3]; simp
  rw [len_cl, len_cl]
  omega
theorem textOf_good {ps : List (Str × Str)} (h : ∀ p ∈ ps, Good p) : 2 * ps.length ≤ (textOf ps).length ∧ (textOf ps).length ≤ 6 * ps.length := by
  rw [textOf_len]
  induction ps with
  | nil => simp
  | cons p r ih =>
    have a := (h p (.head _)).len
    have b := ih fun q hq => h q (.tail _ hq)
    simp only [List.map_cons, List.sum_cons, List.length_cons]
    omega
theorem mul_slash (n : Nat) : (Txt.mul (Str.ofString "/") (n : Int)).cps.toList = List.replicate n 47 := by
  unfold Txt.mul
  rw [str_slash]
  split
  · have : n = 0 := by omega
    subst this; rfl
  · rename_i h
    split
    · rename_i h2
      have : n = 1 := by simp [Str.length] at h2; omega
      subst this; rfl
    · rw [Int.toNat_natCast]
      clear h
      have : ∀ (m : Nat) (a : Array Nat), ((List.replicate m (#[47] : Array Nat)).foldl (· ++ ·) a).toList = a.toList ++ List.replicate m 47 := by
        intro m
        induction m with
        | zero => intro a; simp
        | succ m ih => intro a; rw [List.replicate_succ, List.foldl_cons, ih, Array.toList_append, List.replicate_succ]; simp
      rw [this]; simp
theorem rfind_at {y : Str} {A B : List Nat} (h : y.cps.toList = A ++ 47 :: B) (hB : 47 ∉ B) : Txt.rfind y (Str.ofString "/") = (A.length : Int) := by
  rw [str_slash]
  have hlen : y.length = A.length + (B.length + 1) := by rw [len_cl, h]; simp
  have at_iff : ∀ i, StrLaws.At y ⟨#[47]⟩ y.length i ↔ y.cps.toList[i]? = some 47 := by
    intro i
    exact StrLaws.subAt_one y 47 i
  have hA : StrLaws.At y ⟨#[47]⟩ y.length A.length := (at_iff _).mpr (by rw [h]; simp)
  unfold Txt.rfind
  rcases StrLaws.last_spec y ⟨#[47]⟩ with ⟨_, hn⟩ | ⟨i, hi, hq, hn⟩
  · exact absurd hA (hn _)
  · rw [hi]
    show (i : Int) = A.length
    have h1 : ¬ i < A.length := fun q => hn _ q hA
    have h2 : ¬ A.length < i := fun q => by
      have q2 := (at_iff i).mp hq
      rw [h, List.getElem?_append_right (Nat.le_of_lt q)] at q2
      obtain ⟨j, hj⟩ : ∃ j, i - A.length = j + 1 := ⟨i - A.length - 1, (Nat.sub_add_cancel (Nat.sub_pos_of_lt q)).symm⟩
      rw [hj, List.getElem?_cons_succ] at q2
      exact hB (List.mem_of_getElem? q2)
    exact congrArg Int.ofNat (Nat.le_antisymm (Nat.not_lt.mp h2) (Nat.not_lt.mp h1))
theorem slice_eq (x : Str) (l u : Option Int) : Txt.slice x l u = StrLaws.sliceText x l u := rfl
theorem sHead_at {y : Str} {A B : List Nat} (h : y.cps.toList = A ++ 47 :: B) (hB : 47 ∉ B) : (sHead y).cps.toList = A ++ [47] := by
  unfold sHead
  rw [rfind_at h hB, slice_eq, StrLaws.sliceText_to ⟨by omega, by rw [h]; simp; omega⟩]
  have e : ((A.length : Int) + 1 - 0).toNat = A.length + 1 := by omega
  rw [e, List.drop_zero, h]
  have e3 : A ++ 47 :: B = (A ++ [47]) ++ B := by simp
  rw [e3, List.take_left' (by simp)]
theorem sTail_at {y : Str} {A B : List Nat} (h : y.cps.toList = A ++ 47 :: B) (hB : 47 ∉ B) : (sTail y).cps.toList = B := by
  unfold sTail
  rw [rfind_at h hB, slice_eq, StrLaws.sliceText_from ⟨by omega, by rw [h]; simp; omega⟩]
  have e : ((A.length : Int) + 1).toNat = A.length + 1 := by omega
  have e2 : ((y.cps.toList.length : Int) - ((A.length : Int) + 1)).toNat = B.length := by rw [h]; simp; omega
  rw [e, e2, h]
  have e3 : (A ++ 47 :: B).drop (A.length + 1) = B := by
    rw [show A ++ 47 :: B = (A ++ [47]) ++ B by simp, List.drop_left' (by simp)]
  rw [e3]; simp
theorem rstrip_at {x : Str} {C : List Nat} {k : Nat} (h : x.cps.toList = C ++ List.replicate k 47) (hC : ∀ D c, C = D ++ [c] → c ≠ 47) : (Txt.rstripChars x (Str.ofString "/")).cps.toList = C := by
  rw [str_slash]
  unfold Txt.rstripChars Txt.stripBy
  have hgoes : ∀ c, (#[47] : Array Nat).contains c = decide (c = 47) := by
    intro c
    simp
  have hk : (x.cps.toList.reverse.takeWhile fun c => (#[47] : Array Nat).contains c).length = k := by
    rw [h, List.reverse_append, List.reverse_replicate]
    have : ∀ (m : Nat) (R : List Nat), (∀ c r, R = c :: r → c ≠ 47) → ((List.replicate m 47 ++ R).takeWhile fun c => (#[47] : Array Nat).contains c).length = m := by
      intro m
      induction m with
      | zero =>
        intro R hR
        cases R with
        | nil => rfl
        | cons c r =>
          rw [List.replicate_zero, List.nil_append, List.takeWhile_cons, hgoes]
          simp [hR c r rfl]
      | succ m ih =>
        intro R hR
        rw [List.replicate_succ, List.cons_append, List.takeWhile_cons, hgoes]
        simp only [decide_true, if_true, List.length_cons, ih R hR]
    refine this k C.reverse fun c r e => ?_
    refine hC r.reverse c ?_
    have := congrArg List.reverse e
    simpa using this
  have hlen : x.length = C.length + k := by rw [len_cl, h]; simp
  have hlo : stripLo (#[47] : Array Nat).contains false x = 0 := rfl
  have hhi : stripHi (#[47] : Array Nat).contains true x 0 = C.length := by
    unfold stripHi
    rw [if_pos rfl, List.drop_zero, hk]; omega
  unfold stripSame PySem.stripped
  rw [hlo, hhi]
  split
  · rename_i q
    have : C.length = x.length := by simpa using q
    have k0 : k = 0 := by omega
    rw [h, k0]; simp
  · rw [StrLaws.strSub_toList, h]
    simp
theorem good_last {ps : List (Str × Str)} (h : ∀ p ∈ ps, Good p) : ∀ D c, (textOf ps).cps.toList = D ++ [c] → c ≠ 47 := by
  intro D c e
  rcases List.eq_nil_or_concat ps with rfl | ⟨init, p, rfl⟩
  · rw [textOf_cl] at e; simp at e
  · rw [List.concat_eq_append] at h e
    rw [textOf_snoc_cl, ← List.append_assoc] at e
    have hp := h p (by simp)
    rcases List.eq_nil_or_concat p.2.cps.toList with q | ⟨r, d, q⟩
    · exact absurd q hp.ne
    · rw [List.concat_eq_append] at q
      rw [q, ← List.append_assoc] at e
      have := (List.append_inj' e rfl).2
      have hcd : d = c := by simpa using this
      intro hc
      exact hp.no (by rw [q, hcd, hc]; simp)
theorem turn_law {init : List (Str × Str)} {p : Str × Str} (hi : ∀ q ∈ init, Good q) (hp : Good p) :
    sTail (textOf (init ++ [p])) = p.2 ∧
    ((splitHead (textOf (init ++ [p])) == Txt.mul (Str.ofString "/") ((splitHead (textOf (init ++ [p]))).length : Int)) = true → textOf init = Str.ofString "") ∧
    ((splitHead (textOf (init ++ [p])) == Txt.mul (Str.ofString "/") ((splitHead (textOf (init ++ [p]))).length : Int)) = false → splitHead (textOf (init ++ [p])) = textOf init) ∧
    Txt.slice (textOf (init ++ [p])) (some ((textOf init).length : Int)) (some (((textOf (init ++ [p])).length : Int) - (p.2.length : Int))) = p.1 := by
  obtain ⟨k, h1, h2, h3⟩ := hp.sl
  obtain ⟨j, rfl⟩ : ∃ j, k = j + 1 := ⟨k - 1, by omega⟩
  have hy := textOf_snoc_cl init p
  have hA : (textOf (init ++ [p])).cps.toList = ((textOf init).cps.toList ++ List.replicate j 47) ++ 47 :: p.2.cps.toList := by
    rw [hy, h3, List.replicate_succ']; simp
  generalize hyy : textOf (init ++ [p]) = y at hy hA
  have hH := sHead_at hA hp.no
  have hT := sTail_at hA hp.no
  have hH2 : (sHead y).cps.toList = (textOf init).cps.toList ++ List.replicate (j + 1) 47 := by
    rw [hH, List.replicate_succ']; simp
  have hR := rstrip_at hH2 (good_last hi)
  have hHl : (sHead y).length = (textOf init).length + (j + 1) := by rw [len_cl, hH2, len_cl]; simp
  have hmul := mul_slash (sHead y).length
  refine ⟨ext_cl hT, ?_, ?_, ?_⟩
  · intro q
    have q' : splitHead y = Txt.mul (Str.ofString "/") ((splitHead y).length : Int) := by simpa using q
    by_cases hz : (textOf init).cps.toList = []
    · exact ext_cl (by rw [hz, str_nil])
    · exfalso
      rcases List.eq_nil_or_concat (textOf init).cps.toList with e | ⟨D, c, e⟩
      · exact hz e
      · rw [List.concat_eq_append] at e
        have hc := good_last hi D c e
        have hm := mul_slash (splitHead y).length
        rw [← q'] at hm
        have hmem : c ∈ (splitHead y).cps.toList := by
          unfold splitHead
          split
          · rw [hR, e]; simp
          · rw [hH2, e]; simp
        rw [hm] at hmem
        exact hc (List.eq_of_mem_replicate hmem)
  · intro q
    have q' : splitHead y ≠ Txt.mul (Str.ofString "/") ((splitHead y).length : Int) := by simpa using q
    have hs : splitHead y = Txt.rstripChars (sHead y) (Str.ofString "/") := by
      unfold splitHead
      refine if_pos ⟨by omega, ?_⟩
      cases hb : (sHead y != Txt.mul (Str.ofString "/") ((sHead y).length : Int)) with
      | true => rfl
      | false =>
        exfalso
        have e : splitHead y = sHead y := if_neg fun z => by rw [hb] at z; exact Bool.noConfusion z.2
        rw [e] at q'
        exact q' (by simpa using hb)
    rw [hs]
    exact ext_cl hR
  · have hyl : y.length = (textOf init).length + (j + 1) + p.2.length := by rw [len_cl, len_cl, len_cl, hy, h3]; simp; omega
    have e1 : ((y.length : Int) - (p.2.length : Int)) = (((textOf init).length + (j + 1) : Nat) : Int) := by omega
    rw [e1, slice_eq, StrLaws.sliceText_nat y (by omega) (by omega)]
    apply ext_cl
    show ((y.cps.toList.drop (textOf init).length).take ((textOf init).length + (j + 1) - (textOf init).length)) = _
    have e2 : (textOf init).length + (j + 1) - (textOf init).length = j + 1 := by omega
    rw [e2, hy, len_cl, List.drop_left, h3]
    rw [List.take_left' (by simp)]
end Mine
end
section
open PySem PySem.W PyProof.Rows PySem.Calls
set_option maxRecDepth 100000
set_option maxHeartbeats 4000000
namespace Mine
theorem fill2 : PySem.Challenge.rw_mr0062_01 = PySem.Challenge.rw_mr0062_01 ∧ hd.heap_39 = hd.heap_39 := by
  k_fill
  w_top off
  exact ⟨rfl, rfl⟩
local macro_rules | `(tactic| k_steps) => `(tactic| repeat' (first
  | (k_unfold; (try dsimp only))
  | ((fail_if_success (with_reducible show wpAny _ _ (exec (Stmt.While _ _ _ _) _) _ _ _));
     (fail_if_success (with_reducible show wpAny _ _ (exec (Stmt.For _ _ _ _ _) _) _ _ _));
     (fail_if_success (with_reducible show wpAny _ _ (eval (Expr.ListComp _ _ _ _) _) _ _ _));
     (fail_if_success (with_reducible show wpAny _ _ (eval (Expr.GeneratorExp _ _ _ _) _) _ _ _));
     (fail_if_success (with_reducible show wpAny _ _ (call (Value.ref _) _ _) _ _ _));
     (first | walk1 | (dsimp only; walk1) | (leave1; try dsimp only)))
  | fail "no step"))
section
variable {prog : Program} {w : World} {s : Shared} {hS : Heap} {p : Program} {loose : List Str} {mean : ExcName → Option Value} {mg mb : Str → Option Value} {Q : Value → Shared → Prop} {E : Value → Shared → Prop}
theorem PairsIn.mem {tl : List (Addr × Obj)} {vs : List Value} {ps : List (Str × Str)} (x : PairsIn tl vs ps) {a : Addr} (h : Value.ref a ∈ vs) : ∃ o, (a, o) ∈ tl := by
  induction x with
  | nil => cases h
  | cons ha _ ih =>
    rcases List.mem_cons.mp h with e | h
    · cases e; exact ⟨_, ha⟩
    · exact ih h
/-- what holds between the turns -/
def PairsInv (g : Heap) (L : Addr) (s : Shared) (ps : List (Str × Str)) (n : Nat) (s' : Shared) : Prop :=
  ∃ h tk m init qs l vs t tl, s' = { s with heap := h, toks := tk } ∧ Fr g L h m ∧ ps = init ++ qs ∧ n = init.length ∧ m (Str.ofString "text") = some (.str (textOf init) t) ∧ m (Str.ofString "pairs") = some (.ref l) ∧
    News g L h ((l, W.listOf vs.toArray 0) :: tl) ∧ PairsIn tl vs qs
theorem law_pairs_s {t : Tok} {ps : List (Str × Str)} (hp : ∀ p ∈ ps, Good p) (hlen : ps.length ≤ 100) (hx : (textOf ps).length ≤ 1000)
  (XS : (hd.heap_39 w.params).In hS) (TS : Top p loose mean mg mb hS) (S : hS.StaysIn s.heap)
  (k : ∀ h' tk l vs, Up [] s.heap h' → s.heap.get? l = none → h'.get? l = some (W.listOf vs.toArray 0) → PairsAt h' vs ps → (∀ a, Value.ref a ∈ vs → s.heap.get? a = none) → Q (.ref l) { s with heap := h', toks := tk })
  : wpAny (model prog w) (AA 3) (call (.ref 199) [.str (textOf ps) t]) Q E s := by
  refine wpAny_call ?_
  k_dflt (refine' enter (news := []) (binds := [(Str.ofString "text", Value.str (textOf ps) t)]) XS TS S ?k1 ?k2 ?k3 ?k4 ?k5 ?k6 ?_ ?c1 ?c2 ?c3 ?c4; (case k1 => exact fun _ h => nomatch h); (case k2 => k_is); (case k3 => k_is); (case k4 => decide); (case k5 => exact BindsTo.of_eq rfl); (case k6 => exact locs rfl); (case c1 => decide); (case c2 => exact rfl); (case c3 => exact rfl); (case c4 => exact rfl); k_whole)
  intro g L' h₁ F' N' X' T' up' st' kk'
  try dsimp only
  try k_fold
  k_steps
  (rename Fr _ _ _ _ => F0); (rename News _ _ _ _ => N0)
  refine wpAny_While (whileL (PairsInv g L' s ps) (fun n s1 hI => ?_) ps.length ⟨_, _, _, ps, [], _, [], _, [], rfl, F0, (List.append_nil ps).symm, rfl, rfl, rfl, N0, .nil⟩)
  obtain ⟨h, tk, m, init, qs, l, vs, t, tl, rfl, F, rfl, rfl, ht, hl, N2, hP⟩ := hI
  clear F0 N0
  have F2 : Fr g L' h (fun y => if y = Str.ofString "text" then some (.str (textOf init) t) else if y = Str.ofString "pairs" then some (.ref l) else m y) := by
    have e : (fun y => if y = Str.ofString "text" then some (Value.str (textOf init) t) else if y = Str.ofString "pairs" then some (.ref l) else m y) = m := by
      funext y
      split
      · rename_i q; rw [q, ht]
      · split
        · rename_i q; rw [q, hl]
        · rfl
    rw [e]; exact F
  have hlx : (textOf init).length ≤ 1000 := by have := textOf_len_append init qs; omega
  clear F ht hl
  try k_fold
  k_steps
  · have hne : (textOf init != Str.ofString "") = true := by assumption
    obtain ⟨ini, p, rfl⟩ : ∃ ini p, init = ini ++ [p] := by
      rcases List.eq_nil_or_concat init with rfl | ⟨a, b, e⟩
      · rw [textOf_nil] at hne; simp at hne
      · exact ⟨a, b, by rw [e, List.concat_eq_append]⟩
    have hgi : ∀ q ∈ ini, Good q := fun q hq => hp q (List.mem_append_left _ (List.mem_append_left _ hq))
    have hgp : Good p := hp p (List.mem_append_left _ (List.mem_append_right _ (.head _)))
    have law := turn_law hgi hgp
    have hyl : (textOf (ini ++ [p])).length = (textOf ini).length + (p.1.length + p.2.length) := by
      have := textOf_len_append ini [p]; rw [this, textOf_len [p]]; simp
    refine wide (A := AA 4) rfl (Nat.le_of_ble_eq_true rfl) (Nat.le_of_ble_eq_true rfl) rfl rfl (split_s hlx XS TS (frStat F2 st') fun h' tk D t1 t2 U hf hD hl1 hl2 => ?_)
    have F3 := frUp F2 U
    have N3 := newsAdd F2 N2 U hD hf
    clear F2 N2 hne
    rw [law.1] at hl2
    have N4 := N3
    rw [law.1] at N4
    clear N3 hD
    generalize hSH : splitHead (textOf (ini ++ [p])) = SH at *
    generalize hY : textOf (ini ++ [p]) = Y at *
    have hvl : vs.length ≤ 100 := by rw [hP.length]; simp at hlen; omega
    k_steps
    · (rename Fr _ _ _ _ => F5); (rename News _ _ _ _ => N5)
      have hz := law.2.1 (by assumption)
      have hsl : Txt.slice Y (some ((0 : Nat) : Int)) (some ((Y.length : Int) - (p.2.length : Int))) = p.1 := by
        have q := law.2.2.2
        rw [hz, str_nil] at q
        exact q
      rw [hsl] at N5
      exact ⟨ini.length, by simp, _, _, _, ini, p :: qs, _, _, _, _, rfl, F5, by simp, rfl, by rw [hz]; rfl, rfl, newsCons N5 (.tail _ (.head _)), .cons (p := p) (.tail _ (.tail _ (.tail _ (.head _)))) (hP.mono fun q hq => .tail _ (.tail _ (.tail _ (.tail _ (.tail _ (.tail _ hq))))))⟩
    · (rename Fr _ _ _ _ => F5); (rename News _ _ _ _ => N5)
      have hz := law.2.2.1 (by assumption)
      have hsl := law.2.2.2
      rw [← hz] at hsl
      rw [hsl] at N5
      exact ⟨ini.length, by simp, _, _, _, ini, p :: qs, _, _, _, _, rfl, F5, by simp, rfl, by rw [← hz]; rfl, rfl, newsCons N5 (.tail _ (.head _)), .cons (p := p) (.tail _ (.tail _ (.tail _ (.head _)))) (hP.mono fun q hq => .tail _ (.tail _ (.tail _ (.tail _ (.tail _ (.tail _ hq))))))⟩
  · have hne : (textOf init != Str.ofString "") = false := by assumption
    have hz : init = [] := by
      have h1 := (textOf_good (ps := init) fun q hq => hp q (List.mem_append_left _ hq)).1
      have h2 : textOf init = Str.ofString "" := by simpa using hne
      rw [h2, str_nil] at h1
      have h3 : ({ cps := #[] } : Str).length = 0 := rfl
      exact List.eq_nil_of_length_eq_zero (by omega)
    subst hz
    exact k _ _ l vs (upF F2 up') (freshN N2 up' (.head _) (fun q => nomatch q)) (N2 _ (.head _)).1 (hP.at fun q hq => (N2 q (.tail _ hq)).1) (fun a ha => let ⟨o, ho⟩ := hP.mem ha; freshN N2 up' (.tail _ ho) (fun q => nomatch q))
end
end Mine
end
section
open PySem PySem.W PyProof.Rows PySem.Calls
namespace Mine
set_option maxRecDepth 100000
theorem strs_snoc {x : Str} {t : Tok} : ∀ {vs : List Value} {ys : List Str}, StrsAre vs ys → StrsAre (vs ++ [.str x t]) (ys ++ [x])
  | _, _, .nil => .cons x t .nil
  | _, _, .cons y u r => .cons y u (strs_snoc r)
theorem strs_len : ∀ {vs : List Value} {ys : List Str}, StrsAre vs ys → vs.length = ys.length
  | _, _, .nil => rfl
  | _, _, .cons _ _ r => by rw [List.length_cons, List.length_cons, strs_len r]
section
variable {prog : Program} {w : World} {A : Around} {E : Value → Shared → Prop} {s : Shared} {env : Env}
/-- a list comprehension over a list of pairs -/
theorem listCompPairs {elt iter : Expr} {a b : Str} {pa pb tp : Pos} {kk : Nat} {scope : Scope} {pos : Pos} {Q : Value → Shared → Prop} (f : Str × Str → Str)
    (hh : A.handled = none) (hfree : ∀ y ∈ scope.names, y.2 ≠ .free) (hcell : ∀ y ∈ scope.names, y.2 ≠ .cell) (hkind : scope.kind = .function)
    (hnames : ∀ y ∈ scope.names, y.2 = .local → scope.names.lookup y.1 = some .local) (ha : scope.names.lookup a = some .local) (hb : scope.names.lookup b = some .local) (hab : a ≠ b)
    (h : wpAny (model prog w) A (eval iter env) (fun xv s₁ => ∃ ax vs ps, xv = .ref ax ∧ s₁.heap.IsList ax vs.toArray ∧ PairsAt s₁.heap vs ps ∧ vs.length ≤ sizeLine ∧
      (∀ C p t1 t2 s₂ m₂ E', p ∈ ps → s₂.heap.Ns C m₂ → m₂ a = some (.str p.1 t1) → m₂ b = some (.str p.2 t2) →
        wpAny (model prog w) A (eval elt (compEnv scope C env)) (fun y s₃ => (∃ t, y = .str (f p) t) ∧ Keeps s₂ s₃) E' s₂) ∧
      (∀ D h' tk ys, s₁.heap.get? D = none → h'.IsList D ys → StrsAre ys.toList (ps.map f) → (∀ b o, s₁.heap.get? b = some o → h'.get? b = some o) →
        Q (.ref D) { s₁ with heap := h', toks := tk })) E s)
    (hs : ∀ x, foldedSetIterable iter env x = pure x := by intro _; rfl) :
    wpAny (model prog w) A (eval (.ListComp elt [⟨.Tuple [.Name a pa, .Name b pb] kk tp, iter, [], 0⟩] scope pos) env) Q E s := by
  refine wpAny_ListComp hfree hkind hnames (wpAny_mono h (fun xv s₁ h₁ => ?_) fun _ _ e => e) hs
  obtain ⟨ax, vs, ps, rfl, hl, hP, hsz, helt, hQ⟩ := h₁
  refine wpAny_pyIter_list hl (wpAny_newObj_type (hd := by size_fits) (wpAny_newFunctionEnv hcell (by intro y hy; simp at hy) (fun h₁ hns₁ hsb₁ => ?_) hkind))
  dsimp only at hns₁ hsb₁ ⊢
  obtain ⟨ol, hol, hol'⟩ := id hl
  have hax : ax < s₁.heap.objs.size := Heap.lt_size hol
  generalize hH1 : s₁.heap.push { cls := .type "list_iterator", data := .fields #[.ref ax, .int 0 0] } = H1 at hns₁ hsb₁ ⊢
  have hD : H1.objs.size = s₁.heap.objs.size + 1 := by rw [← hH1, Heap.size_push]
  generalize hH2 : H1.push { cls := .type "list", dict := none, data := .seq ([] : List Value).toArray } = H2 at hns₁ hsb₁ ⊢
  have hC : H2.objs.size = s₁.heap.objs.size + 2 := by rw [← hH2, Heap.size_push, hD]
  have hDI : H1.objs.size ≠ s₁.heap.objs.size := by rw [hD]; exact Nat.succ_ne_self _
  have hDC : H1.objs.size ≠ H2.objs.size := by rw [hD, hC]; exact Nat.ne_of_lt (Nat.lt_succ_self _)
  have hIC : s₁.heap.objs.size ≠ H2.objs.size := by rw [hC]; exact Nat.ne_of_lt (Nat.lt_succ_of_lt (Nat.lt_succ_self _))
  have below : ∀ b, b < s₁.heap.objs.size → b ≠ H2.objs.size ∧ b ≠ s₁.heap.objs.size ∧ b ≠ H1.objs.size := fun b hb =>
    ⟨by rw [hC]; exact Nat.ne_of_lt (Nat.lt_succ_of_lt (Nat.lt_succ_of_lt hb)), Nat.ne_of_lt hb, by rw [hD]; exact Nat.ne_of_lt (Nat.lt_succ_of_lt hb)⟩
  have old : ∀ b o, s₁.heap.get? b = some o → h₁.get? b = some o := fun b o e =>
    hsb₁.extBut b o (below b (Heap.lt_size e)).1 (Heap.get?_push_of_some _ (hH2 ▸ Heap.get?_push_of_some _ (hH1 ▸ Heap.get?_push_of_some _ e)))
  have hit : h₁.IsListIter s₁.heap.objs.size ax 0 :=
    ⟨_, hsb₁.extBut _ _ hIC (Heap.get?_push_of_some _ (hH2 ▸ Heap.get?_push_of_some _ (hH1 ▸ Heap.get?_push_size _ rfl))), rfl, rfl⟩
  have hacc : h₁.IsList H1.objs.size #[] := ⟨_, hsb₁.extBut _ _ hDC (Heap.get?_push_of_some _ (hH2 ▸ Heap.get?_push_size _ rfl)), rfl, _, rfl⟩
  have hnew : s₁.heap.get? H1.objs.size = none := by
    cases e : s₁.heap.get? H1.objs.size with
    | none => rfl
    | some o' => have := Heap.lt_size e; rw [hD] at this; exact absurd this (Nat.not_lt.mpr (Nat.le_succ _))
  have off : ∀ b o, s₁.heap.get? b = some o → b ≠ H2.objs.size ∧ b ≠ s₁.heap.objs.size ∧ b ≠ H1.objs.size := fun b o e => below b (Heap.lt_size e)
  clear below hax hD hC
  generalize H1.objs.size = D at *
  generalize H2.objs.size = C at *
  generalize s₁.heap.objs.size = I at *
  have loop : ∀ s₂ : Shared, s₂ = { s₁ with heap := h₁, toks := s₁.toks + ([] : List (Str × Value)).length } →
      codeAny (model prog w) A (.compLoop (.ListComp elt [⟨.Tuple [.Name a pa, .Name b pb] kk tp, iter, [], 0⟩] scope pos) 0 (.ref I) (.ref D) (compEnv scope C env))
        (fun r s' => ∃ m, s'.heap.Ns C m ∧ ∀ h', Heap.SameBut C s'.heap h' →
          match r with | .ok _ => Q (.ref D) { s' with heap := h' } | .error x => wpAny (model prog w) A (passOn "comprehension.variables-let-go" x (compEnv scope C env)) Q E { s' with heap := h' }) s₂ := by
    rintro s₂ rfl
    refine kcp_loop (fun k s' => ∃ h' tk m' ys i, s' = { s₁ with heap := h', toks := tk } ∧ h'.IsListIter I ax i ∧ h'.IsList D ys ∧ h'.Ns C m' ∧ StrsAre ys.toList ((ps.take i).map f) ∧ i ≤ vs.length ∧ k = vs.length + 1 - i ∧
      ∀ b o, s₁.heap.get? b = some o → h'.get? b = some o) ?_ (vs.length + 1) ⟨h₁, _, _, #[], 0, rfl, hit, hacc, hns₁, by simpa using StrsAre.nil, Nat.zero_le _, rfl, old⟩
    rintro k s' ⟨H, tk, m', ys, i, rfl, hit', hacc', hn', hF, hi, rfl, hk⟩
    have hl' : H.IsList ax vs.toArray := hl.at fun o e => hk _ o e
    cases hv : vs.toArray[i]? with
    | none =>
      have hle : vs.length ≤ i := by simpa using hv
      refine wpAny_pyNext_list_end hh hit' hl' hv fun h₁ he₁ => ?_
      refine ⟨m', hn'.extBut he₁ (Ne.symm hIC), fun h'' hs'' => hQ D h'' tk ys hnew ((hacc'.extBut he₁ hDI).extBut hs''.extBut hDC) ?_ fun b o e => ?_⟩
      · rw [List.take_of_length_le (by rw [← hP.length]; exact hle)] at hF; exact hF
      · exact hs''.extBut b o (off b o e).1 (he₁ b o (off b o e).2.1 (hk b o e))
    | some v =>
      have hlt : i < vs.length := by have := (Array.getElem?_eq_some_iff.mp hv).1; simpa using this
      have hvl : vs[i]? = some v := by simpa using hv
      obtain ⟨T, p, t1, t2, rfl, hpp, hT⟩ := hP.get hvl
      refine wpAny_pyNext_list_item hit' hl' hv fun h₁ hit₁ hs₁ => ?_
      refine wpAny_letOwnedTupleGo_listiter hit₁ ?_
      have up₁ : ∀ b o, s₁.heap.get? b = some o → h₁.get? b = some o := fun b o e => hs₁.extBut b o (off b o e).2.1 (hk b o e)
      refine kcp_assign hh ⟨_, up₁ _ _ hT, rfl, _, rfl⟩ ha hb (by simp [compEnv, hkind]) (hn'.sameBut hs₁ (Ne.symm hIC)) fun h₂ tk₂ hn₂ hk₂ => ?_
      have hpm : p ∈ ps := List.mem_of_getElem? hpp
      refine wpAny_mono (helt C p t1 t2 _ _ _ hpm hn₂ (by simp [hab]) (by simp)) (fun y s₃ h₃ => ?_) fun _ _ e => e
      obtain ⟨⟨t, rfl⟩, h₃, tk₃, rfl, hk₃⟩ := h₃
      have hacc₃ : h₃.IsList D ys := ((hacc'.extBut hs₁.extBut hDI).at fun o e => hk₂ _ o hDC e).at fun o e => hk₃ _ o e
      have hys : ys.size ≤ sizeLine := by
        have e1 := strs_len hF
        rw [List.length_map, List.length_take, ← hP.length] at e1
        have e4 : ys.toList.length = ys.size := by simp
        omega
      refine wpAny_list_append (hsz := hys) hacc₃ fun h₅ hl₅ hs₅ => ?_
      refine ⟨vs.length + 1 - (i + 1), by omega, h₅, tk₃, _, ys.push (.str (f p) t), i + 1, rfl, ?_, hl₅, (hn₂.keeps hk₃).sameBut hs₅ (Ne.symm hDC), ?_, hlt, rfl, fun b o e => ?_⟩
      · exact ((hit₁.at fun o e => hk₂ _ o hIC e).at fun o e => hk₃ _ o e).extBut hs₅.extBut (Ne.symm hDI)
      · rw [List.take_add_one, hpp]
        simpa using strs_snoc (x := f p) (t := t) hF
      · exact hs₅.extBut b o (off b o e).2.2 (hk₃ b o (hk₂ b o (off b o e).1 (up₁ b o e)))
  exact codeAny_compStart_list (loop _ rfl) (wpAny_pyIter_listiter hit (loop _ rfl))
end
end Mine
end
section
open PySem PySem.W PyProof.Rows PySem.Calls
set_option maxRecDepth 100000
set_option maxHeartbeats 4000000
namespace Mine
theorem fill3 : PySem.Challenge.rw_mr0062_01 = PySem.Challenge.rw_mr0062_01 ∧ hd.heap_39 = hd.heap_39 := by
  k_fill
  w_top off
  exact ⟨rfl, rfl⟩
local macro_rules | `(tactic| k_steps) => `(tactic| repeat' (first
  | (k_unfold; (try dsimp only))
  | ((fail_if_success (with_reducible show wpAny _ _ (exec (Stmt.While _ _ _ _) _) _ _ _));
     (fail_if_success (with_reducible show wpAny _ _ (exec (Stmt.For _ _ _ _ _) _) _ _ _));
     (fail_if_success (with_reducible show wpAny _ _ (eval (Expr.ListComp _ _ _ _) _) _ _ _));
     (fail_if_success (with_reducible show wpAny _ _ (eval (Expr.GeneratorExp _ _ _ _) _) _ _ _));
     (fail_if_success (with_reducible show wpAny _ _ (call (Value.ref _) _ _) _ _ _));
     (first | walk1 | (dsimp only; walk1) | (leave1; try dsimp only)))
  | fail "no step"))
section
variable {prog : Program} {w : World} {s : Shared} {hS : Heap} {p : Program} {loose : List Str} {mean : ExcName → Option Value} {mg mb : Str → Option Value} {Q : Value → Shared → Prop} {E : Value → Shared → Prop}
theorem sum_len_le {ps : List (Str × Str)} (hx : (textOf ps).length ≤ 1000) : ((ps.map fun p => p.1 ++ p.2).map (·.length)).sum ≤ 1000 := by
  have e : ((ps.map fun p => p.1 ++ p.2).map (·.length)) = ps.map fun p => p.1.length + p.2.length := by
    rw [List.map_map]; apply List.map_congr_left; intro p _; simp [Str.length_append]
  rw [e, ← textOf_len]; exact hx
theorem law_text_s {l : Addr} {vs : List Value} {ps : List (Str × Str)} (hl : s.heap.IsList l vs.toArray) (hp : PairsAt s.heap vs ps) (hlen : ps.length ≤ 100) (hx : (textOf ps).length ≤ 1000) (hpl : ∀ p ∈ ps, p.1.length ≤ 1000 ∧ p.2.length ≤ 1000)
  (XS : (hd.heap_39 w.params).In hS) (TS : Top p loose mean mg mb hS) (S : hS.StaysIn s.heap)
  (k : ∀ h' tk t, Up [] s.heap h' → Q (.str (textOf ps) t) { s with heap := h', toks := tk })
  : wpAny (model prog w) (AA 4) (call (.ref 204) [.ref l]) Q E s := by
  refine wpAny_call ?_
  k_dflt (refine' enter (news := []) (binds := [(Str.ofString "pairs", Value.ref l)]) XS TS S ?k1 ?k2 ?k3 ?k4 ?k5 ?k6 ?_ ?c1 ?c2 ?c3 ?c4; (case k1 => exact fun _ h => nomatch h); (case k2 => k_is); (case k3 => k_is); (case k4 => decide); (case k5 => exact BindsTo.of_eq rfl); (case k6 => exact locs rfl); (case c1 => decide); (case c2 => exact rfl); (case c3 => exact rfl); (case c4 => exact rfl); k_whole)
  intro g L' h₁ F' N' X' T' up' st' kk'
  try dsimp only
  try k_fold
  k_steps
  refine listCompPairs (fun p => p.1 ++ p.2) rfl (by decide) (by decide) rfl (by decide) rfl rfl (by decide) ?_
  refine ld F' rfl ?_
  refine ⟨_, vs, ps, rfl, hl.at fun o e => kk' _ o e, hp.keeps kk', by rw [hp.length, sizeLine_eq]; omega, fun C p t1 t2 s₂ m₂ E' hpm hn ha hb => ?_, fun D h' tk ys hD hL hS hk => ?_⟩
  · have := hpl p hpm
    refine wpAny_BinOp (wpAny_Name (wpAny_loadName_local rfl rfl hn ha (wpAny_Name (wpAny_loadName_local rfl rfl hn hb ?_))))
    refine PyProof.Rows.add_str (fun t' tk => ?_) (by rw [sizeLine_eq]; omega)
    exact ⟨⟨_, rfl⟩, _, _, rfl, fun b o e => e⟩
  · refine spliced_nil ?_
    refine join_list hL hS ?_ fun t' k' => ?_
    · have := sum_len_le hx
      have e : (Str.ofString "").length = 0 := by rw [str_nil]; rfl
      rw [e]; omega
    · exact k _ _ _ (Up.of fun b o e => hk b o (kk' b o e))
end
end Mine
end
section
open PySem PySem.W PyProof.Rows PySem.Calls
namespace Mine
set_option maxRecDepth 100000
theorem fillA : PySem.Challenge.rw_mr0062_01 = PySem.Challenge.rw_mr0062_01 ∧ hd.heap_39 = hd.heap_39 := by
  k_fill
  w_top off
  exact ⟨rfl, rfl⟩
/-- an _Accumulator, and its dict -/
abbrev accO (D : Addr) (vs : List Value) (n : Nat) : Obj := { cls := .ref 101, dict := some D, data := .seq vs.toArray n }
abbrev sizeE (w : World) (k : Int) (t1 t2 : Tok) : DictEntry := ⟨PyData.keyHash w.params (Str.ofString "_initial_size"), .str (Str.ofString "_initial_size") t1, .int k t2⟩
theorem instAcc {h₀ h : Heap} {L x dx : Addr} {news : List (Addr × Obj)} {od : Obj} {vs : List Value} {n : Nat} (N : News h₀ L h news) (h1 : (x, accO dx vs n) ∈ news) (h2 : (dx, od) ∈ news) : InstAt h x (accO dx vs n) 101 (some od) := ⟨(N _ h1).1, rfl, rfl, (N _ h2).1⟩
theorem mapSeq_acc {D : Addr} {vs ws : List Value} {n : Nat} {f : Array Value → Array Value} (e : f vs.toArray = ws.toArray) : ∃ n', Obj.mapSeq f (accO D vs n) = accO D ws n' := by
  obtain ⟨n', h'⟩ := Obj.data_mapSeq (o := accO D vs n) rfl f
  refine ⟨n', ?_⟩
  have h2 : Obj.mapSeq f (accO D vs n) = { accO D vs n with data := (Obj.mapSeq f (accO D vs n)).data } := rfl
  rw [h2, h', e]
section
variable {prog : Program} {w : World} {A : Around} {E : Value → Shared → Prop} {s : Shared} {P D : Addr} {vs : List Value} {n : Nat} {od : Obj} {M : Model}
theorem acc_type (hP : s.heap.get? P = some (accO D vs n)) : Looks M s.heap (typeOf (.ref P)) (.ref 101) := (Looks.ld hP).andThen .now
theorem acc_isList (X : (hd.heap_39 w.params).In s.heap) (hP : s.heap.get? P = some (accO D vs n)) : Looks M s.heap (isInstance (.ref P) (.type "list")) true :=
  (acc_type hP).andThen (looks_mroIn X (by k_is))
theorem check_meth {i owner n : String} {self : Value} {rest : List Value} {kw : List (Str × Value)} {Q : Unit → Shared → Prop}
    (hk : builtinKind i = some .method) (hs : splitId i = some (owner, n)) (hi : Looks M s.heap (isInstance self (.type owner)) true) (ha : argsOk i ⟨self :: rest, kw⟩) (q : Q () s) :
    wpAny M A (checkBuiltinCall i ⟨self :: rest, kw⟩) Q E s := by
  simp only [checkBuiltinCall, hk, hs]
  refine wpAny_bind (hi.here ?_)
  simp only [Bool.not_true, Bool.false_eq_true, if_false]
  cases hsig : Manifest.signature? i with
  | none => exact wpAny_pure q
  | some sig =>
    simp only [argsOk, hsig] at ha
    have h2 : Bind.checkArgs i sig ⟨self :: rest, kw⟩ = pure () := ha
    show wpAny M A (Bind.checkArgs i sig ⟨self :: rest, kw⟩) Q E s
    rw [h2]; exact wpAny_pure q
/-- what a built-in hands back -/
def finPost (Q : Value → Shared → Prop) (fin : Fin) (s' : Shared) : Prop := match fin with
  | .done (.ret v) => Q v s'
  | _ => False
theorem bi_meth {i owner n : String} {Bi : Builtin} {self : Value} {rest : List Value} {Q : Value → Shared → Prop}
    (hk : builtinKind i = some .method) (hs : splitId i = some (owner, n)) (hp : plainId i = true) (he : entryFor table i = some Bi) (ha : argsOk i ⟨self :: rest, []⟩)
    (hi : Looks (model prog w) s.heap (isInstance self (.type owner)) true) (h : wpAny (model prog w) A.in1 (Bi ⟨self :: rest, []⟩) (finPost Q) E s) :
    wpAny (model prog w) A (call (.builtin i) (self :: rest)) Q E s :=
  wpAny_call (codeAny_call_builtin hp he (check_meth hk hs hi ha (wpAny_mono h (fun fin s' z => by
    rcases fin with (_ | _ | _ | _) | _ <;> first | exact z | exact z.elim) fun _ _ z => z)))
theorem bi_slot {i owner n : String} {Bi : Builtin} {self : Value} {rest : List Value} {Q : Value → Shared → Prop}
    (hk : builtinKind i = some .slot) (hs : splitId i = some (owner, n)) (hp : plainId i = true) (he : entryFor table i = some Bi) (ha : argsOk i ⟨self :: rest, []⟩)
    (hi : Looks (model prog w) s.heap (isInstance self (.type owner)) true) (h : wpAny (model prog w) A.in1 (Bi ⟨self :: rest, []⟩) (finPost Q) E s) :
    wpAny (model prog w) A (call (.builtin i) (self :: rest)) Q E s :=
  wpAny_call (codeAny_call_builtin hp he (check_slot hk hs hi ha (wpAny_mono h (fun fin s' z => by
    rcases fin with (_ | _ | _ | _) | _ <;> first | exact z | exact z.elim) fun _ _ z => z)))
/-- an update of its items -/
theorem acc_update {f : Array Value → Array Value} {ws : List Value} {Q : Unit → Shared → Prop} (hP : s.heap.get? P = some (accO D vs n)) (e : f vs.toArray = ws.toArray) (hz : vs.length ≤ 1000) (hz' : ws.length ≤ 1000)
    (h : ∀ h' n', h'.get? P = some (accO D ws n') → Heap.SameBut P s.heap h' → Q () { s with heap := h' }) : wpAny M A (updateSeq P f) Q E s := by
  refine wpAny_updateSeq hP rfl ?_ (by rw [List.size_toArray, sizeLine_eq]; omega) (by rw [e, List.size_toArray, sizeLine_eq]; omega)
  obtain ⟨n', e'⟩ := mapSeq_acc (D := D) (n := n) e
  exact h _ n' (by rw [Heap.get?_update_self _ hP (by rw [e']; rfl), e']) (Heap.SameBut.update ..)
theorem entry_append : entryFor table "list.append" = some Builtin.«list.append» := entryFor_of_tree (by kernel_rfl)
theorem entry_pop : entryFor table "list.pop" = some Builtin.«list.pop» := entryFor_of_tree (by kernel_rfl)
theorem entry_len : entryFor table "list.__len__" = some Builtin.«list.__len__» := entryFor_of_tree (by kernel_rfl)
theorem entry_iter : entryFor table "list.__iter__" = some Builtin.«list.__iter__» := entryFor_of_tree (by kernel_rfl)
theorem entry_init : entryFor table "list.__init__" = some Builtin.«list.__init__» := entryFor_of_tree (by kernel_rfl)
theorem entry_getitem : entryFor table "list.__getitem__" = some Builtin.«list.__getitem__» := entryFor_of_tree (by kernel_rfl)
theorem entry_setitem : entryFor table "list.__setitem__" = some Builtin.«list.__setitem__» := entryFor_of_tree (by kernel_rfl)
theorem acc_append {v : Value} {Q : Value → Shared → Prop} (X : (hd.heap_39 w.params).In s.heap) (hP : s.heap.get? P = some (accO D vs n)) (hz : vs.length ≤ 500)
    (h : ∀ h' n', h'.get? P = some (accO D (vs ++ [v]) n') → Heap.SameBut P s.heap h' → Q .none { s with heap := h' }) : wpAny (model prog w) A (call (.builtin "list.append") [.ref P, v]) Q E s := by
  refine bi_meth (owner := "list") (n := "append") (by decide +kernel) (by decide +kernel) (by decide +kernel) entry_append (by unfold argsOk; kernel_rfl) (acc_isList X hP) ?_
  show wpAny _ _ (updateSeq P (·.push v) >>= fun _ => ret .none) _ _ s
  refine wpAny_bind (acc_update (ws := vs ++ [v]) hP (by simp) (by omega) (by simp; omega) fun h' n' h1 h2 => ?_)
  exact wpAny_pure (h h' n' h1 h2)
theorem acc_special {name : Str} {i : String} {T : String} {nm : Str} {args : List Value} {Q : Option Value → Shared → Prop} (X : (hd.heap_39 w.params).In s.heap) (hP : s.heap.get? P = some (accO D vs n))
    (hf : findIn (hd.heap_39 w.params) (.ref 101) name = some (some (.builtin i))) (S : Slot T nm i) (h : wpAny (model prog w) A (call (.builtin i) (.ref P :: args)) (fun v => Q (some v)) E s) :
    wpAny (model prog w) A (callSpecial? (.ref P) name args) Q E s := by
  refine wpAny_bind (wpAny_bind ((acc_type hP).here ((looks_findIn X hf).here (wpAny_holding ?_))))
  rw [S.bind]
  exact wpAny_bind (wpAny_pure (wpAny_bind (wpAny_mono h (fun _ _ z => wpAny_pure z) fun _ _ z => z)))
theorem acc_iter {Q : Value → Shared → Prop} (X : (hd.heap_39 w.params).In s.heap) (hP : s.heap.get? P = some (accO D vs n))
    (h : Q (.ref s.heap.objs.size) { s with heap := s.heap.push { cls := .type "list_iterator", data := .fields #[.ref P, .int 0 0] } }) : wpAny (model prog w) A (pyIter (.ref P)) Q E s := by
  obtain ⟨hh, g, d, t, os⟩ := s
  have t1 := acc_type (M := model prog w) hP
  have f1 : Looks (model prog w) hh (typeLookup (.ref 101) "__iter__") (some (.builtin "list.__iter__")) := looks_findIn X (by k_is)
  have b1 : Looks (model prog w) hh (bindSpecial (.builtin "list.__iter__") (.ref P)) (.builtin "list.__iter__", [.ref P]) := Looks.of_pure (slot_list_iter.bind _)
  have fin : ∀ Q' : Value → Shared → Prop, Q' (.ref hh.objs.size) ⟨hh.push { cls := .type "list_iterator", data := .fields #[.ref P, .int 0 0] }, g, d, t, os⟩ → wpAny (model prog w) A (call (.builtin "list.__iter__") [.ref P]) Q' E ⟨hh, g, d, t, os⟩ := fun Q' hq => by
    refine bi_slot (owner := "list") (n := "__iter__") (by decide +kernel) (by decide +kernel) (by decide +kernel) entry_iter (by unfold argsOk; kernel_rfl) (acc_isList X hP) ?_
    show wpAny _ _ (do ret (← newFields "list_iterator" [.ref P, rawInt 0])) _ _ _
    exact wpAny_bind (wpAny_newObj_type (wpAny_pure hq))
  have t2 : Looks (model prog w) (hh.push { cls := .type "list_iterator", data := .fields #[.ref P, .int 0 0] }) (typeOf (.ref hh.objs.size)) (.type "list_iterator") := (Looks.ld (Heap.get?_push_size _ rfl)).andThen .now
  have f2 : Looks (model prog w) (hh.push { cls := .type "list_iterator", data := .fields #[.ref P, .int 0 0] }) (typeLookup (.type "list_iterator") "__next__") (some (.builtin "list_iterator.__next__")) := Looks.of_pure slot_listiter_next.lookup
  unfold pyIter callSpecialIfBoundUnlessNone? bindSpecialIfBound? specialOf
  repeat lk
  refine wpAny_ite ?_
  split
  all_goals (try refine wpAny_tryCatch ?_)
  all_goals (repeat (first | (with_reducible refine fin _ ?_) | lk))
  all_goals exact h
/-- the next item of a list_iterator over it -/
theorem acc_next {I : Addr} {i : Nat} {x : Value} {Q : Option Value → Shared → Prop} (hit : s.heap.IsListIter I P i) (hP : s.heap.get? P = some (accO D vs n)) (hx : vs[i]? = some x)
    (hQ : ∀ h', h'.IsListIter I P (i + 1) → Heap.SameBut I s.heap h' → Q (some x) { s with heap := h' }) : wpAny (model prog w) A (pyNext (.ref I)) Q E s := by
  obtain ⟨o, ho, hc, hd⟩ := id hit
  unfold pyNext
  refine wpAny_bind (wpAny_attempt (wpAny_callSpecial?_slot (name := Str.ofString "__next__") hit.typeIs slot_listiter_next
    (wpAny_call_entry slot_listiter_next hit.typeIs entry_listiter_next ?_ (args_listiter_next _))))
  show wpAny _ _ (field (.ref I) 0 >>= _) _ _ s
  refine wpAny_bind (wpAny_field ho hd (x := .ref P) rfl ?_)
  show wpAny _ _ (if (Value.ref P == Value.none) = true then _ else _) _ _ s
  rw [if_neg (show ¬ ((Value.ref P == Value.none) = true) from Bool.false_ne_true)]
  show wpAny _ _ (field (.ref I) 1 >>= _) _ _ s
  refine wpAny_bind (wpAny_field ho hd (x := .int i 0) rfl ?_)
  show wpAny _ _ (seqItems? (.ref P) >>= _) _ _ s
  refine wpAny_bind (wpAny_seqItems hP rfl ?_)
  have hx' : vs.toArray[i]? = some x := by simpa using hx
  simp only [Int.toNat_natCast, hx']
  refine wpAny_bind (wpAny_setField ho hd (by simp) (wpAny_pure ⟨x, rfl, wpAny_pure (hQ _ ?_ (Heap.SameBut.update ..))⟩))
  exact ⟨_, Heap.get?_update_self _ ho (Obj.isFreed_of_fields (Obj.data_mapFields hd _)), (Obj.cls_mapFields ..).trans hc, by
    rw [Obj.data_mapFields hd]; simp [rawInt]⟩
theorem acc_stop {I : Addr} {i : Nat} {Q : Option Value → Shared → Prop} (hh : A.handled = none) (hit : s.heap.IsListIter I P i) (hP : s.heap.get? P = some (accO D vs n)) (hx : vs[i]? = none)
    (hQ : ∀ h', Heap.ExtBut I s.heap h' → Q none { s with heap := h' }) : wpAny (model prog w) A (pyNext (.ref I)) Q E s := by
  obtain ⟨o, ho, hc, hd⟩ := id hit
  unfold pyNext
  refine wpAny_bind (wpAny_attempt (wpAny_callSpecial?_slot (name := Str.ofString "__next__") hit.typeIs slot_listiter_next
    (wpAny_call_entry slot_listiter_next hit.typeIs entry_listiter_next ?_ (args_listiter_next _))))
  show wpAny _ _ (field (.ref I) 0 >>= _) _ _ s
  refine wpAny_bind (wpAny_field ho hd (x := .ref P) rfl ?_)
  show wpAny _ _ (if (Value.ref P == Value.none) = true then _ else _) _ _ s
  rw [if_neg (show ¬ ((Value.ref P == Value.none) = true) from Bool.false_ne_true)]
  show wpAny _ _ (field (.ref I) 1 >>= _) _ _ s
  refine wpAny_bind (wpAny_field ho hd (x := .int i 0) rfl ?_)
  show wpAny _ _ (seqItems? (.ref P) >>= _) _ _ s
  refine wpAny_bind (wpAny_seqItems hP rfl ?_)
  have hx' : vs.toArray[i]? = none := by simpa using hx
  simp only [Int.toNat_natCast, hx']
  refine wpAny_bind (wpAny_rule (wpAny_bind (wpAny_setField ho hd (by simp) ?_)))
  show wpAny _ _ (newExc (.type "StopIteration") [] >>= _) _ _ _
  refine wpAny_bind ?_
  simp only [newExc, newTuple]
  refine wpAny_bind (wpAny_newObj_type ?_ (by size_fits))
  refine wpAny_bind (m := firstArgMember _ _) (wpAny_of_eq (a := Value.none) (by first | rfl | (simp only [firstArgMember]; rfl)) ?_)
  refine wpAny_newObj_type ?_ (by size_fits)
  simp only [raiseNew]
  refine wpAny_bind (wpAny_handled ?_)
  rw [show A.in1.handled = none from hh]
  refine wpAny_bind (wpAny_pure (wpAny_throw ?_))
  refine wpAny_bind (wpAny_isInstance (T := "StopIteration") (b := true) ⟨_, Heap.get?_push_size _ rfl, rfl⟩ isSubtype_stop ?_)
  exact wpAny_pure (hQ _ (((Heap.SameBut.update ..).extBut.push _).push _))
end
end Mine
end
section
open PySem PySem.W PyProof.Rows PySem.Calls
namespace Mine
set_option maxRecDepth 100000
theorem fillB : PySem.Challenge.rw_mr0062_01 = PySem.Challenge.rw_mr0062_01 ∧ hd.heap_39 = hd.heap_39 := by
  k_fill
  w_top off
  exact ⟨rfl, rfl⟩
/-- where a slice's bound cuts -/
def cutAt (n : Nat) (i : Int) : Nat := kms_lo (some i) n
theorem cutAt_le (n : Nat) (i : Int) : cutAt n i ≤ n := by
  unfold cutAt kms_lo
  dsimp only
  split
  · exact Nat.sub_le _ _
  · exact Nat.min_le_right _ _
theorem pick_from (vs : List Value) (i : Int) : slicePick vs.toArray (some i) none none = (vs.drop (cutAt vs.length i)).toArray := by
  rw [kms_pick_eq]
  exact congrArg List.toArray (List.take_of_length_le (by rw [List.length_drop]; exact Nat.le_refl _))
theorem pick_upto (vs : List Value) (i : Int) : slicePick vs.toArray none (some i) none = (vs.take (cutAt vs.length i)).toArray := by
  rw [kms_pick_eq]
  rfl
section
variable {prog : Program} {w : World} {A : Around} {E : Value → Shared → Prop} {s : Shared} {P D : Addr} {vs : List Value} {n : Nat} {od : Obj} {M : Model}
theorem acc_seqKey {name : Str} {k : Value} {Q : Value → Shared → Prop} (X : (hd.heap_39 w.params).In s.heap) (hP : s.heap.get? P = some (accO D vs n)) (q : Q k s) : wpAny M A (sequenceKey (.ref P) k name) Q E s := by
  obtain ⟨hh, g, d, t, os⟩ := s
  have t1 := acc_type (M := M) hP
  have hn : ∀ T ∈ seqItemTypes, Looks M hh (isSubtype (.ref 101) (.type T)) false := fun T hT => by
    have e : mroIn (hd.heap_39 w.params) 101 (.type T) = some false := by
      have : ∀ T ∈ seqItemTypes, mroIn (hd.heap_39 w.params) 101 (.type T) = some false := by
        have e2 : noSeq (hd.heap_39 w.params) 101 = true := by k_is
        intro T hT
        exact beq_iff_eq.mp (List.all_eq_true.mp e2 T hT)
      exact this T hT
    exact looks_mroIn X e
  unfold sequenceKey
  refine wpAny_bind (t1.at ?_)
  dsimp only
  have hany : ∀ l : List String, (∀ T ∈ l, Looks M hh (isSubtype (.ref 101) (.type T)) false) → Looks M hh (l.anyM fun n => isSubtype (.ref 101) (.type n)) false := by
    intro l
    induction l with
    | nil => intro _; exact Looks.of_pure rfl
    | cons T r ih =>
      intro h
      show Looks M hh (isSubtype (.ref 101) (.type T) >>= fun b => match b with | true => pure true | false => r.anyM fun n => isSubtype (.ref 101) (.type n)) false
      exact (h T (.head _)).andThen (ih fun T hT => h T (.tail _ hT))
  refine wpAny_bind ((hany _ hn).at ?_)
  exact wpAny_pure q
theorem acc_getslice {i : Int} {ti : Tok} {sl : Addr} {Q : Value → Shared → Prop} (X : (hd.heap_39 w.params).In s.heap) (hP : s.heap.get? P = some (accO D vs n)) (hs : s.heap.get? sl = some { cls := .type "slice", data := .fields #[.int i ti, .none, .none] }) (hz : vs.length ≤ 500)
    (h : Q (.ref s.heap.objs.size) { s with heap := s.heap.push { cls := .type "list", data := .seq (vs.drop (cutAt vs.length i)).toArray } }) : wpAny (model prog w) A (getItem (.ref P) (.ref sl)) Q E s := by
  unfold getItem
  refine wpAny_holding (wpAny_bind (acc_seqKey X hP (wpAny_bind (acc_special X hP (by k_is) slot_list_getitem ?_))))
  refine bi_meth (owner := "list") (n := "__getitem__") (by decide +kernel) (by decide +kernel) (by decide +kernel) entry_getitem (by unfold argsOk; kernel_rfl) (acc_isList X hP) ?_
  have hTs : s.TypeIs (.ref sl) "slice" := ⟨_, hs, rfl⟩
  show wpAny _ _ (Builtin.List.listSubscript? (.ref sl) >>= _) _ _ s
  refine wpAny_bind ?_
  unfold Builtin.List.listSubscript?
  refine wpAny_bind (wpAny_specialOf hTs slice_no_index ?_)
  simp only [Option.isNone_none, if_true]
  refine wpAny_pure ?_
  show wpAny _ _ (typeOf (.ref sl) >>= _) _ _ s
  refine wpAny_bind (wpAny_typeOf hTs ?_)
  rw [if_neg (by decide)]
  rw [listSliceParts_eq]
  refine wpAny_bind (wpAny_bind (wpAny_field hs rfl (x := .none) rfl (wpAny_bind (wpAny_listPart .none ?_))))
  rw [if_neg (show ¬ ((rawPart none == rawInt 0) = true) from Bool.false_ne_true)]
  refine wpAny_bind (wpAny_field hs rfl (x := .int i ti) rfl (wpAny_bind (wpAny_listPart (.int i ti) ?_)))
  refine wpAny_bind (wpAny_field hs rfl (x := .none) rfl (wpAny_bind (wpAny_listPart .none (wpAny_pure ?_))))
  refine wpAny_bind (m := Builtin.List.listItems (.ref P)) ?_
  unfold Builtin.List.listItems
  refine wpAny_bind (wpAny_seqItems hP rfl (wpAny_pure ?_))
  refine wpAny_bind (wpAny_of_eq (sliceIndices_raw (some i) none none vs.toArray.size (by intro q; cases q)) ?_)
  have e := pick_from vs i
  have hle := slicePick_size_le vs.toArray (some i) none none
  unfold slicePick at e hle
  refine wpAny_bind (wpAny_newObj_type (wpAny_pure (wpAny_pure ?_)) (Nat.le_trans hle (by rw [List.size_toArray, sizeLine_eq]; omega)))
  rw [e]; exact h
/-- part of a slice, of a list assigned -/
theorem acc_setslice {lo : Option Int} {vl : Value} {sl l : Addr} {ws : List Value} {m : Nat} {Q : Unit → Shared → Prop} (X : (hd.heap_39 w.params).In s.heap) (hP : s.heap.get? P = some (accO D vs n)) (hpl : IsPart vl lo)
    (hs : s.heap.get? sl = some { cls := .type "slice", data := .fields #[vl, .none, .none] }) (hl : s.heap.get? l = some (W.listOf ws.toArray m)) (hlP : l ≠ P) (hz : vs.length ≤ 400) (hz' : ws.length ≤ 400)
    (h : ∀ h' n', h'.get? P = some (accO D (vs.take (cutAt vs.length (lo.getD 0)) ++ ws) n') → Heap.SameBut P s.heap h' → Q () { s with heap := h' }) : wpAny (model prog w) A (setItem (.ref P) (.ref sl) (.ref l)) Q E s := by
  unfold setItem
  refine wpAny_holding (wpAny_bind (acc_seqKey X hP (wpAny_bind (acc_special X hP (by k_is) PySem.F.slot_list_setitem ?_))))
  refine bi_slot (owner := "list") (n := "__setitem__") (by decide +kernel) (by decide +kernel) (by decide +kernel) entry_setitem (by unfold argsOk; kernel_rfl) (acc_isList X hP) ?_
  have hTs : s.TypeIs (.ref sl) "slice" := ⟨_, hs, rfl⟩
  show wpAny _ _ (Builtin.List.listSubscript? (.ref sl) >>= _) _ _ s
  refine wpAny_bind ?_
  unfold Builtin.List.listSubscript?
  refine wpAny_bind (wpAny_specialOf hTs slice_no_index ?_)
  simp only [Option.isNone_none, if_true]
  refine wpAny_pure ?_
  show wpAny _ _ (typeOf (.ref sl) >>= _) _ _ s
  refine wpAny_bind (wpAny_typeOf hTs ?_)
  rw [if_neg (by decide)]
  rw [listSliceParts_eq]
  refine wpAny_bind (wpAny_bind (wpAny_field hs rfl (x := .none) rfl (wpAny_bind (wpAny_listPart .none ?_))))
  rw [if_neg (show ¬ ((rawPart none == rawInt 0) = true) from Bool.false_ne_true)]
  refine wpAny_bind (wpAny_field hs rfl (x := vl) rfl (wpAny_bind (wpAny_listPart hpl ?_)))
  refine wpAny_bind (wpAny_field hs rfl (x := .none) rfl (wpAny_bind (wpAny_listPart .none (wpAny_pure ?_))))
  have hsame : Builtin.List.listSameRef (.ref P) (.ref l) = false := by
    show (P == l) = false
    exact beq_false_of_ne (Ne.symm hlP)
  rw [if_neg (by rw [hsame]; exact Bool.false_ne_true)]
  refine wpAny_bind (m := Builtin.List.listAllItems (.ref l) _) ?_
  unfold Builtin.List.listAllItems
  refine wpAny_bind (wpAny_typeOf (T := "list") (show s.TypeIs (.ref l) "list" from ⟨_, hl, rfl⟩) ?_)
  rw [if_pos (by decide)]
  unfold Builtin.List.listItems
  refine wpAny_bind (wpAny_seqItems hl rfl (wpAny_pure ?_))
  refine wpAny_bind (wpAny_bind (wpAny_seqItems hP rfl (wpAny_pure ?_)))
  refine wpAny_bind (wpAny_of_eq (sliceIndices_raw lo none none vs.toArray.size (by intro q; cases q)) ?_)
  rw [if_pos (show ((sliceBounds lo none none vs.toArray.size).2.2 == 1) = true from rfl)]
  refine wpAny_bind (wpAny_rule ?_)
  rw [if_neg (show ¬ (Builtin.List.listTooLong (vs.toArray.size + ws.toArray.size) = true) from by
    unfold Builtin.List.listTooLong
    rw [decide_eq_true_eq, sizeLine_eq]
    simp only [List.size_toArray]
    omega)]
  have hlow : (sliceBounds lo none none vs.toArray.size).1.toNat = cutAt vs.length (lo.getD 0) := by
    rw [kms_bounds]
    cases lo with
    | none => exact (Nat.zero_min vs.length).symm
    | some i => rfl
  have hmax : (max (sliceBounds lo none none vs.toArray.size).1 (sliceBounds lo none none vs.toArray.size).2.1).toNat = vs.length := by
    have hc := cutAt_le vs.length (lo.getD 0)
    rw [← hlow] at hc
    rw [kms_bounds] at hc ⊢
    dsimp only at hc ⊢
    rw [Int.toNat_natCast] at hc
    show (max (kms_lo lo vs.toArray.size : Int) (vs.length : Int)).toNat = vs.length
    rw [Int.max_eq_right (Int.ofNat_le.mpr hc), Int.toNat_natCast]
  have hu : (fun xs : Array Value => xs.extract 0 (sliceBounds lo none none vs.toArray.size).1.toNat ++ ws.toArray ++ xs.extract (max (sliceBounds lo none none vs.toArray.size).1 (sliceBounds lo none none vs.toArray.size).2.1).toNat xs.size) vs.toArray = (vs.take (cutAt vs.length (lo.getD 0)) ++ ws).toArray := by
    dsimp only
    rw [hlow, hmax]
    apply Array.ext'
    simp
  refine wpAny_bind (m := Builtin.List.listUpdate (.ref P) _) ?_
  unfold Builtin.List.listUpdate
  refine acc_update hP hu (by omega) (by simp; omega) fun h' n' a b => ?_
  exact wpAny_bind (wpAny_letGo (wpAny_pure (wpAny_pure (h h' n' a b))))
end
end Mine
end
section
open PySem PySem.W PyProof.Rows PySem.Calls Builtin Builtin.ObjectAttr
namespace Mine
set_option maxRecDepth 100000
theorem fillC : PySem.Challenge.rw_mr0062_01 = PySem.Challenge.rw_mr0062_01 ∧ hd.heap_39 = hd.heap_39 := by
  k_fill
  w_top off
  exact ⟨rfl, rfl⟩
section
variable {prog : Program} {w : World} {A : Around} {E : Value → Shared → Prop} {s : Shared} {P D : Addr} {vs : List Value} {n : Nat} {od : Obj} {M : Model} {k : Int} {ta tb : Tok}
theorem acc_tail {value slice : Expr} {i : Value} {Q : Value → Shared → Prop} (X : (hd.heap_39 w.params).In s.heap) (hP : s.heap.get? P = some (accO D vs n)) (hg : wpAny (model prog w) A (getItem (.ref P) i) Q E s)
    (hs : subscripted slice false (.ref P) i = operate [i, .ref P] (getItem (.ref P) i) := by with_unfolding_all rfl) :
    wpAny (model prog w) A (subscriptTail value slice (.ref P) i) Q E s := by
  unfold subscriptTail getitemInPython
  refine wpAny_bind (wpAny_bind (wpAny_bind ((acc_type hP).here ((looks_findIn X (show findIn (hd.heap_39 w.params) (.ref 101) "__getitem__" = some (some (.builtin "list.__getitem__")) by k_is)).here ?_))))
  have fin : wpAny (model prog w) A (subscripted slice false (.ref P) i) (fun r s₃ => wpAny (model prog w) A (letTemporaryGo value (.ref P) r >>= fun _ => pure r) Q E s₃) E s := by
    rw [hs]
    exact wpAny_operating (wpAny_mono hg (fun r s₃ h₃ => wpAny_bind (wpAny_letTemporaryGo (wpAny_pure h₃))) fun _ _ x => x)
  first
    | exact wpAny_pure (wpAny_bind fin)
    | exact wpAny_bind (wpAny_pure (wpAny_bind fin))
    | exact wpAny_bind fin
theorem slot_lga : Slot "list" "__getattribute__" "list.__getattribute__" :=
  .of (owner := "list") (n := "__getattribute__") (by rw [typeLookup_type, builtinLookup_eq_fast]; kernel_rfl) (by decide +kernel) (by decide +kernel) (by decide +kernel)
    (by first | exact .inl (by decide +kernel) | exact .inr (by decide +kernel)) (by rw [isSubtype_type]; kernel_rfl)
/-- its own attribute, read -/
theorem acc_getattr {expr : Bool} {Q : Value → Shared → Prop} (X : (hd.heap_39 w.params).In s.heap) (hP : s.heap.get? P = some (accO D vs n)) (hD : s.heap.get? D = some (dictOf [sizeE w k ta tb] 1))
    (h : Q (.int k tb) { s with toks := s.toks + 1 }) : wpAny (model prog w) A (getAttr (.ref P) "_initial_size" expr) Q E s := by
  obtain ⟨hh, g, d, t, os⟩ := s
  have I : InstAt hh P (accO D vs n) 101 (some (dictOf [sizeE w k ta tb] 1)) := ⟨hP, rfl, rfl, hD⟩
  have L0 := I.type (M := model prog w)
  have L1 : Looks (model prog w) hh (typeLookup (.ref 101) "__getattribute__") (some (.builtin "list.__getattribute__")) := looks_findIn X (by k_is)
  have L2 : Looks (model prog w) hh (typeLookup (.ref 101) "__getattr__") none := looks_findIn X (by k_is)
  have hf : findObj (hd.heap_39 w.params) 101 (some (dictOf [sizeE w k ta tb] 1)) "_initial_size" = some (.value (.int k tb)) :=
    findObj_own (attr := none) (by k_is) (by k_is) rfl ((lookIn_dict ..).trans (by k_get))
  have L3 := looks_find (M := model prog w) X I hf
  unfold getAttr getAttrBy
  refine wpAny_bind (wpAny_mkText (wpAny_holding (wpAny_bind (L0.at (wpAny_bind (L1.at ?_))))))
  show wpAny _ _ (getAttrByItsOwn (.ref P) (.str "_initial_size" t) (.ref 101) (.builtin "list.__getattribute__") true expr) _ _ _
  unfold getAttrByItsOwn hookBefore callGetattribute boundAndCalled
  refine wpAny_bind (L2.at ?_)
  refine wpAny_bind (wpAny_attempt (wpAny_holding ?_))
  have e : (expr && onTheHeap (.builtin "list.__getattribute__")) = false := by cases expr <;> rfl
  rw [if_neg (by rw [e]; exact Bool.false_ne_true)]
  refine wpAny_bind (wpAny_of_eq (slot_lga.bind _) ?_)
  refine bi_slot (owner := "list") (n := "__getattribute__") (by decide +kernel) (by decide +kernel) (by decide +kernel) PySem.F.entry_list_ga (by unfold argsOk; kernel_rfl) (acc_isList X hP) ?_
  unfold Builtin.«object.__getattribute__»
  refine wpAny_bind (wpAny_pure (wpAny_bind (wpAny_pure (wpAny_bind (L0.at (wpAny_bind (L3.at ?_)))))))
  refine wpAny_pure ?_
  show wpAny _ _ (handedOut (.int k tb)) _ _ _
  exact wpAny_pure h
/-- a method of its class's own -/
theorem acc_method {name : Str} {f : Addr} {pl : Sem Bool} {Q : Value × List Value → Shared → Prop} (X : (hd.heap_39 w.params).In s.heap) (hP : s.heap.get? P = some (accO D vs n)) (hD : s.heap.get? D = some (dictOf [sizeE w k ta tb] 1))
    (hf : findIn (hd.heap_39 w.params) (.ref 101) name = some (some (.ref f))) (ht : isFn (hd.heap_39 w.params) (.ref f) = true) (hl : getL name [sizeE w k ta tb] = some none) (h : Q (.ref f, [.ref P]) s) : wpAny (model prog w) A (getMethod (.ref P) name pl) Q E s := by
  obtain ⟨hh, g, d, t, os⟩ := s
  have L0 := acc_type (M := model prog w) hP
  have L1 : Looks (model prog w) hh (typeLookup (.ref 101) "__getattribute__") (some (.builtin "list.__getattribute__")) := looks_findIn X (by k_is)
  have L2 : Looks (model prog w) hh (typeLookup (.ref 101) "__getattr__") none := looks_findIn X (by k_is)
  have L3 := looks_findIn (M := model prog w) X hf
  have L4 := looks_typeIn (M := model prog w) X (beq_iff_eq.mp ht)
  unfold getMethod specialOf
  refine wpAny_bind (wpAny_bind (L0.at (L1.at ?_)))
  dsimp only
  rw [if_neg (by decide +kernel)]
  refine wpAny_bind (wpAny_bind (L0.at (L2.at ?_)))
  rw [if_neg (show ¬ ((none : Option Value).isSome = true) from Bool.false_ne_true)]
  refine wpAny_bind (wpAny_bind (L0.at (L3.at ?_)))
  refine wpAny_bind (L4.at ?_)
  rw [if_neg (by decide)]
  refine wpAny_bind (wpAny_loadPart hP ?_)
  dsimp only
  unfold nsGet
  refine wpAny_bind (wpAny_bind (wpAny_loadPart hD ?_))
  rw [nsLook_of (show lookIn name (dictOf [sizeE w k ta tb] 1) = some none from (lookIn_dict ..).trans hl)]
  refine wpAny_pure ?_
  rw [if_neg (show ¬ ((none : Option Value).isSome = true) from Bool.false_ne_true)]
  exact wpAny_bind (wpAny_rule (wpAny_pure h))
/-- the list's own append -/
theorem acc_methodA {pl : Sem Bool} {Q : Value × List Value → Shared → Prop} (X : (hd.heap_39 w.params).In s.heap) (hP : s.heap.get? P = some (accO D vs n)) (hD : s.heap.get? D = some (dictOf [sizeE w k ta tb] 1))
    (h : Q (.builtin "list.append", [.ref P]) s) : wpAny (model prog w) A (getMethod (.ref P) "append" pl) Q E s := by
  obtain ⟨hh, g, d, t, os⟩ := s
  have L0 := acc_type (M := model prog w) hP
  have L1 : Looks (model prog w) hh (typeLookup (.ref 101) "__getattribute__") (some (.builtin "list.__getattribute__")) := looks_findIn X (by k_is)
  have L2 : Looks (model prog w) hh (typeLookup (.ref 101) "__getattr__") none := looks_findIn X (by k_is)
  have L3 : Looks (model prog w) hh (typeLookup (.ref 101) "append") (some (.builtin "list.append")) := looks_findIn X (by k_is)
  have L4 : Looks (model prog w) hh (typeOf (.builtin "list.append")) (.type "method_descriptor") := Looks.of_pure (by show builtinType _ = _; rw [builtinType_eq_fast]; kernel_rfl)
  unfold getMethod specialOf
  refine wpAny_bind (wpAny_bind (L0.at (L1.at ?_)))
  dsimp only
  rw [if_neg (by decide +kernel)]
  refine wpAny_bind (wpAny_bind (L0.at (L2.at ?_)))
  rw [if_neg (show ¬ ((none : Option Value).isSome = true) from Bool.false_ne_true)]
  refine wpAny_bind (wpAny_bind (L0.at (L3.at ?_)))
  refine wpAny_bind (L4.at ?_)
  rw [if_neg (by decide)]
  refine wpAny_bind (wpAny_loadPart hP ?_)
  dsimp only
  unfold nsGet
  refine wpAny_bind (wpAny_bind (wpAny_loadPart hD ?_))
  rw [nsLook_of (show lookIn "append" (dictOf [sizeE w k ta tb] 1) = some none from (lookIn_dict ..).trans (by k_get))]
  refine wpAny_pure ?_
  rw [if_neg (show ¬ ((none : Option Value).isSome = true) from Bool.false_ne_true)]
  exact wpAny_bind (wpAny_rule (wpAny_pure h))
end
end Mine
end
section
open PySem PySem.W PyProof.Rows PySem.Calls Builtin Builtin.ObjectAttr
namespace Mine
set_option maxRecDepth 100000
theorem fillD : PySem.Challenge.rw_mr0062_01 = PySem.Challenge.rw_mr0062_01 ∧ hd.heap_39 = hd.heap_39 := by
  k_fill
  w_top off
  exact ⟨rfl, rfl⟩
/-- one object changed, the ledger follows -/
theorem sameFr {g h h' : Heap} {L D : Addr} {m : Str → Option Value} {o : Obj} {news : List (Addr × Obj)} (F : Fr g L h m) (N : News g L h news) (hm : (D, o) ∈ news) (S : Heap.SameBut D h h') : Fr g L h' m := by
  obtain ⟨oL, es, ep, hL, r⟩ := F.ns
  refine ⟨⟨oL, es, ep, (S.2 L (Ne.symm (N _ hm).2.1)).trans hL, r⟩, fun b o e => ?_, F.above⟩
  refine (S.2 b fun q => ?_).trans (F.keep b o e)
  rw [q, (N _ hm).2.2] at e; cases e
theorem sameNews {g h h' : Heap} {L D : Addr} {o o' : Obj} {news rest : List (Addr × Obj)} (N : News g L h news) (hm : (D, o) ∈ news) (S : Heap.SameBut D h h') (hD : h'.get? D = some o') (hr : ∀ q ∈ rest, q ∈ news ∧ q.1 ≠ D) : News g L h' ((D, o') :: rest) := by
  intro q hq
  rcases List.mem_cons.mp hq with rfl | hq
  · exact ⟨hD, (N _ hm).2⟩
  · exact ⟨(S.2 _ (hr q hq).2).trans (N _ (hr q hq).1).1, (N _ (hr q hq).1).2⟩
section
variable {prog : Program} {w : World} {A : Around} {E : Value → Shared → Prop} {s : Shared} {P D : Addr} {vs : List Value} {n : Nat} {od : Obj} {M : Model} {k : Int} {ta tb : Tok}
theorem body_pop {v : Value} {Q : Value → Shared → Prop} (hP : s.heap.get? P = some (accO D (vs ++ [v]) n)) (hz : vs.length ≤ 500)
    (h : ∀ h' n', h'.get? P = some (accO D vs n') → Heap.SameBut P s.heap h' → Q v { s with heap := h' }) : wpAny (model prog w) A (Builtin.«list.pop» ⟨[.ref P], []⟩) (finPost Q) E s := by
  obtain ⟨hh, g, d, t, os⟩ := s
  have hx : (vs ++ [v]).toArray.isEmpty = false := by simp
  have hs : (seqIndex? (-1) (vs ++ [v]).toArray.size).bind (fun k => (vs ++ [v]).toArray[k]?.map (k, ·)) = some (vs.length, v) := by
    rw [StrLaws.seqIndex_neg (by omega) (by simp; omega)]
    have : ((-1 : Int) + ((vs ++ [v]).toArray.size : Nat)).toNat = vs.length := by simp; omega
    rw [this]; simp
  have hu : (fun xs : Array Value => xs.eraseIdxIfInBounds vs.length) (vs ++ [v]).toArray = vs.toArray := by
    simp [List.eraseIdx_append_of_length_le]
  repeat (any_goals (first | assumption | (with_reducible refine acc_update hP hu (by simp; omega) (by omega) ?_) | (simp only [hx, hs, Bool.false_eq_true, if_false]) | wp_step))
  exact fun h' n' a b => wpAny_pure (h h' n' a b)
theorem body_len {Q : Value → Shared → Prop} (hP : s.heap.get? P = some (accO D vs n))
    (h : ∀ t tk, Q (.int vs.length t) { s with toks := tk }) : wpAny (model prog w) A (Builtin.«list.__len__» ⟨[.ref P], []⟩) (finPost Q) E s := by
  obtain ⟨hh, g, d, t, os⟩ := s
  repeat (any_goals (first | assumption | wp_step))
  exact h _ _
theorem body_init {Q : Value → Shared → Prop} (hP : s.heap.get? P = some (accO D vs n)) (hz : vs.length ≤ 500)
    (h : ∀ h' n', h'.get? P = some (accO D [] n') → Heap.SameBut P s.heap h' → Q .none { s with heap := h' }) : wpAny (model prog w) A (Builtin.«list.__init__» ⟨[.ref P], []⟩) (finPost Q) E s := by
  obtain ⟨hh, g, d, t, os⟩ := s
  have hu : (fun _ : Array Value => (#[] : Array Value)) vs.toArray = ([] : List Value).toArray := rfl
  repeat (any_goals (first | assumption | (with_reducible refine acc_update hP hu (by omega) (by simp) ?_) | wp_step))
  exact fun h' n' a b => wpAny_bind (wpAny_letGo (wpAny_pure (h h' n' a b)))
/-- a built-in's bound form -/
abbrev bndO (c id : String) (P : Addr) : Obj := { cls := .type c, data := .fields #[.builtin id, .ref P] }
theorem call_bnd {b : Addr} {c id : String} {Bi : Builtin} {Q : Value → Shared → Prop} (hb : s.heap.get? b = some (bndO c id P)) (hc : c = "builtin_function_or_method" ∨ c = "method-wrapper") (hq : plainId id = true) (he : entryFor table id = some Bi)
    (hchk : ∀ (A' : Around) (Q' : Unit → Shared → Prop), Q' () s → wpAny (model prog w) A' (checkBoundCall id ⟨[.ref P], []⟩) Q' E s) (h : wpAny (model prog w) A.in1 (Bi ⟨[.ref P], []⟩) (finPost Q) E s) : wpAny (model prog w) A (call (.ref b) []) Q E s := by
  refine wpAny_call (codeAny_of_tree ?_)
  show wpAny _ A.in1 (callAny (.ref b) ⟨[], []⟩) _ _ _
  unfold callAny
  refine wpAny_bind (wpAny_load hb ?_)
  have e1 : ((Value.type c == Value.type "method") || (Value.type c == Value.type "builtin_function_or_method") || (Value.type c == Value.type "method-wrapper")) = true := by rcases hc with rfl | rfl <;> decide
  have e2 : (Value.type c != Value.type "method") = true := by rcases hc with rfl | rfl <;> decide
  show wpAny _ _ (if ((Value.type c == Value.type "method") || (Value.type c == Value.type "builtin_function_or_method") || (Value.type c == Value.type "method-wrapper")) = true then _ else _) _ _ _
  rw [if_pos e1]
  show wpAny _ _ (if (Value.type c != Value.type "method") = true then _ else _) _ _ _
  rw [if_pos e2]
  refine wpAny_bind (hchk _ _ ?_)
  refine wpAny_pure (And.intro (plainId_quiet hq _) (codeAny_builtin he ?_))
  rw [Around.under_plainId hq]
  exact wpAny_mono h (fun fin s' z => by
    rcases fin with (_ | _ | _ | _) | _ <;> first | exact z | exact z.elim) fun _ _ z => z
theorem chk_len {Q : Unit → Shared → Prop} (q : Q () s) : wpAny M A (checkBoundCall "list.__len__" ⟨[.ref P], []⟩) Q E s := by
  rw [show checkBoundCall "list.__len__" ⟨[.ref P], []⟩ = pure () by kernel_rfl]; exact wpAny_pure q
theorem chk_init {Q : Unit → Shared → Prop} (q : Q () s) : wpAny M A (checkBoundCall "list.__init__" ⟨[.ref P], []⟩) Q E s := by
  rw [show checkBoundCall "list.__init__" ⟨[.ref P], []⟩ = pure () by kernel_rfl]; exact wpAny_pure q
end
end Mine
end
section
open PySem PySem.W PyProof.Rows PySem.Calls Builtin Builtin.ObjectAttr
namespace Mine
set_option maxRecDepth 100000
theorem fillE : PySem.Challenge.rw_mr0062_01 = PySem.Challenge.rw_mr0062_01 ∧ hd.heap_39 = hd.heap_39 := by
  k_fill
  w_top off
  exact ⟨rfl, rfl⟩
section
variable {prog : Program} {w : World} {A : Around} {E : Value → Shared → Prop} {s : Shared} {P D : Addr} {vs : List Value} {n : Nat} {od : Obj} {M : Model} {k : Int} {ta tb : Tok}
theorem pop_args : (match Manifest.signature? "list.pop" with | some sig => Bind.checkArgs "list.pop" { sig with full := toString (Str.ofString "_Accumulator").toString ++ toString "." ++ toString (Bind.lastOf "list.pop") } ⟨[.ref P], []⟩ | none => pure ()) = pure () := by kernel_rfl
theorem chk_pop {Q : Unit → Shared → Prop} (X : (hd.heap_39 w.params).In s.heap) (hP : s.heap.get? P = some (accO D vs n)) (q : Q () s) : wpAny M A (checkBoundCall "list.pop" ⟨[.ref P], []⟩) Q E s := by
  obtain ⟨hh, g, d, t, os⟩ := s
  have t1 := acc_type (M := M) hP
  have L1 : Looks M hh (isInstance (.ref P) (.type "module")) false := t1.andThen (looks_mroIn X (by k_is))
  have L2 : Looks M hh (isType (.ref P)) false := fun A Q E s k q => by
    obtain ⟨hh', g, d, t, os⟩ := s
    exact ks_wpAny_isType_inst (k _ _ hP) (fun _ => nofun) q
  obtain ⟨cd, hc, hq⟩ := any_some (show (clsIn (hd.heap_39 w.params) 101).any (fun cd => cd.qualname == Str.ofString "_Accumulator") = true by kernel_rfl)
  have L3 := looks_clsIn (M := M) X hc
  have L4 : Looks M hh (typeOf (.ref 101)) (.type "type") := looks_typeIn X (by k_is)
  cases hsig : Manifest.signature? "list.pop" with
  | none => unfold checkBoundCall; rw [hsig]; exact wpAny_pure q
  | some sig =>
    unfold checkBoundCall
    rw [hsig]
    dsimp only
    rw [show builtinKind "list.pop" = some .method by decide +kernel]
    dsimp only
    rw [if_neg (by decide)]
    refine wpAny_bind (L1.at ?_)
    rw [if_neg (by decide +kernel)]
    refine wpAny_bind (L2.at ?_)
    rw [if_neg Bool.false_ne_true]
    refine wpAny_bind (t1.at ?_)
    dsimp only
    refine wpAny_bind (L3.at ?_)
    refine wpAny_bind (L4.at ?_)
    rw [if_pos (by decide)]
    have e := pop_args (P := P)
    rw [hsig, ← beq_iff_eq.mp hq] at e
    exact wpAny_of_eq e q
theorem entry_mget : entryFor table "method_descriptor.__get__" = some Builtin.«method_descriptor.__get__» := entryFor_of_tree (by kernel_rfl)
theorem entry_wget : entryFor table "wrapper_descriptor.__get__" = some Builtin.«wrapper_descriptor.__get__» := entryFor_of_tree (by kernel_rfl)
theorem slot_mget : Slot "method_descriptor" "__get__" "method_descriptor.__get__" := .of (owner := "method_descriptor") (n := "__get__") (by rw [typeLookup_type, builtinLookup_eq_fast]; kernel_rfl) (by decide +kernel) (by decide +kernel) (by decide +kernel)
    (by first | exact .inl (by decide +kernel) | exact .inr (by decide +kernel)) (by rw [isSubtype_type]; kernel_rfl)
theorem slot_wget : Slot "wrapper_descriptor" "__get__" "wrapper_descriptor.__get__" := .of (owner := "wrapper_descriptor") (n := "__get__") (by rw [typeLookup_type, builtinLookup_eq_fast]; kernel_rfl) (by decide +kernel) (by decide +kernel) (by decide +kernel)
    (by first | exact .inl (by decide +kernel) | exact .inr (by decide +kernel)) (by rw [isSubtype_type]; kernel_rfl)
/-- what a built-in's own __get__ makes of it -/
theorem run_mget {C : Addr} {Q : Value → Shared → Prop} (X : (hd.heap_39 w.params).In s.heap) (hP : s.heap.get? P = some (accO D vs n))
    (q : Q (.ref s.heap.objs.size) { s with heap := s.heap.push (bndO "builtin_function_or_method" "list.pop" P) }) : wpAny (model prog w) A (call (.builtin "method_descriptor.__get__") [.builtin "list.pop", .ref P, .ref C]) Q E s := by
  obtain ⟨hh, g, d, t, os⟩ := s
  refine wpAny_call_entry slot_mget (show typeOf (.builtin "list.pop") = pure (.type "method_descriptor") by show builtinType _ = _; rw [builtinType_eq_fast]; kernel_rfl) entry_mget ?_ (by unfold argsOk; kernel_rfl)
  have e : Manifest.toldItsClass.contains "list.pop" = false := by decide +kernel
  have hn : ".".intercalate ("list.pop".cutAt '.').dropLast = "list" := by decide +kernel
  have L : Looks (model prog w) hh (isSubtype (.ref 101) (.type (".".intercalate ("list.pop".cutAt '.').dropLast))) true := by rw [hn]; exact looks_mroIn X (by k_is)
  repeat (first | assumption | (simp only [e, Bool.false_eq_true, if_false]) | wp_step)
  refine L.at ?_
  rw [if_neg (by decide)]
  exact wpAny_pure (wpAny_bind (wpAny_newObj_type (wpAny_pure ⟨_, rfl, q⟩)))
theorem run_wget {id T : String} {C : Addr} {Q : Value → Shared → Prop} (hid : id = "list.__len__" ∨ id = "list.__init__") (X : (hd.heap_39 w.params).In s.heap) (hP : s.heap.get? P = some (accO D vs n))
    (q : Q (.ref s.heap.objs.size) { s with heap := s.heap.push (bndO "method-wrapper" id P) }) : wpAny (model prog w) A (call (.builtin "wrapper_descriptor.__get__") [.builtin id, .ref P, .ref C]) Q E s := by
  obtain ⟨hh, g, d, t, os⟩ := s
  have ht : typeOf (.builtin id) = pure (.type "wrapper_descriptor") := by rcases hid with rfl | rfl <;> (show builtinType _ = _; rw [builtinType_eq_fast]; kernel_rfl)
  refine wpAny_call_entry slot_wget ht entry_wget ?_ (by rcases hid with rfl | rfl <;> (unfold argsOk; kernel_rfl))
  have hn : ".".intercalate (id.cutAt '.').dropLast = "list" := by rcases hid with rfl | rfl <;> decide +kernel
  have L : Looks (model prog w) hh (isSubtype (.ref 101) (.type (".".intercalate (id.cutAt '.').dropLast))) true := by rw [hn]; exact looks_mroIn X (by k_is)
  repeat (first | assumption | wp_step)
  refine L.at ?_
  rw [if_neg (by decide)]
  exact wpAny_pure (wpAny_bind (wpAny_newObj_type (wpAny_pure ⟨_, rfl, q⟩)))
/-- a built-in's own method, read off super() -/
theorem super_ga {so : Addr} {o : Obj} {id T c : String} {l₀ l : List Value} {name : Str} {tk : Tok} {Q : Fin → Shared → Prop} {h : Heap} {g : Array GenState} {d : Drawn} {t : Nat} {os : OsState}
    (hso : h.get? so = some { cls := .type "super", dict := none, data := .fields #[.ref 101, .ref P, .ref 101], slots := #[] }) (hno : Looks (model prog w) h (opaqueClassAbove (.ref 101)) none)
    (hC : Looks (model prog w) h (mroOf (.ref 101)) l₀) (hl : (l₀.dropWhile (· != .ref 101)).drop 1 = l) (X : (hd.heap_39 w.params).In h)
    (hf : alongIn (hd.heap_39 w.params) name l = some (some (.builtin id))) (ht : typeOf (.builtin id) = pure (.type T)) (hlk : typeLookup (.type T) "__get__" = pure (some (.builtin c))) (hxC : P ≠ 101) (hn : (name == ("__class__" : Str)) = false)
    (hq : ∀ (A' : Around) (E' : Value → Shared → Prop) (Q' : Value → Shared → Prop), Q' (.ref h.objs.size) ⟨h.push o, g, d, t, os⟩ → wpAny (model prog w) A' (call (.builtin c) [.builtin id, .ref P, .ref 101]) Q' E' ⟨h, g, d, t, os⟩)
    (q : Q (.done (.ret (.ref h.objs.size))) ⟨h.push o, g, d, t, os⟩) :
    wpAny (model prog w) A (Builtin.«super.__getattribute__» ⟨[.ref so, .str name tk], []⟩) Q E ⟨h, g, d, t, os⟩ := by
  have hne : (Value.ref P == Value.ref 101) = false := by simp [hxC]
  have hdt : ({ cls := .type "super", dict := none, data := .fields #[.ref 101, .ref P, .ref 101], slots := #[] } : Obj).data = .fields #[.ref 101, .ref P, .ref 101] := rfl
  have f0 : (#[.ref 101, .ref P, .ref 101] : Array Value)[0]? = some (.ref 101) := rfl
  have f1 : (#[.ref 101, .ref P, .ref 101] : Array Value)[1]? = some (.ref P) := rfl
  have f2 : (#[.ref 101, .ref P, .ref 101] : Array Value)[2]? = some (.ref 101) := rfl
  unfold Builtin.«super.__getattribute__»
  repeat (first
    | (with_reducible refine wpAny_field hso hdt f0 ?_) | (with_reducible refine wpAny_field hso hdt f1 ?_) | (with_reducible refine wpAny_field hso hdt f2 ?_)
    | (with_reducible refine ks_wpAny_notOpaque hno ?_)
    | (with_reducible refine Looks.at hC ?_; rw [hl])
    | (refine ks_forIn_along X (fun _ _ => rfl) rfl ?_ hf)
    | (with_reducible refine hq _ _ _ ?_) | (with_reducible refine wpAny_of_eq ht ?_) | (with_reducible refine wpAny_of_eq hlk ?_)
    | (simp only [hn, hne, Bool.or_false, Bool.false_eq_true, if_false])
    | wp_step
    | dsimp only)
  all_goals exact q
theorem super_gm {so : Addr} {o : Obj} {id T c : String} {name : Str} {pl : Sem Bool} {Q : Value × List Value → Shared → Prop} {h : Heap} {g : Array GenState} {d : Drawn} {t : Nat} {os : OsState}
    (hso : h.get? so = some { cls := .type "super", dict := none, data := .fields #[.ref 101, .ref P, .ref 101], slots := #[] }) (X : (hd.heap_39 w.params).In h)
    (hf : ks_superIn (hd.heap_39 w.params) 101 101 name = some (some (.builtin id))) (ht : typeOf (.builtin id) = pure (.type T)) (hlk : typeLookup (.type T) "__get__" = pure (some (.builtin c))) (hxC : P ≠ 101) (hn : (name == ("__class__" : Str)) = false)
    (hq : ∀ (tk : Tok) (A' : Around) (E' : Value → Shared → Prop) (Q' : Value → Shared → Prop), Q' (.ref h.objs.size) ⟨h.push o, g, d, tk, os⟩ → wpAny (model prog w) A' (call (.builtin c) [.builtin id, .ref P, .ref 101]) Q' E' ⟨h, g, d, tk, os⟩)
    (q : Q (.ref h.objs.size, []) ⟨h.push o, g, d, t + 1, os⟩) : wpAny (model prog w) A (getMethod (.ref so) name pl) Q E ⟨h, g, d, t, os⟩ := by
  have hlk' := PySem.F.ks_slot_super_ga.lookup
  have hcan := PySem.F.ks_canon_super_ga
  have hT : ∀ t', (⟨h, g, d, t', os⟩ : Shared).TypeIs (.ref so) "super" := fun _ => ⟨_, hso, rfl⟩
  cases hc : clsIn (hd.heap_39 w.params) 101 with
  | none => unfold ks_superIn at hf; rw [hc] at hf; cases hf
  | some cd =>
    unfold ks_superIn at hf
    rw [hc] at hf
    unfold getMethod
    refine wpAny_bind (wpAny_specialOf (hT _) hlk' ?_)
    show wpAny _ _ (if (Manifest.canonical "super.__getattribute__" != "object.__getattribute__") = true then _ else _) _ _ _
    rw [if_pos hcan]
    unfold getAttr getAttrBy
    refine wpAny_bind (wpAny_bind (wpAny_mkText (wpAny_holding (wpAny_bind (wpAny_typeOf (hT _) (wpAny_bind (wpAny_of_eq hlk' ?_)))))))
    show wpAny _ _ (getAttrByItsOwn (.ref so) (.str name t) (.type "super") (.builtin "super.__getattribute__") true false) _ _ _
    unfold getAttrByItsOwn hookBefore callGetattribute boundAndCalled
    refine wpAny_bind (wpAny_of_eq (show (if onTheHeap (.type "super") then typeLookup (.type "super") "__getattr__" else pure none) = pure none from rfl) ?_)
    refine wpAny_bind (wpAny_attempt (wpAny_holding ?_))
    show wpAny _ _ (bindSpecial (.builtin "super.__getattribute__") (.ref so) >>= _) _ _ _
    refine wpAny_bind (wpAny_of_eq (PySem.F.ks_slot_super_ga.bind _) ?_)
    refine wpAny_mono (Q := fun v s' => v = .ref h.objs.size ∧ s' = ⟨h.push o, g, d, t + 1, os⟩) (E := fun _ _ => False)
      (wpAny_call_entry PySem.F.ks_slot_super_ga (hT _) PySem.F.ks_entry_super_ga (super_ga (l₀ := cd.mro) hso (looks_opaque X (by k_is)) (fun A Q E s k q => wpAny_bind ((looks_clsIn X hc) A _ E s k (wpAny_pure q))) rfl X hf ht hlk hxC hn (hq _) ⟨_, rfl, rfl, rfl⟩) (PySem.F.ks_gaArgs_super _ _)) (fun v s' hv => ?_) fun _ _ z => z.elim
    obtain ⟨rfl, rfl⟩ := hv
    exact wpAny_pure (wpAny_pure q)
end
end Mine
end
section
open PySem PySem.W PyProof.Rows PySem.Calls Builtin Builtin.ObjectAttr
namespace Mine
set_option maxRecDepth 100000
theorem fillG : PySem.Challenge.rw_mr0062_01 = PySem.Challenge.rw_mr0062_01 ∧ hd.heap_39 = hd.heap_39 := by
  k_fill
  w_top off
  exact ⟨rfl, rfl⟩
section
variable {prog : Program} {w : World} {A : Around} {E : Value → Shared → Prop} {s : Shared} {P D : Addr} {vs : List Value} {n : Nat} {od : Obj} {M : Model} {k : Int} {ta tb : Tok}
theorem acc_ne (X : (hd.heap_39 w.params).In s.heap) (hP : s.heap.get? P = some (accO D vs n)) (hD : s.heap.get? D = some od) : P ≠ 101 := by
  obtain ⟨cd, hc, -⟩ := any_some (show (clsIn (hd.heap_39 w.params) 101).any (fun cd => cd.hasDict) = true by kernel_rfl)
  exact ks_ne (odx := some od) X ⟨hP, rfl, rfl, hD⟩ hc
theorem refuse_list (self : Value) : refuseLoop self "__setattr__" [.type "list", .type "object"] = pure () := by kernel_rfl
theorem acc_setattr {v : Value} {es es' : List DictEntry} {n0 n1 : Nat} {Q : Unit → Shared → Prop} (X : (hd.heap_39 w.params).In s.heap) (hP : s.heap.get? P = some (accO D vs n)) (hD : s.heap.get? D = some (dictOf es n0))
    (hl : (getL (Str.ofString "_initial_size") es).isSome = true) (hz : es'.length ≤ 1000)
    (e : (putL (Str.ofString "_initial_size") (PyData.keyHash w.params (Str.ofString "_initial_size")) (.str (Str.ofString "_initial_size") (s.toks + 1)) v es, putN (Str.ofString "_initial_size") es n0) = (es', n1))
    (h : ∀ h', h'.get? D = some (dictOf es' n1) → Heap.SameBut D s.heap h' → Q () { s with heap := h', toks := s.toks + 2 }) : wpAny (model prog w) A (setAttr (.ref P) "_initial_size" v) Q E s := by
  obtain ⟨hh, g, d, t, os⟩ := s
  have I : InstAt hh P (accO D vs n) 101 (some (dictOf es n0)) := ⟨hP, rfl, rfl, hD⟩
  obtain ⟨cd, hc, hq⟩ := any_some (show (clsIn (hd.heap_39 w.params) 101).any (fun cd => cd.hasDict && cd.mro == [.ref 101, .type "list", .type "object"]) = true by kernel_rfl)
  obtain ⟨hd', hm⟩ := Bool.and_eq_true_iff.mp hq
  have hm' := beq_iff_eq.mp hm
  refine set_plain X I (by k_is) ?_
  have SF := PySem.F.store_object
  have sub : Looks (model prog w) hh (isInstance (.ref P) (.type "object")) true := I.type.andThen (looks_mroIn X (by k_is))
  refine codeAny_call_builtin SF.slot.plain SF.entry (@check_slot (model prog w) _ _ _ "object.__setattr__" "object" "__setattr__" (.ref P) [.str "_initial_size" t, v] [] _ SF.kind SF.split sub (SF.args (.ref P) (.str "_initial_size" t) v) ?_)
  have L2 : Looks (model prog w) hh (mroOf (.ref 101)) cd.mro := (looks_clsIn X hc).andThen .now
  have L3 : Looks (model prog w) hh (typeLookup (.ref 101) (Str.ofString "_initial_size")) none := looks_findIn X (by k_is)
  rw [osa_eq, refuse_eq]
  refine wpAny_bind (wpAny_bind (I.type.at (wpAny_bind (L2.at ?_))))
  rw [hm', refuseLoop_ref, refuse_list]
  refine wpAny_pure (wpAny_bind (I.type.at (wpAny_bind (L3.at (wpAny_bind (wpAny_pure ?_))))))
  show wpAny _ _ (storeInOwnDict (.ref P) (.ref 101) (.str (Str.ofString "_initial_size") t) (Str.ofString "_initial_size") v false) _ _ _
  refine wpAny_bind (wpAny_pure (wpAny_bind (wpAny_bind (wpAny_loadPart hP (wpAny_bind ((looks_clsIn X hc).at ?_))))))
  rw [hd']
  refine wpAny_pure (a := some D) (wpAny_bind (wpAny_pure (wpAny_bind ?_)))
  unfold nsSet
  refine wpAny_bind (wpAny_bind (wpAny_askSetting (wpAny_pure (wpAny_bind (wpAny_mkText (wpAny_bind (wpAny_loadPart hD ?_)))))))
  dsimp only
  have c : (!es.toArray.any (·.key.isStr (Str.ofString "_initial_size")) && es.toArray.any (·.refKey)) = false := by
    simp only [List.any_toArray]
    unfold getL at hl
    split at hl
    · rename_i en he
      rw [List.any_eq_true.mpr ⟨en, List.mem_of_find?_eq_some he, List.find?_some he⟩]; rfl
    · split at hl
      · cases hl
      · rename_i z; rw [Bool.not_eq_true] at z; rw [z, Bool.and_false]
  rw [aRefKeyMayBeTheName_at, c]
  have e1 := (Prod.mk.inj e).1
  have e2 := (Prod.mk.inj e).2
  have ep : Obj.putName (Str.ofString "_initial_size") (PyData.keyHash w.params (Str.ofString "_initial_size")) (.str (Str.ofString "_initial_size") (t + 1)) v (dictOf es n0) = dictOf es' n1 := by rw [putName_dict, e1, e2]
  have hg := Heap.get?_update_self (Obj.putName (Str.ofString "_initial_size") (PyData.keyHash w.params (Str.ofString "_initial_size")) (.str (Str.ofString "_initial_size") (t + 1)) v) hD (by rw [ep]; rfl)
  rw [ep] at hg
  refine wpAny_updatePart hD ?_
  refine wpAny_bind (wpAny_lookBehind hg (pastItsLine_dict (by rw [List.size_toArray, sizeLine_eq]; omega)) ?_)
  exact wpAny_pure (h _ hg (Heap.SameBut.update ..))
end
end Mine
end
section
open PySem PySem.W PyProof.Rows PySem.Calls
set_option maxRecDepth 100000
set_option maxHeartbeats 1000000
namespace Mine
theorem fillM1 : PySem.Challenge.rw_mr0062_01 = PySem.Challenge.rw_mr0062_01 ∧ hd.heap_39 = hd.heap_39 := by
  k_fill
  w_top off
  exact ⟨rfl, rfl⟩
local macro_rules | `(tactic| k_inst) => `(tactic| (refine' instAcc ?N ?h1 ?h2; (case N => k_asm); (case h1 => k_mem); (case h2 => k_mem)))
local macro_rules | `(tactic| k_steps) => `(tactic| repeat' (first
  | (k_unfold; (try dsimp only))
  | ((fail_if_success (with_reducible show wpAny _ _ (exec (Stmt.While _ _ _ _) _) _ _ _));
     (fail_if_success (with_reducible show wpAny _ _ (exec (Stmt.For _ _ _ _ _) _) _ _ _));
     (fail_if_success (with_reducible show wpAny _ _ (eval (Expr.ListComp _ _ _ _) _) _ _ _));
     (fail_if_success (with_reducible show wpAny _ _ (eval (Expr.GeneratorExp _ _ _ _) _) _ _ _));
     (fail_if_success (with_reducible show wpAny _ _ (getMethod (Value.ref _) _ _) _ _ _));
     (fail_if_success (with_reducible show wpAny _ _ (call (Value.ref _) _ _) _ _ _));
     (first | walk1 | (dsimp only; walk1) | (leave1; try dsimp only)))
  | fail "no step"))
/-- the accumulator stands, and is none of the first heap's -/
structure AccAt (w : World) (hS h : Heap) (P D : Addr) (vs : List Value) (n : Nat) (k : Int) : Prop where
  p : h.get? P = some (accO D vs n)
  sp : hS.get? P = none
  sd : hS.get? D = none
  d : ∃ ta tb, h.get? D = some (dictOf [sizeE w k ta tb] 1)
theorem dget {w : World} {k : Int} {ta tb : Tok} {name : Str} (h : ((Str.ofString "_initial_size" : Str) == name) = false) : getL name [sizeE w k ta tb] = some none := by
  unfold getL
  have e : (Value.str (Str.ofString "_initial_size") ta).isStr name = false := h
  simp [List.find?, e, DictEntry.refKey]
theorem nm2 {a P D : Addr} (h1 : a ≠ P) (h2 : a ≠ D) : a ∉ [P, D] := by simp [h1, h2]
theorem neNews {g h : Heap} {L a b : Addr} {o1 o2 : Obj} {news : List (Addr × Obj)} (N : News g L h news) (h1 : (a, o1) ∈ news) (h2 : (b, o2) ∈ news) (hc : o1.cls ≠ o2.cls) : a ≠ b := fun e => hc (by
  have e1 := (N _ h1).1
  have e2 := (N _ h2).1
  dsimp only at e1 e2
  rw [e, e2] at e1
  cases e1; rfl)
section
variable {prog : Program} {w : World} {s : Shared} {hS : Heap} {p : Program} {loose : List Str} {mean : ExcName → Option Value} {mg mb : Str → Option Value} {Q : Value → Shared → Prop} {E : Value → Shared → Prop} {P D : Addr} {vs : List Value} {n : Nat} {k : Int}
  (XS : (hd.heap_39 w.params).In hS) (TS : Top p loose mean mg mb hS) (S : hS.StaysIn s.heap)
  (C0 : AccAt w hS s.heap P D vs n k)
include XS TS S C0
theorem push_s {x y : Str} {t1 t2 : Tok} (hv : vs.length ≤ 400) (hx : x.length ≤ 100) (hy : y.length ≤ 100)
    (q : ∀ h' tk T n' t1 t2, Up [P, D] s.heap h' → s.heap.get? T = none → h'.get? T = some (tupO (x, y) t1 t2) → AccAt w hS h' P D (vs ++ [.ref T]) n' k → Q .none { s with heap := h', toks := tk }) :
    wpAny (model prog w) (AA 4) (call (.ref 45) [.ref P, .str x t1, .str y t2]) Q E s := by
  obtain ⟨hP, hsp, hsd, ta, tb, hD⟩ := C0
  have N0 : ∀ q ∈ [(P, accO D vs n), (D, dictOf [sizeE w k ta tb] 1)], s.heap.get? q.1 = some q.2 ∧ hS.get? q.1 = none := fun q hq => by
    rcases List.mem_cons.mp hq with rfl | hq
    · exact ⟨hP, hsp⟩
    · rcases List.mem_cons.mp hq with rfl | hq
      · exact ⟨hD, hsd⟩
      · cases hq
  refine wpAny_call ?_
  k_dflt (refine' enter (news := [(P, accO D vs n), (D, dictOf [sizeE w k ta tb] 1)]) (binds := [(Str.ofString "self", Value.ref P), (Str.ofString "fws", Value.str x t1), (Str.ofString "string", Value.str y t2)]) XS TS S ?k1 ?k2 ?k3 ?k4 ?k5 ?k6 ?_ ?c1 ?c2 ?c3 ?c4; (case k1 => exact N0); (case k2 => k_is); (case k3 => k_is); (case k4 => decide); (case k5 => first | exact BindsTo.of_eq rfl | exact binds_K (Frag.In.keeps XS S) rfl (by k_is) rfl rfl rfl); (case k6 => exact locs rfl); (case c1 => decide); (case c2 => exact rfl); (case c3 => exact rfl); (case c4 => exact rfl); k_whole)
  intro g L' h₁ F' N' X' T' up' st' kk'
  try dsimp only
  try k_fold
  k_steps
  (rename Fr _ _ _ _ => F); (rename News _ _ _ _ => N)
  refine acc_methodA (XS.keeps (frStat F st')) (N _ (.head _)).1 (N _ (.tail _ (.head _))).1 ?_
  k_steps
  (rename Fr _ _ _ _ => F); (rename News _ _ _ _ => N)
  rename_i T _ _
  refine acc_append (XS.keeps (frStat F st')) (N _ (.tail _ (.head _))).1 (by omega) fun h' n' a b => ?_
  have F2 := sameFr F N (.tail _ (.head _)) b
  have e1 := neNews N (.head _) (.tail _ (.head _)) (by simp)
  have e2 := neNews N (.tail _ (.tail _ (.head _))) (.tail _ (.head _)) (by simp)
  have N2 := sameNews N (.tail _ (.head _)) b a (rest := [(T, tupO (x, y) t1 t2), (D, dictOf [sizeE w k ta tb] 1)]) (fun q hq => by
    rcases List.mem_cons.mp hq with rfl | hq
    · exact ⟨.head _, e1⟩
    · rcases List.mem_cons.mp hq with rfl | hq
      · exact ⟨.tail _ (.tail _ (.head _)), e2⟩
      · cases hq)
  have e3 := neNews N (.head _) (.tail _ (.tail _ (.head _))) (by simp)
  have hf : s.heap.get? T = none := freshN N up' (.head _) (nm2 e1 e3)
  clear F N
  k_steps
  exact q _ _ T n' t1 t2 (upF F2 up') hf (N2 _ (.tail _ (.head _))).1 ⟨a, hsp, hsd, _, _, (N2 _ (.tail _ (.tail _ (.head _)))).1⟩
theorem pop_from_s {i : Int} {t1 : Tok} (h1 : -100 ≤ i) (h2 : i ≤ 100) (hv : vs.length ≤ 400)
    (q : ∀ h' tk l n', Up [P, D] s.heap h' → s.heap.get? l = none → h'.get? l = some (W.listOf (vs.drop (cutAt vs.length i)).toArray 0) → AccAt w hS h' P D (vs.take (cutAt vs.length i)) n' k → Q (.ref l) { s with heap := h', toks := tk }) :
    wpAny (model prog w) (AA 4) (call (.ref 53) [.ref P, .int i t1]) Q E s := by
  obtain ⟨hP, hsp, hsd, ta, tb, hD⟩ := C0
  have N0 : ∀ q ∈ [(P, accO D vs n), (D, dictOf [sizeE w k ta tb] 1)], s.heap.get? q.1 = some q.2 ∧ hS.get? q.1 = none := fun q hq => by
    rcases List.mem_cons.mp hq with rfl | hq
    · exact ⟨hP, hsp⟩
    · rcases List.mem_cons.mp hq with rfl | hq
      · exact ⟨hD, hsd⟩
      · cases hq
  refine wpAny_call ?_
  k_dflt (refine' enter (news := [(P, accO D vs n), (D, dictOf [sizeE w k ta tb] 1)]) (binds := [(Str.ofString "self", Value.ref P), (Str.ofString "i", Value.int i t1)]) XS TS S ?k1 ?k2 ?k3 ?k4 ?k5 ?k6 ?_ ?c1 ?c2 ?c3 ?c4; (case k1 => exact N0); (case k2 => k_is); (case k3 => k_is); (case k4 => decide); (case k5 => first | exact BindsTo.of_eq rfl | exact binds_K (Frag.In.keeps XS S) rfl (by k_is) rfl rfl rfl); (case k6 => exact locs rfl); (case c1 => decide); (case c2 => exact rfl); (case c3 => exact rfl); (case c4 => exact rfl); k_whole)
  intro g L' h₁ F' N' X' T' up' st' kk'
  try dsimp only
  try k_fold
  k_steps
  (rename Fr _ _ _ _ => F); (rename News _ _ _ _ => N)
  have F2 := F.push { cls := .type "slice", data := .fields #[.int i t1, .none, .none] }
  have N2 := N.push F { cls := .type "slice", data := .fields #[.int i t1, .none, .none] }
  clear F N
  refine acc_tail (XS.keeps (frStat F2 st')) (N2 _ (.tail _ (.head _))).1 (acc_getslice (XS.keeps (frStat F2 st')) (N2 _ (.tail _ (.head _))).1 (N2 _ (.head _)).1 (by omega) ?_)
  have F := F2.push { cls := .type "list", data := .seq (vs.drop (cutAt vs.length i)).toArray }
  have N := N2.push F2 { cls := .type "list", data := .seq (vs.drop (cutAt vs.length i)).toArray }
  clear F2 N2
  dsimp only at F N ⊢
  k_steps
  (rename Fr _ _ _ _ => F); (rename News _ _ _ _ => N)
  rename_i T hh _
  have F2 := F.push { cls := .type "slice", data := .fields #[.int i t1, .none, .none] }
  have N2 := N.push F { cls := .type "slice", data := .fields #[.int i t1, .none, .none] }
  clear F N
  have eT := neNews N2 (.tail _ (.head _)) (.tail _ (.tail _ (.tail _ (.tail _ (.head _))))) (by simp)
  refine acc_setslice (lo := some i) (ws := []) (XS.keeps (frStat F2 st')) (N2 _ (.tail _ (.tail _ (.tail _ (.tail _ (.head _)))))).1 (.int i t1) (N2 _ (.head _)).1 (N2 _ (.tail _ (.head _))).1 eT hv (by simp) fun h' n' a b => ?_
  have F := sameFr F2 N2 (.tail _ (.tail _ (.tail _ (.tail _ (.head _))))) b
  have e1 := neNews N2 (.tail _ (.tail _ (.head _))) (.tail _ (.tail _ (.tail _ (.tail _ (.head _))))) (by simp)
  have e2 := neNews N2 (.tail _ (.tail _ (.tail _ (.tail _ (.tail _ (.head _)))))) (.tail _ (.tail _ (.tail _ (.tail _ (.head _))))) (by simp)
  have e3 := neNews N2 (.tail _ (.tail _ (.head _))) (.tail _ (.tail _ (.tail _ (.tail _ (.tail _ (.head _)))))) (by simp)
  have hf := freshN N2 up' (.tail _ (.tail _ (.head _))) (nm2 e1 e3)
  have hl := (b.2 _ e1).trans (N2 _ (.tail _ (.tail _ (.head _)))).1
  have hd := (b.2 _ e2).trans (N2 _ (.tail _ (.tail _ (.tail _ (.tail _ (.tail _ (.head _))))))).1
  dsimp only [Option.getD_some, List.append_nil] at a
  rw [List.append_nil] at a
  have N := sameNews N2 (.tail _ (.tail _ (.tail _ (.tail _ (.head _))))) b a (rest := []) (fun q hq => nomatch hq)
  clear F2 N2
  dsimp only at F N hl hd ⊢
  k_steps
  exact q _ _ _ n' (upF F up') hf hl ⟨a, hsp, hsd, _, _, hd⟩
end
end Mine
end
section
open PySem PySem.W PyProof.Rows PySem.Calls
set_option maxRecDepth 100000
set_option maxHeartbeats 1000000
namespace Mine
theorem fillM2 : PySem.Challenge.rw_mr0062_01 = PySem.Challenge.rw_mr0062_01 ∧ hd.heap_39 = hd.heap_39 := by
  k_fill
  w_top off
  exact ⟨rfl, rfl⟩
local macro_rules | `(tactic| k_inst) => `(tactic| (refine' instAcc ?N ?h1 ?h2; (case N => k_asm); (case h1 => k_mem); (case h2 => k_mem)))
local macro_rules | `(tactic| k_steps) => `(tactic| repeat' (first
  | (k_unfold; (try dsimp only))
  | ((fail_if_success (with_reducible show wpAny _ _ (exec (Stmt.While _ _ _ _) _) _ _ _));
     (fail_if_success (with_reducible show wpAny _ _ (exec (Stmt.For _ _ _ _ _) _) _ _ _));
     (fail_if_success (with_reducible show wpAny _ _ (eval (Expr.ListComp _ _ _ _) _) _ _ _));
     (fail_if_success (with_reducible show wpAny _ _ (eval (Expr.GeneratorExp _ _ _ _) _) _ _ _));
     (fail_if_success (with_reducible show PySem.wpAt _ _ _ (execs _ _) _ _ _));
     (fail_if_success (with_reducible show wpAny _ _ (getMethod (Value.ref _) _ _) _ _ _));
     (fail_if_success (with_reducible show wpAny _ _ (call (Value.ref _) _ _) _ _ _));
     (first | walk1 | (dsimp only; walk1) | (leave1; try dsimp only)))
  | fail "no step"))
section
variable {prog : Program} {w : World} {A : Around} {s : Shared} {K : Frag} {hS : Heap} {p : Program} {loose : List Str} {mean : ExcName → Option Value} {mg mb : Str → Option Value} {news : List (Addr × Obj)}
  {R : Result → Shared → Prop} {name qual : Str} {params : Arguments} {body : List Stmt} {scope : Scope} {cc : Addr} {dV kV doc pm cdv ct oc : Value} {an od : Option Addr} {osl : Array (Option Value)} {f : Addr} {args : Args} {binds : List (Str × Value)}
/-- into a def that says super() -/
theorem enterS (XS : K.In hS) (TS : Top p loose mean mg mb hS) (S : hS.StaysIn s.heap) (N0 : ∀ q ∈ news, s.heap.get? q.1 = some q.2 ∧ hS.get? q.1 = none)
    (ho : K.lookup f = some ⟨oc, od, .func (ksFn name qual params body scope dV kV doc pm an cdv ct cc), osl⟩) (hcd : codeIn K cdv qual = true) (hroom : A.depth < recursionLimit)
    (hbind : BindsTo s (ksFn name qual params body scope dV kV doc pm an cdv ct cc) args binds) (hloc : ∀ y ∈ binds, scope.names.lookup y.1 = some .local)
    (h : ∀ g L' h₁, Fr g L' h₁ (fun y => binds.reverse.lookup y) → News g L' h₁ news → K.In g → Top p loose mean mg mb g → Up (news.map (·.1)) s.heap g → hS.StaysIn g →
      (∀ b o, s.heap.get? b = some o → h₁.get? b = some o) →
      _root_.PySem.wpAt (model prog w) (A.deeper (ksEnv qual scope L' f cdv cc)) (.func body (ksEnv qual scope L' f cdv cc)) (execs body (ksEnv qual scope L' f cdv cc))
        (fun fl s' => R (.ok (.ret (match fl with | .ret v => v | _ => .none))) s')
        (fun e s' => wpAny (model prog w) (A.deeper (ksEnv qual scope L' f cdv cc)) («leaving» (ksEnv qual scope L' f cdv cc) e) (fun _ s'' => R (.error e) s'') (fun e' s'' => R (.error e') s'') s')
        { s with heap := h₁, toks := s.toks + binds.length })
    (hcell : ∀ x ∈ scope.names, x.2 ≠ .cell) (hco : scope.isCoroutine = false := by rfl) (hgen : scope.isGenerator = false := by rfl) (hk : scope.kind = .function := by rfl) : codeAny (model prog w) A (.call (.ref f) args) R s := by
  have X := XS.keeps S
  refine ks_codeAny_call_defAt (fd := ksFn name qual params body scope dV kV doc pm an cdv ct cc) (body := body) (binds := binds) hroom (X _ _ ho) rfl (TS.nolimit.keeps S) (codeRec_of X hcd) rfl hbind hcell hloc (fun h₁ hns hk₁ => ?_) hco hgen hk
  have st : hS.StaysIn (hideAll s.heap (news.map (·.1))) := fun b o e => hideAll_get _ (S b o e) fun q => by
    obtain ⟨x, hx, rfl⟩ := List.mem_map.mp q
    rw [(N0 x hx).2] at e; cases e
  have hn : ∀ x ∈ news, (hideAll s.heap (news.map (·.1))).get? x.1 = none := fun x hx => hideAll_none _ (List.mem_map_of_mem hx)
  have hup : Up (news.map (·.1)) s.heap (hideAll s.heap (news.map (·.1))) := fun b o hb e => hideAll_get _ e hb
  have hgs := hideAll_size (news.map (·.1)) s.heap
  have hof : ∀ b o, (hideAll s.heap (news.map (·.1))).get? b = some o → s.heap.get? b = some o := fun b o e => of_hideAll _ e
  generalize hideAll s.heap (news.map (·.1)) = g at st hn hup hgs hof
  exact h g s.heap.objs.size h₁ ⟨hns, fun b o e => hk₁ b o (hof b o e), Nat.le_of_eq hgs⟩
    (fun x hx => ⟨hk₁ _ _ (N0 x hx).1, Nat.ne_of_lt (Heap.lt_size (N0 x hx).1), hn x hx⟩) (XS.keeps st) (TS.keeps st) hup st hk₁
end
theorem isz : (Str.ofString "_initial_size" == Str.ofString "_initial_size") = true := beq_self_eq_true _
theorem put_size {w : World} {k : Int} {ta tb : Tok} {hs : Int} {key v : Value} : (putL (Str.ofString "_initial_size") hs key v [sizeE w k ta tb], putN (Str.ofString "_initial_size") [sizeE w k ta tb] 1) = ([(⟨PyData.keyHash w.params (Str.ofString "_initial_size"), .str (Str.ofString "_initial_size") ta, v⟩ : DictEntry)], 1) := by
  have e : (Value.str (Str.ofString "_initial_size") ta).isStr (Str.ofString "_initial_size") = true := isz
  simp [putL, putN, e]
theorem get_size {w : World} {k : Int} {ta tb : Tok} : (getL (Str.ofString "_initial_size") [sizeE w k ta tb]).isSome = true := by
  have e : (Value.str (Str.ofString "_initial_size") ta).isStr (Str.ofString "_initial_size") = true := isz
  simp [getL, List.find?, e]
theorem upBack {h h' : Heap} {P D : Addr} {o1 o2 : Obj} (U : Up [P, D] h h') (a1 : h.get? P = some o1) (a2 : h'.get? P = some o1) (b1 : h.get? D = some o2) (b2 : h'.get? D = some o2) : Up [] h h' := fun b o _ e => by
  by_cases h1 : b = P
  · subst h1; rw [a1] at e; rw [a2, e]
  · by_cases h2 : b = D
    · subst h2; rw [b1] at e; rw [b2, e]
    · exact U b o (nm2 h1 h2) e
theorem upMore {h h' : Heap} {M M' : List Addr} (U : Up M h h') (hs : ∀ a ∈ M, a ∈ M') : Up M' h h' := fun b o hb e => U b o (fun q => hb (hs _ q)) e
theorem upTrans {h h' h'' : Heap} {M : List Addr} (U : Up M h h') (V : Up M h' h'') : Up M h h'' := fun b o hb e => V b o hb (U b o hb e)
section
variable {prog : Program} {w : World} {A : Around} {E : Value → Shared → Prop} {s : Shared} {P D so L : Addr} {vs : List Value} {n : Nat} {od : Obj} {h₀ : Heap} {m : Str → Option Value} {news : List (Addr × Obj)} {pl : Sem Bool} {Q : Value × List Value → Shared → Prop}
theorem callWith_b0 {M : Model} {pos : Pos} {u : Addr} {c id : String} {env : Env} {Q : Value → Shared → Prop} (hu : s.heap.get? u = some (bndO c id P)) (hc : c = "builtin_function_or_method" ∨ c = "method-wrapper")
    (h : wpAny M A (call (.ref u) []) Q E s) : wpAny M A (callWith pos (.ref u) [] (backTo pos (starEach [] env)) []) Q E s := by
  unfold callWith
  refine wpAny_bind (wpAny_holding (evalArgs_nil3 (wpAny_bind (wpAny_standAt ?_))))
  refine wpAny_bind (m := keeperOf (.ref u)) ?_
  unfold keeperOf
  refine wpAny_bind (wpAny_load hu ?_)
  have e1 : (Value.type c != Value.type "method") = true := by rcases hc with rfl | rfl <;> decide
  have e2 : (Value.type c == Value.type "builtin_function_or_method" || Value.type c == Value.type "method-wrapper") = true := by rcases hc with rfl | rfl <;> decide
  simp only [bndO, e1, e2, if_true]
  refine wpAny_pure ?_
  exact wpAny_bind (wpAny_mono h (fun r s₂ hr => wpAny_bind (wpAny_holding (wpAny_point (wpAny_pure hr)))) fun _ _ x => x)
theorem sup_len (F : Fr h₀ L s.heap m) (N : News h₀ L s.heap news) (X : (hd.heap_39 w.params).In s.heap) (hso : (so, ks_superObj 101 P 101) ∈ news) (hP : (P, accO D vs n) ∈ news) (hD : (D, od) ∈ news)
    (h : ∀ q h', Fr h₀ L h' m → News h₀ L h' ((q, bndO "method-wrapper" "list.__len__" P) :: news) → (∀ p ∈ news, p.1 < q) → Q (.ref q, []) { s with heap := h', toks := s.toks + 1 }) : wpAny (model prog w) A (getMethod (.ref so) "__len__" pl) Q E s := by
  have ne := acc_ne X (N _ hP).1 (N _ hD).1
  obtain ⟨hh, g, d, t, os⟩ := s
  refine super_gm (o := bndO "method-wrapper" "list.__len__" P) (N _ hso).1 X (by ks_is) (by show builtinType _ = _; rw [builtinType_eq_fast]; kernel_rfl) slot_wget.lookup ne (by decide) (fun tk A' E' Q' q => run_wget (T := "") (s := ⟨hh, g, d, tk, os⟩) (.inl rfl) X (N _ hP).1 q) ?_
  obtain ⟨F', N', l'⟩ := ks_newsPush (s := ⟨hh, g, d, t, os⟩) (o := bndO "method-wrapper" "list.__len__" P) F N rfl (Heap.get?_push_at rfl rfl) (fun b o e => Heap.get?_push_of_some _ e)
  exact h _ _ F' N' l'
theorem sup_init (F : Fr h₀ L s.heap m) (N : News h₀ L s.heap news) (X : (hd.heap_39 w.params).In s.heap) (hso : (so, ks_superObj 101 P 101) ∈ news) (hP : (P, accO D vs n) ∈ news) (hD : (D, od) ∈ news)
    (h : ∀ q h', Fr h₀ L h' m → News h₀ L h' ((q, bndO "method-wrapper" "list.__init__" P) :: news) → (∀ p ∈ news, p.1 < q) → Q (.ref q, []) { s with heap := h', toks := s.toks + 1 }) : wpAny (model prog w) A (getMethod (.ref so) "__init__" pl) Q E s := by
  have ne := acc_ne X (N _ hP).1 (N _ hD).1
  obtain ⟨hh, g, d, t, os⟩ := s
  refine super_gm (o := bndO "method-wrapper" "list.__init__" P) (N _ hso).1 X (by ks_is) (by show builtinType _ = _; rw [builtinType_eq_fast]; kernel_rfl) slot_wget.lookup ne (by decide) (fun tk A' E' Q' q => run_wget (T := "") (s := ⟨hh, g, d, tk, os⟩) (.inr rfl) X (N _ hP).1 q) ?_
  obtain ⟨F', N', l'⟩ := ks_newsPush (s := ⟨hh, g, d, t, os⟩) (o := bndO "method-wrapper" "list.__init__" P) F N rfl (Heap.get?_push_at rfl rfl) (fun b o e => Heap.get?_push_of_some _ e)
  exact h _ _ F' N' l'
theorem sup_pop (F : Fr h₀ L s.heap m) (N : News h₀ L s.heap news) (X : (hd.heap_39 w.params).In s.heap) (hso : (so, ks_superObj 101 P 101) ∈ news) (hP : (P, accO D vs n) ∈ news) (hD : (D, od) ∈ news)
    (h : ∀ q h', Fr h₀ L h' m → News h₀ L h' ((q, bndO "builtin_function_or_method" "list.pop" P) :: news) → (∀ p ∈ news, p.1 < q) → Q (.ref q, []) { s with heap := h', toks := s.toks + 1 }) : wpAny (model prog w) A (getMethod (.ref so) "pop" pl) Q E s := by
  have ne := acc_ne X (N _ hP).1 (N _ hD).1
  obtain ⟨hh, g, d, t, os⟩ := s
  refine super_gm (o := bndO "builtin_function_or_method" "list.pop" P) (N _ hso).1 X (by ks_is) (by show builtinType _ = _; rw [builtinType_eq_fast]; kernel_rfl) slot_mget.lookup ne (by decide) (fun tk A' E' Q' q => run_mget (s := ⟨hh, g, d, tk, os⟩) X (N _ hP).1 q) ?_
  obtain ⟨F', N', l'⟩ := ks_newsPush (s := ⟨hh, g, d, t, os⟩) (o := bndO "builtin_function_or_method" "list.pop" P) F N rfl (Heap.get?_push_at rfl rfl) (fun b o e => Heap.get?_push_of_some _ e)
  exact h _ _ F' N' l'
end
section
variable {prog : Program} {w : World} {s : Shared} {hS : Heap} {p : Program} {loose : List Str} {mean : ExcName → Option Value} {mg mb : Str → Option Value} {Q : Value → Shared → Prop} {E : Value → Shared → Prop} {P D : Addr} {vs : List Value} {n : Nat} {k : Int}
  (pf : ((prog.main.file : Str) == Str.ofString "/claim/cut.py") = true) (ps : (prog.main.scope.names.lookup ("super" : Str)).isSome = false)
  (XS : (hd.heap_39 w.params).In hS) (TS : Top p loose mean mg mb hS) (S : hS.StaysIn s.heap)
  (C0 : AccAt w hS s.heap P D vs n k)
include pf ps XS TS S C0
theorem part_count_s (q : ∀ h' tk t, Up [] s.heap h' → Q (.int vs.length t) { s with heap := h', toks := tk }) :
    wpAny (model prog w) (AA 5) (call (.ref 98) [.ref P]) Q E s := by
  obtain ⟨hP, hsp, hsd, ta, tb, hD⟩ := C0
  have N0 : ∀ q ∈ [(P, accO D vs n), (D, dictOf [sizeE w k ta tb] 1)], s.heap.get? q.1 = some q.2 ∧ hS.get? q.1 = none := fun q hq => by
    rcases List.mem_cons.mp hq with rfl | hq
    · exact ⟨hP, hsp⟩
    · rcases List.mem_cons.mp hq with rfl | hq
      · exact ⟨hD, hsd⟩
      · cases hq
  refine wpAny_call ?_
  k_dflt (refine' enterS (news := [(P, accO D vs n), (D, dictOf [sizeE w k ta tb] 1)]) (binds := [(Str.ofString "self", Value.ref P)]) XS TS S ?k1 ?k2 ?k3 ?k4 ?k5 ?k6 ?_ ?c1 ?c2 ?c3 ?c4; (case k1 => exact N0); (case k2 => k_is); (case k3 => k_is); (case k4 => decide); (case k5 => first | exact BindsTo.of_eq rfl | exact binds_K (Frag.In.keeps XS S) rfl (by k_is) rfl rfl rfl); (case k6 => exact locs rfl); (case c1 => decide); (case c2 => exact rfl); (case c3 => exact rfl); (case c4 => exact rfl); k_whole)
  intro g L' h₁ F' N' X' T' up' st' kk'
  try dsimp only
  try k_fold
  have F := F'
  have N := N'
  clear F' N'
  refine ks_wpAt_execs_cons (ks_wpAt_Return_some (ks_wpAt_MethodCall ?_))
  k_dflt (refine ks_node F X' N T' (by k_is) (by rfl) (by rfl) (by k_inst) (by k_is) (by rfl) pf (by k_is) (by k_is) (by k_is) (by k_is) (by decide) (by rfl) (by rfl) (by rfl) (by rfl) ps (by first | boot_by_name | rfl | kernel_rfl) ?_)
  intro so h' F N l1
  dsimp only
  refine sup_len F N (XS.keeps (frStat F st')) (.head _) (.tail _ (.head _)) (.tail _ (.tail _ (.head _))) fun b h' F N l1 => ?_
  dsimp only
  refine callWith_b0 (N _ (.head _)).1 (.inr rfl) ?_
  refine call_bnd (N _ (.head _)).1 (.inr rfl) (by decide +kernel) entry_len (fun _ _ q => chk_len q) (body_len (N _ (.tail _ (.tail _ (.head _)))).1 fun t tk => ?_)
  exact q _ _ _ (upBack (upF F up') hP (N _ (.tail _ (.tail _ (.head _)))).1 hD (N _ (.tail _ (.tail _ (.tail _ (.head _))))).1)
theorem pop_s (hv : vs.length ≤ 400) (q0 : vs = [] → ∀ h' tk T t1 t2, Up [] s.heap h' → s.heap.get? T = none → h'.get? T = some (tupO (Str.ofString "", Str.ofString "") t1 t2) → Q (.ref T) { s with heap := h', toks := tk })
    (q1 : ∀ ws v, vs = ws ++ [v] → ∀ h' tk n', Up [P, D] s.heap h' → AccAt w hS h' P D ws n' k → Q v { s with heap := h', toks := tk }) :
    wpAny (model prog w) (AA 4) (call (.ref 61) [.ref P]) Q E s := by
  obtain ⟨hP, hsp, hsd, ta, tb, hD⟩ := C0
  have N0 : ∀ q ∈ [(P, accO D vs n), (D, dictOf [sizeE w k ta tb] 1)], s.heap.get? q.1 = some q.2 ∧ hS.get? q.1 = none := fun q hq => by
    rcases List.mem_cons.mp hq with rfl | hq
    · exact ⟨hP, hsp⟩
    · rcases List.mem_cons.mp hq with rfl | hq
      · exact ⟨hD, hsd⟩
      · cases hq
  refine wpAny_call ?_
  k_dflt (refine' enterS (news := [(P, accO D vs n), (D, dictOf [sizeE w k ta tb] 1)]) (binds := [(Str.ofString "self", Value.ref P)]) XS TS S ?k1 ?k2 ?k3 ?k4 ?k5 ?k6 ?_ ?c1 ?c2 ?c3 ?c4; (case k1 => exact N0); (case k2 => k_is); (case k3 => k_is); (case k4 => decide); (case k5 => first | exact BindsTo.of_eq rfl | exact binds_K (Frag.In.keeps XS S) rfl (by k_is) rfl rfl rfl); (case k6 => exact locs rfl); (case c1 => decide); (case c2 => exact rfl); (case c3 => exact rfl); (case c4 => exact rfl); k_whole)
  intro g L' h₁ F' N' X' T' up' st' kk'
  try dsimp only
  try k_fold
  refine ks_wpAt_execs_cons (ks_wpAt_If (wpAt_of_wpAny ?_))
  k_steps
  (rename Fr _ _ _ _ => F); (rename News _ _ _ _ => N)
  refine acc_method (XS.keeps (frStat F st')) (N _ (.head _)).1 (N _ (.tail _ (.head _))).1 (by k_is) (by k_is) (dget (by decide)) ?_
  k_steps
  dsimp only
  refine wide (A := AA 5) rfl (Nat.le_of_ble_eq_true rfl) (Nat.le_of_ble_eq_true rfl) rfl rfl (part_count_s (P := P) (D := D) (vs := vs) pf ps XS TS (frStat F st') ⟨(N _ (.head _)).1, hsp, hsd, _, _, (N _ (.tail _ (.head _))).1⟩ fun h' tk t U => ?_)
  have F2 := frUp F U
  have N2 := newsUp N U
  clear F N
  k_steps
  · refine wpAt_of_wpAny ?_
    k_steps
    (rename Fr _ _ _ _ => F); (rename News _ _ _ _ => N)
    have hl : vs = [] := List.eq_nil_of_length_eq_zero (by omega)
    have e1 := neNews N (.head _) (.tail _ (.head _)) (by simp)
    have e2 := neNews N (.head _) (.tail _ (.tail _ (.head _))) (by simp)
    exact q0 hl _ _ _ _ _ (upBack (upF F up') hP (N _ (.tail _ (.head _))).1 hD (N _ (.tail _ (.tail _ (.head _)))).1) (freshN N up' (.head _) (nm2 e1 e2)) (N _ (.head _)).1
  · refine wpAt_of_wpAny ?_
    k_steps
    dsimp only
    (rename Fr _ _ _ _ => F); (rename News _ _ _ _ => N)
    refine ks_wpAt_execs_cons (ks_wpAt_Return_some (ks_wpAt_MethodCall ?_))
    k_dflt (refine ks_node F X' N T' (by k_is) (by rfl) (by rfl) (by k_inst) (by k_is) (by rfl) pf (by k_is) (by k_is) (by k_is) (by k_is) (by decide) (by rfl) (by rfl) (by rfl) (by rfl) ps (by first | boot_by_name | rfl | kernel_rfl) ?_)
    intro so h' F N l1
    dsimp only
    refine sup_pop F N (XS.keeps (frStat F st')) (.head _) (.tail _ (.head _)) (.tail _ (.tail _ (.head _))) fun b h' F N l1 => ?_
    dsimp only
    obtain ⟨ws, v, rfl⟩ : ∃ ws v, vs = ws ++ [v] := by
      rcases List.eq_nil_or_concat vs with rfl | ⟨a, b, e⟩
      · exact absurd rfl (by assumption)
      · exact ⟨a, b, by rw [e, List.concat_eq_append]⟩
    refine callWith_b0 (N _ (.head _)).1 (.inl rfl) ?_
    refine call_bnd (N _ (.head _)).1 (.inl rfl) (by decide +kernel) entry_pop (fun _ _ q => chk_pop (XS.keeps (frStat F st')) (N _ (.tail _ (.tail _ (.head _)))).1 q) (body_pop (N _ (.tail _ (.tail _ (.head _)))).1 (by simp at hv; omega) fun h' n' a b => ?_)
    have F2 := sameFr F N (.tail _ (.tail _ (.head _))) b
    have e2 := neNews N (.tail _ (.tail _ (.tail _ (.head _)))) (.tail _ (.tail _ (.head _))) (by simp)
    have N2 := sameNews N (.tail _ (.tail _ (.head _))) b a (rest := [(D, dictOf [sizeE w k ta tb] 1)]) (fun q hq => by
      rcases List.mem_cons.mp hq with rfl | hq
      · exact ⟨.tail _ (.tail _ (.tail _ (.head _))), e2⟩
      · cases hq)
    exact q1 _ _ rfl _ _ n' (upF F2 up') ⟨a, hsp, hsd, _, _, (N2 _ (.tail _ (.head _))).1⟩
theorem reset_s {l : Addr} {ws : List Value} {nl : Nat} (hl : s.heap.get? l = some (W.listOf ws.toArray nl)) (hv : vs.length ≤ 400) (hw : ws.length ≤ 400)
    (q : ∀ h' tk n', Up [P, D] s.heap h' → AccAt w hS h' P D ws n' 0 → Q .none { s with heap := h', toks := tk }) :
    wpAny (model prog w) (AA 4) (call (.ref 83) [.ref P, .ref l]) Q E s := by
  obtain ⟨hP, hsp, hsd, ta, tb, hD⟩ := C0
  have N0 : ∀ q ∈ [(P, accO D vs n), (D, dictOf [sizeE w k ta tb] 1)], s.heap.get? q.1 = some q.2 ∧ hS.get? q.1 = none := fun q hq => by
    rcases List.mem_cons.mp hq with rfl | hq
    · exact ⟨hP, hsp⟩
    · rcases List.mem_cons.mp hq with rfl | hq
      · exact ⟨hD, hsd⟩
      · cases hq
  refine wpAny_call ?_
  k_dflt (refine' enter (news := [(P, accO D vs n), (D, dictOf [sizeE w k ta tb] 1)]) (binds := [(Str.ofString "self", Value.ref P), (Str.ofString "startval", Value.ref l)]) XS TS S ?k1 ?k2 ?k3 ?k4 ?k5 ?k6 ?_ ?c1 ?c2 ?c3 ?c4; (case k1 => exact N0); (case k2 => k_is); (case k3 => k_is); (case k4 => decide); (case k5 => first | exact BindsTo.of_eq rfl | exact binds_K (Frag.In.keeps XS S) rfl (by k_is) rfl rfl rfl); (case k6 => exact locs rfl); (case c1 => decide); (case c2 => exact rfl); (case c3 => exact rfl); (case c4 => exact rfl); k_whole)
  intro g L' h₁ F' N' X' T' up' st' kk'
  try dsimp only
  try k_fold
  k_steps
  (rename Fr _ _ _ _ => F); (rename News _ _ _ _ => N)
  have elP : l ≠ P := fun e => by rw [e, hP] at hl; cases hl
  have elD : l ≠ D := fun e => by
    rw [e, hD] at hl
    have := congrArg (fun o : Option Obj => o.map (·.cls)) hl
    simp at this
  have hlg := up' l _ (nm2 elP elD) hl
  have F2 := F.push { cls := .type "slice", data := .fields #[.none, .none, .none] }
  have N2 := N.push F { cls := .type "slice", data := .fields #[.none, .none, .none] }
  clear F N
  refine acc_setslice (lo := none) (ws := ws) (XS.keeps (frStat F2 st')) (N2 _ (.tail _ (.head _))).1 .none (N2 _ (.head _)).1 (F2.keep _ _ hlg) elP hv hw fun h' n' a b => ?_
  have F := sameFr F2 N2 (.tail _ (.head _)) b
  have e2 := neNews N2 (.tail _ (.tail _ (.head _))) (.tail _ (.head _)) (by simp)
  have a' : h'.get? P = some (accO D ws n') := by
    rw [a]
    have : cutAt vs.length ((none : Option Int).getD 0) = 0 := Nat.zero_min vs.length
    rw [this]; rfl
  have N := sameNews N2 (.tail _ (.head _)) b a' (rest := [(D, dictOf [sizeE w k ta tb] 1)]) (fun q hq => by
    rcases List.mem_cons.mp hq with rfl | hq
    · exact ⟨.tail _ (.tail _ (.head _)), e2⟩
    · cases hq)
  clear F2 N2
  dsimp only at F N ⊢
  k_steps
  refine acc_setattr (XS.keeps (frStat F st')) (N _ (.head _)).1 (N _ (.tail _ (.head _))).1 get_size (by simp) put_size fun h2 a2 b2 => ?_
  have F2 := sameFr F N (.tail _ (.head _)) b2
  have N2 := sameNews N (.tail _ (.head _)) b2 a2 (rest := [(P, accO D ws n')]) (fun q hq => by
    rcases List.mem_cons.mp hq with rfl | hq
    · exact ⟨.head _, Ne.symm e2⟩
    · cases hq)
  clear F N
  dsimp only at F2 N2 ⊢
  k_steps
  exact q _ _ n' (upF F2 up') ⟨(N2 _ (.tail _ (.head _))).1, hsp, hsd, _, _, a2⟩
end
end Mine
end
section
open PySem PySem.W PyProof.Rows PySem.Calls Builtin Builtin.ObjectAttr
set_option maxRecDepth 100000
set_option maxHeartbeats 1000000
namespace Mine
theorem fillMk : PySem.Challenge.rw_mr0062_01 = PySem.Challenge.rw_mr0062_01 ∧ hd.heap_39 = hd.heap_39 := by
  k_fill
  w_top off
  exact ⟨rfl, rfl⟩
section
variable {prog : Program} {w : World} {A : Around} {R : Result → Shared → Prop} {h : Heap} {g : Array GenState} {d : Drawn} {t : Nat} {os : OsState}
structure MakesL (M : Model) (h : Heap) : Prop where
  obj : ∃ oc od cd sl, h.get? 101 = some ⟨oc, od, .cls cd, sl⟩ ∧ cd.abstract = false ∧ cd.hasDel = false ∧ cd.mro.isEmpty = false
  made : Looks M h (Bind.madeBy (.ref 101)) (some "list.__new__")
  base : Looks M h (Bind.staticBase (.ref 101)) (.ref 101)
  self : Looks M h (isSubtype (.ref 101) (.ref 101)) true
  lst : Looks M h (isSubtype (.ref 101) (.type "list")) true
  call : Looks M h (specialOf (.ref 101) "__call__") (some (.builtin "type.__call__"))
  typ : Looks M h (isInstance (.ref 101) (.type "type")) true
  ist : Looks M h (isType (.ref 101)) true
theorem makesL {M : Model} (X : (hd.heap_39 w.params).In h) : MakesL M h := by
  have e : (match (hd.heap_39 w.params).lookup 101 with
    | some ⟨_, _, .cls cd, sl⟩ => !cd.abstract && !cd.hasDel && (sl.toList[4]?).join == some (.builtin "list.__new__") && !cd.mro.isEmpty && cd.mro.contains (.ref 101) && cd.mro.contains (.type "list")
    | _ => false) = true := by kernel_rfl
  split at e
  · rename_i oc od cd sl ho
    simp only [Bool.and_eq_true, Bool.not_eq_true', beq_iff_eq] at e
    obtain ⟨⟨⟨⟨⟨e1, e2⟩, e3⟩, e4⟩, e5⟩, e6⟩ := e
    have hc : clsIn (hd.heap_39 w.params) 101 = some cd := by unfold clsIn; rw [ho]
    have hm : Looks M h (mroOf (.ref 101)) cd.mro := (looks_clsIn X hc).andThen .now
    obtain ⟨c, l, hl⟩ : ∃ c l, cd.mro = c :: l := by cases q : cd.mro with | nil => rw [q] at e4; cases e4 | cons c l => exact ⟨c, l, rfl⟩
    have made : Looks M h (Bind.madeBy (.ref 101)) (some "list.__new__") := by
      intro A Q E s k q
      unfold Bind.madeBy
      refine wpAny_bind (hm A _ E s k ?_)
      rw [hl, List.forIn_cons]
      refine wpAny_bind (wpAny_bind (wpAny_bind (wpAny_bind (wpAny_loadPart (k _ _ (X _ _ ho)) (wpAny_pure ?_)))))
      dsimp only
      rw [← Array.getElem?_toList, e3]
      exact wpAny_pure (wpAny_pure (wpAny_pure q))
    refine ⟨⟨oc, od, cd, sl, X _ _ ho, e1, e2, e4⟩, made, ?_, looks_mroIn X (by k_is), looks_mroIn X (by k_is), looks_specialIn X (by k_is), looks_instIn X (by k_is), ?_⟩
    · intro A Q E s k q
      unfold Bind.staticBase
      refine wpAny_bind (hm A _ E s k ?_)
      rw [hl, List.forIn_cons]
      exact wpAny_bind (wpAny_bind (wpAny_bind (made A _ E s k (wpAny_pure (wpAny_pure (wpAny_pure q))))))
    · intro A Q E s k q
      obtain ⟨hh, g, d, t, os⟩ := s
      exact ks_wpAny_isType_cls (k _ _ (X _ _ ho)) rfl q
  · cases e
theorem new_L {k : Int} {tk : Tok} (Y : MakesL (model prog w) h) (hq : R (.ok (.ret (.ref (h.objs.size + 1)))) ⟨(h.push emptyDict).push (accO h.objs.size [] 0), g, d, t, os⟩) :
    codeAny (model prog w) A (.call (.builtin "list.__new__") ⟨[.ref 101, .int k tk], []⟩) R ⟨h, g, d, t, os⟩ := by
  obtain ⟨⟨oc, od, cd, sl, hC, e1, e2, e4⟩, made, base, self, lst, call, typ, ist⟩ := Y
  refine codeAny_call_builtin_code (plainId_quiet PySem.F.plain_list_new _) ?_
  have hk : builtinKind "list.__new__" = some .builtinFn := by decide +kernel
  have hs : splitId "list.__new__" = some ("list", "__new__") := by decide +kernel
  have ha : (match Manifest.signature? "list.__new__" with | some sig => Bind.checkArgs "list.__new__" sig ⟨[.ref 101, .int k tk], []⟩ | none => pure ()) = pure () := by kernel_rfl
  simp only [checkBuiltinCall, hk, hs]
  refine wpAny_bind (ist.at ?_)
  refine wpAny_bind (lst.at ?_)
  refine wpAny_bind (base.at ?_)
  refine wpAny_bind (made.at ?_)
  dsimp only
  rw [if_neg (by simp)]
  refine wpAny_of_eq ha ?_
  refine codeAny_builtin_stack PySem.F.entry_list_new rfl fun p st => ?_
  rw [Around.under_plainId PySem.F.plain_list_new _]
  have hown := owner_list_new
  simp only [hown]
  refine wpAny_bind (ist.at ?_)
  refine wpAny_bind (lst.at ?_)
  refine wpAny_bind (wpAny_pure ?_)
  show wpAny _ _ (newDict >>= _) _ _ _
  refine wpAny_bind (wpAny_bind (wpAny_alloc (wpAny_pure ?_)))
  refine wpAny_bind ?_
  show wpAny _ _ (newObjAsIs _ _ _) _ _ _
  unfold newObjAsIs classHasDel
  refine wpAny_bind (wpAny_alloc (wpAny_bind (wpAny_bind (wpAny_load (Heap.get?_push_of_some _ (Heap.get?_push_of_some _ hC)) (wpAny_pure ?_)))))
  rw [e2]
  refine wpAny_pure (wpAny_pure ?_)
  show R _ _
  rw [Heap.size_push]
  exact hq
theorem make_L {k : Int} {tk : Tok} (X : (hd.heap_39 w.params).In h)
    (hq : codeAny (model prog w) (A.under (.builtin "type.__call__" ⟨[.ref 101, .int k tk], []⟩)) (.call (.ref 38) ⟨[.ref (h.objs.size + 1), .int k tk], []⟩) (InitBack (h.objs.size + 1) R) ⟨(h.push emptyDict).push (accO h.objs.size [] 0), g, d, t, os⟩) :
    codeAny (model prog w) A (.call (.ref 101) ⟨[.int k tk], []⟩) R ⟨h, g, d, t, os⟩ := by
  have Y := makesL (M := model prog w) X
  have Y' := Y
  have hi : Looks (model prog w) h (typeLookup (.ref 101) "__init__") (some (.ref 38)) := looks_findIn X (by k_is)
  have hb : ∀ self, Looks (model prog w) h (bindSpecial (.ref 38) self) (.ref 38, [self]) := fun self => bind_fn X self (by k_is)
  obtain ⟨⟨oc, od, cd, sl, hC, e1, e2, e4⟩, made, base, self, lst, call, typ, ist⟩ := Y
  refine codeAny_of_tree ?_
  show wpAny _ _ (callAny (.ref 101) _) _ _ _
  refine nd_load hC ?_
  show wpAny _ _ (callAny.viaDunder (.ref 101) _) _ _ _
  unfold callAny.viaDunder
  refine wpAny_bind (call.at ?_)
  dsimp only
  rw [tc_bind]
  refine wpAny_bind (wpAny_pure (wpAny_bind (wpAny_pure ?_)))
  refine wpAny_pure (a := Fin.again (.call (.builtin "type.__call__") ⟨[.ref 101, .int k tk], []⟩)) (And.intro rfl ?_)
  refine codeAny_call_builtin_at (Code.quiet_builtin _ (by decide +kernel)) entry_typeCall (check_slot tc_kind tc_split typ (tc_args _ _ _) ?_)
  unfold Builtin.«type.__call__»
  have hm : Looks (model prog w) h (mroOf (.ref 101)) cd.mro := ((Looks.ld (part := none) hC).andThen .now).andThen .now
  repeat (first | simp only [e4, Bool.false_eq_true, if_false] | with_reducible refine wpAny_call ?_ | lk)
  refine new_L Y' ?_
  have kk : ∀ b o, h.get? b = some o → ((h.push emptyDict).push (accO h.objs.size [] 0)).get? b = some o := fun b o e => Heap.get?_push_of_some _ (Heap.get?_push_of_some _ e)
  have hx : ((h.push emptyDict).push (accO h.objs.size [] 0)).get? (h.objs.size + 1) = some (accO h.objs.size [] 0) := by heap_get
  have t1 : Looks (model prog w) ((h.push emptyDict).push (accO h.objs.size [] 0)) (typeOf (.ref (h.objs.size + 1))) (.ref 101) := (Looks.ld hx).andThen .now
  have s1 := self.keeps kk
  have i1 := hi.keeps kk
  have b1 := (hb (.ref (h.objs.size + 1))).keeps kk
  unfold isInstance callSpecial? specialOf
  repeat (first | with_reducible refine wpAny_call ?_ | lk)
  refine codeAny_mono hq fun r s' z => ?_
  rcases r with e | (v | _ | _ | _) <;> first | exact z | exact z.elim | skip
  obtain ⟨rfl, z⟩ := z
  exact wpAny_pure (wpAny_pure z)
end
end Mine
end
section
open PySem PySem.W PyProof.Rows PySem.Calls
set_option maxRecDepth 100000
set_option maxHeartbeats 1000000
namespace Mine
theorem fillMk2 : PySem.Challenge.rw_mr0062_01 = PySem.Challenge.rw_mr0062_01 ∧ hd.heap_39 = hd.heap_39 := by
  k_fill
  w_top off
  exact ⟨rfl, rfl⟩
local macro_rules | `(tactic| k_inst) => `(tactic| (refine' instAcc ?N ?h1 ?h2; (case N => k_asm); (case h1 => k_mem); (case h2 => k_mem)))
local macro_rules | `(tactic| k_steps) => `(tactic| repeat' (first
  | (k_unfold; (try dsimp only))
  | ((fail_if_success (with_reducible show wpAny _ _ (exec (Stmt.While _ _ _ _) _) _ _ _));
     (fail_if_success (with_reducible show wpAny _ _ (exec (Stmt.For _ _ _ _ _) _) _ _ _));
     (fail_if_success (with_reducible show wpAny _ _ (eval (Expr.ListComp _ _ _ _) _) _ _ _));
     (fail_if_success (with_reducible show wpAny _ _ (eval (Expr.GeneratorExp _ _ _ _) _) _ _ _));
     (fail_if_success (with_reducible show PySem.wpAt _ _ _ (execs _ _) _ _ _));
     (fail_if_success (with_reducible show wpAny _ _ (getMethod (Value.ref _) _ _) _ _ _));
     (fail_if_success (with_reducible show wpAny _ _ (call (Value.ref _) _ _) _ _ _));
     (first | walk1 | (dsimp only; walk1) | (leave1; try dsimp only)))
  | fail "no step"))
section
variable {prog : Program} {w : World} {s : Shared} {hS : Heap} {p : Program} {loose : List Str} {mean : ExcName → Option Value} {mg mb : Str → Option Value} {Q : Value → Shared → Prop} {E : Value → Shared → Prop} {P D : Addr} {n : Nat} {k : Int}
  (pf : ((prog.main.file : Str) == Str.ofString "/claim/cut.py") = true) (ps : (prog.main.scope.names.lookup ("super" : Str)).isSome = false)
  (XS : (hd.heap_39 w.params).In hS) (TS : Top p loose mean mg mb hS) (S : hS.StaysIn s.heap)
include pf ps XS TS S
theorem init_s {A : Around} {R : Result → Shared → Prop} {t1 : Tok} (hroom : A.depth < recursionLimit) (hP : s.heap.get? P = some (accO D [] n)) (hD : s.heap.get? D = some emptyDict) (hsp : hS.get? P = none) (hsd : hS.get? D = none)
    (q : ∀ h' tk n', Up [P, D] s.heap h' → AccAt w hS h' P D [] n' k → R (.ok (.ret .none)) { s with heap := h', toks := tk }) :
    codeAny (model prog w) A (.call (.ref 38) ⟨[.ref P, .int k t1], []⟩) R s := by
  have N0 : ∀ q ∈ [(P, accO D [] n), (D, emptyDict)], s.heap.get? q.1 = some q.2 ∧ hS.get? q.1 = none := fun q hq => by
    rcases List.mem_cons.mp hq with rfl | hq
    · exact ⟨hP, hsp⟩
    · rcases List.mem_cons.mp hq with rfl | hq
      · exact ⟨hD, hsd⟩
      · cases hq
  k_dflt (refine' enterS (news := [(P, accO D [] n), (D, emptyDict)]) (binds := [(Str.ofString "self", Value.ref P), (Str.ofString "initial_size", Value.int k t1)]) XS TS S ?k1 ?k2 ?k3 ?k4 ?k5 ?k6 ?_ ?c1 ?c2 ?c3 ?c4; (case k1 => exact N0); (case k2 => k_is); (case k3 => k_is); (case k4 => exact hroom); (case k5 => first | exact BindsTo.of_eq rfl | exact binds_K (Frag.In.keeps XS S) rfl (by k_is) rfl rfl rfl); (case k6 => exact locs rfl); (case c1 => decide); (case c2 => exact rfl); (case c3 => exact rfl); (case c4 => exact rfl); k_whole)
  intro g L' h₁ F' N' X' T' up' st' kk'
  try dsimp only
  try k_fold
  refine ks_wpAt_execs_cons (wpAt_of_wpAny ?_)
  k_steps
  (rename Fr _ _ _ _ => F); (rename News _ _ _ _ => N)
  have eDP := neNews N (.tail _ (.head _)) (.head _) (by simp)
  refine acc_setattr (es := []) (n0 := 0) (es' := [sizeE w k _ t1]) (n1 := 1) (XS.keeps (frStat F st')) (N _ (.head _)).1 (N _ (.tail _ (.head _))).1 rfl (by simp) rfl fun h2 a2 b2 => ?_
  have F2 := sameFr F N (.tail _ (.head _)) b2
  have N2 := sameNews N (.tail _ (.head _)) b2 a2 (rest := [(P, accO D [] n)]) (fun q hq => by
    rcases List.mem_cons.mp hq with rfl | hq
    · exact ⟨.head _, Ne.symm eDP⟩
    · cases hq)
  clear F N
  have F := F2
  have N := N2
  clear F2 N2
  dsimp only at F N ⊢
  refine ks_wpAt_execs_cons (ks_wpAt_Expr_any (ks_wpAt_MethodCall ?_))
  k_dflt (refine ks_node F X' N T' (by k_is) (by rfl) (by rfl) (by k_inst) (by k_is) (by rfl) pf (by k_is) (by k_is) (by k_is) (by k_is) (by decide) (by rfl) (by rfl) (by rfl) (by rfl) ps (by first | boot_by_name | rfl | kernel_rfl) ?_)
  intro so h' F N l1
  dsimp only
  refine sup_init F N (XS.keeps (frStat F st')) (.head _) (.tail _ (.tail _ (.head _))) (.tail _ (.head _)) fun b h' F N l1 => ?_
  dsimp only
  refine callWith_b0 (N _ (.head _)).1 (.inr rfl) ?_
  refine call_bnd (N _ (.head _)).1 (.inr rfl) (by decide +kernel) entry_init (fun _ _ q => chk_init q) (body_init (N _ (.tail _ (.tail _ (.tail _ (.head _))))).1 (by simp) fun h' n' a b => ?_)
  have F2 := sameFr F N (.tail _ (.tail _ (.tail _ (.head _)))) b
  have N2 := sameNews N (.tail _ (.tail _ (.tail _ (.head _)))) b a (rest := [(D, dictOf [sizeE w k _ t1] 1)]) (fun q hq => by
    rcases List.mem_cons.mp hq with rfl | hq
    · exact ⟨.tail _ (.tail _ (.head _)), eDP⟩
    · cases hq)
  clear F N
  refine wpAt_of_wpAny ?_
  k_steps
  exact q _ _ n' (upF F2 up') ⟨a, hsp, hsd, _, _, (N2 _ (.tail _ (.head _))).1⟩
theorem make_s {t1 : Tok} (q : ∀ h' tk P D n', Up [] s.heap h' → s.heap.get? P = none → s.heap.get? D = none → P ≠ D → AccAt w hS h' P D [] n' k → Q (.ref P) { s with heap := h', toks := tk }) :
    wpAny (model prog w) (AA 4) (call (.ref 101) [.int k t1]) Q E s := by
  obtain ⟨hh, g, d, t, os⟩ := s
  refine wpAny_call (make_L (XS.keeps S) ?_)
  have f1 : ∀ a, hh.objs.size ≤ a → hS.get? a = none := fun a ha => by
    cases e : hS.get? a with
    | none => rfl
    | some o => exact absurd (Heap.lt_size (S _ _ e)) (Nat.not_lt.mpr ha)
  have f2 : ∀ a, hh.objs.size ≤ a → hh.get? a = none := fun a ha => by
    cases e : hh.get? a with
    | none => rfl
    | some o => exact absurd (Heap.lt_size e) (Nat.not_lt.mpr ha)
  have kk : ∀ b o, hh.get? b = some o → ((hh.push emptyDict).push (accO hh.objs.size [] 0)).get? b = some o := fun b o e => Heap.get?_push_of_some _ (Heap.get?_push_of_some _ e)
  have hx : ((hh.push emptyDict).push (accO hh.objs.size [] 0)).get? (hh.objs.size + 1) = some (accO hh.objs.size [] 0) := by heap_get
  have hd : ((hh.push emptyDict).push (accO hh.objs.size [] 0)).get? hh.objs.size = some emptyDict := by heap_get
  refine init_s (s := ⟨_, g, d, t, os⟩) pf ps XS TS (fun b o e => kk b o (S b o e)) (Nat.le_of_ble_eq_true rfl) hx hd (f1 _ (Nat.le_succ _)) (f1 _ (Nat.le_refl _)) fun h' tk n' U C => ?_
  refine ⟨rfl, q _ _ _ _ n' (fun b o _ e => U b o (nm2 (Nat.ne_of_lt (Nat.lt_succ_of_lt (Heap.lt_size e))) (Nat.ne_of_lt (Heap.lt_size e))) (kk _ _ e)) (f2 _ (Nat.le_succ _)) (f2 _ (Nat.le_refl _)) (Nat.succ_ne_self _) C⟩
end
end Mine
end
section
open PySem PySem.W PyProof.Rows PySem.Calls
set_option maxRecDepth 100000
set_option maxHeartbeats 1000000
namespace Mine
/-- one step ahead of a walk -/
def stUp (St : Nat → Shared → Prop) : Nat → Shared → Prop
  | 0, _ => False
  | i + 1, s => St i s
def pUp (P : Nat → Value → Prop) : Nat → Value → Prop
  | 0, _ => False
  | i + 1, v => P i v
def valUp (k : Int) (val : Nat → Int) : Nat → Int
  | 0 => k
  | i + 1 => val i
theorem preUp (k : Int) (val : Nat → Int) : ∀ n, preSum (valUp k val) (n + 1) = k + preSum val n
  | 0 => by show (0 : Int) + k = k + 0; omega
  | n + 1 => by
    show preSum (valUp k val) (n + 1) + val n = k + (preSum val n + val n)
    rw [preUp k val n]; omega
theorem walksUp {prog : Program} {w : World} {A : Around} {I : Addr} {fp wr : List Addr} {G : Array GenState → Array GenState → Prop} {n : Nat} {P : Nat → Value → Prop} {St : Nat → Shared → Prop} (W : WalksS prog w A I fp wr G n P St) :
    WalksS prog w A I fp wr G (n + 1) (pUp P) (stUp St) where
  sub := W.sub
  grefl := W.grefl
  gtrans := W.gtrans
  frame := fun i s h' tk st hk hf => by
    cases i with
    | zero => exact st.elim
    | succ i => exact W.frame i s h' tk st hk hf
  item := fun i s Q E hi st hQ => by
    cases i with
    | zero => exact st.elim
    | succ i => exact W.item i s Q E (Nat.lt_of_succ_lt_succ hi) st hQ
  done := fun s Q E st hQ => W.done s Q E st hQ
  self := fun i s Q E st hQ => by
    cases i with
    | zero => exact st.elim
    | succ i => exact W.self i s Q E st hQ
section
variable {prog : Program} {w : World} {A : Around} {E : Value → Shared → Prop} {s : Shared}
theorem args_sum2 (a b : Value) : argsOk "sum" ⟨[a, b], []⟩ := by unfold argsOk; kernel_rfl
theorem sum_start {x : Value} {k : Int} {tk : Tok} {Q : Value → Shared → Prop}
    (h : wpAny (model prog w) A.in1 (pyIter x) (fun it s₂ => ∃ I fp wr G n P St val, it = .ref I ∧ WalksS prog w A.in1 I fp wr G n P St ∧ St 0 s₂ ∧ (∀ b ∈ fp, b < s₂.heap.objs.size) ∧
      (∀ i v, P i v → ∃ t, v = .int (val i) t) ∧
      ∀ s' t', Moved wr G s₂ s' → Q (.int (k + preSum val n) t') s') E s) :
    wpAny (model prog w) A (call (.builtin "sum") [x, .int k tk]) Q E s := by
  refine call_function_tree PySem.F.kind_sum PySem.F.plain_sum PySem.F.entry_sum (args_sum2 _ _) ?_
  unfold Builtin.«sum»
  simp only [List.length_cons, List.length_nil]
  rw [if_neg (by decide)]
  refine wpAny_bind (wpAny_of_eq (show Builtin.Builtins.bindParams "sum" ["start"] 0 ⟨[.int k tk], []⟩ = pure [some (.int k tk)] by with_unfolding_all rfl) ?_)
  refine wpAny_bind (wpAny_mono h (fun it s₂ h₂ => ?_) fun _ _ e => e)
  obtain ⟨I, fp, wr, G, n, P, St, val, rfl, W, hst, hfp, hval, hQ⟩ := h₂
  dsimp only
  have hSf : s₂.heap.objs.size ∉ fp := fun hm => Nat.lt_irrefl _ (hfp _ hm)
  have hS : ∀ t : Tok, (s₂.heap.push { cls := .type "list", data := .seq [Value.int k t].toArray }).get? s₂.heap.objs.size = some { cls := .type "list", dict := none, data := .seq #[.int (preSum (valUp k val) 1) t] 0, slots := #[] } := fun t => by
    rw [Heap.get?_push_size _ rfl, show preSum (valUp k val) 1 = k from by show (0 : Int) + k = k; omega]
  have hv' : ∀ i v, pUp P i v → ∃ t, v = .int (valUp k val i) t := fun i v hv => by
    cases i with
    | zero => exact hv.elim
    | succ i => exact hval i v hv
  have hR : ∀ (t : Tok) (tk : Nat), s₂.toks ≤ tk → ∀ s' t', Moved (s₂.heap.objs.size :: wr) G { s₂ with heap := s₂.heap.push { cls := .type "list", data := .seq [Value.int k t].toArray }, toks := tk } s' → Q (.int (preSum (valUp k val) (n + 1)) t') s' := fun t tk htk s' t' hm => by
    rw [preUp]
    exact hQ s' t' (hm.drop_new (by first | exact htk | exact Nat.le_refl _ | exact Nat.le_succ _ | omega))
  split
  · refine wpAny_bind (wpAny_rule (wpAny_bind (wpAny_mkInt (wpAny_bind (wpAny_pure ?_)))))
    simp only [List.forIn_cons, List.forIn_nil]
    refine wpAny_bind (wpAny_bind (wpAny_bind (wpAny_isInstance (T := "int") (b := false) (typeIs_int _ _ _) PySem.sub_int_str ?_)))
    simp only [Bool.false_eq_true, if_false]
    refine wpAny_pure (wpAny_bind (wpAny_bind (wpAny_isInstance (T := "int") (b := false) (typeIs_int _ _ _) PySem.sub_int_bytes ?_)))
    simp only [Bool.false_eq_true, if_false]
    refine wpAny_pure (wpAny_bind (wpAny_bind (wpAny_isInstance (T := "int") (b := false) (typeIs_int _ _ _) PySem.sub_int_bytearray ?_)))
    simp only [Bool.false_eq_true, if_false]
    refine wpAny_pure (wpAny_pure ?_)
    refine wpAny_bind (wpAny_newObj_type ?_)
    exact wpAny_pure ⟨plainId_quiet PySem.F.plain_sum_loop _, codeAny_sum_loopAnyS (walksUp W) (valUp k val) hv' s₂.heap.objs.size hSf n 1 _ s₂.toks 0 0 (.inl rfl) rfl (Nat.succ_le_succ (Nat.zero_le _))
      ((walksUp W).frame 1 s₂ _ _ hst (Nat.le_succ _) fun b _ o e => Heap.get?_push_of_some _ e) (hS _) (hR _ _ (Nat.le_succ _))⟩
  · refine wpAny_bind (wpAny_pure ?_)
    simp only [List.forIn_cons, List.forIn_nil]
    refine wpAny_bind (wpAny_bind (wpAny_bind (wpAny_isInstance (T := "int") (b := false) (typeIs_int _ _ _) PySem.sub_int_str ?_)))
    simp only [Bool.false_eq_true, if_false]
    refine wpAny_pure (wpAny_bind (wpAny_bind (wpAny_isInstance (T := "int") (b := false) (typeIs_int _ _ _) PySem.sub_int_bytes ?_)))
    simp only [Bool.false_eq_true, if_false]
    refine wpAny_pure (wpAny_bind (wpAny_bind (wpAny_isInstance (T := "int") (b := false) (typeIs_int _ _ _) PySem.sub_int_bytearray ?_)))
    simp only [Bool.false_eq_true, if_false]
    refine wpAny_pure (wpAny_pure ?_)
    refine wpAny_bind (wpAny_newObj_type ?_)
    exact wpAny_pure ⟨plainId_quiet PySem.F.plain_sum_loop _, codeAny_sum_loopAnyS (walksUp W) (valUp k val) hv' s₂.heap.objs.size hSf n 1 _ tk 0 2 (.inr rfl) rfl (Nat.succ_le_succ (Nat.zero_le _))
      ((walksUp W).frame 1 s₂ _ _ hst (Nat.le_refl _) fun b _ o e => Heap.get?_push_of_some _ e) (hS _) (hR _ _ (Nat.le_refl _))⟩
end
/-- the walk over an _Accumulator of pairs -/
theorem walksAcc {prog : Program} {w : World} {A : Around} (hh : A.handled = none) (I P D : Addr) (n : Nat) (hne : P ≠ I) (vs : List Value) (Ts : Nat → Addr) (vals : Nat → Array Value)
    (hit : ∀ j, j < vs.length → vs[j]? = some (.ref (Ts j))) (hTI : ∀ j, j < vs.length → Ts j ≠ I) :
    WalksU prog w A I (I :: P :: (List.range vs.length).map Ts) [I] vs.length (fun j v => j < vs.length ∧ v = vals j)
      (fun j h => h.IsListIter I P j ∧ h.get? P = some (accO D vs n) ∧ ∀ k, k < vs.length → h.IsTuple (Ts k) (vals k))
      (fun j T h => (j < vs.length ∧ T = Ts j) ∧ h.IsListIter I P (j + 1) ∧ h.get? P = some (accO D vs n) ∧ ∀ k, k < vs.length → h.IsTuple (Ts k) (vals k)) where
  sub := fun b hb => by simp at hb; simp [hb]
  frame := fun _ _ _ st hk => ⟨st.1.at fun o e => hk I (by simp) o e, hk P (by simp) _ st.2.1,
    fun k hk' => (st.2.2 k hk').at fun o e => hk (Ts k) (List.mem_cons_of_mem _ (List.mem_cons_of_mem _ (List.mem_map.mpr ⟨k, List.mem_range.mpr hk', rfl⟩))) o e⟩
  item := fun i s Q E hi st hQ => by
    refine acc_next st.1 st.2.1 (x := .ref (Ts i)) (hit i hi) fun h' hit' hs' => ?_
    have tup : ∀ k, k < vs.length → h'.IsTuple (Ts k) (vals k) := fun k hk' => (st.2.2 k hk').extBut hs'.extBut (hTI k hk')
    exact hQ (Ts i) (vals i) h' s.toks ⟨hi, rfl⟩ (tup i hi) ⟨⟨hi, rfl⟩, hit', hs'.extBut _ _ hne st.2.1, tup⟩ fun b o hb e => hs'.extBut b o (fun h => hb (by simp [h])) e
  go := fun _ _ _ _ _ s Q _ hm hQ => wpAny_letOwnedTupleGo_listiter hm.2.1 (hQ s.heap hm.2 fun _ _ _ e => e)
  apart := fun j T _ hm hmem => by
    rcases List.mem_cons.mp hmem with e | e
    · exact hTI j hm.1.1 (hm.1.2 ▸ e)
    · cases e
  done := fun s Q E st hQ => acc_stop hh st.1 st.2.1 (by simp) fun h' he' => hQ h' s.toks fun b o hb e => he' b o (fun h => hb (by simp [h])) e
  self := fun _ _ _ _ st hQ => wpAny_pyIter_listiter st.1 hQ
end Mine
end
section
open PySem PySem.W PyProof.Rows PySem.Calls
set_option maxRecDepth 100000
set_option maxHeartbeats 1000000
namespace Mine
def tOf (vs : List Value) (j : Nat) : Addr := match vs[j]? with | some (.ref a) => a | _ => 0
def vOf (h : Heap) (vs : List Value) (j : Nat) : Array Value := match h.get? (tOf vs j) with | some ⟨_, _, .seq xs _, _⟩ => xs | _ => #[]
theorem pairs_of {h : Heap} {vs : List Value} {ps : List (Str × Str)} (x : PairsAt h vs ps) {j : Nat} (hj : j < vs.length) :
    vs[j]? = some (.ref (tOf vs j)) ∧ ∃ p t1 t2, ps[j]? = some p ∧ vOf h vs j = #[.str p.1 t1, .str p.2 t2] ∧ h.get? (tOf vs j) = some (tupO p t1 t2) := by
  obtain ⟨v, hv⟩ : ∃ v, vs[j]? = some v := ⟨vs[j], List.getElem?_eq_getElem hj⟩
  obtain ⟨a, p, t1, t2, rfl, hp, ha⟩ := x.get hv
  have e : tOf vs j = a := by unfold tOf; rw [hv]
  refine ⟨by rw [e, hv], p, t1, t2, hp, ?_, by rw [e]; exact ha⟩
  unfold vOf
  rw [e, ha]
theorem passing_all (n : Nat) : passing (fun _ => true) n 0 = List.range n := by unfold passing; simp
/-- a code's table, as it stands -/
def Tab (h : Heap) (T : Addr) : Prop := ∃ ps, h.get? T = some (tabObj ps) ∧ TriplesOk ps.toList
def isS : Value → Bool
  | .str _ _ => true
  | _ => false
def isI : Value → Bool
  | .int _ _ => true
  | _ => false
def isB : Value → Bool
  | .bool _ => true
  | _ => false
theorem isS_of {v : Value} (h : isS v = true) : ∃ x t, v = .str x t := by
  cases v <;> first | exact ⟨_, _, rfl⟩ | cases h
theorem isI_of {v : Value} (h : isI v = true) : ∃ x t, v = .int x t := by
  cases v <;> first | exact ⟨_, _, rfl⟩ | cases h
theorem isB_of {v : Value} (h : isB v = true) : ∃ x, v = .bool x := by
  cases v <;> first | exact ⟨_, rfl⟩ | cases h
def fldHd (T : Addr) (vs : Array Value) : Bool := vs[11]? == some (.ref T) && (isS (vs.getD 18 .none) && (isI (vs.getD 7 .none) && (isB (vs.getD 9 .none) && isI (vs.getD 10 .none))))
def datHd (T : Addr) : Data → Bool
  | .fields vs => fldHd T vs
  | _ => false
theorem datHd_of {T : Addr} {d : Data} (h : datHd T d = true) : ∃ vs, d = .fields vs ∧ fldHd T vs = true := by
  cases d <;> first | exact ⟨_, rfl, h⟩ | cases h
def isHd (T : Addr) : Option Obj → Bool
  | some o => o.cls == .type "code" && datHd T o.data
  | none => false
theorem codeHd {K : Frag} {h : Heap} {c T : Addr} (X : K.In h) (e : isHd T (K.lookup c) = true) (hne : c ≠ T) : CodeHd h c T := by
  cases ho : K.lookup c with
  | none => rw [ho] at e; cases e
  | some o =>
    rw [ho] at e
    have e := Bool.and_eq_true_iff.mp e
    obtain ⟨vs, hd, e1⟩ := datHd_of e.2
    have e1 := Bool.and_eq_true_iff.mp e1
    have e2 := Bool.and_eq_true_iff.mp e1.2
    have e3 := Bool.and_eq_true_iff.mp e2.2
    have e4 := Bool.and_eq_true_iff.mp e3.2
    obtain ⟨x1, t1, q3⟩ := isS_of e2.1
    obtain ⟨x2, t2, q4⟩ := isI_of e3.1
    obtain ⟨x3, q5⟩ := isB_of e4.1
    obtain ⟨x4, t4, q6⟩ := isI_of e4.2
    have e5 := beq_iff_eq.mp e1.1
    have e6 : vs.getD 11 .none = .ref T := by rw [Array.getD_eq_getD_getElem?, e5]; rfl
    exact ⟨o, vs, x1, t1, x2, t2, x3, x4, t4, X _ _ ho, beq_iff_eq.mp e.1, hd, e5, e6, q3, q4, q5, q6, hne⟩
theorem walksMono {prog : Program} {w : World} {A : Around} {I : Addr} {fp wr : List Addr} {G : Array GenState → Array GenState → Prop} {n : Nat} {P P' : Nat → Value → Prop} {St : Nat → Shared → Prop} (W : WalksS prog w A I fp wr G n P St) (h : ∀ j v, P j v → P' j v) : WalksS prog w A I fp wr G n P' St where
  sub := W.sub
  grefl := W.grefl
  gtrans := W.gtrans
  frame := W.frame
  item := fun i s Q E hi st hQ => W.item i s Q E hi st fun v s' hv => hQ v s' (h i v hv)
  done := W.done
  self := W.self
theorem genCode {M : Model} {A : Around} {E : Value → Shared → Prop} {s : Shared} {env : Env} {c T : Addr} {pos : Pos} {qualname : Str} {scope : Scope} {Q : Value → Shared → Prop} (hc : env.code = .ref c) (C : CodeHd s.heap c T) (t : Tab s.heap T)
    (hQ : ∀ code h' tk, Heap.ExtBut T s.heap h' → Tab h' T → s.heap.objs.size ≤ h'.objs.size → Q code { s with heap := h', toks := tk }) : wpAny M A (genexprCode env pos qualname scope) Q E s := by
  obtain ⟨ps, hT, tr⟩ := t
  cases hnf : codeAmong pos ps.toList with
  | some c' => exact wpAny_genexprCode_hit hc (C.code hT tr) hnf (hQ c' s.heap s.toks (Heap.ExtBut.refl _ _) ⟨ps, hT, tr⟩ (Nat.le_refl _))
  | none =>
    refine wpAny_genexprCodeX hc (C.code hT tr) (C.tab hT) hnf fun c' h' tk hx hge hlt hok' _ htab' _ => ?_
    refine hQ _ h' tk hx ⟨_, htab'.2, ?_⟩ (Nat.le_trans hge (Nat.le_of_lt hlt))
    rw [Array.toList_append]
    exact TriplesOk_snoc _ _ _ _ tr
section
variable {prog : Program} {w : World} {A : Around} {E : Value → Shared → Prop} {s : Shared} {P D : Addr} {vs : List Value} {n : Nat} {prs : List (Str × Str)}
theorem gen_acc {env : Env} {elt iter : Expr} {xa xb : Str} {pa pb pt : Pos} {kt : Nat} {scope : Scope} {pos : Pos} {c T : Addr} {Q : Value → Shared → Prop} {mg : Str → Option Value} {bm : Addr} {ob : Obj} {F : Nat → Value → Prop}
    (hcode : env.code = .ref c) (hok : CodeHd s.heap c T) (hT : Tab s.heap T) (B : BMod s.heap env.globals mg bm ob)
    (hh : A.handled = none) (hco : scope.isCoroutine = false) (hclos : closureFor scope env = pure []) (hcell : ∀ y ∈ scope.names, y.2 ≠ .cell) (h0 : scope.names.lookup (".0" : Str) = some NameKind.local)
    (hxa : scope.names.lookup xa = some .local) (hxb : scope.names.lookup xb = some .local) (hab : xa ≠ xb) (hkind : scope.kind = .function) (hroom : A.depth < recursionLimit)
    (he : ∀ (Q' : Value → Shared → Prop), Q' (.ref P) s → wpAny (model prog w) A (eval iter env) Q' E s)
    (X : (hd.heap_39 w.params).In s.heap) (hP : s.heap.get? P = some (accO D vs n)) (hp : PairsAt s.heap vs prs) (hlim : s.heap.NoLimit) (hb : AllBare s.gens)
    (quiet : ∀ (A' : Around) (E' : Value → Shared → Prop) i p t1 t2 code L (s₂ : Shared) m₂, A'.handled = none → A'.depth ≤ A.depth + 1 → A'.units ≤ A.units + 8 → prs[i]? = some p → Fr (hideAll s.heap [T]) L s₂.heap m₂ → m₂ xa = some (.str p.1 t1) → m₂ xb = some (.str p.2 t2) →
      wpAny (model prog w) A' (eval elt (genEnv scope [] L code builtinsNs env)) (fun y s₃ => F i y ∧ Keeps s₂ s₃) E' s₂)
    (hQ : ∀ a s₅, Gen prog w A (s.heap.objs.size - 1) a vs.length F s₅ → Tab s₅.heap T → AllBare s₅.gens → s₅.drawn = s.drawn → s₅.os = s.os → (∀ b o, b ≠ T → s.heap.get? b = some o → s₅.heap.get? b = some o) → Q (.ref a) s₅)
    (hs : ∀ x, genFold iter env x = pure x) :
    wpAny (model prog w) A (eval (.GeneratorExp elt [⟨.Tuple [.Name xa pa, .Name xb pb] kt pt, iter, [], 0⟩] scope pos) env) Q E s := by
  refine wpAny_GeneratorExp_walksQTD hh hco hclos hcell h0 hxa hxb hab hkind hroom (he _ (acc_iter X hP ?_)) hs
  have pu : ∀ b o, s.heap.get? b = some o → (s.heap.push { cls := .type "list_iterator", data := .fields #[.ref P, .int 0 0] }).get? b = some o := fun b o e => Heap.get?_push_of_some _ e
  have hTn : s.heap.get? s.heap.objs.size = none := by
    cases e : s.heap.get? s.heap.objs.size with
    | none => rfl
    | some o => exact absurd (Heap.lt_size e) (Nat.lt_irrefl _)
  have hTlt : T < s.heap.objs.size := let ⟨_, e, _⟩ := hT; Heap.lt_size e
  have hPlt : P < s.heap.objs.size := Heap.lt_size hP
  have neT : ∀ {b : Addr} {o : Obj}, s.heap.get? b = some o → o.cls ≠ .none → b ≠ T := fun e hc q => by
    obtain ⟨ps, e2, _⟩ := hT
    rw [q, e2] at e; cases e; exact hc rfl
  refine ⟨hlim.push _, genCode hcode (hok.keeps pu) (let ⟨ps, e, r⟩ := hT; ⟨ps, pu _ _ e, r⟩) fun code h₃ tk hx hT' hsz => ?_⟩
  have hsz' : s.heap.objs.size + 1 ≤ h₃.objs.size := by
    have : (s.heap.push { cls := .type "list_iterator", data := .fields #[.ref P, .int 0 0] }).objs.size ≤ h₃.objs.size := hsz
    rwa [Heap.size_push] at this
  have k3 : ∀ b o, b ≠ T → s.heap.get? b = some o → h₃.get? b = some o := fun b o hbT e => hx b o hbT (pu b o e)
  have hcT : cStatics ≠ T := fun e => by
    obtain ⟨_, hns, _⟩ := hlim
    obtain ⟨o, es, ep, ho, hd, _⟩ := hns
    obtain ⟨ps, e2, _⟩ := hT
    rw [e, e2] at ho; cases ho; cases hd
  have hl₃ : h₃.NoLimit := (hlim.push _).extBut hx hcT
  have B₃ : BMod h₃ env.globals mg bm ob := by
    obtain ⟨⟨o, es, ep, ho, hd, r⟩, b2, b3, b4, b5, b6, b7⟩ := B
    refine ⟨⟨o, es, ep, k3 _ _ (fun q => ?_) ho, hd, r⟩, b2, b3, k3 _ _ (neT b4 (by rw [b5]; nofun)) b4, b5, b6, b7⟩
    obtain ⟨ps, e2, _⟩ := hT
    rw [q, e2] at ho; cases ho; cases hd
  refine wpAny_builtinsFor B₃.ns B₃.name B₃.ne B₃.obj B₃.cls B₃.dict B₃.data ?_
  have hI : h₃.get? s.heap.objs.size = some { cls := .type "list_iterator", data := .fields #[.ref P, .int 0 0] } := hx _ _ (Nat.ne_of_gt hTlt) (Heap.get?_push_size _ rfl)
  have hItup : ∀ j, j < vs.length → tOf vs j < s.heap.objs.size := fun j hj => by
    obtain ⟨_, p, t1, t2, _, _, e⟩ := pairs_of hp hj; exact Heap.lt_size e
  refine ⟨s.heap.objs.size, _, [s.heap.objs.size], vs.length, _, _, _, fun _ => true, F, rfl, fun A' hA' => walksAcc hA' s.heap.objs.size P D n (Nat.ne_of_lt hPlt) vs (tOf vs) (vOf s.heap vs) (fun j hj => (pairs_of hp hj).1) (fun j hj => Nat.ne_of_lt (hItup j hj)), ?_, ⟨⟨_, hI, rfl, rfl⟩, k3 _ _ (neT hP nofun) hP, fun j hj => ?_⟩, ?_, hl₃, ?_, ?_, ?_⟩
  · rintro i vals ⟨hi, rfl⟩
    obtain ⟨_, p, t1, t2, _, e, _⟩ := pairs_of hp hi
    exact ⟨_, _, e⟩
  · obtain ⟨_, p, t1, t2, _, e, e2⟩ := pairs_of hp hj
    rw [e]
    exact ⟨_, k3 _ _ (neT e2 nofun) e2, rfl, _, rfl⟩
  · intro b hb
    rcases List.mem_cons.mp hb with rfl | hb
    · exact hsz'
    · rcases List.mem_cons.mp hb with rfl | hb
      · exact Nat.lt_of_lt_of_le (Nat.lt_succ_of_lt hPlt) hsz'
      · obtain ⟨j, hj, rfl⟩ := List.mem_map.mp hb
        exact Nat.lt_of_lt_of_le (Nat.lt_succ_of_lt (hItup j (List.mem_range.mp hj))) hsz'
  · intro hm
    rcases List.mem_cons.mp hm with e | hb
    · have hc : cStatics < s.heap.objs.size := let ⟨_, hn, _⟩ := hlim; hn.lt
      exact absurd (e ▸ hc) (Nat.lt_irrefl _)
    · cases hb
  · intro href hhref
    refine ⟨fun A' E' i va vb s₂ m₂ _ _ _ _ _ _ _ _ => wpAny_pure ⟨rfl, _, _, rfl, fun _ _ e => e⟩, fun A' E' i va vb s₂ m₂ hA1 hA2 hA3 hPt _ hns ha hb' hk => ?_⟩
    obtain ⟨hi, hv⟩ := hPt
    obtain ⟨_, p, t1, t2, hpi, e, _⟩ := pairs_of hp hi
    rw [e] at hv
    have hv2 := congrArg Array.toList hv
    simp only [List.cons.injEq, and_true] at hv2
    obtain ⟨rfl, rfl⟩ := hv2
    refine quiet A' E' i p t1 t2 code h₃.objs.size s₂ m₂ hA1 hA2 hA3 hpi ⟨hns, fun b o e => ?_, ?_⟩ ha hb'
    · have e1 := of_hideAll _ e
      have hbT : b ≠ T := fun q => by rw [q, hideAll_none _ (.head _)] at e; cases e
      exact hk b (List.mem_range.mpr (Nat.lt_of_lt_of_le (Nat.lt_succ_of_lt (Heap.lt_size e1)) hsz')) (by simp; exact Nat.ne_of_lt (Heap.lt_size e1)) o (hhref _ _ (k3 _ _ hbT e1))
    · rw [hideAll_size]; exact Nat.le_of_succ_le hsz'
  · intro a h₅ tk5 gs hgb hag hsz₅ hk₅ W hat
    have hl : (passing (fun _ => true) vs.length 0).length = vs.length := by rw [passing_all]; simp
    rw [hl] at W
    have W2 := walksMono (P' := F) W fun j y hy => by
      obtain ⟨i, hi, hf⟩ := hy
      rw [passing_all] at hi
      obtain ⟨h1, h2⟩ := List.getElem?_eq_some_iff.mp hi
      rw [List.getElem_range] at h2
      rw [h2]; exact hf
    refine hQ a _ ⟨_, _, _, _, W2, hat, (fun i s' st => st.1.typeIs), List.mem_cons_self, ?_, ?_⟩ (let ⟨ps, e, r⟩ := hT'; ⟨ps, hk₅ _ _ e, r⟩) (hb.push hgb) rfl rfl (fun b o hbT e => hk₅ _ _ (k3 _ _ hbT e))
    · intro b hb
      show b < h₅.objs.size
      rw [hsz₅]
      rcases List.mem_cons.mp hb with rfl | hb
      · exact Nat.lt_succ_self _
      · rcases List.mem_cons.mp hb with rfl | hb
        · exact Nat.lt_succ_of_lt hag
        · exact Nat.lt_succ_of_lt (Nat.lt_trans (List.mem_range.mp hb) hag)
    · intro b hb
      rcases List.mem_cons.mp hb with rfl | hb
      · show s.heap.objs.size - 1 < h₃.objs.size
        omega
      · rcases List.mem_cons.mp hb with rfl | hb
        · exact Nat.sub_lt (Nat.lt_of_le_of_lt (Nat.zero_le _) hPlt) Nat.one_pos
        · cases hb
end
end Mine
end
section
open PySem PySem.W PyProof.Rows PySem.Calls
set_option maxRecDepth 100000
set_option maxHeartbeats 1000000
namespace Mine
theorem fillElt : PySem.Challenge.rw_mr0062_01 = PySem.Challenge.rw_mr0062_01 ∧ hd.heap_39 = hd.heap_39 := by
  k_fill
  w_top off
  exact ⟨rfl, rfl⟩
local macro_rules | `(tactic| k_inst) => `(tactic| (refine' instAcc ?N ?h1 ?h2; (case N => k_asm); (case h1 => k_mem); (case h2 => k_mem)))
local macro_rules | `(tactic| k_steps) => `(tactic| repeat' (first
  | (k_unfold; (try dsimp only))
  | ((fail_if_success (with_reducible show wpAny _ _ (exec (Stmt.While _ _ _ _) _) _ _ _));
     (fail_if_success (with_reducible show wpAny _ _ (exec (Stmt.For _ _ _ _ _) _) _ _ _));
     (fail_if_success (with_reducible show wpAny _ _ (eval (Expr.ListComp _ _ _ _) _) _ _ _));
     (fail_if_success (with_reducible show wpAny _ _ (eval (Expr.GeneratorExp _ _ _ _) _) _ _ _));
     (fail_if_success (with_reducible show wpAny _ _ (eval (Expr.Name _ _) _) _ _ _));
     (fail_if_success (with_reducible show wpAny _ _ (newTuple _) _ _ _));
     (fail_if_success (with_reducible show wpAny _ _ (getMethod (Value.ref _) _ _) _ _ _));
     (fail_if_success (with_reducible show wpAny _ _ (call (Value.ref _) _ _) _ _ _));
     (first | walk1 | (dsimp only; walk1) | (leave1; try dsimp only)))
  | fail "no step"))
section
variable {prog : Program} {w : World} {A : Around} {E : Value → Shared → Prop} {s : Shared} {h₀ : Heap} {L : Addr} {m mg mb : Str → Option Value} {p : Program} {loose : List Str} {mean : ExcName → Option Value} {K : Frag} {env : Env}
theorem nmB {M : Model} {x : Str} {pos : Pos} {v : Value} {Q : Value → Shared → Prop} (F : Fr h₀ L s.heap m) (X : K.In h₀) (T : Top p loose mean mg mb h₀) (e : nsIn K mainGlobals x = some none) (hv : bootBuiltins x = some v) (hn : x ≠ "__name__") (h : Q v s)
    (hg : env.globals = mainGlobals) (hb : env.builtins = builtinsNs) (hk : env.scope.kind = .function) (hx : env.kindOf x = some .globalImplicit) (hd : (x == ("__debug__" : Str)) = false) : wpAny M A (eval (.Name x pos) env) Q E s :=
  Name_function_global hk hx (loadGlobal_builtin (env := env) (by rw [hg]; exact T.g.keeps F.keep) (mg_none_of X T.g e) (by rw [hb]; exact T.b.keeps F.keep) ((T.builtins x hn).trans hv) h) hd
theorem nmK {M : Model} {x : Str} {pos : Pos} {v : Value} {Q : Value → Shared → Prop} (F : Fr h₀ L s.heap m) (X : K.In h₀) (T : Top p loose mean mg mb h₀) (e : nsIn K mainGlobals x = some (some v)) (h : Q v s)
    (hg : env.globals = mainGlobals) (hk : env.scope.kind = .function) (hx : env.kindOf x = some .globalImplicit) (hd : (x == ("__debug__" : Str)) = false) : wpAny M A (eval (.Name x pos) env) Q E s :=
  Name_function_global hk hx (loadGlobal_global (env := env) (by rw [hg]; exact T.g.keeps F.keep) (mg_of X T.g e) h) hd
theorem nmL {M : Model} {x : Str} {pos : Pos} {v : Value} {Q : Value → Shared → Prop} (F : Fr h₀ L s.heap m) (hv : m x = some v) (h : Q v s) (hl : env.locals = L) (hk : env.scope.kind = .function) (hx : env.kindOf x = some .local) (hd : (x == ("__debug__" : Str)) = false) :
    wpAny M A (eval (.Name x pos) env) Q E s := by
  subst hl
  exact wpAny_Name (wpAny_loadName_local hk hx F.ns hv h) hd
variable (X : (hd.heap_39 w.params).In h₀) (T : Top p loose mean mg mb h₀) (F : Fr h₀ L s.heap m) (hg : env.globals = mainGlobals) (hb : env.builtins = builtinsNs) (hl : env.locals = L) (hk : env.scope.kind = .function)
  {x y : Str} {t1 t2 : Tok} (h1 : m (Str.ofString "fws") = some (.str x t1)) (h2 : m (Str.ofString "part") = some (.str y t2)) (k1 : env.kindOf (Str.ofString "fws") = some .local) (k2 : env.kindOf (Str.ofString "part") = some .local)
include X T F hg hb hl hk h1 h2 k1 k2
theorem lenElt {p1 p2 p3 p4 p5 p6 p7 : Pos} (hx : x.length ≤ 1000) (hy : y.length ≤ 1000) (k3 : env.kindOf (Str.ofString "len") = some .globalImplicit) :
    wpAny (model prog w) (AA 6) (eval (.BinOp (.Call (.Name (Str.ofString "len") p1) [.Name (Str.ofString "fws") p2] [] p3) .Add (.Call (.Name (Str.ofString "len") p4) [.Name (Str.ofString "part") p5] [] p6) p7) env) (fun v s' => (∃ t, v = .int ((x.length + y.length : Nat) : Int) t) ∧ Keeps s s') E s := by
  k_steps
  refine nmB F X T (by k_is) (by boot_by_name) (by decide) ?_ hg hb hk k3 (by decide)
  k_steps
  refine nmL F h1 ?_ hl hk k1 (by decide)
  k_steps
  refine nmB F X T (by k_is) (by boot_by_name) (by decide) ?_ hg hb hk k3 (by decide)
  k_steps
  refine nmL F h2 ?_ hl hk k2 (by decide)
  k_steps
  exact ⟨_, _, rfl, fun _ _ e => e⟩
omit hg hb hl hk k1 k2 in
theorem strElt {qq : Str} {code : Value} (hx : x.length ≤ 1000) (hy : y.length ≤ 1000) :
    wpAny (model prog w) (AA 6) (eval (.Call (.Attribute (.Name (Str.ofString "EMPTYSTRING") ⟨29, 33, 29, 44⟩) (Str.ofString "join") ⟨29, 33, 29, 49⟩) [.Tuple [.Name (Str.ofString "fws") ⟨29, 51, 29, 54⟩, .Name (Str.ofString "part") ⟨29, 56, 29, 60⟩] 0 ⟨29, 50, 29, 61⟩] [] ⟨29, 33, 29, 62⟩) { scope := { kind := .function, names := [(Str.ofString ".0", NameKind.local), (Str.ofString "fws", NameKind.local), (Str.ofString "part", NameKind.local), (Str.ofString "EMPTYSTRING", NameKind.globalImplicit)], isGenerator := true, isCoroutine := false }, locals := L, globals := mainGlobals, cells := [], qual := qq, func := none, code := code, frame := some L, builtins := builtinsNs }) (fun v s' => (∃ t, v = .str (x ++ y) t) ∧ Keeps s s') E s := by
  k_steps
  refine nmK (x := Str.ofString "EMPTYSTRING") F X T (by k_is) ?_ rfl rfl rfl (by decide)
  k_steps
  refine nmL F h1 ?_ rfl rfl rfl (by decide)
  k_steps
  refine nmL F h2 ?_ rfl rfl rfl (by decide)
  k_steps
  have N : News h₀ L s.heap [] := fun _ h => nomatch h
  have F2 := F.push { cls := .type "tuple", data := .seq #[.str x t1, .str y t2] }
  have N2 := N.push F { cls := .type "tuple", data := .seq #[.str x t1, .str y t2] }
  have kk : ∀ b o, s.heap.get? b = some o → (s.heap.push { cls := .type "tuple", data := .seq #[.str x t1, .str y t2] }).get? b = some o := fun b o e => Heap.get?_push_of_some _ e
  unfold newTuple
  refine wpAny_newObj_type ?_ (by size_fits)
  show wpAny _ _ _ _ _ { s with heap := s.heap.push { cls := .type "tuple", data := .seq #[.str x t1, .str y t2] } }
  generalize s.heap.push { cls := .type "tuple", data := .seq #[.str x t1, .str y t2] } = hh at F2 N2 kk ⊢
  k_steps
  exact ⟨_, _, rfl, kk⟩
end
end Mine
end
section
open PySem PySem.W PyProof.Rows PySem.Calls
set_option maxRecDepth 100000
set_option maxHeartbeats 1000000
namespace Mine
theorem fillLen : PySem.Challenge.rw_mr0062_01 = PySem.Challenge.rw_mr0062_01 ∧ hd.heap_39 = hd.heap_39 := by
  k_fill
  w_top off
  exact ⟨rfl, rfl⟩
local macro_rules | `(tactic| k_inst) => `(tactic| (refine' instAcc ?N ?h1 ?h2; (case N => k_asm); (case h1 => k_mem); (case h2 => k_mem)))
local macro_rules | `(tactic| k_steps) => `(tactic| repeat' (first
  | (k_unfold; (try dsimp only))
  | ((fail_if_success (with_reducible show wpAny _ _ (exec (Stmt.While _ _ _ _) _) _ _ _));
     (fail_if_success (with_reducible show wpAny _ _ (exec (Stmt.For _ _ _ _ _) _) _ _ _));
     (fail_if_success (with_reducible show wpAny _ _ (eval (Expr.ListComp _ _ _ _) _) _ _ _));
     (fail_if_success (with_reducible show wpAny _ _ (eval (Expr.GeneratorExp _ _ _ _) _) _ _ _));
     (fail_if_success (with_reducible show wpAny _ _ (getMethod (Value.ref _) _ _) _ _ _));
     (fail_if_success (with_reducible show wpAny _ _ (call (Value.ref _) _ _) _ _ _));
     (first | walk1 | (dsimp only; walk1) | (leave1; try dsimp only)))
  | fail "no step"))
theorem frBut {g h h' : Heap} {L T : Addr} {m : Str → Option Value} {o : Obj} {news : List (Addr × Obj)} (F : Fr g L h m) (N : News g L h news) (hm : (T, o) ∈ news) (k : ∀ b o, b ≠ T → h.get? b = some o → h'.get? b = some o) : Fr g L h' m := by
  obtain ⟨oL, es, ep, hL, r⟩ := F.ns
  refine ⟨⟨oL, es, ep, k _ _ (Ne.symm (N _ hm).2.1) hL, r⟩, fun b o e => k _ _ (fun q => ?_) (F.keep b o e), F.above⟩
  rw [q, (N _ hm).2.2] at e; cases e
theorem newsBut {g h h' : Heap} {L T : Addr} {o o' : Obj} {news rest : List (Addr × Obj)} (N : News g L h news) (hm : (T, o) ∈ news) (k : ∀ b o, b ≠ T → h.get? b = some o → h'.get? b = some o) (hT : h'.get? T = some o') (hr : ∀ q ∈ rest, q ∈ news ∧ q.1 ≠ T) : News g L h' ((T, o') :: rest) := by
  intro q hq
  rcases List.mem_cons.mp hq with rfl | hq
  · exact ⟨hT, (N _ hm).2⟩
  · exact ⟨k _ _ (hr q hq).2 (N _ (hr q hq).1).1, (N _ (hr q hq).1).2⟩
/-- what a call that makes a generator may leave -/
structure After (T : Addr) (s s' : Shared) : Prop where
  up : Up [T] s.heap s'.heap
  tab : Tab s'.heap T
  bare : AllBare s'.gens
  drawn : s'.drawn = s.drawn
  os : s'.os = s.os
theorem len_part {prs : List (Str × Str)} {i : Nat} {p : Str × Str} (h : prs[i]? = some p) : p.1.length + p.2.length ≤ (textOf prs).length := by
  obtain ⟨hi, rfl⟩ := List.getElem?_eq_some_iff.mp h
  have e : prs = prs.take i ++ prs[i] :: prs.drop (i + 1) := by simp
  have := textOf_len prs
  rw [e] at this
  rw [List.map_append, List.sum_append, List.map_cons, List.sum_cons] at this
  rw [← e] at this
  omega
theorem pre_len (prs : List (Str × Str)) : preSum (fun i => (((prs.getD i default).1.length + (prs.getD i default).2.length : Nat) : Int)) prs.length = ((textOf prs).length : Int) := by
  suffices h : ∀ n, n ≤ prs.length → preSum (fun i => (((prs.getD i default).1.length + (prs.getD i default).2.length : Nat) : Int)) n = ((textOf (prs.take n)).length : Int) by
    rw [h _ (Nat.le_refl _), List.take_length]
  intro n
  induction n with
  | zero => intro _; rw [List.take_zero, textOf_nil, str_nil]; rfl
  | succ n ih =>
    intro hn
    have hlt : n < prs.length := hn
    have e : prs.take (n + 1) = prs.take n ++ [prs[n]] := by simp
    have e2 : prs.getD n default = prs[n] := by rw [List.getD_eq_getElem?_getD, List.getElem?_eq_getElem hlt]; rfl
    rw [e, textOf_len_append, textOf_len [prs[n]]]
    show preSum _ n + _ = _
    rw [ih (Nat.le_of_succ_le hn)]
    simp only [e2]
    simp
section
variable {prog : Program} {w : World} {s : Shared} {hS : Heap} {p : Program} {loose : List Str} {mean : ExcName → Option Value} {mg mb : Str → Option Value} {Q : Value → Shared → Prop} {E : Value → Shared → Prop} {P D : Addr} {vs : List Value} {n : Nat} {k : Int} {prs : List (Str × Str)}
  (XS : (hd.heap_39 w.params).In hS) (TS : Top p loose mean mg mb hS) (S : hS.StaysIn s.heap)
  (C0 : AccAt w hS s.heap P D vs n k) (hp : PairsAt s.heap vs prs) (hb : AllBare s.gens)
include XS TS S C0 hp hb
theorem len_s (hT : Tab s.heap 63) (hsT : hS.get? 63 = none) (hlen : prs.length ≤ 100) (hx : (textOf prs).length ≤ 1000) (q : ∀ s' t, After 63 s s' → Q (.int (k + (textOf prs).length) t) s') :
    wpAny (model prog w) (AA 5) (call (.ref 68) [.ref P]) Q E s := by
  obtain ⟨tbl, hT, tr⟩ := hT
  obtain ⟨hP, hsp, hsd, ta, tb, hD⟩ := C0
  have N0 : ∀ q ∈ [(P, accO D vs n), (D, dictOf [sizeE w k ta tb] 1), (63, tabObj tbl)], s.heap.get? q.1 = some q.2 ∧ hS.get? q.1 = none := fun q hq => by
    rcases List.mem_cons.mp hq with rfl | hq
    · exact ⟨hP, hsp⟩
    · rcases List.mem_cons.mp hq with rfl | hq
      · exact ⟨hD, hsd⟩
      · rcases List.mem_cons.mp hq with rfl | hq
        · exact ⟨hT, hsT⟩
        · cases hq
  refine wpAny_call ?_
  k_dflt (refine' enter (news := [(P, accO D vs n), (D, dictOf [sizeE w k ta tb] 1), (63, tabObj tbl)]) (binds := [(Str.ofString "self", Value.ref P)]) XS TS S ?k1 ?k2 ?k3 ?k4 ?k5 ?k6 ?_ ?c1 ?c2 ?c3 ?c4; (case k1 => exact N0); (case k2 => k_is); (case k3 => k_is); (case k4 => decide); (case k5 => first | exact BindsTo.of_eq rfl | exact binds_K (Frag.In.keeps XS S) rfl (by k_is) rfl rfl rfl); (case k6 => exact locs rfl); (case c1 => decide); (case c2 => exact rfl); (case c3 => exact rfl); (case c4 => exact rfl); k_whole)
  intro g L' h₁ F' N' X' T' up' st' kk'
  try dsimp only
  try k_fold
  k_steps
  (rename Fr _ _ _ _ => F); (rename News _ _ _ _ => N)
  obtain ⟨bm, ob, B⟩ := bmod_of_top (T'.keeps F.keep)
  have XH := X'.keeps F.keep
  have stH : ∀ b o, g.get? b = some o → (hideAll h₁ [63]).get? b = some o := fun b o e => hideAll_get _ (F.keep b o e) (fun q => by
    rw [List.mem_singleton.mp q, (N _ (.tail _ (.tail _ (.head _)))).2.2] at e; cases e)
  refine gen_acc (c := 67) (T := 63) (P := P) (D := D) (vs := vs) (n := n) (prs := prs) (F := fun i y => ∃ t, y = .int (((prs.getD i default).1.length + (prs.getD i default).2.length : Nat) : Int) t) rfl (codeHd XH (by kernel_rfl) (by decide)) ⟨_, (N _ (.tail _ (.tail _ (.head _)))).1, tr⟩ B rfl rfl rfl (by decide) rfl rfl rfl (by decide) rfl (Nat.le_of_ble_eq_true rfl) ?he XH (N _ (.head _)).1 (hp.keeps kk') ((T'.keeps F.keep).nolimit) hb ?quiet ?fin (by intro _; rfl)
  case he =>
    intro Q' hq
    k_steps
    exact hq
  case quiet =>
    intro A' E' i p t1 t2 code L s₂ m₂ hA1 hA2 hA3 hpi F2 ha hb2
    have hg : prs.getD i default = p := by rw [List.getD_eq_getElem?_getD, hpi]; rfl
    have hpl := len_part hpi
    refine wide (A := AA 6) hA1 (Nat.le_trans hA2 (Nat.le_of_ble_eq_true rfl)) (Nat.le_trans hA3 (Nat.le_of_ble_eq_true rfl)) rfl rfl ?_
    rw [hg]
    exact lenElt (X'.keeps stH) (T'.keeps stH) F2 rfl rfl rfl rfl ha hb2 rfl rfl (by omega) (by omega) rfl
  case fin =>
    intro a s5 G t5 b5 d5 o5 k5
    obtain ⟨h5, g5, dr5, tk5, os5⟩ := s5
    dsimp only at d5 o5
    subst d5 o5
    obtain ⟨tbl5, hT5, tr5⟩ := t5
    have F5 := frBut F N (.tail _ (.tail _ (.head _))) k5
    have e1 := neNews N (.head _) (.tail _ (.tail _ (.head _))) (by simp)
    have e2 := neNews N (.tail _ (.head _)) (.tail _ (.tail _ (.head _))) (by simp)
    have N5 := newsBut N (.tail _ (.tail _ (.head _))) k5 hT5 (rest := [(P, accO D vs n), (D, dictOf [sizeE w k ta tb] 1)]) (fun q hq => by
      rcases List.mem_cons.mp hq with rfl | hq
      · exact ⟨.head _, e1⟩
      · rcases List.mem_cons.mp hq with rfl | hq
        · exact ⟨.tail _ (.head _), e2⟩
        · cases hq)
    have hlt : ∀ b o, h₁.get? b = some o → b ≤ h₁.objs.size - 1 := fun b o e => Nat.le_sub_one_of_lt (Heap.lt_size e)
    have hT1 := (N _ (.tail _ (.tail _ (.head _)))).1
    clear F N
    dsimp only at F5 N5 hT1 hT5
    k_steps
    refine acc_getattr (X'.keeps F5.keep) (N5 _ (.tail _ (.head _))).1 (N5 _ (.tail _ (.tail _ (.head _)))).1 ?_
    k_steps
    obtain ⟨fp, wr, gi, St, W, hst, _, _, hfp, hwr⟩ := G
    have W := W.in4_1
    have hst2 := W.frame 0 _ h5 (tk5 + 1) hst (Nat.le_succ _) fun b _ o e => e
    refine sum_start (W.self 0 _ _ _ hst2 ⟨a, _, _, _, _, _, _, fun i => (((prs.getD i default).1.length + (prs.getD i default).2.length : Nat) : Int), rfl, W, hst2, hfp, fun _ _ h => h, fun s' t' hm => ?_⟩)
    have hmu : ∀ b o, b ≤ h₁.objs.size - 1 → h5.get? b = some o → s'.heap.get? b = some o := fun b o hb e => hm.heap b o (fun hmem => Nat.lt_irrefl _ (Nat.lt_of_lt_of_le (hwr b hmem) hb)) e
    k_steps
    rw [hp.length, pre_len]
    refine q s' _ ⟨fun b o hb e => ?_, ⟨tbl5, hmu _ _ (hlt _ _ hT1) hT5, tr5⟩, AllBare.movedS (s := { heap := h5, gens := g5, drawn := s.drawn, toks := tk5 + 1, os := s.os }) b5 hm, hm.drawn, hm.os⟩
    exact hmu b o (hlt _ _ (kk' _ _ e)) (k5 b o (fun q => hb (by rw [q]; exact .head _)) (kk' _ _ e))
end
end Mine
end
section
open PySem PySem.W PyProof.Rows PySem.Calls
set_option maxRecDepth 100000
set_option maxHeartbeats 1000000
namespace Mine
theorem fillStr : PySem.Challenge.rw_mr0062_01 = PySem.Challenge.rw_mr0062_01 ∧ hd.heap_39 = hd.heap_39 := by
  k_fill
  w_top off
  exact ⟨rfl, rfl⟩
local macro_rules | `(tactic| k_inst) => `(tactic| (refine' instAcc ?N ?h1 ?h2; (case N => k_asm); (case h1 => k_mem); (case h2 => k_mem)))
local macro_rules | `(tactic| k_steps) => `(tactic| repeat' (first
  | (k_unfold; (try dsimp only))
  | ((fail_if_success (with_reducible show wpAny _ _ (exec (Stmt.While _ _ _ _) _) _ _ _));
     (fail_if_success (with_reducible show wpAny _ _ (exec (Stmt.For _ _ _ _ _) _) _ _ _));
     (fail_if_success (with_reducible show wpAny _ _ (eval (Expr.ListComp _ _ _ _) _) _ _ _));
     (fail_if_success (with_reducible show wpAny _ _ (eval (Expr.GeneratorExp _ _ _ _) _) _ _ _));
     (fail_if_success (with_reducible show wpAny _ _ (getMethod (Value.ref _) _ _) _ _ _));
     (fail_if_success (with_reducible show wpAny _ _ (call (Value.ref _) _ _) _ _ _));
     (first | walk1 | (dsimp only; walk1) | (leave1; try dsimp only)))
  | fail "no step"))
theorem map_len (prs : List (Str × Str)) : ((prs.map fun p => p.1 ++ p.2).map (·.length)).sum = (textOf prs).length := by
  rw [textOf_len, List.map_map]
  congr 1
  apply List.map_congr_left
  intro p _
  show (p.1 ++ p.2).length = _
  rw [len_cl, len_cl p.1, len_cl p.2]
  show ((p.1.cps ++ p.2.cps).toList).length = _
  simp
section
variable {prog : Program} {w : World} {s : Shared} {hS : Heap} {p : Program} {loose : List Str} {mean : ExcName → Option Value} {mg mb : Str → Option Value} {Q : Value → Shared → Prop} {E : Value → Shared → Prop} {P D : Addr} {vs : List Value} {n : Nat} {k : Int} {prs : List (Str × Str)}
  (XS : (hd.heap_39 w.params).In hS) (TS : Top p loose mean mg mb hS) (S : hS.StaysIn s.heap)
  (C0 : AccAt w hS s.heap P D vs n k) (hp : PairsAt s.heap vs prs) (hb : AllBare s.gens)
include XS TS S C0 hp hb
theorem str_s (hT : Tab s.heap 70) (hsT : hS.get? 70 = none) (hlen : prs.length ≤ 100) (hx : (textOf prs).length ≤ 1000) (q : ∀ s' t, After 70 s s' → Q (.str (textOf prs) t) s') :
    wpAny (model prog w) (AA 5) (call (.ref 75) [.ref P]) Q E s := by
  obtain ⟨tbl, hT, tr⟩ := hT
  obtain ⟨hP, hsp, hsd, ta, tb, hD⟩ := C0
  have N0 : ∀ q ∈ [(P, accO D vs n), (D, dictOf [sizeE w k ta tb] 1), (70, tabObj tbl)], s.heap.get? q.1 = some q.2 ∧ hS.get? q.1 = none := fun q hq => by
    rcases List.mem_cons.mp hq with rfl | hq
    · exact ⟨hP, hsp⟩
    · rcases List.mem_cons.mp hq with rfl | hq
      · exact ⟨hD, hsd⟩
      · rcases List.mem_cons.mp hq with rfl | hq
        · exact ⟨hT, hsT⟩
        · cases hq
  refine wpAny_call ?_
  k_dflt (refine' enter (news := [(P, accO D vs n), (D, dictOf [sizeE w k ta tb] 1), (70, tabObj tbl)]) (binds := [(Str.ofString "self", Value.ref P)]) XS TS S ?k1 ?k2 ?k3 ?k4 ?k5 ?k6 ?_ ?c1 ?c2 ?c3 ?c4; (case k1 => exact N0); (case k2 => k_is); (case k3 => k_is); (case k4 => decide); (case k5 => first | exact BindsTo.of_eq rfl | exact binds_K (Frag.In.keeps XS S) rfl (by k_is) rfl rfl rfl); (case k6 => exact locs rfl); (case c1 => decide); (case c2 => exact rfl); (case c3 => exact rfl); (case c4 => exact rfl); k_whole)
  intro g L' h₁ F' N' X' T' up' st' kk'
  try dsimp only
  try k_fold
  k_steps
  (rename Fr _ _ _ _ => F); (rename News _ _ _ _ => N)
  obtain ⟨bm, ob, B⟩ := bmod_of_top (T'.keeps F.keep)
  have XH := X'.keeps F.keep
  have stH : ∀ b o, g.get? b = some o → (hideAll h₁ [70]).get? b = some o := fun b o e => hideAll_get _ (F.keep b o e) (fun q => by
    rw [List.mem_singleton.mp q, (N _ (.tail _ (.tail _ (.head _)))).2.2] at e; cases e)
  refine gen_acc (c := 74) (T := 70) (P := P) (D := D) (vs := vs) (n := n) (prs := prs) (F := fun i y => ∃ t, y = .str ((prs.getD i default).1 ++ (prs.getD i default).2) t) rfl (codeHd XH (by kernel_rfl) (by decide)) ⟨_, (N _ (.tail _ (.tail _ (.head _)))).1, tr⟩ B rfl rfl rfl (by decide) rfl rfl rfl (by decide) rfl (Nat.le_of_ble_eq_true rfl) ?he XH (N _ (.head _)).1 (hp.keeps kk') ((T'.keeps F.keep).nolimit) hb ?quiet ?fin (by intro _; rfl)
  case he =>
    intro Q' hq
    k_steps
    exact hq
  case quiet =>
    intro A' E' i p t1 t2 code L s₂ m₂ hA1 hA2 hA3 hpi F2 ha hb2
    have hg : prs.getD i default = p := by rw [List.getD_eq_getElem?_getD, hpi]; rfl
    have hpl := len_part hpi
    refine wide (A := AA 6) hA1 (Nat.le_trans hA2 (Nat.le_of_ble_eq_true rfl)) (Nat.le_trans hA3 (Nat.le_of_ble_eq_true rfl)) rfl rfl ?_
    rw [hg]
    exact strElt (X'.keeps stH) (T'.keeps stH) F2 ha hb2 (by omega) (by omega)
  case fin =>
    intro a s5 G t5 b5 d5 o5 k5
    obtain ⟨h5, g5, dr5, tk5, os5⟩ := s5
    dsimp only at d5 o5
    subst d5 o5
    obtain ⟨tbl5, hT5, tr5⟩ := t5
    have F5 := frBut F N (.tail _ (.tail _ (.head _))) k5
    have e1 := neNews N (.head _) (.tail _ (.tail _ (.head _))) (by simp)
    have e2 := neNews N (.tail _ (.head _)) (.tail _ (.tail _ (.head _))) (by simp)
    have N5 := newsBut N (.tail _ (.tail _ (.head _))) k5 hT5 (rest := [(P, accO D vs n), (D, dictOf [sizeE w k ta tb] 1)]) (fun q hq => by
      rcases List.mem_cons.mp hq with rfl | hq
      · exact ⟨.head _, e1⟩
      · rcases List.mem_cons.mp hq with rfl | hq
        · exact ⟨.tail _ (.head _), e2⟩
        · cases hq)
    have hlt : ∀ b o, h₁.get? b = some o → b ≤ h₁.objs.size - 1 := fun b o e => Nat.le_sub_one_of_lt (Heap.lt_size e)
    have hT1 := (N _ (.tail _ (.tail _ (.head _)))).1
    clear F N
    dsimp only at F5 N5 hT1 hT5
    k_steps
    obtain ⟨fp, wr, gi, St, W, hst, hty, ha, hfp, hwr⟩ := G
    have W := W.in4_2
    refine SC.joinGen W hty hst hfp ha (fun j v hv => let ⟨u, e⟩ := hv; ⟨_, u, e⟩) (fun s' lt hm hacc => ?_) (by rw [hp.length, sizeLine_eq]; omega)
    have hl : lt.map (·.1) = prs.map fun p => p.1 ++ p.2 := by
      have hsz : lt.length = vs.length := by simpa [strValues] using hacc.1
      apply List.ext_getElem?
      intro j
      by_cases hj : j < vs.length
      · have hj' : j < lt.length := hsz ▸ hj
        have hj2 : j < prs.length := by rw [← hp.length]; exact hj
        obtain ⟨u, hv⟩ := hacc.2 j (.str lt[j].1 lt[j].2) (by simp [strValues, List.getElem?_eq_getElem hj'])
        injection hv with h1 _
        have e2 : prs.getD j default = prs[j] := by rw [List.getD_eq_getElem?_getD, List.getElem?_eq_getElem hj2]; rfl
        rw [e2] at h1
        simp [List.getElem?_eq_getElem hj', List.getElem?_eq_getElem hj2, h1]
      · have hj2 : ¬ j < prs.length := by rw [← hp.length]; exact hj
        have hj' : ¬ j < lt.length := hsz ▸ hj
        rw [List.getElem?_eq_none (by simpa using Nat.le_of_not_lt hj'), List.getElem?_eq_none (by simpa using Nat.le_of_not_lt hj2)]
    rw [hl]
    have hmu : ∀ b o, b ≤ h₁.objs.size - 1 → h5.get? b = some o → s'.heap.get? b = some o := fun b o hb e => hm.heap b o (fun hmem => Nat.lt_irrefl _ (Nat.lt_of_lt_of_le (hwr b hmem) hb)) e
    have hba := AllBare.movedS (s := { heap := h5, gens := g5, drawn := s.drawn, toks := tk5, os := s.os }) b5 hm
    refine ⟨?ok, fun t' kt => ?_⟩
    case ok => exact joinOk_of (by
      rw [map_len prs, show (Str.ofString "").length = 0 from by rw [str_nil]; rfl]
      omega)
    k_steps
    refine q _ _ ⟨fun b o hb e => ?_, ⟨tbl5, hmu _ _ (hlt _ _ hT1) hT5, tr5⟩, hba, hm.drawn, hm.os⟩
    exact hmu b o (hlt _ _ (kk' _ _ e)) (k5 b o (fun q => hb (by rw [q]; exact .head _)) (kk' _ _ e))
end
end Mine
end
section
open PySem PySem.W PyProof.Rows PySem.Calls
set_option maxRecDepth 100000
set_option maxHeartbeats 1000000
namespace Mine
theorem fillWs : PySem.Challenge.rw_mr0062_01 = PySem.Challenge.rw_mr0062_01 ∧ hd.heap_39 = hd.heap_39 := by
  k_fill
  w_top off
  exact ⟨rfl, rfl⟩
local macro_rules | `(tactic| k_inst) => `(tactic| (refine' instAcc ?N ?h1 ?h2; (case N => k_asm); (case h1 => k_mem); (case h2 => k_mem)))
local macro_rules | `(tactic| k_steps) => `(tactic| repeat' (first
  | (k_unfold; (try dsimp only))
  | ((fail_if_success (with_reducible show wpAny _ _ (exec (Stmt.While _ _ _ _) _) _ _ _));
     (fail_if_success (with_reducible show wpAny _ _ (exec (Stmt.For _ _ _ _ _) _) _ _ _));
     (fail_if_success (with_reducible show wpAny _ _ (eval (Expr.ListComp _ _ _ _) _) _ _ _));
     (fail_if_success (with_reducible show wpAny _ _ (eval (Expr.GeneratorExp _ _ _ _) _) _ _ _));
     (fail_if_success (with_reducible show wpAny _ _ (getMethod (Value.ref _) _ _) _ _ _));
     (fail_if_success (with_reducible show wpAny _ _ (call (Value.ref _) _ _) _ _ _));
     (first | walk1 | (dsimp only; walk1) | (leave1; try dsimp only)))
  | fail "no step"))
section
variable {prog : Program} {w : World} {s : Shared} {hS : Heap} {p : Program} {loose : List Str} {mean : ExcName → Option Value} {mg mb : Str → Option Value} {Q : Value → Shared → Prop} {E : Value → Shared → Prop} {P D : Addr} {vs : List Value} {n : Nat} {k : Int} {prs : List (Str × Str)}
  (XS : (hd.heap_39 w.params).In hS) (TS : Top p loose mean mg mb hS) (S : hS.StaysIn s.heap)
  (C0 : AccAt w hS s.heap P D vs n k) (hp : PairsAt s.heap vs prs) (hb : AllBare s.gens)
include XS TS S C0 hp hb
theorem accInst : ∃ od, InstAt s.heap P (accO D vs n) 101 (some od) := by
  obtain ⟨hP, hsp, hsd, ta, tb, hD⟩ := C0
  exact ⟨_, hP, rfl, rfl, hD⟩
theorem len_body {A : Around} (hA : A.handled = none) (hde : A.depth ≤ (AA 5).depth) (hu : A.units ≤ (AA 5).units) (h0 : 0 ≤ k) (h1 : k ≤ 1000) (hT : Tab s.heap 63) (hsT : hS.get? 63 = none) (hlen : prs.length ≤ 100) (hx : (textOf prs).length ≤ 1000)
    (q : ∀ s' t, After 63 s s' → Q (.int (k + (textOf prs).length) t) s') : wpAny (model prog w) A (Builtin.«len» ⟨[.ref P], []⟩) (fun fin s' => ∃ v, fin = .done (.ret v) ∧ Q v s') E s := by
  obtain ⟨od, I⟩ := accInst XS TS S C0 hp hb
  unfold Builtin.«len»
  refine wpAny_bind (m := oneArg "len" _) (wpAny_pure ?_)
  refine wpAny_bind (m := callSpecial? (.ref P) (Str.ofString "__len__")) (special_fn (XS.keeps S) I (show findIn (hd.heap_39 w.params) (.ref 101) (Str.ofString "__len__") = some (some (.ref 68)) by k_is) (by k_is) ?_)
  refine wide (A := AA 5) hA hde hu rfl rfl (len_s XS TS S C0 hp hb hT hsT hlen hx fun s' t a => ?_)
  refine wpAny_bind (wpAny_holding (wpAny_pure ?_))
  refine wpAny_bind (wpAny_letGo ?_)
  show wpAny _ _ (if k + ((textOf prs).length : Int) < 0 then _ else _) _ _ _
  rw [if_neg (by omega)]
  show wpAny _ _ (if k + ((textOf prs).length : Int) ≥ 2 ^ 63 then _ else _) _ _ _
  rw [if_neg (by omega)]
  exact wpAny_bind (wpAny_mkInt (wpAny_pure ⟨_, rfl, q _ _ ⟨a.up, a.tab, a.bare, a.drawn, a.os⟩⟩))
theorem truthy_c {Q : Bool → Shared → Prop} (h0 : 0 ≤ k) (h1 : k ≤ 1000) (hT : Tab s.heap 63) (hsT : hS.get? 63 = none) (hlen : prs.length ≤ 100) (hx : (textOf prs).length ≤ 1000)
    (q : ∀ s', After 63 s s' → Q (k + (textOf prs).length != 0) s') : wpAny (model prog w) (AA 4) (truthy (.ref P)) Q E s := by
  obtain ⟨od, I⟩ := accInst XS TS S C0 hp hb
  have X := XS.keeps S
  unfold truthy
  refine wpAny_bind (m := callSpecial? (.ref P) (Str.ofString "__bool__")) (wpAny_bind (wpAny_bind (I.type.here ((looks_findIn X (show findIn (hd.heap_39 w.params) (.ref 101) (Str.ofString "__bool__") = some none by k_is)).here (wpAny_pure ?_)))))
  refine wpAny_bind (wpAny_bind (I.type.here ((looks_findIn X (show findIn (hd.heap_39 w.params) (.ref 101) (Str.ofString "__len__") = some (some (.ref 68)) by k_is)).here ?_)))
  rw [if_neg (by simp)]
  refine wpAny_bind (wpAny_runValue (codeAny_builtin PySem.entry_len ?_))
  rw [Around.under_plainId PySem.plain_len _]
  refine wpAny_mono (len_body (Q := fun v s' => (∃ t, v = .int (k + (textOf prs).length) t) ∧ After 63 s s') XS TS S C0 hp hb rfl (Nat.le_of_ble_eq_true rfl) (Nat.le_of_ble_eq_true rfl) h0 h1 hT hsT hlen hx fun s' t a => ⟨⟨t, rfl⟩, a⟩) (fun fin s' h' => ?_) fun _ _ e => e
  obtain ⟨v, rfl, ⟨t, rfl⟩, a⟩ := h'
  exact wpAny_pure (q s' a)
end
end Mine
end
section
open PySem PySem.W PyProof.Rows PySem.Calls
set_option maxRecDepth 100000
set_option maxHeartbeats 1000000
namespace Mine
theorem fillOws : PySem.Challenge.rw_mr0062_01 = PySem.Challenge.rw_mr0062_01 ∧ hd.heap_39 = hd.heap_39 := by
  k_fill
  w_top off
  exact ⟨rfl, rfl⟩
local macro_rules | `(tactic| k_inst) => `(tactic| (refine' instAcc ?N ?h1 ?h2; (case N => k_asm); (case h1 => k_mem); (case h2 => k_mem)))
local macro_rules | `(tactic| k_steps) => `(tactic| repeat' (first
  | (k_unfold; (try dsimp only))
  | ((fail_if_success (with_reducible show wpAny _ _ (exec (Stmt.While _ _ _ _) _) _ _ _));
     (fail_if_success (with_reducible show wpAny _ _ (exec (Stmt.For _ _ _ _ _) _) _ _ _));
     (fail_if_success (with_reducible show wpAny _ _ (eval (Expr.ListComp _ _ _ _) _) _ _ _));
     (fail_if_success (with_reducible show wpAny _ _ (eval (Expr.GeneratorExp _ _ _ _) _) _ _ _));
     (fail_if_success (with_reducible show wpAny _ _ (getMethod (Value.ref _) _ _) _ _ _));
     (fail_if_success (with_reducible show wpAny _ _ (call (Value.ref _) _ _) _ _ _));
     (first | walk1 | (dsimp only; walk1) | (leave1; try dsimp only)))
  | fail "no step"))
structure After2 (s s' : Shared) : Prop where
  up : Up [63, 70] s.heap s'.heap
  t1 : Tab s'.heap 63
  t2 : Tab s'.heap 70
  bare : AllBare s'.gens
  drawn : s'.drawn = s.drawn
  os : s'.os = s.os
theorem seventy_ne : (70 : Addr) ≠ 63 := by decide
theorem up2 {h h' : Heap} (k5 : ∀ b o, b ≠ 63 → h.get? b = some o → h'.get? b = some o) {h0 : Heap} (kk : ∀ b o, h0.get? b = some o → h.get? b = some o) : Up [63, 70] h0 h' := fun b o hb e => k5 b o (fun q => hb (by rw [q]; exact .head _)) (kk b o e)
theorem not_space {prs : List (Str × Str)} (hg : ∀ p ∈ prs, Good p) (hn : prs ≠ []) : Txt.isspace (textOf prs) = false := by
  cases prs with
  | nil => exact absurd rfl hn
  | cons p r =>
    obtain ⟨k, h1, _, hk⟩ := (hg p (.head _)).sl
    have hc := textOf_cl (p :: r)
    have hm : 47 ∈ (textOf (p :: r)).cps.toList := by
      rw [hc]
      simp only [List.map_cons, List.flatten_cons, List.mem_append]
      left; left
      rw [hk]
      simp; omega
    unfold Txt.isspace
    have : (textOf (p :: r)).cps.all Unicode.isSpace = false := by
      rw [← Array.all_toList]
      rw [List.all_eq_false]
      exact ⟨47, hm, by decide +kernel⟩
    rw [this, Bool.and_false]
section
variable {prog : Program} {w : World} {s : Shared} {hS : Heap} {p : Program} {loose : List Str} {mean : ExcName → Option Value} {mg mb : Str → Option Value} {Q : Value → Shared → Prop} {E : Value → Shared → Prop} {P D : Addr} {vs : List Value} {n : Nat} {k : Int} {prs : List (Str × Str)}
  (XS : (hd.heap_39 w.params).In hS) (TS : Top p loose mean mg mb hS) (S : hS.StaysIn s.heap)
  (C0 : AccAt w hS s.heap P D vs n k) (hp : PairsAt s.heap vs prs) (hb : AllBare s.gens)
include XS TS S C0 hp hb
theorem onlyws_s (h0 : 0 ≤ k) (h1 : k ≤ 1000) (hT : Tab s.heap 63) (hsT : hS.get? 63 = none) (hU : Tab s.heap 70) (hsU : hS.get? 70 = none) (hg : ∀ p ∈ prs, Good p) (hlen : prs.length ≤ 100) (hx : (textOf prs).length ≤ 1000)
    (q : ∀ s' b, After2 s s' → (b = true ↔ k = 0 ∧ prs = []) → Q (.bool b) s') :
    wpAny (model prog w) (AA 3) (call (.ref 90) [.ref P]) Q E s := by
  obtain ⟨tbl, hT, tr⟩ := hT
  obtain ⟨tbu, hU, ur⟩ := hU
  obtain ⟨hP, hsp, hsd, ta, tb, hD⟩ := C0
  have N0 : ∀ q ∈ [(P, accO D vs n), (D, dictOf [sizeE w k ta tb] 1), (63, tabObj tbl), (70, tabObj tbu)], s.heap.get? q.1 = some q.2 ∧ hS.get? q.1 = none := fun q hq => by
    rcases List.mem_cons.mp hq with rfl | hq
    · exact ⟨hP, hsp⟩
    · rcases List.mem_cons.mp hq with rfl | hq
      · exact ⟨hD, hsd⟩
      · rcases List.mem_cons.mp hq with rfl | hq
        · exact ⟨hT, hsT⟩
        · rcases List.mem_cons.mp hq with rfl | hq
          · exact ⟨hU, hsU⟩
          · cases hq
  refine wpAny_call ?_
  k_dflt (refine' enter (news := [(P, accO D vs n), (D, dictOf [sizeE w k ta tb] 1), (63, tabObj tbl), (70, tabObj tbu)]) (binds := [(Str.ofString "self", Value.ref P)]) XS TS S ?k1 ?k2 ?k3 ?k4 ?k5 ?k6 ?_ ?c1 ?c2 ?c3 ?c4; (case k1 => exact N0); (case k2 => k_is); (case k3 => k_is); (case k4 => decide); (case k5 => first | exact BindsTo.of_eq rfl | exact binds_K (Frag.In.keeps XS S) rfl (by k_is) rfl rfl rfl); (case k6 => exact locs rfl); (case c1 => decide); (case c2 => exact rfl); (case c3 => exact rfl); (case c4 => exact rfl); k_whole)
  intro g L' h₁ F' N' X' T' up' st' kk'
  try dsimp only
  try k_fold
  k_steps
  (rename Fr _ _ _ _ => F); (rename News _ _ _ _ => N)
  refine acc_getattr (X'.keeps F.keep) (N _ (.head _)).1 (N _ (.tail _ (.head _))).1 ?_
  k_steps
  · have hk : k = 0 := by assumption
    refine wide (A := AA 4) rfl (Nat.le_of_ble_eq_true rfl) (Nat.le_of_ble_eq_true rfl) rfl rfl (truthy_c (s := { heap := h₁, gens := s.gens, drawn := s.drawn, toks := _, os := s.os }) (P := P) (D := D) (n := n) XS TS (frStat F st') ⟨(N _ (.head _)).1, hsp, hsd, _, _, (N _ (.tail _ (.head _))).1⟩ (hp.keeps kk') hb h0 h1 ⟨_, (N _ (.tail _ (.tail _ (.head _)))).1, tr⟩ hsT hlen hx fun s5 A5 => ?_)
    obtain ⟨h5, g5, dr5, tk5, os5⟩ := s5
    obtain ⟨u5, ⟨tb5, hT5, tr5⟩, b5, d5, o5⟩ := A5
    dsimp only at d5 o5 u5 hT5
    subst d5 o5
    have k5 : ∀ b o, b ≠ 63 → h₁.get? b = some o → h5.get? b = some o := fun b o hb e => u5 b o (by simpa using hb) e
    have F5 := frBut F N (.tail _ (.tail _ (.head _))) k5
    have e1 := neNews N (.head _) (.tail _ (.tail _ (.head _))) (by simp)
    have e2 := neNews N (.tail _ (.head _)) (.tail _ (.tail _ (.head _))) (by simp)
    have N5 := newsBut N (.tail _ (.tail _ (.head _))) k5 hT5 (rest := [(P, accO D vs n), (D, dictOf [sizeE w k ta tb] 1), (70, tabObj tbu)]) (fun q hq => by
      rcases List.mem_cons.mp hq with rfl | hq
      · exact ⟨.head _, e1⟩
      · rcases List.mem_cons.mp hq with rfl | hq
        · exact ⟨.tail _ (.head _), e2⟩
        · rcases List.mem_cons.mp hq with rfl | hq
          · exact ⟨.tail _ (.tail _ (.tail _ (.head _))), seventy_ne⟩
          · cases hq)
    have hU5 := (N5 _ (.tail _ (.tail _ (.tail _ (.head _))))).1
    have hp5 : PairsAt h5 vs prs := (hp.keeps kk').up (M := [63]) (fun b o hb e => k5 b o (by simpa using hb) e) (fun a ha o ho => by
      rw [List.mem_singleton.mp ha, (N _ (.tail _ (.tail _ (.head _)))).1] at ho; cases ho; nofun)
    clear F N
    by_cases hn : prs = []
    · subst hn
      have hc : (k + ((textOf []).length : Int) != 0) = false := by
        rw [textOf_nil, str_nil, hk]; rfl
      rw [hc]
      k_steps
      exact q _ true ⟨up2 k5 kk', ⟨_, hT5, tr5⟩, ⟨_, hU5, ur⟩, b5, rfl, rfl⟩ (by simp [hk])
    · have hpos := (textOf_good hg).1
      have hl : 0 < prs.length := List.length_pos_iff.mpr hn
      have hc : (k + ((textOf prs).length : Int) != 0) = true := by
        rw [bne_iff_ne]; omega
      rw [hc]
      k_steps
      refine wide (A := AA 5) rfl (Nat.le_of_ble_eq_true rfl) (Nat.le_of_ble_eq_true rfl) rfl rfl (str_s (s := { heap := h5, gens := g5, drawn := s.drawn, toks := _, os := s.os }) (P := P) (D := D) (n := n) XS TS (frStat F5 st') ⟨(N5 _ (.tail _ (.head _))).1, hsp, hsd, _, _, (N5 _ (.tail _ (.tail _ (.head _)))).1⟩ hp5 b5 ⟨_, hU5, ur⟩ hsU hlen hx fun s6 tt A6 => ?_)
      obtain ⟨h6, g6, dr6, tk6, os6⟩ := s6
      obtain ⟨u6, t6, b6, d6, o6⟩ := A6
      dsimp only at d6 o6 u6 t6 b6
      subst d6 o6
      have u6' : Up [63, 70] h5 h6 := upMore u6 (fun a ha => .tail _ ha)
      have t63 : Tab h6 63 := ⟨_, u6 _ _ (by decide) hT5, tr5⟩
      have F6 := frBut F5 N5 (.tail _ (.tail _ (.tail _ (.head _)))) (fun b o hb e => u6 b o (by simpa using hb) e)
      have N6 : News g L' h6 [] := fun _ h => nomatch h
      clear F5 N5
      unfold StrBack
      dsimp only
      generalize hY : textOf prs = Y at *
      k_steps
      exact q _ _ ⟨upTrans (up2 k5 kk') u6', t63, t6, b6, rfl, rfl⟩ (by rw [← hY, not_space hg hn]; simp [hn])
  · have hk : k ≠ 0 := by assumption
    refine q _ _ ⟨fun b o _ e => kk' b o e, ⟨_, (N _ (.tail _ (.tail _ (.head _)))).1, tr⟩, ⟨_, (N _ (.tail _ (.tail _ (.tail _ (.head _))))).1, ur⟩, hb, rfl, rfl⟩ ?_
    simp [hk]
end
end Mine
end
section
open PySem PySem.W PyProof.Rows PySem.Calls
set_option maxRecDepth 100000
set_option maxHeartbeats 2000000
namespace Mine
theorem fillAg : PySem.Challenge.rw_mr0062_01 = PySem.Challenge.rw_mr0062_01 ∧ hd.heap_39 = hd.heap_39 := by
  k_fill
  w_top off
  exact ⟨rfl, rfl⟩
local macro_rules | `(tactic| k_inst) => `(tactic| (refine' instAcc ?N ?h1 ?h2; (case N => k_asm); (case h1 => k_mem); (case h2 => k_mem)))
local macro_rules | `(tactic| k_steps) => `(tactic| repeat' (first
  | (k_unfold; (try dsimp only))
  | ((fail_if_success (with_reducible show wpAny _ _ (exec (Stmt.While _ _ _ _) _) _ _ _));
     (fail_if_success (with_reducible show wpAny _ _ (exec (Stmt.For _ _ _ _ _) _) _ _ _));
     (fail_if_success (with_reducible show wpAny _ _ (eval (Expr.ListComp _ _ _ _) _) _ _ _));
     (fail_if_success (with_reducible show wpAny _ _ (eval (Expr.GeneratorExp _ _ _ _) _) _ _ _));
     (fail_if_success (with_reducible show wpAny _ _ (getMethod (Value.ref _) _ _) _ _ _));
     (fail_if_success (with_reducible show wpAny _ _ (call (Value.ref _) _ _) _ _ _));
     (first | walk1 | (dsimp only; walk1) | (leave1; try dsimp only)))
  | fail "no step"))
theorem execs_wp {M : Model} {A : Around} {E : Value → Shared → Prop} {env : Env} {Q : Flow → Shared → Prop} {Mid : Shared → Prop} {Γ : Ctx} (hΓ : Γ.In A) : ∀ (l : List Stmt) (n : Nat) (p : _) (s : Shared), Sem.wp M Γ (execs (l.take n) env) (fun f _ s' => f = .next ∧ Mid s') (fun e _ s' => E e s') p s →
    (∀ s', Mid s' → wpAny M A (execs (l.drop n) env) Q E s') → Sem.wp M Γ (execs l env) (fun f _ s' => Q f s') (fun e _ s' => E e s') p s
  | l, 0, p, s, h1, h2 => by
    have h3 : Sem.wp M Γ (execs [] env) (fun f _ s' => f = .next ∧ Mid s') (fun e _ s' => E e s') p s := h1
    exact h2 s (show Flow.next = .next ∧ Mid s from h3).2 Γ p hΓ
  | [], n + 1, p, s, h1, h2 => by
    have h3 : Sem.wp M Γ (execs [] env) (fun f _ s' => f = .next ∧ Mid s') (fun e _ s' => E e s') p s := h1
    exact h2 s (show Flow.next = .next ∧ Mid s from h3).2 Γ p hΓ
  | st :: l, n + 1, p, s, h1, h2 => by
    rw [List.take_succ_cons, execs_cons, Sem.wp_bind'] at h1
    rw [execs_cons, Sem.wp_bind']
    refine Sem.wp_mono M Γ _ (fun f p' s' h' => ?_) (fun _ _ _ h' => h') _ _ h1
    cases f with
    | next => exact execs_wp hΓ l n p' s' h' h2
    | _ => exact absurd (show _ = Flow.next ∧ Mid s' from h').1 (by simp)
theorem execs_split {M : Model} {A : Around} {E : Value → Shared → Prop} {env : Env} {Q : Flow → Shared → Prop} {Mid : Shared → Prop} {l : List Stmt} (n : Nat) {s : Shared} (h1 : wpAny M A (execs (l.take n) env) (fun f s' => f = .next ∧ Mid s') E s)
    (h2 : ∀ s', Mid s' → wpAny M A (execs (l.drop n) env) Q E s') : wpAny M A (execs l env) Q E s := fun Γ p hΓ => execs_wp hΓ l n p s (h1 Γ p hΓ) h2
abbrev itO (nl : Addr) (i : Nat) : Obj := { cls := .type "list_iterator", data := .fields #[.ref nl, .int i 0] }
theorem it_next {prog : Program} {w : World} {A : Around} {E : Value → Shared → Prop} {s : Shared} {I nl : Addr} {i : Nat} {x : Value} {xs : List Value} {nn : Nat} {Q : Option Value → Shared → Prop} (ho : s.heap.get? I = some (itO nl i)) (hl : s.heap.get? nl = some (W.listOf xs.toArray nn)) (hx : xs[i]? = some x)
    (hQ : ∀ h', h'.get? I = some (itO nl (i + 1)) → Heap.SameBut I s.heap h' → Q (some x) { s with heap := h' }) : wpAny (model prog w) A (pyNext (.ref I)) Q E s := by
  have hit : s.heap.IsListIter I nl i := ⟨_, ho, rfl, rfl⟩
  unfold pyNext
  refine wpAny_bind (wpAny_attempt (wpAny_callSpecial?_slot (name := Str.ofString "__next__") hit.typeIs slot_listiter_next
    (wpAny_call_entry slot_listiter_next hit.typeIs entry_listiter_next ?_ (args_listiter_next _))))
  show wpAny _ _ (field (.ref I) 0 >>= _) _ _ s
  refine wpAny_bind (wpAny_field ho rfl (x := .ref nl) rfl ?_)
  show wpAny _ _ (if (Value.ref nl == Value.none) = true then _ else _) _ _ s
  rw [if_neg (show ¬ ((Value.ref nl == Value.none) = true) from Bool.false_ne_true)]
  show wpAny _ _ (field (.ref I) 1 >>= _) _ _ s
  refine wpAny_bind (wpAny_field ho rfl (x := .int i 0) rfl ?_)
  show wpAny _ _ (seqItems? (.ref nl) >>= _) _ _ s
  refine wpAny_bind (wpAny_seqItems hl rfl ?_)
  have hx' : xs.toArray[i]? = some x := by simpa using hx
  simp only [Int.toNat_natCast, hx']
  refine wpAny_bind (wpAny_setField_rec ho (by simp) fun h' e hs => wpAny_pure ⟨x, rfl, wpAny_pure (hQ h' (e.trans ?_) hs)⟩)
  simp [rawInt]
end Mine
end
section
open PySem PySem.W PyProof.Rows PySem.Calls
set_option maxRecDepth 100000
set_option maxHeartbeats 1000000
namespace Mine
section
variable {prog : Program} {w : World} {A : Around} {E : Value → Shared → Prop} {s : Shared} {l sl : Addr} {vs : List Value} {n : Nat}
abbrev slO (a b : Value) : Obj := { cls := .type "slice", data := .fields #[a, b, .none] }
theorem list_from {value slice : Expr} {i : Int} {ti : Tok} {Q : Value → Shared → Prop} (hl : s.heap.get? l = some (W.listOf vs.toArray n)) (hs : s.heap.get? sl = some (slO (.int i ti) .none)) (hz : vs.length ≤ 500)
    (h : Q (.ref s.heap.objs.size) { s with heap := s.heap.push (W.listOf (vs.drop (cutAt vs.length i)).toArray 0) })
    (hq : subscripted slice false (.ref l) (.ref sl) = operate [.ref sl, .ref l] (getItem (.ref l) (.ref sl)) := by with_unfolding_all rfl) : wpAny (model prog w) A (subscriptTail value slice (.ref l) (.ref sl)) Q E s := by
  have hL : s.heap.IsList l vs.toArray := ⟨_, hl, rfl, _, rfl⟩
  refine tail_any hL.typeIs slot_list_getitem.lookup (wpAny_getItem_list_slice (lo := some i) (hi := none) (st := none) hL ⟨_, hs, rfl, rfl⟩ (.int i ti) .none .none (by simp) ?_ (by rw [List.size_toArray, sizeLine_eq]; omega)) hq
  rw [pick_from]; exact h
theorem list_upto {value slice : Expr} {i : Int} {ti : Tok} {Q : Value → Shared → Prop} (hl : s.heap.get? l = some (W.listOf vs.toArray n)) (hs : s.heap.get? sl = some (slO .none (.int i ti))) (hz : vs.length ≤ 500)
    (h : Q (.ref s.heap.objs.size) { s with heap := s.heap.push (W.listOf (vs.take (cutAt vs.length i)).toArray 0) })
    (hq : subscripted slice false (.ref l) (.ref sl) = operate [.ref sl, .ref l] (getItem (.ref l) (.ref sl)) := by with_unfolding_all rfl) : wpAny (model prog w) A (subscriptTail value slice (.ref l) (.ref sl)) Q E s := by
  have hL : s.heap.IsList l vs.toArray := ⟨_, hl, rfl, _, rfl⟩
  refine tail_any hL.typeIs slot_list_getitem.lookup (wpAny_getItem_list_slice (lo := none) (hi := some i) (st := none) hL ⟨_, hs, rfl, rfl⟩ .none (.int i ti) .none (by simp) ?_ (by rw [List.size_toArray, sizeLine_eq]; omega)) hq
  rw [pick_upto]; exact h
end
end Mine
end
section
open PySem PySem.W PyProof.Rows PySem.Calls PySem.Spec
set_option maxRecDepth 100000
set_option maxHeartbeats 1000000
namespace Mine
def pairD (p : Str × Str) : PyData := .tuple [.str p.1, .str p.2]
theorem reads_pairs {h : Heap} {vs : List Value} {ps : List (Str × Str)} (x : PairsAt h vs ps) : ∃ as, ReadsAll h vs (ps.map pairD) as := by
  induction x with
  | nil => exact ⟨_, ReadsAll.nil⟩
  | cons ha _ ih =>
    obtain ⟨as, r⟩ := ih
    exact ⟨_, ReadsAll.cons (reads_tuple_at ha rfl rfl (ReadsAll.cons (Reads.str _ _) (ReadsAll.cons (Reads.str _ _) ReadsAll.nil))) r⟩
theorem eqv_pairs : ∀ ps : List (Str × Str), PyData.eqvAll (ps.map pairD) (ps.map pairD) = true
  | [] => rfl
  | p :: r => by simp [pairD, PyData.eqv, PyData.eqvAll, eqv_pairs r]
theorem lay_pairs : ∀ {ps : List (Str × Str)}, (∀ p ∈ ps, PyData.strOk p.1 = true ∧ PyData.strOk p.2 = true) → PyData.canLayAll0 (ps.map pairD) = true
  | [], _ => rfl
  | p :: r, h => by
    have h1 := h p (.head _)
    have h2 := lay_pairs fun q hq => h q (.tail _ hq)
    simp [pairD, PyData.canLay0, PyData.canLayAll0, h1.1, h1.2, h2]
theorem depth_pairs : ∀ ps : List (Str × Str), PyData.depthAll (ps.map pairD) ≤ 2
  | [] => by simp [PyData.depthAll]
  | p :: r => by
    have := depth_pairs r
    simp [pairD, PyData.depth, PyData.depthAll]
    omega
section
variable {prog : Program} {w : World} {A : Around} {E : Value → Shared → Prop} {s : Shared} {l a : Addr} {vs ws : List Value} {n1 n2 : Nat} {ps qs : List (Str × Str)} {Q : Value → Shared → Prop}
/-- pairs != [] -/
theorem ne_nil (hl : s.heap.get? l = some (W.listOf vs.toArray n1)) (ha : s.heap.get? a = some (W.listOf #[] n2)) (hp : PairsAt s.heap vs ps) (ho : ∀ p ∈ ps, PyData.strOk p.1 = true ∧ PyData.strOk p.2 = true) (hu : A.units + 64 < cLine)
    (h : Q (.bool (!ps.isEmpty)) s) : wpAny (model prog w) A (compareOp .NotEq (.ref l) (.ref a)) Q E s := by
  obtain ⟨as, r⟩ := reads_pairs hp
  refine ne_dataH (reads_list_at hl rfl rfl (by simpa using r)) (reads_list_at (xs := []) ha rfl rfl ReadsAll.nil) ?_ (by decide) hu ?_
  · unfold SeqAt.shaped
    simp only [PyData.canLay0, lay_pairs ho, Bool.true_and, PyData.depth]
    have := depth_pairs ps
    exact decide_eq_true (by omega)
  · have e : PyData.eqv (.list (ps.map pairD)) (.list []) = ps.isEmpty := by cases ps <;> rfl
    rw [e]; exact h
/-- two lists of a list of pairs, a text, two numbers and a truth, alike -/
theorem ne_seen {b c d : Addr} {m1 m2 : Nat} {x : Str} {i j : Int} {u : Bool} {t1 t2 t3 t4 t5 t6 : Tok} (ha : s.heap.get? a = some (W.listOf #[.ref c, .str x t1, .int i t2, .int j t3, .bool u] n1)) (hb : s.heap.get? b = some (W.listOf #[.ref d, .str x t4, .int i t5, .int j t6, .bool u] n2))
    (hc : s.heap.get? c = some (W.listOf vs.toArray m1)) (hd : s.heap.get? d = some (W.listOf ws.toArray m2)) (hp : PairsAt s.heap vs ps) (hq : PairsAt s.heap ws ps) (ho : ∀ p ∈ ps, PyData.strOk p.1 = true ∧ PyData.strOk p.2 = true) (hx : PyData.strOk x = true) (hu : A.units + 64 < cLine)
    (h : Q (.bool false) s) : wpAny (model prog w) A (compareOp .NotEq (.ref a) (.ref b)) Q E s := by
  obtain ⟨as, r1⟩ := reads_pairs hp
  obtain ⟨bs, r2⟩ := reads_pairs hq
  have sh : SeqAt.shaped (.list [.list (ps.map pairD), .str x, .int i, .int j, .bool u]) = true := by
    unfold SeqAt.shaped
    have := depth_pairs ps
    simp only [PyData.canLay0, PyData.canLayAll0, lay_pairs ho, hx, Bool.true_and, Bool.and_true, PyData.depth, PyData.depthAll]
    refine decide_eq_true ?_
    revert this
    generalize PyData.depthAll (ps.map pairD) = z
    revert z
    decide
  refine ne_dataH (da := .list [.list (ps.map pairD), .str x, .int i, .int j, .bool u]) (db := .list [.list (ps.map pairD), .str x, .int i, .int j, .bool u])
    (reads_list_at ha rfl rfl (ReadsAll.cons (reads_list_at hc rfl rfl (by simpa using r1)) (ReadsAll.cons (Reads.str _ _) (ReadsAll.cons (Reads.int _ _) (ReadsAll.cons (Reads.int _ _) (ReadsAll.cons (Reads.bool _) ReadsAll.nil))))))
    (reads_list_at hb rfl rfl (ReadsAll.cons (reads_list_at hd rfl rfl (by simpa using r2)) (ReadsAll.cons (Reads.str _ _) (ReadsAll.cons (Reads.int _ _) (ReadsAll.cons (Reads.int _ _) (ReadsAll.cons (Reads.bool _) ReadsAll.nil)))))) sh sh hu ?_
  have e : PyData.eqv (.list [.list (ps.map pairD), .str x, .int i, .int j, .bool u]) (.list [.list (ps.map pairD), .str x, .int i, .int j, .bool u]) = true := by
    simp [PyData.eqv, PyData.eqvAll, eqv_pairs ps]
  rw [e]; exact h
end
end Mine
end
section
open PySem PySem.W PyProof.Rows PySem.Calls
set_option maxRecDepth 100000
namespace Mine
section
variable {g h h' : Heap} {L : Addr} {m : Str → Option Value} {news rest : List (Addr × Obj)} {M : List Addr}
theorem frM (F : Fr g L h m) (hM : ∀ a ∈ M, a ≠ L ∧ g.get? a = none) (U : Up M h h') : Fr g L h' m := by
  obtain ⟨oL, es, ep, hL, r⟩ := F.ns
  refine ⟨⟨oL, es, ep, U _ _ (fun q => (hM _ q).1 rfl) hL, r⟩, fun b o e => U _ _ (fun q => ?_) (F.keep b o e), F.above⟩
  rw [(hM _ q).2] at e; cases e
theorem newsM (N : News g L h news) (U : Up M h h') (hs : ∀ q ∈ rest, q ∈ news ∧ q.1 ∉ M) : News g L h' rest := fun q hq => ⟨U _ _ (hs q hq).2 (N q (hs q hq).1).1, (N q (hs q hq).1).2⟩
theorem newsPut {a : Addr} {o : Obj} (N : News g L h' rest) (ha : a ≠ L ∧ g.get? a = none) (e : h'.get? a = some o) : News g L h' ((a, o) :: rest) := fun q hq => by
  rcases List.mem_cons.mp hq with rfl | hq
  · exact ⟨e, ha⟩
  · exact N q hq
/-- two objects changed: all else of other classes stays -/
theorem two {a b : Addr} {oa ob oa' ob' : Obj} (F : Fr g L h m) (N : News g L h news) (ma : (a, oa) ∈ news) (mb : (b, ob) ∈ news) (U : Up [a, b] h h') (ea : h'.get? a = some oa') (eb : h'.get? b = some ob')
    (hs : ∀ q ∈ rest, q ∈ news ∧ q.2.cls ≠ oa.cls ∧ q.2.cls ≠ ob.cls) : Fr g L h' m ∧ News g L h' ((a, oa') :: (b, ob') :: rest) := by
  have at' : ∀ {x : Addr} {o1 o2 : Obj} {y : Addr}, (x, o1) ∈ news → (y, o2) ∈ news → o1.cls ≠ o2.cls → x ≠ y := fun h1 h2 hc e => hc (by
    have e1 := (N _ h1).1
    have e2 := (N _ h2).1
    dsimp only at e1 e2
    rw [e, e2] at e1
    cases e1; rfl)
  refine ⟨frM F (fun x hx => ?_) U, newsPut (newsPut (newsM N U fun q hq => ⟨(hs q hq).1, fun hm => ?_⟩) (N _ mb).2 eb) (N _ ma).2 ea⟩
  · rcases List.mem_cons.mp hx with rfl | hx
    · exact (N _ ma).2
    · rw [List.mem_singleton.mp hx]; exact (N _ mb).2
  · rcases List.mem_cons.mp hm with e | hm
    · exact at' (hs q hq).1 ma (hs q hq).2.1 e
    · exact at' (hs q hq).1 mb (hs q hq).2.2 (List.mem_singleton.mp hm)
theorem one {a : Addr} {oa oa' : Obj} (F : Fr g L h m) (N : News g L h news) (ma : (a, oa) ∈ news) (U : Up [a] h h') (ea : h'.get? a = some oa')
    (hs : ∀ q ∈ rest, q ∈ news ∧ q.1 ≠ a) : Fr g L h' m ∧ News g L h' ((a, oa') :: rest) :=
  ⟨frM F (fun x hx => by rw [List.mem_singleton.mp hx]; exact (N _ ma).2) U, newsPut (newsM N U fun q hq => ⟨(hs q hq).1, fun hm => (hs q hq).2 (List.mem_singleton.mp hm)⟩) (N _ ma).2 ea⟩
/-- of each: in the ledger, and of a class that is none of two -/
def Ok2 (c d : Value) (news : List (Addr × Obj)) (q : Addr × Obj) : Prop := q ∈ news ∧ q.2.cls ≠ c ∧ q.2.cls ≠ d
theorem ok2_cons {c d : Value} {q : Addr × Obj} {rest : List (Addr × Obj)} (h1 : Ok2 c d news q) (h2 : ∀ x ∈ rest, Ok2 c d news x) : ∀ x ∈ q :: rest, Ok2 c d news x := fun x hx => by
  rcases List.mem_cons.mp hx with rfl | hx
  · exact h1
  · exact h2 x hx
end
end Mine
end
section
open PySem PySem.W PyProof.Rows PySem.Calls
set_option maxRecDepth 100000
set_option maxHeartbeats 2000000
namespace Mine
theorem fillAg2 : PySem.Challenge.rw_mr0062_01 = PySem.Challenge.rw_mr0062_01 ∧ hd.heap_39 = hd.heap_39 := by
  k_fill
  w_top off
  exact ⟨rfl, rfl⟩
/-- what holds between the turns -/
structure Turn (w : World) (g : Heap) (L : Addr) (s : Shared) (nl I : Addr) (xs : List Value) (nn : Nat) (i : Nat) (s' : Shared) (h : Heap) (m : Str → Option Value) (P D kl : Addr) (vs kvs : List Value) (n nk : Nat) (k : Int) (prs kps : List (Str × Str)) (tl : List (Addr × Obj)) (ta tb t1 t2 : Tok) (b1 b2 : Array Value) : Prop where
  st : ∃ tk gs, s' = ⟨h, gs, s.drawn, tk, s.os⟩ ∧ AllBare gs
  fr : Fr g L h m
  path : m (Str.ofString "path") = some (.ref P)
  text : m (Str.ofString "text") = some (.str (textOf prs) t1)
  kept : m (Str.ofString "kept") = some (.ref kl)
  size : m (Str.ofString "size") = some (.int k t2)
  nw : News g L h ((I, itO nl i) :: (nl, W.listOf xs.toArray nn) :: (P, accO D vs n) :: (D, dictOf [sizeE w k ta tb] 1) :: (63, tabObj b1) :: (70, tabObj b2) :: (kl, W.listOf kvs.toArray nk) :: tl)
  tup : ∀ q ∈ tl, q.2.cls = .type "tuple"
  r1 : TriplesOk b1.toList
  r2 : TriplesOk b2.toList
  pv : PairsIn tl vs prs
  pk : PairsIn tl kvs kps
  gv : ∀ p ∈ prs, Good p
  gk : ∀ p ∈ kps, Good p
  lv : prs.length ≤ i
  lk : kps.length ≤ i
  k0 : 0 ≤ k
  k1 : k ≤ 3
def Inv (w : World) (g : Heap) (L : Addr) (s : Shared) (nl I : Addr) (xs : List Value) (nn : Nat) (c : Nat) (s' : Shared) : Prop :=
  ∃ i h m P D kl vs kvs n nk k prs kps tl ta tb t1 t2 b1 b2, c = xs.length + 1 - i ∧ i ≤ xs.length ∧ Turn w g L s nl I xs nn i s' h m P D kl vs kvs n nk k prs kps tl ta tb t1 t2 b1 b2
/-- around the deed: b bounds how many parts there are -/
structure MidT (w : World) (g : Heap) (L : Addr) (s : Shared) (nl I : Addr) (xs : List Value) (nn : Nat) (i b : Nat) (s' : Shared) (h : Heap) (m : Str → Option Value) (P D kl pl al dl : Addr) (vs kvs pvs avs dvs : List Value) (n nk np na nd : Nat) (k : Int) (prs kps aps : List (Str × Str)) (tl : List (Addr × Obj)) (ta tb t2 : Tok) (b1 b2 : Array Value) : Prop where
  st : ∃ tk gs, s' = ⟨h, gs, s.drawn, tk, s.os⟩ ∧ AllBare gs
  fr : Fr g L h m
  path : m (Str.ofString "path") = some (.ref P)
  kept : m (Str.ofString "kept") = some (.ref kl)
  size : m (Str.ofString "size") = some (.int k t2)
  pairs : m (Str.ofString "pairs") = some (.ref pl)
  told : m (Str.ofString "told") = some (.ref al)
  due : m (Str.ofString "due") = some (.ref dl)
  nw : News g L h ((I, itO nl i) :: (nl, W.listOf xs.toArray nn) :: (P, accO D vs n) :: (D, dictOf [sizeE w k ta tb] 1) :: (63, tabObj b1) :: (70, tabObj b2) :: (kl, W.listOf kvs.toArray nk) :: (pl, W.listOf pvs.toArray np) :: (al, W.listOf avs.toArray na) :: (dl, W.listOf dvs.toArray nd) :: tl)
  tup : ∀ q ∈ tl, q.2.cls = .type "tuple"
  r1 : TriplesOk b1.toList
  r2 : TriplesOk b2.toList
  pv : PairsIn tl vs prs
  pk : PairsIn tl kvs kps
  pp : PairsIn tl pvs prs
  pa : PairsIn tl avs aps
  pd : PairsIn tl dvs aps
  gv : ∀ p ∈ prs, Good p
  gk : ∀ p ∈ kps, Good p
  lv : prs.length ≤ b
  lk : kps.length ≤ b
  la : aps.length ≤ 100
  ls : ∀ p ∈ aps, PyData.strOk p.1 = true ∧ PyData.strOk p.2 = true
  k0 : 0 ≤ k
  k1 : k ≤ 3
def Mid (w : World) (g : Heap) (L : Addr) (s : Shared) (nl I : Addr) (xs : List Value) (nn : Nat) (i b : Nat) (s' : Shared) : Prop :=
  ∃ h m P D kl pl al dl vs kvs pvs avs dvs n nk np na nd k prs kps aps tl ta tb t2 b1 b2, MidT w g L s nl I xs nn i b s' h m P D kl pl al dl vs kvs pvs avs dvs n nk np na nd k prs kps aps tl ta tb t2 b1 b2
def iteL : List (Str × Value) → (Str → Option Value) → Str → Option Value
  | [], m, y => m y
  | (x, v) :: r, m, y => if y = x then some v else iteL r m y
theorem iteL_eq {m : Str → Option Value} : ∀ (l : List (Str × Value)), (∀ q ∈ l, m q.1 = some q.2) → iteL l m = m
  | [], _ => rfl
  | (x, v) :: r, h => by
    funext y
    show (if y = x then some v else iteL r m y) = m y
    rw [iteL_eq r fun q hq => h q (.tail _ hq)]
    split
    · rename_i e; rw [e, h _ (.head _)]
    · rfl
theorem frL {g h : Heap} {L : Addr} {m : Str → Option Value} (l : List (Str × Value)) (F : Fr g L h m) (hl : ∀ q ∈ l, m q.1 = some q.2) : Fr g L h (fun y => iteL l m y) := by
  have e : (fun y => iteL l m y) = m := iteL_eq l hl
  rw [e]; exact F
theorem newsMore {g h h' : Heap} {L : Addr} {m : Str → Option Value} {news add news' : List (Addr × Obj)} (F : Fr g L h m) (N : News g L h news) (U : Up [] h h') (ha : ∀ q ∈ add, h'.get? q.1 = some q.2 ∧ h.get? q.1 = none) (hs : ∀ q ∈ news', q ∈ news ∨ q ∈ add) : News g L h' news' := by
  intro q hq
  rcases hs q hq with h1 | h1
  · exact newsUp N U q h1
  · exact newsAdd F N U (ha q h1).1 (ha q h1).2 _ (.head _)
theorem sub8 {α : Type} {a b c d e f k p : α} {t1 t2 : List α} : ∀ q ∈ p :: a :: b :: c :: d :: e :: f :: k :: (t1 ++ t2), q ∈ a :: b :: c :: d :: e :: f :: k :: t2 ∨ q ∈ p :: t1 := by
  intro q hq
  simp only [List.mem_cons, List.mem_append] at hq ⊢
  rcases hq with h | h | h | h | h | h | h | h | h | h <;> simp [h]
theorem newsAdd2 {g h h' : Heap} {L : Addr} {D P : Addr} {m : Str → Option Value} {o o2 : Obj} {news : List (Addr × Obj)} (F : Fr g L h m) (N : News g L h news) (U : Up [] h h') (hP : h'.get? P = some o) (fP : h.get? P = none) (hD : h'.get? D = some o2) (fD : h.get? D = none) : News g L h' ((P, o) :: (D, o2) :: news) := by
  have a := newsAdd F N U hP fP
  have b := newsAdd F N U hD fD
  intro q hq
  rcases List.mem_cons.mp hq with rfl | hq
  · exact a _ (.head _)
  · exact b _ hq
theorem forL {prog : Program} {w : World} {A : Around} {s : Shared} {R : Result → Shared → Prop} {target : Expr} {it : Value} {body orelse : List Stmt} {env : Env} (I : Nat → Shared → Prop)
    (turn : ∀ n s, I n s → wpAny (model prog w) A (pyNext it) (fun r s₁ => match r with
      | none => wpAny (model prog w) A (execs orelse env) (fun f s₃ => R (.ok f) s₃) (notedBy (model prog w) A env fun e s' => R (.error e) s') s₁
      | some v => wpAny (model prog w) A (letOwnedTupleGo target it v) (fun _ s₁' =>
          wpAny (model prog w) A (assign target env v) (fun _ s₂ => wpAny (model prog w) A (execs body env) (fun f s₃ => match f with
            | .next | .cont => Lower I n s₃
            | .brk => R (.ok .next) s₃
            | .ret v => R (.ok (.ret v)) s₃) (notedBy (model prog w) A env fun e s' => R (.error e) s') s₂) (notedBy (model prog w) A env fun e s' => R (.error e) s') s₁') (notedBy (model prog w) A env fun e s' => R (.error e) s') s₁) (notedBy (model prog w) A env fun e s' => R (.error e) s') s)
    (n : Nat) (h : I n s) : codeAny (model prog w) A (.forLoop target it body orelse env) R s := codeAny_forLoop_any I turn n h
/-- another order, or fewer -/
theorem newsSub {g h : Heap} {L : Addr} {news news' : List (Addr × Obj)} (N : News g L h news) (hs : ∀ q ∈ news', q ∈ news) : News g L h news' := fun q hq => N q (hs q hq)
theorem nwC {g h : Heap} {L : Addr} {news r : List (Addr × Obj)} {x : Addr × Obj} (N : News g L h news) (h1 : x ∈ news) (h2 : News g L h r) : News g L h (x :: r) := fun q hq => by
  rcases List.mem_cons.mp hq with rfl | hq
  · exact N _ h1
  · exact h2 q hq
theorem nwA {g h : Heap} {L : Addr} {r t : List (Addr × Obj)} (h1 : News g L h r) (h2 : News g L h t) : News g L h (r ++ t) := fun q hq => (List.mem_append.mp hq).elim (h1 q) (h2 q)
theorem subC {α : Type} {x : α} {r news : List α} (h1 : x ∈ news) (h2 : ∀ q ∈ r, q ∈ news) : ∀ q ∈ x :: r, q ∈ news := fun q hq => by
  rcases List.mem_cons.mp hq with rfl | hq
  · exact h1
  · exact h2 q hq
theorem tupC {x : Addr × Obj} {r : List (Addr × Obj)} (h1 : x.2.cls = .type "tuple") (h2 : ∀ q ∈ r, q.2.cls = .type "tuple") : ∀ q ∈ x :: r, q.2.cls = .type "tuple" := fun q hq => by
  rcases List.mem_cons.mp hq with rfl | hq
  · exact h1
  · exact h2 q hq
theorem sevenC {c : Value} {q1 q2 q3 q4 q5 q6 : Addr × Obj} {tl : List (Addr × Obj)} (htl : ∀ q ∈ tl, q.2.cls = .type "tuple") (h1 : q1.2.cls ≠ c) (h2 : q2.2.cls ≠ c) (h3 : q3.2.cls ≠ c) (h4 : q4.2.cls ≠ c) (h5 : q5.2.cls ≠ c) (h6 : q6.2.cls ≠ c) (ht : Value.type "tuple" ≠ c := by simp) : ∀ q ∈ (q1 :: q2 :: q3 :: q4 :: q5 :: q6 :: tl), q.2.cls ≠ c := by
  intro q hq
  rcases List.mem_cons.mp hq with rfl | hq
  · exact h1
  rcases List.mem_cons.mp hq with rfl | hq
  · exact h2
  rcases List.mem_cons.mp hq with rfl | hq
  · exact h3
  rcases List.mem_cons.mp hq with rfl | hq
  · exact h4
  rcases List.mem_cons.mp hq with rfl | hq
  · exact h5
  rcases List.mem_cons.mp hq with rfl | hq
  · exact h6
  rw [htl q hq]; exact ht
theorem inv0 {w : World} {g h : Heap} {L : Addr} {s : Shared} {nl I P D kl D' : Addr} {xs : List Value} {nn n tk : Nat} {gs : Array GenState} {m : Str → Option Value} {k : Int} {ta tb t1 t2 : Tok} {b1 b2 : Array Value} {o : Obj} (F : Fr g L h m) (mp : m (Str.ofString "path") = some (.ref P)) (mt : m (Str.ofString "text") = some (.str (Str.ofString "") t1)) (mk : m (Str.ofString "kept") = some (.ref kl)) (ms : m (Str.ofString "size") = some (.int k t2))
    (N : News g L h [(I, itO nl 0), (D', o), (kl, W.listOf #[] 0), (P, accO D [] n), (D, dictOf [sizeE w k ta tb] 1), (nl, W.listOf xs.toArray nn), (63, tabObj b1), (70, tabObj b2)]) (hb : AllBare gs) (r1 : TriplesOk b1.toList) (r2 : TriplesOk b2.toList) (h0 : 0 ≤ k) (h1 : k ≤ 3) :
    Inv w g L s nl I xs nn (xs.length + 1) ⟨h, gs, s.drawn, tk, s.os⟩ := by
  have N2 : News g L h ((I, itO nl 0) :: (nl, W.listOf xs.toArray nn) :: (P, accO D [] n) :: (D, dictOf [sizeE w k ta tb] 1) :: (63, tabObj b1) :: (70, tabObj b2) :: (kl, W.listOf ([] : List Value).toArray 0) :: []) :=
    nwC N (by k_mem) (nwC N (by k_mem) (nwC N (by k_mem) (nwC N (by k_mem) (nwC N (by k_mem) (nwC N (by k_mem) (nwC N (by k_mem) (fun _ h => nomatch h)))))))
  exact ⟨0, h, m, P, D, kl, [], [], n, 0, k, [], [], [], ta, tb, t1, t2, b1, b2, rfl, Nat.zero_le _, ⟨tk, gs, rfl, hb⟩, F, mp, by rw [textOf_nil]; exact mt, mk, ms, N2, (fun q hq => nomatch hq), r1, r2, .nil, .nil, (fun q hq => nomatch hq), (fun q hq => nomatch hq), Nat.le_refl _, Nat.le_refl _, h0, h1⟩
/-- a def's body is what the head laid -/
theorem sameFn {K : Frag} {f : Addr} {G : Prop} {name qual : Str} {params : Arguments} {body : List Stmt} {scope : Scope} {dV kV doc pm cdv ct oc : Value} {an od : Option Addr} {osl : Array (Option Value)}
    {name' qual' : Str} {params' : Arguments} {body' : List Stmt} {scope' : Scope} {dV' kV' doc' pm' cdv' ct' oc' : Value} {an' od' : Option Addr} {osl' : Array (Option Value)}
    (h1 : K.lookup f = some ⟨oc, od, .func (fnOf name qual params body scope dV kV doc pm an cdv ct), osl⟩)
    (h2 : K.lookup f = some ⟨oc', od', .func (fnOf name' qual' params' body' scope' dV' kV' doc' pm' an' cdv' ct'), osl'⟩)
    (h : qual = qual' → body = body' → scope = scope' → cdv = cdv' → G) : G := by
  have e := h1.symm.trans h2
  injection e with e
  injection e with _ _ e _
  injection e with e
  injection e
  apply h <;> first | assumption | (apply FuncBody.stmts.inj; assumption)
section
variable {prog : Program} {w : World} {A : Around} {E : Value → Shared → Prop} {g h : Heap} {L l : Addr} {m : Str → Option Value} {news : List (Addr × Obj)} {vs : List Value} {n : Nat} {gs : Array GenState} {dr : Drawn} {tk : Nat} {os : OsState} {value slice : Expr} {i : Int} {ti : Tok} {Q : Value → Shared → Prop}
theorem list_uptoN (F : Fr g L h m) (N : News g L h news) (hl : (l, W.listOf vs.toArray n) ∈ news) (hz : vs.length ≤ 500)
    (K : ∀ h' D, Fr g L h' m → News g L h' ((D, W.listOf (vs.take (cutAt vs.length i)).toArray 0) :: news) → Q (.ref D) ⟨h', gs, dr, tk, os⟩)
    (hq : subscripted slice false (.ref l) (.ref h.objs.size) = operate [.ref h.objs.size, .ref l] (getItem (.ref l) (.ref h.objs.size)) := by with_unfolding_all rfl) :
    wpAny (model prog w) A (subscriptTail value slice (.ref l) (.ref h.objs.size)) Q E ⟨h.push (slO .none (.int i ti)), gs, dr, tk, os⟩ := by
  refine list_upto (s := ⟨h.push (slO .none (.int i ti)), gs, dr, tk, os⟩) (vs := vs) (Heap.get?_push_of_some _ (N _ hl).1) (Heap.get?_push_size _ rfl) hz ?_ hq
  have F2 := F.push (slO .none (.int i ti))
  have N2 := N.push F (slO .none (.int i ti))
  have F3 := F2.push (W.listOf (vs.take (cutAt vs.length i)).toArray 0)
  have N3 := N2.push F2 (W.listOf (vs.take (cutAt vs.length i)).toArray 0)
  exact K _ _ F3 (nwC N3 (.head _) (newsSub N3 fun q hq => .tail _ (.tail _ hq)))
theorem list_fromN (F : Fr g L h m) (N : News g L h news) (hl : (l, W.listOf vs.toArray n) ∈ news) (hz : vs.length ≤ 500)
    (K : ∀ h' D, Fr g L h' m → News g L h' ((D, W.listOf (vs.drop (cutAt vs.length i)).toArray 0) :: news) → Q (.ref D) ⟨h', gs, dr, tk, os⟩)
    (hq : subscripted slice false (.ref l) (.ref h.objs.size) = operate [.ref h.objs.size, .ref l] (getItem (.ref l) (.ref h.objs.size)) := by with_unfolding_all rfl) :
    wpAny (model prog w) A (subscriptTail value slice (.ref l) (.ref h.objs.size)) Q E ⟨h.push (slO (.int i ti) .none), gs, dr, tk, os⟩ := by
  refine list_from (s := ⟨h.push (slO (.int i ti) .none), gs, dr, tk, os⟩) (vs := vs) (Heap.get?_push_of_some _ (N _ hl).1) (Heap.get?_push_size _ rfl) hz ?_ hq
  have F2 := F.push (slO (.int i ti) .none)
  have N2 := N.push F (slO (.int i ti) .none)
  have F3 := F2.push (W.listOf (vs.drop (cutAt vs.length i)).toArray 0)
  have N3 := N2.push F2 (W.listOf (vs.drop (cutAt vs.length i)).toArray 0)
  exact K _ _ F3 (nwC N3 (.head _) (newsSub N3 fun q hq => .tail _ (.tail _ hq)))
end
theorem mkMid {w : World} {g : Heap} {L : Addr} {s : Shared} {nl I : Addr} {xs : List Value} {nn i b : Nat} {h : Heap} {m : Str → Option Value} {P D kl pl al dl : Addr} {n nk np na nd : Nat} {k : Int} {ta tb t2 : Tok} {b1 b2 : Array Value} {news : List (Addr × Obj)} {gs : Array GenState} {tk : Nat}
    (vs kvs pvs avs dvs : List Value) (prs kps aps : List (Str × Str)) (tl : List (Addr × Obj)) (F : Fr g L h m) (N : News g L h news) (hb : AllBare gs)
    (path : m (Str.ofString "path") = some (.ref P)) (kept : m (Str.ofString "kept") = some (.ref kl)) (size : m (Str.ofString "size") = some (.int k t2)) (pairs : m (Str.ofString "pairs") = some (.ref pl)) (told : m (Str.ofString "told") = some (.ref al)) (due : m (Str.ofString "due") = some (.ref dl))
    (n1 : (I, itO nl i) ∈ news) (n2 : (nl, W.listOf xs.toArray nn) ∈ news) (n3 : (P, accO D vs n) ∈ news) (n4 : (D, dictOf [sizeE w k ta tb] 1) ∈ news) (n5 : (63, tabObj b1) ∈ news) (n6 : (70, tabObj b2) ∈ news) (n7 : (kl, W.listOf kvs.toArray nk) ∈ news) (n8 : (pl, W.listOf pvs.toArray np) ∈ news) (n9 : (al, W.listOf avs.toArray na) ∈ news) (n10 : (dl, W.listOf dvs.toArray nd) ∈ news) (nt : ∀ q ∈ tl, q ∈ news)
    (tup : ∀ q ∈ tl, q.2.cls = .type "tuple") (r1 : TriplesOk b1.toList) (r2 : TriplesOk b2.toList) (pv : PairsIn tl vs prs) (pk : PairsIn tl kvs kps) (pp : PairsIn tl pvs prs) (pa : PairsIn tl avs aps) (pd : PairsIn tl dvs aps)
    (gv : ∀ p ∈ prs, Good p) (gk : ∀ p ∈ kps, Good p) (lv : prs.length ≤ b) (lk : kps.length ≤ b) (la : aps.length ≤ 100) (ls : ∀ p ∈ aps, PyData.strOk p.1 = true ∧ PyData.strOk p.2 = true) (k0 : 0 ≤ k) (k1 : k ≤ 3) :
    Mid w g L s nl I xs nn i b ⟨h, gs, s.drawn, tk, s.os⟩ :=
  ⟨h, m, P, D, kl, pl, al, dl, vs, kvs, pvs, avs, dvs, n, nk, np, na, nd, k, prs, kps, aps, tl, ta, tb, t2, b1, b2, ⟨tk, gs, rfl, hb⟩, F, path, kept, size, pairs, told, due,
    newsSub N (subC n1 (subC n2 (subC n3 (subC n4 (subC n5 (subC n6 (subC n7 (subC n8 (subC n9 (subC n10 nt)))))))))), tup, r1, r2, pv, pk, pp, pa, pd, gv, gk, lv, lk, la, ls, k0, k1⟩
def Mid2 (w : World) (g : Heap) (L : Addr) (s : Shared) (nl I : Addr) (xs : List Value) (nn : Nat) (i b : Nat) (part : Int) (tpa : Tok) (s' : Shared) : Prop :=
  ∃ h m P D kl pl al dl vs kvs pvs avs dvs n nk np na nd k prs kps aps tl ta tb t2 b1 b2, MidT w g L s nl I xs nn i b s' h m P D kl pl al dl vs kvs pvs avs dvs n nk np na nd k prs kps aps tl ta tb t2 b1 b2 ∧ m (Str.ofString "part") = some (.int part tpa)
theorem mkMid2 {w : World} {g : Heap} {L : Addr} {s : Shared} {nl I : Addr} {xs : List Value} {nn i b : Nat} {h : Heap} {m : Str → Option Value} {P D kl pl al dl : Addr} {n nk np na nd : Nat} {k : Int} {ta tb t2 : Tok} {b1 b2 : Array Value} {news : List (Addr × Obj)} {gs : Array GenState} {tk : Nat} {part : Int} {tpa : Tok}
    (vs kvs pvs avs dvs : List Value) (prs kps aps : List (Str × Str)) (tl : List (Addr × Obj)) (F : Fr g L h m) (N : News g L h news) (hb : AllBare gs)
    (path : m (Str.ofString "path") = some (.ref P)) (kept : m (Str.ofString "kept") = some (.ref kl)) (size : m (Str.ofString "size") = some (.int k t2)) (pairs : m (Str.ofString "pairs") = some (.ref pl)) (told : m (Str.ofString "told") = some (.ref al)) (due : m (Str.ofString "due") = some (.ref dl))
    (mpart : m (Str.ofString "part") = some (.int part tpa)) (n1 : (I, itO nl i) ∈ news) (n2 : (nl, W.listOf xs.toArray nn) ∈ news) (n3 : (P, accO D vs n) ∈ news) (n4 : (D, dictOf [sizeE w k ta tb] 1) ∈ news) (n5 : (63, tabObj b1) ∈ news) (n6 : (70, tabObj b2) ∈ news) (n7 : (kl, W.listOf kvs.toArray nk) ∈ news) (n8 : (pl, W.listOf pvs.toArray np) ∈ news) (n9 : (al, W.listOf avs.toArray na) ∈ news) (n10 : (dl, W.listOf dvs.toArray nd) ∈ news) (nt : ∀ q ∈ tl, q ∈ news)
    (tup : ∀ q ∈ tl, q.2.cls = .type "tuple") (r1 : TriplesOk b1.toList) (r2 : TriplesOk b2.toList) (pv : PairsIn tl vs prs) (pk : PairsIn tl kvs kps) (pp : PairsIn tl pvs prs) (pa : PairsIn tl avs aps) (pd : PairsIn tl dvs aps)
    (gv : ∀ p ∈ prs, Good p) (gk : ∀ p ∈ kps, Good p) (lv : prs.length ≤ b) (lk : kps.length ≤ b) (la : aps.length ≤ 100) (ls : ∀ p ∈ aps, PyData.strOk p.1 = true ∧ PyData.strOk p.2 = true) (k0 : 0 ≤ k) (k1 : k ≤ 3) :
    Mid2 w g L s nl I xs nn i b part tpa ⟨h, gs, s.drawn, tk, s.os⟩ :=
  ⟨h, m, P, D, kl, pl, al, dl, vs, kvs, pvs, avs, dvs, n, nk, np, na, nd, k, prs, kps, aps, tl, ta, tb, t2, b1, b2, ⟨⟨tk, gs, rfl, hb⟩, F, path, kept, size, pairs, told, due,
    newsSub N (subC n1 (subC n2 (subC n3 (subC n4 (subC n5 (subC n6 (subC n7 (subC n8 (subC n9 (subC n10 nt)))))))))), tup, r1, r2, pv, pk, pp, pa, pd, gv, gk, lv, lk, la, ls, k0, k1⟩, mpart⟩
theorem PairsIn.append {tl : List (Addr × Obj)} {vs ws : List Value} {ps qs : List (Str × Str)} (x : PairsIn tl vs ps) (y : PairsIn tl ws qs) : PairsIn tl (vs ++ ws) (ps ++ qs) := by
  induction x with
  | nil => exact y
  | cons ha _ ih => exact .cons ha ih
theorem PairsIn.take {tl : List (Addr × Obj)} {vs : List Value} {ps : List (Str × Str)} (x : PairsIn tl vs ps) (n : Nat) : PairsIn tl (vs.take n) (ps.take n) := by
  induction x generalizing n with
  | nil => simp only [List.take_nil]; exact .nil
  | cons ha _ ih => cases n with
    | zero => exact .nil
    | succ n => exact .cons ha (ih n)
theorem PairsIn.drop {tl : List (Addr × Obj)} {vs : List Value} {ps : List (Str × Str)} (x : PairsIn tl vs ps) (n : Nat) : PairsIn tl (vs.drop n) (ps.drop n) := by
  induction x generalizing n with
  | nil => simp only [List.drop_nil]; exact .nil
  | cons ha hr ih => cases n with
    | zero => exact .cons ha hr
    | succ n => exact ih n
theorem cut_last (n : Nat) : cutAt (n + 1) (-1) = n := rfl
theorem freshG {g h : Heap} {L l : Addr} {m : Str → Option Value} (F : Fr g L h m) (hf : h.get? l = none) : l ≠ L ∧ g.get? l = none := by
  obtain ⟨oL, _, _, hL, _⟩ := F.ns
  refine ⟨fun e => ?_, ?_⟩
  · rw [e, hL] at hf; cases hf
  · cases e : g.get? l with
    | none => rfl
    | some o' => rw [F.keep _ _ e] at hf; cases hf
theorem fmod_in (a : Int) {b : Int} (h : 0 < b) : 0 ≤ a.fmod b ∧ a.fmod b < b := ⟨Int.fmod_nonneg_of_pos a h, Int.fmod_lt_of_pos a h⟩
theorem MidT.tok {w : World} {g : Heap} {L : Addr} {s : Shared} {nl I : Addr} {xs : List Value} {nn i b : Nat} {h : Heap} {m : Str → Option Value} {P D kl pl al dl : Addr} {vs kvs pvs avs dvs : List Value} {n nk np na nd : Nat} {k : Int} {prs kps aps : List (Str × Str)} {tl : List (Addr × Obj)} {ta tb t2 : Tok} {b1 b2 : Array Value} {h' : Heap} {gs : Array GenState} {dr : Drawn} {tk tk' : Nat} {os : OsState}
    (M : MidT w g L s nl I xs nn i b ⟨h', gs, dr, tk, os⟩ h m P D kl pl al dl vs kvs pvs avs dvs n nk np na nd k prs kps aps tl ta tb t2 b1 b2) : MidT w g L s nl I xs nn i b ⟨h', gs, dr, tk', os⟩ h m P D kl pl al dl vs kvs pvs avs dvs n nk np na nd k prs kps aps tl ta tb t2 b1 b2 := by
  obtain ⟨tk, gs, e, hb⟩ := M.st
  cases e
  exact { M with st := ⟨tk', gs, rfl, hb⟩ }
theorem ok_of {x : Str} (h : ∀ c ∈ x.cps.toList, c < 0x110000) : PyData.strOk x = true := by
  unfold PyData.strOk
  rw [← Array.all_toList]
  exact List.all_eq_true.mpr fun c hc => decide_eq_true (h c hc)
theorem of_ok {x : Str} (h : PyData.strOk x = true) : ∀ c ∈ x.cps.toList, c < 0x110000 := by
  unfold PyData.strOk at h
  rw [← Array.all_toList] at h
  exact fun c hc => of_decide_eq_true (List.all_eq_true.mp h c hc)
theorem Good.oks {p : Str × Str} (h : Good p) : PyData.strOk p.1 = true ∧ PyData.strOk p.2 = true := by
  refine ⟨ok_of fun c hc => ?_, h.ok⟩
  obtain ⟨k, _, _, hk⟩ := h.sl
  rw [hk] at hc
  rw [List.eq_of_mem_replicate hc]; decide
theorem textOf_ok {ps : List (Str × Str)} (h : ∀ p ∈ ps, Good p) : PyData.strOk (textOf ps) = true := ok_of fun c hc => by
  rw [textOf_cl] at hc
  obtain ⟨l, hl, hc⟩ := List.mem_flatten.mp hc
  obtain ⟨p, hp, rfl⟩ := List.mem_map.mp hl
  rcases List.mem_append.mp hc with hc | hc
  · exact of_ok (h p hp).oks.1 c hc
  · exact of_ok (h p hp).oks.2 c hc
theorem ok_nil : PyData.strOk (Str.ofString "") = true := ok_of (by rw [str_nil]; intro c hc; simp at hc)
theorem sameIf {K : Frag} {f : Addr} {G : Prop} {name qual : Str} {params : Arguments} {s0 st1 sif : Stmt} {tg it : Expr} {rest orl rs : List Stmt} {pos1 : Pos} {scope : Scope} {dV kV doc pm cdv ct oc : Value} {an od : Option Addr} {osl : Array (Option Value)}
    {name' qual' : Str} {params' : Arguments} {s0' st1' sif' : Stmt} {tg' it' : Expr} {rest' orl' rs' : List Stmt} {pos1' : Pos} {scope' : Scope} {dV' kV' doc' pm' cdv' ct' oc' : Value} {an' od' : Option Addr} {osl' : Array (Option Value)}
    (h1 : K.lookup f = some ⟨oc, od, .func (fnOf name qual params (s0 :: .For tg it (st1 :: sif :: rest) orl pos1 :: rs) scope dV kV doc pm an cdv ct), osl⟩)
    (h2 : K.lookup f = some ⟨oc', od', .func (fnOf name' qual' params' (s0' :: .For tg' it' (st1' :: sif' :: rest') orl' pos1' :: rs') scope' dV' kV' doc' pm' an' cdv' ct'), osl'⟩)
    (h : qual = qual' → st1 = st1' → sif = sif' → rest = rest' → scope = scope' → cdv = cdv' → G) : G :=
  sameFn h1 h2 fun e1 e2 e3 e4 => by
    injection e2 with _ e2
    injection e2 with e2 _
    injection e2 with _ _ e2 _ _
    injection e2 with e5 e2
    injection e2 with e6 e7
    exact h e1 e5 e6 e7 e3 e4
end Mine
end
section
open PySem PySem.W PyProof.Rows PySem.Calls
set_option maxRecDepth 100000
set_option maxHeartbeats 2000000
namespace Mine
theorem fillAg3 : PySem.Challenge.rw_mr0062_01 = PySem.Challenge.rw_mr0062_01 ∧ hd.heap_39 = hd.heap_39 := by
  k_fill
  w_top off
  exact ⟨rfl, rfl⟩
local macro_rules | `(tactic| k_inst) => `(tactic| (refine' instAcc ?N ?h1 ?h2; (case N => k_asm); (case h1 => k_mem); (case h2 => k_mem)))
local macro_rules | `(tactic| k_steps) => `(tactic| repeat' (first
  | (k_unfold; (try dsimp only))
  | ((with_reducible show wpAny _ _ (exec (Stmt.If _ _ _ _) _) _ _ _); refine wpAny_If ?_)
  | ((with_reducible show wpAny _ _ (eval (Expr.IfExp _ _ _ _) _) _ _ _); refine wpAny_IfExp ?_)
  | ((fail_if_success (with_reducible show wpAny _ _ (exec (Stmt.While _ _ _ _) _) _ _ _));
     (fail_if_success (with_reducible show wpAny _ _ (exec (Stmt.For _ _ _ _ _) _) _ _ _));
     (fail_if_success (with_reducible show wpAny _ _ (eval (Expr.ListComp _ _ _ _) _) _ _ _));
     (fail_if_success (with_reducible show wpAny _ _ (eval (Expr.GeneratorExp _ _ _ _) _) _ _ _));
     (fail_if_success (with_reducible show wpAny _ _ (subscriptTail _ _ (Value.ref _) _) _ _ _));
     (fail_if_success (with_reducible show wpAny _ _ (compareOp _ (Value.ref _) (Value.ref _)) _ _ _));
     (fail_if_success (with_reducible show wpAny _ _ (binaryOp _ (Value.ref _) (Value.ref _)) _ _ _));
     (fail_if_success (with_reducible show wpAny _ _ (getMethod (Value.ref _) _ _) _ _ _));
     (fail_if_success (with_reducible show wpAny _ _ (call (Value.ref _) _ _) _ _ _));
     (first | walk1 | (dsimp only; walk1) | (leave1; try dsimp only)))
  | fail "no step"))
section
variable {prog : Program} {w : World} {s : Shared} {hS : Heap} {p : Program} {loose : List Str} {mean : ExcName → Option Value} {mg mb : Str → Option Value} {E : Value → Shared → Prop}
  (pf : ((prog.main.file : Str) == Str.ofString "/claim/cut.py") = true) (ps : (prog.main.scope.names.lookup ("super" : Str)).isSome = false)
  (XS : (hd.heap_39 w.params).In hS) (TS : Top p loose mean mg mb hS)
include pf ps XS TS
theorem deed_pop {name qual : Str} {params : Arguments} {s0 sif st1 : Stmt} {tg it : Expr} {rest orl rs : List Stmt} {pos1 : Pos} {scope : Scope} {dV kV doc pm cdv ct oc : Value} {an od : Option Addr} {osl : Array (Option Value)}
    {g : Heap} {L nl I : Addr} {xs : List Value} {nn i b : Nat} {s1 : Shared} {h : Heap} {m : Str → Option Value} {P D kl pl al dl : Addr} {vs kvs pvs avs dvs : List Value} {n nk np na nd : Nat} {k : Int} {prs kps aps : List (Str × Str)} {tl : List (Addr × Obj)} {ta tb t2 tki tpa : Tok} {b1 b2 : Array Value} {part : Int}
    (ho : (hd.heap_39 w.params).lookup 211 = some ⟨oc, od, .func (fnOf name qual params (s0 :: .For tg it (st1 :: sif :: rest) orl pos1 :: rs) scope dV kV doc pm an cdv ct), osl⟩)
    (X' : (hd.heap_39 w.params).In g) (T' : Top p loose mean mg mb g) (st' : hS.StaysIn g) (hb22 : b ≤ 22)
    (M : MidT w g L s nl I xs nn i b s1 h m P D kl pl al dl vs kvs pvs avs dvs n nk np na nd k prs kps aps tl ta tb t2 b1 b2)
    (mk2 : m (Str.ofString "kind") = some (.int 2 tki)) (mp2 : m (Str.ofString "part") = some (.int part tpa)) :
    wpAny (model prog w) ((AA 2).deeper (envOf qual scope L 211 cdv)) (execs [sif] (envOf qual scope L 211 cdv)) (fun f s' => f = .next ∧ Mid w g L s nl I xs nn i (b + 1) s') E s1 := by
  k_dflt (refine' sameIf ho ?k2 ?_; (case k2 => k_is))
  intro e1 e2 e3 e4 e5 e6
  clear ho e2
  subst e1 e3 e4 e5 e6
  obtain ⟨⟨tk, gs, rfl, hbs⟩, F1, mp, mk, ms, mpr, mto, mdu, N, htl, r1, r2, pv, pk, pp, pa, pd, gv, gk, lv, lk, la, ls, k0, k1⟩ := M
  have F : Fr g L h _ := frL [(Str.ofString "path", .ref P), (Str.ofString "kept", .ref kl), (Str.ofString "size", .int k t2), (Str.ofString "pairs", .ref pl), (Str.ofString "told", .ref al), (Str.ofString "due", .ref dl), (Str.ofString "kind", .int 2 tki), (Str.ofString "part", .int part tpa)] F1 (by
    simp only [List.forall_mem_cons]
    exact ⟨mp, mk, ms, mpr, mto, mdu, mk2, mp2, fun _ h => nomatch h⟩)
  dsimp only [iteL] at F
  clear F1 mp mk ms mpr mto mdu mk2 mp2
  have hvl := pv.length
  have hpl := pp.length
  have hSp := (newsNone N st')
  k_steps
  refine acc_method (XS.keeps (frStat F st')) (N _ (.tail _ (.tail _ (.head _)))).1 (N _ (.tail _ (.tail _ (.tail _ (.head _))))).1 (by k_is) (by k_is) (dget (by decide)) ?_
  k_steps
  refine wide (A := AA 4) rfl (Nat.le_of_ble_eq_true rfl) (Nat.le_of_ble_eq_true rfl) rfl rfl (pop_s (P := P) (D := D) (vs := vs) (k := k) pf ps XS TS (frStat F st') ⟨(N _ (.tail _ (.tail _ (.head _)))).1, (hSp _ (.tail _ (.tail _ (.head _)))).2, (hSp _ (.tail _ (.tail _ (.tail _ (.head _))))).2, _, _, (N _ (.tail _ (.tail _ (.tail _ (.head _))))).1⟩ (by omega) ?q0 ?q1)
  case q0 =>
    intro hv h3 tk3 T t31 t32 U3 fT hT
    have F3 := frUp F U3
    have N3 := newsAdd F N U3 hT fT
    clear F N
    have hpr : prs = [] := List.eq_nil_of_length_eq_zero (by rw [← hvl, hv]; rfl)
    have hpv : pvs = [] := List.eq_nil_of_length_eq_zero (by rw [hpl, hpr]; rfl)
    subst hv hpr
    k_steps
    (rename Fr _ _ _ _ => F); (rename News _ _ _ _ => N)
    refine ne_nil (ps := []) (vs := pvs) (N (pl, W.listOf pvs.toArray np) (by k_mem)).1 (N _ (.head _)).1 (by rw [hpv]; exact .nil) (fun _ h => nomatch h) (Nat.le_of_ble_eq_true rfl) ?_
    dsimp only [List.isEmpty, Bool.not_true]
    k_steps
    (rename Fr _ _ _ _ => F); (rename News _ _ _ _ => N)
    refine list_uptoN (vs := pvs) (n := np) F N (by k_mem) (by omega) fun h5 D5 F5 N5 => ?_
    clear F N
    k_steps
    (rename Fr _ _ _ _ => F); (rename News _ _ _ _ => N)
    have e0 : pvs.take (cutAt pvs.length (-1)) = [] := by rw [hpv]; rfl
    rw [e0] at N
    exact mkMid [] kvs [] [.ref T] [.ref _] [] kps [(Str.ofString "", Str.ofString "")] ((T, tupO (Str.ofString "", Str.ofString "") t31 t32) :: (_, tupO (Str.ofString "", Str.ofString "") _ _) :: tl) F N hbs rfl rfl rfl rfl rfl rfl (by k_mem) (by k_mem) (by k_mem) (by k_mem) (by k_mem) (by k_mem) (by k_mem) (by k_mem) (by k_mem) (by k_mem) (subC (by k_mem) (subC (by k_mem) fun q hq => (by repeat (first | exact hq | refine List.Mem.tail _ ?_))))
      (tupC rfl (tupC rfl htl)) r1 r2 .nil (pk.mono fun q hq => .tail _ (.tail _ hq)) .nil (.cons (.head _) .nil) (.cons (.tail _ (.head _)) .nil) (fun _ h => nomatch h) gk (Nat.zero_le _) (Nat.le_succ_of_le lk) (Nat.le_of_ble_eq_true rfl)
      (fun p hp => by rw [List.mem_singleton.mp hp]; exact ⟨ok_nil, ok_nil⟩) k0 k1
  case q1 =>
    intro ws v hv h3 tk3 n3 U3 C3
    obtain ⟨hP3, hsp3, hsd3, ta3, tb3, hD3⟩ := C3
    subst hv
    obtain ⟨F3, N3⟩ := two (rest := (I, itO nl i) :: (nl, W.listOf xs.toArray nn) :: (63, tabObj b1) :: (70, tabObj b2) :: (kl, W.listOf kvs.toArray nk) :: (pl, W.listOf pvs.toArray np) :: (al, W.listOf avs.toArray na) :: (dl, W.listOf dvs.toArray nd) :: tl) F N (.tail _ (.tail _ (.head _))) (.tail _ (.tail _ (.tail _ (.head _)))) U3 hP3 hD3 (ok2_cons ⟨by k_mem, by simp, by simp⟩ (ok2_cons ⟨by k_mem, by simp, by simp⟩ (ok2_cons ⟨by k_mem, by simp, by simp⟩ (ok2_cons ⟨by k_mem, by simp, by simp⟩ (ok2_cons ⟨by k_mem, by simp, by simp⟩ (ok2_cons ⟨by k_mem, by simp, by simp⟩ (ok2_cons ⟨by k_mem, by simp, by simp⟩ (ok2_cons ⟨by k_mem, by simp, by simp⟩ fun q hq => ⟨(by repeat (first | exact hq | refine List.Mem.tail _ ?_)), by rw [htl q hq]; simp, by rw [htl q hq]; simp⟩))))))))
    obtain ⟨ini, pr, hpr⟩ : ∃ ini pr, prs = ini ++ [pr] := by
      rcases List.eq_nil_or_concat prs with rfl | ⟨a, b, e⟩
      · simp at hvl
      · exact ⟨a, b, by rw [e, List.concat_eq_append]⟩
    subst hpr
    clear F N
    k_steps
    (rename Fr _ _ _ _ => F); (rename News _ _ _ _ => N)
    refine ne_nil (ps := ini ++ [pr]) (vs := pvs) (N (pl, W.listOf pvs.toArray np) (by k_mem)).1 (N _ (.head _)).1 (pp.at fun q hq => (N q (by repeat (first | exact hq | refine List.Mem.tail _ ?_))).1) (fun p hp => (gv p hp).oks) (Nat.le_of_ble_eq_true rfl) ?_
    have e9 : (!(ini ++ [pr]).isEmpty) = true := by simp
    rw [e9]
    k_steps
    (rename Fr _ _ _ _ => F); (rename News _ _ _ _ => N)
    refine list_fromN (vs := pvs) (n := np) F N (by k_mem) (by omega) fun h5 D5 F5 N5 => ?_
    clear F N
    k_steps
    (rename Fr _ _ _ _ => F); (rename News _ _ _ _ => N)
    refine list_uptoN (vs := pvs) (n := np) F N (by k_mem) (by omega) fun h6 D6 F6 N6 => ?_
    clear F N
    k_steps
    (rename Fr _ _ _ _ => F); (rename News _ _ _ _ => N)
    have hwi : ws.length = ini.length := by simpa using hvl
    have hcu : cutAt pvs.length (-1) = ini.length := by rw [hpl, List.length_append]; exact cut_last _
    rw [hcu] at N
    have pw := pv.take ini.length
    rw [List.take_left' hwi, List.take_left] at pw
    have p1 := pp.take ini.length
    rw [List.take_left] at p1
    have p2 := pp.drop ini.length
    rw [List.drop_left] at p2
    have p3 := pv.drop ini.length
    rw [List.drop_left' hwi, List.drop_left] at p3
    rw [List.length_append] at lv
    exact mkMid ws kvs _ [v] _ ini kps [pr] tl F N hbs rfl rfl rfl rfl rfl rfl (by k_mem) (by k_mem) (by k_mem) (by k_mem) (by k_mem) (by k_mem) (by k_mem) (by k_mem) (by k_mem) (by k_mem) (fun q hq => (by repeat (first | exact hq | refine List.Mem.tail _ ?_)))
      htl r1 r2 pw pk p1 p3 p2 (fun p hp => gv p (List.mem_append_left _ hp)) gk (by omega) (Nat.le_succ_of_le lk) (Nat.le_of_ble_eq_true rfl)
      (fun p hp => (gv p (List.mem_append_right _ hp)).oks) k0 k1
end
end Mine
end
section
open PySem PySem.W PyProof.Rows PySem.Calls
set_option maxRecDepth 100000
set_option maxHeartbeats 2000000
namespace Mine
theorem fillAg4 : PySem.Challenge.rw_mr0062_01 = PySem.Challenge.rw_mr0062_01 ∧ hd.heap_39 = hd.heap_39 := by
  k_fill
  w_top off
  exact ⟨rfl, rfl⟩
-- execs2 guard
local macro_rules | `(tactic| k_inst) => `(tactic| (refine' instAcc ?N ?h1 ?h2; (case N => k_asm); (case h1 => k_mem); (case h2 => k_mem)))
local macro_rules | `(tactic| k_steps) => `(tactic| repeat' (first
  | (k_unfold; (try dsimp only))
  | ((with_reducible show wpAny _ _ (exec (Stmt.If _ _ _ _) _) _ _ _); refine wpAny_If ?_)
  | ((with_reducible show wpAny _ _ (eval (Expr.IfExp _ _ _ _) _) _ _ _); refine wpAny_IfExp ?_)
  | ((fail_if_success (with_reducible show wpAny _ _ (exec (Stmt.While _ _ _ _) _) _ _ _));
     (fail_if_success (with_reducible show wpAny _ _ (exec (Stmt.For _ _ _ _ _) _) _ _ _));
     (fail_if_success (with_reducible show wpAny _ _ (eval (Expr.ListComp _ _ _ _) _) _ _ _));
     (fail_if_success (with_reducible show wpAny _ _ (eval (Expr.GeneratorExp _ _ _ _) _) _ _ _));
     (fail_if_success (with_reducible show wpAny _ _ (execs [_, _] _) _ _ _));
     (fail_if_success (with_reducible show wpAny _ _ (subscriptTail _ _ (Value.ref _) _) _ _ _));
     (fail_if_success (with_reducible show wpAny _ _ (compareOp _ (Value.ref _) (Value.ref _)) _ _ _));
     (fail_if_success (with_reducible show wpAny _ _ (binaryOp _ (Value.ref _) (Value.ref _)) _ _ _));
     (fail_if_success (with_reducible show wpAny _ _ (getMethod (Value.ref _) _ _) _ _ _));
     (fail_if_success (with_reducible show wpAny _ _ (call (Value.ref _) _ _) _ _ _));
     (first | walk1 | (dsimp only; walk1) | (leave1; try dsimp only)))
  | fail "no step"))
section
variable {prog : Program} {w : World} {s : Shared} {hS : Heap} {p : Program} {loose : List Str} {mean : ExcName → Option Value} {mg mb : Str → Option Value} {E : Value → Shared → Prop}
  (XS : (hd.heap_39 w.params).In hS) (TS : Top p loose mean mg mb hS)
include XS TS
theorem from_tail {t2' t3' : Expr} {bb2 r2 r4 : List Stmt} {a1 : Stmt} {p2' p3' : Pos} {name qual : Str} {params : Arguments} {s0 st1 : Stmt} {tg it : Expr} {rest orl rs : List Stmt} {pos1 : Pos} {scope : Scope} {dV kV doc pm cdv ct oc : Value} {an od : Option Addr} {osl : Array (Option Value)}
    {g : Heap} {L nl I : Addr} {xs : List Value} {nn i b : Nat} {s1 : Shared} {h : Heap} {m : Str → Option Value} {P D kl pl al dl : Addr} {vs kvs pvs avs dvs : List Value} {n nk np na nd : Nat} {k : Int} {prs kps aps : List (Str × Str)} {tl : List (Addr × Obj)} {ta tb t2 tki tpa : Tok} {b1 b2 : Array Value} {part : Int}
    (ho : (hd.heap_39 w.params).lookup 211 = some ⟨oc, od, .func (fnOf name qual params (s0 :: .For tg it (st1 :: .If t2' bb2 [.If t3' (a1 :: r2) r4 p3'] p2' :: rest) orl pos1 :: rs) scope dV kV doc pm an cdv ct), osl⟩)
    (X' : (hd.heap_39 w.params).In g) (T' : Top p loose mean mg mb g) (st' : hS.StaysIn g) (hb22 : b ≤ 22)
    (M : MidT w g L s nl I xs nn i b s1 h m P D kl pl al dl vs kvs pvs avs dvs n nk np na nd k prs kps aps tl ta tb t2 b1 b2) {place : Int} (h1 : -100 ≤ place) (h2 : place ≤ 100) (mp2 : m (Str.ofString "place") = some (.int place tpa)) :
    wpAny (model prog w) ((AA 2).deeper (envOf qual scope L 211 cdv)) (execs r2 (envOf qual scope L 211 cdv)) (fun f s' => f = .next ∧ Mid w g L s nl I xs nn i (b + 1) s') E s1 := by
  k_dflt (refine' sameIf ho ?k2 ?_; (case k2 => k_is))
  intro e1 e2 e3 e4 e5 e6
  clear ho e2
  injection e3 with _ _ e3 _
  injection e3 with e3 _
  injection e3 with _ e3 _ _
  injection e3 with _ e3
  subst e1 e3 e4 e5 e6
  obtain ⟨⟨tk, gs, rfl, hbs⟩, F1, mp, mk, ms, mpr, mto, mdu, N, htl, r1, r2, pv, pk, pp, pa, pd, gv, gk, lv, lk, la, ls, k0, k1⟩ := M
  have F : Fr g L h _ := frL [(Str.ofString "path", .ref P), (Str.ofString "kept", .ref kl), (Str.ofString "size", .int k t2), (Str.ofString "pairs", .ref pl), (Str.ofString "told", .ref al), (Str.ofString "due", .ref dl), (Str.ofString "place", .int place tpa)] F1 (by
    simp only [List.forall_mem_cons]
    exact ⟨mp, mk, ms, mpr, mto, mdu, mp2, fun _ h => nomatch h⟩)
  dsimp only [iteL] at F
  clear F1 mp mk ms mpr mto mdu mp2
  have hvl := pv.length
  have hpl := pp.length
  have hSp := (newsNone N st')
  refine wpAny_execs_cons ?_
  k_steps
  refine acc_method (XS.keeps (frStat F st')) (N (P, accO D vs n) (by k_mem)).1 (N (D, dictOf [sizeE w k ta tb] 1) (by k_mem)).1 (by k_is) (by k_is) (dget (by decide)) ?_
  k_steps
  refine wide (A := AA 4) rfl (Nat.le_of_ble_eq_true rfl) (Nat.le_of_ble_eq_true rfl) rfl rfl (pop_from_s (P := P) (D := D) (vs := vs) (k := k) XS TS (frStat F st') ⟨(N (P, accO D vs n) (by k_mem)).1, (hSp (P, accO D vs n) (by k_mem)).2, (hSp (D, dictOf [sizeE w k ta tb] 1) (by k_mem)).2, _, _, (N (D, dictOf [sizeE w k ta tb] 1) (by k_mem)).1⟩ (by omega) (by omega) (by omega) fun h3 tk3 l n3 U3 fl hl3 C3 => ?_)
  obtain ⟨hP3, hsp3, hsd3, ta3, tb3, hD3⟩ := C3
  obtain ⟨F3, N3⟩ := two (rest := (I, itO nl i) :: (nl, W.listOf xs.toArray nn) :: (63, tabObj b1) :: (70, tabObj b2) :: (kl, W.listOf kvs.toArray nk) :: (pl, W.listOf pvs.toArray np) :: (al, W.listOf avs.toArray na) :: (dl, W.listOf dvs.toArray nd) :: tl) F N (by k_mem) (by k_mem) U3 hP3 hD3 (ok2_cons ⟨by k_mem, by simp, by simp⟩ (ok2_cons ⟨by k_mem, by simp, by simp⟩ (ok2_cons ⟨by k_mem, by simp, by simp⟩ (ok2_cons ⟨by k_mem, by simp, by simp⟩ (ok2_cons ⟨by k_mem, by simp, by simp⟩ (ok2_cons ⟨by k_mem, by simp, by simp⟩ (ok2_cons ⟨by k_mem, by simp, by simp⟩ (ok2_cons ⟨by k_mem, by simp, by simp⟩ fun q hq => ⟨(by repeat (first | exact hq | refine List.Mem.tail _ ?_)), by rw [htl q hq]; simp, by rw [htl q hq]; simp⟩))))))))
  have N4 := newsPut N3 (freshG F fl) hl3
  clear F N N3
  k_steps
  (rename Fr _ _ _ _ => F); (rename News _ _ _ _ => N)
  refine list_fromN (vs := pvs) (n := np) F N (by k_mem) (by omega) fun h5 D5 F5 N5 => ?_
  clear F N
  k_steps
  (rename Fr _ _ _ _ => F); (rename News _ _ _ _ => N)
  refine list_uptoN (vs := pvs) (n := np) F N (by k_mem) (by omega) fun h6 D6 F6 N6 => ?_
  clear F N
  k_steps
  (rename Fr _ _ _ _ => F); (rename News _ _ _ _ => N)
  rw [show pvs.length = vs.length by omega] at N
  exact mkMid (vs.take _) (vs.drop _) (pvs.take _) (vs.drop _) (pvs.drop _) (prs.take _) (prs.drop _) (prs.drop _) tl F N hbs rfl rfl rfl rfl rfl rfl (by k_mem) (by k_mem) (by k_mem) (by k_mem) (by k_mem) (by k_mem) (by k_mem) (by k_mem) (by k_mem) (by k_mem) (fun q hq => (by repeat (first | exact hq | refine List.Mem.tail _ ?_)))
    htl r1 r2 (pv.take _) (pv.drop _) (pp.take _) (pv.drop _) (pp.drop _) (fun p hp => gv p (List.mem_of_mem_take hp)) (fun p hp => gv p (List.mem_of_mem_drop hp)) (by rw [List.length_take]; omega) (by rw [List.length_drop]; omega) (by rw [List.length_drop]; omega)
    (fun p hp => (gv p (List.mem_of_mem_drop hp)).oks) k0 k1
theorem deed_from3 {t2' t3' : Expr} {bb2 r2 r4 : List Stmt} {a1 : Stmt} {p2' p3' : Pos} {name qual : Str} {params : Arguments} {s0 st1 : Stmt} {tg it : Expr} {rest orl rs : List Stmt} {pos1 : Pos} {scope : Scope} {dV kV doc pm cdv ct oc : Value} {an od : Option Addr} {osl : Array (Option Value)}
    {g : Heap} {L nl I : Addr} {xs : List Value} {nn i b : Nat} {s1 : Shared} {h : Heap} {m : Str → Option Value} {P D kl pl al dl : Addr} {vs kvs pvs avs dvs : List Value} {n nk np na nd : Nat} {k : Int} {prs kps aps : List (Str × Str)} {tl : List (Addr × Obj)} {ta tb t2 tki tpa : Tok} {b1 b2 : Array Value} {part : Int}
    (ho : (hd.heap_39 w.params).lookup 211 = some ⟨oc, od, .func (fnOf name qual params (s0 :: .For tg it (st1 :: .If t2' bb2 [.If t3' (a1 :: r2) r4 p3'] p2' :: rest) orl pos1 :: rs) scope dV kV doc pm an cdv ct), osl⟩)
    (X' : (hd.heap_39 w.params).In g) (T' : Top p loose mean mg mb g) (st' : hS.StaysIn g) (hb22 : b ≤ 22)
    (M : MidT w g L s nl I xs nn i b s1 h m P D kl pl al dl vs kvs pvs avs dvs n nk np na nd k prs kps aps tl ta tb t2 b1 b2)
    (mk2 : m (Str.ofString "kind") = some (.int 3 tki)) (mp2 : m (Str.ofString "part") = some (.int part tpa)) :
    wpAny (model prog w) ((AA 2).deeper (envOf qual scope L 211 cdv)) (execs [.If t2' bb2 [.If t3' (a1 :: r2) r4 p3'] p2'] (envOf qual scope L 211 cdv)) (fun f s' => f = .next ∧ Mid w g L s nl I xs nn i (b + 1) s') E s1 := by
  have hq : ∀ s2 E' h2 m2 tk2 place, -100 ≤ place → place ≤ 100 → MidT w g L s nl I xs nn i b s2 h2 m2 P D kl pl al dl vs kvs pvs avs dvs n nk np na nd k prs kps aps tl ta tb t2 b1 b2 → m2 (Str.ofString "place") = some (.int place tk2) → wpAny (model prog w) ((AA 2).deeper (envOf qual scope L 211 cdv)) (execs r2 (envOf qual scope L 211 cdv)) (fun f s' => f = .next ∧ Mid w g L s nl I xs nn i (b + 1) s') E' s2 := fun s2 E' h2 m2 tk2 place hp1 hp2 M2 mp => from_tail (part := part) (tki := tki) XS TS ho X' T' st' hb22 M2 hp1 hp2 mp
  have M0 := M
  k_dflt (refine' sameIf ho ?k2 ?_; (case k2 => k_is))
  intro e1 e2 e3 e4 e5 e6
  clear ho e2
  injection e3 with e7 e8 e3 e10
  injection e3 with e3 _
  injection e3 with e11 e12 e13 e14
  injection e12 with e15 e16
  subst e1 e4 e5 e6 e7 e8 e10 e11 e13 e14 e15 e16
  obtain ⟨⟨tk, gs, rfl, hbs⟩, F1, mp, mk, ms, mpr, mto, mdu, N, htl, r1, r2', pv, pk, pp, pa, pd, gv, gk, lv, lk, la, ls, k0, k1⟩ := M
  have F : Fr g L h _ := frL [(Str.ofString "path", .ref P), (Str.ofString "kept", .ref kl), (Str.ofString "size", .int k t2), (Str.ofString "pairs", .ref pl), (Str.ofString "told", .ref al), (Str.ofString "due", .ref dl), (Str.ofString "kind", .int 3 tki), (Str.ofString "part", .int part tpa)] F1 (by
    simp only [List.forall_mem_cons]
    exact ⟨mp, mk, ms, mpr, mto, mdu, mk2, mp2, fun _ h => nomatch h⟩)
  dsimp only [iteL] at F
  clear F1 mp mk ms mpr mto mdu mk2 mp2
  have hpl := pp.length
  k_steps
  (rename Fr _ _ _ _ => F); (rename News _ _ _ _ => N)
  refine kun_lenL (items := pvs.toArray) (k := (prs.length : Int)) (News.isList N (by k_mem)) (by simp [hpl]) (by omega) ?_
  have hz : 0 < (prs.length : Int) + 1 := by omega
  have hf := fmod_in part hz
  k_steps
  (rename Fr _ _ _ _ => F); (rename News _ _ _ _ => N)
  refine wpAny_mono (hq _ (fun _ _ => False) _ _ _ _ (by omega) (by omega) ⟨⟨_, _, rfl, hbs⟩, F, rfl, rfl, rfl, rfl, rfl, rfl, N, htl, r1, r2', pv, pk, pp, pa, pd, gv, gk, lv, lk, la, ls, k0, k1⟩ rfl) (fun f s' hf => ?_) (fun _ _ h => h.elim)
  obtain ⟨rfl, hf⟩ := hf
  k_steps
  exact hf
theorem deed_from4 {t2' t3' : Expr} {bb2 r2 r4 : List Stmt} {a1 : Stmt} {p2' p3' : Pos} {name qual : Str} {params : Arguments} {s0 st1 : Stmt} {tg it : Expr} {rest orl rs : List Stmt} {pos1 : Pos} {scope : Scope} {dV kV doc pm cdv ct oc : Value} {an od : Option Addr} {osl : Array (Option Value)}
    {g : Heap} {L nl I : Addr} {xs : List Value} {nn i b : Nat} {s1 : Shared} {h : Heap} {m : Str → Option Value} {P D kl pl al dl : Addr} {vs kvs pvs avs dvs : List Value} {n nk np na nd : Nat} {k : Int} {prs kps aps : List (Str × Str)} {tl : List (Addr × Obj)} {ta tb t2 tki tpa : Tok} {b1 b2 : Array Value} {part : Int}
    (ho : (hd.heap_39 w.params).lookup 211 = some ⟨oc, od, .func (fnOf name qual params (s0 :: .For tg it (st1 :: .If t2' bb2 [.If t3' (a1 :: r2) r4 p3'] p2' :: rest) orl pos1 :: rs) scope dV kV doc pm an cdv ct), osl⟩)
    (X' : (hd.heap_39 w.params).In g) (T' : Top p loose mean mg mb g) (st' : hS.StaysIn g) (hb22 : b ≤ 22)
    (M : MidT w g L s nl I xs nn i b s1 h m P D kl pl al dl vs kvs pvs avs dvs n nk np na nd k prs kps aps tl ta tb t2 b1 b2)
    (mk2 : m (Str.ofString "kind") = some (.int 4 tki)) (mp2 : m (Str.ofString "part") = some (.int part tpa)) :
    wpAny (model prog w) ((AA 2).deeper (envOf qual scope L 211 cdv)) (execs [.If t2' bb2 [.If t3' (a1 :: r2) r4 p3'] p2'] (envOf qual scope L 211 cdv)) (fun f s' => f = .next ∧ Mid w g L s nl I xs nn i (b + 1) s') E s1 := by
  have hq : ∀ s2 E' h2 m2 tk2 place, -100 ≤ place → place ≤ 100 → MidT w g L s nl I xs nn i b s2 h2 m2 P D kl pl al dl vs kvs pvs avs dvs n nk np na nd k prs kps aps tl ta tb t2 b1 b2 → m2 (Str.ofString "place") = some (.int place tk2) → wpAny (model prog w) ((AA 2).deeper (envOf qual scope L 211 cdv)) (execs r2 (envOf qual scope L 211 cdv)) (fun f s' => f = .next ∧ Mid w g L s nl I xs nn i (b + 1) s') E' s2 := fun s2 E' h2 m2 tk2 place hp1 hp2 M2 mp => from_tail (part := part) (tki := tki) XS TS ho X' T' st' hb22 M2 hp1 hp2 mp
  have M0 := M
  k_dflt (refine' sameIf ho ?k2 ?_; (case k2 => k_is))
  intro e1 e2 e3 e4 e5 e6
  clear ho e2
  injection e3 with e7 e8 e3 e10
  injection e3 with e3 _
  injection e3 with e11 e12 e13 e14
  injection e12 with e15 e16
  subst e1 e4 e5 e6 e7 e8 e10 e11 e13 e14 e15 e16
  obtain ⟨⟨tk, gs, rfl, hbs⟩, F1, mp, mk, ms, mpr, mto, mdu, N, htl, r1, r2', pv, pk, pp, pa, pd, gv, gk, lv, lk, la, ls, k0, k1⟩ := M
  have F : Fr g L h _ := frL [(Str.ofString "path", .ref P), (Str.ofString "kept", .ref kl), (Str.ofString "size", .int k t2), (Str.ofString "pairs", .ref pl), (Str.ofString "told", .ref al), (Str.ofString "due", .ref dl), (Str.ofString "kind", .int 4 tki), (Str.ofString "part", .int part tpa)] F1 (by
    simp only [List.forall_mem_cons]
    exact ⟨mp, mk, ms, mpr, mto, mdu, mk2, mp2, fun _ h => nomatch h⟩)
  dsimp only [iteL] at F
  clear F1 mp mk ms mpr mto mdu mk2 mp2
  have hpl := pp.length
  k_steps
  (rename Fr _ _ _ _ => F); (rename News _ _ _ _ => N)
  have hf := fmod_in part (show (0 : Int) < 3 by decide)
  refine wpAny_mono (hq _ (fun _ _ => False) _ _ _ _ (by omega) (by omega) ⟨⟨_, _, rfl, hbs⟩, F, rfl, rfl, rfl, rfl, rfl, rfl, N, htl, r1, r2', pv, pk, pp, pa, pd, gv, gk, lv, lk, la, ls, k0, k1⟩ rfl) (fun f s' hf => ?_) (fun _ _ h => h.elim)
  obtain ⟨rfl, hf⟩ := hf
  k_steps
  exact hf
end
end Mine
end
section
open PySem PySem.W PyProof.Rows PySem.Calls
set_option maxRecDepth 100000
set_option maxHeartbeats 2000000
namespace Mine
theorem fillAg5 : PySem.Challenge.rw_mr0062_01 = PySem.Challenge.rw_mr0062_01 ∧ hd.heap_39 = hd.heap_39 := by
  k_fill
  w_top off
  exact ⟨rfl, rfl⟩
local macro_rules | `(tactic| k_inst) => `(tactic| (refine' instAcc ?N ?h1 ?h2; (case N => k_asm); (case h1 => k_mem); (case h2 => k_mem)))
local macro_rules | `(tactic| k_steps) => `(tactic| repeat' (first
  | (k_unfold; (try dsimp only))
  | ((with_reducible show wpAny _ _ (exec (Stmt.If _ _ _ _) _) _ _ _); refine wpAny_If ?_)
  | ((with_reducible show wpAny _ _ (eval (Expr.IfExp _ _ _ _) _) _ _ _); refine wpAny_IfExp ?_)
  | ((fail_if_success (with_reducible show wpAny _ _ (exec (Stmt.While _ _ _ _) _) _ _ _));
     (fail_if_success (with_reducible show wpAny _ _ (exec (Stmt.For _ _ _ _ _) _) _ _ _));
     (fail_if_success (with_reducible show wpAny _ _ (eval (Expr.ListComp _ _ _ _) _) _ _ _));
     (fail_if_success (with_reducible show wpAny _ _ (eval (Expr.GeneratorExp _ _ _ _) _) _ _ _));
     (fail_if_success (with_reducible show wpAny _ _ (execs [_, _, _, _] _) _ _ _));
     (fail_if_success (with_reducible show wpAny _ _ (subscriptTail _ _ (Value.ref _) _) _ _ _));
     (fail_if_success (with_reducible show wpAny _ _ (compareOp _ (Value.ref _) (Value.ref _)) _ _ _));
     (fail_if_success (with_reducible show wpAny _ _ (binaryOp _ (Value.ref _) (Value.ref _)) _ _ _));
     (fail_if_success (with_reducible show wpAny _ _ (getMethod (Value.ref _) _ _) _ _ _));
     (fail_if_success (with_reducible show wpAny _ _ (call (Value.ref _) _ _) _ _ _));
     (first | walk1 | (dsimp only; walk1) | (leave1; try dsimp only)))
  | fail "no step"))
abbrev nms : List Str := [Str.ofString "a", Str.ofString "bc", Str.ofString ".", Str.ofString "..", Str.ofString "d.e", Str.ofString ".f"]
theorem nms_ok : ∀ y ∈ nms, y.cps.toList ≠ [] ∧ y.cps.toList.length ≤ 3 ∧ 47 ∉ y.cps.toList ∧ ∀ c ∈ y.cps.toList, c < 0x110000 := by decide +kernel
theorem good_of {y : Str} (hy : y ∈ nms) {j : Int} (h1 : 1 ≤ j) (h2 : j ≤ 3) : Good (Txt.mul (Str.ofString "/") j, y) := by
  obtain ⟨a, b, c, d⟩ := nms_ok y hy
  obtain ⟨n, rfl⟩ : ∃ n : Nat, j = n := ⟨j.toNat, by omega⟩
  exact ⟨⟨n, by omega, by omega, mul_slash n⟩, a, b, c, ok_of d⟩
section
variable {prog : Program} {w : World} {s : Shared} {hS : Heap} {p : Program} {loose : List Str} {mean : ExcName → Option Value} {mg mb : Str → Option Value} {E : Value → Shared → Prop}
  (pf : ((prog.main.file : Str) == Str.ofString "/claim/cut.py") = true) (ps : (prog.main.scope.names.lookup ("super" : Str)).isSome = false)
  (XS : (hd.heap_39 w.params).In hS) (TS : Top p loose mean mg mb hS)
include pf ps XS TS
theorem push_rest {t2' t3' : Expr} {bb2 bb3 r4 : List Stmt} {p2' p3' : Pos} {name qual : Str} {params : Arguments} {s0 st1 : Stmt} {tg it : Expr} {rest orl rs : List Stmt} {pos1 : Pos} {scope : Scope} {dV kV doc pm cdv ct oc : Value} {an od : Option Addr} {osl : Array (Option Value)}
    {g : Heap} {L nl I : Addr} {xs : List Value} {nn i b : Nat} {s1 : Shared} {h : Heap} {m : Str → Option Value} {P D kl pl al dl : Addr} {vs kvs pvs avs dvs : List Value} {n nk np na nd : Nat} {k : Int} {prs kps aps : List (Str × Str)} {tl : List (Addr × Obj)} {ta tb t2 tki tpa : Tok} {b1 b2 : Array Value} {part : Int}
    (ho : (hd.heap_39 w.params).lookup 211 = some ⟨oc, od, .func (fnOf name qual params (s0 :: .For tg it (st1 :: .If t2' bb2 [.If t3' bb3 r4 p3'] p2' :: rest) orl pos1 :: rs) scope dV kV doc pm an cdv ct), osl⟩)
    (X' : (hd.heap_39 w.params).In g) (T' : Top p loose mean mg mb g) (st' : hS.StaysIn g) (hb22 : b ≤ 22)
    (M : MidT w g L s nl I xs nn i b s1 h m P D kl pl al dl vs kvs pvs avs dvs n nk np na nd k prs kps aps tl ta tb t2 b1 b2)
    (mp2 : m (Str.ofString "part") = some (.int part tpa)) :
    wpAny (model prog w) ((AA 2).deeper (envOf qual scope L 211 cdv)) (execs r4 (envOf qual scope L 211 cdv)) (fun f s' => f = .next ∧ Mid w g L s nl I xs nn i (b + 1) s') E s1 := by
  k_dflt (refine' sameIf ho ?k2 ?_; (case k2 => k_is))
  intro e1 e2 e3 e4 e5 e6
  clear ho e2
  injection e3 with _ _ e3 _
  injection e3 with e3 _
  injection e3 with _ _ e3 _
  subst e1 e3 e4 e5 e6
  obtain ⟨⟨tk, gs, rfl, hbs⟩, F1, mp, mk, ms, mpr, mto, mdu, N, htl, r1, r2, pv, pk, pp, pa, pd, gv, gk, lv, lk, la, ls, k0, k1⟩ := M
  have F : Fr g L h _ := frL [(Str.ofString "path", .ref P), (Str.ofString "kept", .ref kl), (Str.ofString "size", .int k t2), (Str.ofString "pairs", .ref pl), (Str.ofString "told", .ref al), (Str.ofString "due", .ref dl), (Str.ofString "part", .int part tpa)] F1 (by
    simp only [List.forall_mem_cons]
    exact ⟨mp, mk, ms, mpr, mto, mdu, mp2, fun _ h => nomatch h⟩)
  dsimp only [iteL] at F
  clear F1 mp mk ms mpr mto mdu mp2
  have hvl := pv.length
  have hpl := pp.length
  have hkl := pk.length
  have hSp := (newsNone N st')
  refine execs_split (Mid := Mid2 w g L s nl I xs nn i b part tpa) 1 ?_ (fun s2 hM => ?_)
  · dsimp only [List.take]
    k_steps
    · refine acc_method (XS.keeps (frStat F st')) (N (P, accO D vs n) (by k_mem)).1 (N (D, dictOf [sizeE w k ta tb] 1) (by k_mem)).1 (by k_is) (by k_is) (dget (by decide)) ?_
      k_steps
      refine wide (A := AA 4) rfl (Nat.le_of_ble_eq_true rfl) (Nat.le_of_ble_eq_true rfl) rfl rfl (reset_s (P := P) (D := D) (vs := vs) (k := k) (ws := kvs) (nl := nk) pf ps XS TS (frStat F st') ⟨(N (P, accO D vs n) (by k_mem)).1, (hSp (P, accO D vs n) (by k_mem)).2, (hSp (D, dictOf [sizeE w k ta tb] 1) (by k_mem)).2, _, _, (N (D, dictOf [sizeE w k ta tb] 1) (by k_mem)).1⟩ (N (kl, W.listOf kvs.toArray nk) (by k_mem)).1 (by omega) (by omega) fun h3 tk3 n3 U3 C3 => ?_)
      obtain ⟨hP3, hsp3, hsd3, ta3, tb3, hD3⟩ := C3
      obtain ⟨F3, N3⟩ := two (rest := (I, itO nl i) :: (nl, W.listOf xs.toArray nn) :: (63, tabObj b1) :: (70, tabObj b2) :: (kl, W.listOf kvs.toArray nk) :: (pl, W.listOf pvs.toArray np) :: (al, W.listOf avs.toArray na) :: (dl, W.listOf dvs.toArray nd) :: tl) F N (by k_mem) (by k_mem) U3 hP3 hD3 (ok2_cons ⟨by k_mem, by simp, by simp⟩ (ok2_cons ⟨by k_mem, by simp, by simp⟩ (ok2_cons ⟨by k_mem, by simp, by simp⟩ (ok2_cons ⟨by k_mem, by simp, by simp⟩ (ok2_cons ⟨by k_mem, by simp, by simp⟩ (ok2_cons ⟨by k_mem, by simp, by simp⟩ (ok2_cons ⟨by k_mem, by simp, by simp⟩ (ok2_cons ⟨by k_mem, by simp, by simp⟩ fun q hq => ⟨(by repeat (first | exact hq | refine List.Mem.tail _ ?_)), by rw [htl q hq]; simp, by rw [htl q hq]; simp⟩))))))))
      clear F N
      k_steps
      (rename Fr _ _ _ _ => F); (rename News _ _ _ _ => N)
      exact mkMid2 kvs kvs kvs avs dvs kps kps aps tl F N hbs rfl rfl rfl rfl rfl rfl rfl (by k_mem) (by k_mem) (by k_mem) (by k_mem) (by k_mem) (by k_mem) (by k_mem) (by k_mem) (by k_mem) (by k_mem) (fun q hq => (by repeat (first | exact hq | refine List.Mem.tail _ ?_)))
        htl r1 r2 pk pk pk pa pd gk gk lk lk la ls (Int.le_refl _) (by decide)
    · exact mkMid2 vs kvs pvs avs dvs prs kps aps tl F N hbs rfl rfl rfl rfl rfl rfl rfl (by k_mem) (by k_mem) (by k_mem) (by k_mem) (by k_mem) (by k_mem) (by k_mem) (by k_mem) (by k_mem) (by k_mem) (fun q hq => (by repeat (first | exact hq | refine List.Mem.tail _ ?_)))
        htl r1 r2 pv pk pp pa pd gv gk lv lk la ls k0 k1
  · dsimp only [List.drop]
    clear F N htl pv pk pp pa pd gv gk lv lk la ls k0 k1 r1 r2 hbs hvl hpl hkl hSp
    obtain ⟨h, m, P, D, kl, pl, al, dl, vs, kvs, pvs, avs, dvs, n, nk, np, na, nd, k, prs, kps, aps, tl, ta, tb, t2, b1, b2, ⟨⟨tk, gs, rfl, hbs⟩, F1, mp, mk, ms, mpr, mto, mdu, N, htl, r1, r2, pv, pk, pp, pa, pd, gv, gk, lv, lk, la, ls, k0, k1⟩, mp2⟩ := hM
    have F : Fr g L h _ := frL [(Str.ofString "path", .ref P), (Str.ofString "kept", .ref kl), (Str.ofString "size", .int k t2), (Str.ofString "pairs", .ref pl), (Str.ofString "told", .ref al), (Str.ofString "due", .ref dl), (Str.ofString "part", .int part tpa)] F1 (by
      simp only [List.forall_mem_cons]
      exact ⟨mp, mk, ms, mpr, mto, mdu, mp2, fun _ h => nomatch h⟩)
    dsimp only [iteL] at F
    clear F1 mp mk ms mpr mto mdu mp2
    have hvl := pv.length
    have hpl := pp.length
    have hkl := pk.length
    have hSp := (newsNone N st')
    have hf3 := fmod_in part (show (0 : Int) < 3 by decide)
    have hf6 := fmod_in (part.fdiv 3) (show (0 : Int) < 6 by decide)
    k_steps
    (rename Fr _ _ _ _ => F); (rename News _ _ _ _ => N)
    refine KTb.item_list (ws := nms) (News.isList N (.head _)) (.cons _ _ (.cons _ _ (.cons _ _ (.cons _ _ (.cons _ _ (.cons _ _ .nil)))))) hf6.1 (by simpa using hf6.2) (by omega) fun ty hlt => ?_
    have hy : nms.getD ((part.fdiv 3).fmod 6).toNat PySem.Str.empty ∈ nms := by
      rw [List.getD_eq_getElem?_getD, List.getElem?_eq_getElem hlt]
      exact List.getElem_mem hlt
    dsimp only
    generalize nms.getD ((part.fdiv 3).fmod 6).toNat PySem.Str.empty = y at hy ⊢
    have hG := good_of hy (j := 1 + part.fmod 3) (by omega) (by omega)
    have hGl := hG.len
    dsimp only at hGl
    generalize Txt.mul (Str.ofString "/") (1 + part.fmod 3) = z at hG hGl ⊢
    k_steps
    (rename Fr _ _ _ _ => F); (rename News _ _ _ _ => N)
    refine acc_method (XS.keeps (frStat F st')) (N (P, accO D vs n) (by k_mem)).1 (N (D, dictOf [sizeE w k ta tb] 1) (by k_mem)).1 (by k_is) (by k_is) (dget (by decide)) ?_
    k_steps
    refine wide (A := AA 4) rfl (Nat.le_of_ble_eq_true rfl) (Nat.le_of_ble_eq_true rfl) rfl rfl (push_s (P := P) (D := D) (vs := vs) (k := k) XS TS (frStat F st') ⟨(N (P, accO D vs n) (by k_mem)).1, (hSp (P, accO D vs n) (by k_mem)).2, (hSp (D, dictOf [sizeE w k ta tb] 1) (by k_mem)).2, _, _, (N (D, dictOf [sizeE w k ta tb] 1) (by k_mem)).1⟩ (by omega) (by omega) (by omega) fun h3 tk3 T n3 t31 t32 U3 fT hT C3 => ?_)
    obtain ⟨hP3, hsp3, hsd3, ta3, tb3, hD3⟩ := C3
    obtain ⟨F3, N3⟩ := two (rest := (I, itO nl i) :: (nl, W.listOf xs.toArray nn) :: (63, tabObj b1) :: (70, tabObj b2) :: (kl, W.listOf kvs.toArray nk) :: (pl, W.listOf pvs.toArray np) :: (al, W.listOf avs.toArray na) :: (dl, W.listOf dvs.toArray nd) :: tl) F N (by k_mem) (by k_mem) U3 hP3 hD3 (ok2_cons ⟨by k_mem, by simp, by simp⟩ (ok2_cons ⟨by k_mem, by simp, by simp⟩ (ok2_cons ⟨by k_mem, by simp, by simp⟩ (ok2_cons ⟨by k_mem, by simp, by simp⟩ (ok2_cons ⟨by k_mem, by simp, by simp⟩ (ok2_cons ⟨by k_mem, by simp, by simp⟩ (ok2_cons ⟨by k_mem, by simp, by simp⟩ (ok2_cons ⟨by k_mem, by simp, by simp⟩ fun q hq => ⟨(by repeat (first | exact hq | refine List.Mem.tail _ ?_)), by rw [htl q hq]; simp, by rw [htl q hq]; simp⟩))))))))
    have N4 := newsPut N3 (freshG F fT) hT
    clear F N N3
    k_steps
    (rename Fr _ _ _ _ => F); (rename News _ _ _ _ => N)
    refine addL (xs := pvs) (ys := [.ref _]) F N (by k_mem) (.head _) (by rw [sizeLine_eq]; simp; omega) fun D5 h5 F5 N5 _ => ?_
    clear F N
    k_steps
    (rename Fr _ _ _ _ => F); (rename News _ _ _ _ => N)
    exact mkMid (vs ++ [.ref T]) kvs (pvs ++ [.ref _]) avs dvs (prs ++ [(z, y)]) kps aps ((_, tupO (z, y) _ ty) :: (T, tupO (z, y) t31 t32) :: tl) F N hbs rfl rfl rfl rfl rfl rfl (by k_mem) (by k_mem) (by k_mem) (by k_mem) (by k_mem) (by k_mem) (by k_mem) (by k_mem) (by k_mem) (by k_mem) (subC (by k_mem) (subC (by k_mem) fun q hq => (by repeat (first | exact hq | refine List.Mem.tail _ ?_))))
      (tupC rfl (tupC rfl htl)) r1 r2 ((pv.mono fun q hq => .tail _ (.tail _ hq)).append (.cons (.tail _ (.head _)) .nil)) (pk.mono fun q hq => .tail _ (.tail _ hq)) ((pp.mono fun q hq => .tail _ (.tail _ hq)).append (.cons (.head _) .nil)) (pa.mono fun q hq => .tail _ (.tail _ hq)) (pd.mono fun q hq => .tail _ (.tail _ hq))
      (fun p hp => (List.mem_append.mp hp).elim (gv p) fun h => by rw [List.mem_singleton.mp h]; exact hG) gk (by rw [List.length_append]; exact Nat.succ_le_succ lv) (Nat.le_succ_of_le lk) la ls k0 k1
theorem deed_push {t2' t3' : Expr} {bb2 bb3 r4 : List Stmt} {p2' p3' : Pos} {name qual : Str} {params : Arguments} {s0 st1 : Stmt} {tg it : Expr} {rest orl rs : List Stmt} {pos1 : Pos} {scope : Scope} {dV kV doc pm cdv ct oc : Value} {an od : Option Addr} {osl : Array (Option Value)}
    {g : Heap} {L nl I : Addr} {xs : List Value} {nn i b : Nat} {s1 : Shared} {h : Heap} {m : Str → Option Value} {P D kl pl al dl : Addr} {vs kvs pvs avs dvs : List Value} {n nk np na nd : Nat} {k : Int} {prs kps aps : List (Str × Str)} {tl : List (Addr × Obj)} {ta tb t2 tki tpa : Tok} {b1 b2 : Array Value} {part : Int}
    (ho : (hd.heap_39 w.params).lookup 211 = some ⟨oc, od, .func (fnOf name qual params (s0 :: .For tg it (st1 :: .If t2' bb2 [.If t3' bb3 r4 p3'] p2' :: rest) orl pos1 :: rs) scope dV kV doc pm an cdv ct), osl⟩)
    (X' : (hd.heap_39 w.params).In g) (T' : Top p loose mean mg mb g) (st' : hS.StaysIn g) (hb22 : b ≤ 22)
    (M : MidT w g L s nl I xs nn i b s1 h m P D kl pl al dl vs kvs pvs avs dvs n nk np na nd k prs kps aps tl ta tb t2 b1 b2) {kd : Int} (hk : kd = 0 ∨ kd = 1 ∨ kd = 5)
    (mk2 : m (Str.ofString "kind") = some (.int kd tki)) (mp2 : m (Str.ofString "part") = some (.int part tpa)) :
    wpAny (model prog w) ((AA 2).deeper (envOf qual scope L 211 cdv)) (execs [.If t2' bb2 [.If t3' bb3 r4 p3'] p2'] (envOf qual scope L 211 cdv)) (fun f s' => f = .next ∧ Mid w g L s nl I xs nn i (b + 1) s') E s1 := by
  have hq : ∀ s2 E', MidT w g L s nl I xs nn i b s2 h m P D kl pl al dl vs kvs pvs avs dvs n nk np na nd k prs kps aps tl ta tb t2 b1 b2 → wpAny (model prog w) ((AA 2).deeper (envOf qual scope L 211 cdv)) (execs r4 (envOf qual scope L 211 cdv)) (fun f s' => f = .next ∧ Mid w g L s nl I xs nn i (b + 1) s') E' s2 := fun s2 E' M2 => push_rest (tki := tki) pf ps XS TS ho X' T' st' hb22 M2 mp2
  have M0 := M
  k_dflt (refine' sameIf ho ?k2 ?_; (case k2 => k_is))
  intro e1 e2 e3 e4 e5 e6
  clear ho e2
  injection e3 with e7 e8 e3 e10
  injection e3 with e3 _
  injection e3 with e11 e12 e3 e14
  subst e1 e3 e4 e5 e6 e7 e8 e10 e11 e12 e14
  obtain ⟨⟨tk, gs, rfl, hbs⟩, F1, mp, mk, ms, mpr, mto, mdu, N, htl, r1, r2, pv, pk, pp, pa, pd, gv, gk, lv, lk, la, ls, k0, k1⟩ := M
  have F : Fr g L h _ := frL [(Str.ofString "kind", .int kd tki)] F1 (by
    simp only [List.forall_mem_cons]
    exact ⟨mk2, fun _ h => nomatch h⟩)
  dsimp only [iteL] at F
  clear F1 mp mk ms mpr mto mdu mk2 mp2
  rcases hk with rfl | rfl | rfl
  all_goals k_steps
  all_goals refine wpAny_mono (hq _ (fun _ _ => False) M0.tok) (fun f s' hf => ?_) (fun _ _ h => h.elim)
  all_goals (obtain ⟨rfl, hf⟩ := hf)
  all_goals k_steps
  all_goals exact hf
end
end Mine
end
section
open PySem PySem.W PyProof.Rows PySem.Calls
set_option maxRecDepth 100000
set_option maxHeartbeats 2000000
namespace Mine
theorem fillAg6 : PySem.Challenge.rw_mr0062_01 = PySem.Challenge.rw_mr0062_01 ∧ hd.heap_39 = hd.heap_39 := by
  k_fill
  w_top off
  exact ⟨rfl, rfl⟩
local macro_rules | `(tactic| k_inst) => `(tactic| (refine' instAcc ?N ?h1 ?h2; (case N => k_asm); (case h1 => k_mem); (case h2 => k_mem)))
local macro_rules | `(tactic| k_steps) => `(tactic| repeat' (first
  | (k_unfold; (try dsimp only))
  | ((with_reducible show wpAny _ _ (exec (Stmt.If _ _ _ _) _) _ _ _); refine wpAny_If ?_)
  | ((with_reducible show wpAny _ _ (eval (Expr.IfExp _ _ _ _) _) _ _ _); refine wpAny_IfExp ?_)
  | ((fail_if_success (with_reducible show wpAny _ _ (exec (Stmt.While _ _ _ _) _) _ _ _));
     (fail_if_success (with_reducible show wpAny _ _ (exec (Stmt.For _ _ _ _ _) _) _ _ _));
     (fail_if_success (with_reducible show wpAny _ _ (eval (Expr.ListComp _ _ _ _) _) _ _ _));
     (fail_if_success (with_reducible show wpAny _ _ (eval (Expr.GeneratorExp _ _ _ _) _) _ _ _));
     (fail_if_success (with_reducible show wpAny _ _ (subscriptTail _ _ (Value.ref _) _) _ _ _));
     (fail_if_success (with_reducible show wpAny _ _ (compareOp _ (Value.ref _) (Value.ref _)) _ _ _));
     (fail_if_success (with_reducible show wpAny _ _ (binaryOp _ (Value.ref _) (Value.ref _)) _ _ _));
     (fail_if_success (with_reducible show wpAny _ _ (getMethod (Value.ref _) _ _) _ _ _));
     (fail_if_success (with_reducible show wpAny _ _ (call (Value.ref _) _ _) _ _ _));
     (first | walk1 | (dsimp only; walk1) | (leave1; try dsimp only)))
  | fail "no step"))
theorem text_nil {prs : List (Str × Str)} (h : ∀ p ∈ prs, Good p) : (textOf prs == Str.ofString "") = true ↔ prs = [] := by
  have h1 := (textOf_good h).1
  constructor
  · intro e
    have e2 : textOf prs = Str.ofString "" := by simpa using e
    rw [e2, str_nil] at h1
    have h3 : ({ cps := #[] } : Str).length = 0 := rfl
    exact List.eq_nil_of_length_eq_zero (by omega)
  · intro e
    rw [e, textOf_nil]; exact beq_self_eq_true _
theorem after70 {h : Heap} {gs : Array GenState} {dr : Drawn} {tk : Nat} {os : OsState} {s' : Shared} {b1 : Array Value} (h1 : h.get? 63 = some (tabObj b1)) (r1 : TriplesOk b1.toList) (A : After 70 ⟨h, gs, dr, tk, os⟩ s') : After2 ⟨h, gs, dr, tk, os⟩ s' :=
  ⟨upMore A.up (fun a ha => .tail _ ha), ⟨_, A.up _ _ (by decide) h1, r1⟩, A.tab, A.bare, A.drawn, A.os⟩
theorem after63 {h : Heap} {gs : Array GenState} {dr : Drawn} {tk : Nat} {os : OsState} {s' : Shared} {b2 : Array Value} (h2 : h.get? 70 = some (tabObj b2)) (r2 : TriplesOk b2.toList) (A : After 63 ⟨h, gs, dr, tk, os⟩ s') : After2 ⟨h, gs, dr, tk, os⟩ s' :=
  ⟨upMore A.up (fun a ha => by rw [List.mem_singleton.mp ha]; exact .head _), A.tab, ⟨_, A.up _ _ (by decide) h2, r2⟩, A.bare, A.drawn, A.os⟩
theorem ledTabs {g h : Heap} {L : Addr} {m : Str → Option Value} {q1 q2 q3 q4 : Addr × Obj} {rest : List (Addr × Obj)} {b1 b2 : Array Value} {gs : Array GenState} {dr : Drawn} {tk : Nat} {os : OsState} {s' : Shared}
    (F : Fr g L h m) (N : News g L h (q1 :: q2 :: q3 :: q4 :: (63, tabObj b1) :: (70, tabObj b2) :: rest)) (hc : ∀ q ∈ q1 :: q2 :: q3 :: q4 :: rest, q.2.cls ≠ (tabObj b1).cls) (A : After2 ⟨h, gs, dr, tk, os⟩ s') :
    ∃ h' gs' tk' b1' b2', s' = ⟨h', gs', dr, tk', os⟩ ∧ AllBare gs' ∧ TriplesOk b1'.toList ∧ TriplesOk b2'.toList ∧ Fr g L h' m ∧ News g L h' (q1 :: q2 :: q3 :: q4 :: (63, tabObj b1') :: (70, tabObj b2') :: rest) ∧ Up [63, 70] h h' := by
  obtain ⟨h', gs', dr', tk', os'⟩ := s'
  obtain ⟨U, ⟨b1', e1, r1⟩, ⟨b2', e2, r2⟩, hb, d, o⟩ := A
  dsimp only at U e1 e2 hb d o
  subst d o
  have n1 := N (63, tabObj b1) (by k_mem)
  have n2 := N (70, tabObj b2) (by k_mem)
  refine ⟨h', gs', tk', b1', b2', rfl, hb, r1, r2, frM F (fun a ha => ?_) U, ?_, U⟩
  · rcases List.mem_cons.mp ha with rfl | ha
    · exact n1.2
    · rw [List.mem_singleton.mp ha]; exact n2.2
  · have hs : ∀ q ∈ q1 :: q2 :: q3 :: q4 :: rest, News g L h' [q] := fun q hq => by
      have hqn : q ∈ q1 :: q2 :: q3 :: q4 :: (63, tabObj b1) :: (70, tabObj b2) :: rest := by
        simp only [List.mem_cons] at hq ⊢
        rcases hq with h | h | h | h | h <;> simp [h]
      refine newsM N U fun x hx => ?_
      rw [List.mem_singleton.mp hx]
      refine ⟨hqn, fun hm => ?_⟩
      rcases List.mem_cons.mp hm with e | hm
      · exact neNews N hqn (show (63, tabObj b1) ∈ _ by k_mem) (hc q hq) e
      · exact neNews N hqn (show (70, tabObj b2) ∈ _ by k_mem) (hc q hq) (List.mem_singleton.mp hm)
    have A1 := hs q1 (.head _)
    have A2 := hs q2 (.tail _ (.head _))
    have A3 := hs q3 (.tail _ (.tail _ (.head _)))
    have A4 := hs q4 (.tail _ (.tail _ (.tail _ (.head _))))
    exact nwC A1 (.head _) (nwC A2 (.head _) (nwC A3 (.head _) (nwC A4 (.head _) (newsPut (newsPut (fun q hq => hs q (.tail _ (.tail _ (.tail _ (.tail _ hq)))) q (.head _)) n2.2 e2) n1.2 e1))))
section
variable {prog : Program} {w : World} {s : Shared} {hS : Heap} {p : Program} {loose : List Str} {mean : ExcName → Option Value} {mg mb : Str → Option Value} {E : Value → Shared → Prop}
  (pf : ((prog.main.file : Str) == Str.ofString "/claim/cut.py") = true) (ps : (prog.main.scope.names.lookup ("super" : Str)).isSome = false)
  (XS : (hd.heap_39 w.params).In hS) (TS : Top p loose mean mg mb hS)
include pf ps XS TS
theorem asking {name qual : Str} {params : Arguments} {s0 sif st1 : Stmt} {tg it : Expr} {rest orl rs : List Stmt} {pos1 : Pos} {scope : Scope} {dV kV doc pm cdv ct oc : Value} {an od : Option Addr} {osl : Array (Option Value)}
    {g : Heap} {L nl I : Addr} {xs : List Value} {nn i b : Nat} {s1 : Shared} {h : Heap} {m : Str → Option Value} {P D kl pl al dl : Addr} {vs kvs pvs avs dvs : List Value} {n nk np na nd : Nat} {k : Int} {prs kps aps : List (Str × Str)} {tl : List (Addr × Obj)} {ta tb t2 tki tpa : Tok} {b1 b2 : Array Value} {part : Int}
    (ho : (hd.heap_39 w.params).lookup 211 = some ⟨oc, od, .func (fnOf name qual params (s0 :: .For tg it (st1 :: sif :: rest) orl pos1 :: rs) scope dV kV doc pm an cdv ct), osl⟩)
    (X' : (hd.heap_39 w.params).In g) (T' : Top p loose mean mg mb g) (st' : hS.StaysIn g) (hb22 : b ≤ 22)
    (M : MidT w g L s nl I xs nn i b s1 h m P D kl pl al dl vs kvs pvs avs dvs n nk np na nd k prs kps aps tl ta tb t2 b1 b2) (hix : i ≤ xs.length) (hbi : b = i) :
    wpAny (model prog w) ((AA 2).deeper (envOf qual scope L 211 cdv)) (execs rest (envOf qual scope L 211 cdv)) (fun f s' => f = .next ∧ Inv w g L s nl I xs nn (xs.length + 1 - i) s') E s1 := by
  k_dflt (refine' sameIf ho ?k2 ?_; (case k2 => k_is))
  intro e1 e2 e3 e4 e5 e6
  clear ho e2
  subst e1 e3 e4 e5 e6
  obtain ⟨⟨tk, gs, rfl, hbs⟩, F1, mp, mk, ms, mpr, mto, mdu, N, htl, r1, r2, pv, pk, pp, pa, pd, gv, gk, lv, lk, la, ls, k0, k1⟩ := M
  have F : Fr g L h _ := frL [(Str.ofString "path", .ref P), (Str.ofString "kept", .ref kl), (Str.ofString "size", .int k t2), (Str.ofString "pairs", .ref pl), (Str.ofString "told", .ref al), (Str.ofString "due", .ref dl)] F1 (by
    simp only [List.forall_mem_cons]
    exact ⟨mp, mk, ms, mpr, mto, mdu, fun _ h => nomatch h⟩)
  dsimp only [iteL] at F
  clear F1 mp mk ms mpr mto mdu
  subst hbi
  have hvl := pv.length
  have hpl := pp.length
  have hSp := (newsNone N st')
  have hgl := textOf_good gv
  have hSp3 : hS.get? P = none ∧ hS.get? D = none := ⟨(hSp (P, accO D vs n) (by k_mem)).2, (hSp (D, dictOf [sizeE w k ta tb] 1) (by k_mem)).2⟩
  have hSp63 : hS.get? 63 = none := (hSp (63, tabObj b1) (by k_mem)).2
  have hSp70 : hS.get? 70 = none := (hSp (70, tabObj b2) (by k_mem)).2
  clear hSp
  have hcl : ∀ q ∈ (I, itO nl b) :: (nl, W.listOf xs.toArray nn) :: (P, accO D vs n) :: (D, dictOf [sizeE w k ta tb] 1) :: (kl, W.listOf kvs.toArray nk) :: (pl, W.listOf pvs.toArray np) :: (al, W.listOf avs.toArray na) :: (dl, W.listOf dvs.toArray nd) :: tl, q.2.cls ≠ Value.none := by
    simp only [List.forall_mem_cons]
    exact ⟨by simp, by simp, by simp, by simp, by simp, by simp, by simp, by simp, fun q hq => by rw [htl q hq]; simp⟩
  k_steps
  refine wide (A := AA 4) rfl (Nat.le_of_ble_eq_true rfl) (Nat.le_of_ble_eq_true rfl) rfl rfl (law_text_s (l := pl) (vs := pvs) (ps := prs) (News.isList N (by k_mem)) (pp.at fun q hq => (N q (by repeat (first | exact hq | refine List.Mem.tail _ ?_))).1) (by omega) (by omega) (fun p hp => by have := (gv p hp).len; omega) XS TS (frStat F st') fun h3 tk3 t3 U3 => ?_)
  have F3 := frUp F U3
  have N3 := newsUp N U3
  clear F N
  k_steps
  (rename Fr _ _ _ _ => F); (rename News _ _ _ _ => N)
  refine wide (A := AA 5) rfl (Nat.le_of_ble_eq_true rfl) (Nat.le_of_ble_eq_true rfl) rfl rfl (str_s (P := P) (D := D) (n := n) (k := k) XS TS (frStat F st') ⟨(N (P, accO D vs n) (by k_mem)).1, hSp3.1, hSp3.2, _, _, (N (D, dictOf [sizeE w k ta tb] 1) (by k_mem)).1⟩ (pv.at fun q hq => (N q (by repeat (first | exact hq | refine List.Mem.tail _ ?_))).1) hbs ⟨_, (N (70, tabObj b2) (by k_mem)).1, r2⟩ hSp70 (by omega) (by omega) fun s6 tt A6 => ?_)
  have A7 := after70 (N (63, tabObj b1) (by k_mem)).1 r1 A6
  obtain ⟨h6, g6, tk6, c1, c2, rfl, hb6, v1, v2, F6, N6, U6⟩ := ledTabs F N hcl A7
  clear F N A6 A7 U6
  unfold StrBack
  dsimp only
  k_steps
  (rename Fr _ _ _ _ => F); (rename News _ _ _ _ => N)
  refine wide (A := AA 5) rfl (Nat.le_of_ble_eq_true rfl) (Nat.le_of_ble_eq_true rfl) rfl rfl (len_s (P := P) (D := D) (n := n) (k := k) XS TS (frStat F st') ⟨(N (P, accO D vs n) (by k_mem)).1, hSp3.1, hSp3.2, _, _, (N (D, dictOf [sizeE w k ta tb] 1) (by k_mem)).1⟩ (pv.at fun q hq => (N q (by repeat (first | exact hq | refine List.Mem.tail _ ?_))).1) hb6 ⟨_, (N (63, tabObj c1) (by k_mem)).1, v1⟩ hSp63 (by omega) (by omega) fun s8 t8 A8 => ?_)
  have A9 := after63 (N (70, tabObj c2) (by k_mem)).1 v2 A8
  obtain ⟨h8, g8, tk8, d1, d2, rfl, hb8, w1, w2, F8, N8, U8⟩ := ledTabs F N hcl A9
  clear F N A8 A9 U8
  unfold PySem.W.LenBack
  dsimp only
  refine ⟨⟨by omega, by omega⟩, ?_⟩
  k_steps
  (rename Fr _ _ _ _ => F); (rename News _ _ _ _ => N)
  refine acc_method (XS.keeps (frStat F st')) (N (P, accO D vs n) (by k_mem)).1 (N (D, dictOf [sizeE w k ta tb] 1) (by k_mem)).1 (by k_is) (by k_is) (dget (by decide)) ?_
  k_steps
  refine wide (A := AA 5) rfl (Nat.le_of_ble_eq_true rfl) (Nat.le_of_ble_eq_true rfl) rfl rfl (part_count_s (P := P) (D := D) (vs := vs) (n := n) (k := k) pf ps XS TS (frStat F st') ⟨(N (P, accO D vs n) (by k_mem)).1, hSp3.1, hSp3.2, _, _, (N (D, dictOf [sizeE w k ta tb] 1) (by k_mem)).1⟩ fun h10 tk10 t10 U10 => ?_)
  have F10 := frUp F U10
  have N10 := newsUp N U10
  clear F N
  k_steps
  (rename Fr _ _ _ _ => F); (rename News _ _ _ _ => N)
  refine acc_method (XS.keeps (frStat F st')) (N (P, accO D vs n) (by k_mem)).1 (N (D, dictOf [sizeE w k ta tb] 1) (by k_mem)).1 (by k_is) (by k_is) (dget (by decide)) ?_
  k_steps
  refine wide (A := AA 3) rfl (Nat.le_of_ble_eq_true rfl) (Nat.le_of_ble_eq_true rfl) rfl rfl (onlyws_s (P := P) (D := D) (n := n) (k := k) (prs := prs) XS TS (frStat F st') ⟨(N (P, accO D vs n) (by k_mem)).1, hSp3.1, hSp3.2, _, _, (N (D, dictOf [sizeE w k ta tb] 1) (by k_mem)).1⟩ (pv.at fun q hq => (N q (by repeat (first | exact hq | refine List.Mem.tail _ ?_))).1) hb8 k0 (by omega) ⟨_, (N (63, tabObj d1) (by k_mem)).1, w1⟩ hSp63 ⟨_, (N (70, tabObj d2) (by k_mem)).1, w2⟩ hSp70 gv (by omega) (by omega) fun s12 bo A12 hbo => ?_)
  obtain ⟨h12, g12, tk12, y1, y2, rfl, hb12, x1, x2, F12, N12, U12⟩ := ledTabs F N hcl A12
  clear F N A12 U12
  k_steps
  (rename Fr _ _ _ _ => F); (rename News _ _ _ _ => N)
  refine wide (A := AA 3) rfl (Nat.le_of_ble_eq_true rfl) (Nat.le_of_ble_eq_true rfl) rfl rfl (law_pairs_s gv (by omega) (by omega) XS TS (frStat F st') fun h14 tk14 l14 vs14 U14 fl14 hl14 hp14 _ => ?_)
  have F14 := frUp F U14
  have N14 := newsAdd F N U14 hl14 fl14
  have hvl14 := hp14.length
  clear F N hp14
  k_steps
  (rename Fr _ _ _ _ => F); (rename News _ _ _ _ => N)
  refine kun_lenL (items := vs14.toArray) (k := (prs.length : Int)) (News.isList N (.head _)) (by simp [hvl14]) (by omega) ?_
  k_steps
  · have hk : k = 0 := by assumption
    (rename Fr _ _ _ _ => F); (rename News _ _ _ _ => N)
    have ebo : bo = (textOf prs == Str.ofString "") := Bool.eq_iff_iff.mpr (hbo.trans ((and_iff_right hk).trans (text_nil gv).symm))
    rw [hvl, ebo] at N
    refine ne_seen (ps := aps) (N _ (.tail _ (.tail _ (.head _)))).1 (N _ (.head _)).1 (N (al, W.listOf avs.toArray na) (by k_mem)).1 (N (dl, W.listOf dvs.toArray nd) (by k_mem)).1 (pa.at fun q hq => (N q (by repeat (first | exact hq | refine List.Mem.tail _ ?_))).1) (pd.at fun q hq => (N q (by repeat (first | exact hq | refine List.Mem.tail _ ?_))).1) ls (textOf_ok gv) (Nat.le_of_ble_eq_true rfl) ?_
    k_steps
    exact ⟨b, _, _, P, D, kl, vs, kvs, n, nk, k, prs, kps, tl, ta, tb, t3, t2, y1, y2, rfl, hix, ⟨_, _, rfl, hb12⟩, F, rfl, rfl, rfl, rfl, newsSub N (subC (by k_mem) (subC (by k_mem) (subC (by k_mem) (subC (by k_mem) (subC (by k_mem) (subC (by k_mem) (subC (by k_mem) fun q hq => (by repeat (first | exact hq | refine List.Mem.tail _ ?_))))))))), htl, x1, x2, pv, pk, gv, gk, lv, lk, k0, k1⟩
  · have hk : k ≠ 0 := by assumption
    (rename Fr _ _ _ _ => F); (rename News _ _ _ _ => N)
    have ebo : bo = (k == 0) := Bool.eq_iff_iff.mpr (hbo.trans ⟨fun h => absurd h.1 hk, fun h => absurd (by simpa using h) hk⟩)
    rw [hvl, ebo] at N
    refine ne_seen (ps := aps) (N _ (.tail _ (.tail _ (.head _)))).1 (N _ (.head _)).1 (N (al, W.listOf avs.toArray na) (by k_mem)).1 (N (dl, W.listOf dvs.toArray nd) (by k_mem)).1 (pa.at fun q hq => (N q (by repeat (first | exact hq | refine List.Mem.tail _ ?_))).1) (pd.at fun q hq => (N q (by repeat (first | exact hq | refine List.Mem.tail _ ?_))).1) ls (textOf_ok gv) (Nat.le_of_ble_eq_true rfl) ?_
    k_steps
    exact ⟨b, _, _, P, D, kl, vs, kvs, n, nk, k, prs, kps, tl, ta, tb, t3, t2, y1, y2, rfl, hix, ⟨_, _, rfl, hb12⟩, F, rfl, rfl, rfl, rfl, newsSub N (subC (by k_mem) (subC (by k_mem) (subC (by k_mem) (subC (by k_mem) (subC (by k_mem) (subC (by k_mem) (subC (by k_mem) fun q hq => (by repeat (first | exact hq | refine List.Mem.tail _ ?_))))))))), htl, x1, x2, pv, pk, gv, gk, lv, lk, k0, k1⟩
end
end Mine
end
section
open PySem PySem.W PyProof.Rows PySem.Calls
set_option maxRecDepth 100000
set_option maxHeartbeats 2000000
namespace Mine
theorem fillAg7 : PySem.Challenge.rw_mr0062_01 = PySem.Challenge.rw_mr0062_01 ∧ hd.heap_39 = hd.heap_39 := by
  k_fill
  w_top off
  exact ⟨rfl, rfl⟩
local macro_rules | `(tactic| k_inst) => `(tactic| (refine' instAcc ?N ?h1 ?h2; (case N => k_asm); (case h1 => k_mem); (case h2 => k_mem)))
local macro_rules | `(tactic| k_steps) => `(tactic| repeat' (first
  | (k_unfold; (try dsimp only))
  | ((with_reducible show wpAny _ _ (exec (Stmt.If _ _ _ _) _) _ _ _); refine wpAny_If ?_)
  | ((with_reducible show wpAny _ _ (eval (Expr.IfExp _ _ _ _) _) _ _ _); refine wpAny_IfExp ?_)
  | ((fail_if_success (with_reducible show wpAny _ _ (exec (Stmt.While _ _ _ _) _) _ _ _));
     (fail_if_success (with_reducible show wpAny _ _ (exec (Stmt.For _ _ _ _ _) _) _ _ _));
     (fail_if_success (with_reducible show wpAny _ _ (eval (Expr.ListComp _ _ _ _) _) _ _ _));
     (fail_if_success (with_reducible show wpAny _ _ (eval (Expr.GeneratorExp _ _ _ _) _) _ _ _));
     (fail_if_success (with_reducible show wpAny _ _ (subscriptTail _ _ (Value.ref _) _) _ _ _));
     (fail_if_success (with_reducible show wpAny _ _ (compareOp _ (Value.ref _) (Value.ref _)) _ _ _));
     (fail_if_success (with_reducible show wpAny _ _ (binaryOp _ (Value.ref _) (Value.ref _)) _ _ _));
     (fail_if_success (with_reducible show wpAny _ _ (getMethod (Value.ref _) _ _) _ _ _));
     (fail_if_success (with_reducible show wpAny _ _ (call (Value.ref _) _ _) _ _ _));
     (first | walk1 | (dsimp only; walk1) | (leave1; try dsimp only)))
  | fail "no step"))
def Ready (w : World) (g : Heap) (L : Addr) (s : Shared) (nl I : Addr) (xs : List Value) (nn : Nat) (i b : Nat) (kd part : Int) (s' : Shared) : Prop :=
  ∃ h m P D kl pl al dl vs kvs pvs avs dvs n nk np na nd k prs kps aps tl ta tb t2 b1 b2 tki tpa, MidT w g L s nl I xs nn i b s' h m P D kl pl al dl vs kvs pvs avs dvs n nk np na nd k prs kps aps tl ta tb t2 b1 b2 ∧ m (Str.ofString "kind") = some (.int kd tki) ∧ m (Str.ofString "part") = some (.int part tpa)
theorem six {kd : Int} (h0 : 0 ≤ kd) (h1 : kd < 6) : kd = 2 ∨ kd = 3 ∨ kd = 4 ∨ (kd = 0 ∨ kd = 1 ∨ kd = 5) := by
  obtain ⟨n, rfl⟩ := Int.eq_ofNat_of_zero_le h0
  exact (show ∀ n : Nat, n < 6 → ((n : Int) = 2 ∨ (n : Int) = 3 ∨ (n : Int) = 4 ∨ ((n : Int) = 0 ∨ (n : Int) = 1 ∨ (n : Int) = 5)) by decide) n (Int.ofNat_lt.mp h1)
section
variable {prog : Program} {w : World} {s : Shared} {hS : Heap} {p : Program} {loose : List Str} {mean : ExcName → Option Value} {mg mb : Str → Option Value} {Q : Value → Shared → Prop} {E : Value → Shared → Prop}
  (pf : ((prog.main.file : Str) == Str.ofString "/claim/cut.py") = true) (ps : (prog.main.scope.names.lookup ("super" : Str)).isSome = false)
  (XS : (hd.heap_39 w.params).In hS) (TS : Top p loose mean mg mb hS) (S : hS.StaysIn s.heap)
include pf ps XS TS S
theorem agree_s {nl : Addr} {xs : List Value} {nn : Nat} {k : Int} {tn : Tok} (hl : s.heap.get? nl = some (W.listOf xs.toArray nn)) (hln : hS.get? nl = none) (hx : ∀ v ∈ xs, ∃ a t, v = .int a t) (hxl : xs.length ≤ 22) (h0 : 0 ≤ k) (h1 : k ≤ 3)
    (hT : Tab s.heap 63) (hsT : hS.get? 63 = none) (hU : Tab s.heap 70) (hsU : hS.get? 70 = none) (hb : AllBare s.gens)
    (q : ∀ s', After2 s s' → Q (.bool true) s') : wpAny (model prog w) (AA 2) (call (.ref 211) [.ref nl, .int k tn]) Q E s := by
  obtain ⟨tbl, hT, tr⟩ := hT
  obtain ⟨tbu, hU, ur⟩ := hU
  have N0 : ∀ q ∈ [(nl, W.listOf xs.toArray nn), (63, tabObj tbl), (70, tabObj tbu)], s.heap.get? q.1 = some q.2 ∧ hS.get? q.1 = none := fun q hq => by
    rcases List.mem_cons.mp hq with rfl | hq
    · exact ⟨hl, hln⟩
    · rcases List.mem_cons.mp hq with rfl | hq
      · exact ⟨hT, hsT⟩
      · rcases List.mem_cons.mp hq with rfl | hq
        · exact ⟨hU, hsU⟩
        · cases hq
  refine wpAny_call ?_
  k_dflt (refine' enter (news := [(nl, W.listOf xs.toArray nn), (63, tabObj tbl), (70, tabObj tbu)]) (binds := [(Str.ofString "numbers", Value.ref nl), (Str.ofString "size", Value.int k tn)]) XS TS S ?k1 ?k2 ?k3 ?k4 ?k5 ?k6 ?_ ?c1 ?c2 ?c3 ?c4; (case k1 => exact N0); (case k2 => k_is); (case k3 => k_is); (case k4 => decide); (case k5 => first | exact BindsTo.of_eq rfl | exact binds_K (Frag.In.keeps XS S) rfl (by k_is) rfl rfl rfl); (case k6 => exact locs rfl); (case c1 => decide); (case c2 => exact rfl); (case c3 => exact rfl); (case c4 => exact rfl); k_whole)
  intro g L' h₁ F' N' X' T' up' st' kk'
  try dsimp only
  try k_fold
  k_steps
  (rename Fr _ _ _ _ => F); (rename News _ _ _ _ => N)
  refine wide (A := AA 4) rfl (Nat.le_of_ble_eq_true rfl) (Nat.le_of_ble_eq_true rfl) rfl rfl (make_s (k := k) pf ps XS TS (frStat F st') fun h2 tk2 P D n2 U2 fP fD hPD C2 => ?_)
  obtain ⟨hP, hsp, hsd, ta, tb, hD⟩ := C2
  have F2 := frUp F U2
  have N2 := newsAdd2 F N U2 hP fP hD fD
  clear F N
  k_steps
  (rename Fr _ _ _ _ => F); (rename News _ _ _ _ => N)
  rename_i hh
  refine wpAny_For (ld F rfl (wpAny_pyIter_list (News.isList N (.tail _ (.tail _ (.tail _ (.tail _ (.head _)))))) ?_))
  have F3 := F.push (itO nl 0)
  have N3 := N.push F (itO nl 0)
  clear F N
  have hI0 : Inv w g L' s nl hh.objs.size xs nn (xs.length + 1) ⟨hh.push (itO nl 0), s.gens, s.drawn, tk, s.os⟩ := inv0 F3 rfl rfl rfl rfl N3 hb tr ur h0 h1
  refine forL (Inv w g L' s nl hh.objs.size xs nn) (fun c s1 hI => ?_) (xs.length + 1) hI0
  clear F3 N3 hI0
  dsimp only at hI ⊢
  generalize hh.objs.size = I at hI ⊢
  clear hP hD hsp hsd fP fD hPD U2
  obtain ⟨i, h, m, P, D, kl, vs, kvs, n, nk, k, prs, kps, tl, ta, tb, t1, t2, b1, b2, rfl, hi, ⟨tk, gs, rfl, hbs⟩, F, mp, mt, mk, ms, N, htl, r1, r2, pv, pk, gv, gk, lv, lk, k0, k1⟩ := hI
  by_cases hix : i < xs.length
  · have hv : xs[i]? = some xs[i] := List.getElem?_eq_getElem hix
    obtain ⟨x, tx, hxe⟩ := hx _ (List.getElem_mem hix)
    rw [hxe] at hv
    refine it_next (x := .int x tx) (N _ (.head _)).1 (N _ (.tail _ (.head _))).1 hv fun h' hit' hs' => ?_
    have F1 := sameFr F N (.head _) hs'
    have eI : ∀ q ∈ ((nl, W.listOf xs.toArray nn) :: (P, accO D vs n) :: (D, dictOf [sizeE w k ta tb] 1) :: (63, tabObj b1) :: (70, tabObj b2) :: (kl, W.listOf kvs.toArray nk) :: tl), q.2.cls ≠ .type "list_iterator" := sevenC htl (by simp) (by simp) (by simp) (by simp) (by simp) (by simp)
    have N1 := sameNews N (.head _) hs' hit' (rest := ((nl, W.listOf xs.toArray nn) :: (P, accO D vs n) :: (D, dictOf [sizeE w k ta tb] 1) :: (63, tabObj b1) :: (70, tabObj b2) :: (kl, W.listOf kvs.toArray nk) :: tl)) (fun q hq => ⟨.tail _ hq, neNews N (.tail _ hq) (.head _) (eI q hq)⟩)
    clear F N eI
    dsimp only
    refine wpAny_of_eq (rfl : letOwnedTupleGo _ _ _ = pure ()) ?_
    have F : Fr g L' h' _ := frL [(Str.ofString "path", .ref P), (Str.ofString "text", .str (textOf prs) t1), (Str.ofString "kept", .ref kl), (Str.ofString "size", .int k t2)] F1 (by
      simp only [List.forall_mem_cons]
      exact ⟨mp, mt, mk, ms, fun _ h => nomatch h⟩)
    dsimp only [iteL] at F
    clear F1 mp mt mk ms
    refine wpAny_assign_Name (stN F N1 fun h2 F2 N2 => ?_)
    clear F N1
    refine execs_split (Mid := Ready w g L' s nl I xs nn (i + 1) i (x.fmod 6) (x.fdiv 6)) 1 ?_ (fun s2 hM => ?_)
    · dsimp only [List.take]
      k_steps
      (rename Fr _ _ _ _ => F); (rename News _ _ _ _ => N)
      have hlv : prs.length ≤ 100 := by omega
      have hgl := textOf_good gv
      refine wide (A := AA 3) rfl (Nat.le_of_ble_eq_true rfl) (Nat.le_of_ble_eq_true rfl) rfl rfl (law_pairs_s gv hlv (by omega) XS TS (frStat F st') fun h3 tk3 pl pvs U3 fl hl3 hp3 ff => ?_)
      obtain ⟨tl3, pin3, ht3⟩ := hp3.led
      have F3 := frUp F U3
      have N3 := newsMore (add := (pl, W.listOf pvs.toArray 0) :: tl3) F N U3 (fun q hq => by
        rcases List.mem_cons.mp hq with rfl | hq
        · exact ⟨hl3, fl⟩
        · exact ⟨(ht3 q hq).1, ff _ (ht3 q hq).2.1⟩) sub8
      have htl3 : ∀ q ∈ tl3 ++ tl, q.2.cls = .type "tuple" := fun q hq => (List.mem_append.mp hq).elim (fun h => (ht3 q h).2.2) (htl q)
      have pv3 := pv.mono (tl' := tl3 ++ tl) (fun q hq => List.mem_append_right _ hq)
      have pk3 := pk.mono (tl' := tl3 ++ tl) (fun q hq => List.mem_append_right _ hq)
      have pp3 := pin3.mono (tl' := tl3 ++ tl) (fun q hq => List.mem_append_left _ hq)
      clear F N U3 ff hl3 fl hp3 pin3 ht3 htl pv pk
      generalize tl3 ++ tl = tl4 at N3 htl3 pv3 pk3 pp3
      k_steps
      (rename Fr _ _ _ _ => F); (rename News _ _ _ _ => N)
      exact ⟨_, _, P, D, kl, pl, _, _, vs, kvs, pvs, [], [], n, nk, 0, 0, 0, k, prs, kps, [], tl4, ta, tb, t2, b1, b2, _, _, ⟨⟨_, _, rfl, hbs⟩, F, rfl, rfl, rfl, rfl, rfl, rfl, newsSub N (subC (by k_mem) (subC (by k_mem) (subC (by k_mem) (subC (by k_mem) (subC (by k_mem) (subC (by k_mem) (subC (by k_mem) (subC (by k_mem) (subC (by k_mem) (subC (by k_mem) fun q hq => (by repeat (first | exact hq | refine List.Mem.tail _ ?_)))))))))))), htl3, r1, r2, pv3, pk3, pp3, .nil, .nil, gv, gk, lv, lk, Nat.zero_le _, (fun _ h => nomatch h), k0, k1⟩, rfl, rfl⟩
    · dsimp only [List.drop]
      clear F2 N2 htl pv pk gv gk lv lk k0 k1 r1 r2 hit' hs' hbs
      obtain ⟨h, m, P, D, kl, pl, al, dl, vs, kvs, pvs, avs, dvs, n, nk, np, na, nd, k, prs, kps, aps, tl, ta, tb, t2, b1, b2, tki, tpa, M, mk2, mp2⟩ := hM
      refine execs_split (Mid := Mid w g L' s nl I xs nn (i + 1) (i + 1)) 1 ?_ (fun s3 hM3 => ?_)
      · dsimp only [List.take]
        have hf := fmod_in x (show (0 : Int) < 6 by decide)
        have hb22 : i ≤ 22 := by omega
        generalize x.fmod 6 = kd at hf mk2
        have hkd := six hf.1 hf.2
        rcases hkd with rfl | rfl | rfl | hkd
        · k_dflt (refine' deed_pop pf ps XS TS ?ho X' T' st' hb22 M mk2 mp2; (case ho => k_is))
        · k_dflt (refine' deed_from3 XS TS ?ho X' T' st' hb22 M mk2 mp2; (case ho => k_is))
        · k_dflt (refine' deed_from4 XS TS ?ho X' T' st' hb22 M mk2 mp2; (case ho => k_is))
        · k_dflt (refine' deed_push pf ps XS TS ?ho X' T' st' hb22 M hkd mk2 mp2; (case ho => k_is))
      · dsimp only [List.drop]
        obtain ⟨h, m, P, D, kl, pl, al, dl, vs, kvs, pvs, avs, dvs, n, nk, np, na, nd, k, prs, kps, aps, tl, ta, tb, t2, b1, b2, M⟩ := hM3
        refine wpAny_mono (Q := fun f s' => f = Flow.next ∧ Inv w g L' s nl I xs nn (xs.length + 1 - (i + 1)) s') (E := fun _ _ => False) ?_ (fun f s' hf => ?_) (fun _ _ h => h.elim)
        · k_dflt (refine' asking (tki := tki) (tpa := tpa) (part := 0) pf ps XS TS ?ho X' T' st' (by omega) M hix rfl; (case ho => k_is))
        obtain ⟨rfl, hf⟩ := hf
        exact ⟨_, by omega, hf⟩
  · have hie : i = xs.length := by omega
    have hvn : xs.toArray[i]? = none := by simp [hie]
    refine wpAny_pyNext_list_end rfl ⟨_, (N _ (.head _)).1, rfl, rfl⟩ (News.isList N (.tail _ (.head _))) hvn fun h5 he5 => ?_
    have F5 := frBut F N (.head _) (fun b o hb e => he5 b o hb e)
    have k5 : ∀ a o, (a, o) ∈ ((I, itO nl i) :: (nl, W.listOf xs.toArray nn) :: (P, accO D vs n) :: (D, dictOf [sizeE w k ta tb] 1) :: (63, tabObj b1) :: (70, tabObj b2) :: (kl, W.listOf kvs.toArray nk) :: tl) → o.cls ≠ .type "list_iterator" → h5.get? a = some o := fun a o hm hc => he5 _ _ (neNews N hm (.head _) hc) (N _ hm).1
    have hn5 := k5 nl (W.listOf xs.toArray nn) (by k_mem) (by simp)
    have h63 := k5 63 (tabObj b1) (by k_mem) (by simp)
    have h70 := k5 70 (tabObj b2) (by k_mem) (by simp)
    have N5 : News g L' h5 [] := fun _ h => nomatch h
    clear F N k5
    k_steps
    refine q _ ⟨fun b o hb e => ?_, ⟨_, h63, r1⟩, ⟨_, h70, r2⟩, hbs, rfl, rfl⟩
    by_cases hbn : b = nl
    · subst hbn
      rw [hl] at e; cases e; exact hn5
    · refine F5.keep b o (up' b o (fun hm => ?_) e)
      rcases List.mem_cons.mp hm with h | hm
      · exact hbn h
      · exact hb hm
end
end Mine
end
section
open PySem PySem.W PyProof.Rows PySem.Calls
set_option maxRecDepth 100000
set_option maxHeartbeats 2000000
namespace Mine
theorem fillLaw : PySem.Challenge.rw_mr0062_01 = PySem.Challenge.rw_mr0062_01 ∧ hd.heap_39 = hd.heap_39 := by
  k_fill
  w_top off
  exact ⟨rfl, rfl⟩
local macro_rules | `(tactic| k_inst) => `(tactic| (refine' instAcc ?N ?h1 ?h2; (case N => k_asm); (case h1 => k_mem); (case h2 => k_mem)))
local macro_rules | `(tactic| k_steps) => `(tactic| repeat' (first
  | (k_unfold; (try dsimp only))
  | ((with_reducible show wpAny _ _ (exec (Stmt.If _ _ _ _) _) _ _ _); refine wpAny_If ?_)
  | ((with_reducible show wpAny _ _ (eval (Expr.IfExp _ _ _ _) _) _ _ _); refine wpAny_IfExp ?_)
  | ((fail_if_success (with_reducible show wpAny _ _ (exec (Stmt.While _ _ _ _) _) _ _ _));
     (fail_if_success (with_reducible show wpAny _ _ (exec (Stmt.For _ _ _ _ _) _) _ _ _));
     (fail_if_success (with_reducible show wpAny _ _ (eval (Expr.ListComp _ _ _ _) _) _ _ _));
     (fail_if_success (with_reducible show wpAny _ _ (eval (Expr.GeneratorExp _ _ _ _) _) _ _ _));
     (fail_if_success (with_reducible show wpAny _ _ (subscriptTail _ _ (Value.ref _) _) _ _ _));
     (fail_if_success (with_reducible show wpAny _ _ (compareOp _ (Value.ref _) (Value.ref _)) _ _ _));
     (fail_if_success (with_reducible show wpAny _ _ (binaryOp _ (Value.ref _) (Value.ref _)) _ _ _));
     (fail_if_success (with_reducible show wpAny _ _ (getMethod (Value.ref _) _ _) _ _ _));
     (fail_if_success (with_reducible show wpAny _ _ (call (Value.ref _) _ _) _ _ _));
     (first | walk1 | (dsimp only; walk1) | (leave1; try dsimp only)))
  | fail "no step"))
section
variable {prog : Program} {w : World} {A : Around} {E : Value → Shared → Prop} {s : Shared} {l sl : Addr} {vs : List Value} {n : Nat}
theorem list_uptoB {value slice : Expr} {i : Int} {ti : Tok} {Q : Value → Shared → Prop} (hL : s.heap.IsList l vs.toArray) (hs : s.heap.get? sl = some (slO .none (.int i ti))) (hz : vs.length ≤ 500)
    (h : Q (.ref s.heap.objs.size) { s with heap := s.heap.push (W.listOf (vs.take (cutAt vs.length i)).toArray 0) })
    (hq : subscripted slice false (.ref l) (.ref sl) = operate [.ref sl, .ref l] (getItem (.ref l) (.ref sl)) := by with_unfolding_all rfl) : wpAny (model prog w) A (subscriptTail value slice (.ref l) (.ref sl)) Q E s := by
  refine tail_any hL.typeIs slot_list_getitem.lookup (wpAny_getItem_list_slice (lo := none) (hi := some i) (st := none) hL ⟨_, hs, rfl, rfl⟩ .none (.int i ti) .none (by simp) ?_ (by rw [List.size_toArray, sizeLine_eq]; omega)) hq
  rw [pick_upto]; exact h
end
section
variable {prog : Program} {w : World} {A : Around} {E : Value → Shared → Prop} {g h : Heap} {L l : Addr} {m : Str → Option Value} {news : List (Addr × Obj)} {vs : List Value} {n : Nat} {gs : Array GenState} {dr : Drawn} {tk : Nat} {os : OsState} {value slice : Expr} {i : Int} {ti : Tok} {Q : Value → Shared → Prop}
theorem list_uptoM (F : Fr g L h m) (N : News g L h news) (hl : h.IsList l vs.toArray) (hz : vs.length ≤ 500)
    (K : ∀ h' D, Fr g L h' m → News g L h' ((D, W.listOf (vs.take (cutAt vs.length i)).toArray 0) :: news) → Q (.ref D) ⟨h', gs, dr, tk, os⟩)
    (hq : subscripted slice false (.ref l) (.ref h.objs.size) = operate [.ref h.objs.size, .ref l] (getItem (.ref l) (.ref h.objs.size)) := by with_unfolding_all rfl) :
    wpAny (model prog w) A (subscriptTail value slice (.ref l) (.ref h.objs.size)) Q E ⟨h.push (slO .none (.int i ti)), gs, dr, tk, os⟩ := by
  refine list_uptoB (s := ⟨h.push (slO .none (.int i ti)), gs, dr, tk, os⟩) (vs := vs) (hl.at fun o e => Heap.get?_push_of_some _ e) (Heap.get?_push_size _ rfl) hz ?_ hq
  have F2 := F.push (slO .none (.int i ti))
  have N2 := N.push F (slO .none (.int i ti))
  have F3 := F2.push (W.listOf (vs.take (cutAt vs.length i)).toArray 0)
  have N3 := N2.push F2 (W.listOf (vs.take (cutAt vs.length i)).toArray 0)
  exact K _ _ F3 (nwC N3 (.head _) (newsSub N3 fun q hq => .tail _ (.tail _ hq)))
end
theorem allC {x : Int} {t : Tok} {r : List Value} (h : ∀ v ∈ r, ∃ a t, v = Value.int a t) : ∀ v ∈ Value.int x t :: r, ∃ a t, v = Value.int a t := fun v hv => by
  rcases List.mem_cons.mp hv with rfl | hv
  · exact ⟨_, _, rfl⟩
  · exact h v hv
theorem addI {prog : Program} {w : World} {A : Around} {E : Value → Shared → Prop} {s : Shared} {h₀ : Heap} {L a b : Addr} {m : Str → Option Value} {news : List (Addr × Obj)} {xs ys : List Value} {n1 n2 : Nat} {Q : Value → Shared → Prop}
    (F : Fr h₀ L s.heap m) (N : News h₀ L s.heap news) (ha : (a, W.listOf xs.toArray n1) ∈ news) (hb : (b, W.listOf ys.toArray n2) ∈ news) (hlx : xs.length = 12) (hly : ys.length ≤ 10) (hx : ∀ v ∈ xs, ∃ a t, v = Value.int a t) (hy : ∀ v ∈ ys, ∃ a t, v = Value.int a t)
    (h : ∀ (D : Addr) (h' : Heap) (zs : List Value), zs.length ≤ 22 → (∀ v ∈ zs, ∃ a t, v = Value.int a t) → Fr h₀ L h' m → News h₀ L h' ((D, W.listOf zs.toArray 0) :: news) → Q (.ref D) { s with heap := h' }) : wpAny (model prog w) A (binaryOp .Add (.ref a) (.ref b)) Q E s :=
  addL F N ha hb (by rw [sizeLine_eq]; omega) fun D h' F' N' _ => h D h' (xs ++ ys) (by rw [List.length_append]; omega) (fun v hv => (List.mem_append.mp hv).elim (hx v) (hy v)) F' N'
theorem ints_take : ∀ {vs : List Value} {ns : List Int} (n : Nat), IntsAre vs ns → IntsAre (vs.take n) (ns.take n)
  | _, _, 0, _ => by simp only [List.take_zero]; exact .nil
  | _, _, _ + 1, .nil => .nil
  | _, _, n + 1, .cons i t r => .cons i t (ints_take n r)
theorem ints_all : ∀ {vs : List Value} {ns : List Int}, IntsAre vs ns → ∀ v ∈ vs, ∃ a t, v = .int a t
  | _, _, .nil => fun _ h => nomatch h
  | _, _, .cons i t r => fun v hv => by
    rcases List.mem_cons.mp hv with rfl | hv
    · exact ⟨_, _, rfl⟩
    · exact ints_all r v hv
section
variable {prog : Program} {w : World} {s : Shared} {hS : Heap} {p : Program} {loose : List Str} {mean : ExcName → Option Value} {mg mb : Str → Option Value} {Q : Value → Shared → Prop} {E : Value → Shared → Prop}
  (pf : ((prog.main.file : Str) == Str.ofString "/claim/cut.py") = true) (ps : (prog.main.scope.names.lookup ("super" : Str)).isSome = false)
  (XS : (hd.heap_39 w.params).In hS) (TS : Top p loose mean mg mb hS) (S : hS.StaysIn s.heap)
include pf ps XS TS S
theorem law_s {l : Addr} {vs : List Value} {ns : List Int} (hl : s.heap.IsList l vs.toArray) (hi : IntsAre vs ns) (hlen : vs.length ≤ 63)
    (hT : Tab s.heap 63) (hsT : hS.get? 63 = none) (hU : Tab s.heap 70) (hsU : hS.get? 70 = none) (hb : AllBare s.gens)
    (q : ∀ s', After2 s s' → Q (.bool true) s') : wpAny (model prog w) (AA 1) (call (.ref 218) [.ref l]) Q E s := by
  obtain ⟨tbl, hT, tr⟩ := hT
  obtain ⟨tbu, hU, ur⟩ := hU
  have N0 : ∀ q ∈ [(63, tabObj tbl), (70, tabObj tbu)], s.heap.get? q.1 = some q.2 ∧ hS.get? q.1 = none := fun q hq => by
    rcases List.mem_cons.mp hq with rfl | hq
    · exact ⟨hT, hsT⟩
    · rcases List.mem_cons.mp hq with rfl | hq
      · exact ⟨hU, hsU⟩
      · cases hq
  refine wpAny_call ?_
  k_dflt (refine' enter (news := [(63, tabObj tbl), (70, tabObj tbu)]) (binds := [(Str.ofString "script", Value.ref l)]) XS TS S ?k1 ?k2 ?k3 ?k4 ?k5 ?k6 ?_ ?c1 ?c2 ?c3 ?c4; (case k1 => exact N0); (case k2 => k_is); (case k3 => k_is); (case k4 => decide); (case k5 => first | exact BindsTo.of_eq rfl | exact binds_K (Frag.In.keeps XS S) rfl (by k_is) rfl rfl rfl); (case k6 => exact locs rfl); (case c1 => decide); (case c2 => exact rfl); (case c3 => exact rfl); (case c4 => exact rfl); k_whole)
  intro g L' h₁ F' N' X' T' up' st' kk'
  try dsimp only
  try k_fold
  have hl1 : h₁.IsList l vs.toArray := hl.at fun o e => kk' _ o e
  k_steps
  (rename Fr _ _ _ _ => F); (rename News _ _ _ _ => N)
  refine list_uptoM (vs := vs) F N hl1 (by omega) fun h5 D5 F5 N5 => ?_
  have hcut : (vs.take (cutAt vs.length 10)).length ≤ 10 := by
    rw [List.length_take]
    exact Nat.le_trans (Nat.min_le_left _ _) (Nat.min_le_left 10 _)
  have hi5 := ints_take (cutAt vs.length 10) hi
  generalize vs.take (cutAt vs.length 10) = us at *
  generalize ns.take (cutAt vs.length 10) = ms at *
  clear F N
  k_steps
  (rename Fr _ _ _ _ => F); (rename News _ _ _ _ => N)
  refine addI (ys := us) F N (.head _) (by k_mem) rfl hcut (allC (allC (allC (allC (allC (allC (allC (allC (allC (allC (allC (allC (fun _ h => nomatch h))))))))))))) (ints_all hi5) fun D6 h6 xs hxl hx F6 N6 => ?_
  clear F N
  k_steps
  clear F6 N6
  (rename Fr _ _ _ _ => F); (rename News _ _ _ _ => N)
  have hSp := newsNone N st'
  have hf := fmod_in (ms.sum + 3) (show (0 : Int) < 4 by decide)
  refine wide (A := AA 2) rfl (Nat.le_of_ble_eq_true rfl) (Nat.le_of_ble_eq_true rfl) rfl rfl (agree_s pf ps XS TS (frStat F st') (N _ (.head _)).1 (hSp _ (.head _)).2 hx hxl hf.1 (by omega) ⟨_, (N (63, tabObj tbl) (by k_mem)).1, tr⟩ hsT ⟨_, (N (70, tabObj tbu) (by k_mem)).1, ur⟩ hsU hb fun s' A => ?_)
  have U1 : Up [63, 70] s.heap s'.heap := fun b o hb e => A.up b o hb (F.keep b o (up' b o hb e))
  have e1 : s'.drawn = s.drawn := A.drawn
  have e2 : s'.os = s.os := A.os
  have A2 : After2 s s' := ⟨U1, A.t1, A.t2, A.bare, e1, e2⟩
  clear U1 e1 e2 A hSp N F
  exact q s' A2
end
end Mine
end
section
open PySem PySem.W PySem.W.X PyProof.Rows
set_option maxRecDepth 1000000
set_option maxHeartbeats 8000000
namespace Mine
theorem lookup_filter {Z : Frag} {k : Addr → Bool} {a : Addr} {o : Obj} : List.lookup a (Z.filter fun q => k q.1) = some o → Z.lookup a = some o := by
  induction Z with
  | nil => intro e; cases e
  | cons q r ih =>
    obtain ⟨b, x⟩ := q
    intro e
    rw [List.lookup_cons]
    rw [List.filter_cons] at e
    by_cases hb : k b = true
    · rw [if_pos hb, List.lookup_cons] at e
      cases hab : (a == b) with
      | true => rw [hab] at e; exact e
      | false => rw [hab] at e; exact ih e
    · rw [if_neg hb] at e
      have e2 := ih e
      cases hab : (a == b) with
      | false => exact e2
      | true =>
        exfalso
        have hab' : a = b := by simpa using hab
        subst hab'
        have hm := mem_of_lookupK e
        have hk := (List.mem_filter.mp hm).2
        exact hb hk
theorem in_filter {K Z : Frag} {h : Heap} {k : Addr → Bool} (e : K = Z.filter fun q => k q.1) (X : Z.In h) : K.In h := fun a o e2 => X a o (lookup_filter (k := k) (by rw [← e]; exact e2))
theorem fin_post {cw : ClaimW} {cl : Str → Option Addr} {mean : ExcName → Option Value} {args : List WData} {s₁ s' : Shared} (hT : TabsAt [(67, 63), (74, 70)] s₁.heap) (A : After2 s₁ s')
    (hr : ∀ x, cw.raises args x = false) (hp : cw.post args (.bool true) args = true) : GoodWG cw cl mean args s₁ (.ok (.ret (.bool true))) s' := by
  obtain ⟨U, ⟨p1, e1, -⟩, ⟨p2, e2, -⟩, hb, hd, ho⟩ := A
  have h1 := hT (67, 63) (.head _)
  have h2 := hT (74, 70) (.tail _ (.head _))
  refine ⟨.inl ⟨_, .bool true, [], rfl, hr, .bool true, hp, fun _ => ⟨List.nodup_nil, fun _ h => nomatch h⟩⟩, ⟨fun b o e => ?_, fun b o e => ?_⟩, ho, hb⟩
  · by_cases b1 : b = 63
    · subst b1
      rw [h1.2] at e; cases e
      exact .inr (.inl ⟨(h1.1.tab h1.2).isCodeTable, rfl, #[], p1, rfl, by rw [Array.empty_append]; exact e1⟩)
    · by_cases b2 : b = 70
      · subst b2
        rw [h2.2] at e; cases e
        exact .inr (.inl ⟨(h2.1.tab h2.2).isCodeTable, rfl, #[], p2, rfl, by rw [Array.empty_append]; exact e2⟩)
      · exact .inl (U b o (fun hm => by rcases List.mem_cons.mp hm with h | hm; exact b1 h; exact b2 (List.mem_singleton.mp hm)) e)
  · by_cases b1 : b = 63
    · subst b1; exact ⟨_, e1⟩
    · by_cases b2 : b = 70
      · subst b2; exact ⟨_, e2⟩
      · exact ⟨o, U b o (fun hm => by rcases List.mem_cons.mp hm with h | hm; exact b1 h; exact b2 (List.mem_singleton.mp hm)) e⟩
end Mine
theorem PySem.Challenge.cw_mr0062_01_holds : PySem.Challenge.rw_mr0062_01.Holds := by
  w_on
  o_law
  z_head
  case hw => w_witness2
  k_fill
  intro w s₀ s₁ mg mb G y fa o pm cd doc dV kV ho hd hcd hD hmg hg args vals as L hpre hlay hrd hwl hlo
  z_open y L KX ZH ZN ZT
  refine Ground.open G ?_
  intro T B D TE TW
  wrow_args hpre hlay hrd hwl hlo
  obtain ⟨hat, hsz⟩ := script_at L
  have htk := script_toks L ZT
  rw [ZN] at hat hsz
  subst hat
  x_fa T KX hmg
  all_lens
  rename_i hL9 w19 r09 hi9 hb9
  have XS0 : (Mine.hd.heap_39 w.params).In s₁.heap := Mine.in_filter (k := fun a => ((Mine.hd.heap_39 w.params).map (·.1)).contains a) (by kernel_rfl) KX
  have hT : TabsAt [(67, 63), (74, 70)] s₁.heap := by
    intro q hq
    rcases List.mem_cons.mp hq with rfl | hq
    · exact ⟨Mine.codeHd XS0 (by kernel_rfl) (by decide), KX _ _ (by kernel_rfl)⟩
    · rw [List.mem_singleton.mp hq]
      exact ⟨Mine.codeHd XS0 (by kernel_rfl) (by decide), KX _ _ (by kernel_rfl)⟩
  have XS : (Mine.hd.heap_39 w.params).In (ghostOf s₁.heap [(67, 63), (74, 70)]) := ghost_K hT XS0 (by kernel_rfl)
  have TS := ghost_top hT T
  have S : (ghostOf s₁.heap [(67, 63), (74, 70)]).StaysIn s₁.heap := fun b o e => of_hideAll _ e
  clear KX ZH y
  refine Mine.wide (A := Mine.AA 1) rfl (Nat.le_of_ble_eq_true rfl) (Nat.le_of_ble_eq_true rfl) rfl rfl (Mine.law_s (by kernel_rfl) (by kernel_rfl) XS TS S hL9 hi9 (by omega) ⟨#[], (hT _ (.head _)).2, by trivial⟩ (hideAll_none _ (by decide)) ⟨#[], (hT _ (.tail _ (.head _))).2, by trivial⟩ (hideAll_none _ (by decide)) (.of_eq hg) fun s' A => ?_)
  exact Mine.fin_post hT A (fun _ => rfl) (by first | kernel_rfl | exact postW_of (by kernel_rfl) (by kernel_rfl) rfl | decide | simp)
end
